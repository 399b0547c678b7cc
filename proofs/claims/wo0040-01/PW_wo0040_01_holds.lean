import PyProof.Rows.All
import Wide.All
import OpenK.AllK
import Wide.FinOn
import Lean
import PySem.Challenge.RW_wo0040_01
open PySem PySem.W PyProof.Rows
set_option Elab.async false
set_option maxRecDepth 100000
namespace Mine
section
set_option maxHeartbeats 0
local macro_rules | `(tactic| refine $_:term) => `(tactic| assumption)
/-- only to write out what km_head and o_head write out: the part of the state that stands when the top has run (heap_1), the text as the law sees it (view_1) -/
theorem frag (stub : PySem.Challenge.rw_wo0040_01.row.Holds) : PySem.Challenge.rw_wo0040_01.row.Holds := by
  km_head
end
section
set_option maxHeartbeats 0
theorem said_row9 : OpenRow.wellSaid PySem.Challenge.rw_wo0040_01.row = true := by
  unfold OpenRow.wellSaid OpenRow.partSaid looksOpen
  repeat' with_reducible refine look_both ?_ ?_
  all_goals decide +kernel
theorem said9 : OpenLaw.wellSaid PySem.Challenge.rw_wo0040_01 = true := by
  unfold OpenLaw.wellSaid
  repeat' with_reducible refine look_both ?_ ?_
  all_goals first | with_reducible exact said_row9 | decide +kernel
theorem hl9 : LeftO (OpenRow.toRowW PySem.Challenge.rw_wo0040_01.row).prog Mine.frag.view_1 ["_Accumulator", "bisect_right"] (fun s => xlAt Mine.frag.view_1 [] s && recOk (RowW.records (OpenRow.toRowW PySem.Challenge.rw_wo0040_01.row)) s) (Hook.obs (kmHook Mine.frag.heap_1 [2, 3, 15, 17, 18, 20, 21, 22, 25, 30, 31, 32, 34, 35, 37, 38, 39, 41, 42, 44, 45, 46, 47, 49, 50, 52, 53, 54, 55, 57, 58, 60, 61, 62, 64, 65, 67, 68, 69, 71, 72, 74, 75, 76, 77, 79, 80, 82, 83, 84, 86, 87, 89, 90, 91, 92, 94, 95, 97, 98, 99, 100, 101, 102, 103, 106, 108, 109, 111, 112, 113, 115, 116, 118, 119, 120, 122, 123, 125, 126, 127, 129, 130, 132, 133, 134, 136, 137, 139, 140, 141, 143, 144, 146, 147, 148, 149, 150, 152, 153, 155, 156, 157, 160, 161, 162, 165, 166, 167, 170, 171, 172, 175, 176, 177, 179, 180, 182, 183, 184, 187, 188] (fun _ => by kernel_rfl) [128, 121, 163, 63])) (Hook.val (kmHook Mine.frag.heap_1 [2, 3, 15, 17, 18, 20, 21, 22, 25, 30, 31, 32, 34, 35, 37, 38, 39, 41, 42, 44, 45, 46, 47, 49, 50, 52, 53, 54, 55, 57, 58, 60, 61, 62, 64, 65, 67, 68, 69, 71, 72, 74, 75, 76, 77, 79, 80, 82, 83, 84, 86, 87, 89, 90, 91, 92, 94, 95, 97, 98, 99, 100, 101, 102, 103, 106, 108, 109, 111, 112, 113, 115, 116, 118, 119, 120, 122, 123, 125, 126, 127, 129, 130, 132, 133, 134, 136, 137, 139, 140, 141, 143, 144, 146, 147, 148, 149, 150, 152, 153, 155, 156, 157, 160, 161, 162, 165, 166, 167, 170, 171, 172, 175, 176, 177, 179, 180, 182, 183, 184, 187, 188] (fun _ => by kernel_rfl) [128, 121, 163, 63])) 2124 := by
  intro w
  kernel_rfl
end
end Mine

section
local macro_rules | `(tactic| walk_at $s:str) => `(tactic| k_extra $s)
local macro_rules | `(tactic| omega) => `(tactic| first | lia | omega (config := {}))
local macro_rules | `(tactic| k_room) => `(tactic| ktr_room)
local macro_rules | `(tactic| k_all) => `(tactic| walk_at "all here")

section
open PySem PySem.W PyProof.Rows
namespace Mine
/-- hides a goal behind a Prop variable, so that no motive states it -/
theorem hide9 {C : Prop} (h : ∀ P : Prop, (C → P) → P) : C := h C id
theorem sub_cons {α : Type} {a : α} {r R : List α} (ha : a ∈ R) (h : ∀ p ∈ r, p ∈ R) : ∀ p ∈ a :: r, p ∈ R := List.forall_mem_cons.mpr ⟨ha, h⟩
theorem sub_app {α : Type} {a r R : List α} (ha : ∀ p ∈ a, p ∈ R) (h : ∀ p ∈ r, p ∈ R) : ∀ p ∈ a ++ r, p ∈ R := fun p hp => (List.mem_append.mp hp).elim (ha p) (h p)
/-- the name of what stands behind a statement -/
noncomputable def Go (Q : Flow → Shared → Prop) : Flow → Shared → Prop := Q
structure Nx (P : Shared → Prop) (R Q : Flow → Shared → Prop) : Prop where
  n : ∀ s, P s → Q .next s
  o : ∀ f s, R f s → f ≠ .next → Q f s
section
variable {M : Model} {A : Around} {E : Value → Shared → Prop} {s : Shared} {env : Env} {st : Stmt} {rest : List Stmt} {P : Shared → Prop} {Q R : Flow → Shared → Prop}
theorem execs_nx (h : ∀ Q', Nx (fun s' => wpAny M A (execs rest env) Q E s') Q Q' → wpAny M A (exec st env) (Go Q') E s) : wpAny M A (execs (st :: rest) env) Q E s :=
  wpAny_execs_cons (h _ ⟨fun _ h => h, fun f s h n => by
    cases f with
    | next => exact absurd rfl n
    | ret v => exact h
    | brk => exact h
    | cont => exact h⟩)
theorem go_next (h : Nx P R Q) (p : P s) : Go Q .next s := h.n _ p
theorem go_ret {v : Value} (h : Nx P R Q) (p : R (.ret v) s) : Go Q (.ret v) s := h.o _ _ p (fun e => by cases e)
theorem go_brk (h : Nx P R Q) (p : R .brk s) : Go Q .brk s := h.o _ _ p (fun e => by cases e)
theorem go_cont (h : Nx P R Q) (p : R .cont s) : Go Q .cont s := h.o _ _ p (fun e => by cases e)
end
end Mine
end

section
open PySem PySem.W PyProof.Rows
namespace Mine
section
variable {n : List (Addr × Obj)} {v : Value} {vs : List Value} {d e : Dat} {ds : List Dat}
theorem inv_tup (h : DatIn n v (.tuple ds)) : ∃ T ws k, v = .ref T ∧ (T, ({ cls := .type "tuple", data := .seq ws.toArray k } : Obj)) ∈ n ∧ DatAll n ws ds := by
  cases h with | tuple a b => exact ⟨_, _, _, rfl, a, b⟩
theorem inv_cons (h : DatAll n vs (d :: ds)) : ∃ v r, vs = v :: r ∧ DatIn n v d ∧ DatAll n r ds := by
  cases h with | cons a b => exact ⟨_, _, rfl, a, b⟩
theorem inv_nil (h : DatAll n vs []) : vs = [] := by cases h; rfl
theorem inv_str {x : Str} (h : DatIn n v (.str x)) : ∃ t, v = .str x t := by cases h; exact ⟨_, rfl⟩
theorem inv_int {x : Int} (h : DatIn n v (.int x)) : ∃ t, v = .int x t := by cases h; exact ⟨_, rfl⟩
theorem inv_pair (h : DatIn n v (.tuple [d, e])) : ∃ q k x y, v = .ref q ∧ (q, ({ cls := .type "tuple", data := .seq #[x, y] k } : Obj)) ∈ n ∧ DatIn n x d ∧ DatIn n y e := by
  refine hide9 fun C9 k9 => ?_
  obtain ⟨T, ws, k, e1, hm, hw⟩ := inv_tup h
  obtain ⟨x, r, e2, hx, hr⟩ := inv_cons hw
  obtain ⟨y, r', e3, hy, hr'⟩ := inv_cons hr
  refine k9 ?_
  clear k9
  rw [e2, e3, inv_nil hr'] at hm
  exact ⟨T, k, x, y, e1, hm, hx, hy⟩
theorem inv_strs {a b : Str} (h : DatIn n v (.tuple [.str a, .str b])) : ∃ q k t u, v = .ref q ∧ (q, ({ cls := .type "tuple", data := .seq #[.str a t, .str b u] k } : Obj)) ∈ n := by
  refine hide9 fun C9 k9 => ?_
  obtain ⟨q, k, x, y, e1, hm, hx, hy⟩ := inv_pair h
  refine k9 ?_
  clear k9
  obtain ⟨t, ex⟩ := inv_str hx
  obtain ⟨u, ey⟩ := inv_str hy
  rw [ex, ey] at hm
  exact ⟨q, k, t, u, e1, hm⟩
theorem inv_ints {a b : Int} (h : DatIn n v (.tuple [.int a, .int b])) : ∃ q k t u, v = .ref q ∧ (q, ({ cls := .type "tuple", data := .seq #[.int a t, .int b u] k } : Obj)) ∈ n := by
  refine hide9 fun C9 k9 => ?_
  obtain ⟨q, k, x, y, e1, hm, hx, hy⟩ := inv_pair h
  refine k9 ?_
  clear k9
  obtain ⟨t, ex⟩ := inv_int hx
  obtain ⟨u, ey⟩ := inv_int hy
  rw [ex, ey] at hm
  exact ⟨q, k, t, u, e1, hm⟩
end
theorem ints_cons {vs : List Value} {a : Int} {ns : List Int} (h : IntsAre vs (a :: ns)) : ∃ t r, vs = .int a t :: r ∧ IntsAre r ns := by
  cases h with | cons _ t h => exact ⟨_, _, rfl, h⟩
theorem ints_nil {vs : List Value} (h : IntsAre vs []) : vs = [] := by cases h; rfl
theorem six_list : ∀ {ns : List Int}, ns.length = 6 → ∃ a b c d e f, ns = [a, b, c, d, e, f] := by
  intro ns h
  obtain ⟨a, r1, e1⟩ := List.exists_cons_of_length_eq_add_one h
  rw [e1] at h
  obtain ⟨b, r2, e2⟩ := List.exists_cons_of_length_eq_add_one (Nat.succ.inj h)
  rw [e2] at h
  obtain ⟨c, r3, e3⟩ := List.exists_cons_of_length_eq_add_one (Nat.succ.inj (Nat.succ.inj h))
  rw [e3] at h
  obtain ⟨d, r4, e4⟩ := List.exists_cons_of_length_eq_add_one (Nat.succ.inj (Nat.succ.inj (Nat.succ.inj h)))
  rw [e4] at h
  obtain ⟨e, r5, e5⟩ := List.exists_cons_of_length_eq_add_one (Nat.succ.inj (Nat.succ.inj (Nat.succ.inj (Nat.succ.inj h))))
  rw [e5] at h
  obtain ⟨f, r6, e6⟩ := List.exists_cons_of_length_eq_add_one (Nat.succ.inj (Nat.succ.inj (Nat.succ.inj (Nat.succ.inj (Nat.succ.inj h)))))
  rw [e6] at h
  have e7 : r6 = [] := List.length_eq_zero_iff.mp (Nat.succ.inj (Nat.succ.inj (Nat.succ.inj (Nat.succ.inj (Nat.succ.inj (Nat.succ.inj h))))))
  exact ⟨a, b, c, d, e, f, by rw [e1, e2, e3, e4, e5, e6, e7]⟩
/-- the smallest place behind x that leaves the rest y by d -/
theorem ring_aux (d x y : Nat) (hy : y < d) : ∃ q, x ≤ q ∧ q < x + d ∧ q % d = y := by
  have hd : 0 < d := Nat.lt_of_le_of_lt (Nat.zero_le y) hy
  have a2 := Nat.div_add_mod x d
  by_cases h : x % d ≤ y
  · refine ⟨d * (x / d) + y, ?_, ?_, by rw [Nat.mul_add_mod, Nat.mod_eq_of_lt hy]⟩
    · exact Nat.le_trans (Nat.le_of_eq a2.symm) (Nat.add_le_add_left h _)
    · exact Nat.lt_of_lt_of_le (Nat.add_lt_add_left hy _) (Nat.add_le_add_right (Nat.mul_div_le x d) d)
  · refine ⟨d * (x / d + 1) + y, ?_, ?_, by rw [Nat.mul_add_mod, Nat.mod_eq_of_lt hy]⟩
    · exact Nat.le_trans (Nat.le_of_lt (Nat.lt_mul_div_succ x hd)) (Nat.le_add_right _ _)
    · have h' : y < x % d := Nat.lt_of_not_le h
      rw [Nat.mul_succ, Nat.add_right_comm]
      exact Nat.add_lt_add_right (Nat.lt_of_lt_of_le (Nat.add_lt_add_left h' _) (Nat.le_of_eq a2)) d
theorem abs_mul {a b : Int} {m k : Nat} (ha : a.natAbs ≤ m) (hb : b.natAbs ≤ k) : (a * b).natAbs ≤ m * k := by
  rw [Int.natAbs_mul]; exact Nat.mul_le_mul ha hb
end Mine
end

section
open PySem PySem.W PyProof.Rows
set_option maxRecDepth 100000
set_option maxHeartbeats 0
namespace Mine
noncomputable abbrev PG := PySem.Challenge.pw_wo0040_01
/-- what a call of a function of the text, made from a function's frame, finds there -/
structure At (w : World) (loose : List Str) (mean : ExcName → Option Value) (mg mb : Str → Option Value) (dp un : Nat) (A₀ : Around) (base h₀ : Heap) (outer : List Env) (L : Addr) (m : Str → Option Value) (news : List (Addr × Obj)) (s : Shared) : Prop where
  B : Below A₀ base outer h₀
  F : Fr h₀ L s.heap m
  X : (Mine.frag.heap_1 w.params).In h₀
  N : News h₀ L s.heap news
  T : Top topProg loose mean mg mb h₀
  room : dp + 60 < recursionLimit
  units : un + 500 < cLine
noncomputable abbrev tupO (vs : List Value) : Obj := { cls := .type "tuple", data := .seq vs.toArray }
noncomputable abbrev listO (vs : List Value) (n : Nat) : Obj := { cls := .type "list", data := .seq vs.toArray n }
noncomputable abbrev lstO (vs : Array Value) (n : Nat) : Obj := { cls := .type "list", data := .seq vs n }
noncomputable abbrev topA (dp un : Nat) (gd : Option (List Code)) (cn : Str) (nms : List (Str × NameKind)) (mr : List (Str × Const)) (L a : Addr) (ccd : Value) (cl : List (Str × Addr)) (outer : List Env) : Around := ktrTop dp un gd cn { kind := .function, names := nms, isGenerator := false, isCoroutine := false, more := mr } L a ccd cl outer
end Mine
end

section
open PySem PySem.W PyProof.Rows
set_option maxRecDepth 100000
set_option maxHeartbeats 0
namespace Mine
theorem f_ga (P : Params) : findIn (Mine.frag.heap_1 P) (.ref 101) "__getattribute__" = some (some (.builtin "list.__getattribute__")) := by kernel_rfl
theorem f_gat (P : Params) : findIn (Mine.frag.heap_1 P) (.ref 101) "__getattr__" = some none := by kernel_rfl
theorem f_append (P : Params) : findIn (Mine.frag.heap_1 P) (.ref 101) "append" = some (some (.builtin "list.append")) := by kernel_rfl
theorem f_push (P : Params) : findIn (Mine.frag.heap_1 P) (.ref 101) "push" = some (some (.ref 45)) := by kernel_rfl
theorem f_popfrom (P : Params) : findIn (Mine.frag.heap_1 P) (.ref 101) "pop_from" = some (some (.ref 53)) := by kernel_rfl
theorem f_pop (P : Params) : findIn (Mine.frag.heap_1 P) (.ref 101) "pop" = some (some (.ref 61)) := by kernel_rfl
theorem f_pc (P : Params) : findIn (Mine.frag.heap_1 P) (.ref 101) "part_count" = some (some (.ref 98)) := by kernel_rfl
theorem f_len (P : Params) : findIn (Mine.frag.heap_1 P) (.ref 101) "__len__" = some (some (.ref 68)) := by kernel_rfl
theorem f_gi (P : Params) : findIn (Mine.frag.heap_1 P) (.ref 101) "__getitem__" = some (some (.builtin "list.__getitem__")) := by kernel_rfl
theorem f_si (P : Params) : findIn (Mine.frag.heap_1 P) (.ref 101) "__setitem__" = some (some (.builtin "list.__setitem__")) := by kernel_rfl
theorem f_it (P : Params) : findIn (Mine.frag.heap_1 P) (.ref 101) "__iter__" = some (some (.builtin "list.__iter__")) := by kernel_rfl
theorem f_sa (P : Params) : findIn (Mine.frag.heap_1 P) (.ref 101) "__setattr__" = some (some (.builtin "object.__setattr__")) := by kernel_rfl
theorem f_new (P : Params) : findIn (Mine.frag.heap_1 P) (.ref 101) "__new__" = some (some (.builtin "list.__new__")) := by kernel_rfl
theorem f_init (P : Params) : findIn (Mine.frag.heap_1 P) (.ref 101) "__init__" = some (some (.ref 38)) := by kernel_rfl
theorem t_45 (P : Params) : typeIn (Mine.frag.heap_1 P) (.ref 45) = some (.type "function") := by kernel_rfl
theorem t_append (P : Params) : typeIn (Mine.frag.heap_1 P) (.builtin "list.append") = some (.type "method_descriptor") := by kernel_rfl
theorem canon_lga : (Manifest.canonical "list.__getattribute__" != "object.__getattribute__") = false := by decide +kernel
end Mine
end

section
open PySem PySem.W PySem.Calls PyProof.Rows
set_option maxRecDepth 100000
set_option maxHeartbeats 400000
namespace Mine
noncomputable abbrev accO (dx : Addr) (items : List Value) (n : Nat) : Obj := ⟨.ref 101, some dx, .seq items.toArray n, #[]⟩
section
variable {prog : Program} {w : World} {A : Around} {E : Value → Shared → Prop} {s : Shared} {h₀ : Heap} {L : Addr} {m : Str → Option Value} {news : List (Addr × Obj)}
  {p dx : Addr} {items : List Value} {n : Nat} {es : List DictEntry} {e : Nat}
theorem acc_inst {h : Heap} (N : News h₀ L h news) (h1 : (p, accO dx items n) ∈ news) (h2 : (dx, dictOf es e) ∈ news) : InstAt h p (accO dx items n) 101 (some (dictOf es e)) :=
  ⟨(N _ h1).1, rfl, rfl, (N _ h2).1⟩
theorem acc_isL {K : Params → Frag} {M : Model} {h : Heap} {o : Obj} {od : Option Obj} (X : (Mine.frag.heap_1 w.params).In h) (I : InstAt h p o 101 od) : Looks M h (isInstance (.ref p) (.type "list")) true :=
  I.type.andThen (looks_mroIn X (show mroIn (Mine.frag.heap_1 w.params) 101 (.type "list") = some true by kernel_rfl))
/-- a method or a function of the class, or of list, taken off an instance -/
theorem acc_method {v : Value} {T : String} {name : Str} {pl : Sem Bool} {o : Obj} {Q : Value × List Value → Shared → Prop} (X : (Mine.frag.heap_1 w.params).In s.heap) (I : InstAt s.heap p o 101 (some (dictOf es e)))
    (hf : findIn (Mine.frag.heap_1 w.params) (.ref 101) name = some (some v)) (ht : typeIn (Mine.frag.heap_1 w.params) v = some (.type T)) (hT : T = "function" ∨ T = "method_descriptor")
    (hs : getL name es = some none) (hd : o.dict.isSome = true) (h : Q (v, [.ref p]) s) : wpAny (model prog w) A (getMethod (.ref p) name pl) Q E s := by
  unfold getMethod specialOf
  refine wpAny_bind (wpAny_bind (I.type.here ((looks_findIn X (f_ga w.params)).here ?_)))
  dsimp only
  rw [canon_lga, if_neg Bool.false_ne_true]
  refine wpAny_bind (wpAny_bind (I.type.here ((looks_findIn X (f_gat w.params)).here ?_)))
  refine wpAny_bind (wpAny_bind (I.type.here ((looks_findIn X hf).here (wpAny_bind ((looks_typeIn X ht).here ?_)))))
  rw [if_neg (by rcases hT with rfl | rfl <;> decide +kernel)]
  refine wpAny_bind (wpAny_loadPart I.at_ ?_)
  have hdd := I.dict
  cases q : o.dict with
  | none => rw [q] at hd; cases hd
  | some dd =>
    rw [q] at hdd
    refine wpAny_bind (wpAny_bind (wpAny_loadPart hdd ?_))
    have hl : lookIn name (dictOf es e) = some none := hs
    rw [nsLook_of hl]
    refine wpAny_pure ?_
    exact wpAny_bind (wpAny_rule (wpAny_pure h))
/-- a built-in of list called on an instance -/
theorem acc_check {id nm : String} {rest : List Value} {o : Obj} {od : Option Obj} {Q : Unit → Shared → Prop} (X : (Mine.frag.heap_1 w.params).In s.heap) (I : InstAt s.heap p o 101 od)
    (hk : builtinKind id = some .slot ∨ builtinKind id = some .method) (hs : splitId id = some ("list", nm)) (ha : argsOk id ⟨.ref p :: rest, []⟩) (h : Q () s) :
    wpAny (model prog w) A (checkBuiltinCall id ⟨.ref p :: rest, []⟩) Q E s := by
  have hL : Looks (model prog w) s.heap (isInstance (.ref p) (.type "list")) true := acc_isL (K := Mine.frag.heap_1) X I
  rcases hk with hk | hk
  · exact check_slot hk hs hL ha h
  · simp only [checkBuiltinCall, hk, hs]
    refine wpAny_bind (hL.here ?_)
    simp only [Bool.not_true, Bool.false_eq_true, if_false]
    cases hsig : Manifest.signature? id with
    | none => exact wpAny_pure h
    | some sig =>
      simp only [argsOk, hsig] at ha
      have h2 : Bind.checkArgs id sig ⟨.ref p :: rest, []⟩ = pure () := ha
      show wpAny _ _ (Bind.checkArgs id sig ⟨.ref p :: rest, []⟩) Q E s
      rw [h2]; exact wpAny_pure h
theorem acc_append {o : Obj} {od : Option Obj} {xs : Array Value} {k : Nat} {x : Value} {Q : Value → Shared → Prop} (X : (Mine.frag.heap_1 w.params).In s.heap) (I : InstAt s.heap p o 101 od) (hdt : o.data = .seq xs k) (hsz : xs.size ≤ 1000)
    (h : Q .none { s with heap := s.heap.update p (Obj.mapSeq fun a => a.push x) }) : wpAny (model prog w) A (call (.builtin "list.append") [.ref p, x]) Q E s := by
  have hb := I.at_
  refine wpAny_call (codeAny_call_builtin (by decide +kernel) PySem.F.entry_list_append (acc_check X I (.inr (by decide +kernel)) (nm := "append") (by decide +kernel) (by unfold argsOk; kernel_rfl) ?_))
  have hsz' : xs.size ≤ sizeLine := Nat.le_trans hsz (by decide)
  have hz' : (xs.push x).size ≤ sizeLine + 1 := by rw [Array.size_push]; omega
  refine hide9 fun C9 k9 => ?_
  obtain ⟨hp, g, d, tk, os⟩ := s
  refine k9 ?_
  clear k9
  wp_walk using (wpAny_updateSeq hb hdt (hz := hsz') (_hz' := hz'))
  all_goals exact h
end
end Mine
end

local macro_rules | `(tactic| k_inst) => `(tactic| (refine' Mine.acc_inst ?N ?h1 ?h2; (case N => k_asm); (case h1 => k_mem); (case h2 => k_mem)))

section
open PySem PySem.W PySem.Calls PyProof.Rows
set_option maxRecDepth 100000
set_option maxHeartbeats 1000000
namespace Mine
theorem pk {α : Type} {w : World} {h : Heap} {t : Sem α} {r : α} (X : (Mine.frag.heap_1 w.params).In h) (e : peek (Mine.frag.heap_1 w.params) ⟨PG, w.params⟩ t = some r) : Looks (model PG w) h t r := Looks.of_peek X e
section
variable {w : World} {A : Around} {E : Value → Shared → Prop} {s : Shared} {h₀ h : Heap} {L : Addr} {m : Str → Option Value} {news : List (Addr × Obj)}
  {p dx : Addr} {R : Result → Shared → Prop} {g : Array GenState} {d : Drawn} {tk : Nat} {os : OsState}
theorem k_check (P : Params) (a : Value) : peek (Mine.frag.heap_1 P) ⟨PG, P⟩ (checkBuiltinCall "list.__new__" ⟨[.ref 101, a], []⟩) = some () := by kernel_rfl
theorem k_isType (P : Params) : peek (Mine.frag.heap_1 P) ⟨PG, P⟩ (isType (.ref 101)) = some true := by kernel_rfl
theorem k_sub (P : Params) : peek (Mine.frag.heap_1 P) ⟨PG, P⟩ (isSubtype (.ref 101) (.type "list")) = some true := by kernel_rfl
theorem k_sub1 (P : Params) : peek (Mine.frag.heap_1 P) ⟨PG, P⟩ (isSubtype (.ref 101) (.ref 101)) = some true := by kernel_rfl
theorem k_del (P : Params) : peek (Mine.frag.heap_1 P) ⟨PG, P⟩ (classHasDel 101) = some false := by kernel_rfl
theorem k_call (P : Params) : peek (Mine.frag.heap_1 P) ⟨PG, P⟩ (specialOf (.ref 101) "__call__") = some (some (.builtin "type.__call__")) := by kernel_rfl
theorem k_inst (P : Params) : peek (Mine.frag.heap_1 P) ⟨PG, P⟩ (isInstance (.ref 101) (.type "type")) = some true := by kernel_rfl
theorem k_made (P : Params) : peek (Mine.frag.heap_1 P) ⟨PG, P⟩ (Bind.madeBy (.ref 101)) = some (some "list.__new__") := by kernel_rfl
theorem k_mro (P : Params) : peek (Mine.frag.heap_1 P) ⟨PG, P⟩ (mroOf (.ref 101)) = some [.ref 101, .type "list", .type "object"] := by kernel_rfl
theorem k_initL (P : Params) : peek (Mine.frag.heap_1 P) ⟨PG, P⟩ (typeLookup (.ref 101) "__init__") = some (some (.ref 38)) := by kernel_rfl
theorem k_bind38 (P : Params) (x : Value) : peek (Mine.frag.heap_1 P) ⟨PG, P⟩ (bindSpecial (.ref 38) x) = some (.ref 38, [x]) := by kernel_rfl
theorem k_cls (P : Params) : (clsIn (Mine.frag.heap_1 P) 101).isSome = true := by kernel_rfl
theorem owner_ln : ("list.__new__".splitOn ".__new__").headD "" = "list" := by simp +decide [String.splitOn, String.splitOnAux]
theorem acc_new (a : Value) (X : (Mine.frag.heap_1 w.params).In h)
    (hq : R (.ok (.ret (.ref (h.objs.size + 1)))) ⟨(h.push emptyDict).push (accO h.objs.size [] 0), g, d, tk, os⟩) :
    codeAny (model PG w) A (.call (.builtin "list.__new__") ⟨[.ref 101, a], []⟩) R ⟨h, g, d, tk, os⟩ := by
  refine codeAny_of_tree ?_
  show wpAny _ A.in1 (do checkBuiltinCall "list.__new__" ⟨[.ref 101, a], []⟩; again (.builtin "list.__new__" ⟨[.ref 101, a], []⟩)) _ _ _
  refine wpAny_bind ((pk X (k_check w.params a)).here (wpAny_pure ⟨plainId_quiet (by decide +kernel) _, codeAny_builtin_stack PySem.F.entry_list_new rfl fun p st => ?_⟩))
  rw [Around.under_plainId (by decide +kernel) _]
  simp only [owner_ln]
  have L1 := pk X (k_isType w.params)
  have L2 := pk X (k_sub w.params)
  have L3 : Looks (model PG w) ((h.push emptyDict).push (accO h.objs.size [] 0)) (classHasDel 101) false := (pk X (k_del w.params)).keeps fun b o e => Heap.get?_push_of_some _ (Heap.get?_push_of_some _ e)
  refine wpAny_bind (L1.at ?_)
  simp only [Bool.not_true, Bool.false_eq_true, if_false]
  refine wpAny_bind (L2.at ?_)
  simp only [Bool.not_true, Bool.false_eq_true, if_false]
  have hz : h.objs.size + 1 = (h.push emptyDict).objs.size := (Heap.size_push ..).symm
  show wpAny _ _ ((alloc emptyDict >>= fun x => pure (Value.ref x)) >>= _) _ _ _
  refine wpAny_bind (wpAny_bind (wpAny_alloc (wpAny_pure ?_)))
  show wpAny _ _ (newObjAsIs _ _ _ >>= _) _ _ _
  refine wpAny_bind ?_
  unfold newObjAsIs
  refine wpAny_bind (wpAny_alloc ?_)
  dsimp only
  refine wpAny_bind (L3.at ?_)
  simp only [Bool.false_eq_true, if_false]
  refine wpAny_pure (wpAny_pure ?_)
  rw [hz] at hq
  exact hq
theorem acc_make (a : Value) (X : (Mine.frag.heap_1 w.params).In h)
    (hq : codeAny (model PG w) (A.under (.builtin "type.__call__" ⟨[.ref 101, a], []⟩)) (.call (.ref 38) ⟨[.ref (h.objs.size + 1), a], []⟩) (InitBack (h.objs.size + 1) R) ⟨(h.push emptyDict).push (accO h.objs.size [] 0), g, d, tk, os⟩) :
    codeAny (model PG w) A (.call (.ref 101) ⟨[a], []⟩) R ⟨h, g, d, tk, os⟩ := by
  have hC : ∃ oc od cd sl, h.get? 101 = some ⟨oc, od, .cls cd, sl⟩ := by
    obtain ⟨cd, hc⟩ := Option.isSome_iff_exists.mp (k_cls w.params)
    unfold clsIn at hc
    split at hc
    · rename_i ho
      exact ⟨_, _, _, _, X _ _ ho⟩
    · cases hc
  refine hide9 fun C9 k9 => ?_
  obtain ⟨oc, od, cd, sl, hC⟩ := hC
  refine k9 ?_
  clear k9
  have call := pk X (k_call w.params)
  have typ := pk X (k_inst w.params)
  have hm := pk X (k_mro w.params)
  have made := pk X (k_made w.params)
  refine codeAny_of_tree ?_
  show wpAny _ _ (callAny (.ref 101) _) _ _ _
  refine nd_load hC ?_
  show wpAny _ _ (callAny.viaDunder (.ref 101) _) _ _ _
  unfold callAny.viaDunder
  refine wpAny_bind (call.at ?_)
  dsimp only
  rw [tc_bind]
  refine wpAny_bind (wpAny_pure (wpAny_bind (wpAny_pure ?_)))
  refine wpAny_pure (a := Fin.again (.call (.builtin "type.__call__") ⟨[.ref 101, a], []⟩)) (And.intro rfl ?_)
  refine codeAny_call_builtin_at (Code.quiet_builtin _ (by decide +kernel)) entry_typeCall (check_slot tc_kind tc_split typ (tc_args _ _ _) ?_)
  unfold Builtin.«type.__call__»
  repeat (first | simp only [List.isEmpty_cons, Bool.false_eq_true, if_false] | with_reducible refine wpAny_call ?_ | lk)
  refine acc_new a X ?_
  have k : ∀ b o, h.get? b = some o → ((h.push emptyDict).push (accO h.objs.size [] 0)).get? b = some o := fun b o e => Heap.get?_push_of_some _ (Heap.get?_push_of_some _ e)
  have hx : ((h.push emptyDict).push (accO h.objs.size [] 0)).get? (h.objs.size + 1) = some (accO h.objs.size [] 0) := by
    have z : (h.push emptyDict).objs.size = h.objs.size + 1 := Heap.size_push ..
    rw [← z]; exact Heap.get?_push_size _ rfl
  have t1 : Looks (model PG w) ((h.push emptyDict).push (accO h.objs.size [] 0)) (typeOf (.ref (h.objs.size + 1))) (.ref 101) := (Looks.ld hx).andThen .now
  have s1 := (pk X (k_sub1 w.params)).keeps k
  have i1 := (pk X (k_initL w.params)).keeps k
  have b1 := (pk X (k_bind38 w.params (.ref (h.objs.size + 1)))).keeps k
  unfold isInstance callSpecial? specialOf
  repeat (first | with_reducible refine wpAny_call ?_ | lk)
  refine codeAny_mono hq fun r s' z => ?_
  rcases r with e | (v | _ | _ | _) <;> first | exact z | exact z.elim | skip
  obtain ⟨rfl, z⟩ := z
  exact wpAny_pure (wpAny_pure z)
end
end Mine
end

section
open PySem PySem.W PySem.Calls PyProof.Rows
set_option maxRecDepth 100000
set_option maxHeartbeats 1000000
namespace Mine
section
variable {w : World} {A : Around} {E : Value → Shared → Prop} {s : Shared} {h₀ h : Heap} {L : Addr} {m : Str → Option Value} {news : List (Addr × Obj)}
  {p dx so : Addr} {R : Result → Shared → Prop} {g : Array GenState} {d : Drawn} {tk : Nat} {os : OsState} {o : Obj} {od : Option Obj}
noncomputable abbrev boundO (T id : String) (x : Addr) : Obj := { cls := .type T, data := .fields #[.builtin id, .ref x] }
theorem own_i : ".".intercalate ("list.__init__".cutAt '.').dropLast = "list" := by decide +kernel
theorem own_l : ".".intercalate ("list.__len__".cutAt '.').dropLast = "list" := by decide +kernel
theorem own_p : ".".intercalate ("list.pop".cutAt '.').dropLast = "list" := by decide +kernel
theorem ent_wd : entryFor table "wrapper_descriptor.__get__" = some Builtin.«wrapper_descriptor.__get__» := entryFor_of_tree (by kernel_rfl)
theorem ent_md : entryFor table "method_descriptor.__get__" = some Builtin.«method_descriptor.__get__» := entryFor_of_tree (by kernel_rfl)
theorem chk_wd (id : String) (hid : id = "list.__init__" ∨ id = "list.__len__") (x C : Value) : checkBuiltinCall "wrapper_descriptor.__get__" ⟨[.builtin id, x, C], []⟩ = pure () := by rcases hid with rfl | rfl <;> kernel_rfl
theorem chk_md (x C : Value) : checkBuiltinCall "method_descriptor.__get__" ⟨[.builtin "list.pop", x, C], []⟩ = pure () := by kernel_rfl
theorem told_pop : (Manifest.toldItsClass.contains "list.pop") = false := by decide +kernel
theorem call_wd {id : String} (hid : id = "list.__init__" ∨ id = "list.__len__") (X : (Mine.frag.heap_1 w.params).In h) (I : InstAt h p o 101 od)
    (hq : R (.ok (.ret (.ref h.objs.size))) ⟨h.push (boundO "method-wrapper" id p), g, d, tk, os⟩) : codeAny (model PG w) A (.call (.builtin "wrapper_descriptor.__get__") ⟨[.builtin id, .ref p, .ref 101], []⟩) R ⟨h, g, d, tk, os⟩ := by
  have hL : Looks (model PG w) h (isInstance (.ref p) (.type "list")) true := acc_isL (K := Mine.frag.heap_1) X I
  refine codeAny_call_builtin (by decide +kernel) ent_wd (wpAny_of_eq (chk_wd _ hid _ _) ?_)
  unfold Builtin.«wrapper_descriptor.__get__»
  rcases hid with rfl | rfl
  · repeat (first | (with_reducible refine Looks.at hL ?_) | simp only [own_i] | wp_step)
    all_goals exact hq
  · repeat (first | (with_reducible refine Looks.at hL ?_) | simp only [own_l] | wp_step)
    all_goals exact hq
theorem call_md (X : (Mine.frag.heap_1 w.params).In h) (I : InstAt h p o 101 od)
    (hq : R (.ok (.ret (.ref h.objs.size))) ⟨h.push (boundO "builtin_function_or_method" "list.pop" p), g, d, tk, os⟩) : codeAny (model PG w) A (.call (.builtin "method_descriptor.__get__") ⟨[.builtin "list.pop", .ref p, .ref 101], []⟩) R ⟨h, g, d, tk, os⟩ := by
  have hL : Looks (model PG w) h (isInstance (.ref p) (.type "list")) true := acc_isL (K := Mine.frag.heap_1) X I
  refine codeAny_call_builtin (by decide +kernel) ent_md (wpAny_of_eq (chk_md _ _) ?_)
  unfold Builtin.«method_descriptor.__get__»
  have tp := told_pop
  repeat (first | (with_reducible refine Looks.at hL ?_) | simp only [own_p, told_pop, Bool.false_eq_true, if_false] | wp_step)
  all_goals exact hq
end
end Mine
end

section
open PySem PySem.W PySem.Calls PyProof.Rows
set_option maxRecDepth 100000
set_option maxHeartbeats 1000000
namespace Mine
section
variable {w : World} {A : Around} {E : Value → Shared → Prop} {s : Shared} {h₀ h : Heap} {L : Addr} {m : Str → Option Value} {news : List (Addr × Obj)}
  {p dx so : Addr} {R : Result → Shared → Prop} {g : Array GenState} {d : Drawn} {tk : Nat} {os : OsState} {o : Obj} {od : Option Obj}
theorem k_opq (P : Params) : peek (Mine.frag.heap_1 P) ⟨PG, P⟩ (opaqueClassAbove (.ref 101)) = some none := by kernel_rfl
theorem sup_ga {name : Str} {id gid T : String} {t : Tok} {Q : Fin → Shared → Prop} (hso : h.get? so = some (ks_superObj 101 p 101)) (X : (Mine.frag.heap_1 w.params).In h)
    (hf : alongIn (Mine.frag.heap_1 w.params) name [.type "list", .type "object"] = some (some (.builtin id))) (hty : typeOf (.builtin id) = pure (.type T)) (hg : typeLookup (.type T) "__get__" = pure (some (.builtin gid)))
    (hp : p ≠ 101) (hn : (name == ("__class__" : Str)) = false)
    (hq : codeAny (model PG w) A (.call (.builtin gid) ⟨[.builtin id, .ref p, .ref 101], []⟩) (wants (fun v s' => Q (.done (.ret v)) s') (fun _ _ => False)) ⟨h, g, d, tk, os⟩) :
    wpAny (model PG w) A (Builtin.«super.__getattribute__» ⟨[.ref so, .str name t], []⟩) Q E ⟨h, g, d, tk, os⟩ := by
  have hne : (Value.ref p == Value.ref 101) = false := by simp [hp]
  have hno := pk X (k_opq w.params)
  have hm := pk X (k_mro w.params)
  have hdt : (ks_superObj 101 p 101).data = .fields #[.ref 101, .ref p, .ref 101] := rfl
  have f0 : (#[.ref 101, .ref p, .ref 101] : Array Value)[0]? = some (.ref 101) := rfl
  have f1 : (#[.ref 101, .ref p, .ref 101] : Array Value)[1]? = some (.ref p) := rfl
  have f2 : (#[.ref 101, .ref p, .ref 101] : Array Value)[2]? = some (.ref 101) := rfl
  unfold Builtin.«super.__getattribute__»
  repeat (first
    | (with_reducible refine wpAny_field hso hdt f0 ?_) | (with_reducible refine wpAny_field hso hdt f1 ?_) | (with_reducible refine wpAny_field hso hdt f2 ?_)
    | (with_reducible refine ks_wpAny_notOpaque hno ?_)
    | (with_reducible refine Looks.at hm ?_; rw [show ([Value.ref 101, Value.type "list", Value.type "object"].dropWhile (· != .ref 101)).drop 1 = [.type "list", .type "object"] from by decide +kernel])
    | (refine ks_forIn_along X (fun _ _ => rfl) rfl ?_ hf)
    | (with_reducible refine wpAny_of_eq hty ?_)
    | (with_reducible refine wpAny_of_eq hg ?_)
    | (with_reducible refine ⟨_, rfl, ?_⟩)
    | (simp only [hn, hne, Bool.or_false, Bool.false_eq_true, if_false])
    | wp_step
    | dsimp only)
  refine codeAny_mono hq fun r s' z => ?_
  rcases r with e | (v | _ | _ | _) <;> first | exact z.elim | skip
  exact wpAny_bind (wpAny_pure (wpAny_pure (wpAny_pure z)))
theorem sup_getMethod {name : Str} {id gid T : String} {ob : Obj} {pl : Sem Bool} {Q : Value × List Value → Shared → Prop} (hso : h.get? so = some (ks_superObj 101 p 101)) (X : (Mine.frag.heap_1 w.params).In h)
    (hf : alongIn (Mine.frag.heap_1 w.params) name [.type "list", .type "object"] = some (some (.builtin id))) (hty : typeOf (.builtin id) = pure (.type T)) (hg : typeLookup (.type T) "__get__" = pure (some (.builtin gid)))
    (hp : p ≠ 101) (hn : (name == ("__class__" : Str)) = false)
    (hc : ∀ (A : Around) (t : Nat) (R : Result → Shared → Prop), R (.ok (.ret (.ref h.objs.size))) ⟨h.push ob, g, d, t, os⟩ → codeAny (model PG w) A (.call (.builtin gid) ⟨[.builtin id, .ref p, .ref 101], []⟩) R ⟨h, g, d, t, os⟩)
    (hq : Q (.ref h.objs.size, []) ⟨h.push ob, g, d, tk + 1, os⟩) :
    wpAny (model PG w) A (getMethod (.ref so) name pl) Q E ⟨h, g, d, tk, os⟩ := by
  have hlk := PySem.F.ks_slot_super_ga.lookup
  have hcan := PySem.F.ks_canon_super_ga
  have hT : ∀ t', (⟨h, g, d, t', os⟩ : Shared).TypeIs (.ref so) "super" := fun _ => ⟨_, hso, rfl⟩
  unfold getMethod
  refine wpAny_bind (wpAny_specialOf (hT _) hlk ?_)
  show wpAny _ _ (if (Manifest.canonical "super.__getattribute__" != "object.__getattribute__") = true then _ else _) _ _ _
  rw [if_pos hcan]
  unfold getAttr getAttrBy
  refine wpAny_bind (wpAny_bind (wpAny_mkText (wpAny_holding (wpAny_bind (wpAny_typeOf (hT _) (wpAny_bind (wpAny_of_eq hlk ?_)))))))
  show wpAny _ _ (getAttrByItsOwn (.ref so) (.str name tk) (.type "super") (.builtin "super.__getattribute__") true false) _ _ _
  unfold getAttrByItsOwn hookBefore callGetattribute boundAndCalled
  refine wpAny_bind (wpAny_of_eq (show (if onTheHeap (.type "super") then typeLookup (.type "super") "__getattr__" else pure none) = pure none from rfl) ?_)
  refine wpAny_bind (wpAny_attempt (wpAny_holding ?_))
  show wpAny _ _ (bindSpecial (.builtin "super.__getattribute__") (.ref so) >>= _) _ _ _
  refine wpAny_bind (wpAny_of_eq (PySem.F.ks_slot_super_ga.bind _) ?_)
  refine wpAny_mono (Q := fun v s' => v = .ref h.objs.size ∧ s' = ⟨h.push ob, g, d, tk + 1, os⟩) (E := fun _ _ => False)
    (wpAny_call_entry PySem.F.ks_slot_super_ga (hT _) PySem.F.ks_entry_super_ga (sup_ga hso X hf hty hg hp hn (hc _ _ _ ⟨_, rfl, rfl, rfl⟩)) (PySem.F.ks_gaArgs_super _ _)) (fun v s' hv => ?_) fun _ _ z => z.elim
  obtain ⟨rfl, rfl⟩ := hv
  exact wpAny_pure (wpAny_pure hq)
theorem al_init (P : Params) : alongIn (Mine.frag.heap_1 P) "__init__" [.type "list", .type "object"] = some (some (.builtin "list.__init__")) := by kernel_rfl
theorem al_len (P : Params) : alongIn (Mine.frag.heap_1 P) "__len__" [.type "list", .type "object"] = some (some (.builtin "list.__len__")) := by kernel_rfl
theorem al_pop (P : Params) : alongIn (Mine.frag.heap_1 P) "pop" [.type "list", .type "object"] = some (some (.builtin "list.pop")) := by kernel_rfl
theorem ty_init : typeOf (.builtin "list.__init__") = pure (.type "wrapper_descriptor") := by kernel_rfl
theorem ty_len : typeOf (.builtin "list.__len__") = pure (.type "wrapper_descriptor") := by kernel_rfl
theorem ty_pop : typeOf (.builtin "list.pop") = pure (.type "method_descriptor") := by kernel_rfl
theorem g_wd : typeLookup (.type "wrapper_descriptor") "__get__" = pure (some (.builtin "wrapper_descriptor.__get__")) := by rw [typeLookup_type, builtinLookup_eq_fast]; kernel_rfl
theorem g_md : typeLookup (.type "method_descriptor") "__get__" = pure (some (.builtin "method_descriptor.__get__")) := by rw [typeLookup_type, builtinLookup_eq_fast]; kernel_rfl
/-- super().__init__, super().__len__, super().pop off an instance: the bound built-in -/
inductive SupM : Str → String → String → Prop
  | init : SupM "__init__" "list.__init__" "method-wrapper"
  | len : SupM "__len__" "list.__len__" "method-wrapper"
  | pop : SupM "pop" "list.pop" "builtin_function_or_method"
theorem sup_K {name : Str} {id T : String} {pl : Sem Bool} {Q : Value × List Value → Shared → Prop} (Z : SupM name id T) (F : Fr h₀ L s.heap m) (X₀ : (Mine.frag.heap_1 w.params).In h₀) (N : News h₀ L s.heap news) (hso : (so, ks_superObj 101 p 101) ∈ news) (I : InstAt s.heap p o 101 od) (hp : p ≠ 101)
    (h : ∀ q h', Fr h₀ L h' m → News h₀ L h' ((q, boundO T id p) :: news) → (∀ x ∈ news, x.1 < q) → Q (.ref q, []) { s with heap := h', toks := s.toks + 1 }) : wpAny (model PG w) A (getMethod (.ref so) name pl) Q E s := by
  have X : (Mine.frag.heap_1 w.params).In s.heap := X₀.keeps F.keep
  have hs := (N _ hso).1
  have fin := h s.heap.objs.size _ (F.push (boundO T id p)) (N.push F (boundO T id p)) (fun x hx => Heap.lt_size (N x hx).1)
  refine hide9 fun C9 k9 => ?_
  obtain ⟨hh, g, d, t, os⟩ := s
  refine k9 ?_
  clear k9
  cases Z with
  | init => exact sup_getMethod (ob := boundO "method-wrapper" "list.__init__" p) hs X (al_init _) ty_init g_wd hp (by decide) (fun A t R hr => call_wd (.inl rfl) X I hr) fin
  | len => exact sup_getMethod (ob := boundO "method-wrapper" "list.__len__" p) hs X (al_len _) ty_len g_wd hp (by decide) (fun A t R hr => call_wd (.inr rfl) X I hr) fin
  | pop => exact sup_getMethod (ob := boundO "builtin_function_or_method" "list.pop" p) hs X (al_pop _) ty_pop g_md hp (by decide) (fun A t R hr => call_md X I hr) fin
end
end Mine
end

section
open PySem PySem.W PySem.Calls PyProof.Rows
set_option maxRecDepth 100000
set_option maxHeartbeats 1000000
namespace Mine
section
variable {w : World} {A : Around} {E : Value → Shared → Prop} {s : Shared} {h₀ h : Heap} {L : Addr} {m : Str → Option Value} {news : List (Addr × Obj)}
  {p dx so q : Addr} {R : Result → Shared → Prop} {g : Array GenState} {d : Drawn} {tk : Nat} {os : OsState} {o : Obj} {od : Option Obj} {xs : Array Value} {k : Nat} {pos : Pos} {c : Value} {dd : Option Addr} {sl : Array (Option Value)}
noncomputable abbrev sliceO (a b c : Value) : Obj := { cls := .type "slice", data := .fields #[a, b, c] }
theorem lk_si : typeLookup (.type "slice") "__index__" = pure none := by rw [typeLookup_type, builtinLookup_eq_fast]; kernel_rfl
theorem fits_i {i : Nat} (h : (i : Int) < 2 ^ 63) : Builtin.List.listFitsIndex (i : Int) = true := by unfold Builtin.List.listFitsIndex; simp; omega
theorem sl_from (xs : Array Value) (i : Nat) (hi : i ≤ xs.size) : (List.filterMap (fun x => xs[x]?) (sliceRange (max 0 (min (if (i : Int) < 0 then (i : Int) + (xs.size : Int) else (i : Int)) (xs.size : Int))) (if (1 : Int) > 0 then (xs.size : Int) else -1) 1)).toArray = xs.extract i xs.size := by
  have e1 : (if (i : Int) < 0 then (i : Int) + (xs.size : Int) else (i : Int)) = (i : Int) := if_neg (by omega)
  have e2 : (if (1 : Int) > 0 then (xs.size : Int) else -1) = (xs.size : Int) := if_pos (by decide)
  have e3 : max 0 (min (i : Int) (xs.size : Int)) = (i : Int) := by omega
  rw [e1, e2, e3]
  unfold sliceRange
  have e4 : (if (1 : Int) > 0 then (if (i : Int) < (xs.size : Int) then ((xs.size : Int) - (i : Int) + 1 - 1) / 1 else 0) else (if (i : Int) > (xs.size : Int) then ((i : Int) - (xs.size : Int) - 1 - 1) / (-1) else 0)).toNat = xs.size - i := by
    rw [if_pos (by decide)]
    split <;> omega
  simp only []
  rw [e4]
  apply Array.ext'
  rw [List.filterMap_map]
  simp only [Array.toList_extract]
  apply List.ext_getElem?
  intro j
  have hr : ∀ n, (List.range n).filterMap ((fun x => xs[x]?) ∘ fun (k : Nat) => ((i : Int) + 1 * (k : Int)).toNat) = (List.range n).filterMap (fun k => xs[i + k]?) := by
    intro n
    congr 1
    funext k
    show xs[((i : Int) + 1 * (k : Int)).toNat]? = _
    congr 1
    omega
  rw [hr]
  have key : ∀ n, n ≤ xs.size - i → (List.range n).filterMap (fun k => xs[i + k]?) = (xs.toList.drop i).take n := by
    intro n hn
    induction n with
    | zero => simp
    | succ n ih =>
      rw [List.range_succ, List.filterMap_append, ih (by omega)]
      have hlt : i + n < xs.size := by omega
      rw [List.take_add_one]
      simp [hlt]
  rw [key _ (Nat.le_refl _)]
theorem run_getint {Q : Value → Shared → Prop} {i : Int} {ti : Tok} {x : Value} (hp : h.get? p = some (⟨c, dd, .seq xs k, sl⟩ : Obj)) (h0 : 0 ≤ i) (hi : xs[i.toNat]? = some x) (hlt : i < 1000) (hq : Q x ⟨h, g, d, tk, os⟩) :
    wpAny (model PG w) A (Builtin.«list.__getitem__» ⟨[.ref p, .int i ti], []⟩) (fun fin s' => ∃ v, fin = .done (.ret v) ∧ Q v s') (fun e s' => E e s') ⟨h, g, d, tk, os⟩ := by
  have h1 := PySem.F.slot_int_index.lookup
  have hf : (Builtin.List.listFitsIndex i) = true := by unfold Builtin.List.listFitsIndex; simp; omega
  unfold Builtin.«list.__getitem__»
  repeat (first | wp_step | dsimp only)
  cases i with
  | negSucc n => exact absurd h0 (by omega)
  | ofNat n =>
    refine wpAny_bind ?_
    unfold seqItemAt
    refine wpAny_bind (wpAny_loadPart hp (wpAny_pure (wpAny_pure ?_)))
    have hi' : xs[n]? = some x := hi
    rw [hi']
    exact wpAny_pure ⟨_, rfl, hq⟩
theorem run_getslice {Q : Value → Shared → Prop} {i : Nat} {ti : Tok} (hp : h.get? p = some o) (hd : o.data = .seq xs k) (hs : h.get? q = some (sliceO (.int i ti) .none .none)) (hi : i ≤ xs.size) (hsz : xs.size ≤ 1000)
    (hq : Q (.ref h.objs.size) ⟨h.push { cls := .type "list", data := .seq (xs.extract i xs.size) }, g, d, tk, os⟩) :
    wpAny (model PG w) A (Builtin.«list.__getitem__» ⟨[.ref p, .ref q], []⟩) (fun fin s' => ∃ v, fin = .done (.ret v) ∧ Q v s') (fun e s' => E e s') ⟨h, g, d, tk, os⟩ := by
  refine hide9 fun C9 k9 => ?_
  obtain ⟨c, dd, dt, sl⟩ := o
  refine k9 ?_
  clear k9
  dsimp only at hd
  subst hd
  have h1 := PySem.F.slot_int_index.lookup
  have h2 := lk_si
  unfold Builtin.«list.__getitem__»
  repeat (first | wp_step | (with_reducible refine wpAny_of_eq h2 ?_) | dsimp only)
  rw [sl_from xs i hi, if_neg (show ¬ (xs.extract i xs.size).size > sizeLine from Nat.not_lt.mpr (by rw [Array.size_extract]; exact Nat.le_trans (Nat.sub_le _ _) (Nat.le_trans (Nat.min_le_left _ _) (Nat.le_trans hsz (by decide)))))]
  repeat (first | wp_step | dsimp only)
  exact ⟨_, rfl, hq⟩
/-- a built-in of list, asked for by an instance's operation -/
theorem acc_special {nm : String} {id : String} {args : List Value} {B : Builtin} {Q : Option Value → Shared → Prop} (X : (Mine.frag.heap_1 w.params).In s.heap) (I : InstAt s.heap p o 101 od)
    (hf : findIn (Mine.frag.heap_1 w.params) (.ref 101) nm = some (some (.builtin id))) (hb : ∀ self, bindSpecial (.builtin id) self = pure (.builtin id, [self])) (hk : builtinKind id = some .slot ∨ builtinKind id = some .method) (hsp : splitId id = some ("list", nm))
    (hpl : plainId id = true) (ent : entryFor table id = some B) (ha : argsOk id ⟨.ref p :: args, []⟩)
    (hbody : wpAny (model PG w) A.in1 (B ⟨.ref p :: args, []⟩) (fun fin s' => ∃ v, fin = .done (.ret v) ∧ Q (some v) s') (fun e s' => E e s') s) :
    wpAny (model PG w) A (callSpecial? (.ref p) nm args) Q E s := by
  refine wpAny_bind (wpAny_bind (I.type.here ((looks_findIn X hf).here (wpAny_holding ?_))))
  show wpAny _ _ (bindSpecial (.builtin id) (.ref p) >>= _) _ _ _
  rw [hb]
  refine wpAny_bind (wpAny_pure (wpAny_bind (wpAny_call (codeAny_call_builtin hpl ent (acc_check X I hk hsp ha (wpAny_mono hbody (fun fin s' z => ?_) fun _ _ z => z))))))
  obtain ⟨v, rfl, z⟩ := z
  exact wpAny_pure z
theorem k_any (P : Params) : peek (Mine.frag.heap_1 P) ⟨PG, P⟩ (seqItemTypes.anyM fun n => isSubtype (.ref 101) (.type n)) = some false := by kernel_rfl
theorem acc_key {i : Value} {nm : Str} {Q : Value → Shared → Prop} (X : (Mine.frag.heap_1 w.params).In s.heap) (I : InstAt s.heap p o 101 od) (hq : Q i s) : wpAny (model PG w) A (sequenceKey (.ref p) i nm) Q E s := by
  unfold sequenceKey
  refine wpAny_bind (I.type.here ?_)
  dsimp only
  refine wpAny_bind ((pk X (k_any w.params)).here ?_)
  exact wpAny_pure hq
theorem acc_getItem {i : Value} {B : Builtin} {Q : Value → Shared → Prop} (X : (Mine.frag.heap_1 w.params).In s.heap) (I : InstAt s.heap p o 101 od) (ent : entryFor table "list.__getitem__" = some B)
    (ha : argsOk "list.__getitem__" ⟨[.ref p, i], []⟩)
    (hbody : wpAny (model PG w) A.in1 (B ⟨[.ref p, i], []⟩) (fun fin s' => ∃ v, fin = .done (.ret v) ∧ Q v s') (fun e s' => E e s') s) :
    wpAny (model PG w) A (getItem (.ref p) i) Q E s := by
  unfold getItem
  refine wpAny_holding (wpAny_bind (acc_key X I (wpAny_bind (acc_special (id := "list.__getitem__") X I (f_gi w.params) (fun self => ?_) (.inr (by decide +kernel)) (by decide +kernel) (by decide +kernel) ent ha (wpAny_mono hbody (fun fin s' z => ?_) fun _ _ z => z)))))
  · exact PySem.F.slot_list_getitem.bind self
  · obtain ⟨v, rfl, z⟩ := z
    exact ⟨v, rfl, wpAny_pure z⟩
theorem acc_getInt {i : Int} {ti : Tok} {x : Value} {Q : Value → Shared → Prop} (X : (Mine.frag.heap_1 w.params).In s.heap) (I : InstAt s.heap p o 101 od) (hd : o.data = .seq xs k) (h0 : 0 ≤ i) (hi : xs[i.toNat]? = some x) (hlt : i < 1000) (hq : Q x s) :
    wpAny (model PG w) A (getItem (.ref p) (.int i ti)) Q E s := by
  refine hide9 fun C9 k9 => ?_
  obtain ⟨c, dd, dt, sl⟩ := o
  refine k9 ?_
  clear k9
  dsimp only at hd
  subst hd
  have hp := I.at_
  exact acc_getItem X I PySem.F.entry_list_getitem (by unfold argsOk; kernel_rfl) (run_getint hp h0 hi hlt hq)
theorem acc_getSlice {i : Nat} {ti : Tok} {Q : Value → Shared → Prop} (X : (Mine.frag.heap_1 w.params).In s.heap) (I : InstAt s.heap p o 101 od) (hd : o.data = .seq xs k) (hs : s.heap.get? q = some (sliceO (.int i ti) .none .none)) (hi : i ≤ xs.size) (hsz : xs.size ≤ 1000)
    (hq : Q (.ref s.heap.objs.size) { s with heap := s.heap.push { cls := .type "list", data := .seq (xs.extract i xs.size) } }) :
    wpAny (model PG w) A (getItem (.ref p) (.ref q)) Q E s := by
  refine hide9 fun C9 k9 => ?_
  obtain ⟨c, dd, dt, sl⟩ := o
  refine k9 ?_
  clear k9
  dsimp only at hd
  subst hd
  have hp := I.at_
  exact acc_getItem X I PySem.F.entry_list_getitem (by unfold argsOk; kernel_rfl) (run_getslice hp rfl hs hi hsz hq)
end
end Mine
end

section
open PySem PySem.W PySem.Calls PyProof.Rows
set_option maxRecDepth 100000
set_option maxHeartbeats 1000000
namespace Mine
section
variable {w : World} {A : Around} {E : Value → Shared → Prop} {s : Shared} {h₀ h : Heap} {L : Addr} {m : Str → Option Value} {news : List (Addr × Obj)}
  {p dx so q e : Addr} {R : Result → Shared → Prop} {g : Array GenState} {d : Drawn} {tk : Nat} {os : OsState} {o : Obj} {od : Option Obj} {xs : Array Value} {k : Nat} {pos : Pos} {c : Value} {dd : Option Addr} {sl : Array (Option Value)}
theorem ent_set : entryFor table "list.__setitem__" = some Builtin.«list.__setitem__» := entryFor_of_tree (by kernel_rfl)
theorem run_setslice {Q : Value → Shared → Prop} {i : Nat} {ti : Tok} {k' : Nat} (hp : h.get? p = some (⟨c, dd, .seq xs k, sl⟩ : Obj)) (hs : h.get? q = some (sliceO (.int i ti) .none .none)) (he : h.get? e = some ({ cls := .type "list", data := .seq #[] k' } : Obj)) (hne : p ≠ e) (hi : i ≤ xs.size) (hsz : xs.size ≤ 1000)
    (hq : ∀ h' n, h'.get? p = some (⟨c, dd, .seq (xs.extract 0 i) n, sl⟩ : Obj) → Heap.SameBut p h h' → Q .none ⟨h', g, d, tk, os⟩) :
    wpAny (model PG w) A (Builtin.«list.__setitem__» ⟨[.ref p, .ref q, .ref e], []⟩) (fun fin s' => ∃ v, fin = .done (.ret v) ∧ Q v s') (fun e s' => E e s') ⟨h, g, d, tk, os⟩ := by
  have h1 := PySem.F.slot_int_index.lookup
  have h2 := lk_si
  have h3 : Builtin.List.listSameRef (.ref p) (.ref e) = false := by simp [Builtin.List.listSameRef, hne]
  unfold Builtin.«list.__setitem__»
  repeat (first | wp_step | (with_reducible refine wpAny_of_eq h2 ?_) | dsimp only)
  have e1 : (if (i : Int) < 0 then (i : Int) + (xs.size : Int) else (i : Int)) = (i : Int) := if_neg (by omega)
  have e2 : (if (1 : Int) > 0 then (xs.size : Int) else -1) = (xs.size : Int) := if_pos (by decide)
  have e3 : max 0 (min (i : Int) (xs.size : Int)) = (i : Int) := by omega
  have e4 : max (i : Int) (xs.size : Int) = (xs.size : Int) := by omega
  have e5 : Builtin.List.listTooLong (xs.size + (List.toArray ([] : List Value)).size) = false := by
    unfold Builtin.List.listTooLong
    simp only [decide_eq_false_iff_not, Nat.not_lt]
    exact Nat.le_trans (show xs.size + 0 ≤ 1000 from hsz) (by decide)
  simp only [e1, e2, e3, e4, e5, Bool.false_eq_true, if_false, Int.toNat_natCast]
  have ef : (fun (a : Array Value) => a.extract 0 i ++ ([] : List Value).toArray ++ a.extract xs.size a.size) xs = xs.extract 0 i := by
    simp
  have z1 : xs.size ≤ sizeLine := Nat.le_trans hsz (by decide)
  have z2 : ((fun (a : Array Value) => a.extract 0 i ++ ([] : List Value).toArray ++ a.extract xs.size a.size) xs).size ≤ sizeLine + 1 := by
    rw [ef, Array.size_extract]
    have := Nat.min_le_right i xs.size
    omega
  wp_walk using (wpAny_updateSeq hp rfl (hz := z1) (_hz' := z2))
  refine ⟨_, rfl, hq _ (if (xs.extract 0 i).size == xs.size then k else k + 1) ?_ (Heap.SameBut.update ..)⟩
  rw [Heap.get?_update_self _ hp rfl]
  have ef' : xs.extract 0 i ++ ([] : List Value).toArray ++ xs.extract xs.size xs.size = xs.extract 0 i := ef
  simp only [Obj.mapSeq, ef']
theorem acc_setSlice {i : Nat} {ti : Tok} {k' : Nat} {Q : Unit → Shared → Prop} (X : (Mine.frag.heap_1 w.params).In s.heap) (I : InstAt s.heap p o 101 od) (hd : o.data = .seq xs k) (hs : s.heap.get? q = some (sliceO (.int i ti) .none .none))
    (he : s.heap.get? e = some ({ cls := .type "list", data := .seq #[] k' } : Obj)) (hne : p ≠ e) (hi : i ≤ xs.size) (hsz : xs.size ≤ 1000)
    (hq : ∀ h' n, h'.get? p = some (⟨o.cls, o.dict, .seq (xs.extract 0 i) n, o.slots⟩ : Obj) → Heap.SameBut p s.heap h' → Q () { s with heap := h' }) :
    wpAny (model PG w) A (setItem (.ref p) (.ref q) (.ref e)) Q E s := by
  refine hide9 fun C9 k9 => ?_
  obtain ⟨c, dd, dt, sl⟩ := o
  refine k9 ?_
  clear k9
  dsimp only at hd
  subst hd
  have hp := I.at_
  unfold setItem
  refine wpAny_holding (wpAny_bind (acc_key X I (wpAny_bind (acc_special (id := "list.__setitem__") X I (f_si w.params) (fun self => by kernel_rfl) (.inl (by decide +kernel)) (by decide +kernel) (by decide +kernel) ent_set (by unfold argsOk; kernel_rfl) (run_setslice hp hs he hne hi hsz fun h' n a b => wpAny_pure (hq h' n a b))))))
end
end Mine
end

section
open PySem PySem.W PySem.Calls PyProof.Rows
set_option maxRecDepth 100000
set_option maxHeartbeats 1000000
namespace Mine
section
variable {w : World} {A : Around} {E : Value → Shared → Prop} {s : Shared} {h₀ h : Heap} {L : Addr} {m : Str → Option Value} {news : List (Addr × Obj)}
  {p dx so q : Addr} {R : Result → Shared → Prop} {g : Array GenState} {d : Drawn} {tk : Nat} {os : OsState} {o : Obj} {od : Option Obj} {xs : Array Value} {k : Nat} {pos : Pos}
theorem ent_init : entryFor table "list.__init__" = some Builtin.«list.__init__» := entryFor_of_tree (by kernel_rfl)
theorem ent_len : entryFor table "list.__len__" = some Builtin.«list.__len__» := entryFor_of_tree (by kernel_rfl)
theorem ent_pop : entryFor table "list.pop" = some Builtin.«list.pop» := entryFor_of_tree (by kernel_rfl)
theorem cb_init (x : Value) : checkBoundCall "list.__init__" ⟨[x], []⟩ = pure () := by kernel_rfl
theorem cb_len (x : Value) : checkBoundCall "list.__len__" ⟨[x], []⟩ = pure () := by kernel_rfl
theorem acc_notMod {K : Frag} {M : Model} {h : Heap} {o : Obj} {od : Option Obj} (X : (Mine.frag.heap_1 w.params).In h) (I : InstAt h p o 101 od) : Looks M h (isInstance (.ref p) (.type "module")) false :=
  I.type.andThen (looks_mroIn X (show mroIn (Mine.frag.heap_1 w.params) 101 (.type "module") = some false by kernel_rfl))
theorem k_q101 (P : Params) : peek (Mine.frag.heap_1 P) ⟨PG, P⟩ (do return (← classData 101).qualname.toString) = some "_Accumulator" := by kernel_rfl
theorem k_t101 (P : Params) : peek (Mine.frag.heap_1 P) ⟨PG, P⟩ (typeOf (.ref 101)) = some (.type "type") := by kernel_rfl
theorem k_qn (P : Params) : (clsIn (Mine.frag.heap_1 P) 101).map (fun c => toString c.qualname.toString) = some "_Accumulator" := by kernel_rfl
/-- the built-in bound to an instance, called with nothing -/
theorem bound_call {T id : String} {B : Builtin} {Q : Value → Shared → Prop} (hq : s.heap.get? q = some (boundO T id p)) (hT : T = "method-wrapper" ∨ T = "builtin_function_or_method")
    (pl : plainId id = true) (ent : entryFor table id = some B) (hc : ∀ {Q' : Unit → Shared → Prop} {E' : Value → Shared → Prop} {A' : Around}, Q' () s → wpAny (model PG w) A' (checkBoundCall id ⟨[.ref p], []⟩) Q' E' s)
    (hb : wpAny (model PG w) A.in1 (B ⟨[.ref p], []⟩) (fun fin s' => ∃ v, fin = .done (.ret v) ∧ Q v s') (fun e s' => E e s') s) :
    wpAny (model PG w) A (callWith pos (.ref q) [] [] []) Q E s := by
  have hb' : codeAny (model PG w) A (.call (.ref q) ⟨[], []⟩) (wants Q E) s := by
    refine codeAny_of_tree ?_
    show wpAny _ _ (callAny (.ref q) _) _ _ _
    refine nd_load hq (nd_bind (wpAny_pure ?_))
    rcases hT with rfl | rfl
    · refine wpAny_bind (hc ?_)
      refine wpAny_pure (a := Fin.again (.builtin id ⟨[.ref p], []⟩)) ⟨plainId_quiet pl _, codeAny_builtin ent ?_⟩
      rw [Around.under_plainId pl]
      refine wpAny_mono hb (fun fin s' z => ?_) fun _ _ z => z
      obtain ⟨v, rfl, z⟩ := z
      exact z
    · refine wpAny_bind (hc ?_)
      refine wpAny_pure (a := Fin.again (.builtin id ⟨[.ref p], []⟩)) ⟨plainId_quiet pl _, codeAny_builtin ent ?_⟩
      rw [Around.under_plainId pl]
      refine wpAny_mono hb (fun fin s' z => ?_) fun _ _ z => z
      obtain ⟨v, rfl, z⟩ := z
      exact z
  refine callWith_of (P := fun h => h.get? q = some (boundO T id p)) rfl (fun h e => ⟨.machine, .inr (.inl rfl), (Looks.ld (part := none) e).andThen ?_⟩) (evalArgs_nil3 ⟨hq, wpAny_call hb'⟩)
  rcases hT with rfl | rfl <;> exact Looks.of_pure rfl
theorem run_init {Q : Value → Shared → Prop} (hp : h.get? p = some (accO dx [] 0)) (hq : ∀ h', h'.get? p = some (accO dx [] 0) → Heap.SameBut p h h' → Q .none ⟨h', g, d, tk, os⟩) :
    wpAny (model PG w) A (Builtin.«list.__init__» ⟨[.ref p], []⟩) (fun fin s' => ∃ v, fin = .done (.ret v) ∧ Q v s') (fun e s' => E e s') ⟨h, g, d, tk, os⟩ := by
  have z1 : (#[] : Array Value).size ≤ sizeLine := Nat.zero_le _
  have z2 : (#[] : Array Value).size ≤ sizeLine + 1 := Nat.zero_le _
  unfold Builtin.«list.__init__»
  wp_walk using (wpAny_updateSeq hp rfl (hz := z1) (_hz' := z2))
  exact ⟨_, rfl, hq _ (Heap.get?_update_self _ hp rfl) (Heap.SameBut.update ..)⟩
theorem run_len {Q : Value → Shared → Prop} (hp : h.get? p = some o) (hd : o.data = .seq xs k) (hq : Q (.int xs.size tk) ⟨h, g, d, tk + 1, os⟩) :
    wpAny (model PG w) A (Builtin.«list.__len__» ⟨[.ref p], []⟩) (fun fin s' => ∃ v, fin = .done (.ret v) ∧ Q v s') (fun e s' => E e s') ⟨h, g, d, tk, os⟩ := by
  refine hide9 fun C9 k9 => ?_
  obtain ⟨c, dd, dt, sl⟩ := o
  refine k9 ?_
  clear k9
  dsimp only at hd
  subst hd
  unfold Builtin.«list.__len__»
  wp_walk
  exact ⟨_, rfl, hq⟩
theorem run_pop {Q : Value → Shared → Prop} {ys : Array Value} {x : Value} (hp : h.get? p = some (⟨.ref 101, some dx, .seq (ys.push x) k, #[]⟩ : Obj)) (hsz : ys.size ≤ 1000)
    (hq : ∀ h', h'.get? p = some (⟨.ref 101, some dx, .seq ys (k + 1), #[]⟩ : Obj) → Heap.SameBut p h h' → Q x ⟨h', g, d, tk, os⟩) :
    wpAny (model PG w) A (Builtin.«list.pop» ⟨[.ref p], []⟩) (fun fin s' => ∃ v, fin = .done (.ret v) ∧ Q v s') (fun e s' => E e s') ⟨h, g, d, tk, os⟩ := by
  have z1 : (ys.push x).size ≤ sizeLine := by rw [Array.size_push]; exact Nat.le_trans (Nat.succ_le_succ hsz) (by decide)
  have hne : (ys.push x).isEmpty = false := by simp
  have hix : (seqIndex? (-1) (ys.push x).size) = some ys.size := by
    unfold seqIndex?
    simp only [Array.size_push]
    have e1 : ((-1 : Int) < 0) = True := by simp
    simp only [e1, if_true]
    have e2 : (-1 : Int) + ((ys.size + 1 : Nat) : Int) = (ys.size : Int) := by omega
    rw [e2]
    have e3 : (decide ((0 : Int) ≤ (ys.size : Int)) && decide ((ys.size : Int) < ((ys.size + 1 : Nat) : Int))) = true := by simp; omega
    rw [if_pos e3]; rfl
  have hat : (ys.push x)[ys.size]? = some x := by simp
  have her : (ys.push x).eraseIdxIfInBounds ys.size = ys := by
    apply Array.ext'
    simp [Array.eraseIdxIfInBounds, List.eraseIdx_append_of_length_le]
  have z2 : ((ys.push x).eraseIdxIfInBounds ys.size).size ≤ sizeLine + 1 := by rw [her]; exact Nat.le_trans hsz (by decide)
  unfold Builtin.«list.pop»
  wp_walk
  simp only [hix, Option.bind_some, hat, Option.map_some]
  wp_walk using (wpAny_updateSeq hp rfl (hz := z1) (_hz' := z2))
  refine ⟨_, rfl, hq _ ?_ (Heap.SameBut.update ..)⟩
  rw [Heap.get?_update_self _ hp rfl]
  simp [Obj.mapSeq, her]
theorem cb_pop {M : Model} {A' : Around} {Q' : Unit → Shared → Prop} {E' : Value → Shared → Prop} {dd : Option Addr} {sl : Array (Option Value)} (X : (Mine.frag.heap_1 w.params).In h) (hp : h.get? p = some (⟨.ref 101, dd, .seq xs k, sl⟩ : Obj)) (I : InstAt h p ⟨.ref 101, dd, .seq xs k, sl⟩ 101 od) (hM : M = model PG w) (hq : Q' () ⟨h, g, d, tk, os⟩) :
    wpAny M A' (checkBoundCall "list.pop" ⟨[.ref p], []⟩) Q' E' ⟨h, g, d, tk, os⟩ := by
  subst hM
  have hL : Looks (model PG w) h (isInstance (.ref p) (.type "module")) false := acc_notMod (K := []) X I
  have hc := pk X (k_t101 w.params)
  have hsig : ∃ sg, Manifest.signature? "list.pop" = some sg := Option.isSome_iff_exists.mp (by decide +kernel)
  obtain ⟨cd, hcd, hqn⟩ := Option.map_eq_some_iff.mp (k_qn w.params)
  have hq1 : Looks (model PG w) h (classData 101) cd := looks_clsIn X hcd
  unfold checkBoundCall
  repeat (first | (with_reducible refine Looks.at hL ?_) | (with_reducible refine Looks.at hc ?_) | (with_reducible refine Looks.at hq1 ?_) | wp_step | dsimp only)
  rw [hqn]
  rw [if_pos (by decide +kernel)]
  repeat (first | wp_step | dsimp only)
  exact hq
end
end Mine
end

section
open PySem PySem.W PySem.Calls PyProof.Rows
set_option maxRecDepth 100000
set_option maxHeartbeats 1000000
namespace Mine
section
variable {w : World} {A : Around} {E : Value → Shared → Prop} {s : Shared} {h₀ h : Heap} {L : Addr} {m : Str → Option Value} {news news' : List (Addr × Obj)}
  {p dx so q e : Addr} {o : Obj} {od : Option Obj} {items : List Value} {n : Nat} {es : List DictEntry} {e0 : Nat}
noncomputable abbrev iniD (hh : Int) (t0 : Tok) (v : Value) (e0 : Nat) : Obj := dictOf [⟨hh, .str (Str.ofString "_initial_size") t0, v⟩] e0
theorem acc_appendN {x : Value} {Q : Value → Shared → Prop} (F : Fr h₀ L s.heap m) (X₀ : (Mine.frag.heap_1 w.params).In h₀) (N : News h₀ L s.heap news) (I : InstAt s.heap p (accO dx items n) 101 od)
    (U : Upd p (accO dx items n) (accO dx (items ++ [x]) (n + 1)) news news') (hsz : items.length ≤ 1000)
    (h : ∀ h', Fr h₀ L h' m → News h₀ L h' news' → Q .none { s with heap := h' }) : wpAny (model PG w) A (call (.builtin "list.append") [.ref p, x]) Q E s := by
  refine hide9 fun C9 k9 => ?_
  obtain ⟨pre, post, rfl, rfl, a, b⟩ := U.split
  refine k9 ?_
  clear k9
  have z := N (p, accO dx items n) (List.mem_append.mpr (.inr (.head _)))
  refine acc_append (X₀.keeps F.keep) I rfl (by simpa using hsz) (h _ (F.change (Heap.SameBut.update ..) z.2.1 z.2.2) (news_set N a b (Heap.SameBut.update ..) ?_))
  rw [Heap.get?_update_self _ z.1 rfl]
  simp [Obj.mapSeq]
noncomputable def AccM (P : Params) (name : Str) (v : Value) : Prop := findIn (Mine.frag.heap_1 P) (.ref 101) name = some (some v) ∧ (typeIn (Mine.frag.heap_1 P) v = some (.type "function") ∨ typeIn (Mine.frag.heap_1 P) v = some (.type "method_descriptor"))
theorem am_append (P : Params) : AccM P "append" (.builtin "list.append") := ⟨f_append P, .inr (by kernel_rfl)⟩
theorem am_push (P : Params) : AccM P "push" (.ref 45) := ⟨f_push P, .inl (by kernel_rfl)⟩
theorem am_popfrom (P : Params) : AccM P "pop_from" (.ref 53) := ⟨f_popfrom P, .inl (by kernel_rfl)⟩
theorem am_pop (P : Params) : AccM P "pop" (.ref 61) := ⟨f_pop P, .inl (by kernel_rfl)⟩
theorem am_pc (P : Params) : AccM P "part_count" (.ref 98) := ⟨f_pc P, .inl (by kernel_rfl)⟩
theorem acc_methodN {v : Value} {name : Str} {pl : Sem Bool} {Q : Value × List Value → Shared → Prop} (F : Fr h₀ L s.heap m) (X₀ : (Mine.frag.heap_1 w.params).In h₀) (I : InstAt s.heap p (accO dx items n) 101 (some (dictOf es e0)))
    (hf : AccM w.params name v) (hs : getL name es = some none) (h : Q (v, [.ref p]) s) : wpAny (model PG w) A (getMethod (.ref p) name pl) Q E s := by
  obtain ⟨hf, ht | ht⟩ := hf
  · exact acc_method (X₀.keeps F.keep) I hf ht (.inl rfl) hs rfl h
  · exact acc_method (X₀.keeps F.keep) I hf ht (.inr rfl) hs rfl h
theorem acc_itemN {i : Int} {ti : Tok} {x : Value} {Q : Value → Shared → Prop} (F : Fr h₀ L s.heap m) (X₀ : (Mine.frag.heap_1 w.params).In h₀) (I : InstAt s.heap p (accO dx items n) 101 od)
    (h0 : 0 ≤ i) (hi : items[i.toNat]? = some x) (hlt : i < 1000) (hq : Q x s) : wpAny (model PG w) A (getItem (.ref p) (.int i ti)) Q E s :=
  acc_getInt (X₀.keeps F.keep) I rfl h0 (by simpa using hi) hlt hq
theorem acc_sliceN {i : Int} {ti : Tok} {Q : Value → Shared → Prop} (F : Fr h₀ L s.heap m) (X₀ : (Mine.frag.heap_1 w.params).In h₀) (N : News h₀ L s.heap news) (I : InstAt s.heap p (accO dx items n) 101 od) (hs : s.heap.get? q = some (sliceO (.int i ti) .none .none))
    (h0 : 0 ≤ i) (hi : i ≤ items.length) (hsz : items.length ≤ 1000)
    (h : ∀ l h', Fr h₀ L h' m → News h₀ L h' ((l, listO (items.drop i.toNat) 0) :: news) → (∀ x ∈ news, x.1 < l) → Q (.ref l) { s with heap := h' }) : wpAny (model PG w) A (getItem (.ref p) (.ref q)) Q E s := by
  obtain ⟨i, rfl⟩ := Int.eq_ofNat_of_zero_le h0
  refine acc_getSlice (X₀.keeps F.keep) I rfl hs (by simpa using hi) (by simpa using hsz) ?_
  have e1 : items.toArray.extract i items.toArray.size = (items.drop (Int.toNat (i : Int))).toArray := by
    apply Array.ext'
    simp only [Array.toList_extract, List.extract_eq_take_drop, List.size_toArray, Int.toNat_natCast]
    exact List.take_of_length_le (by simp)
  rw [e1]
  exact h _ _ (F.push _) (N.push F _) (fun x hx => Heap.lt_size (N x hx).1)
theorem acc_cutN {newsF : Nat → List (Addr × Obj)} {i : Int} {ti : Tok} {k' : Nat} {Q : Unit → Shared → Prop} (F : Fr h₀ L s.heap m) (X₀ : (Mine.frag.heap_1 w.params).In h₀) (N : News h₀ L s.heap news) (I : InstAt s.heap p (accO dx items n) 101 od) (hs : s.heap.get? q = some (sliceO (.int i ti) .none .none))
    (he : s.heap.get? e = some ({ cls := .type "list", data := .seq #[] k' } : Obj)) (hne : p ≠ e) (h0 : 0 ≤ i) (hi : i ≤ items.length) (hsz : items.length ≤ 1000)
    (U : ∀ n', Upd p (accO dx items n) (accO dx (items.take i.toNat) n') news (newsF n'))
    (h : ∀ h' n', Fr h₀ L h' m → News h₀ L h' (newsF n') → Q () { s with heap := h' }) : wpAny (model PG w) A (setItem (.ref p) (.ref q) (.ref e)) Q E s := by
  obtain ⟨i, rfl⟩ := Int.eq_ofNat_of_zero_le h0
  refine acc_setSlice (X₀.keeps F.keep) I rfl hs he hne (by simpa using hi) (by simpa using hsz) fun h' n' hg hsb => ?_
  have e1 : items.toArray.extract 0 i = (items.take (Int.toNat (i : Int))).toArray := by
    apply Array.ext'
    simp
  refine hide9 fun C9 k9 => ?_
  obtain ⟨pre, post, e2, e3, a, b⟩ := (U n').split
  refine k9 ?_
  clear k9
  subst e2
  have z := N (p, accO dx items n) (List.mem_append.mpr (.inr (.head _)))
  refine h h' n' (F.change hsb z.2.1 z.2.2) ?_
  rw [e3]
  refine news_set N a b hsb ?_
  rw [hg, e1]
theorem acc_makeN {k : Int} {tk : Tok} {Q : Value → Shared → Prop} (F : Fr h₀ L s.heap m) (X₀ : (Mine.frag.heap_1 w.params).In h₀) (N : News h₀ L s.heap news)
    (h : ∀ x dx h', Fr h₀ L h' m → News h₀ L h' ((x, accO dx [] 0) :: (dx, dictOf [] 0) :: news) → (∀ p ∈ news, p.1 < dx) → dx < x →
      codeAny (model PG w) (A.under (.builtin "type.__call__" ⟨[.ref 101, .int k tk], []⟩)) (.call (.ref 38) ⟨[.ref x, .int k tk], []⟩) (InitBack x fun r s' => match r with | .ok (.ret v) => Q v s' | .ok _ => False | .error e => E e s') { s with heap := h' }) :
    wpAny (model PG w) A (call (.ref 101) [.int k tk]) Q E s := by
  have X : (Mine.frag.heap_1 w.params).In s.heap := X₀.keeps F.keep
  have N' := (N.push F emptyDict).push (F.push _) (accO s.heap.objs.size [] 0)
  rw [Heap.size_push] at N'
  have fin := h _ s.heap.objs.size _ ((F.push _).push _) N' (fun p hp => Heap.lt_size (N p hp).1) (Nat.lt_succ_self _)
  refine hide9 fun C9 k9 => ?_
  obtain ⟨hh, g, d, t, os⟩ := s
  refine k9 ?_
  clear k9
  exact wpAny_call (acc_make _ X fin)
theorem acc_tail {value slice : PySem.Expr} {i : Value} {ops : List Value} {Q : Value → Shared → Prop} (X : (Mine.frag.heap_1 w.params).In s.heap) (I : InstAt s.heap p o 101 od) (hg : wpAny (model PG w) A (getItem (.ref p) i) Q E s)
    (hs : subscripted slice false (.ref p) i = operate ops (getItem (.ref p) i)) : wpAny (model PG w) A (subscriptTail value slice (.ref p) i) Q E s := by
  unfold subscriptTail
  refine wpAny_bind ?_
  rw [getitemInPython_of_ne (fun e => by cases e)]
  refine wpAny_bind (wpAny_bind (I.type.here ((looks_findIn X (f_gi w.params)).here ?_)))
  refine wpAny_pure (wpAny_bind ?_)
  show wpAny _ _ (subscripted slice false (.ref p) i) _ _ _
  rw [hs]
  exact wpAny_operating (wpAny_mono hg (fun r s₃ h₃ => wpAny_bind (wpAny_letTemporaryGo (wpAny_pure h₃))) fun _ _ x => x)
theorem acc_itemT {value slice : PySem.Expr} {i : Int} {ti : Tok} {x : Value} {Q : Value → Shared → Prop} (F : Fr h₀ L s.heap m) (X₀ : (Mine.frag.heap_1 w.params).In h₀) (I : InstAt s.heap p (accO dx items n) 101 od)
    (h0 : 0 ≤ i) (hi : items[i.toNat]? = some x) (hlt : i < 1000) (hq : Q x s) (hs : subscripted slice false (.ref p) (.int i ti) = operate [.ref p, .int i ti] (getItem (.ref p) (.int i ti)) := by with_unfolding_all rfl) :
    wpAny (model PG w) A (subscriptTail value slice (.ref p) (.int i ti)) Q E s :=
  acc_tail (X₀.keeps F.keep) I (acc_itemN F X₀ I h0 hi hlt hq) hs
theorem acc_sliceT {value : PySem.Expr} {a b : Option PySem.Expr} {ps : Pos} {i : Int} {ti : Tok} {Q : Value → Shared → Prop} (F : Fr h₀ L s.heap m) (X₀ : (Mine.frag.heap_1 w.params).In h₀) (N : News h₀ L s.heap news) (hm : (p, accO dx items n) ∈ news) (hd : (dx, dictOf es e0) ∈ news)
    (h0 : 0 ≤ i) (hi : i ≤ items.length) (hsz : items.length ≤ 1000)
    (h : ∀ l h', Fr h₀ L h' m → News h₀ L h' ((l, listO (items.drop i.toNat) 0) :: news) → (∀ x ∈ news, x.1 < l) → Q (.ref l) { s with heap := h' }) :
    wpAny (model PG w) A (subscriptTail value (.Slice a b none ps) (.ref p) (.ref s.heap.objs.size)) Q E { s with heap := s.heap.push (sliceO (.int i ti) .none .none) } := by
  have F' := F.push (sliceO (.int i ti) .none .none)
  have N' := N.push F (sliceO (.int i ti) .none .none)
  have I := acc_inst N' (List.Mem.tail _ hm) (List.Mem.tail _ hd)
  refine acc_tail (s := { s with heap := s.heap.push (sliceO (.int i ti) .none .none) }) (ops := [.ref s.heap.objs.size, .ref p]) (X₀.keeps F'.keep) I (acc_sliceN (s := { s with heap := s.heap.push (sliceO (.int i ti) .none .none) }) F' X₀ N' I (N' _ (.head _)).1 h0 hi hsz fun l h' F'' N'' hl => h l h' F'' (fun x hx => ?_) fun x hx => hl x (.tail _ hx)) rfl
  rcases List.mem_cons.mp hx with rfl | hx
  · exact N'' _ (.head _)
  · exact N'' _ (.tail _ (.tail _ hx))
theorem acc_cutT {newsF : Nat → List (Addr × Obj)} {i : Int} {ti : Tok} {k' : Nat} {Q : Unit → Shared → Prop} (F : Fr h₀ L s.heap m) (X₀ : (Mine.frag.heap_1 w.params).In h₀) (N : News h₀ L s.heap news) (hm : (p, accO dx items n) ∈ news) (hd : (dx, dictOf es e0) ∈ news)
    (he : (e, listOf #[] k') ∈ news) (hne : p ≠ e) (h0 : 0 ≤ i) (hi : i ≤ items.length) (hsz : items.length ≤ 1000)
    (U : ∀ n', Upd p (accO dx items n) (accO dx (items.take i.toNat) n') news (newsF n'))
    (h : ∀ h' n', Fr h₀ L h' m → News h₀ L h' (newsF n') → Q () { s with heap := h' }) :
    wpAny (model PG w) A (setItem (.ref p) (.ref s.heap.objs.size) (.ref e)) Q E { s with heap := s.heap.push (sliceO (.int i ti) .none .none) } := by
  have F' := F.push (sliceO (.int i ti) .none .none)
  have N' := N.push F (sliceO (.int i ti) .none .none)
  have I := acc_inst N' (List.Mem.tail _ hm) (List.Mem.tail _ hd)
  have hlt : p < s.heap.objs.size := Heap.lt_size (N _ hm).1
  refine acc_cutN (s := { s with heap := s.heap.push (sliceO (.int i ti) .none .none) }) (newsF := fun n' => (s.heap.objs.size, sliceO (.int i ti) .none .none) :: newsF n') F' X₀ N' I (N' _ (.head _)).1 (N' _ (.tail _ he)).1 hne h0 hi hsz (fun n' => .tail (Nat.ne_of_gt hlt) (U n')) fun h' n' F'' N'' => h h' n' F'' fun x hx => N'' _ (.tail _ hx)
theorem acc_ne101 (X : (Mine.frag.heap_1 w.params).In h) (I : InstAt h p o 101 od) : p ≠ 101 := by
  obtain ⟨cd, hc⟩ := Option.isSome_iff_exists.mp (k_cls w.params)
  exact ks_ne X I hc
theorem sup_N {name : Str} {id T : String} {pl : Sem Bool} {Q : Value × List Value → Shared → Prop} (Z : SupM name id T) (F : Fr h₀ L s.heap m) (X₀ : (Mine.frag.heap_1 w.params).In h₀) (N : News h₀ L s.heap news) (hso : (so, ks_superObj 101 p 101) ∈ news) (I : InstAt s.heap p o 101 od)
    (h : ∀ q h', Fr h₀ L h' m → News h₀ L h' ((q, boundO T id p) :: news) → (∀ x ∈ news, x.1 < q) → Q (.ref q, []) { s with heap := h', toks := s.toks + 1 }) : wpAny (model PG w) A (getMethod (.ref so) name pl) Q E s :=
  sup_K Z F X₀ N hso I (acc_ne101 (X₀.keeps F.keep) I) h
theorem bound_lenN {pos : Pos} {env : Env} {Q : Value → Shared → Prop} (N : News h₀ L s.heap news) (hq : (q, boundO "method-wrapper" "list.__len__" p) ∈ news) (hp : (p, accO dx items n) ∈ news)
    (h : Q (.int items.length s.toks) { s with toks := s.toks + 1 }) : wpAny (model PG w) A (callWith pos (.ref q) [] (backTo pos (starEach [] env)) []) Q E s := by
  have h1 := (N _ hq).1
  have h2 := (N _ hp).1
  refine hide9 fun C9 k9 => ?_
  obtain ⟨hh, g, d, t, os⟩ := s
  refine k9 ?_
  clear k9
  refine bound_call h1 (.inl rfl) (by decide +kernel) ent_len (fun {_ _ _} hQ => wpAny_of_eq (cb_len _) hQ) (run_len h2 rfl ?_)
  simpa using h
theorem bound_initN {pos : Pos} {env : Env} {Q : Value → Shared → Prop} (F : Fr h₀ L s.heap m) (N : News h₀ L s.heap news) (hq : (q, boundO "method-wrapper" "list.__init__" p) ∈ news) (U : Upd p (accO dx [] 0) (accO dx [] 0) news news')
    (h : ∀ h', Fr h₀ L h' m → News h₀ L h' news' → Q .none { s with heap := h' }) : wpAny (model PG w) A (callWith pos (.ref q) [] (backTo pos (starEach [] env)) []) Q E s := by
  have h1 := (N _ hq).1
  refine hide9 fun C9 k9 => ?_
  obtain ⟨pre, post, rfl, rfl, a, b⟩ := U.split
  refine k9 ?_
  clear k9
  have z := N (p, accO dx [] 0) (List.mem_append.mpr (.inr (.head _)))
  have fin := fun h' (hg : h'.get? p = some (accO dx [] 0)) (hs : Heap.SameBut p s.heap h') => h h' (F.change hs z.2.1 z.2.2) (news_set N a b hs hg)
  refine hide9 fun C9 k9 => ?_
  obtain ⟨hh, g, d, t, os⟩ := s
  refine k9 ?_
  clear k9
  exact bound_call h1 (.inl rfl) (by decide +kernel) ent_init (fun {_ _ _} hQ => wpAny_of_eq (cb_init _) hQ) (run_init z.1 fin)
theorem bound_popN {pos : Pos} {env : Env} {x : Value} {Q : Value → Shared → Prop} (F : Fr h₀ L s.heap m) (X₀ : (Mine.frag.heap_1 w.params).In h₀) (N : News h₀ L s.heap news) (hq : (q, boundO "builtin_function_or_method" "list.pop" p) ∈ news) (hdm : (dx, dictOf es e0) ∈ news)
    (U : Upd p (accO dx (items ++ [x]) n) (accO dx items (n + 1)) news news') (hsz : items.length ≤ 1000)
    (h : ∀ h', Fr h₀ L h' m → News h₀ L h' news' → Q x { s with heap := h' }) : wpAny (model PG w) A (callWith pos (.ref q) [] (backTo pos (starEach [] env)) []) Q E s := by
  have h1 := (N _ hq).1
  have hdx := (N _ hdm).1
  have X : (Mine.frag.heap_1 w.params).In s.heap := X₀.keeps F.keep
  refine hide9 fun C9 k9 => ?_
  obtain ⟨pre, post, rfl, rfl, a, b⟩ := U.split
  refine k9 ?_
  clear k9
  have z := N (p, accO dx (items ++ [x]) n) (List.mem_append.mpr (.inr (.head _)))
  have fin := fun h' (hg : h'.get? p = some (accO dx items (n + 1))) (hs : Heap.SameBut p s.heap h') => h h' (F.change hs z.2.1 z.2.2) (news_set N a b hs hg)
  have hp := z.1
  have e1 : (items ++ [x]).toArray = items.toArray.push x := by simp
  have I : InstAt s.heap p (accO dx (items ++ [x]) n) 101 (some (dictOf es e0)) := ⟨hp, rfl, rfl, hdx⟩
  refine hide9 fun C9 k9 => ?_
  obtain ⟨hh, g, d, t, os⟩ := s
  refine k9 ?_
  clear k9
  refine bound_call h1 (.inr rfl) (by decide +kernel) ent_pop (fun {_ _ _} hQ => cb_pop X hp I rfl hQ) (run_pop (ys := items.toArray) (k := n) (dx := dx) (x := x) ?_ (by simpa using hsz) fin)
  rw [← e1]; exact hp
theorem news_tl {a : Addr × Obj} {h : Heap} {l : List (Addr × Obj)} (N : News h₀ L h (a :: l)) : News h₀ L h l := fun x hx => N x (.tail _ hx)
theorem news_tl2 {a b : Addr × Obj} {h : Heap} {l : List (Addr × Obj)} (N : News h₀ L h (a :: b :: l)) : News h₀ L h (a :: l) := fun x hx => by
  rcases List.mem_cons.mp hx with rfl | hx
  · exact N _ (.head _)
  · exact N _ (.tail _ (.tail _ hx))
end
end Mine
end

section
open PySem PySem.W PySem.Calls PyProof.Rows
set_option maxRecDepth 100000
set_option maxHeartbeats 1000000
namespace Mine
section
variable {w : World} {A : Around} {E : Value → Shared → Prop} {s : Shared} {h₀ h : Heap} {L : Addr} {m : Str → Option Value} {news news' : List (Addr × Obj)}
  {p dx : Addr} {items : List Value} {n : Nat}
theorem k_mem0 (P : Params) : mroIn (Mine.frag.heap_1 P) 101 (.type "object") = some true := by kernel_rfl
theorem refl_ok (self : Value) : refuseLoop self "__setattr__" [.ref 101, .type "list", .type "object"] = pure () := by
  rw [refuseLoop_ref]; kernel_rfl
theorem f_ini (P : Params) : findIn (Mine.frag.heap_1 P) (.ref 101) "_initial_size" = some none := by kernel_rfl
theorem hasD (P : Params) : (clsIn (Mine.frag.heap_1 P) 101).any (·.hasDict) = true := by kernel_rfl
theorem acc_setIni {v : Value} {Q : Unit → Shared → Prop} (F : Fr h₀ L s.heap m) (X₀ : (Mine.frag.heap_1 w.params).In h₀) (N : News h₀ L s.heap news) (hp : (p, accO dx items n) ∈ news)
    (U : Upd dx (dictOf [] 0) (iniD (PyData.keyHash w.params "_initial_size") (s.toks + 1) v 1) news news')
    (h : ∀ h', Fr h₀ L h' m → News h₀ L h' news' → Q () { s with heap := h', toks := s.toks + 2 }) :
    wpAny (model PG w) A (setAttr (.ref p) "_initial_size" v) Q E s := by
  refine hide9 fun C9 k9 => ?_
  obtain ⟨hh, g, d, t, os⟩ := s
  refine k9 ?_
  clear k9
  dsimp only at F N U h ⊢
  refine hide9 fun C9 k9 => ?_
  obtain ⟨pre, post, rfl, e2, a, b⟩ := U.split
  refine k9 ?_
  clear k9
  subst e2
  have X : (Mine.frag.heap_1 w.params).In hh := X₀.keeps F.keep
  have D := (N (dx, dictOf [] 0) (List.mem_append.mpr (.inr (.head _)))).1
  have hpx := (N _ hp).1
  have I : InstAt hh p (accO dx items n) 101 (some (dictOf [] 0)) := ⟨hpx, rfl, rfl, D⟩
  refine set_plain X I (f_sa w.params) ?_
  have SF := PySem.F.store_object
  have sub : Looks (model PG w) hh (isInstance (.ref p) (.type "object")) true := I.type.andThen (looks_mroIn X (k_mem0 w.params))
  refine codeAny_call_builtin SF.slot.plain SF.entry (@check_slot (model PG w) _ _ _ "object.__setattr__" "object" "__setattr__" (.ref p) [.str "_initial_size" t, v] [] _ SF.kind SF.split sub (SF.args (.ref p) (.str "_initial_size" t) v) ?_)
  have hm := pk X (k_mro w.params)
  rw [osa_eq, refuse_eq]
  refine wpAny_bind (wpAny_bind (I.type.at (wpAny_bind (hm.at ?_))))
  rw [refl_ok]
  refine wpAny_pure (wpAny_bind (I.type.at (wpAny_bind ((looks_findIn X (f_ini w.params)).at ?_))))
  refine wpAny_bind (wpAny_pure ?_)
  obtain ⟨cd, hc, hd'⟩ := any_some (hasD w.params)
  have od' : Obj.putName "_initial_size" (PyData.keyHash w.params "_initial_size") (.str "_initial_size" (t + 1)) v (dictOf [] 0) = iniD (PyData.keyHash w.params "_initial_size") (t + 1) v 1 := by kernel_rfl
  obtain ⟨U1, U2⟩ := news_upd (f := Obj.putName "_initial_size" (PyData.keyHash w.params "_initial_size") (.str "_initial_size" (t + 1)) v) F N a b od' rfl
  have D' := (U2 (dx, iniD (PyData.keyHash w.params "_initial_size") (t + 1) v 1) (List.mem_append.mpr (.inr (.head _)))).1
  refine wpAny_bind (wpAny_pure (wpAny_bind (wpAny_bind (wpAny_loadPart hpx (wpAny_bind ((looks_clsIn X hc).at ?_))))))
  rw [hd']
  refine wpAny_pure (a := some dx) (wpAny_bind (wpAny_pure (wpAny_bind ?_)))
  unfold nsSet
  refine wpAny_bind (wpAny_bind (wpAny_askSetting (wpAny_pure (wpAny_bind (wpAny_mkText (wpAny_bind (wpAny_loadPart D ?_)))))))
  dsimp only
  rw [aRefKeyMayBeTheName_at, show (!(List.toArray ([] : List DictEntry)).any (·.key.isStr "_initial_size") && (List.toArray ([] : List DictEntry)).any (·.refKey)) = false from by simp]
  refine wpAny_updatePart D ?_
  refine wpAny_bind (wpAny_lookBehind D' (pastItsLine_dict (by simp [sizeLine_eq])) ?_)
  exact wpAny_pure (h _ U1 U2)
end
end Mine
end

section
open PySem PySem.W PySem.Calls PyProof.Rows
set_option maxRecDepth 100000
set_option maxHeartbeats 0
namespace Mine
theorem c_push (w : World) (loose mean mg mb) (dp un : Nat) (gd cn nms mr a ccd cl outer A₀ base h₀ L m news s) (p dx : Addr) (items : List Value) (n : Nat) (hh : Int) (t0 : Tok) (v0 : Value) (e0 : Nat)
   (H : At w loose mean mg mb dp un A₀ base h₀ outer L m ((p, accO dx items n) :: (dx, iniD hh t0 v0 e0) :: news) s) (x y : Str) (tx ty : Tok) (Q E : Value → Shared → Prop) (hpd : @Ne Nat p dx) (hpn : ∀ x ∈ news, x.1 ≠ p) (hlen : items.length ≤ 500)
   (hret : ∀ q h' tk' n', Fr h₀ L h' m → News h₀ L h' ((q, tupO [.str x tx, .str y ty]) :: (p, accO dx (items ++ [.ref q]) n') :: (dx, iniD hh t0 v0 e0) :: news) → Q .none { s with heap := h', toks := tk' }) :
   wpAny (model PG w) (topA dp un gd cn nms mr L a ccd cl outer) (call (.ref 45) [.ref p, .str x tx, .str y ty]) Q E s := by
  k_with_none
  (k_with "all here" => first | assumption | ((with_reducible refine List.forall_mem_cons.mpr ⟨?_, ?_⟩); k_ne; k_all) | ((repeat (cases ‹_ ∧ _›)); first | assumption | walk_at "all tail" | walk_at "all raw"))
  (k_with "execs cons" => (k_here; (fail_if_success k_gentoks); (fail_if_success k_made); (with_reducible refine wpAny_execs_cons ?_); k_fold; (try dsimp only)))
  (k_with "eval Name" => (k_here; (fail_if_success (with_reducible show wpAny _ _ (eval _ (compEnvC _ _ _ _)) _ _ _)); k_dflt (refine' nameX_C ?Nkq ?ckq ?mkq ?dkq ?_ ?akq ?bkq; (case akq => exact Eq.refl _); (case bkq => exact Eq.refl (some _)); (case Nkq => k_asm); (case ckq => exact Eq.refl (some _)); (case mkq => k_mem); (case dkq => k_asm); k_whole)))
  (k_with "eval Name" => (k_here; (fail_if_success (with_reducible show wpAny _ _ (eval _ (compEnvC _ _ _ _)) _ _ _)); k_dflt (refine' nameX_L ?Fkq ?vkq ?_ ?akq ?bkq; (case Fkq => k_asm); (case akq => exact Eq.refl _); (case bkq => exact Eq.refl (some _)); (case vkq => exact Eq.refl (some _)); k_whole)))
  (k_with "callWith ref" => (k_here; (with_reducible show wpAny _ _ (callWith _ (Value.ref (OfNat.ofNat _)) _ _ _) _ _ _); k_dflt (refine' callWith_KW ?k1q ?k2q ?k3q ?_; (case k1q => k_asm); (case k2q => k_is); (case k3q => exact rfl); k_whole)))
  (k_with "callWith ref" => (k_here; (with_reducible show wpAny _ _ (callWith _ (Value.ref (OfNat.ofNat _)) _ _ _) _ _ _); k_dflt (refine' callWith_K0 ?k1q ?k2q ?_; (case k1q => first | with_reducible assumption | exact Frag.In.keeps (by with_reducible assumption) (Fr.keep (by with_reducible assumption)) | k_in); (case k2q => k_is); k_whole)))
  (k_with "callWith ref" => (k_here; (with_reducible show wpAny _ _ (callWith _ (Value.ref (OfNat.ofNat _)) _ _ _) _ _ _); k_dflt (refine' callWith_K ?k1q ?k2q ?_; (case k1q => k_asm); (case k2q => k_is); k_whole)))
  (k_with "acc find" => first | exact am_append _ | exact am_push _ | exact am_popfrom _ | exact am_pop _ | exact am_pc _)
  (k_with "getMethod ref" => (k_here; k_dflt (refine' acc_methodN ?Fk2q ?Xk2q ?Ik2q ?fk2q ?sk2q ?_; (case Fk2q => k_asm); (case Xk2q => k_asm); (case Ik2q => k_inst); (case fk2q => walk_at "acc find"); (case sk2q => k_get); k_whole)))
  (k_with "call builtin:list.append" => (k_here; (with_reducible show wpAny _ _ (call (Value.builtin _) [Value.ref _, _]) _ _ _); k_dflt (refine' acc_appendN ?Fk3q ?Xk3q ?Nk3q ?Ik3q ?Uk3q ?zk3q ?_; (case Fk3q => k_asm); (case Xk3q => k_asm); (case Nk3q => k_asm); (case Ik3q => k_inst); (case Uk3q => k_upd); (case zk3q => first | assumption | omega); k_whole); intro _ _ _; (try k_sweep)))
  refine hide9 fun C9 k9 => ?_
  obtain ⟨B, F, X, N, T, hd, hu⟩ := H
  refine k9 ?_
  clear k9
  have z9 : PySem.Challenge.rw_wo0040_01 = PySem.Challenge.rw_wo0040_01 ∧ Mine.frag.heap_1 = Mine.frag.heap_1 := by
    k_fill
    exact ⟨rfl, rfl⟩
  clear z9
  k_steps
  exact hret _ _ _ _ (by assumption) (by assumption)
end Mine
end

section
open PySem PySem.W PySem.Calls PyProof.Rows
set_option maxRecDepth 100000
set_option maxHeartbeats 0
namespace Mine
theorem c_popfrom (w : World) (loose mean mg mb) (dp un : Nat) (gd cn nms mr a ccd cl outer A₀ base h₀ L m news s) (p dx : Addr) (items : List Value) (n : Nat) (hh : Int) (t0 : Tok) (v0 : Value) (e0 : Nat) (i : Int) (ti : Tok)
   (H : At w loose mean mg mb dp un A₀ base h₀ outer L m ((p, accO dx items n) :: (dx, iniD hh t0 v0 e0) :: news) s) (hpd : @Ne Nat p dx) (hpn : ∀ x ∈ news, x.1 ≠ p) (hlen : items.length ≤ 500) (h0 : 0 ≤ i) (hi : i ≤ items.length) (Q E : Value → Shared → Prop)
   (hret : ∀ l h' tk' n', Fr h₀ L h' m → News h₀ L h' ((l, listO (items.drop i.toNat) 0) :: (p, accO dx (items.take i.toNat) n') :: (dx, iniD hh t0 v0 e0) :: news) → Q (.ref l) { s with heap := h', toks := tk' }) :
   wpAny (model PG w) (topA dp un gd cn nms mr L a ccd cl outer) (call (.ref 53) [.ref p, .int i ti]) Q E s := by
  k_with_none
  (k_with "all here" => first | assumption | ((with_reducible refine List.forall_mem_cons.mpr ⟨?_, ?_⟩); k_ne; k_all) | ((repeat (cases ‹_ ∧ _›)); first | assumption | walk_at "all tail" | walk_at "all raw"))
  (k_with "execs cons" => (k_here; (fail_if_success k_gentoks); (fail_if_success k_made); (with_reducible refine wpAny_execs_cons ?_); k_fold; (try dsimp only)))
  (k_with "eval Name" => (k_here; (fail_if_success (with_reducible show wpAny _ _ (eval _ (compEnvC _ _ _ _)) _ _ _)); k_dflt (refine' nameX_C ?Nkq ?ckq ?mkq ?dkq ?_ ?akq ?bkq; (case akq => exact Eq.refl _); (case bkq => exact Eq.refl (some _)); (case Nkq => k_asm); (case ckq => exact Eq.refl (some _)); (case mkq => k_mem); (case dkq => k_asm); k_whole)))
  (k_with "eval Name" => (k_here; (fail_if_success (with_reducible show wpAny _ _ (eval _ (compEnvC _ _ _ _)) _ _ _)); k_dflt (refine' nameX_L ?Fkq ?vkq ?_ ?akq ?bkq; (case Fkq => k_asm); (case akq => exact Eq.refl _); (case bkq => exact Eq.refl (some _)); (case vkq => exact Eq.refl (some _)); k_whole)))
  (k_with "callWith ref" => (k_here; (with_reducible show wpAny _ _ (callWith _ (Value.ref (OfNat.ofNat _)) _ _ _) _ _ _); k_dflt (refine' callWith_KW ?k1q ?k2q ?k3q ?_; (case k1q => k_asm); (case k2q => k_is); (case k3q => exact rfl); k_whole)))
  (k_with "callWith ref" => (k_here; (with_reducible show wpAny _ _ (callWith _ (Value.ref (OfNat.ofNat _)) _ _ _) _ _ _); k_dflt (refine' callWith_K0 ?k1q ?k2q ?_; (case k1q => first | with_reducible assumption | exact Frag.In.keeps (by with_reducible assumption) (Fr.keep (by with_reducible assumption)) | k_in); (case k2q => k_is); k_whole)))
  (k_with "callWith ref" => (k_here; (with_reducible show wpAny _ _ (callWith _ (Value.ref (OfNat.ofNat _)) _ _ _) _ _ _); k_dflt (refine' callWith_K ?k1q ?k2q ?_; (case k1q => k_asm); (case k2q => k_is); k_whole)))
  (k_with "acc find" => first | exact am_append _ | exact am_push _ | exact am_popfrom _ | exact am_pop _ | exact am_pc _)
  (k_with "getMethod ref" => (k_here; k_dflt (refine' acc_methodN ?Fk5q ?Xk5q ?Ik5q ?fk5q ?sk5q ?_; (case Fk5q => k_asm); (case Xk5q => k_asm); (case Ik5q => k_inst); (case fk5q => walk_at "acc find"); (case sk5q => k_get); k_whole)))
  (k_with "call builtin:list.append" => (k_here; (with_reducible show wpAny _ _ (call (Value.builtin _) [Value.ref _, _]) _ _ _); k_dflt (refine' acc_appendN ?Fk6q ?Xk6q ?Nk6q ?Ik6q ?Uk6q ?zk6q ?_; (case Fk6q => k_asm); (case Xk6q => k_asm); (case Nk6q => k_asm); (case Ik6q => k_inst); (case Uk6q => k_upd); (case zk6q => first | assumption | omega); k_whole); intro _ _ _; (try k_sweep)))
  (k_with "acc le" => first | assumption | omega)
  (k_with "subscriptTail" => (k_here; (with_reducible show wpAny _ _ (subscriptTail _ (PySem.Expr.Slice _ _ none _) (Value.ref _) (Value.ref _)) _ _ _); k_dflt (refine' acc_sliceT ?Fk8q ?Xk8q ?Nk8q ?mk8q ?dk8q ?ak8q ?bk8q ?ck8q ?_; (case Fk8q => k_asm); (case Xk8q => k_asm); (case Nk8q => k_asm); (case mk8q => k_mem); (case dk8q => k_mem); (case ak8q => walk_at "acc le"); (case bk8q => walk_at "acc le"); (case ck8q => walk_at "acc le"); k_whole); intro _ _ _ _ l1zq; (try k_lt l1zq); (try k_sweep)))
  (k_with "setItem ref ref" => (k_here; k_dflt (refine' acc_cutT ?Fk9q ?Xk9q ?Nk9q ?mk9q ?dk9q ?ek9q ?nk9q ?ak9q ?bk9q ?ck9q ?Uk9q ?_; (case Fk9q => k_asm); (case Xk9q => k_asm); (case Nk9q => k_asm); (case mk9q => k_mem); (case dk9q => k_mem); (case ek9q => k_mem); (case nk9q => k_ne); (case ak9q => walk_at "acc le"); (case bk9q => walk_at "acc le"); (case ck9q => walk_at "acc le"); (case Uk9q => (intro nzq; k_upd)); k_whole); intro _ nzq _ Nzq; (try dsimp only at Nzq); (try k_sweep)))
  (k_with "acc sup" => first | exact SupM.len | exact SupM.pop | exact SupM.init)
  (k_with "getMethod ref" => (k_here; k_dflt (refine' sup_N ?Zk11q ?Fk11q ?Xk11q ?Nk11q ?mk11q ?Ik11q ?_; (case Fk11q => k_asm); (case Xk11q => k_asm); (case Nk11q => k_asm); (case mk11q => k_mem); (case Ik11q => k_inst); (case Zk11q => walk_at "acc sup"); k_whole); intro _ _ _ _ l1zq; (try k_lt l1zq); (try k_sweep)))
  (k_with "callWith ref" => (k_here; k_dflt (first | (refine' bound_lenN ?Nk12q ?qk12q ?pk12q ?_; (case Nk12q => k_asm); (case qk12q => k_mem); (case pk12q => k_mem); k_whole) | (refine' bound_initN ?Fk12q ?Nk12q ?qk12q ?Uk12q ?_; (case Fk12q => k_asm); (case Nk12q => k_asm); (case qk12q => k_mem); (case Uk12q => k_upd); k_whole; intro hzq Fzq Nzq; (try k_sweep)) | (refine' bound_popN ?Fk12q ?Xk12q ?Nk12q ?qk12q ?dk12q ?Uk12q ?zk12q ?_; (case Fk12q => k_asm); (case Xk12q => k_asm); (case Nk12q => k_asm); (case qk12q => k_mem); (case dk12q => k_mem); (case Uk12q => k_upd); (case zk12q => walk_at "acc le"); k_whole; intro hzq Fzq Nzq; (try k_sweep)))))
  (k_with "fin news" => first | assumption | exact news_tl (by assumption) | exact news_tl (news_tl (by assumption)) | exact news_tl (news_tl (news_tl (by assumption))) | exact news_tl (news_tl (news_tl (news_tl (by assumption)))))
  (k_with "call ref" => (k_here; (with_reducible show wpAny _ _ (call (Value.ref 101) _ _) _ _ _); k_dflt (refine' acc_makeN ?Fk14q ?Xk14q ?Nk14q ?_; (case Fk14q => k_asm); (case Xk14q => k_asm); (case Nk14q => k_asm); k_whole; intro _ _ _ _ _ l1zq l2zq; (try k_lt l1zq); (try k_lt2 l2zq); (try k_sweep); walk_at "acc enter")))
  (k_with "wpAt" => (ks_step "eval Call"; k_dflt (refine ks_wpAt_MethodCall ?_)))
  (k_with "wpAt" => (ks_step "execs cons"; k_dflt (refine ks_wpAt_execs_cons ?_)))
  (k_with "wpAt" => (ks_step "exec Expr"; k_dflt (refine ks_wpAt_Expr_any ?_)))
  (k_with "wpAt" => (ks_step "exec Return"; k_dflt (refine ks_wpAt_Return_some ?_)))
  (k_with "wpAt" => (ks_step "exec Assign"; k_dflt (first | refine ks_wpAt_Assign_Name ?_ | refine ks_wpAt_Assign_Attr ?_)))
  (k_with "wpAt" => (ks_step "exec If"; k_dflt (refine ks_wpAt_If ?_)))
  (k_with "acc enter" => (refine' ks_code_super ?k1k21q ?k2k21q ?k3k21q ?k4k21q ?k5k21q ?kAk21q ?kFk21q ?kKk21q ?k6k21q ?k7k21q ?k8k21q ?k9k21q ?kBk21q ?_ ?c1k21q ?c2k21q ?c3k21q ?c4k21q; (case kAk21q => exact rfl); (case kFk21q => exact rfl); (case kKk21q => exact rfl); (case k1k21q => k_asm); (case k2k21q => k_asm); (case k3k21q => k_asm); (case k4k21q => k_asm); (case k5k21q => k_asm); (case k6k21q => k_is); (case k7k21q => k_is); (case k8k21q => k_room); (case k9k21q => first | exact BindsTo.of_eq rfl | exact binds_K (by k_in) rfl (by k_is) rfl rfl rfl); (case kBk21q => exact locs rfl); (case c1k21q => decide); (case c2k21q => exact rfl); (case c3k21q => exact rfl); (case c4k21q => exact rfl); intro _ _ _ _ _ _ Bzq _ _ l1zq; (try k_lt l1zq); (try dsimp only); (try k_lift Bzq)))
  (k_with "setAttr ref" => (k_here; k_dflt (refine' acc_setIni ?Fk22q ?Xk22q ?Nk22q ?pk22q ?Uk22q ?_; (case Fk22q => k_asm); (case Xk22q => k_asm); (case Nk22q => k_asm); (case pk22q => k_mem); (case Uk22q => k_upd); k_whole; intro _ _ _; (try k_sweep))))
  (k_with "wpAt" => (dsimp only; first | (ks_step "execs cons"; k_dflt (refine ks_wpAt_execs_cons ?_)) | (ks_step "exec Return"; k_dflt (refine ks_wpAt_Return_some ?_))))
  refine hide9 fun C9 k9 => ?_
  obtain ⟨B, F, X, N, T, hd, hu⟩ := H
  refine k9 ?_
  clear k9
  have z9 : PySem.Challenge.rw_wo0040_01 = PySem.Challenge.rw_wo0040_01 ∧ Mine.frag.heap_1 = Mine.frag.heap_1 := by
    k_fill
    exact ⟨rfl, rfl⟩
  clear z9
  k_steps
  exact hret _ _ _ _ (by assumption) (by walk_at "fin news")

end Mine
end

section
open PySem PySem.W PySem.Calls PyProof.Rows
set_option maxRecDepth 100000
set_option maxHeartbeats 0
namespace Mine
theorem c_pc (w : World) (loose mean mg mb) (dp un : Nat) (gd cn nms mr a ccd cl outer A₀ base h₀ L m news s) (p dx : Addr) (items : List Value) (n : Nat) (hh : Int) (t0 : Tok) (v0 : Value) (e0 : Nat)
   (H : At w loose mean mg mb dp un A₀ base h₀ outer L m ((p, accO dx items n) :: (dx, iniD hh t0 v0 e0) :: news) s) (hpd : @Ne Nat p dx) (hpn : ∀ x ∈ news, x.1 ≠ p) (hlen : items.length ≤ 500) (Q E : Value → Shared → Prop)
   (hret : ∀ h' tk' t', Fr h₀ L h' m → News h₀ L h' ((p, accO dx items n) :: (dx, iniD hh t0 v0 e0) :: news) → Q (.int items.length t') { s with heap := h', toks := tk' }) :
   wpAny (model PG w) (topA dp un gd cn nms mr L a ccd cl outer) (call (.ref 98) [.ref p]) Q E s := by
  k_with_none
  (k_with "all here" => first | assumption | ((with_reducible refine List.forall_mem_cons.mpr ⟨?_, ?_⟩); k_ne; k_all) | ((repeat (cases ‹_ ∧ _›)); first | assumption | walk_at "all tail" | walk_at "all raw"))
  (k_with "execs cons" => (k_here; (fail_if_success k_gentoks); (fail_if_success k_made); (with_reducible refine wpAny_execs_cons ?_); k_fold; (try dsimp only)))
  (k_with "eval Name" => (k_here; (fail_if_success (with_reducible show wpAny _ _ (eval _ (compEnvC _ _ _ _)) _ _ _)); k_dflt (refine' nameX_C ?Nkq ?ckq ?mkq ?dkq ?_ ?akq ?bkq; (case akq => exact Eq.refl _); (case bkq => exact Eq.refl (some _)); (case Nkq => k_asm); (case ckq => exact Eq.refl (some _)); (case mkq => k_mem); (case dkq => k_asm); k_whole)))
  (k_with "eval Name" => (k_here; (fail_if_success (with_reducible show wpAny _ _ (eval _ (compEnvC _ _ _ _)) _ _ _)); k_dflt (refine' nameX_L ?Fkq ?vkq ?_ ?akq ?bkq; (case Fkq => k_asm); (case akq => exact Eq.refl _); (case bkq => exact Eq.refl (some _)); (case vkq => exact Eq.refl (some _)); k_whole)))
  (k_with "callWith ref" => (k_here; (with_reducible show wpAny _ _ (callWith _ (Value.ref (OfNat.ofNat _)) _ _ _) _ _ _); k_dflt (refine' callWith_KW ?k1q ?k2q ?k3q ?_; (case k1q => k_asm); (case k2q => k_is); (case k3q => exact rfl); k_whole)))
  (k_with "callWith ref" => (k_here; (with_reducible show wpAny _ _ (callWith _ (Value.ref (OfNat.ofNat _)) _ _ _) _ _ _); k_dflt (refine' callWith_K0 ?k1q ?k2q ?_; (case k1q => first | with_reducible assumption | exact Frag.In.keeps (by with_reducible assumption) (Fr.keep (by with_reducible assumption)) | k_in); (case k2q => k_is); k_whole)))
  (k_with "callWith ref" => (k_here; (with_reducible show wpAny _ _ (callWith _ (Value.ref (OfNat.ofNat _)) _ _ _) _ _ _); k_dflt (refine' callWith_K ?k1q ?k2q ?_; (case k1q => k_asm); (case k2q => k_is); k_whole)))
  (k_with "acc find" => first | exact am_append _ | exact am_push _ | exact am_popfrom _ | exact am_pop _ | exact am_pc _)
  (k_with "getMethod ref" => (k_here; k_dflt (refine' acc_methodN ?Fk25q ?Xk25q ?Ik25q ?fk25q ?sk25q ?_; (case Fk25q => k_asm); (case Xk25q => k_asm); (case Ik25q => k_inst); (case fk25q => walk_at "acc find"); (case sk25q => k_get); k_whole)))
  (k_with "call builtin:list.append" => (k_here; (with_reducible show wpAny _ _ (call (Value.builtin _) [Value.ref _, _]) _ _ _); k_dflt (refine' acc_appendN ?Fk26q ?Xk26q ?Nk26q ?Ik26q ?Uk26q ?zk26q ?_; (case Fk26q => k_asm); (case Xk26q => k_asm); (case Nk26q => k_asm); (case Ik26q => k_inst); (case Uk26q => k_upd); (case zk26q => first | assumption | omega); k_whole); intro _ _ _; (try k_sweep)))
  (k_with "acc le" => first | assumption | omega)
  (k_with "subscriptTail" => (k_here; (with_reducible show wpAny _ _ (subscriptTail _ (PySem.Expr.Slice _ _ none _) (Value.ref _) (Value.ref _)) _ _ _); k_dflt (refine' acc_sliceT ?Fk28q ?Xk28q ?Nk28q ?mk28q ?dk28q ?ak28q ?bk28q ?ck28q ?_; (case Fk28q => k_asm); (case Xk28q => k_asm); (case Nk28q => k_asm); (case mk28q => k_mem); (case dk28q => k_mem); (case ak28q => walk_at "acc le"); (case bk28q => walk_at "acc le"); (case ck28q => walk_at "acc le"); k_whole); intro _ _ _ _ l1zq; (try k_lt l1zq); (try k_sweep)))
  (k_with "setItem ref ref" => (k_here; k_dflt (refine' acc_cutT ?Fk29q ?Xk29q ?Nk29q ?mk29q ?dk29q ?ek29q ?nk29q ?ak29q ?bk29q ?ck29q ?Uk29q ?_; (case Fk29q => k_asm); (case Xk29q => k_asm); (case Nk29q => k_asm); (case mk29q => k_mem); (case dk29q => k_mem); (case ek29q => k_mem); (case nk29q => k_ne); (case ak29q => walk_at "acc le"); (case bk29q => walk_at "acc le"); (case ck29q => walk_at "acc le"); (case Uk29q => (intro nzq; k_upd)); k_whole); intro _ nzq _ Nzq; (try dsimp only at Nzq); (try k_sweep)))
  (k_with "acc sup" => first | exact SupM.len | exact SupM.pop | exact SupM.init)
  (k_with "getMethod ref" => (k_here; k_dflt (refine' sup_N ?Zk31q ?Fk31q ?Xk31q ?Nk31q ?mk31q ?Ik31q ?_; (case Fk31q => k_asm); (case Xk31q => k_asm); (case Nk31q => k_asm); (case mk31q => k_mem); (case Ik31q => k_inst); (case Zk31q => walk_at "acc sup"); k_whole); intro _ _ _ _ l1zq; (try k_lt l1zq); (try k_sweep)))
  (k_with "callWith ref" => (k_here; k_dflt (first | (refine' bound_lenN ?Nk32q ?qk32q ?pk32q ?_; (case Nk32q => k_asm); (case qk32q => k_mem); (case pk32q => k_mem); k_whole) | (refine' bound_initN ?Fk32q ?Nk32q ?qk32q ?Uk32q ?_; (case Fk32q => k_asm); (case Nk32q => k_asm); (case qk32q => k_mem); (case Uk32q => k_upd); k_whole; intro hzq Fzq Nzq; (try k_sweep)) | (refine' bound_popN ?Fk32q ?Xk32q ?Nk32q ?qk32q ?dk32q ?Uk32q ?zk32q ?_; (case Fk32q => k_asm); (case Xk32q => k_asm); (case Nk32q => k_asm); (case qk32q => k_mem); (case dk32q => k_mem); (case Uk32q => k_upd); (case zk32q => walk_at "acc le"); k_whole; intro hzq Fzq Nzq; (try k_sweep)))))
  (k_with "fin news" => first | assumption | exact news_tl (by assumption) | exact news_tl (news_tl (by assumption)) | exact news_tl (news_tl (news_tl (by assumption))) | exact news_tl (news_tl (news_tl (news_tl (by assumption)))))
  (k_with "call ref" => (k_here; (with_reducible show wpAny _ _ (call (Value.ref 101) _ _) _ _ _); k_dflt (refine' acc_makeN ?Fk34q ?Xk34q ?Nk34q ?_; (case Fk34q => k_asm); (case Xk34q => k_asm); (case Nk34q => k_asm); k_whole; intro _ _ _ _ _ l1zq l2zq; (try k_lt l1zq); (try k_lt2 l2zq); (try k_sweep); walk_at "acc enter")))
  (k_with "wpAt" => (ks_step "eval Call"; k_dflt (refine ks_wpAt_MethodCall ?_)))
  (k_with "wpAt" => (ks_step "execs cons"; k_dflt (refine ks_wpAt_execs_cons ?_)))
  (k_with "wpAt" => (ks_step "exec Expr"; k_dflt (refine ks_wpAt_Expr_any ?_)))
  (k_with "wpAt" => (ks_step "exec Return"; k_dflt (refine ks_wpAt_Return_some ?_)))
  (k_with "wpAt" => (ks_step "exec Assign"; k_dflt (first | refine ks_wpAt_Assign_Name ?_ | refine ks_wpAt_Assign_Attr ?_)))
  (k_with "wpAt" => (ks_step "exec If"; k_dflt (refine ks_wpAt_If ?_)))
  (k_with "acc enter" => (refine' ks_code_super ?k1k41q ?k2k41q ?k3k41q ?k4k41q ?k5k41q ?kAk41q ?kFk41q ?kKk41q ?k6k41q ?k7k41q ?k8k41q ?k9k41q ?kBk41q ?_ ?c1k41q ?c2k41q ?c3k41q ?c4k41q; (case kAk41q => exact rfl); (case kFk41q => exact rfl); (case kKk41q => exact rfl); (case k1k41q => k_asm); (case k2k41q => k_asm); (case k3k41q => k_asm); (case k4k41q => k_asm); (case k5k41q => k_asm); (case k6k41q => k_is); (case k7k41q => k_is); (case k8k41q => k_room); (case k9k41q => first | exact BindsTo.of_eq rfl | exact binds_K (by k_in) rfl (by k_is) rfl rfl rfl); (case kBk41q => exact locs rfl); (case c1k41q => decide); (case c2k41q => exact rfl); (case c3k41q => exact rfl); (case c4k41q => exact rfl); intro _ _ _ _ _ _ Bzq _ _ l1zq; (try k_lt l1zq); (try dsimp only); (try k_lift Bzq)))
  (k_with "setAttr ref" => (k_here; k_dflt (refine' acc_setIni ?Fk42q ?Xk42q ?Nk42q ?pk42q ?Uk42q ?_; (case Fk42q => k_asm); (case Xk42q => k_asm); (case Nk42q => k_asm); (case pk42q => k_mem); (case Uk42q => k_upd); k_whole; intro _ _ _; (try k_sweep))))
  (k_with "wpAt" => (dsimp only; first | (ks_step "execs cons"; k_dflt (refine ks_wpAt_execs_cons ?_)) | (ks_step "exec Return"; k_dflt (refine ks_wpAt_Return_some ?_))))
  refine hide9 fun C9 k9 => ?_
  obtain ⟨B, F, X, N, T, hd, hu⟩ := H
  refine k9 ?_
  clear k9
  have z9 : PySem.Challenge.rw_wo0040_01 = PySem.Challenge.rw_wo0040_01 ∧ Mine.frag.heap_1 = Mine.frag.heap_1 := by
    k_fill
    exact ⟨rfl, rfl⟩
  clear z9
  k_steps
  exact hret _ _ _ (by assumption) (by walk_at "fin news")

end Mine
end

section
open PySem PySem.W PySem.Calls PyProof.Rows
set_option maxRecDepth 100000
set_option maxHeartbeats 0
namespace Mine
theorem c_pop (w : World) (loose mean mg mb) (dp un : Nat) (gd cn nms mr a ccd cl outer A₀ base h₀ L m news s) (p dx : Addr) (items : List Value) (n : Nat) (hh : Int) (t0 : Tok) (v0 : Value) (e0 : Nat) (x : Value)
   (H : At w loose mean mg mb dp un A₀ base h₀ outer L m ((p, accO dx (items ++ [x]) n) :: (dx, iniD hh t0 v0 e0) :: news) s) (hpd : @Ne Nat p dx) (hpn : ∀ x ∈ news, x.1 ≠ p) (hlen : items.length ≤ 500) (Q E : Value → Shared → Prop)
   (hret : ∀ h' tk' n', Fr h₀ L h' m → News h₀ L h' ((p, accO dx items n') :: (dx, iniD hh t0 v0 e0) :: news) → Q x { s with heap := h', toks := tk' }) :
   wpAny (model PG w) (topA dp un gd cn nms mr L a ccd cl outer) (call (.ref 61) [.ref p]) Q E s := by
  k_with_none
  (k_with "all here" => first | assumption | ((with_reducible refine List.forall_mem_cons.mpr ⟨?_, ?_⟩); k_ne; k_all) | ((repeat (cases ‹_ ∧ _›)); first | assumption | walk_at "all tail" | walk_at "all raw"))
  (k_with "execs cons" => (k_here; (fail_if_success k_gentoks); (fail_if_success k_made); (with_reducible refine wpAny_execs_cons ?_); k_fold; (try dsimp only)))
  (k_with "eval Name" => (k_here; (fail_if_success (with_reducible show wpAny _ _ (eval _ (compEnvC _ _ _ _)) _ _ _)); k_dflt (refine' nameX_C ?Nkq ?ckq ?mkq ?dkq ?_ ?akq ?bkq; (case akq => exact Eq.refl _); (case bkq => exact Eq.refl (some _)); (case Nkq => k_asm); (case ckq => exact Eq.refl (some _)); (case mkq => k_mem); (case dkq => k_asm); k_whole)))
  (k_with "eval Name" => (k_here; (fail_if_success (with_reducible show wpAny _ _ (eval _ (compEnvC _ _ _ _)) _ _ _)); k_dflt (refine' nameX_L ?Fkq ?vkq ?_ ?akq ?bkq; (case Fkq => k_asm); (case akq => exact Eq.refl _); (case bkq => exact Eq.refl (some _)); (case vkq => exact Eq.refl (some _)); k_whole)))
  (k_with "callWith ref" => (k_here; (with_reducible show wpAny _ _ (callWith _ (Value.ref (OfNat.ofNat _)) _ _ _) _ _ _); k_dflt (refine' callWith_KW ?k1q ?k2q ?k3q ?_; (case k1q => k_asm); (case k2q => k_is); (case k3q => exact rfl); k_whole)))
  (k_with "callWith ref" => (k_here; (with_reducible show wpAny _ _ (callWith _ (Value.ref (OfNat.ofNat _)) _ _ _) _ _ _); k_dflt (refine' callWith_K0 ?k1q ?k2q ?_; (case k1q => first | with_reducible assumption | exact Frag.In.keeps (by with_reducible assumption) (Fr.keep (by with_reducible assumption)) | k_in); (case k2q => k_is); k_whole)))
  (k_with "callWith ref" => (k_here; (with_reducible show wpAny _ _ (callWith _ (Value.ref (OfNat.ofNat _)) _ _ _) _ _ _); k_dflt (refine' callWith_K ?k1q ?k2q ?_; (case k1q => k_asm); (case k2q => k_is); k_whole)))
  (k_with "acc find" => first | exact am_append _ | exact am_push _ | exact am_popfrom _ | exact am_pop _ | exact am_pc _)
  (k_with "getMethod ref" => (k_here; k_dflt (refine' acc_methodN ?Fk45q ?Xk45q ?Ik45q ?fk45q ?sk45q ?_; (case Fk45q => k_asm); (case Xk45q => k_asm); (case Ik45q => k_inst); (case fk45q => walk_at "acc find"); (case sk45q => k_get); k_whole)))
  (k_with "call builtin:list.append" => (k_here; (with_reducible show wpAny _ _ (call (Value.builtin _) [Value.ref _, _]) _ _ _); k_dflt (refine' acc_appendN ?Fk46q ?Xk46q ?Nk46q ?Ik46q ?Uk46q ?zk46q ?_; (case Fk46q => k_asm); (case Xk46q => k_asm); (case Nk46q => k_asm); (case Ik46q => k_inst); (case Uk46q => k_upd); (case zk46q => first | assumption | omega); k_whole); intro _ _ _; (try k_sweep)))
  (k_with "acc le" => first | assumption | omega)
  (k_with "subscriptTail" => (k_here; (with_reducible show wpAny _ _ (subscriptTail _ (PySem.Expr.Slice _ _ none _) (Value.ref _) (Value.ref _)) _ _ _); k_dflt (refine' acc_sliceT ?Fk48q ?Xk48q ?Nk48q ?mk48q ?dk48q ?ak48q ?bk48q ?ck48q ?_; (case Fk48q => k_asm); (case Xk48q => k_asm); (case Nk48q => k_asm); (case mk48q => k_mem); (case dk48q => k_mem); (case ak48q => walk_at "acc le"); (case bk48q => walk_at "acc le"); (case ck48q => walk_at "acc le"); k_whole); intro _ _ _ _ l1zq; (try k_lt l1zq); (try k_sweep)))
  (k_with "setItem ref ref" => (k_here; k_dflt (refine' acc_cutT ?Fk49q ?Xk49q ?Nk49q ?mk49q ?dk49q ?ek49q ?nk49q ?ak49q ?bk49q ?ck49q ?Uk49q ?_; (case Fk49q => k_asm); (case Xk49q => k_asm); (case Nk49q => k_asm); (case mk49q => k_mem); (case dk49q => k_mem); (case ek49q => k_mem); (case nk49q => k_ne); (case ak49q => walk_at "acc le"); (case bk49q => walk_at "acc le"); (case ck49q => walk_at "acc le"); (case Uk49q => (intro nzq; k_upd)); k_whole); intro _ nzq _ Nzq; (try dsimp only at Nzq); (try k_sweep)))
  (k_with "acc sup" => first | exact SupM.len | exact SupM.pop | exact SupM.init)
  (k_with "getMethod ref" => (k_here; k_dflt (refine' sup_N ?Zk51q ?Fk51q ?Xk51q ?Nk51q ?mk51q ?Ik51q ?_; (case Fk51q => k_asm); (case Xk51q => k_asm); (case Nk51q => k_asm); (case mk51q => k_mem); (case Ik51q => k_inst); (case Zk51q => walk_at "acc sup"); k_whole); intro _ _ _ _ l1zq; (try k_lt l1zq); (try k_sweep)))
  (k_with "callWith ref" => (k_here; k_dflt (first | (refine' bound_lenN ?Nk52q ?qk52q ?pk52q ?_; (case Nk52q => k_asm); (case qk52q => k_mem); (case pk52q => k_mem); k_whole) | (refine' bound_initN ?Fk52q ?Nk52q ?qk52q ?Uk52q ?_; (case Fk52q => k_asm); (case Nk52q => k_asm); (case qk52q => k_mem); (case Uk52q => k_upd); k_whole; intro hzq Fzq Nzq; (try k_sweep)) | (refine' bound_popN ?Fk52q ?Xk52q ?Nk52q ?qk52q ?dk52q ?Uk52q ?zk52q ?_; (case Fk52q => k_asm); (case Xk52q => k_asm); (case Nk52q => k_asm); (case qk52q => k_mem); (case dk52q => k_mem); (case Uk52q => k_upd); (case zk52q => walk_at "acc le"); k_whole; intro hzq Fzq Nzq; (try k_sweep)))))
  (k_with "fin news" => first | assumption | exact news_tl (by assumption) | exact news_tl (news_tl (by assumption)) | exact news_tl (news_tl (news_tl (by assumption))) | exact news_tl (news_tl (news_tl (news_tl (by assumption)))))
  (k_with "call ref" => (k_here; (with_reducible show wpAny _ _ (call (Value.ref 101) _ _) _ _ _); k_dflt (refine' acc_makeN ?Fk54q ?Xk54q ?Nk54q ?_; (case Fk54q => k_asm); (case Xk54q => k_asm); (case Nk54q => k_asm); k_whole; intro _ _ _ _ _ l1zq l2zq; (try k_lt l1zq); (try k_lt2 l2zq); (try k_sweep); walk_at "acc enter")))
  (k_with "wpAt" => (ks_step "eval Call"; k_dflt (refine ks_wpAt_MethodCall ?_)))
  (k_with "wpAt" => (ks_step "execs cons"; k_dflt (refine ks_wpAt_execs_cons ?_)))
  (k_with "wpAt" => (ks_step "exec Expr"; k_dflt (refine ks_wpAt_Expr_any ?_)))
  (k_with "wpAt" => (ks_step "exec Return"; k_dflt (refine ks_wpAt_Return_some ?_)))
  (k_with "wpAt" => (ks_step "exec Assign"; k_dflt (first | refine ks_wpAt_Assign_Name ?_ | refine ks_wpAt_Assign_Attr ?_)))
  (k_with "wpAt" => (ks_step "exec If"; k_dflt (refine ks_wpAt_If ?_)))
  (k_with "acc enter" => (refine' ks_code_super ?k1k61q ?k2k61q ?k3k61q ?k4k61q ?k5k61q ?kAk61q ?kFk61q ?kKk61q ?k6k61q ?k7k61q ?k8k61q ?k9k61q ?kBk61q ?_ ?c1k61q ?c2k61q ?c3k61q ?c4k61q; (case kAk61q => exact rfl); (case kFk61q => exact rfl); (case kKk61q => exact rfl); (case k1k61q => k_asm); (case k2k61q => k_asm); (case k3k61q => k_asm); (case k4k61q => k_asm); (case k5k61q => k_asm); (case k6k61q => k_is); (case k7k61q => k_is); (case k8k61q => k_room); (case k9k61q => first | exact BindsTo.of_eq rfl | exact binds_K (by k_in) rfl (by k_is) rfl rfl rfl); (case kBk61q => exact locs rfl); (case c1k61q => decide); (case c2k61q => exact rfl); (case c3k61q => exact rfl); (case c4k61q => exact rfl); intro _ _ _ _ _ _ Bzq _ _ l1zq; (try k_lt l1zq); (try dsimp only); (try k_lift Bzq)))
  (k_with "setAttr ref" => (k_here; k_dflt (refine' acc_setIni ?Fk62q ?Xk62q ?Nk62q ?pk62q ?Uk62q ?_; (case Fk62q => k_asm); (case Xk62q => k_asm); (case Nk62q => k_asm); (case pk62q => k_mem); (case Uk62q => k_upd); k_whole; intro _ _ _; (try k_sweep))))
  (k_with "wpAt" => (dsimp only; first | (ks_step "execs cons"; k_dflt (refine ks_wpAt_execs_cons ?_)) | (ks_step "exec Return"; k_dflt (refine ks_wpAt_Return_some ?_))))
  refine hide9 fun C9 k9 => ?_
  obtain ⟨B, F, X, N, T, hd, hu⟩ := H
  refine k9 ?_
  clear k9
  have z9 : PySem.Challenge.rw_wo0040_01 = PySem.Challenge.rw_wo0040_01 ∧ Mine.frag.heap_1 = Mine.frag.heap_1 := by
    k_fill
    exact ⟨rfl, rfl⟩
  clear z9
  have hl9 : ((items ++ [x]).length : Int) = (items.length : Int) + 1 := by simp
  k_steps
  all_goals first | exact hret _ _ _ (by assumption) (by walk_at "fin news") | (exfalso; simp at *; done) | (exfalso; simp at *; omega)

end Mine
end

section
open PySem PySem.W PySem.Calls PyProof.Rows
set_option maxRecDepth 100000
set_option maxHeartbeats 0
namespace Mine
theorem c_make (w : World) (loose mean mg mb) (dp un : Nat) (gd cn nms mr a ccd cl outer A₀ base h₀ L m news s) (k : Int) (tk0 : Tok)
   (H : At w loose mean mg mb dp un A₀ base h₀ outer L m (news) s)  (Q E : Value → Shared → Prop)
   (hret : ∀ p dx h' tk' n' hh t0 e0, Fr h₀ L h' m → News h₀ L h' ((p, accO dx [] n') :: (dx, iniD hh t0 (.int k tk0) e0) :: news) → dx < p → (∀ x ∈ news, x.1 < dx) → Q (.ref p) { s with heap := h', toks := tk' }) :
   wpAny (model PG w) (topA dp un gd cn nms mr L a ccd cl outer) (call (.ref 101) [.int k tk0]) Q E s := by
  k_with_none
  (k_with "all here" => first | assumption | ((with_reducible refine List.forall_mem_cons.mpr ⟨?_, ?_⟩); k_ne; k_all) | ((repeat (cases ‹_ ∧ _›)); first | assumption | walk_at "all tail" | walk_at "all raw"))
  (k_with "execs cons" => (k_here; (fail_if_success k_gentoks); (fail_if_success k_made); (with_reducible refine wpAny_execs_cons ?_); k_fold; (try dsimp only)))
  (k_with "eval Name" => (k_here; (fail_if_success (with_reducible show wpAny _ _ (eval _ (compEnvC _ _ _ _)) _ _ _)); k_dflt (refine' nameX_C ?Nkq ?ckq ?mkq ?dkq ?_ ?akq ?bkq; (case akq => exact Eq.refl _); (case bkq => exact Eq.refl (some _)); (case Nkq => k_asm); (case ckq => exact Eq.refl (some _)); (case mkq => k_mem); (case dkq => k_asm); k_whole)))
  (k_with "eval Name" => (k_here; (fail_if_success (with_reducible show wpAny _ _ (eval _ (compEnvC _ _ _ _)) _ _ _)); k_dflt (refine' nameX_L ?Fkq ?vkq ?_ ?akq ?bkq; (case Fkq => k_asm); (case akq => exact Eq.refl _); (case bkq => exact Eq.refl (some _)); (case vkq => exact Eq.refl (some _)); k_whole)))
  (k_with "callWith ref" => (k_here; (with_reducible show wpAny _ _ (callWith _ (Value.ref (OfNat.ofNat _)) _ _ _) _ _ _); k_dflt (refine' callWith_KW ?k1q ?k2q ?k3q ?_; (case k1q => k_asm); (case k2q => k_is); (case k3q => exact rfl); k_whole)))
  (k_with "callWith ref" => (k_here; (with_reducible show wpAny _ _ (callWith _ (Value.ref (OfNat.ofNat _)) _ _ _) _ _ _); k_dflt (refine' callWith_K0 ?k1q ?k2q ?_; (case k1q => first | with_reducible assumption | exact Frag.In.keeps (by with_reducible assumption) (Fr.keep (by with_reducible assumption)) | k_in); (case k2q => k_is); k_whole)))
  (k_with "callWith ref" => (k_here; (with_reducible show wpAny _ _ (callWith _ (Value.ref (OfNat.ofNat _)) _ _ _) _ _ _); k_dflt (refine' callWith_K ?k1q ?k2q ?_; (case k1q => k_asm); (case k2q => k_is); k_whole)))
  (k_with "acc find" => first | exact am_append _ | exact am_push _ | exact am_popfrom _ | exact am_pop _ | exact am_pc _)
  (k_with "getMethod ref" => (k_here; k_dflt (refine' acc_methodN ?Fk65q ?Xk65q ?Ik65q ?fk65q ?sk65q ?_; (case Fk65q => k_asm); (case Xk65q => k_asm); (case Ik65q => k_inst); (case fk65q => walk_at "acc find"); (case sk65q => k_get); k_whole)))
  (k_with "call builtin:list.append" => (k_here; (with_reducible show wpAny _ _ (call (Value.builtin _) [Value.ref _, _]) _ _ _); k_dflt (refine' acc_appendN ?Fk66q ?Xk66q ?Nk66q ?Ik66q ?Uk66q ?zk66q ?_; (case Fk66q => k_asm); (case Xk66q => k_asm); (case Nk66q => k_asm); (case Ik66q => k_inst); (case Uk66q => k_upd); (case zk66q => first | assumption | omega); k_whole); intro _ _ _; (try k_sweep)))
  (k_with "acc le" => first | assumption | omega)
  (k_with "subscriptTail" => (k_here; (with_reducible show wpAny _ _ (subscriptTail _ (PySem.Expr.Slice _ _ none _) (Value.ref _) (Value.ref _)) _ _ _); k_dflt (refine' acc_sliceT ?Fk68q ?Xk68q ?Nk68q ?mk68q ?dk68q ?ak68q ?bk68q ?ck68q ?_; (case Fk68q => k_asm); (case Xk68q => k_asm); (case Nk68q => k_asm); (case mk68q => k_mem); (case dk68q => k_mem); (case ak68q => walk_at "acc le"); (case bk68q => walk_at "acc le"); (case ck68q => walk_at "acc le"); k_whole); intro _ _ _ _ l1zq; (try k_lt l1zq); (try k_sweep)))
  (k_with "setItem ref ref" => (k_here; k_dflt (refine' acc_cutT ?Fk69q ?Xk69q ?Nk69q ?mk69q ?dk69q ?ek69q ?nk69q ?ak69q ?bk69q ?ck69q ?Uk69q ?_; (case Fk69q => k_asm); (case Xk69q => k_asm); (case Nk69q => k_asm); (case mk69q => k_mem); (case dk69q => k_mem); (case ek69q => k_mem); (case nk69q => k_ne); (case ak69q => walk_at "acc le"); (case bk69q => walk_at "acc le"); (case ck69q => walk_at "acc le"); (case Uk69q => (intro nzq; k_upd)); k_whole); intro _ nzq _ Nzq; (try dsimp only at Nzq); (try k_sweep)))
  (k_with "acc sup" => first | exact SupM.len | exact SupM.pop | exact SupM.init)
  (k_with "getMethod ref" => (k_here; k_dflt (refine' sup_N ?Zk71q ?Fk71q ?Xk71q ?Nk71q ?mk71q ?Ik71q ?_; (case Fk71q => k_asm); (case Xk71q => k_asm); (case Nk71q => k_asm); (case mk71q => k_mem); (case Ik71q => k_inst); (case Zk71q => walk_at "acc sup"); k_whole); intro _ _ _ _ l1zq; (try k_lt l1zq); (try k_sweep)))
  (k_with "callWith ref" => (k_here; k_dflt (first | (refine' bound_lenN ?Nk72q ?qk72q ?pk72q ?_; (case Nk72q => k_asm); (case qk72q => k_mem); (case pk72q => k_mem); k_whole) | (refine' bound_initN ?Fk72q ?Nk72q ?qk72q ?Uk72q ?_; (case Fk72q => k_asm); (case Nk72q => k_asm); (case qk72q => k_mem); (case Uk72q => k_upd); k_whole; intro hzq Fzq Nzq; (try k_sweep)) | (refine' bound_popN ?Fk72q ?Xk72q ?Nk72q ?qk72q ?dk72q ?Uk72q ?zk72q ?_; (case Fk72q => k_asm); (case Xk72q => k_asm); (case Nk72q => k_asm); (case qk72q => k_mem); (case dk72q => k_mem); (case Uk72q => k_upd); (case zk72q => walk_at "acc le"); k_whole; intro hzq Fzq Nzq; (try k_sweep)))))
  (k_with "fin news" => first | assumption | exact news_tl (by assumption) | exact news_tl (news_tl (by assumption)) | exact news_tl (news_tl (news_tl (by assumption))) | exact news_tl (news_tl (news_tl (news_tl (by assumption)))))
  (k_with "call ref" => (k_here; (with_reducible show wpAny _ _ (call (Value.ref 101) _ _) _ _ _); k_dflt (refine' acc_makeN ?Fk74q ?Xk74q ?Nk74q ?_; (case Fk74q => k_asm); (case Xk74q => k_asm); (case Nk74q => k_asm); k_whole; intro _ _ _ _ _ l1zq l2zq; (try k_lt l1zq); (try k_lt2 l2zq); (try k_sweep); walk_at "acc enter")))
  (k_with "wpAt" => (ks_step "eval Call"; k_dflt (refine ks_wpAt_MethodCall ?_)))
  (k_with "wpAt" => (ks_step "execs cons"; k_dflt (refine ks_wpAt_execs_cons ?_)))
  (k_with "wpAt" => (ks_step "exec Expr"; k_dflt (refine ks_wpAt_Expr_any ?_)))
  (k_with "wpAt" => (ks_step "exec Return"; k_dflt (refine ks_wpAt_Return_some ?_)))
  (k_with "wpAt" => (ks_step "exec Assign"; k_dflt (first | refine ks_wpAt_Assign_Name ?_ | refine ks_wpAt_Assign_Attr ?_)))
  (k_with "wpAt" => (ks_step "exec If"; k_dflt (refine ks_wpAt_If ?_)))
  (k_with "acc enter" => (refine' ks_code_super ?k1k81q ?k2k81q ?k3k81q ?k4k81q ?k5k81q ?kAk81q ?kFk81q ?kKk81q ?k6k81q ?k7k81q ?k8k81q ?k9k81q ?kBk81q ?_ ?c1k81q ?c2k81q ?c3k81q ?c4k81q; (case kAk81q => exact rfl); (case kFk81q => exact rfl); (case kKk81q => exact rfl); (case k1k81q => k_asm); (case k2k81q => k_asm); (case k3k81q => k_asm); (case k4k81q => k_asm); (case k5k81q => k_asm); (case k6k81q => k_is); (case k7k81q => k_is); (case k8k81q => k_room); (case k9k81q => first | exact BindsTo.of_eq rfl | exact binds_K (by k_in) rfl (by k_is) rfl rfl rfl); (case kBk81q => exact locs rfl); (case c1k81q => decide); (case c2k81q => exact rfl); (case c3k81q => exact rfl); (case c4k81q => exact rfl); intro _ _ _ _ _ _ Bzq _ _ l1zq; (try k_lt l1zq); (try dsimp only); (try k_lift Bzq)))
  (k_with "setAttr ref" => (k_here; k_dflt (refine' acc_setIni ?Fk82q ?Xk82q ?Nk82q ?pk82q ?Uk82q ?_; (case Fk82q => k_asm); (case Xk82q => k_asm); (case Nk82q => k_asm); (case pk82q => k_mem); (case Uk82q => k_upd); k_whole; intro _ _ _; (try k_sweep))))
  (k_with "wpAt" => (dsimp only; first | (ks_step "execs cons"; k_dflt (refine ks_wpAt_execs_cons ?_)) | (ks_step "exec Return"; k_dflt (refine ks_wpAt_Return_some ?_))))
  refine hide9 fun C9 k9 => ?_
  obtain ⟨B, F, X, N, T, hd, hu⟩ := H
  refine k9 ?_
  clear k9
  have z9 : PySem.Challenge.rw_wo0040_01 = PySem.Challenge.rw_wo0040_01 ∧ Mine.frag.heap_1 = Mine.frag.heap_1 := by
    k_fill
    exact ⟨rfl, rfl⟩
  clear z9
  refine' acc_makeN ?F ?X ?N ?_; (case F => k_asm); (case X => k_asm); (case N => k_asm); k_whole; intro x' d' h' F' N' l1 l2; have hx9 : ∀ q ∈ news, q.1 ≠ x' := fun q hq => Nat.ne_of_lt (Nat.lt_trans (l1 q hq) l2)
  have hd9 : ∀ q ∈ news, q.1 ≠ d' := fun q hq => Nat.ne_of_lt (l1 q hq)
  have hl9 := l1
  have hd8 : @LT.lt Nat _ d' x' := l2
  (try k_lt l1); (try k_lt2 l2); (try k_sweep)
  walk_at "acc enter"
  k_steps
  exact hret _ _ _ _ _ _ _ _ (by assumption) (by walk_at "fin news") hd8 hl9

end Mine
end

section
open PySem PySem.W PySem.Calls PyProof.Rows
namespace Mine
theorem ints_replicate (k : Nat) (x : Int) (t : Tok) : IntsAre (List.replicate k (.int x t)) (List.replicate k x) := by
  induction k with
  | zero => exact .nil
  | succ k ih => exact .cons _ _ ih
structure Hid (P : Prop) : Prop where
  out : P
/-- the k lowest digits of x, to base b, the lowest first -/
noncomputable def digs (b : Int) : Nat → Int → List Int
  | 0, _ => []
  | k + 1, x => x % b :: digs b k (x / b)
theorem digs_length (b : Int) : ∀ k x, (digs b k x).length = k
  | 0, _ => rfl
  | k + 1, x => by rw [digs, List.length_cons, digs_length]
noncomputable def undigs (b : Int) : List Int → Int
  | [] => 0
  | d :: l => d + b * undigs b l
theorem digs_add (b : Int) (hb : 0 < b) : ∀ i j x, digs b (i + j) x = digs b i (x % b ^ i) ++ digs b j (x / b ^ i)
  | 0, j, x => by simp [digs]
  | i + 1, j, x => by
    rw [show i + 1 + j = (i + j) + 1 from by omega, digs, digs, digs_add b hb i j (x / b), List.cons_append]
    have e1 : x % b ^ (i + 1) % b = x % b := Int.emod_emod_of_dvd _ ⟨b ^ i, by rw [Int.pow_succ, Int.mul_comm]⟩
    have e2 : x % b ^ (i + 1) / b = (x / b) % b ^ i := by
      rw [Int.pow_succ, Int.mul_comm (b ^ i) b]
      have h1 := Int.emod_def x (b * b ^ i)
      have h2 := Int.emod_def (x / b) (b ^ i)
      rw [h1, h2, ← Int.ediv_ediv_of_nonneg (Int.le_of_lt hb)]
      rw [Int.mul_assoc, Int.sub_eq_add_neg, ← Int.mul_neg, Int.add_mul_ediv_left _ _ (Int.ne_of_gt hb)]
      rfl
    have e3 : x / b ^ (i + 1) = x / b / b ^ i := by
      rw [Int.pow_succ, Int.mul_comm (b ^ i) b, Int.ediv_ediv_of_nonneg (Int.le_of_lt hb)]
    rw [e1, e2, e3]
theorem undigs_digs (b : Int) (hb : 0 < b) : ∀ k x, 0 ≤ x → x < b ^ k → undigs b (digs b k x) = x
  | 0, x, h0, h1 => by simp only [digs, undigs]; simp at h1; omega
  | k + 1, x, h0, h1 => by
    rw [digs, undigs, undigs_digs b hb k (x / b) (Int.ediv_nonneg h0 (Int.le_of_lt hb))]
    · exact Int.emod_add_mul_ediv x b
    · rw [Int.pow_succ, Int.mul_comm] at h1
      exact Int.ediv_lt_of_lt_mul hb (by rw [Int.mul_comm]; exact h1)
theorem undigs_append (b : Int) : ∀ l k, undigs b (l ++ k) = undigs b l + b ^ l.length * undigs b k
  | [], k => by simp [undigs]
  | d :: l, k => by
    rw [List.cons_append, undigs, undigs, undigs_append b l k, List.length_cons, Int.pow_succ, Int.mul_add, Int.add_assoc, Int.mul_comm (b ^ l.length) b, Int.mul_assoc]
theorem and_high (x k : Nat) : x &&& (x / 2 ^ k * 2 ^ k) = x / 2 ^ k * 2 ^ k := by
  apply Nat.eq_of_testBit_eq
  intro i
  rw [Nat.testBit_and, ← Nat.shiftRight_eq_div_pow, ← Nat.shiftLeft_eq, Nat.testBit_shiftLeft, Nat.testBit_shiftRight]
  by_cases h : k ≤ i
  · rw [Nat.add_sub_cancel' h]
    cases x.testBit i <;> simp
  · simp [h]
theorem xor_low (x : Int) (k : Nat) (h : 0 ≤ x) : Builtin.bitXor x (x.fdiv (2 ^ k) * 2 ^ k) = x % 2 ^ k := by
  obtain ⟨n, rfl⟩ := Int.eq_ofNat_of_zero_le h
  have hp : (0 : Int) < 2 ^ k := Int.pow_pos (by decide)
  have e1 : ((n : Int)).fdiv (2 ^ k) * 2 ^ k = ((n / 2 ^ k * 2 ^ k : Nat) : Int) := by
    rw [Int.fdiv_eq_ediv_of_nonneg _ (Int.le_of_lt hp)]
    simp
  rw [e1, bitXor_and]
  have e2 : Builtin.bitAnd (n : Int) ((n / 2 ^ k * 2 ^ k : Nat) : Int) = ((n / 2 ^ k * 2 ^ k : Nat) : Int) := by
    unfold Builtin.bitAnd
    simp only [Int.natCast_nonneg, decide_true, Int.toNat_natCast]
    rw [and_high]
  rw [e2]
  have e3 : ((n : Int)) % 2 ^ k = ((n % 2 ^ k : Nat) : Int) := by simp
  rw [e3]
  have e4 := Nat.div_add_mod n (2 ^ k)
  rw [Nat.mul_comm] at e4
  generalize n / 2 ^ k * 2 ^ k = q at *
  omega
theorem pow_sh (n k : Int) (hn : 0 ≤ n) (hk : 0 ≤ k) : (2 : Int) ^ (k * n).toNat = (2 ^ n.toNat) ^ k.toNat := by
  obtain ⟨a, rfl⟩ := Int.eq_ofNat_of_zero_le hn
  obtain ⟨b, rfl⟩ := Int.eq_ofNat_of_zero_le hk
  rw [← Int.natCast_mul, Int.toNat_natCast, Int.toNat_natCast, Int.toNat_natCast, Nat.mul_comm, Int.pow_mul]
theorem base_pos (n : Int) (k : Nat) : (0 : Int) < (2 ^ n.toNat) ^ k := Int.pow_pos (Int.pow_pos (by decide))
theorem low_ok {x sh up pw lw mid lo n : Int} (hlw : lw = Builtin.bitXor x pw) (hpw : pw = up * 2 ^ sh.toNat) (hup : up = x.fdiv (2 ^ sh.toNat)) (hsh : sh = (mid - lo) * n) (h0 : 0 ≤ x) (h1 : x < 536870912) (hn : 0 < n) (hm : lo < mid) :
    lw = x % (2 ^ n.toNat) ^ (mid - lo).toNat ∧ 0 ≤ lw ∧ lw < 536870912 ∧ Hid (lw < (2 ^ n.toNat) ^ (mid - lo).toNat) := by
  have e : lw = x % (2 ^ n.toNat) ^ (mid - lo).toNat := by
    rw [hlw, hpw, hup, xor_low x _ h0, hsh, pow_sh n (mid - lo) (by omega) (by omega)]
  have p := base_pos n (mid - lo).toNat
  refine ⟨e, ?_, ?_, ⟨?_⟩⟩
  · rw [e]; exact Int.emod_nonneg _ (Int.ne_of_gt p)
  · rw [e]
    have e1 := Int.emod_add_mul_ediv x ((2 ^ n.toNat) ^ (mid - lo).toNat)
    have e2 := Int.mul_nonneg (Int.le_of_lt p) (Int.ediv_nonneg h0 (Int.le_of_lt p))
    omega
  · rw [e]; exact Int.emod_lt_of_pos _ p
theorem up_ok {x sh up mid lo hi n : Int} (hup : up = x.fdiv (2 ^ sh.toNat)) (hsh : sh = (mid - lo) * n) (h0 : 0 ≤ x) (h1 : x < 536870912) (hn : 0 < n) (hb : Hid (x < (2 ^ n.toNat) ^ (hi - lo).toNat)) (hm : lo < mid) (hm2 : mid < hi) :
    up = x / (2 ^ n.toNat) ^ (mid - lo).toNat ∧ 0 ≤ up ∧ up < 536870912 ∧ Hid (up < (2 ^ n.toNat) ^ (hi - mid).toNat) := by
  have p := base_pos n (mid - lo).toNat
  have e : up = x / (2 ^ n.toNat) ^ (mid - lo).toNat := by
    rw [hup, Int.fdiv_eq_ediv_of_nonneg _ (Int.le_of_lt (Int.pow_pos (by decide))), hsh, pow_sh n (mid - lo) (by omega) (by omega)]
  refine ⟨e, ?_, ?_, ⟨?_⟩⟩
  · rw [e]; exact Int.ediv_nonneg h0 (Int.le_of_lt p)
  · rw [e]
    have := Int.ediv_le_self (a := x) ((2 ^ n.toNat) ^ (mid - lo).toNat) h0
    omega
  · rw [e]
    refine Int.ediv_lt_of_lt_mul p ?_
    rw [← Int.pow_add, show (hi - mid).toNat + (mid - lo).toNat = (hi - lo).toNat from by omega]
    exact hb.out
theorem digs_one {x lo hi n : Int} (hb : Hid (x < (2 ^ n.toNat) ^ (hi - lo).toNat)) (h0 : 0 ≤ x) (h : lo + 1 = hi) : digs (2 ^ n.toNat) (hi - lo).toNat x = [x] := by
  have e : (hi - lo).toNat = 1 := by omega
  have hb := hb.out
  rw [e] at hb ⊢
  simp only [Int.pow_one] at hb
  rw [digs, digs, Int.emod_eq_of_lt h0 hb]
theorem put_one {ns : List Int} {x lo hi : Int} (h0 : 0 ≤ lo) (h1 : hi ≤ ns.length) (h : lo + 1 = hi) : ns.set lo.toNat x = ns.take lo.toNat ++ [x] ++ ns.drop hi.toNat := by
  have e : hi.toNat = lo.toNat + 1 := by omega
  rw [e, List.set_eq_take_append_cons_drop, if_pos (by omega)]
  simp
theorem put_two {ns : List Int} {x lo mid hi n : Int} (h0 : 0 ≤ lo) (h1 : hi ≤ ns.length) (hm : lo < mid) (hm2 : mid < hi) :
    (ns.take lo.toNat ++ digs (2 ^ n.toNat) (mid - lo).toNat (x % (2 ^ n.toNat) ^ (mid - lo).toNat) ++ ns.drop mid.toNat).take mid.toNat ++ digs (2 ^ n.toNat) (hi - mid).toNat (x / (2 ^ n.toNat) ^ (mid - lo).toNat) ++
      (ns.take lo.toNat ++ digs (2 ^ n.toNat) (mid - lo).toNat (x % (2 ^ n.toNat) ^ (mid - lo).toNat) ++ ns.drop mid.toNat).drop hi.toNat = ns.take lo.toNat ++ digs (2 ^ n.toNat) (hi - lo).toNat x ++ ns.drop hi.toNat := by
  have e : (hi - lo).toNat = (mid - lo).toNat + (hi - mid).toNat := by omega
  rw [e, digs_add _ (Int.pow_pos (by decide))]
  have l1 : (ns.take lo.toNat ++ digs (2 ^ n.toNat) (mid - lo).toNat (x % (2 ^ n.toNat) ^ (mid - lo).toNat)).length = mid.toNat := by
    rw [List.length_append, List.length_take, digs_length]; omega
  rw [List.take_append_of_le_length (Nat.le_of_eq l1.symm), List.take_of_length_le (Nat.le_of_eq l1)]
  rw [List.drop_append, List.drop_of_length_le (by rw [l1]; omega), l1, List.nil_append, List.drop_drop]
  rw [Nat.add_sub_cancel' (Int.toNat_le_toNat (Int.le_of_lt hm2))]
  simp only [List.append_assoc]
theorem len_put {ns : List Int} {x lo mid n : Int} (h0 : 0 ≤ lo) (h1 : mid ≤ ns.length) (hm : lo < mid) : (ns.take lo.toNat ++ digs (2 ^ n.toNat) (mid - lo).toNat x ++ ns.drop mid.toNat).length = ns.length := by
  simp only [List.length_append, List.length_take, List.length_drop, digs_length]; omega
end Mine
end

section
open PySem PySem.W PySem.Calls PyProof.Rows
set_option maxRecDepth 100000
namespace Mine
/-- the table of a code object that bears one nested code: empty as yet, or filled -/
inductive TabSt (P : Addr) (pos : Pos) (qual : Str) : List (Addr × Obj) → Prop
  | empty : TabSt P pos qual [(P, tabObj #[])]
  | full {c : Addr} {oc : Obj} {vs : Array Value} {t : Tok} : c ≠ P → oc.data = .fields vs → vs[1]? = some (.str qual t) → TabSt P pos qual [(P, tabObj #[rawInt pos.line, rawInt pos.col, .ref c]), (c, oc)]
inductive Ends (R : List (Addr × Obj)) : List (Addr × Obj) → List (Addr × Obj) → Prop
  | here : Ends R [] R
  | cons {a : Addr × Obj} {pre l : List (Addr × Obj)} : Ends R pre l → Ends R (a :: pre) (a :: l)
theorem Ends.eq {R pre l : List (Addr × Obj)} (h : Ends R pre l) : l = pre ++ R := by
  induction h with
  | here => rfl
  | cons _ ih => rw [ih]; rfl
theorem updF_pre {P : Addr} {o : Obj} {post : List (Addr × Obj)} : ∀ {pre : List (Addr × Obj)}, (∀ x ∈ pre, x.1 ≠ P) → (∀ x ∈ post, x.1 ≠ P) → UpdF P o (pre ++ (P, o) :: post) (fun o' => pre ++ (P, o') :: post)
  | [], _, h => .head h
  | x :: pre, h1, h2 => .tail (h1 x (.head _)) (updF_pre (fun y hy => h1 y (.tail _ hy)) h2)
section
variable {M : Model} {A : Around} {E : Value → Shared → Prop} {s : Shared} {h₀ : Heap} {L a c P : Addr} {m mg mb : Str → Option Value} {cn : Str} {cs : Scope} {ccd : Value} {cl : List (Str × Addr)}
  {p : Program} {loose : List Str} {mean : ExcName → Option Value} {name qual : Str} {params : Arguments} {body : List Stmt} {scope : Scope} {pos : Pos} {firstLine : Nat} {clos : List (Str × Addr)}
theorem nest_any {tb news pre R big : List (Addr × Obj)} {Q : Value → Shared → Prop} (hE : Ends R pre big) (hR : R = tb ++ news) (F : Fr h₀ L s.heap m) (N : News h₀ L s.heap big) (T : Top p loose mean mg mb h₀) (C : CodeHd h₀ c P) (hcd : ccd = .ref c)
    (ht : TabSt P pos qual tb) (hsep : ∀ x ∈ pre, ∀ q ∈ R, q.1 ≠ x.1) (hnP : ∀ x ∈ news, x.1 ≠ P) (hcl : closureFor scope (envX cn cs L a ccd cl) = pure clos)
    (h : ∀ f c' oc vs t ctv doc h' tk tb' R', R' = tb' ++ news → TabSt P pos qual tb' → (c', oc) ∈ R' → oc.data = .fields vs → vs[1]? = some (.str qual t) → Fr h₀ L h' m →
      News h₀ L h' ((f, fnMade name qual params body scope clos doc ((mg "__name__").getD .none) c' ctv) :: (pre ++ R')) → (∀ q ∈ pre, q.1 < f) → (∀ q ∈ R', q.1 < f) → (∀ x ∈ pre, ∀ q ∈ R', q.1 ≠ x.1) → Q (.ref f) { s with heap := h', toks := tk }) :
    wpAny M A (makeFunction name qual params (.stmts body) scope (envX cn cs L a ccd cl) [] [] [] pos firstLine) Q E s := by
  have hb := hE.eq
  subst hb
  cases ht with
  | empty =>
    subst hR
    have hpre : ∀ x ∈ pre, x.1 ≠ P := fun x hx e => hsep x hx (P, tabObj #[]) (.head _) e.symm
    refine nest_K F N T C hcd (updF_pre hpre hnP) trivial rfl hcl fun f c' oc vs t ctv doc h' tk F' N' d1 d2 l1 l2 => ?_
    have hc' : ∀ q ∈ pre ++ ([(P, tabObj #[])] ++ news), q.1 < c' := l1
    have hPc : P < c' := hc' (P, tabObj #[]) (List.mem_append.mpr (.inr (.head _)))
    refine h f c' oc vs t ctv doc h' tk [(P, tabObj #[rawInt pos.line, rawInt pos.col, .ref c']), (c', oc)] _ rfl (.full (Nat.ne_of_gt hPc) d1 d2) (.tail _ (.head _)) d1 d2 F' ?_ ?_ ?_ ?_
    · intro x hx
      rcases List.mem_cons.mp hx with rfl | hx
      · exact N' _ (.head _)
      rcases List.mem_append.mp hx with hx | hx
      · exact N' _ (.tail _ (.tail _ (List.mem_append.mpr (.inl hx))))
      rcases List.mem_cons.mp hx with rfl | hx
      · exact N' _ (.tail _ (.tail _ (List.mem_append.mpr (.inr (.head _)))))
      rcases List.mem_cons.mp hx with rfl | hx
      · exact N' _ (.tail _ (.head _))
      · exact N' _ (.tail _ (.tail _ (List.mem_append.mpr (.inr (.tail _ hx)))))
    · exact fun q hq => Nat.lt_trans (hc' q (List.mem_append.mpr (.inl hq))) l2
    · intro q hq
      rcases List.mem_cons.mp hq with rfl | hq
      · exact Nat.lt_trans hPc l2
      rcases List.mem_cons.mp hq with rfl | hq
      · exact l2
      · exact Nat.lt_trans (hc' q (List.mem_append.mpr (.inr (.tail _ hq)))) l2
    · intro x hx q hq
      rcases List.mem_cons.mp hq with rfl | hq
      · exact fun e => hpre x hx e.symm
      rcases List.mem_cons.mp hq with rfl | hq
      · exact Nat.ne_of_gt (hc' x (List.mem_append.mpr (.inl hx)))
      · exact hsep x hx q (.tail _ hq)
  | @full c' oc vs t hcP d1 d2 =>
    have hk : codeAmong pos (#[rawInt pos.line, rawInt pos.col, .ref c'] : Array Value).toList = some (.ref c') := by simp [codeAmong, rawInt]
    have hmP : (P, tabObj #[rawInt pos.line, rawInt pos.col, .ref c']) ∈ pre ++ R := by rw [hR]; exact List.mem_append.mpr (.inr (.head _))
    refine nestHit_K F N T C hcd hmP trivial hk hcl fun f ctv doc h' tk F' N' l1 => ?_
    refine h f c' oc vs t ctv doc h' tk _ R hR (.full hcP d1 d2) (by rw [hR]; exact .tail _ (.head _)) d1 d2 F' N' (fun q hq => l1 q (List.mem_append.mpr (.inl hq))) (fun q hq => l1 q (List.mem_append.mpr (.inr hq))) hsep
end
end Mine
end

section
open PySem PySem.W PySem.Calls PyProof.Rows
namespace Mine
noncomputable def ovr : List (Str × Value) → (Str → Option Value) → Str → Option Value
  | [], m => m
  | p :: r, m => fun y => if y = p.1 then some p.2 else ovr r m y
theorem ovr_eq {m : Str → Option Value} : ∀ ps : List (Str × Value), (∀ p ∈ ps, m p.1 = some p.2) → m = ovr ps m
  | [], _ => rfl
  | p :: r, h => by
    have ih := ovr_eq r fun q hq => h q (.tail _ hq)
    funext y
    show m y = if y = p.1 then some p.2 else ovr r m y
    rw [← ih]
    split
    · rename_i e; rw [e]; exact h p (.head _)
    · rfl
theorem fr_ovr {h₀ h : Heap} {L : Addr} {m : Str → Option Value} (F : Fr h₀ L h m) (ps : List (Str × Value)) (hp : ∀ p ∈ ps, m p.1 = some p.2) : Fr h₀ L h (ovr ps m) := ovr_eq ps hp ▸ F
theorem news_sub {h₀ h : Heap} {L : Addr} {big small : List (Addr × Obj)} (N : News h₀ L h big) (hs : ∀ p ∈ small, p ∈ big) : News h₀ L h small := fun p hp => N p (hs p hp)
section
variable {prog : Program} {w : World} {A : Around} {E : Value → Shared → Prop} {h₀ : Heap} {env : Env} {x : Str} {body : List Stmt} {Q : Flow → Shared → Prop} {s s₁ : Shared} {I : Addr}
theorem unrPost_mono {it : Obj} {C C' : (Str → Option Value) → List (Addr × Obj) → Prop} {f : Flow} {s₂ : Shared} (h : UnrPost h₀ env.locals s₁ I it C Q f s₂) (hC : ∀ m n, C m n → C' m n) : UnrPost h₀ env.locals s₁ I it C' Q f s₂ := by
  have z : UnrEnd h₀ env.locals s₁ I it C s₂ → UnrEnd h₀ env.locals s₁ I it C' s₂ := fun ⟨h', tk, m', n', e, F, N, o, r⟩ => ⟨h', tk, m', n', e, F, N, o, hC _ _ r⟩
  cases f with
  | ret v => exact h
  | brk => exact h
  | next => exact z h
  | cont => exact z h
/-- the end of a turn: no line of the walk knows it, so the walk stops here -/
noncomputable def TurnEnd (h₀ : Heap) (L : Addr) (s₁ : Shared) (I : Addr) (it : Obj) (J : (Str → Option Value) → List (Addr × Obj) → Prop) (Q : Flow → Shared → Prop) (f : Flow) (s₂ : Shared) : Prop := UnrPost h₀ L s₁ I it J Q f s₂
theorem turnEnd_next {L : Addr} {it : Obj} {J : (Str → Option Value) → List (Addr × Obj) → Prop} {h' : Heap} {tk : Nat} {m' : Str → Option Value} {all : List (Addr × Obj)} (news' : List (Addr × Obj)) (F : Fr h₀ L h' m') (N : News h₀ L h' all)
    (sub : ∀ p ∈ (I, it) :: news', p ∈ all) (off : ∀ p ∈ news', p.1 ≠ I) (r : J m' news') : TurnEnd h₀ L s₁ I it J Q .next { s₁ with heap := h', toks := tk } := ⟨h', tk, m', news', rfl, F, fun p hp => N p (sub p hp), off, r⟩
theorem turnEnd_ret {L : Addr} {it : Obj} {J : (Str → Option Value) → List (Addr × Obj) → Prop} {v : Value} {s₂ : Shared} (h : Q (.ret v) s₂) : TurnEnd h₀ L s₁ I it J Q (.ret v) s₂ := h
theorem revRest_inv {lp : Addr × Obj} (J : List Value → (Str → Option Value) → List (Addr × Obj) → Prop)
    (step : ∀ v r m news (it : Obj) h tk, J (v :: r) m news → it.cls = .type "list_reverseiterator" → Fr h₀ env.locals h (fun y => if y = x then some v else m y) → News h₀ env.locals h ((I, it) :: news) →
      wpAny (model prog w) A (execs body env) (TurnEnd h₀ env.locals { s with heap := h, toks := tk } I it (fun m' n' => lp ∈ n' ∧ J r m' n') Q) E { s with heap := h, toks := tk })
    (done : ∀ m news h tk, J [] m news → Fr h₀ env.locals h m → News h₀ env.locals h news → Q .next { s with heap := h, toks := tk }) :
    ∀ vs m news, J vs m news → RevRest prog w A E h₀ env x body Q s I lp vs m news
  | [], m, news, hJ => fun h tk F N => done m news h tk hJ F N
  | v :: r, m, news, hJ => fun it h tk hc F N => wpAny_mono (step v r m news it h tk hJ hc F N) (fun _ _ p => unrPost_mono p fun m' n' hh => ⟨hh.1, revRest_inv J step done r m' n' hh.2⟩) fun _ _ e => e
theorem rangeRest_inv {a : Int} {n : Nat} (J : Nat → (Str → Option Value) → List (Addr × Obj) → Prop)
    (step : ∀ i m news t h tk it, i < n → J i m news → it = itR (a + ((i + 1 : Nat) : Int)) ((n : Int) - ((i + 1 : Nat) : Int)) → Fr h₀ env.locals h (fun y => if y = x then some (.int (a + (i : Int)) t) else m y) → News h₀ env.locals h ((I, it) :: news) →
      wpAny (model prog w) A (execs body env) (TurnEnd h₀ env.locals { s with heap := h, toks := tk } I it (fun m' n' => J (i + 1) m' n') Q) E { s with heap := h, toks := tk })
    (done : ∀ m news h tk, J n m news → Fr h₀ env.locals h m → News h₀ env.locals h news → Q .next { s with heap := h, toks := tk }) :
    ∀ k i m news, i + k = n → J i m news → RangeRest prog w A E h₀ env x body Q s I a n k i m news
  | 0, i, m, news, e, hJ => fun h tk F N => done m news h tk (by rw [← e]; exact hJ) F N
  | k + 1, i, m, news, e, hJ => fun t h tk F N => wpAny_mono (step i m news t h tk _ (by omega) hJ rfl F N) (fun _ _ p => unrPost_mono p fun m' n' hh => rangeRest_inv J step done k (i + 1) m' n' (by omega) hh) fun _ _ e => e
end
theorem offI_of {I : Addr} {it : Obj} : ∀ {l : List (Addr × Obj)}, (∀ p ∈ l, p.1 ≠ I) → OffI I it l
  | [], _ => trivial
  | _ :: _, h => ⟨.inl (h _ (.head _)), offI_of fun p hp => h p (.tail _ hp)⟩
end Mine
namespace Mine
/-- the walk stops here: no line knows it -/
noncomputable def Stop (P : Prop) : Prop := P
theorem stop_of {P : Prop} (h : Stop P) : P := h
section
variable {prog : Program} {w : World} {A : Around} {E : Value → Shared → Prop} {h₀ : Heap} {env : Env} {L : Addr} {Q : Flow → Shared → Prop} {s : Shared}
noncomputable def WEnd (h₀ : Heap) (L : Addr) (s : Shared) (J : Nat → (Str → Option Value) → List (Addr × Obj) → Prop) (Q : Flow → Shared → Prop) (n : Nat) (f : Flow) (s₂ : Shared) : Prop := WhileStep2 h₀ L s J Q n f s₂
theorem wEnd_next {J : Nat → (Str → Option Value) → List (Addr × Obj) → Prop} {n : Nat} {h' : Heap} {tk : Nat} {m' : Str → Option Value} {all : List (Addr × Obj)} (n' : Nat) (news' : List (Addr × Obj)) (F : Fr h₀ L h' m') (N : News h₀ L h' all) (sub : ∀ p ∈ news', p ∈ all) (hn : n' < n) (r : J n' m' news') : WEnd h₀ L s J Q n .next { s with heap := h', toks := tk } := ⟨h', tk, m', news', n', rfl, F, fun p hp => N p (sub p hp), hn, r⟩
theorem while_inv {test : Expr} {body : List Stmt} {pos : Pos} {m : Str → Option Value} {news : List (Addr × Obj)} (J : Nat → (Str → Option Value) → List (Addr × Obj) → Prop) (n₀ : Nat)
    (F : Fr h₀ L s.heap m) (N : News h₀ L s.heap news) (hJ : J n₀ m news) (hE : PassesOwn (model prog w) A env E)
    (turn : ∀ n m₁ news₁ h₁ tk₁, J n m₁ news₁ → Fr h₀ L h₁ m₁ → News h₀ L h₁ news₁ →
      wpAny (model prog w) A (isTrue test env (eval test env)) (fun b s₂ =>
        if b = true then wpAny (model prog w) A (execs body env) (WEnd h₀ L s J Q n) E s₂ else Stop (Q .next s₂)) E { s with heap := h₁, toks := tk₁ }) :
    wpAny (model prog w) A (exec (.While test body [] pos) env) Q E s :=
  While_inv2 J F N hJ (fun n m₁ news₁ h₁ tk₁ F₁ N₁ J₁ => turn n m₁ news₁ h₁ tk₁ J₁ F₁ N₁) hE
end
end Mine
end

section
open PySem PySem.W PySem.Calls PyProof.Rows
set_option maxRecDepth 100000
set_option maxHeartbeats 0
namespace Mine
theorem allLt_ne {d x : Nat} : ∀ {l : List (Addr × Obj)}, AllLt d l → d ≤ x → ∀ p ∈ l, p.1 ≠ x
  | [], _, _, _, hp => nomatch hp
  | q :: l, h, hx, p, hp => by
    rcases List.mem_cons.mp hp with rfl | hp
    · exact Nat.ne_of_lt (Nat.lt_of_lt_of_le h.1 hx)
    · exact allLt_ne h.2 hx p hp
theorem rawLt_ne {d x : Nat} {l : List (Addr × Obj)} (h : ∀ p ∈ l, @LT.lt Nat _ p.1 d) (hx : d ≤ x) : ∀ p ∈ l, p.1 ≠ x := fun p hp => Nat.ne_of_lt (Nat.lt_of_lt_of_le (h p hp) hx)
theorem mulN {prog : Program} {w : World} {A : Around} {E : Value → Shared → Prop} {s : Shared} {h₀ : Heap} {L : Addr} {m : Str → Option Value} {news : List (Addr × Obj)} {l : Addr} {n : Nat} {x : Int} {u : Tok} {v : Value} {Q : Value → Shared → Prop}
   (F : Fr h₀ L s.heap m) (N : News h₀ L s.heap news) (hm : (l, listOf #[v] n) ∈ news) (h0 : 0 ≤ x) (h1 : x ≤ 1000)
   (h : ∀ l' h', Fr h₀ L h' m → News h₀ L h' ((l', listOf (List.replicate x.toNat v).toArray 0) :: news) → (∀ p ∈ news, p.1 < l') → Q (.ref l') { s with heap := h' }) : wpAny (model prog w) A (binaryOp .Mult (.ref l) (.int x u)) Q E s := by
  refine mul_list F N (N _ hm).1 (by omega) (by omega) (by simp; omega) fun h' F' N' => ?_
  refine h _ h' F' ?_ fun p hp => Heap.lt_size (N p hp).1
  have e : ∀ k, List.foldl (fun (x1 x2 : Array Value) => x1 ++ x2) #[] (List.replicate k #[v]) = (List.replicate k v).toArray := by
    intro k
    have g : ∀ k (a : Array Value), List.foldl (fun (x1 x2 : Array Value) => x1 ++ x2) a (List.replicate k #[v]) = a ++ (List.replicate k v).toArray := by
      intro k
      induction k with
      | zero => intro a; simp
      | succ k ih => intro a; rw [List.replicate_succ, List.foldl_cons, ih]; apply Array.ext'; simp [List.replicate_succ]
    rw [g]; simp
  have hz : (if (#[v] : Array Value).isEmpty = true then 0 else x.toNat) = x.toNat := by simp
  rw [hz, e] at N'
  exact N'
section
variable {prog : Program} {w : World} {A : Around} {E : Value → Shared → Prop} {s : Shared} {h₀ : Heap} {L : Addr} {news : List (Addr × Obj)} {a b : Int} {t u : Tok} {Q : Value → Shared → Prop}
theorem lenN {l : Addr} {n : Nat} {vs : List Value} 
   (N : News h₀ L s.heap news) (hm : (l, listOf vs.toArray n) ∈ news) (hlen : vs.length ≤ 1000) (h : Q (.int vs.length (s.toks + 1)) { s with toks := s.toks + 1 + 1 }) : wpAny (model prog w) A (call (.builtin "len") [.ref l]) Q E s := by
  refine len_list (items := vs.toArray) ⟨_, (N _ hm).1, rfl, n, rfl⟩ (by simp only [List.size_toArray]; omega) ?_
  simpa using h
theorem rshG (hb : 0 ≤ b) (ha : 0 ≤ a) (h : ∀ r t, r = a.fdiv (2 ^ b.toNat) → 0 ≤ r → r ≤ a → Q (.int r t) { s with toks := s.toks + 1 }) : wpAny (model prog w) A (binaryOp .RShift (.int a t) (.int b u)) Q E s := by
  have e := Int.fdiv_eq_ediv_of_nonneg a (b := 2 ^ b.toNat) (Int.le_of_lt (Int.pow_pos (by decide)))
  exact rshift_int hb (h _ _ rfl (by rw [e]; exact Int.ediv_nonneg ha (Int.le_of_lt (Int.pow_pos (by decide)))) (by rw [e]; exact Int.ediv_le_self _ ha))
theorem rsh1 (h : ∀ r t, 2 * r ≤ a → a ≤ 2 * r + 1 → Q (.int r t) { s with toks := s.toks + 1 }) : wpAny (model prog w) A (binaryOp .RShift (.int a t) (.int 1 u)) Q E s := by
  have e : a.fdiv (2 ^ (1 : Int).toNat) = a / 2 := by
    rw [Int.fdiv_eq_ediv_of_nonneg _ (by decide)]; rfl
  refine rshift_int (by decide) ?_
  rw [e]
  exact h _ _ (by omega) (by omega)
theorem lshG (hb : 0 ≤ b) (hb2 : b ≤ 1000000) (ha : a.natAbs < 2 ^ 64) (h : ∀ r t, r = a * 2 ^ b.toNat → Q (.int r t) { s with toks := s.toks + 1 }) : wpAny (model prog w) A (binaryOp .LShift (.int a t) (.int b u)) Q E s := lshift_int_small hb hb2 ha (h _ _ rfl)
theorem mulG (ha : 0 ≤ a) (ha2 : a ≤ 100) (hb : 0 ≤ b) (hb2 : b ≤ 100) (h : ∀ r t, r = a * b → 0 ≤ r → r ≤ 10000 → Q (.int r t) { s with toks := s.toks + 1 }) : wpAny (model prog w) A (binaryOp .Mult (.int a t) (.int b u)) Q E s := by
  refine mul_int (h _ _ rfl (Int.mul_nonneg ha hb) ?_)
  exact Int.le_trans (Int.mul_le_mul ha2 hb2 hb (by decide)) (by decide)
theorem xorG (h : ∀ r t, r = Builtin.bitXor a b → Q (.int r t) { s with toks := s.toks + 1 }) : wpAny (model prog w) A (binaryOp .BitXor (.int a t) (.int b u)) Q E s := xor_int (h _ _ rfl)
end
noncomputable def InnerP (w : World) (loose : List Str) (mean : ExcName → Option Value) (mg mb : Str → Option Value) (base : Heap) (led : Obj → List (Addr × Obj)) (f : Addr) (n : Int) (d : Nat) : Prop :=
  ∀ (dp un : Nat) (gd : Option (List Code)) (cn : Str) (nms : List (Str × NameKind)) (mr : List (Str × Const)) (a : Addr) (ccd : Value) (cl : List (Str × Addr)) (outer : List Env) (A₀ : Around) (h₀ : Heap) (L : Addr) (m : Str → Option Value) (s : Shared) (items : List Value) (ns : List Int) (ep : Nat) (x lo hi : Int) (tx tl th : Tok) (Q E : Value → Shared → Prop),
    Below A₀ base outer h₀ → Fr h₀ L s.heap m → (Mine.frag.heap_1 w.params).In h₀ → News h₀ L s.heap (led (listOf items.toArray ep)) → Top topProg loose mean mg mb h₀ → dp + d + 50 < recursionLimit → un + 8 * d + 400 < cLine →
    IntsAre items ns → 0 ≤ lo → lo < hi → hi ≤ ns.length → ns.length ≤ 64 → hi - lo ≤ d → 0 ≤ x → x < 536870912 → Hid (x < (2 ^ n.toNat) ^ (hi - lo).toNat) →
    (∀ items' ep' h' tk', Fr h₀ L h' m → News h₀ L h' (led (listOf items'.toArray ep')) → IntsAre items' (ns.take lo.toNat ++ digs (2 ^ n.toNat) (hi - lo).toNat x ++ ns.drop hi.toNat) → Q .none { s with heap := h', toks := tk' }) →
    wpAny (model PG w) (topA dp un gd cn nms mr L a ccd cl outer) (call (.ref f) [.int x tx, .int lo tl, .int hi th]) Q E s
theorem inner_use {w : World} {loose : List Str} {mean : ExcName → Option Value} {mg mb : Str → Option Value} {base h₀ h : Heap} {L f c l l0 a1 a2 a3 : Addr} {obj oc o0 o1 o2 o3 : Obj} {items : List Value} {ep : Nat} {rest : List (Addr × Obj)} {G : Prop} (b : Int)
   (N : News h₀ L h ((f, obj) :: (l, listOf items.toArray ep) :: (l0, o0) :: (a3, o3) :: (a2, o2) :: (a1, o1) :: rest)) (hc : (c, oc) ∈ rest) (hoff : ∀ q ∈ rest, q.1 ≠ l)
   (step : @Ne Nat c l → ∀ d, (∀ d', d' < d → InnerP w loose mean mg mb base (fun o => (f, obj) :: (c, oc) :: (l, o) :: (l0, o0) :: (a3, o3) :: (a2, o2) :: (a1, o1) :: rest) f b d') → InnerP w loose mean mg mb base (fun o => (f, obj) :: (c, oc) :: (l, o) :: (l0, o0) :: (a3, o3) :: (a2, o2) :: (a1, o1) :: rest) f b d)
   (use : @Ne Nat c l → News h₀ L h ((f, obj) :: (c, oc) :: (l, listOf items.toArray ep) :: (l0, o0) :: (a3, o3) :: (a2, o2) :: (a1, o1) :: rest) → (∀ d, InnerP w loose mean mg mb base (fun o => (f, obj) :: (c, oc) :: (l, o) :: (l0, o0) :: (a3, o3) :: (a2, o2) :: (a1, o1) :: rest) f b d) → G) : G := by
  refine use (hoff _ hc) (fun p hp => ?_) fun d => Nat.strongRecOn d fun d IH => step (hoff _ hc) d IH
  rcases List.mem_cons.mp hp with rfl | hp
  · exact N _ (.head _)
  rcases List.mem_cons.mp hp with rfl | hp
  · exact N _ (.tail _ (.tail _ (.tail _ (.tail _ (.tail _ (.tail _ hc))))))
  · exact N _ (.tail _ hp)
theorem inner_ih {w : World} {loose : List Str} {mean : ExcName → Option Value} {mg mb : Str → Option Value} {base : Heap} {led : Obj → List (Addr × Obj)} {f : Addr} {n : Int} {d : Nat} (IH : ∀ d', d' < d → InnerP w loose mean mg mb base led f n d')
   {dp un : Nat} {gd : Option (List Code)} {cn : Str} {nms : List (Str × NameKind)} {mr : List (Str × Const)} {a : Addr} {ccd : Value} {cl : List (Str × Addr)} {outer : List Env} {A₀ : Around} {h₀ : Heap} {L : Addr} {m : Str → Option Value} {s : Shared} {items : List Value} {ns : List Int} {ep : Nat} {x lo hi : Int} {tx tl th : Tok} {Q E : Value → Shared → Prop}
   (B : Below A₀ base outer h₀) (F : Fr h₀ L s.heap m) (X : (Mine.frag.heap_1 w.params).In h₀) (N : News h₀ L s.heap (led (listOf items.toArray ep))) (T : Top topProg loose mean mg mb h₀) (hI : IntsAre items ns) (hd : dp + d + 49 < recursionLimit) (hu : un + 8 * d + 392 < cLine)
   (hx : 0 ≤ x ∧ x < 536870912 ∧ Hid (x < (2 ^ n.toNat) ^ (hi - lo).toNat)) (hlo : 0 ≤ lo) (hlh : lo < hi) (hhi : hi ≤ ns.length) (hns : ns.length ≤ 64) (hdd : hi - lo < d)
   (h : ∀ items' ep' h' tk', Fr h₀ L h' m → News h₀ L h' (led (listOf items'.toArray ep')) → IntsAre items' (ns.take lo.toNat ++ digs (2 ^ n.toNat) (hi - lo).toNat x ++ ns.drop hi.toNat) → Q .none { s with heap := h', toks := tk' }) :
   wpAny (model PG w) (topA dp un gd cn nms mr L a ccd cl outer) (call (.ref f) [.int x tx, .int lo tl, .int hi th]) Q E s :=
  IH (hi - lo).toNat (by omega) dp un gd cn nms mr a ccd cl outer A₀ h₀ L m s items ns ep x lo hi tx tl th Q E B F X N T (by omega) (by omega) hI hlo hlh hhi hns (by omega) hx.1 hx.2.1 hx.2.2 h
theorem bits_ok {x n : Int} (hx : 0 ≤ x) (hn : 0 < n) (hcnt0 : 0 ≤ Int.fdiv ((Builtin.Int.intBits x : Int) + n - 1) n) : x < (2 ^ n.toNat) ^ (Int.fdiv ((Builtin.Int.intBits x : Int) + n - 1) n).toNat := by
  have h1 : x.natAbs < 2 ^ Builtin.Int.intBits x := intBits_le_iff.mp (Nat.le_refl _)
  obtain ⟨k, rfl⟩ := Int.eq_ofNat_of_zero_le hx
  obtain ⟨c, hc⟩ := Int.eq_ofNat_of_zero_le hcnt0
  rw [hc]
  obtain ⟨a, rfl⟩ := Int.eq_ofNat_of_zero_le (Int.le_of_lt hn)
  simp only [Int.toNat_natCast, ← Int.pow_mul]
  have h2 : Builtin.Int.intBits (k : Int) ≤ a * c := by
    rw [Int.fdiv_eq_ediv_of_nonneg _ (Int.le_of_lt hn)] at hc
    have h3 := Int.emod_add_mul_ediv ((Builtin.Int.intBits (k : Int) : Int) + a - 1) a
    have h4 := Int.emod_lt_of_pos ((Builtin.Int.intBits (k : Int) : Int) + a - 1) hn
    rw [hc] at h3
    have h5 : ((a * c : Nat) : Int) = (a : Int) * (c : Int) := by simp
    omega
  have h6 : (k : Int).natAbs < 2 ^ (a * c) := Nat.lt_of_lt_of_le h1 (Nat.pow_le_pow_right (by decide) h2)
  simp only [Int.natAbs_natCast] at h6
  have h7 : ((k : Nat) : Int) < ((2 ^ (a * c) : Nat) : Int) := by omega
  simpa using h7
theorem cnt_ok {x n : Int} (hx : 0 ≤ x) (hx2 : x < 536870912) (hn : 0 < n) : 0 ≤ Int.fdiv ((Builtin.Int.intBits x : Int) + n - 1) n ∧ Int.fdiv ((Builtin.Int.intBits x : Int) + n - 1) n ≤ 64 := by
  have hb : Builtin.Int.intBits x ≤ 64 := intBits_le_64 (by omega) (by omega)
  rw [Int.fdiv_eq_ediv_of_nonneg _ (Int.le_of_lt hn)]
  refine ⟨Int.ediv_nonneg (by omega) (by omega), ?_⟩
  have h3 := Int.emod_add_mul_ediv ((Builtin.Int.intBits x : Int) + n - 1) n
  have h4 := Int.emod_nonneg ((Builtin.Int.intBits x : Int) + n - 1) (Int.ne_of_gt hn)
  generalize ((Builtin.Int.intBits x : Int) + n - 1) / n = q at *
  generalize ((Builtin.Int.intBits x : Int) + n - 1) % n = r at *
  refine Int.not_lt.mp fun h => ?_
  have h5 : 65 * n ≤ n * q := by rw [Int.mul_comm n q]; exact Int.mul_le_mul_of_nonneg_right (by omega) (by omega)
  omega
theorem cnt_pos {x n : Int} (hx : 0 ≤ x) (hok : x < (2 ^ n.toNat) ^ (Int.fdiv ((Builtin.Int.intBits x : Int) + n - 1) n).toNat) (hcnt0 : 0 ≤ Int.fdiv ((Builtin.Int.intBits x : Int) + n - 1) n) (hne : x ≠ 0) : 0 < (((Int.fdiv ((Builtin.Int.intBits x : Int) + n - 1) n).toNat : Nat) : Int) := by
  generalize Int.fdiv ((Builtin.Int.intBits x : Int) + n - 1) n = q at *
  rcases Int.lt_or_eq_of_le hcnt0 with h | h
  · omega
  · subst h; simp at hok; omega

theorem i2d_sub1 {α : Type} (a b c d e f g : α) (R : List α) : ∀ p ∈ c :: R, p ∈ a :: b :: c :: d :: e :: f :: g :: R := fun p hp => by
  rcases List.mem_cons.mp hp with rfl | hp
  · exact .tail _ (.tail _ (.head _))
  · exact .tail _ (.tail _ (.tail _ (.tail _ (.tail _ (.tail _ (.tail _ hp))))))
theorem i2d_sub2 {α : Type} (a c d e f g : α) (R : List α) : ∀ p ∈ c :: R, p ∈ a :: c :: d :: e :: f :: g :: R := fun p hp => by
  rcases List.mem_cons.mp hp with rfl | hp
  · exact .tail _ (.head _)
  · exact .tail _ (.tail _ (.tail _ (.tail _ (.tail _ (.tail _ hp)))))
theorem inner_go {w : World} {loose : List Str} {mean : ExcName → Option Value} {mg mb : Str → Option Value} {base : Heap} {led : Obj → List (Addr × Obj)} {f : Addr} {n : Int} (key : ∀ d, InnerP w loose mean mg mb base led f n d)
   {dp un : Nat} {gd : Option (List Code)} {cn : Str} {nms : List (Str × NameKind)} {mr : List (Str × Const)} {a : Addr} {ccd : Value} {cl : List (Str × Addr)} {outer : List Env} {A₀ : Around} {h₀ : Heap} {L : Addr} {m : Str → Option Value} {s : Shared} {items : List Value} {ns : List Int} {ep : Nat} {x hi : Int} {tx tl th : Tok} {Q E : Value → Shared → Prop}
   (B : Below A₀ base outer h₀) (F : Fr h₀ L s.heap m) (X : (Mine.frag.heap_1 w.params).In h₀) (N : News h₀ L s.heap (led (listOf items.toArray ep))) (T : Top topProg loose mean mg mb h₀) (hI : IntsAre items ns) (hd : dp + 55 < recursionLimit) (hu : un + 440 < cLine)
   (hx : 0 ≤ x) (hx2 : x < 536870912) (hx3 : x < (2 ^ n.toNat) ^ hi.toNat) (hlh : 0 < hi) (hhi : hi = ns.length) (hns : ns.length ≤ 64)
   (hns2 : dp + 120 < recursionLimit ∧ un + 920 < cLine)
   (h : ∀ items' ep' h' tk', Fr h₀ L h' m → News h₀ L h' (led (listOf items'.toArray ep')) → IntsAre items' (digs (2 ^ n.toNat) hi.toNat x) → Q .none { s with heap := h', toks := tk' }) :
   wpAny (model PG w) (topA dp un gd cn nms mr L a ccd cl outer) (call (.ref f) [.int x tx, .int 0 tl, .int hi th]) Q E s := by
  have r1 : dp + hi.toNat + 50 < recursionLimit := by have := hns2.1; omega
  have r2 : un + 8 * hi.toNat + 400 < cLine := by have := hns2.2; omega
  refine key hi.toNat dp un gd cn nms mr a ccd cl outer A₀ h₀ L m s items ns ep x 0 hi tx tl th Q E B F X N T r1 r2 hI (by omega) hlh (by omega) hns (by omega) hx hx2 ⟨by simpa using hx3⟩ fun items' ep' h' tk' F' N' I' => ?_
  refine h items' ep' h' tk' F' N' ?_
  have e1 : ns.drop hi.toNat = [] := List.drop_of_length_le (by omega)
  rw [e1] at I'
  simpa using I'
noncomputable abbrev qInner (f : String) : Str := ((Str.ofString f ++ Str.ofString ".<locals>.") ++ Str.ofString "inner")
noncomputable abbrev i2dCnt (x n : Int) : Int := Int.fdiv ((Builtin.Int.intBits x : Int) + n - 1) n
theorem c_i2d (w : World) (loose mean mg mb) (dp un : Nat) (gd cn nms mr a ccd cl outer A₀ base h₀ L m news s) (tb) (x n : Int) (tx tn : Tok)
   (H : At w loose mean mg mb dp un A₀ base h₀ outer L m (tb ++ news) s) (ht : TabSt 121 ⟨70, 4, 79, 28⟩ (qInner "_int2digits") tb) (hx : 0 ≤ x) (hx2 : x < 536870912) (hn : 0 < n) (hn2 : n < 10) (hP : CodeHd base 125 121) (hdp : dp + 150 < recursionLimit) (hun : un + 1000 < cLine) (hpn : ∀ x ∈ news, x.1 ≠ 121) (Q E : Value → Shared → Prop)
   (hret : ∀ l items ep h' tk' tb', TabSt 121 ⟨70, 4, 79, 28⟩ (qInner "_int2digits") tb' → Fr h₀ L h' m → News h₀ L h' ((l, listOf (List.toArray items) ep) :: (tb' ++ news)) → (∀ q ∈ tb' ++ news, q.1 ≠ l) → IntsAre items (digs (2 ^ n.toNat) (i2dCnt x n).toNat x) → Q (.ref l) { s with heap := h', toks := tk' }) :
   wpAny (model PG w) (topA dp un gd cn nms mr L a ccd cl outer) (call (.ref 126) [.int x tx, .int n tn]) Q E s := by
  k_with_none
  (k_with "all here" => first | assumption | ((with_reducible refine List.forall_mem_cons.mpr ⟨?_, ?_⟩); k_ne; k_all) | ((repeat (cases ‹_ ∧ _›)); first | assumption | walk_at "all tail" | walk_at "all raw"))
  (k_with "execs cons" => (k_here; (fail_if_success k_gentoks); (fail_if_success k_made); (with_reducible refine wpAny_execs_cons ?_); k_fold; (try dsimp only)))
  (k_with "eval Name" => (k_here; (fail_if_success (with_reducible show wpAny _ _ (eval _ (compEnvC _ _ _ _)) _ _ _)); k_dflt (refine' nameX_C ?Nkq ?ckq ?mkq ?dkq ?_ ?akq ?bkq; (case akq => exact Eq.refl _); (case bkq => exact Eq.refl (some _)); (case Nkq => k_asm); (case ckq => exact Eq.refl (some _)); (case mkq => k_mem); (case dkq => k_asm); k_whole)))
  (k_with "eval Name" => (k_here; (fail_if_success (with_reducible show wpAny _ _ (eval _ (compEnvC _ _ _ _)) _ _ _)); k_dflt (refine' nameX_L ?Fkq ?vkq ?_ ?akq ?bkq; (case Fkq => k_asm); (case akq => exact Eq.refl _); (case bkq => exact Eq.refl (some _)); (case vkq => exact Eq.refl (some _)); k_whole)))
  (k_with "callWith ref" => (k_here; (with_reducible show wpAny _ _ (callWith _ (Value.ref (OfNat.ofNat _)) _ _ _) _ _ _); k_dflt (refine' callWith_KW ?k1q ?k2q ?k3q ?_; (case k1q => k_asm); (case k2q => k_is); (case k3q => exact rfl); k_whole)))
  (k_with "callWith ref" => (k_here; (with_reducible show wpAny _ _ (callWith _ (Value.ref (OfNat.ofNat _)) _ _ _) _ _ _); k_dflt (refine' callWith_K0 ?k1q ?k2q ?_; (case k1q => first | with_reducible assumption | exact Frag.In.keeps (by with_reducible assumption) (Fr.keep (by with_reducible assumption)) | k_in); (case k2q => k_is); k_whole)))
  (k_with "callWith ref" => (k_here; (with_reducible show wpAny _ _ (callWith _ (Value.ref (OfNat.ofNat _)) _ _ _) _ _ _); k_dflt (refine' callWith_K ?k1q ?k2q ?_; (case k1q => k_asm); (case k2q => k_is); k_whole)))
  (k_with "all raw" => ((with_reducible rename ∀ p, p ∈ _ → @LT.lt Nat _ (Prod.fst p) _ => h9zq); first | exact rawLt_ne h9zq (by (fail_if_success (fail_if_success (omega (config := {})))); lia) | (clear h9zq; walk_at "all raw")))
  (k_with "all tail" => ((with_reducible rename AllLt _ _ => h9zq); first | exact allLt_ne h9zq (by (fail_if_success (fail_if_success (omega (config := {})))); lia) | (clear h9zq; walk_at "all tail")))
  (k_with "le" => first | assumption | omega)
  (k_with "binaryOp Mult ref int" => (k_here; k_dflt (refine' mulN ?Fk87q ?Nk87q ?mk87q ?ak87q ?bk87q ?_; (case Fk87q => k_asm); (case Nk87q => k_asm); (case mk87q => k_mem); (case ak87q => walk_at "le"); (case bk87q => walk_at "le"); k_whole); intro _ _ _ _ l1zq; (try k_lt l1zq); (try k_sweep)))
  (k_with "digs x" => first | exact (low_ok (by assumption) (by assumption) (by assumption) (by assumption) (by assumption) (by assumption) (by assumption) (by omega)).2 | exact (up_ok (by assumption) (by assumption) (by assumption) (by assumption) (by assumption) (by assumption) (by omega) (by omega)).2)
  (k_with "digs len" => first | assumption | omega | (rw [len_put (by omega) (by omega) (by omega)]; first | assumption | omega))
  (k_with "call ref" => (k_here; (rename ∀ d', d' < _ → InnerP _ _ _ _ _ _ _ _ _ d' => ih9zq); k_dflt (refine' inner_ih ih9zq ?Bk90q ?Fk90q ?Xk90q ?Nk90q ?Tk90q ?Ik90q ?hdk90q ?huk90q ?hxk90q ?ak90q ?bk90q ?ck90q ?dk90q ?ek90q ?_; (case Bk90q => k_asm); (case Fk90q => k_asm); (case Xk90q => k_asm); (case Nk90q => k_asm); (case Tk90q => k_asm); (case Ik90q => assumption); (case hdk90q => ktr_room); (case huk90q => ktr_units); (case hxk90q => walk_at "digs x"); (case ak90q => omega); (case bk90q => omega); (case ck90q => walk_at "digs len"); (case dk90q => walk_at "digs len"); (case ek90q => omega); k_whole); intro _ _ _ _ _ Nzq _; (try dsimp only at Nzq)))
  (k_with "sep" => first | exact List.forall_mem_nil _ | (refine' List.forall_mem_cons.mpr ⟨?ak91q, ?bk91q⟩; (case ak91q => ((try dsimp only); k_all)); (case bk91q => walk_at "sep")))
  (k_with "ends" => first | exact Ends.here | (refine' Ends.cons ?hhk92q; (case hhk92q => walk_at "ends")))
  (k_with "exec FunctionDef" => (k_here; k_dflt (refine' nestDef_K ?d0k93q ?k0k93q ?a0k93q ?_; (case d0k93q => exact rfl); (case k0k93q => exact rfl); (case a0k93q => exact rfl)); k_dflt (refine' nest_any ?Ek93q ?Rk93q ?Fk93q ?Nk93q ?Tk93q ?Ck93q ?cdk93q ?tk93q ?sepk93q ?nPk93q ?clk93q ?_; (case Rk93q => assumption); (case Fk93q => k_asm); (case Nk93q => k_asm); (case Ek93q => walk_at "ends"); (case Tk93q => k_asm); (case cdk93q => exact rfl); (case Ck93q => kn_code); (case tk93q => assumption); (case sepk93q => walk_at "sep"); (case nPk93q => assumption); (case clk93q => exact rfl); k_whole); intro _ _ _ _ _ _ _ _ _ _ _ _ _ _ _ _ _ Nzq s1zq s2zq s3zq; (try simp only [List.cons_append, List.nil_append] at Nzq); (have s4 := allLt_of s1zq); (have s5 := allLt_of s2zq); (try simp only [AllLt] at s4); (try simp only [List.forall_mem_cons] at s3zq); clear s1zq s2zq))
  (k_with "le" => first | assumption | omega)
  (k_with "binaryOp RShift int int" => (k_here; (refine rshG ?_ ?_ ?_; assumption; assumption); intro _ _ _ _ _))
  (k_with "binaryOp RShift int int" => (k_here; (refine rsh1 ?_); intro _ _ _ _))
  (k_with "binaryOp LShift int int" => (k_here; (refine lshG ?_ ?_ ?_ ?_; assumption; omega; omega); intro _ _ _))
  (k_with "binaryOp Mult int int" => (k_here; (refine mulG ?_ ?_ ?_ ?_ ?_; omega; omega; omega; omega); intro _ _ _ _ _))
  (k_with "binaryOp BitXor int int" => (k_here; refine xorG ?_; intro _ _ _))
  (k_with "call builtin:len" => (k_here; (with_reducible show wpAny _ _ (call (Value.builtin "len") [Value.ref _]) _ _ _); k_dflt (refine' lenN ?Nk100q ?mk100q ?zk100q ?_; (case Nk100q => k_asm); (case mk100q => k_mem); (case zk100q => (try simp only [List.length_replicate]); omega); k_whole)))
  (k_with "call ref" => (k_here; (rename ∀ d, InnerP _ _ _ _ _ _ _ _ _ d => ih9zq); k_dflt (refine' inner_go ih9zq ?Bk101q ?Fk101q ?Xk101q ?Nk101q ?Tk101q ?Ik101q ?hdk101q ?huk101q ?hxk101q ?hx2k101q ?hx3k101q ?ak101q ?bk101q ?ck101q ?dk101q ?_; (case Bk101q => k_asm); (case Fk101q => k_asm); (case Xk101q => k_asm); (case Nk101q => k_asm); (case Tk101q => k_asm); (case Ik101q => exact ints_replicate _ _ _); (case hdk101q => ktr_room); (case huk101q => ktr_units); (case hxk101q => assumption); (case hx2k101q => assumption); (case hx3k101q => walk_at "fin a"); (case ak101q => walk_at "fin b"); (case bk101q => walk_at "fin c"); (case ck101q => walk_at "fin d"); (case dk101q => walk_at "fin e"); k_whole); intro _ _ _ _ _ Nzq _; (try dsimp only at Nzq)))
  (k_with "fin a" => (rw [List.length_replicate, Int.toNat_natCast]; assumption))
  (k_with "fin b" => (rw [List.length_replicate]; exact cnt_pos (by assumption) (by assumption) (by assumption) (by assumption)))
  (k_with "fin c" => simp)
  (k_with "fin d" => (rw [List.length_replicate]; omega))
  (k_with "fin e" => (refine' And.intro ?ak106q ?bk106q; (case ak106q => ktr_room); (case bk106q => ktr_units)))
  refine hide9 fun C9 k9 => ?_
  obtain ⟨B, F, X, N, T, hd, hu⟩ := H
  refine k9 ?_
  clear k9
  have z9 : PySem.Challenge.rw_wo0040_01 = PySem.Challenge.rw_wo0040_01 ∧ Mine.frag.heap_1 = Mine.frag.heap_1 := by
    k_fill
    exact ⟨rfl, rfl⟩
  clear z9
  have hbits : Builtin.Int.intBits x ≤ 64 := intBits_le_64 (by omega) (by omega)
  have hok := bits_ok hx hn (cnt_ok hx hx2 hn).1
  obtain ⟨hcnt0, hcnt⟩ := cnt_ok hx hx2 hn
  obtain ⟨R, hR⟩ : ∃ R, R = tb ++ news := ⟨_, rfl⟩
  rw [← hR] at N
  k_steps
  · refine inner_use (mean := mean) (mg := mg) (mb := mb) (loose := loose) (w := w) (base := base) n (by assumption) (by assumption) (And.left (by assumption)) (fun hcl d IH => ?step) (fun hcl N9 key => ?use)
    case use =>
      k_steps
      rename _ = _ ++ news => hR9; subst hR9; rename TabSt _ _ _ _ => ht9
      rename News _ _ _ _ => Nz
      have Nf := news_sub Nz (i2d_sub1 _ _ _ _ _ _ _ _)
      refine hret _ _ _ _ _ _ ht9 (by assumption) Nf (And.left (by assumption)) (by rename IntsAre _ _ => I9; rw [List.length_replicate, Int.toNat_natCast] at I9; exact I9)
    case step =>
      unfold InnerP
      intro dp un gd cn nms mr a ccd cl outer A₀ h₀ L m s items ns ep x lo hi tx tl th Q E B F X N T hd hu hI h0 h1 h2 h3 h4 h5 h5b h6 hret
      dsimp only at N hret
      refine wpAny_call ?_
      kn_enter
      k_steps
      · refine hret _ _ _ _ (by assumption) (by assumption) ?_
        rw [digs_one (by assumption) (by assumption) (by assumption), ← put_one (by assumption) (by assumption) (by assumption)]
        assumption
      · refine hret _ _ _ _ (by assumption) (by assumption) ?_
        have q1 := (low_ok (by assumption) (by assumption) (by assumption) (by assumption) (by assumption) (by assumption) (by assumption) (by omega)).1
        have q2 := (up_ok (by assumption) (by assumption) (by assumption) (by assumption) (by assumption) (by assumption) (by omega) (by omega)).1
        rename IntsAre _ _ => I9
        rw [q1, q2, put_two (by omega) (by omega) (by omega) (by omega)] at I9
        exact I9
  · rename _ = _ ++ news => hR9; subst hR9; rename TabSt _ _ _ _ => ht9
    rename News _ _ _ _ => Nz
    have Nf := news_sub Nz (i2d_sub2 _ _ _ _ _ _ _)
    refine hret _ _ _ _ _ _ ht9 (by assumption) Nf (And.left (by assumption)) ?_
    rename x = 0 => hx0
    subst hx0
    have e : i2dCnt 0 n = 0 := by
      show Int.fdiv ((0 : Int) + n - 1) n = 0
      rw [Int.fdiv_eq_ediv_of_nonneg _ (Int.le_of_lt hn)]
      exact Int.ediv_eq_zero_of_lt (by omega) (by omega)
    rw [show Int.fdiv ((Builtin.Int.intBits 0 : Int) + n - 1) n = 0 from e, e]
    exact .nil
end Mine
end

section
open PySem PySem.W PySem.Calls PyProof.Rows
set_option maxRecDepth 100000
set_option maxHeartbeats 0
namespace Mine
noncomputable def sl (ns : List Int) (lo hi : Int) : List Int := (ns.take hi.toNat).drop lo.toNat
theorem sl_len {ns : List Int} {lo hi : Int} (h0 : 0 ≤ lo) (h1 : lo ≤ hi) (h2 : hi ≤ ns.length) : (sl ns lo hi).length = (hi - lo).toNat := by
  obtain ⟨x, rfl⟩ := Int.eq_ofNat_of_zero_le h0
  obtain ⟨y, rfl⟩ := Int.eq_ofNat_of_zero_le (Int.le_trans h0 h1)
  unfold sl
  rw [List.length_drop, List.length_take, Int.toNat_natCast, Int.toNat_natCast, Nat.min_eq_left (Int.ofNat_le.mp h2), Int.toNat_sub]
theorem sl_two {ns : List Int} {lo mid hi : Int} (h0 : 0 ≤ lo) (h1 : lo ≤ mid) (h2 : mid ≤ hi) (h3 : hi ≤ ns.length) : sl ns lo hi = sl ns lo mid ++ sl ns mid hi := by
  unfold sl
  have e : (ns.take hi.toNat) = ns.take mid.toNat ++ (ns.take hi.toNat).drop mid.toNat := by
    conv => lhs; rw [← List.take_append_drop mid.toNat (ns.take hi.toNat), List.take_take, Nat.min_eq_left (by omega)]
  conv => lhs; rw [e, List.drop_append_of_le_length (by rw [List.length_take]; omega)]
theorem sl_one {ns : List Int} {lo hi : Int} (h0 : 0 ≤ lo) (h1 : lo + 1 = hi) (h2 : hi ≤ ns.length) : sl ns lo hi = [ns.getD lo.toNat 0] := by
  obtain ⟨k, rfl⟩ := Int.eq_ofNat_of_zero_le h0
  have e : hi.toNat = k + 1 := by omega
  have hk : k < ns.length := by omega
  unfold sl
  rw [e, Int.toNat_natCast, List.take_add_one, List.drop_append_of_le_length (by rw [List.length_take]; omega)]
  simp [List.getElem?_eq_getElem hk]
theorem sl_all {ns : List Int} {hi : Int} (h : hi = ns.length) : sl ns 0 hi = ns := by
  unfold sl; subst h; simp
theorem undigs_two {b : Int} {ns : List Int} {lo mid hi : Int} (h0 : 0 ≤ lo) (h1 : lo ≤ mid) (h2 : mid ≤ hi) (h3 : hi ≤ ns.length) : undigs b (sl ns lo hi) = undigs b (sl ns lo mid) + b ^ (mid - lo).toNat * undigs b (sl ns mid hi) := by
  rw [sl_two h0 h1 h2 h3, undigs_append, sl_len h0 h1 (by omega)]
noncomputable def InnerQ (w : World) (loose : List Str) (mean : ExcName → Option Value) (mg mb : Str → Option Value) (base : Heap) (led : List (Addr × Obj)) (f : Addr) (ns : List Int) (n : Int) (d : Nat) : Prop :=
  ∀ (dp un : Nat) (gd : Option (List Code)) (cn : Str) (nms : List (Str × NameKind)) (mr : List (Str × Const)) (a : Addr) (ccd : Value) (cl : List (Str × Addr)) (outer : List Env) (A₀ : Around) (h₀ : Heap) (L : Addr) (m : Str → Option Value) (s : Shared) (lo hi : Int) (tl th : Tok) (Q E : Value → Shared → Prop),
    Below A₀ base outer h₀ → Fr h₀ L s.heap m → (Mine.frag.heap_1 w.params).In h₀ → News h₀ L s.heap led → Top topProg loose mean mg mb h₀ → dp + d + 50 < recursionLimit → un + 8 * d + 400 < cLine →
    0 ≤ lo → lo < hi → hi ≤ ns.length → ns.length ≤ 64 → hi - lo ≤ d →
    (∀ r t h' tk', Fr h₀ L h' m → News h₀ L h' led → r = undigs (2 ^ n.toNat) (sl ns lo hi) → Q (.int r t) { s with heap := h', toks := tk' }) →
    wpAny (model PG w) (topA dp un gd cn nms mr L a ccd cl outer) (call (.ref f) [.int lo tl, .int hi th]) Q E s
theorem innerQ_use {w : World} {loose : List Str} {mean : ExcName → Option Value} {mg mb : Str → Option Value} {base h₀ h : Heap} {L f c : Addr} {obj oc : Obj} {l9 rest : List (Addr × Obj)} {G : Prop} (ns : List Int) (b : Int)
   (N : News h₀ L h ((f, obj) :: l9)) (hl : ∀ p ∈ rest, p ∈ l9) (hc : (c, oc) ∈ rest)
   (step : ∀ d, (∀ d', d' < d → InnerQ w loose mean mg mb base ((f, obj) :: (c, oc) :: l9) f ns b d') → InnerQ w loose mean mg mb base ((f, obj) :: (c, oc) :: l9) f ns b d)
   (use : News h₀ L h ((f, obj) :: (c, oc) :: l9) → (∀ d, InnerQ w loose mean mg mb base ((f, obj) :: (c, oc) :: l9) f ns b d) → G) : G := by
  refine use (fun p hp => ?_) fun d => Nat.strongRecOn d fun d IH => step d IH
  rcases List.mem_cons.mp hp with rfl | hp
  · exact N _ (.head _)
  rcases List.mem_cons.mp hp with rfl | hp
  · exact N _ (.tail _ (hl _ hc))
  · exact N _ (.tail _ hp)
theorem innerQ_ih {w : World} {loose : List Str} {mean : ExcName → Option Value} {mg mb : Str → Option Value} {base : Heap} {led : List (Addr × Obj)} {f : Addr} {ns : List Int} {n : Int} {d : Nat} (IH : ∀ d', d' < d → InnerQ w loose mean mg mb base led f ns n d')
   {dp un : Nat} {gd : Option (List Code)} {cn : Str} {nms : List (Str × NameKind)} {mr : List (Str × Const)} {a : Addr} {ccd : Value} {cl : List (Str × Addr)} {outer : List Env} {A₀ : Around} {h₀ : Heap} {L : Addr} {m : Str → Option Value} {s : Shared} {lo hi : Int} {tl th : Tok} {Q E : Value → Shared → Prop}
   (B : Below A₀ base outer h₀) (F : Fr h₀ L s.heap m) (X : (Mine.frag.heap_1 w.params).In h₀) (N : News h₀ L s.heap led) (T : Top topProg loose mean mg mb h₀) (hd : dp + d + 49 < recursionLimit) (hu : un + 8 * d + 392 < cLine)
   (hlo : 0 ≤ lo) (hlh : lo < hi) (hhi : hi ≤ ns.length) (hns : ns.length ≤ 64) (hdd : hi - lo < d) (hb : ∀ i j, 0 ≤ undigs (2 ^ n.toNat) (sl ns i j) ∧ undigs (2 ^ n.toNat) (sl ns i j) < 536870912)
   (h : ∀ r t h' tk', Fr h₀ L h' m → News h₀ L h' led → r = undigs (2 ^ n.toNat) (sl ns lo hi) → 0 ≤ r → r < 536870912 → Q (.int r t) { s with heap := h', toks := tk' }) :
   wpAny (model PG w) (topA dp un gd cn nms mr L a ccd cl outer) (call (.ref f) [.int lo tl, .int hi th]) Q E s :=
  IH (hi - lo).toNat (by omega) dp un gd cn nms mr a ccd cl outer A₀ h₀ L m s lo hi tl th Q E B F X N T (by omega) (by omega) hlo hlh hhi hns (by omega) fun r t h' tk' F' N' e => h r t h' tk' F' N' e (e ▸ (hb lo hi).1) (e ▸ (hb lo hi).2)
theorem innerQ_go {w : World} {loose : List Str} {mean : ExcName → Option Value} {mg mb : Str → Option Value} {base : Heap} {led : List (Addr × Obj)} {f : Addr} {ns : List Int} {n : Int} (key : ∀ d, InnerQ w loose mean mg mb base led f ns n d)
   {dp un : Nat} {gd : Option (List Code)} {cn : Str} {nms : List (Str × NameKind)} {mr : List (Str × Const)} {a : Addr} {ccd : Value} {cl : List (Str × Addr)} {outer : List Env} {A₀ : Around} {h₀ : Heap} {L : Addr} {m : Str → Option Value} {s : Shared} {hi : Int} {tl th : Tok} {Q E : Value → Shared → Prop}
   (B : Below A₀ base outer h₀) (F : Fr h₀ L s.heap m) (X : (Mine.frag.heap_1 w.params).In h₀) (N : News h₀ L s.heap led) (T : Top topProg loose mean mg mb h₀) (hlh : 0 < hi) (hhi : hi = ns.length) (hns : ns.length ≤ 64) (hns2 : dp + 120 < recursionLimit ∧ un + 920 < cLine)
   (h : ∀ r t h' tk', Fr h₀ L h' m → News h₀ L h' led → r = undigs (2 ^ n.toNat) ns → Q (.int r t) { s with heap := h', toks := tk' }) :
   wpAny (model PG w) (topA dp un gd cn nms mr L a ccd cl outer) (call (.ref f) [.int 0 tl, .int hi th]) Q E s := by
  have r1 : dp + hi.toNat + 50 < recursionLimit := by have := hns2.1; omega
  have r2 : un + 8 * hi.toNat + 400 < cLine := by have := hns2.2; omega
  refine key hi.toNat dp un gd cn nms mr a ccd cl outer A₀ h₀ L m s 0 hi tl th Q E B F X N T r1 r2 (by omega) hlh (by omega) hns (by omega) fun r t h' tk' F' N' I' => h r t h' tk' F' N' ?_
  rw [sl_all hhi] at I'
  exact I'
theorem d2i_sub1 {α : Type} (a b c d e f : α) (R : List α) : ∀ p ∈ f :: R, p ∈ a :: b :: c :: d :: e :: f :: R := fun _ hp => .tail _ (.tail _ (.tail _ (.tail _ (.tail _ hp))))
theorem d2i_sub2 {α : Type} (a c d e f : α) (R : List α) : ∀ p ∈ f :: R, p ∈ a :: c :: d :: e :: f :: R := fun _ hp => .tail _ (.tail _ (.tail _ (.tail _ hp)))
theorem d2i_two {ns : List Int} {lo mid hi n sh u r v : Int} (hr : r = u * 2 ^ sh.toNat) (hu : u = undigs (2 ^ n.toNat) (sl ns mid hi)) (hv : v = undigs (2 ^ n.toNat) (sl ns lo mid)) (hs : sh = (mid - lo) * n) (h0 : 0 ≤ lo) (h1 : lo ≤ mid) (h2 : mid ≤ hi) (h3 : hi ≤ ns.length) (hn : 0 < n) :
    r + v = undigs (2 ^ n.toNat) (sl ns lo hi) := by
  rw [undigs_two h0 h1 h2 h3, hr, hu, hv, hs, pow_sh n (mid - lo) (by omega) (by omega), Int.mul_comm, Int.add_comm]
theorem c_d2i (w : World) (loose mean mg mb) (dp un : Nat) (gd cn nms mr a ccd cl outer A₀ base h₀ L m news s) (tb) (n : Int) (tn : Tok) (l : Addr) (items : List Value) (ns : List Int) (ep : Nat)
   (H : At w loose mean mg mb dp un A₀ base h₀ outer L m ((l, listOf (List.toArray items) ep) :: (tb ++ news)) s) (ht : TabSt 128 ⟨85, 4, 90, 55⟩ (qInner "_digits2int") tb) (hn : 0 < n) (hn2 : n < 10) (hI : IntsAre items ns) (hns : ns.length ≤ 64) (hb : ∀ i j, 0 ≤ undigs (2 ^ n.toNat) (sl ns i j) ∧ undigs (2 ^ n.toNat) (sl ns i j) < 536870912) (hP : CodeHd base 132 128) (hdp : dp + 150 < recursionLimit) (hun : un + 1000 < cLine) (hpn : ∀ x ∈ news, x.1 ≠ 128) (hpl : ∀ x ∈ tb ++ news, x.1 ≠ l) (Q E : Value → Shared → Prop)
   (hret : ∀ r t h' tk' tb', TabSt 128 ⟨85, 4, 90, 55⟩ (qInner "_digits2int") tb' → Fr h₀ L h' m → News h₀ L h' ((l, listOf (List.toArray items) ep) :: (tb' ++ news)) → (∀ q ∈ tb' ++ news, q.1 ≠ l) → r = undigs (2 ^ n.toNat) ns → Q (.int r t) { s with heap := h', toks := tk' }) :
   wpAny (model PG w) (topA dp un gd cn nms mr L a ccd cl outer) (call (.ref 133) [.ref l, .int n tn]) Q E s := by
  k_with_none
  (k_with "all here" => first | assumption | ((with_reducible refine List.forall_mem_cons.mpr ⟨?_, ?_⟩); k_ne; k_all) | ((repeat (cases ‹_ ∧ _›)); first | assumption | walk_at "all tail" | walk_at "all raw"))
  (k_with "execs cons" => (k_here; (fail_if_success k_gentoks); (fail_if_success k_made); (with_reducible refine wpAny_execs_cons ?_); k_fold; (try dsimp only)))
  (k_with "eval Name" => (k_here; (fail_if_success (with_reducible show wpAny _ _ (eval _ (compEnvC _ _ _ _)) _ _ _)); k_dflt (refine' nameX_C ?Nkq ?ckq ?mkq ?dkq ?_ ?akq ?bkq; (case akq => exact Eq.refl _); (case bkq => exact Eq.refl (some _)); (case Nkq => k_asm); (case ckq => exact Eq.refl (some _)); (case mkq => k_mem); (case dkq => k_asm); k_whole)))
  (k_with "eval Name" => (k_here; (fail_if_success (with_reducible show wpAny _ _ (eval _ (compEnvC _ _ _ _)) _ _ _)); k_dflt (refine' nameX_L ?Fkq ?vkq ?_ ?akq ?bkq; (case Fkq => k_asm); (case akq => exact Eq.refl _); (case bkq => exact Eq.refl (some _)); (case vkq => exact Eq.refl (some _)); k_whole)))
  (k_with "callWith ref" => (k_here; (with_reducible show wpAny _ _ (callWith _ (Value.ref (OfNat.ofNat _)) _ _ _) _ _ _); k_dflt (refine' callWith_KW ?k1q ?k2q ?k3q ?_; (case k1q => k_asm); (case k2q => k_is); (case k3q => exact rfl); k_whole)))
  (k_with "callWith ref" => (k_here; (with_reducible show wpAny _ _ (callWith _ (Value.ref (OfNat.ofNat _)) _ _ _) _ _ _); k_dflt (refine' callWith_K0 ?k1q ?k2q ?_; (case k1q => first | with_reducible assumption | exact Frag.In.keeps (by with_reducible assumption) (Fr.keep (by with_reducible assumption)) | k_in); (case k2q => k_is); k_whole)))
  (k_with "callWith ref" => (k_here; (with_reducible show wpAny _ _ (callWith _ (Value.ref (OfNat.ofNat _)) _ _ _) _ _ _); k_dflt (refine' callWith_K ?k1q ?k2q ?_; (case k1q => k_asm); (case k2q => k_is); k_whole)))
  (k_with "all raw" => ((with_reducible rename ∀ p, p ∈ _ → @LT.lt Nat _ (Prod.fst p) _ => h9zq); first | exact rawLt_ne h9zq (by (fail_if_success (fail_if_success (omega (config := {})))); lia) | (clear h9zq; walk_at "all raw")))
  (k_with "all tail" => ((with_reducible rename AllLt _ _ => h9zq); first | exact allLt_ne h9zq (by (fail_if_success (fail_if_success (omega (config := {})))); lia) | (clear h9zq; walk_at "all tail")))
  (k_with "le" => first | assumption | omega)
  (k_with "binaryOp Mult ref int" => (k_here; k_dflt (refine' mulN ?Fk110q ?Nk110q ?mk110q ?ak110q ?bk110q ?_; (case Fk110q => k_asm); (case Nk110q => k_asm); (case mk110q => k_mem); (case ak110q => walk_at "le"); (case bk110q => walk_at "le"); k_whole); intro _ _ _ _ l1zq; (try k_lt l1zq); (try k_sweep)))
  (k_with "sep" => first | exact List.forall_mem_nil _ | (refine' List.forall_mem_cons.mpr ⟨?ak111q, ?bk111q⟩; (case ak111q => ((try dsimp only); k_all)); (case bk111q => walk_at "sep")))
  (k_with "ends" => first | exact Ends.here | (refine' Ends.cons ?hhk112q; (case hhk112q => walk_at "ends")))
  (k_with "exec FunctionDef" => (k_here; k_dflt (refine' nestDef_K ?d0k113q ?k0k113q ?a0k113q ?_; (case d0k113q => exact rfl); (case k0k113q => exact rfl); (case a0k113q => exact rfl)); k_dflt (refine' nest_any ?Ek113q ?Rk113q ?Fk113q ?Nk113q ?Tk113q ?Ck113q ?cdk113q ?tk113q ?sepk113q ?nPk113q ?clk113q ?_; (case Rk113q => assumption); (case Fk113q => k_asm); (case Nk113q => k_asm); (case Ek113q => walk_at "ends"); (case Tk113q => k_asm); (case cdk113q => exact rfl); (case Ck113q => kn_code); (case tk113q => assumption); (case sepk113q => walk_at "sep"); (case nPk113q => assumption); (case clk113q => exact rfl); k_whole); intro _ _ _ _ _ _ _ _ _ _ _ _ _ _ _ _ _ Nzq s1zq s2zq s3zq; (try simp only [List.cons_append, List.nil_append] at Nzq); (have s4 := allLt_of s1zq); (have s5 := allLt_of s2zq); (try simp only [AllLt] at s4); (try simp only [List.forall_mem_cons] at s3zq); clear s1zq s2zq))
  (k_with "le" => first | assumption | omega)
  (k_with "binaryOp RShift int int" => (k_here; (refine rshG ?_ ?_ ?_; assumption; assumption); intro _ _ _ _ _))
  (k_with "binaryOp RShift int int" => (k_here; (refine rsh1 ?_); intro _ _ _ _))
  (k_with "binaryOp LShift int int" => (k_here; (refine lshG ?_ ?_ ?_ ?_; assumption; omega; omega); intro _ _ _))
  (k_with "binaryOp Mult int int" => (k_here; (refine mulG ?_ ?_ ?_ ?_ ?_; omega; omega; omega; omega); intro _ _ _ _ _))
  (k_with "binaryOp BitXor int int" => (k_here; refine xorG ?_; intro _ _ _))
  (k_with "call builtin:len" => (k_here; (with_reducible show wpAny _ _ (call (Value.builtin "len") [Value.ref _]) _ _ _); k_dflt (refine' lenN ?Nk120q ?mk120q ?zk120q ?_; (case Nk120q => k_asm); (case mk120q => k_mem); (case zk120q => (try simp only [List.length_replicate]); omega); k_whole)))
  (k_with "call ref" => (k_here; (rename ∀ d', d' < _ → InnerQ _ _ _ _ _ _ _ _ _ _ d' => ih9zq); k_dflt (refine' innerQ_ih ih9zq ?Bk121q ?Fk121q ?Xk121q ?Nk121q ?Tk121q ?hdk121q ?huk121q ?ak121q ?bk121q ?ck121q ?dk121q ?ek121q ?hbk121q ?_; (case Bk121q => k_asm); (case Fk121q => k_asm); (case Xk121q => k_asm); (case Nk121q => k_asm); (case Tk121q => k_asm); (case hdk121q => ktr_room); (case huk121q => ktr_units); (case ak121q => omega); (case bk121q => omega); (case ck121q => omega); (case dk121q => assumption); (case ek121q => omega); (case hbk121q => assumption); k_whole); intro _ _ _ _ _ Nzq _ _ _; (try dsimp only at Nzq)))
  (k_with "call ref" => (k_here; (rename ∀ d, InnerQ _ _ _ _ _ _ _ _ _ _ d => ih9zq); k_dflt (refine' innerQ_go ih9zq ?Bk122q ?Fk122q ?Xk122q ?Nk122q ?Tk122q ?bk122q ?ck122q ?dk122q ?ek122q ?_; (case Bk122q => k_asm); (case Fk122q => k_asm); (case Xk122q => k_asm); (case Nk122q => k_asm); (case Tk122q => k_asm); (case bk122q => walk_at "fin b"); (case ck122q => walk_at "fin c"); (case dk122q => assumption); (case ek122q => walk_at "fin e"); k_whole); intro _ _ _ _ _ Nzq _; (try dsimp only at Nzq)))
  (k_with "fin b" => omega)
  (k_with "fin c" => omega)
  (k_with "fin e" => (refine' And.intro ?ak125q ?bk125q; (case ak125q => ktr_room); (case bk125q => ktr_units)))
  refine hide9 fun C9 k9 => ?_
  obtain ⟨B, F, X, N, T, hd, hu⟩ := H
  refine k9 ?_
  clear k9
  have z9 : PySem.Challenge.rw_wo0040_01 = PySem.Challenge.rw_wo0040_01 ∧ Mine.frag.heap_1 = Mine.frag.heap_1 := by
    k_fill
    exact ⟨rfl, rfl⟩
  clear z9
  obtain ⟨R, hR⟩ : ∃ R, R = tb ++ news := ⟨_, rfl⟩
  rw [← hR] at N hpl
  k_steps
  · refine innerQ_use (mean := mean) (mg := mg) (mb := mb) (loose := loose) (w := w) (base := base) ns n (by assumption) (fun p hp => ?hl) (by assumption) (fun d IH => ?step) (fun N9 key => ?use)
    case hl => exact .tail _ (.tail _ (.tail _ (.tail _ hp)))
    case use =>
      k_steps
      rename _ = _ ++ news => hR9; subst hR9; rename TabSt _ _ _ _ => ht9
      rename News _ _ _ _ => Nz
      have Nf := news_sub Nz (d2i_sub1 _ _ _ _ _ _ _)
      exact hret _ _ _ _ _ ht9 (by assumption) Nf (And.left (And.right (And.right (And.right (by assumption))))) (by assumption)
    case step =>
      unfold InnerQ
      intro dp un gd cn nms mr a ccd cl outer A₀ h₀ L m s lo hi tl th Q E B F X N T hd hu h0 h1 h2 h3 h4 hret
      refine wpAny_call ?_
      kn_enter
      k_steps
      · refine hret _ _ _ _ (by assumption) (by assumption) ?_
        rw [sl_one (by assumption) (by assumption) (by assumption)]
        simp [undigs]
      · refine hret _ _ _ _ (by assumption) (by assumption) ?_
        refine d2i_two (by assumption) (by assumption) (by assumption) (by assumption) h0 ?_ ?_ h2 (by assumption) <;> omega
  rename _ = _ ++ news => hR9; subst hR9; rename TabSt _ _ _ _ => ht9
  rename News _ _ _ _ => Nz
  have Nf := news_sub Nz (d2i_sub2 _ _ _ _ _ _)
  refine hret _ _ _ _ _ ht9 (by assumption) Nf (And.left (And.right (And.right (And.right (by assumption))))) ?_
  have e : ns = [] := List.length_eq_zero_iff.mp (by omega)
  rw [e]; rfl
end Mine
end

section
open PySem PySem.W PySem.Calls PyProof.Rows
set_option maxRecDepth 100000
set_option maxHeartbeats 0
namespace Mine
theorem c_div2n1n (w : World) (loose mean mg mb) (dp un : Nat) (gd cn nms mr a ccd cl outer A₀ base h₀ L m news s)
   (H : At w loose mean mg mb dp un A₀ base h₀ outer L m news s) (x y n : Int) (tx ty tn : Tok) (hx : 0 ≤ x) (hx2 : x < 536870912) (hn : 0 ≤ n) (hn2 : n < 100) (hy : 0 < y) (hy2 : y < 536870912) (Q E : Value → Shared → Prop)
   (hret : ∀ p q r t1 t2 h' tk', Fr h₀ L h' m → News h₀ L h' ((p, ({ cls := .type "tuple", data := .seq #[.int q t1, .int r t2] } : Obj)) :: news) → (∀ x ∈ news, x.1 < p) → q = x / y → r = x % y → Q (.ref p) { s with heap := h', toks := tk' }) :
   wpAny (model PG w) (topA dp un gd cn nms mr L a ccd cl outer) (call (.ref 112) [.int x tx, .int y ty, .int n tn]) Q E s := by
  k_with_none
  (k_with "all here" => first | assumption | ((with_reducible refine List.forall_mem_cons.mpr ⟨?_, ?_⟩); k_ne; k_all) | ((repeat (cases ‹_ ∧ _›)); first | assumption | walk_at "all tail" | walk_at "all raw"))
  (k_with "execs cons" => (k_here; (fail_if_success k_gentoks); (fail_if_success k_made); (with_reducible refine wpAny_execs_cons ?_); k_fold; (try dsimp only)))
  (k_with "eval Name" => (k_here; (fail_if_success (with_reducible show wpAny _ _ (eval _ (compEnvC _ _ _ _)) _ _ _)); k_dflt (refine' nameX_C ?Nkq ?ckq ?mkq ?dkq ?_ ?akq ?bkq; (case akq => exact Eq.refl _); (case bkq => exact Eq.refl (some _)); (case Nkq => k_asm); (case ckq => exact Eq.refl (some _)); (case mkq => k_mem); (case dkq => k_asm); k_whole)))
  (k_with "eval Name" => (k_here; (fail_if_success (with_reducible show wpAny _ _ (eval _ (compEnvC _ _ _ _)) _ _ _)); k_dflt (refine' nameX_L ?Fkq ?vkq ?_ ?akq ?bkq; (case Fkq => k_asm); (case akq => exact Eq.refl _); (case bkq => exact Eq.refl (some _)); (case vkq => exact Eq.refl (some _)); k_whole)))
  (k_with "callWith ref" => (k_here; (with_reducible show wpAny _ _ (callWith _ (Value.ref (OfNat.ofNat _)) _ _ _) _ _ _); k_dflt (refine' callWith_KW ?k1q ?k2q ?k3q ?_; (case k1q => k_asm); (case k2q => k_is); (case k3q => exact rfl); k_whole)))
  (k_with "callWith ref" => (k_here; (with_reducible show wpAny _ _ (callWith _ (Value.ref (OfNat.ofNat _)) _ _ _) _ _ _); k_dflt (refine' callWith_K0 ?k1q ?k2q ?_; (case k1q => first | with_reducible assumption | exact Frag.In.keeps (by with_reducible assumption) (Fr.keep (by with_reducible assumption)) | k_in); (case k2q => k_is); k_whole)))
  (k_with "callWith ref" => (k_here; (with_reducible show wpAny _ _ (callWith _ (Value.ref (OfNat.ofNat _)) _ _ _) _ _ _); k_dflt (refine' callWith_K ?k1q ?k2q ?_; (case k1q => k_asm); (case k2q => k_is); k_whole)))
  refine hide9 fun C9 k9 => ?_
  obtain ⟨B, F, X, N, T, hd, hu⟩ := H
  refine k9 ?_
  clear k9
  have z9 : PySem.Challenge.rw_wo0040_01 = PySem.Challenge.rw_wo0040_01 ∧ Mine.frag.heap_1 = Mine.frag.heap_1 := by
    k_fill
    exact ⟨rfl, rfl⟩
  clear z9
  have hbits : Builtin.Int.intBits x ≤ 64 := intBits_le_64 (by omega) (by omega)
  k_steps
  rename News _ _ _ news => N9
  refine hret _ _ _ _ _ _ _ (by assumption) (by assumption) (fun x hx => Heap.lt_size (N9 x hx).1) ?_ ?_
  · exact Int.fdiv_eq_ediv_of_nonneg _ (Int.le_of_lt hy)
  · exact Int.fmod_eq_emod_of_nonneg _ (Int.le_of_lt hy)
end Mine
end

section
open PySem PySem.W PySem.Calls PyProof.Rows
set_option maxRecDepth 100000
set_option maxHeartbeats 0
namespace Mine
theorem bits_small {y : Int} (h : 0 < y) (h2 : y < 16) : 0 < (Builtin.Int.intBits y : Int) ∧ (Builtin.Int.intBits y : Int) < 10 ∧ y < 2 ^ (Builtin.Int.intBits y : Int).toNat := by
  obtain ⟨k, rfl⟩ := Int.eq_ofNat_of_zero_le (Int.le_of_lt h)
  have key : ∀ k : Nat, k < 16 → 0 < k → 0 < (Builtin.Int.intBits (k : Int) : Int) ∧ (Builtin.Int.intBits (k : Int) : Int) < 10 ∧ (k : Int) < 2 ^ (Builtin.Int.intBits (k : Int) : Int).toNat := by decide +kernel
  exact key k (Int.ofNat_lt.mp h2) (Int.ofNat_lt.mp h)
theorem pow_small {n : Int} (h0 : 0 < n) (h1 : n < 10) : (1 : Int) ≤ 2 ^ n.toNat ∧ (2 : Int) ^ n.toNat ≤ 512 := by
  obtain ⟨k, rfl⟩ := Int.eq_ofNat_of_zero_le (Int.le_of_lt h0)
  have key : ∀ k : Nat, k < 10 → 0 < k → (1 : Int) ≤ 2 ^ (k : Int).toNat ∧ (2 : Int) ^ (k : Int).toNat ≤ 512 := by decide +kernel
  exact key k (Int.ofNat_lt.mp h1) (Int.ofNat_lt.mp h0)
theorem lshS {prog : Program} {w : World} {A : Around} {E : Value → Shared → Prop} {s : Shared} {a b : Int} {t u : Tok} {Q : Value → Shared → Prop} (hb : 0 < b) (hb2 : b < 10) (ha : 0 ≤ a) (ha2 : a < 16) (h : ∀ r t, r = a * 2 ^ b.toNat → 0 ≤ r → r < 10000 → Q (.int r t) { s with toks := s.toks + 1 }) : wpAny (model prog w) A (binaryOp .LShift (.int a t) (.int b u)) Q E s := by
  obtain ⟨p1, p2⟩ := pow_small hb hb2
  refine lshift_int_small (by omega) (by omega) (by omega) (h _ _ rfl (Int.mul_nonneg ha (by omega)) ?_)
  have := Int.mul_le_mul (show a ≤ 15 by omega) p2 (by omega) (by omega)
  omega
theorem dv_step {B b d A r v : Int} (hB : 0 < B) (hb : 0 < b) (hd : 0 ≤ d ∧ d < B) (hr : r = A % b) (hv : v = r * B + d) :
    (d + B * A) / b = v / b + B * (A / b) ∧ (d + B * A) % b = v % b ∧ 0 ≤ v / b ∧ v / b < B ∧ 0 ≤ v := by
  have e1 := Int.emod_add_mul_ediv A b
  have r0 := Int.emod_nonneg A (Int.ne_of_gt hb)
  have r1 := Int.emod_lt_of_pos A hb
  have e2 : d + B * A = v + b * (B * (A / b)) := by
    rw [hv, hr]
    conv => lhs; rw [← e1]
    rw [Int.mul_add, Int.mul_comm B (A % b), ← Int.mul_assoc B b, Int.mul_comm B b, Int.mul_assoc]
    omega
  have v0 : 0 ≤ v := by rw [hv, hr]; have := Int.mul_nonneg r0 (Int.le_of_lt hB); omega
  refine ⟨?_, ?_, Int.ediv_nonneg v0 (Int.le_of_lt hb), ?_, v0⟩
  · rw [e2, Int.add_mul_ediv_left _ _ (Int.ne_of_gt hb)]
  · rw [e2, Int.add_mul_emod_self_left]
  · refine Int.ediv_lt_of_lt_mul hb ?_
    rw [hv, hr]
    have h1 : (A % b) * B ≤ (b - 1) * B := Int.mul_le_mul_of_nonneg_right (by omega) (Int.le_of_lt hB)
    rw [Int.sub_mul, Int.one_mul] at h1
    rw [Int.mul_comm B b]
    omega
theorem undigs_nonneg {B : Int} (hB : 0 ≤ B) : ∀ {l : List Int}, (∀ q ∈ l, 0 ≤ q) → 0 ≤ undigs B l
  | [], _ => Int.le_refl _
  | d :: l, h => by
    have h1 := h d (.head _)
    have h2 := undigs_nonneg hB (l := l) fun q hq => h q (.tail _ hq)
    have h3 := Int.mul_nonneg hB h2
    show 0 ≤ d + B * undigs B l
    omega
theorem undigs_drop {B : Int} (hB : 1 ≤ B) : ∀ {l : List Int} (k : Nat), (∀ q ∈ l, 0 ≤ q) → undigs B (l.drop k) ≤ undigs B l
  | l, 0, _ => by simp
  | [], _ + 1, _ => by simp
  | d :: l, k + 1, h => by
    have h1 := h d (.head _)
    have h2 := undigs_drop hB (l := l) k fun q hq => h q (.tail _ hq)
    have h4 := undigs_nonneg (B := B) (by omega) (l := l) fun q hq => h q (.tail _ hq)
    have h3 : 1 * undigs B l ≤ B * undigs B l := Int.mul_le_mul_of_nonneg_right hB h4
    show undigs B (l.drop k) ≤ d + B * undigs B l
    omega
theorem undigs_take {B : Int} (hB : 1 ≤ B) {l : List Int} (k : Nat) (h : ∀ q ∈ l, 0 ≤ q) : undigs B (l.take k) ≤ undigs B l := by
  have e : undigs B l = undigs B (l.take k ++ l.drop k) := by rw [List.take_append_drop]
  rw [e, undigs_append]
  have h1 := undigs_nonneg (B := B) (by omega) (l := l.drop k) fun q hq => h q (List.mem_of_mem_drop hq)
  have h2 : (0 : Int) ≤ B ^ (l.take k).length := Int.pow_nonneg (by omega)
  have := Int.mul_nonneg h2 h1
  omega
theorem undigs_sl {B : Int} (hB : 1 ≤ B) {l : List Int} (h : ∀ q ∈ l, 0 ≤ q) (i j : Int) : 0 ≤ undigs B (sl l i j) ∧ undigs B (sl l i j) ≤ undigs B l := by
  unfold sl
  have h' : ∀ q ∈ l.take j.toNat, 0 ≤ q := fun q hq => h q (List.mem_of_mem_take hq)
  exact ⟨undigs_nonneg (by omega) fun q hq => h' q (List.mem_of_mem_drop hq), Int.le_trans (undigs_drop hB _ h') (undigs_take hB _ h)⟩
theorem digs_mem {B : Int} (hB : 0 < B) : ∀ {k : Nat} {x : Int}, ∀ d ∈ digs B k x, 0 ≤ d ∧ d < B
  | 0, _, d, h => nomatch h
  | k + 1, x, d, h => by
    rcases List.mem_cons.mp h with rfl | h
    · exact ⟨Int.emod_nonneg _ (Int.ne_of_gt hB), Int.emod_lt_of_pos _ hB⟩
    · exact digs_mem hB d h
/-- between the turns of the loop over the digits, the highest first -/
structure DvJ (B y : Int) (ds : List Int) (ql l : Addr) (i9 : List Value) (e9 : Nat) (R1 : List (Addr × Obj)) (nv tyv : Value) (vs : List Value) (m : Str → Option Value) (nw : List (Addr × Obj)) : Prop where
  ex : ∃ (rest pre qn : List Int) (rr : Int) (t : Tok) (qs : List Value) (ep : Nat), IntsAre vs rest ∧ ds.reverse = pre ++ rest ∧ rr = undigs B pre.reverse % y ∧ IntsAre qs qn ∧ undigs B qn.reverse = undigs B pre.reverse / y ∧ (∀ q ∈ qn, 0 ≤ q ∧ q < B) ∧ qn.length = pre.length ∧
    nw = (ql, listOf qs.toArray ep) :: (l, listOf i9.toArray e9) :: R1 ∧ m "r" = some (.int rr t)
  q : m "q_digits" = some (.ref ql)
  b : m "b" = some tyv
  n : m "n" = some nv
theorem ints_rev {vs : List Value} {ns : List Int} (h : IntsAre vs ns) : IntsAre vs.reverse ns.reverse := by
  induction h with
  | nil => exact .nil
  | cons i t _ ih =>
    rw [List.reverse_cons, List.reverse_cons]
    exact ih.append (.cons i t .nil)
theorem tab_in {P : Addr} {pos : Pos} {q : Str} {t : List (Addr × Obj)} (ht : TabSt P pos q t) : ∃ ps : Array Value, (P, tabObj ps) ∈ t ∧ ∀ q u, ps[1]? ≠ some (.str q u) := by
  cases ht with
  | empty => exact ⟨_, .head _, fun _ _ e => by simp at e⟩
  | full => exact ⟨_, .head _, fun _ _ e => by simp [rawInt] at e⟩
theorem tab_ne {h₀ h : Heap} {L P P' : Addr} {pos pos' : Pos} {q q' : Str} {t t' R : List (Addr × Obj)} (hP : P ≠ P') (ht : TabSt P pos q t) (ht' : TabSt P' pos' q' t') (N : News h₀ L h R) (s : ∀ p ∈ t, p ∈ R) (s' : ∀ p ∈ t', p ∈ R) : ∀ x ∈ t, x.1 ≠ P' := by
  obtain ⟨ps, hm, hps⟩ := tab_in ht'
  have z := (N _ (s' _ hm)).1
  cases ht with
  | empty => intro x hx; rw [List.mem_singleton.mp hx]; exact hP
  | @full c oc vs t hc hd hq =>
    intro x hx
    rcases List.mem_cons.mp hx with rfl | hx
    · exact hP
    · rw [List.mem_singleton.mp hx]
      intro e
      have z' := (N _ (s _ (.tail _ (.head _)))).1
      have e' : c = P' := e
      subst e'
      rw [z'] at z
      obtain rfl := Option.some.inj z
      cases hd
      exact hps _ _ hq
theorem d2i_perm {α : Type} (a b : α) (t1 t2 nw R1 : List α) (hR1 : R1 = t1 ++ (t2 ++ nw)) : ∀ p ∈ a :: (t2 ++ (b :: (t1 ++ nw))), p ∈ a :: b :: R1 := by
  subst hR1
  intro p hp
  simp only [List.mem_cons, List.mem_append] at hp ⊢
  rcases hp with h | h | h | h | h
  · exact .inl h
  · exact .inr (.inr (.inr (.inl h)))
  · exact .inr (.inl h)
  · exact .inr (.inr (.inl h))
  · exact .inr (.inr (.inr (.inr h)))
theorem d2i_pn {h₀ h : Heap} {L : Addr} {pos pos' : Pos} {q q' : Str} {a b : Addr × Obj} {t1 t2 nw R1 : List (Addr × Obj)} (N : News h₀ L h (a :: b :: R1)) (hR1 : R1 = t1 ++ (t2 ++ nw)) (ht1 : TabSt 121 pos q t1) (ht2 : TabSt 128 pos' q' t2) (hb : ∀ x ∈ R1, x.1 ≠ b.1) (hpn : ∀ x ∈ nw, x.1 ≠ 128) : ∀ x ∈ b :: (t1 ++ nw), x.1 ≠ 128 := by
  intro x hx
  rcases List.mem_cons.mp hx with rfl | hx
  · obtain ⟨ps, hm, _⟩ := tab_in ht2
    exact fun e => hb _ (hR1 ▸ List.mem_append.mpr (.inr (List.mem_append.mpr (.inl hm)))) e.symm
  rcases List.mem_append.mp hx with hx | hx
  · exact tab_ne (by decide) ht1 ht2 N (fun p hp => .tail _ (.tail _ (hR1 ▸ List.mem_append.mpr (.inl hp)))) (fun p hp => .tail _ (.tail _ (hR1 ▸ List.mem_append.mpr (.inr (List.mem_append.mpr (.inl hp)))))) x hx
  · exact hpn x hx
theorem d2i_pl {a : Addr} {b : Addr × Obj} {t1 t2 nw R1 : List (Addr × Obj)} (hR1 : R1 = t1 ++ (t2 ++ nw)) (hq : ∀ x ∈ R1, x.1 ≠ a) (hb : @Ne Nat b.1 a) : ∀ x ∈ t2 ++ (b :: (t1 ++ nw)), x.1 ≠ a := by
  subst hR1
  intro x hx
  rcases List.mem_append.mp hx with hx | hx
  · exact hq x (List.mem_append.mpr (.inr (List.mem_append.mpr (.inl hx))))
  rcases List.mem_cons.mp hx with rfl | hx
  · exact hb
  rcases List.mem_append.mp hx with hx | hx
  · exact hq x (List.mem_append.mpr (.inl hx))
  · exact hq x (List.mem_append.mpr (.inr (List.mem_append.mpr (.inr hx))))
noncomputable abbrev tup2 (q : Int) (u : Tok) (r : Int) (v : Tok) : Obj := { cls := .type "tuple", data := .seq #[.int q u, .int r v] }
theorem dv_fin1 {α : Type} (a b c : α) (t1 t2 nw : List α) : ∀ p ∈ a :: (t1 ++ (t2 ++ nw)), p ∈ a :: b :: (t2 ++ (c :: (t1 ++ nw))) := by
  intro p hp
  simp only [List.mem_cons, List.mem_append] at hp ⊢
  rcases hp with h | h | h | h
  · exact .inl h
  · exact .inr (.inr (.inr (.inr (.inl h))))
  · exact .inr (.inr (.inl h))
  · exact .inr (.inr (.inr (.inr (.inr h))))
theorem dv_fin2 {α : Type} (c : α) (t1 t2 nw : List α) : ∀ p ∈ t1 ++ (t2 ++ nw), p ∈ t2 ++ (c :: (t1 ++ nw)) := by
  intro p hp
  simp only [List.mem_cons, List.mem_append] at hp ⊢
  rcases hp with h | h | h
  · exact .inr (.inr (.inl h))
  · exact .inl h
  · exact .inr (.inr (.inr h))
theorem appendN {prog : Program} {w : World} {A : Around} {E : Value → Shared → Prop} {s : Shared} {h₀ : Heap} {L D : Addr} {m : Str → Option Value} {news news' : List (Addr × Obj)} {vs : List Value} {n : Nat} {x : Value} {Q : Value → Shared → Prop} (F : Fr h₀ L s.heap m) (N : News h₀ L s.heap news)
   (U : Upd D (listOf vs.toArray n) (listOf (vs ++ [x]).toArray (n + 1)) news news') (hsz : vs.length ≤ 1000) (h : ∀ h', Fr h₀ L h' m → News h₀ L h' news' → Q .none { s with heap := h' }) : wpAny (model prog w) A (call (.builtin "list.append") [.ref D, x]) Q E s := by
  refine append_K F N (its := vs.toArray) (n := n) (by simpa using U) h ?_
  simp only [List.size_toArray]; exact Nat.le_trans hsz (by decide)
theorem fr_at {g h h' : Heap} {L L' : Addr} {m m' : Str → Option Value} (_F : Fr g L h m) (Fz : Fr g L' h' m') (e : L' = L) : Fr g L h' m' := e ▸ Fz
theorem news_at {g h h' : Heap} {L L' : Addr} {m : Str → Option Value} {n : List (Addr × Obj)} (_F : Fr g L h m) (Nz : News g L' h' n) (e : L' = L) : News g L h' n := e ▸ Nz
section
theorem c_divmodpos (w : World) (loose mean mg mb) (dp un : Nat) (gd cn nms mr a ccd cl outer A₀ base h₀ L m news s) (t1 t2 : List (Addr × Obj))
   (H : At w loose mean mg mb dp un A₀ base h₀ outer L m (t1 ++ (t2 ++ news)) s) (ht1 : TabSt 121 ⟨70, 4, 79, 28⟩ (qInner "_int2digits") t1) (ht2 : TabSt 128 ⟨85, 4, 90, 55⟩ (qInner "_digits2int") t2) (x y : Int) (tx ty : Tok) (hx : 0 ≤ x) (hx2 : x < 1000) (hy : 0 < y) (hy2 : y < 16) 
   (hP1 : CodeHd base 125 121) (hP2 : CodeHd base 132 128) (hdp : dp + 200 < recursionLimit) (hun : un + 1200 < cLine) (hpn1 : ∀ x ∈ news, x.1 ≠ 121) (hpn2 : ∀ x ∈ news, x.1 ≠ 128) (Q E : Value → Shared → Prop)
   (hret : ∀ p q r u v h' tk' t1' t2', TabSt 121 ⟨70, 4, 79, 28⟩ (qInner "_int2digits") t1' → TabSt 128 ⟨85, 4, 90, 55⟩ (qInner "_digits2int") t2' → Fr h₀ L h' m → News h₀ L h' ((p, tup2 q u r v) :: (t1' ++ (t2' ++ news))) → (∀ z ∈ t1' ++ (t2' ++ news), z.1 ≠ p) → q = x / y → r = x % y → Q (.ref p) { s with heap := h', toks := tk' }) :
   wpAny (model PG w) (topA dp un gd cn nms mr L a ccd cl outer) (call (.ref 140) [.int x tx, .int y ty]) Q E s := by
  k_with_none
  (k_with "all here" => first | assumption | ((with_reducible refine List.forall_mem_cons.mpr ⟨?_, ?_⟩); k_ne; k_all) | ((repeat (cases ‹_ ∧ _›)); first | assumption | walk_at "all tail" | walk_at "all raw"))
  (k_with "execs cons" => (k_here; (fail_if_success k_gentoks); (fail_if_success k_made); (with_reducible refine wpAny_execs_cons ?_); k_fold; (try dsimp only)))
  (k_with "eval Name" => (k_here; (fail_if_success (with_reducible show wpAny _ _ (eval _ (compEnvC _ _ _ _)) _ _ _)); k_dflt (refine' nameX_C ?Nkq ?ckq ?mkq ?dkq ?_ ?akq ?bkq; (case akq => exact Eq.refl _); (case bkq => exact Eq.refl (some _)); (case Nkq => k_asm); (case ckq => exact Eq.refl (some _)); (case mkq => k_mem); (case dkq => k_asm); k_whole)))
  (k_with "eval Name" => (k_here; (fail_if_success (with_reducible show wpAny _ _ (eval _ (compEnvC _ _ _ _)) _ _ _)); k_dflt (refine' nameX_L ?Fkq ?vkq ?_ ?akq ?bkq; (case Fkq => k_asm); (case akq => exact Eq.refl _); (case bkq => exact Eq.refl (some _)); (case vkq => exact Eq.refl (some _)); k_whole)))
  (k_with "callWith ref" => (k_here; (with_reducible show wpAny _ _ (callWith _ (Value.ref (OfNat.ofNat _)) _ _ _) _ _ _); k_dflt (refine' callWith_KW ?k1q ?k2q ?k3q ?_; (case k1q => k_asm); (case k2q => k_is); (case k3q => exact rfl); k_whole)))
  (k_with "callWith ref" => (k_here; (with_reducible show wpAny _ _ (callWith _ (Value.ref (OfNat.ofNat _)) _ _ _) _ _ _); k_dflt (refine' callWith_K0 ?k1q ?k2q ?_; (case k1q => first | with_reducible assumption | exact Frag.In.keeps (by with_reducible assumption) (Fr.keep (by with_reducible assumption)) | k_in); (case k2q => k_is); k_whole)))
  (k_with "callWith ref" => (k_here; (with_reducible show wpAny _ _ (callWith _ (Value.ref (OfNat.ofNat _)) _ _ _) _ _ _); k_dflt (refine' callWith_K ?k1q ?k2q ?_; (case k1q => k_asm); (case k2q => k_is); k_whole)))
  (k_with "all raw" => ((with_reducible rename ∀ p, p ∈ _ → @LT.lt Nat _ (Prod.fst p) _ => h9zq); first | exact rawLt_ne h9zq (by (fail_if_success (fail_if_success (omega (config := {})))); lia) | (clear h9zq; walk_at "all raw")))
  (k_with "all tail" => ((with_reducible rename AllLt _ _ => h9zq); first | exact allLt_ne h9zq (by (fail_if_success (fail_if_success (omega (config := {})))); lia) | (clear h9zq; walk_at "all tail")))
  (k_with "call builtin:list.append" => (k_here; (with_reducible show wpAny _ _ (call (Value.builtin _) [Value.ref _, _]) _ _ _); k_dflt (refine' appendN ?Fk128q ?Nk128q ?Uk128q ?zk128q ?_; (case Fk128q => k_asm); (case Nk128q => k_asm); (case Uk128q => k_upd); (case zk128q => assumption); k_whole); intro _ _ _; (try k_sweep)))
  (k_with "call builtin:list.reverse" => (k_here; (with_reducible show wpAny _ _ (call (Value.builtin _) [Value.ref _]) _ _ _); k_dflt (refine' kl_reverse ?Fk129q ?Nk129q ?ek129q ?Uk129q ?zk129q ?_; (case Fk129q => k_asm); (case Nk129q => k_asm); (case ek129q => exact rfl); (case Uk129q => k_upd); (case zk129q => walk_at "rev z")); intro _ _ _; (try k_sweep)))
  (k_with "rev z" => (dsimp only; exact Nat.le_trans (by assumption) (by decide)))
  (k_with "d2i len" => assumption)
  (k_with "d2i b" => assumption)
  (k_with "d2i pn" => exact d2i_pn (by assumption) (by assumption) (by assumption) (by assumption) (by assumption) (by assumption))
  (k_with "d2i pl" => exact d2i_pl (by assumption) (by assumption) (Nat.ne_of_lt (And.left (by assumption))))
  (k_with "call ref" => (k_here; (with_reducible show wpAny _ _ (call (Value.ref 133) _ _) _ _ _); k_dflt (refine' c_d2i (H := ⟨?b_Bk135q, ?b_Fk135q, ?b_Xk135q, ?b_Nk135q, ?b_Tk135q, ?b_hdk135q, ?b_huk135q⟩) (ht := ?h_htk135q) (hn := ?h_hnk135q) (hn2 := ?h_hn2k135q) (hI := ?h_hIk135q) (hns := ?h_hnsk135q) (hb := ?h_hbk135q) (hP := ?h_hPk135q) (hdp := ?h_hdpk135q) (hun := ?h_hunk135q) (hpn := ?h_hpnk135q) (hpl := ?h_hplk135q) (hret := ?_) (gd := _) (cn := _) (nms := _) (mr := _) (a := _) (ccd := _) (cl := _) (tn := _) (E := _); (case b_Bk135q => k_asm); (case b_Fk135q => k_asm); (case b_Xk135q => k_asm); (case b_Nk135q => exact news_sub (by assumption) (d2i_perm _ _ _ _ _ _ (by assumption))); (case b_Tk135q => k_asm); (case b_hdk135q => ktr_room); (case b_huk135q => ktr_units); (case h_htk135q => assumption); (case h_hnk135q => assumption); (case h_hn2k135q => assumption); (case h_hIk135q => exact ints_rev (by assumption)); (case h_hnsk135q => walk_at "d2i len"); (case h_hbk135q => walk_at "d2i b"); (case h_hPk135q => assumption); (case h_hdpk135q => ktr_room); (case h_hunk135q => ktr_units); (case h_hpnk135q => walk_at "d2i pn"); (case h_hplk135q => walk_at "d2i pl"); k_whole); intro _ _ _ _ _ _ _ _ _ _))
  (k_with "binaryOp LShift int int" => (k_here; (refine lshS ?_ ?_ ?_ ?_ ?_; omega; omega; omega; omega); intro _ _ _ _ _))
  (k_with "call ref" => (k_here; (with_reducible show wpAny _ _ (call (Value.ref 126) _ _) _ _ _); k_dflt (refine' c_i2d (H := ⟨?b_Bk137q, ?b_Fk137q, ?b_Xk137q, ?b_Nk137q, ?b_Tk137q, ?b_hdk137q, ?b_huk137q⟩) (ht := ?h_htk137q) (hx := ?h_hxk137q) (hx2 := ?h_hx2k137q) (hn := ?h_hnk137q) (hn2 := ?h_hn2k137q) (hP := ?h_hPk137q) (hdp := ?h_hdpk137q) (hun := ?h_hunk137q) (hpn := ?h_hpnk137q) (hret := ?_) (gd := _) (cn := _) (nms := _) (mr := _) (a := _) (ccd := _) (cl := _) (tx := _) (tn := _) (E := _); (case b_Bk137q => k_asm); (case b_Fk137q => k_asm); (case b_Xk137q => k_asm); (case b_Nk137q => k_asm); (case b_Tk137q => k_asm); (case b_hdk137q => ktr_room); (case b_huk137q => ktr_units); (case h_htk137q => assumption); (case h_hxk137q => omega); (case h_hx2k137q => omega); (case h_hnk137q => omega); (case h_hn2k137q => omega); (case h_hPk137q => assumption); (case h_hdpk137q => ktr_room); (case h_hunk137q => ktr_units); (case h_hpnk137q => assumption); k_whole); intro _ _ _ _ _ _ _ _ _ _ _))
  (k_with "call ref" => (k_here; (with_reducible show wpAny _ _ (call (Value.ref 112) _ _) _ _ _); k_dflt (refine' c_div2n1n (H := ⟨?b_Bk138q, ?b_Fk138q, ?b_Xk138q, ?b_Nk138q, ?b_Tk138q, ?b_hdk138q, ?b_huk138q⟩) (hx := ?h_hxk138q) (hx2 := ?h_hx2k138q) (hn := ?h_hnk138q) (hn2 := ?h_hn2k138q) (hy := ?h_hyk138q) (hy2 := ?h_hy2k138q) (hret := ?_) (gd := _) (cn := _) (nms := _) (mr := _) (a := _) (ccd := _) (cl := _) (tx := _) (ty := _) (tn := _) (E := _); (case b_Bk138q => k_asm); (case b_Fk138q => k_asm); (case b_Xk138q => k_asm); (case b_Nk138q => k_asm); (case b_Tk138q => k_asm); (case b_hdk138q => ktr_room); (case b_huk138q => ktr_units); (case h_hxk138q => omega); (case h_hx2k138q => omega); (case h_hnk138q => omega); (case h_hn2k138q => omega); (case h_hyk138q => omega); (case h_hy2k138q => omega); k_whole); intro _ _ _ _ _ _ _ _ _ l1zq _ _; (try k_lt l1zq)))
  refine hide9 fun C9 k9 => ?_
  obtain ⟨B, F, X, N, T, hd, hu⟩ := H
  refine k9 ?_
  clear k9
  have z9 : PySem.Challenge.rw_wo0040_01 = PySem.Challenge.rw_wo0040_01 ∧ Mine.frag.heap_1 = Mine.frag.heap_1 := by
    k_fill
    exact ⟨rfl, rfl⟩
  clear z9
  have hbits : Builtin.Int.intBits y ≤ 64 := intBits_le_64 (by omega) (by omega)
  obtain ⟨hb1, hb2, hb3⟩ := bits_small hy hy2
  have hpn3 : ∀ x ∈ t2 ++ news, x.1 ≠ 121 := fun x hx => (List.mem_append.mp hx).elim (tab_ne (by decide) ht2 ht1 N (fun p hp => List.mem_append.mpr (.inr (List.mem_append.mpr (.inl hp)))) (fun p hp => List.mem_append.mpr (.inl hp)) x) (hpn1 x)
  k_steps
  rename Fr _ _ _ _ => F9
  rename News _ _ _ _ => N9
  rename (∀ q : Addr × Obj, q ∈ _ → q.1 ≠ _) => hoff9
  rename IntsAre _ _ => I9
  rename TabSt 121 _ _ _ => ht9
  have hB : (0 : Int) < 2 ^ (Builtin.Int.intBits y : Int).toNat := by have := (pow_small hb1 hb2).1; omega
  rename (_ ∧ (_ ∧ AllLt _ (_ ++ _))) => lD
  rename (_ ∧ AllLt _ (_ ++ _)) => lq
  have oD := allLt_ne lD.2.2 (Nat.le_refl _)
  have oq := allLt_ne lq.2 (Nat.le_refl _)
  rename List (Addr × Obj) => tb9
  obtain ⟨R1, hR1⟩ : ∃ R1, R1 = tb9 ++ (t2 ++ news) := ⟨_, rfl⟩
  rw [← hR1] at hoff9 lD lq oD oq N9
  refine iter_revUnr (lo := listOf _ _) (vs := _) rfl F9 N9 (offI_of ?off) (.tail _ (.head _)) rfl rfl ?rest
  case off =>
    intro p hp
    rcases List.mem_cons.mp hp with rfl | hp
    · exact Nat.ne_of_lt lD.1
    rcases List.mem_cons.mp hp with rfl | hp
    · exact Nat.ne_of_lt lD.2.1
    · exact oD p hp
  case rest =>
    refine revRest_inv (DvJ (2 ^ (Builtin.Int.intBits y : Int).toNat) y (digs (2 ^ (Builtin.Int.intBits y : Int).toNat) (i2dCnt x (Builtin.Int.intBits y)).toNat x) _ _ _ _ _ _ _) ?step ?done _ _ _ ⟨⟨_, [], [], 0, _, [], 0, ints_rev I9, rfl, ?_, .nil, ?_, fun _ h => (nomatch h), rfl, rfl, rfl⟩, rfl, rfl, rfl⟩
    case step =>
      intro v r m news' it h tk hz1z hit Fz Nz
      refine hide9 fun C9 k9 => ?_
      obtain ⟨⟨rest, pre, qn, rr, t, qs, ep, Iv, hds, hrr, Iq, hq, hqb, hql, rfl, mr⟩, mq, mb', mn⟩ := hz1z
      refine k9 ?_
      clear k9
      cases Iv with
      | cons d td Iv =>
      have hdm : 0 ≤ d ∧ d < 2 ^ (Builtin.Int.intBits y : Int).toNat := digs_mem hB d (List.mem_reverse.mp (hds ▸ List.mem_append.mpr (.inr (.head _))))
      have hd5 := (pow_small hb1 hb2).2
      have hr0 : 0 ≤ rr ∧ rr < 16 := by rw [hrr]; have e1 := Int.emod_nonneg (undigs (2 ^ (Builtin.Int.intBits y : Int).toNat) pre.reverse) (Int.ne_of_gt hy); have e2 := Int.emod_lt_of_pos (undigs (2 ^ (Builtin.Int.intBits y : Int).toNat) pre.reverse) hy; omega
      have Fz := fr_at F9 (fr_ovr Fz [(Str.ofString "a_digit", .int d td), (Str.ofString "r", .int rr t), (Str.ofString "q_digits", .ref _), (Str.ofString "b", .int y ty), (Str.ofString "n", _)] (by
        intro p hp
        rcases List.mem_cons.mp hp with rfl | hp
        · rfl
        rcases List.mem_cons.mp hp with rfl | hp
        · exact mr
        rcases List.mem_cons.mp hp with rfl | hp
        · exact mq
        rcases List.mem_cons.mp hp with rfl | hp
        · exact mb'
        rcases List.mem_cons.mp hp with rfl | hp
        · exact mn
        · cases hp)) rfl
      have Nz := news_at F9 Nz rfl
      dsimp only [ovr] at Fz
      clear F9 N9
      have hsz : qs.length ≤ 1000 := by
        have e1 := Iq.length
        have e2 := congrArg List.length hds
        rw [List.length_reverse, digs_length, List.length_append] at e2
        have e3 := (cnt_ok hx (by omega) hb1).2
        have e4 : (i2dCnt x (Builtin.Int.intBits y)).toNat ≤ 64 := by show (Int.fdiv _ _).toNat ≤ 64; omega
        omega
      k_steps
      rename Fr _ _ _ _ => F8
      rename News _ _ _ _ => N8
      rename _ = (_ + _) / _ => hq9
      rename _ = (_ + _) % _ => hr9
      rename _ = rr * _ => hv9
      refine hide9 fun C9 k9 => ?_
      obtain ⟨d1, d2, d3, d4, d5⟩ := dv_step (r := rr) (v := rr * 2 ^ (Builtin.Int.intBits y : Int).toNat + d) hB hy hdm hrr rfl
      refine k9 ?_
      clear k9
      rw [hv9] at hq9 hr9
      refine turnEnd_next (_ :: _ :: R1) F8 N8 (fun p hp => .tail _ hp) ?_ ⟨.tail _ (.head _), ⟨_, pre ++ [d], qn ++ [_], _, _, _, _, Iv, by rw [hds]; simp, ?_, Iq.append (.cons _ _ .nil), ?_, ?_, by simp [hql], rfl, rfl⟩, rfl, rfl, rfl⟩
      · intro p hp
        rcases List.mem_cons.mp hp with rfl | hp
        · exact Nat.ne_of_lt lD.1
        rcases List.mem_cons.mp hp with rfl | hp
        · exact Nat.ne_of_lt lD.2.1
        · exact oD p hp
      · rw [hr9, List.reverse_append]
        show _ = (d + _ * undigs _ pre.reverse) % y
        rw [d2]
      · rw [List.reverse_append, List.reverse_append]
        show _ + _ * undigs _ qn.reverse = (d + _ * undigs _ pre.reverse) / y
        rw [d1, hq, hq9]
      · intro q hqq
        rcases List.mem_append.mp hqq with hqq | hqq
        · exact hqb q hqq
        · rw [List.mem_singleton.mp hqq, hq9]; exact ⟨d3, d4⟩
    case done =>
      intro m nw h tk hz2z Fz Nz
      refine hide9 fun C9 k9 => ?_
      obtain ⟨⟨rest, pre, qn, rr, t, qs, ep, Iv, hds, hrr, Iq, hq, hqb, hql, rfl, mr⟩, mq, mb', mn⟩ := hz2z
      refine k9 ?_
      clear k9
      cases Iv
      have Fz := fr_at F9 (fr_ovr Fz [(Str.ofString "r", .int rr t), (Str.ofString "q_digits", .ref _), (Str.ofString "b", .int y ty), (Str.ofString "n", _)] (by
        intro p hp
        rcases List.mem_cons.mp hp with rfl | hp
        · exact mr
        rcases List.mem_cons.mp hp with rfl | hp
        · exact mq
        rcases List.mem_cons.mp hp with rfl | hp
        · exact mb'
        rcases List.mem_cons.mp hp with rfl | hp
        · exact mn
        · cases hp)) rfl
      have Nz := news_at F9 Nz rfl
      dsimp only [ovr] at Fz
      clear F9 N9
      have hsz : qs.length ≤ 1000 := by
        have e1 := Iq.length
        have e2 := congrArg List.length hds
        rw [List.length_reverse, digs_length, List.length_append] at e2
        have e3 := (cnt_ok hx (by omega) hb1).2
        have e4 : (i2dCnt x (Builtin.Int.intBits y)).toNat ≤ 64 := by show (Int.fdiv _ _).toNat ≤ 64; omega
        omega
      have hn0 : Hid (digs (2 ^ (Builtin.Int.intBits y : Int).toNat) (i2dCnt x (Builtin.Int.intBits y)).toNat x = pre.reverse) := ⟨by rw [← List.reverse_reverse (digs _ _ _), hds]; simp⟩
      have hxx : undigs (2 ^ (Builtin.Int.intBits y : Int).toNat) pre.reverse = x := by
        rw [← hn0.out]
        exact undigs_digs _ hB _ _ hx (bits_ok hx hb1 (cnt_ok hx (by omega) hb1).1)
      rw [hxx] at hrr hq
      have hqn : qn.reverse.length ≤ 64 := by
        rw [List.length_reverse]
        have e2 := congrArg List.length hds
        rw [List.length_reverse, digs_length, List.length_append] at e2
        have e3 := (cnt_ok hx (by omega) hb1).2
        have e4 : (i2dCnt x (Builtin.Int.intBits y)).toNat ≤ 64 := by show (Int.fdiv _ _).toNat ≤ 64; omega
        omega
      have hbb : ∀ i j, 0 ≤ undigs (2 ^ (Builtin.Int.intBits y : Int).toNat) (sl qn.reverse i j) ∧ undigs (2 ^ (Builtin.Int.intBits y : Int).toNat) (sl qn.reverse i j) < 536870912 := fun i j => by
        have e1 := undigs_sl (B := 2 ^ (Builtin.Int.intBits y : Int).toNat) (by omega) (l := qn.reverse) (fun q hq' => (hqb q (List.mem_reverse.mp hq')).1) i j
        have e2 := Int.ediv_le_self (a := x) y hx
        rw [hq] at e1
        omega
      k_steps
      rename TabSt 128 _ _ _ => ht8
      rename _ = undigs _ _ => hq9
      rename News _ _ _ _ => Nf
      rename (_ ∧ AllLt _ (_ ++ _)) => lf
      refine hret _ _ _ _ _ _ _ _ _ ht9 ht8 (by assumption) (news_sub Nf (dv_fin1 _ _ _ _ _ _)) (fun z hz => allLt_ne lf.2 (Nat.le_refl _) z (dv_fin2 _ _ _ _ z hz)) (hq9.trans hq) hrr
    · simp [undigs]
    · simp [undigs]
end
end Mine
end

section
open PySem PySem.W PySem.Calls PyProof.Rows
set_option maxRecDepth 100000
set_option maxHeartbeats 1000000
namespace Mine
theorem idm_not {a b q r : Int} (hb : 0 < b) (hq : q = (-a - 1).fdiv b) (hr : r = (-a - 1).fmod b) : -q - 1 = a.fdiv b ∧ b + (-r - 1) = a.fmod b := by
  rw [Int.fdiv_eq_ediv_of_nonneg _ (Int.le_of_lt hb)] at hq ⊢
  rw [Int.fmod_eq_emod_of_nonneg _ (Int.le_of_lt hb)] at hr ⊢
  have e1 := Int.emod_add_mul_ediv (-a - 1) b
  have e2 := Int.emod_nonneg (-a - 1) (Int.ne_of_gt hb)
  have e3 := Int.emod_lt_of_pos (-a - 1) hb
  rw [← hq, ← hr] at e1
  rw [← hr] at e2 e3
  have e4 : a = (b + (-r - 1)) + b * (-q - 1) := by rw [Int.mul_sub, Int.mul_neg, Int.mul_one]; omega
  constructor
  · rw [e4, Int.add_mul_ediv_left _ _ (Int.ne_of_gt hb), Int.ediv_eq_zero_of_lt (by omega) (by omega)]; omega
  · conv => rhs; rw [e4]
    rw [Int.add_mul_emod_self_left, Int.emod_eq_of_lt (by omega) (by omega)]
theorem idm_neg {a b q r : Int} (hq : q = (-a).fdiv (-b)) (hr : r = (-a).fmod (-b)) : q = a.fdiv b ∧ -r = a.fmod b := by
  rw [hq, hr, Int.neg_fdiv_neg, Int.neg_fmod_neg]; simp
section
theorem c_idm0 (w : World) (loose mean mg mb) (dp un : Nat) (gd cn nms mr a ccd cl outer A₀ base h₀ L m news s) (t1 t2 : List (Addr × Obj))
   (H : At w loose mean mg mb dp un A₀ base h₀ outer L m (t1 ++ (t2 ++ news)) s) (ht1 : TabSt 121 ⟨70, 4, 79, 28⟩ (qInner "_int2digits") t1) (ht2 : TabSt 128 ⟨85, 4, 90, 55⟩ (qInner "_digits2int") t2) (x y : Int) (tx ty : Tok) (hx : 0 ≤ x) (hx2 : x < 1000) (hy : 0 < y) (hy2 : y < 16)
   (hP1 : CodeHd base 125 121) (hP2 : CodeHd base 132 128) (hdp : dp + 220 < recursionLimit) (hun : un + 1300 < cLine) (hpn1 : ∀ x ∈ news, x.1 ≠ 121) (hpn2 : ∀ x ∈ news, x.1 ≠ 128) (Q E : Value → Shared → Prop)
   (hret : ∀ p q r u v h' tk' t1' t2', TabSt 121 ⟨70, 4, 79, 28⟩ (qInner "_int2digits") t1' → TabSt 128 ⟨85, 4, 90, 55⟩ (qInner "_digits2int") t2' → Fr h₀ L h' m → News h₀ L h' ((p, tup2 q u r v) :: (t1' ++ (t2' ++ news))) → (∀ z ∈ t1' ++ (t2' ++ news), z.1 ≠ p) → q = x.fdiv y → r = x.fmod y → Q (.ref p) { s with heap := h', toks := tk' }) :
   wpAny (model PG w) (topA dp un gd cn nms mr L a ccd cl outer) (call (.ref 147) [.int x tx, .int y ty]) Q E s := by
  k_with_none
  (k_with "all here" => first | assumption | ((with_reducible refine List.forall_mem_cons.mpr ⟨?_, ?_⟩); k_ne; k_all) | ((repeat (cases ‹_ ∧ _›)); first | assumption | walk_at "all tail" | walk_at "all raw"))
  (k_with "execs cons" => (k_here; (fail_if_success k_gentoks); (fail_if_success k_made); (with_reducible refine wpAny_execs_cons ?_); k_fold; (try dsimp only)))
  (k_with "eval Name" => (k_here; (fail_if_success (with_reducible show wpAny _ _ (eval _ (compEnvC _ _ _ _)) _ _ _)); k_dflt (refine' nameX_C ?Nkq ?ckq ?mkq ?dkq ?_ ?akq ?bkq; (case akq => exact Eq.refl _); (case bkq => exact Eq.refl (some _)); (case Nkq => k_asm); (case ckq => exact Eq.refl (some _)); (case mkq => k_mem); (case dkq => k_asm); k_whole)))
  (k_with "eval Name" => (k_here; (fail_if_success (with_reducible show wpAny _ _ (eval _ (compEnvC _ _ _ _)) _ _ _)); k_dflt (refine' nameX_L ?Fkq ?vkq ?_ ?akq ?bkq; (case Fkq => k_asm); (case akq => exact Eq.refl _); (case bkq => exact Eq.refl (some _)); (case vkq => exact Eq.refl (some _)); k_whole)))
  (k_with "callWith ref" => (k_here; (with_reducible show wpAny _ _ (callWith _ (Value.ref (OfNat.ofNat _)) _ _ _) _ _ _); k_dflt (refine' callWith_KW ?k1q ?k2q ?k3q ?_; (case k1q => k_asm); (case k2q => k_is); (case k3q => exact rfl); k_whole)))
  (k_with "callWith ref" => (k_here; (with_reducible show wpAny _ _ (callWith _ (Value.ref (OfNat.ofNat _)) _ _ _) _ _ _); k_dflt (refine' callWith_K0 ?k1q ?k2q ?_; (case k1q => first | with_reducible assumption | exact Frag.In.keeps (by with_reducible assumption) (Fr.keep (by with_reducible assumption)) | k_in); (case k2q => k_is); k_whole)))
  (k_with "callWith ref" => (k_here; (with_reducible show wpAny _ _ (callWith _ (Value.ref (OfNat.ofNat _)) _ _ _) _ _ _); k_dflt (refine' callWith_K ?k1q ?k2q ?_; (case k1q => k_asm); (case k2q => k_is); k_whole)))
  (k_with "call ref" => (k_here; (with_reducible show wpAny _ _ (call (Value.ref 140) _ _) _ _ _); k_dflt (refine' c_divmodpos (H := ⟨?b_Bk139q, ?b_Fk139q, ?b_Xk139q, ?b_Nk139q, ?b_Tk139q, ?b_hdk139q, ?b_huk139q⟩) (ht1 := ?h_ht1k139q) (ht2 := ?h_ht2k139q) (hx := ?h_hxk139q) (hx2 := ?h_hx2k139q) (hy := ?h_hyk139q) (hy2 := ?h_hy2k139q) (hP1 := ?h_hP1k139q) (hP2 := ?h_hP2k139q) (hdp := ?h_hdpk139q) (hun := ?h_hunk139q) (hpn1 := ?h_hpn1k139q) (hpn2 := ?h_hpn2k139q) (hret := ?_) (gd := _) (cn := _) (nms := _) (mr := _) (a := _) (ccd := _) (cl := _) (tx := _) (ty := _) (E := _); (case b_Bk139q => k_asm); (case b_Fk139q => k_asm); (case b_Xk139q => k_asm); (case b_Nk139q => k_asm); (case b_Tk139q => k_asm); (case b_hdk139q => ktr_room); (case b_huk139q => ktr_units); (case h_ht1k139q => assumption); (case h_ht2k139q => assumption); (case h_hxk139q => omega); (case h_hx2k139q => omega); (case h_hyk139q => omega); (case h_hy2k139q => omega); (case h_hP1k139q => assumption); (case h_hP2k139q => assumption); (case h_hdpk139q => ktr_room); (case h_hunk139q => ktr_units); (case h_hpn1k139q => assumption); (case h_hpn2k139q => assumption); k_whole); intro _ _ _ _ _ _ _ _ _ _ _ _ _ _ _ _))
  refine hide9 fun C9 k9 => ?_
  obtain ⟨B, F, X, N, T, hd, hu⟩ := H
  refine k9 ?_
  clear k9
  have z9 : PySem.Challenge.rw_wo0040_01 = PySem.Challenge.rw_wo0040_01 ∧ Mine.frag.heap_1 = Mine.frag.heap_1 := by
    k_fill
    exact ⟨rfl, rfl⟩
  clear z9
  k_steps
  all_goals try (exfalso; omega)
  · refine hret _ _ _ _ _ _ _ _ _ (by assumption) (by assumption) (by assumption) (by assumption) (by assumption) ?_ ?_
    · rw [Int.fdiv_eq_ediv_of_nonneg _ (Int.le_of_lt hy)]; assumption
    · rw [Int.fmod_eq_emod_of_nonneg _ (Int.le_of_lt hy)]; assumption
end
theorem invS {prog : Program} {w : World} {A : Around} {E : Value → Shared → Prop} {s : Shared} {a : Int} {t : Tok} {Q : Value → Shared → Prop} (h : Q (.int (-a - 1) s.toks) { s with toks := s.toks + 1 }) : wpAny (model prog w) A (unaryOp .Invert (.int a t)) Q E s := by
  refine invert_int ?_
  rw [show Builtin.bitNot a = -a - 1 from by unfold Builtin.bitNot; omega]
  exact h
theorem idm_perm {α : Type} (a b : α) (t1 t2 nw : List α) : ∀ p ∈ a :: (t1 ++ (t2 ++ nw)), p ∈ a :: b :: (t1 ++ (t2 ++ nw)) := fun p hp => by
  rcases List.mem_cons.mp hp with rfl | hp
  · exact .head _
  · exact .tail _ (.tail _ hp)
section
theorem c_idm1 (w : World) (loose mean mg mb) (dp un : Nat) (gd cn nms mr a ccd cl outer A₀ base h₀ L m news s) (t1 t2 : List (Addr × Obj))
   (H : At w loose mean mg mb dp un A₀ base h₀ outer L m (t1 ++ (t2 ++ news)) s) (ht1 : TabSt 121 ⟨70, 4, 79, 28⟩ (qInner "_int2digits") t1) (ht2 : TabSt 128 ⟨85, 4, 90, 55⟩ (qInner "_digits2int") t2) (x y : Int) (tx ty : Tok) (hx : -1000 < x) (hx2 : x < 0) (hy : 0 < y) (hy2 : y < 16)
   (hP1 : CodeHd base 125 121) (hP2 : CodeHd base 132 128) (hdp : dp + 240 < recursionLimit) (hun : un + 1400 < cLine) (hpn1 : ∀ x ∈ news, x.1 ≠ 121) (hpn2 : ∀ x ∈ news, x.1 ≠ 128) (Q E : Value → Shared → Prop)
   (hret : ∀ p q r u v h' tk' t1' t2', TabSt 121 ⟨70, 4, 79, 28⟩ (qInner "_int2digits") t1' → TabSt 128 ⟨85, 4, 90, 55⟩ (qInner "_digits2int") t2' → Fr h₀ L h' m → News h₀ L h' ((p, tup2 q u r v) :: (t1' ++ (t2' ++ news))) → (∀ z ∈ t1' ++ (t2' ++ news), z.1 ≠ p) → q = x.fdiv y → r = x.fmod y → Q (.ref p) { s with heap := h', toks := tk' }) :
   wpAny (model PG w) (topA dp un gd cn nms mr L a ccd cl outer) (call (.ref 147) [.int x tx, .int y ty]) Q E s := by
  k_with_none
  (k_with "all here" => first | assumption | ((with_reducible refine List.forall_mem_cons.mpr ⟨?_, ?_⟩); k_ne; k_all) | ((repeat (cases ‹_ ∧ _›)); first | assumption | walk_at "all tail" | walk_at "all raw"))
  (k_with "execs cons" => (k_here; (fail_if_success k_gentoks); (fail_if_success k_made); (with_reducible refine wpAny_execs_cons ?_); k_fold; (try dsimp only)))
  (k_with "eval Name" => (k_here; (fail_if_success (with_reducible show wpAny _ _ (eval _ (compEnvC _ _ _ _)) _ _ _)); k_dflt (refine' nameX_C ?Nkq ?ckq ?mkq ?dkq ?_ ?akq ?bkq; (case akq => exact Eq.refl _); (case bkq => exact Eq.refl (some _)); (case Nkq => k_asm); (case ckq => exact Eq.refl (some _)); (case mkq => k_mem); (case dkq => k_asm); k_whole)))
  (k_with "eval Name" => (k_here; (fail_if_success (with_reducible show wpAny _ _ (eval _ (compEnvC _ _ _ _)) _ _ _)); k_dflt (refine' nameX_L ?Fkq ?vkq ?_ ?akq ?bkq; (case Fkq => k_asm); (case akq => exact Eq.refl _); (case bkq => exact Eq.refl (some _)); (case vkq => exact Eq.refl (some _)); k_whole)))
  (k_with "callWith ref" => (k_here; (with_reducible show wpAny _ _ (callWith _ (Value.ref (OfNat.ofNat _)) _ _ _) _ _ _); k_dflt (refine' callWith_KW ?k1q ?k2q ?k3q ?_; (case k1q => k_asm); (case k2q => k_is); (case k3q => exact rfl); k_whole)))
  (k_with "callWith ref" => (k_here; (with_reducible show wpAny _ _ (callWith _ (Value.ref (OfNat.ofNat _)) _ _ _) _ _ _); k_dflt (refine' callWith_K0 ?k1q ?k2q ?_; (case k1q => first | with_reducible assumption | exact Frag.In.keeps (by with_reducible assumption) (Fr.keep (by with_reducible assumption)) | k_in); (case k2q => k_is); k_whole)))
  (k_with "callWith ref" => (k_here; (with_reducible show wpAny _ _ (callWith _ (Value.ref (OfNat.ofNat _)) _ _ _) _ _ _); k_dflt (refine' callWith_K ?k1q ?k2q ?_; (case k1q => k_asm); (case k2q => k_is); k_whole)))
  (k_with "unaryOp Invert int" => (k_here; refine invS ?_))
  (k_with "call ref" => (k_here; (with_reducible show wpAny _ _ (call (Value.ref 147) _ _) _ _ _); k_dflt (refine' c_idm0 (H := ⟨?b_Bk141q, ?b_Fk141q, ?b_Xk141q, ?b_Nk141q, ?b_Tk141q, ?b_hdk141q, ?b_huk141q⟩) (ht1 := ?h_ht1k141q) (ht2 := ?h_ht2k141q) (hx := ?h_hxk141q) (hx2 := ?h_hx2k141q) (hy := ?h_hyk141q) (hy2 := ?h_hy2k141q) (hP1 := ?h_hP1k141q) (hP2 := ?h_hP2k141q) (hdp := ?h_hdpk141q) (hun := ?h_hunk141q) (hpn1 := ?h_hpn1k141q) (hpn2 := ?h_hpn2k141q) (hret := ?_) (gd := _) (cn := _) (nms := _) (mr := _) (a := _) (ccd := _) (cl := _) (tx := _) (ty := _) (E := _); (case b_Bk141q => k_asm); (case b_Fk141q => k_asm); (case b_Xk141q => k_asm); (case b_Nk141q => k_asm); (case b_Tk141q => k_asm); (case b_hdk141q => ktr_room); (case b_huk141q => ktr_units); (case h_ht1k141q => assumption); (case h_ht2k141q => assumption); (case h_hxk141q => omega); (case h_hx2k141q => omega); (case h_hyk141q => omega); (case h_hy2k141q => omega); (case h_hP1k141q => assumption); (case h_hP2k141q => assumption); (case h_hdpk141q => ktr_room); (case h_hunk141q => ktr_units); (case h_hpn1k141q => assumption); (case h_hpn2k141q => assumption); k_whole); intro _ _ _ _ _ _ _ _ _ _ _ _ _ _ _ _))
  refine hide9 fun C9 k9 => ?_
  obtain ⟨B, F, X, N, T, hd, hu⟩ := H
  refine k9 ?_
  clear k9
  have z9 : PySem.Challenge.rw_wo0040_01 = PySem.Challenge.rw_wo0040_01 ∧ Mine.frag.heap_1 = Mine.frag.heap_1 := by
    k_fill
    exact ⟨rfl, rfl⟩
  clear z9
  k_steps
  all_goals try (exfalso; omega)
  · rename TabSt 121 _ _ _ => a1
    rename TabSt 128 _ _ _ => a2
    rename News _ _ _ _ => Nf
    rename (_ ∧ AllLt _ (_ ++ _)) => lf
    rename _ = Int.fdiv _ _ => hq9
    rename _ = Int.fmod _ _ => hr9
    obtain ⟨e1, e2⟩ := idm_not hy hq9 hr9
    exact hret _ _ _ _ _ _ _ _ _ a1 a2 (by assumption) (news_sub Nf (idm_perm _ _ _ _ _)) (allLt_ne lf.2 (Nat.le_refl _)) e1 e2
end
theorem c_idmP (w : World) (loose mean mg mb) (dp un : Nat) (gd cn nms mr a ccd cl outer A₀ base h₀ L m news s) (t1 t2 : List (Addr × Obj))
   (H : At w loose mean mg mb dp un A₀ base h₀ outer L m (t1 ++ (t2 ++ news)) s) (ht1 : TabSt 121 ⟨70, 4, 79, 28⟩ (qInner "_int2digits") t1) (ht2 : TabSt 128 ⟨85, 4, 90, 55⟩ (qInner "_digits2int") t2) (x y : Int) (tx ty : Tok) (hx : -1000 < x) (hx2 : x < 1000) (hy : 0 < y) (hy2 : y < 16)
   (hP1 : CodeHd base 125 121) (hP2 : CodeHd base 132 128) (hdp : dp + 240 < recursionLimit) (hun : un + 1400 < cLine) (hpn1 : ∀ x ∈ news, x.1 ≠ 121) (hpn2 : ∀ x ∈ news, x.1 ≠ 128) (Q E : Value → Shared → Prop)
   (hret : ∀ p q r u v h' tk' t1' t2', TabSt 121 ⟨70, 4, 79, 28⟩ (qInner "_int2digits") t1' → TabSt 128 ⟨85, 4, 90, 55⟩ (qInner "_digits2int") t2' → Fr h₀ L h' m → News h₀ L h' ((p, tup2 q u r v) :: (t1' ++ (t2' ++ news))) → (∀ z ∈ t1' ++ (t2' ++ news), z.1 ≠ p) → q = x.fdiv y → r = x.fmod y → Q (.ref p) { s with heap := h', toks := tk' }) :
   wpAny (model PG w) (topA dp un gd cn nms mr L a ccd cl outer) (call (.ref 147) [.int x tx, .int y ty]) Q E s := by
  by_cases h : 0 ≤ x
  · exact c_idm0 w loose mean mg mb dp un gd cn nms mr a ccd cl outer A₀ base h₀ L m news s t1 t2 H ht1 ht2 x y tx ty h hx2 hy hy2 hP1 hP2 (by omega) (by omega) hpn1 hpn2 Q E hret
  · exact c_idm1 w loose mean mg mb dp un gd cn nms mr a ccd cl outer A₀ base h₀ L m news s t1 t2 H ht1 ht2 x y tx ty hx (by omega) hy hy2 hP1 hP2 hdp hun hpn1 hpn2 Q E hret
section
theorem c_idm2 (w : World) (loose mean mg mb) (dp un : Nat) (gd cn nms mr a ccd cl outer A₀ base h₀ L m news s) (t1 t2 : List (Addr × Obj))
   (H : At w loose mean mg mb dp un A₀ base h₀ outer L m (t1 ++ (t2 ++ news)) s) (ht1 : TabSt 121 ⟨70, 4, 79, 28⟩ (qInner "_int2digits") t1) (ht2 : TabSt 128 ⟨85, 4, 90, 55⟩ (qInner "_digits2int") t2) (x y : Int) (tx ty : Tok) (hx : -1000 < x) (hx2 : x < 1000) (hy : -16 < y) (hy2 : y < 0)
   (hP1 : CodeHd base 125 121) (hP2 : CodeHd base 132 128) (hdp : dp + 260 < recursionLimit) (hun : un + 1500 < cLine) (hpn1 : ∀ x ∈ news, x.1 ≠ 121) (hpn2 : ∀ x ∈ news, x.1 ≠ 128) (Q E : Value → Shared → Prop)
   (hret : ∀ p q r u v h' tk' t1' t2', TabSt 121 ⟨70, 4, 79, 28⟩ (qInner "_int2digits") t1' → TabSt 128 ⟨85, 4, 90, 55⟩ (qInner "_digits2int") t2' → Fr h₀ L h' m → News h₀ L h' ((p, tup2 q u r v) :: (t1' ++ (t2' ++ news))) → (∀ z ∈ t1' ++ (t2' ++ news), z.1 ≠ p) → q = x.fdiv y → r = x.fmod y → Q (.ref p) { s with heap := h', toks := tk' }) :
   wpAny (model PG w) (topA dp un gd cn nms mr L a ccd cl outer) (call (.ref 147) [.int x tx, .int y ty]) Q E s := by
  k_with_none
  (k_with "all here" => first | assumption | ((with_reducible refine List.forall_mem_cons.mpr ⟨?_, ?_⟩); k_ne; k_all) | ((repeat (cases ‹_ ∧ _›)); first | assumption | walk_at "all tail" | walk_at "all raw"))
  (k_with "execs cons" => (k_here; (fail_if_success k_gentoks); (fail_if_success k_made); (with_reducible refine wpAny_execs_cons ?_); k_fold; (try dsimp only)))
  (k_with "eval Name" => (k_here; (fail_if_success (with_reducible show wpAny _ _ (eval _ (compEnvC _ _ _ _)) _ _ _)); k_dflt (refine' nameX_C ?Nkq ?ckq ?mkq ?dkq ?_ ?akq ?bkq; (case akq => exact Eq.refl _); (case bkq => exact Eq.refl (some _)); (case Nkq => k_asm); (case ckq => exact Eq.refl (some _)); (case mkq => k_mem); (case dkq => k_asm); k_whole)))
  (k_with "eval Name" => (k_here; (fail_if_success (with_reducible show wpAny _ _ (eval _ (compEnvC _ _ _ _)) _ _ _)); k_dflt (refine' nameX_L ?Fkq ?vkq ?_ ?akq ?bkq; (case Fkq => k_asm); (case akq => exact Eq.refl _); (case bkq => exact Eq.refl (some _)); (case vkq => exact Eq.refl (some _)); k_whole)))
  (k_with "callWith ref" => (k_here; (with_reducible show wpAny _ _ (callWith _ (Value.ref (OfNat.ofNat _)) _ _ _) _ _ _); k_dflt (refine' callWith_KW ?k1q ?k2q ?k3q ?_; (case k1q => k_asm); (case k2q => k_is); (case k3q => exact rfl); k_whole)))
  (k_with "callWith ref" => (k_here; (with_reducible show wpAny _ _ (callWith _ (Value.ref (OfNat.ofNat _)) _ _ _) _ _ _); k_dflt (refine' callWith_K0 ?k1q ?k2q ?_; (case k1q => first | with_reducible assumption | exact Frag.In.keeps (by with_reducible assumption) (Fr.keep (by with_reducible assumption)) | k_in); (case k2q => k_is); k_whole)))
  (k_with "callWith ref" => (k_here; (with_reducible show wpAny _ _ (callWith _ (Value.ref (OfNat.ofNat _)) _ _ _) _ _ _); k_dflt (refine' callWith_K ?k1q ?k2q ?_; (case k1q => k_asm); (case k2q => k_is); k_whole)))
  (k_with "call ref" => (k_here; (with_reducible show wpAny _ _ (call (Value.ref 147) _ _) _ _ _); k_dflt (refine' c_idmP (H := ⟨?b_Bk142q, ?b_Fk142q, ?b_Xk142q, ?b_Nk142q, ?b_Tk142q, ?b_hdk142q, ?b_huk142q⟩) (ht1 := ?h_ht1k142q) (ht2 := ?h_ht2k142q) (hx := ?h_hxk142q) (hx2 := ?h_hx2k142q) (hy := ?h_hyk142q) (hy2 := ?h_hy2k142q) (hP1 := ?h_hP1k142q) (hP2 := ?h_hP2k142q) (hdp := ?h_hdpk142q) (hun := ?h_hunk142q) (hpn1 := ?h_hpn1k142q) (hpn2 := ?h_hpn2k142q) (hret := ?_) (gd := _) (cn := _) (nms := _) (mr := _) (a := _) (ccd := _) (cl := _) (tx := _) (ty := _) (E := _); (case b_Bk142q => k_asm); (case b_Fk142q => k_asm); (case b_Xk142q => k_asm); (case b_Nk142q => k_asm); (case b_Tk142q => k_asm); (case b_hdk142q => ktr_room); (case b_huk142q => ktr_units); (case h_ht1k142q => assumption); (case h_ht2k142q => assumption); (case h_hxk142q => omega); (case h_hx2k142q => omega); (case h_hyk142q => omega); (case h_hy2k142q => omega); (case h_hP1k142q => assumption); (case h_hP2k142q => assumption); (case h_hdpk142q => ktr_room); (case h_hunk142q => ktr_units); (case h_hpn1k142q => assumption); (case h_hpn2k142q => assumption); k_whole); intro _ _ _ _ _ _ _ _ _ _ _ _ _ _ _ _))
  refine hide9 fun C9 k9 => ?_
  obtain ⟨B, F, X, N, T, hd, hu⟩ := H
  refine k9 ?_
  clear k9
  have z9 : PySem.Challenge.rw_wo0040_01 = PySem.Challenge.rw_wo0040_01 ∧ Mine.frag.heap_1 = Mine.frag.heap_1 := by
    k_fill
    exact ⟨rfl, rfl⟩
  clear z9
  k_steps
  all_goals try (exfalso; omega)
  · rename TabSt 121 _ _ _ => a1
    rename TabSt 128 _ _ _ => a2
    rename News _ _ _ _ => Nf
    rename (_ ∧ AllLt _ (_ ++ _)) => lf
    rename _ = Int.fdiv _ _ => hq9
    rename _ = Int.fmod _ _ => hr9
    obtain ⟨e1, e2⟩ := idm_neg hq9 hr9
    exact hret _ _ _ _ _ _ _ _ _ a1 a2 (by assumption) (news_sub Nf (idm_perm _ _ _ _ _)) (allLt_ne lf.2 (Nat.le_refl _)) e1 e2
end
theorem c_idm (w : World) (loose mean mg mb) (dp un : Nat) (gd cn nms mr a ccd cl outer A₀ base h₀ L m news s) (t1 t2 : List (Addr × Obj))
   (H : At w loose mean mg mb dp un A₀ base h₀ outer L m (t1 ++ (t2 ++ news)) s) (ht1 : TabSt 121 ⟨70, 4, 79, 28⟩ (qInner "_int2digits") t1) (ht2 : TabSt 128 ⟨85, 4, 90, 55⟩ (qInner "_digits2int") t2) (x y : Int) (tx ty : Tok) (hx : -1000 < x) (hx2 : x < 1000) (hy : -16 < y) (hy2 : y < 16) (hy0 : y ≠ 0)
   (hP1 : CodeHd base 125 121) (hP2 : CodeHd base 132 128) (hdp : dp + 260 < recursionLimit) (hun : un + 1500 < cLine) (hpn1 : ∀ x ∈ news, x.1 ≠ 121) (hpn2 : ∀ x ∈ news, x.1 ≠ 128) (Q E : Value → Shared → Prop)
   (hret : ∀ p q r u v h' tk' t1' t2', TabSt 121 ⟨70, 4, 79, 28⟩ (qInner "_int2digits") t1' → TabSt 128 ⟨85, 4, 90, 55⟩ (qInner "_digits2int") t2' → Fr h₀ L h' m → News h₀ L h' ((p, tup2 q u r v) :: (t1' ++ (t2' ++ news))) → (∀ z ∈ t1' ++ (t2' ++ news), z.1 ≠ p) → q = x.fdiv y → r = x.fmod y → Q (.ref p) { s with heap := h', toks := tk' }) :
   wpAny (model PG w) (topA dp un gd cn nms mr L a ccd cl outer) (call (.ref 147) [.int x tx, .int y ty]) Q E s := by
  by_cases h : 0 < y
  · exact c_idmP w loose mean mg mb dp un gd cn nms mr a ccd cl outer A₀ base h₀ L m news s t1 t2 H ht1 ht2 x y tx ty hx hx2 h hy2 hP1 hP2 (by omega) (by omega) hpn1 hpn2 Q E hret
  · exact c_idm2 w loose mean mg mb dp un gd cn nms mr a ccd cl outer A₀ base h₀ L m news s t1 t2 H ht1 ht2 x y tx ty hx hx2 hy (by omega) hP1 hP2 hdp hun hpn1 hpn2 Q E hret
end Mine
end

section
open PySem PySem.W PySem.Calls PyProof.Rows
set_option maxRecDepth 100000
set_option maxHeartbeats 1000000
namespace Mine
noncomputable def KeyP (w : World) (loose : List Str) (mean : ExcName → Option Value) (mg mb : Str → Option Value) (base : Heap) (led : List (Addr × Obj)) (f : Addr) (items : List Value) (ks : List Int) : Prop :=
  ∀ (dp un : Nat) (gd : Option (List Code)) (cn : Str) (nms : List (Str × NameKind)) (mr : List (Str × Const)) (a : Addr) (ccd : Value) (cl : List (Str × Addr)) (outer : List Env) (A₀ : Around) (h₀ : Heap) (L : Addr) (m : Str → Option Value) (s : Shared) (v : Value) (i : Nat) (k : Int) (Q E : Value → Shared → Prop),
    Below A₀ base outer h₀ → Fr h₀ L s.heap m → (Mine.frag.heap_1 w.params).In h₀ → News h₀ L s.heap led → Top topProg loose mean mg mb h₀ → dp + 50 < recursionLimit → un + 400 < cLine →
    items[i]? = some v → ks[i]? = some k →
    (∀ t h' tk', Fr h₀ L h' m → News h₀ L h' led → Q (.int k t) { s with heap := h', toks := tk' }) →
    wpAny (model PG w) (topA dp un gd cn nms mr L a ccd cl outer) (call (.ref f) [v]) Q E s
theorem key_use {w : World} {loose : List Str} {mean : ExcName → Option Value} {mg mb : Str → Option Value} {base : Heap} {led : List (Addr × Obj)} {f : Addr} {items : List Value} {ks : List Int} (K : KeyP w loose mean mg mb base led f items ks)
   {dp un : Nat} {gd : Option (List Code)} {cn : Str} {nms : List (Str × NameKind)} {mr : List (Str × Const)} {a : Addr} {ccd : Value} {cl : List (Str × Addr)} {outer : List Env} {A₀ : Around} {h₀ : Heap} {L : Addr} {m : Str → Option Value} {s : Shared} {v : Value} {i : Nat} {k : Int} {Q E : Value → Shared → Prop}
   (B : Below A₀ base outer h₀) (F : Fr h₀ L s.heap m) (X : (Mine.frag.heap_1 w.params).In h₀) (N : News h₀ L s.heap led) (T : Top topProg loose mean mg mb h₀) (hd : dp + 50 < recursionLimit) (hu : un + 400 < cLine) (hi : items[i]? = some v) (hk : ks[i]? = some k)
   (h : ∀ t h' tk', Fr h₀ L h' m → News h₀ L h' led → Q (.int k t) { s with heap := h', toks := tk' }) :
   wpAny (model PG w) (topA dp un gd cn nms mr L a ccd cl outer) (call (.ref f) [v]) Q E s := K _ _ _ _ _ _ _ _ _ _ _ _ _ _ _ _ _ _ _ _ B F X N T hd hu hi hk h
/-- what holds between the turns of bisect_right -/
structure BiJ (led : List (Addr × Obj)) (p f : Addr) (x : Int) (tx : Tok) (ks : List Int) (n : Nat) (m : Str → Option Value) (nw : List (Addr × Obj)) : Prop where
  ex : ∃ (lo hi : Int) (tl th : Tok), n = (hi - lo).toNat ∧ 0 ≤ lo ∧ lo ≤ hi ∧ hi ≤ ks.length ∧ (∀ (i : Nat) (k : Int), ks[i]? = some k → (i : Int) < lo → k ≤ x) ∧ (∀ (i : Nat) (k : Int), ks[i]? = some k → hi ≤ (i : Int) → x < k) ∧ m "lo" = some (.int lo tl) ∧ m "hi" = some (.int hi th)
  nw : nw = led
  a : m "a" = some (.ref p)
  x : m "x" = some (.int x tx)
  k : m "key" = some (.ref f)
theorem bi_get {items : List Value} {ks : List Int} {i : Int} (h0 : 0 ≤ i) (hi : i < ks.length) (hl : items.length = ks.length) : items[i.toNat]? = some (items.getD i.toNat .none) := by
  have h : i.toNat < items.length := by omega
  rw [List.getD_eq_getElem?_getD, List.getElem?_eq_getElem h]; rfl
theorem bi_key {ks : List Int} {i : Int} (h0 : 0 ≤ i) (hi : i < ks.length) : ks[i.toNat]? = some (ks.getD i.toNat 0) := by
  have h : i.toNat < ks.length := by omega
  rw [List.getD_eq_getElem?_getD, List.getElem?_eq_getElem h]; rfl
theorem mid_ok {lo hi : Int} (h : lo < hi) : lo ≤ (lo + hi).fdiv 2 ∧ (lo + hi).fdiv 2 < hi := by
  rw [Int.fdiv_eq_ediv_of_nonneg _ (by decide)]; omega
theorem bi_a {lo hi : Int} (h0 : 0 ≤ lo) (h : lo < hi) : 0 ≤ (lo + hi).fdiv 2 := by have := mid_ok h; omega
theorem bi_c {lo hi : Int} {ks : List Int} (h : lo < hi) (h2 : hi ≤ ks.length) (h3 : ks.length ≤ 500) : (lo + hi).fdiv 2 < 1000 := by have := mid_ok h; omega
theorem bi_b {lo hi : Int} {ks : List Int} {items : List Value} (h0 : 0 ≤ lo) (h : lo < hi) (h2 : hi ≤ ks.length) (hl : items.length = ks.length) : items[((lo + hi).fdiv 2).toNat]? = some (items.getD ((lo + hi).fdiv 2).toNat .none) := by have := mid_ok h; exact bi_get (by omega) (by omega) hl
theorem bi_k {lo hi : Int} {ks : List Int} (h0 : 0 ≤ lo) (h : lo < hi) (h2 : hi ≤ ks.length) : ks[((lo + hi).fdiv 2).toNat]? = some (ks.getD ((lo + hi).fdiv 2).toNat 0) := by have := mid_ok h; exact bi_key (by omega) (by omega)
section
theorem c_bisect (w : World) (loose mean mg mb) (dp un : Nat) (gd cn nms mr a ccd cl outer A₀ base h₀ L m news s) (p dx : Addr) (items : List Value) (ks : List Int) (n : Nat) (es e0 f) (x hi : Int) (tx tl th : Tok) (lname lqual lparams lbody lscope lclos lpm lc lct)
   (H : At w loose mean mg mb dp un A₀ base h₀ outer L m ((f, kla_obj lname lqual lparams lbody lscope lclos lpm lc lct) :: (p, accO dx items n) :: (dx, dictOf es e0) :: news) s)
   (hK : KeyP w loose mean mg mb base ((f, kla_obj lname lqual lparams lbody lscope lclos lpm lc lct) :: (p, accO dx items n) :: (dx, dictOf es e0) :: news) f items ks)
   (hP3 : CodeHd base 165 163) (hhi : hi = items.length) (hkl : items.length = ks.length) (hlen : ks.length ≤ 500) (hsorted : ∀ (i j : Nat) (k k' : Int), i < j → ks[i]? = some k → ks[j]? = some k' → k ≤ k') (Q E : Value → Shared → Prop)
   (hret : ∀ (r : Int) t h' tk', Fr h₀ L h' m → News h₀ L h' ((f, kla_obj lname lqual lparams lbody lscope lclos lpm lc lct) :: (p, accO dx items n) :: (dx, dictOf es e0) :: news) → 0 ≤ r → r ≤ ks.length → (∀ (i : Nat) (k : Int), ks[i]? = some k → (i : Int) < r → k ≤ x) → (∀ (i : Nat) (k : Int), ks[i]? = some k → r ≤ (i : Int) → x < k) → Q (.int r t) { s with heap := h', toks := tk' }) :
   wpAny (model PG w) (topA dp un gd cn nms mr L a ccd cl outer) (call (.ref 156) [.ref p, .int x tx, .int 0 tl, .int hi th] [(Str.ofString "key", .ref f)]) Q E s := by
  k_with_none
  (k_with "all here" => first | assumption | ((with_reducible refine List.forall_mem_cons.mpr ⟨?_, ?_⟩); k_ne; k_all) | ((repeat (cases ‹_ ∧ _›)); first | assumption | walk_at "all tail" | walk_at "all raw"))
  (k_with "execs cons" => (k_here; (fail_if_success k_gentoks); (fail_if_success k_made); (with_reducible refine wpAny_execs_cons ?_); k_fold; (try dsimp only)))
  (k_with "eval Name" => (k_here; (fail_if_success (with_reducible show wpAny _ _ (eval _ (compEnvC _ _ _ _)) _ _ _)); k_dflt (refine' nameX_C ?Nkq ?ckq ?mkq ?dkq ?_ ?akq ?bkq; (case akq => exact Eq.refl _); (case bkq => exact Eq.refl (some _)); (case Nkq => k_asm); (case ckq => exact Eq.refl (some _)); (case mkq => k_mem); (case dkq => k_asm); k_whole)))
  (k_with "eval Name" => (k_here; (fail_if_success (with_reducible show wpAny _ _ (eval _ (compEnvC _ _ _ _)) _ _ _)); k_dflt (refine' nameX_L ?Fkq ?vkq ?_ ?akq ?bkq; (case Fkq => k_asm); (case akq => exact Eq.refl _); (case bkq => exact Eq.refl (some _)); (case vkq => exact Eq.refl (some _)); k_whole)))
  (k_with "callWith ref" => (k_here; (with_reducible show wpAny _ _ (callWith _ (Value.ref (OfNat.ofNat _)) _ _ _) _ _ _); k_dflt (refine' callWith_KW ?k1q ?k2q ?k3q ?_; (case k1q => k_asm); (case k2q => k_is); (case k3q => exact rfl); k_whole)))
  (k_with "callWith ref" => (k_here; (with_reducible show wpAny _ _ (callWith _ (Value.ref (OfNat.ofNat _)) _ _ _) _ _ _); k_dflt (refine' callWith_K0 ?k1q ?k2q ?_; (case k1q => first | with_reducible assumption | exact Frag.In.keeps (by with_reducible assumption) (Fr.keep (by with_reducible assumption)) | k_in); (case k2q => k_is); k_whole)))
  (k_with "callWith ref" => (k_here; (with_reducible show wpAny _ _ (callWith _ (Value.ref (OfNat.ofNat _)) _ _ _) _ _ _); k_dflt (refine' callWith_K ?k1q ?k2q ?_; (case k1q => k_asm); (case k2q => k_is); k_whole)))
  (k_with "bi a" => exact bi_a (by assumption) (by assumption))
  (k_with "bi b" => exact bi_b (by assumption) (by assumption) (by assumption) (by assumption))
  (k_with "bi c" => exact bi_c (by assumption) (by assumption) (by assumption))
  (k_with "bi k" => exact bi_k (by assumption) (by assumption) (by assumption))
  (k_with "exec While Compare cons nil" => (k_here; refine stop_of ?_))
  (k_with "subscriptTail" => (k_here; (with_reducible show wpAny _ _ (subscriptTail _ _ (Value.ref _) (Value.int _ _)) _ _ _); k_dflt (refine' acc_itemT ?Fk148q ?Xk148q ?Ik148q ?ak148q ?bk148q ?ck148q ?_; (case Fk148q => k_asm); (case Xk148q => k_asm); (case Ik148q => k_inst); (case ak148q => walk_at "bi a"); (case bk148q => walk_at "bi b"); (case ck148q => walk_at "bi c"))))
  (k_with "call ref" => (k_here; (rename KeyP _ _ _ _ _ _ _ _ _ _ => kp9zq); k_dflt (refine' key_use kp9zq ?Bk149q ?Fk149q ?Xk149q ?Nk149q ?Tk149q ?hdk149q ?huk149q ?ak149q ?bk149q ?_; (case Bk149q => k_asm); (case Fk149q => k_asm); (case Xk149q => k_asm); (case Nk149q => k_asm); (case Tk149q => k_asm); (case hdk149q => ktr_room); (case huk149q => ktr_units); (case ak149q => walk_at "bi b"); (case bk149q => walk_at "bi k"); k_whole); intro _ _ _ _ _; (try k_sweep)))
  refine hide9 fun C9 k9 => ?_
  obtain ⟨B, F, X, N, T, hd, hu⟩ := H
  refine k9 ?_
  clear k9
  have z9 : PySem.Challenge.rw_wo0040_01 = PySem.Challenge.rw_wo0040_01 ∧ Mine.frag.heap_1 = Mine.frag.heap_1 := by
    k_fill
    exact ⟨rfl, rfl⟩
  clear z9
  k_steps
  rename Fr _ _ _ _ => F9
  rename News _ _ _ _ => N9
  unfold Stop
  refine while_inv (BiJ _ p f x tx ks) (hi - 0).toNat F9 N9 ⟨⟨0, hi, tl, th, rfl, Int.le_refl _, by omega, by omega, fun i k _ h => absurd h (by omega), fun i k hk h => ?_, rfl, rfl⟩, rfl, rfl, rfl, rfl⟩ ?hE ?turn
  case hE => first | passes_own | with_unfolding_all passes_own
  · have := (List.getElem?_eq_some_iff.mp hk).1; omega
  case turn =>
    intro n' m₁ nw h₁ tk₁ hz3z Fz Nz
    refine hide9 fun C9 k9 => ?_
    obtain ⟨⟨lo, hi', tl', th', hn', h0, h1, h2, h3, h4, ml, mh⟩, rfl, ma, mx, mk⟩ := hz3z
    refine k9 ?_
    clear k9
    have Fz := fr_at F9 (fr_ovr Fz [(Str.ofString "lo", .int lo tl'), (Str.ofString "hi", .int hi' th'), (Str.ofString "a", .ref p), (Str.ofString "x", .int x tx), (Str.ofString "key", .ref f)] (by
      intro p hp
      rcases List.mem_cons.mp hp with rfl | hp
      · exact ml
      rcases List.mem_cons.mp hp with rfl | hp
      · exact mh
      rcases List.mem_cons.mp hp with rfl | hp
      · exact ma
      rcases List.mem_cons.mp hp with rfl | hp
      · exact mx
      rcases List.mem_cons.mp hp with rfl | hp
      · exact mk
      · cases hp)) rfl
    dsimp only [ovr] at Fz
    clear F9 N9
    k_steps
    · rename Fr _ _ _ _ => F8
      rename News _ _ _ _ => N8
      rename lo < hi' => hlt
      have hm := mid_ok hlt
      have hk := bi_k h0 hlt h2
      rename x < _ => hxk
      refine wEnd_next ((lo + hi').fdiv 2 - lo).toNat _ F8 N8 (fun _ h => h) (by omega) ⟨⟨lo, _, _, _, rfl, h0, hm.1, by omega, h3, fun i k hi hle => ?_, rfl, rfl⟩, rfl, rfl, rfl, rfl⟩
      rcases Nat.lt_or_ge ((lo + hi').fdiv 2).toNat i with h | h
      · have := hsorted _ _ _ _ h hk hi; omega
      · have e : i = ((lo + hi').fdiv 2).toNat := by omega
        rw [e, hk] at hi
        cases hi; exact hxk
    · rename Fr _ _ _ _ => F8
      rename News _ _ _ _ => N8
      rename lo < hi' => hlt
      have hm := mid_ok hlt
      have hk := bi_k h0 hlt h2
      rename ¬ (x < _) => hxk
      refine wEnd_next (hi' - ((lo + hi').fdiv 2 + 1)).toNat _ F8 N8 (fun _ h => h) (by omega) ⟨⟨_, hi', _, _, rfl, by omega, by omega, h2, fun i k hi hle => ?_, h4, rfl, rfl⟩, rfl, rfl, rfl, rfl⟩
      rcases Nat.lt_or_ge i ((lo + hi').fdiv 2).toNat with h | h
      · have := hsorted _ _ _ _ h hi hk; omega
      · have e : i = ((lo + hi').fdiv 2).toNat := by omega
        rw [e, hk] at hi
        cases hi; omega
    · unfold Stop
      dsimp only
      k_steps
      have e : lo = hi' := by omega
      subst e
      exact hret lo _ _ _ (by assumption) (by assumption) h0 h2 h3 h4
end
end Mine
end

section
open PySem PySem.W PySem.Calls PyProof.Rows
set_option maxRecDepth 100000
namespace Mine
section
variable {M : Model} {A : Around} {E : Value → Shared → Prop} {s : Shared} {h₀ : Heap} {L a c P : Addr} {m mg mb : Str → Option Value} {cn : Str} {cs : Scope} {ccd : Value} {cl : List (Str × Addr)}
  {p : Program} {loose : List Str} {mean : ExcName → Option Value} {name qual : Str} {params : Arguments} {body : PySem.Expr} {scope : Scope} {pos : Pos} {firstLine : Nat} {clos : List (Str × Addr)}
theorem lam_any {tb news pre R big : List (Addr × Obj)} {Q : Value → Shared → Prop} (hE : Ends R pre big) (hR : R = tb ++ news) (F : Fr h₀ L s.heap m) (N : News h₀ L s.heap big) (T : Top p loose mean mg mb h₀) (C : CodeHd h₀ c P) (hcd : ccd = .ref c)
    (ht : TabSt P pos qual tb) (hsep : ∀ x ∈ pre, x.1 ≠ P) (hnP : ∀ x ∈ news, x.1 ≠ P) (hcl : closureFor scope (envX cn cs L a ccd cl) = pure clos)
    (h : ∀ f c' oc vs t ctv h' tk tb' R', R' = tb' ++ news → TabSt P pos qual tb' → (c', oc) ∈ R' → oc.data = .fields vs → vs[1]? = some (.str qual t) → Fr h₀ L h' m →
      News h₀ L h' ((f, kla_obj name qual params body scope clos ((mg "__name__").getD .none) c' ctv) :: (pre ++ R')) → (∀ q ∈ pre, q.1 < f) → (∀ q ∈ R', q.1 < f) → Q (.ref f) { s with heap := h', toks := tk }) :
    wpAny M A (makeFunction name qual params (.expr body) scope (envX cn cs L a ccd cl) [] [] [] pos firstLine) Q E s := by
  have hb := hE.eq
  subst hb
  cases ht with
  | empty =>
    subst hR
    have hpre : ∀ x ∈ pre, x.1 ≠ P := hsep
    refine kla_nest F N T C hcd (updF_pre hpre hnP) trivial rfl hcl fun f c' oc vs t ctv h' tk F' N' d1 d2 l1 l2 => ?_
    have hc' : ∀ q ∈ pre ++ ([(P, tabObj #[])] ++ news), q.1 < c' := l1
    have hPc : P < c' := hc' (P, tabObj #[]) (List.mem_append.mpr (.inr (.head _)))
    refine h f c' oc vs t ctv h' tk [(P, tabObj #[rawInt pos.line, rawInt pos.col, .ref c']), (c', oc)] _ rfl (.full (Nat.ne_of_gt hPc) d1 d2) (.tail _ (.head _)) d1 d2 F' ?_ ?_ ?_
    · intro x hx
      rcases List.mem_cons.mp hx with rfl | hx
      · exact N' _ (.head _)
      rcases List.mem_append.mp hx with hx | hx
      · exact N' _ (.tail _ (.tail _ (List.mem_append.mpr (.inl hx))))
      rcases List.mem_cons.mp hx with rfl | hx
      · exact N' _ (.tail _ (.tail _ (List.mem_append.mpr (.inr (.head _)))))
      rcases List.mem_cons.mp hx with rfl | hx
      · exact N' _ (.tail _ (.head _))
      · exact N' _ (.tail _ (.tail _ (List.mem_append.mpr (.inr (.tail _ hx)))))
    · exact fun q hq => Nat.lt_trans (hc' q (List.mem_append.mpr (.inl hq))) l2
    · intro q hq
      rcases List.mem_cons.mp hq with rfl | hq
      · exact Nat.lt_trans hPc l2
      rcases List.mem_cons.mp hq with rfl | hq
      · exact l2
      · exact Nat.lt_trans (hc' q (List.mem_append.mpr (.inr (.tail _ hq)))) l2
  | @full c' oc vs t hcP d1 d2 =>
    have hk : codeAmong pos (#[rawInt pos.line, rawInt pos.col, .ref c'] : Array Value).toList = some (.ref c') := by simp [codeAmong, rawInt]
    have hmP : (P, tabObj #[rawInt pos.line, rawInt pos.col, .ref c']) ∈ pre ++ R := by rw [hR]; exact List.mem_append.mpr (.inr (.head _))
    refine kla_hit F N T C hcd hmP trivial hk hcl fun f ctv h' tk F' N' l1 => ?_
    refine h f c' oc vs t ctv h' tk _ R hR (.full hcP d1 d2) (by rw [hR]; exact .tail _ (.head _)) d1 d2 F' N' (fun q hq => l1 q (List.mem_append.mpr (.inl hq))) (fun q hq => l1 q (List.mem_append.mpr (.inr hq)))
end
end Mine
end

section
open PySem PySem.W PySem.Calls PyProof.Rows PyProof.Rows.LCg PyProof.Rows.LCt
namespace Mine
section
variable {prog : Program} {w : World} {A : Around} {E : Value → Shared → Prop} {s : Shared} {h₀ : Heap} {L : Addr} {m : Str → Option Value} {env : Env}
theorem compEnd_mono {s₁ s₂ : Shared} {I C D : Addr} {oI oC oD : Obj} {S : List (Addr × Obj) → Prop} {R R' : Value → List (Addr × Obj) → Prop} {y : Value} (h : CompEnd h₀ L m s₁ I oI C oC D oD S R y s₂) (hR : ∀ n, R y n → R' y n) : CompEnd h₀ L m s₁ I oI C oC D oD S R' y s₂ :=
  let ⟨h', tk, n, e, F, N, o, hS, r⟩ := h; ⟨h', tk, n, e, F, N, o, hS, hR n r⟩
/-- the end of a turn of a comprehension: no line of the walk knows it -/
noncomputable def CEnd (h₀ : Heap) (L : Addr) (m : Str → Option Value) (s₁ : Shared) (I : Addr) (oI : Obj) (C : Addr) (oC : Obj) (D : Addr) (oD : Obj) (S : List (Addr × Obj) → Prop) (J : Value → List (Addr × Obj) → Prop) (y : Value) (s₂ : Shared) : Prop := CompEnd h₀ L m s₁ I oI C oC D oD S J y s₂
theorem cEnd_of {I C D : Addr} {oI oC oD : Obj} {S : List (Addr × Obj) → Prop} {J : Value → List (Addr × Obj) → Prop} {y : Value} {s₁ : Shared} {h' : Heap} {tk : Nat} {all : List (Addr × Obj)}
    (news' : List (Addr × Obj)) (F : Fr h₀ L h' m) (N : News h₀ L h' all) (sub : ∀ p ∈ (I, oI) :: (C, oC) :: (D, oD) :: news', p ∈ all) (off : ∀ p ∈ news', p.1 ≠ I ∧ p.1 ≠ C ∧ p.1 ≠ D) (hS : S news') (r : J y news') :
    CEnd h₀ L m s₁ I oI C oC D oD S J y { s₁ with heap := h', toks := tk } := CompEnd.intro F N news' sub (Off3.of off) hS r
theorem comp_inv {elt : Expr} {x : Str} {scope : Scope} {cl : List (Str × Addr)} {S : List (Addr × Obj) → Prop} {P : Nat → Value → Prop} {Fin : List Value → List (Addr × Obj) → Prop} {n : Nat} (J : Nat → List Value → List (Addr × Obj) → Prop)
    (step : ∀ i v ys news I oI C oC D m₂ h tk (E' : Value → Shared → Prop), i < n → J i ys news → P i v → NsObj oC m₂ → m₂ x = some v → Fr h₀ L h m → News h₀ L h ((I, oI) :: (C, oC) :: (D, lst ys) :: news) → (∀ p ∈ news, p.1 ≠ I ∧ p.1 ≠ C ∧ p.1 ≠ D) → ((@Ne Nat I C) ∧ (@Ne Nat I D) ∧ (@Ne Nat C D)) →
      wpAny (model prog w) A (eval elt (compEnvC scope cl C env)) (CEnd h₀ L m { s with heap := h, toks := tk } I oI C oC D (lst ys) S (fun y news' => J (i + 1) (ys ++ [y]) news')) E' { s with heap := h, toks := tk })
    (done : ∀ ys news, J n ys news → Fin ys news) : ∀ k i ys news, i + k = n → J i ys news → CompRest prog w A h₀ L m env elt x scope cl s S P Fin k i ys news
  | 0, i, ys, news, e, hJ => CompRest.zero (done ys news (by rw [← e]; exact hJ))
  | k + 1, i, ys, news, e, hJ => CompRest.succ fun v I oI C oC D m₂ h tk E' hP hC hx F N off ne =>
      wpAny_mono (step i v ys news I oI C oC D m₂ h tk E' (by omega) hJ hP hC hx F N off.mem ne) (fun _ _ p => compEnd_mono p fun n r => comp_inv J step done k (i + 1) _ n (by omega) r) fun _ _ e => e
theorem compT_inv {ct elt : Expr} {x : Str} {scope : Scope} {cl : List (Str × Addr)} {S : List (Addr × Obj) → Prop} {P : Nat → Value → Prop} {Fin : List Value → List (Addr × Obj) → Prop} {n : Nat} (J : Nat → List Value → List (Addr × Obj) → Prop)
    (step : ∀ i v ys news I oI C oC D m₂ h tk (E' : Value → Shared → Prop), i < n → J i ys news → P i v → NsObj oC m₂ → m₂ x = some v → Fr h₀ L h m → News h₀ L h ((I, oI) :: (C, oC) :: (D, lst ys) :: news) → (∀ p ∈ news, p.1 ≠ I ∧ p.1 ≠ C ∧ p.1 ≠ D) → ((@Ne Nat I C) ∧ (@Ne Nat I D) ∧ (@Ne Nat C D)) →
      wpAny (model prog w) A (isTrue ct (compEnvC scope cl C env) (eval ct (compEnvC scope cl C env))) (fun ok s' => if ok = true then
        wpAny (model prog w) A (eval elt (compEnvC scope cl C env)) (CEnd h₀ L m { s with heap := h, toks := tk } I oI C oC D (lst ys) S (fun y news' => J (i + 1) (ys ++ [y]) news')) E' s'
        else CEnd h₀ L m { s with heap := h, toks := tk } I oI C oC D (lst ys) S (fun _ news' => J (i + 1) ys news') Value.none s') E' { s with heap := h, toks := tk })
    (done : ∀ ys news, J n ys news → Fin ys news) : ∀ k i ys news, i + k = n → J i ys news → CompRestT prog w A h₀ L m env ct elt x scope cl s S P Fin k i ys news
  | 0, i, ys, news, e, hJ => CompRestT.zero (done ys news (by rw [← e]; exact hJ))
  | k + 1, i, ys, news, e, hJ => CompRestT.succ fun v I oI C oC D m₂ h tk E' hP hC hx F N off ne =>
      wpAny_mono (step i v ys news I oI C oC D m₂ h tk E' (by omega) hJ hP hC hx F N off.mem ne) (fun ok s' p => by
        cases ok with
        | true => simp only [if_true] at p ⊢; exact wpAny_mono p (fun _ _ p => compEnd_mono p fun n r => compT_inv J step done k (i + 1) _ n (by omega) r) fun _ _ e => e
        | false => simp only [Bool.false_eq_true, if_false] at p ⊢; exact compEnd_mono p fun n r => compT_inv J step done k (i + 1) _ n (by omega) r) fun _ _ e => e
end
end Mine
end

section
open PySem PySem.W PySem.Calls PyProof.Rows
set_option maxRecDepth 100000
namespace Mine
noncomputable abbrev TI (u : List (Addr × Obj)) : Prop := TabSt 121 ⟨70, 4, 79, 28⟩ (qInner "_int2digits") u
noncomputable abbrev TD (u : List (Addr × Obj)) : Prop := TabSt 128 ⟨85, 4, 90, 55⟩ (qInner "_digits2int") u
noncomputable abbrev qLam : Str := (Str.ofString "_law_walked" ++ Str.ofString ".<locals>.") ++ Str.ofString "<lambda>"
noncomputable abbrev TL (u : List (Addr × Obj)) : Prop := TabSt 163 ⟨145, 68, 145, 102⟩ qLam u
/-- a ledger's tail: the three tables, in either state, then the rest -/
structure Tabs (RR Rr : List (Addr × Obj)) : Prop where
  ex : ∃ u1 u2 u3, RR = u1 ++ (u2 ++ (u3 ++ Rr)) ∧ TI u1 ∧ TD u2 ∧ TL u3
theorem Tabs.sub {RR Rr : List (Addr × Obj)} (T : Tabs RR Rr) : ∀ x ∈ Rr, x ∈ RR := by
  refine hide9 fun C9 k9 => ?_
  obtain ⟨u1, u2, u3, rfl, _, _, _⟩ := T.ex
  refine k9 ?_
  clear k9
  exact fun x hx => List.mem_append.mpr (.inr (List.mem_append.mpr (.inr (List.mem_append.mpr (.inr hx)))))
/-- what lies at one address is one thing -/
theorem news_same {h₀ h : Heap} {L a : Addr} {o o' : Obj} {R : List (Addr × Obj)} (N : News h₀ L h R) (h1 : (a, o) ∈ R) (h2 : (a, o') ∈ R) : o = o' := Option.some.inj ((N _ h1).1.symm.trans (N _ h2).1)
theorem tab_obj {P : Addr} {pos : Pos} {q : Str} {u : List (Addr × Obj)} (h : TabSt P pos q u) : ∀ x ∈ u, ∃ vs, x.2.data = .fields vs ∧ (vs = #[] ∨ ∃ a b c, vs = #[rawInt a, rawInt b, .ref c] ∧ x.2.cls = .none) ∨ ∃ vs q t, x.2.data = .fields vs ∧ vs[1]? = some (.str q t) := by
  cases h with
  | empty => intro x hx; rw [List.mem_singleton.mp hx]; exact ⟨#[], .inl ⟨rfl, .inl rfl⟩⟩
  | @full c oc vs t hc hd hv =>
    intro x hx
    rcases List.mem_cons.mp hx with rfl | hx
    · exact ⟨_, .inl ⟨rfl, .inr ⟨_, _, _, rfl, rfl⟩⟩⟩
    · rw [List.mem_singleton.mp hx]; exact ⟨#[], .inr ⟨vs, q, t, hd, hv⟩⟩
theorem tab_fields {P : Addr} {pos : Pos} {q : Str} {u : List (Addr × Obj)} (h : TabSt P pos q u) : ∀ x ∈ u, ∃ vs, x.2.data = .fields vs := fun x hx => by
  obtain ⟨vs, h | ⟨vs, _, _, h, _⟩⟩ := tab_obj h x hx
  · exact ⟨_, h.1⟩
  · exact ⟨_, h⟩
/-- an object whose data are no fields lies apart from the tables -/
theorem Tabs.apart {h₀ h : Heap} {L a : Addr} {o : Obj} {R RR Rr : List (Addr × Obj)} (T : Tabs RR Rr) (N : News h₀ L h R) (hm : (a, o) ∈ R) (hs : ∀ x ∈ RR, x ∈ R) (ho : ∀ vs, o.data ≠ .fields vs) (hr : ∀ x ∈ Rr, x.1 ≠ a) : ∀ x ∈ RR, x.1 ≠ a := by
  refine hide9 fun C9 k9 => ?_
  obtain ⟨u1, u2, u3, rfl, h1, h2, h3⟩ := T.ex
  refine k9 ?_
  clear k9
  have key : ∀ (x : Addr × Obj), x ∈ u1 ++ (u2 ++ (u3 ++ Rr)) → (∃ vs, x.2.data = .fields vs) → x.1 ≠ a := by
    rintro ⟨b, o'⟩ hx ⟨vs, hv⟩ e
    have e' : b = a := e
    subst e'
    have := news_same N hm (hs _ hx)
    subst this
    exact ho vs hv
  intro x hx
  have hx0 := hx
  rcases List.mem_append.mp hx with hx | hx
  · exact key x hx0 (tab_fields h1 x hx)
  rcases List.mem_append.mp hx with hx | hx
  · exact key x hx0 (tab_fields h2 x hx)
  rcases List.mem_append.mp hx with hx | hx
  · exact key x hx0 (tab_fields h3 x hx)
  · exact hr x hx
/-- what stands ahead of the tables is no table -/
noncomputable def PreOk : List (Addr × Obj) → Prop
  | [] => True
  | x :: r => (x.2.cls ≠ .none ∨ (x.1 ≠ 121 ∧ x.1 ≠ 128 ∧ x.1 ≠ 163)) ∧ PreOk r
theorem PreOk.mem : ∀ {l : List (Addr × Obj)}, PreOk l → ∀ x ∈ l, x.2.cls ≠ .none ∨ (x.1 ≠ 121 ∧ x.1 ≠ 128 ∧ x.1 ≠ 163)
  | [], _, _, hx => nomatch hx
  | y :: r, h, x, hx => by
    rcases List.mem_cons.mp hx with rfl | hx
    · exact h.1
    · exact PreOk.mem h.2 x hx
theorem PreOk.addr {h₀ h : Heap} {L : Addr} {R u1 u2 u3 Rr pre : List (Addr × Obj)} (K : PreOk pre) (h1 : TI u1) (h2 : TD u2) (h3 : TL u3) (N : News h₀ L h R) (hp : ∀ x ∈ pre, x ∈ R) (hs : ∀ x ∈ u1 ++ (u2 ++ (u3 ++ Rr)), x ∈ R) : ∀ x ∈ pre, x.1 ≠ 121 ∧ x.1 ≠ 128 ∧ x.1 ≠ 163 := by
  rintro ⟨a, o⟩ hx
  rcases K.mem _ hx with hc | h
  · have key : ∀ q ps, (q, tabObj ps) ∈ u1 ++ (u2 ++ (u3 ++ Rr)) → a ≠ q := fun q ps hm e => by
      subst e
      have := news_same N (hp _ hx) (hs _ hm)
      subst this
      exact hc rfl
    obtain ⟨p1, m1, _⟩ := tab_in h1
    obtain ⟨p2, m2, _⟩ := tab_in h2
    obtain ⟨p3, m3, _⟩ := tab_in h3
    exact ⟨key _ _ (List.mem_append.mpr (.inl m1)), key _ _ (List.mem_append.mpr (.inr (List.mem_append.mpr (.inl m2)))), key _ _ (List.mem_append.mpr (.inr (List.mem_append.mpr (.inr (List.mem_append.mpr (.inl m3))))))⟩
  · exact h
theorem tl_perm {α : Type} (pre u1 u2 u3 r : List α) : ∀ p ∈ u1 ++ (u2 ++ (pre ++ (u3 ++ r))), p ∈ pre ++ (u1 ++ (u2 ++ (u3 ++ r))) := by
  intro p hp
  simp only [List.mem_append] at hp ⊢
  rcases hp with h | h | h | h | h
  · exact .inr (.inl h)
  · exact .inr (.inr (.inl h))
  · exact .inl h
  · exact .inr (.inr (.inr (.inl h)))
  · exact .inr (.inr (.inr (.inr h)))
theorem tl_perm3 {α : Type} (pre u1 u2 u3 r : List α) : ∀ p ∈ pre ++ (u1 ++ (u2 ++ (u3 ++ r))), p ∈ u1 ++ (u2 ++ (pre ++ (u3 ++ r))) := by
  intro p hp
  simp only [List.mem_append] at hp ⊢
  rcases hp with h | h | h | h | h
  · exact .inr (.inr (.inl h))
  · exact .inl h
  · exact .inr (.inl h)
  · exact .inr (.inr (.inr (.inl h)))
  · exact .inr (.inr (.inr (.inr h)))
theorem tl_perm4 {α : Type} (pre u1 u2 u3 r : List α) : ∀ p, p ∈ pre ++ (u1 ++ (u2 ++ (u3 ++ r))) ↔ p ∈ pre ++ (u3 ++ (u1 ++ (u2 ++ r))) := by
  intro p
  simp only [List.mem_append]
  constructor
  · rintro (h | h | h | h | h)
    · exact .inl h
    · exact .inr (.inr (.inl h))
    · exact .inr (.inr (.inr (.inl h)))
    · exact .inr (.inl h)
    · exact .inr (.inr (.inr (.inr h)))
  · rintro (h | h | h | h | h)
    · exact .inl h
    · exact .inr (.inr (.inr (.inl h)))
    · exact .inr (.inl h)
    · exact .inr (.inr (.inl h))
    · exact .inr (.inr (.inr (.inr h)))
theorem tl_perm2 {α : Type} (x : α) (pre u1 u2 u3 r : List α) : ∀ p ∈ x :: (pre ++ (u1 ++ (u2 ++ (u3 ++ r)))), p ∈ x :: (u1 ++ (u2 ++ (pre ++ (u3 ++ r)))) := by
  intro p hp
  simp only [List.mem_cons, List.mem_append] at hp ⊢
  rcases hp with h | h | h | h | h | h
  · exact .inl h
  · exact .inr (.inr (.inr (.inl h)))
  · exact .inr (.inl h)
  · exact .inr (.inr (.inl h))
  · exact .inr (.inr (.inr (.inr (.inl h))))
  · exact .inr (.inr (.inr (.inr (.inr h))))
theorem tab_low {P Q : Addr} {pos : Pos} {q : Str} {u : List (Addr × Obj)} {h₀ h : Heap} {L : Addr} {R : List (Addr × Obj)} {pos' : Pos} {q' : Str} {u' : List (Addr × Obj)} (hPQ : P ≠ Q) (h1 : TabSt P pos q u) (h2 : TabSt Q pos' q' u') (N : News h₀ L h R) (s1 : ∀ x ∈ u, x ∈ R) (s2 : ∀ x ∈ u', x ∈ R) : ∀ x ∈ u, x.1 ≠ Q := tab_ne hPQ h1 h2 N s1 s2
theorem c_idmT (w : World) (loose mean mg mb) (dp un : Nat) (gd cn nms mr a ccd cl outer A₀ base h₀ L m s) (big pre RR Rr : List (Addr × Obj))
   (H : At w loose mean mg mb dp un A₀ base h₀ outer L m big s) (hE : Ends RR pre big) (hT : Tabs RR Rr) (x y : Int) (tx ty : Tok) (hx : -1000 < x) (hx2 : x < 1000) (hy : -16 < y) (hy2 : y < 16) (hy0 : y ≠ 0)
   (hP1 : CodeHd base 125 121) (hP2 : CodeHd base 132 128) (hdp : dp + 260 < recursionLimit) (hun : un + 1500 < cLine) (hpre : PreOk pre) (hpr : ∀ x ∈ Rr, x.1 ≠ 121 ∧ x.1 ≠ 128 ∧ x.1 ≠ 163) (Q E : Value → Shared → Prop)
   (hret : ∀ p q r u v h' tk' RR', Tabs RR' Rr → Fr h₀ L h' m → News h₀ L h' ((p, tup2 q u r v) :: (pre ++ RR')) → (∀ z ∈ pre ++ RR', z.1 ≠ p) → q = x.fdiv y → r = x.fmod y → Q (.ref p) { s with heap := h', toks := tk' }) :
   wpAny (model PG w) (topA dp un gd cn nms mr L a ccd cl outer) (call (.ref 147) [.int x tx, .int y ty]) Q E s := by
  refine hide9 fun C9 k9 => ?_
  obtain ⟨u1, u2, u3, rfl, h1, h2, h3⟩ := hT.ex
  refine k9 ?_
  clear k9
  obtain rfl := hE.eq
  refine hide9 fun C9 k9 => ?_
  obtain ⟨B, F, X, N, T, hd, hu⟩ := H
  refine k9 ?_
  clear k9
  have hpa := hpre.addr h1 h2 h3 N (fun x hx => List.mem_append.mpr (.inl hx)) (fun x hx => List.mem_append.mpr (.inr hx))
  have s3 : ∀ x ∈ u3, x ∈ pre ++ (u1 ++ (u2 ++ (u3 ++ Rr))) := fun x hx => List.mem_append.mpr (.inr (List.mem_append.mpr (.inr (List.mem_append.mpr (.inr (List.mem_append.mpr (.inl hx)))))))
  have s1 : ∀ x ∈ u1, x ∈ pre ++ (u1 ++ (u2 ++ (u3 ++ Rr))) := fun x hx => List.mem_append.mpr (.inr (List.mem_append.mpr (.inl hx)))
  have s2 : ∀ x ∈ u2, x ∈ pre ++ (u1 ++ (u2 ++ (u3 ++ Rr))) := fun x hx => List.mem_append.mpr (.inr (List.mem_append.mpr (.inr (List.mem_append.mpr (.inl hx)))))
  refine c_idm w loose mean mg mb dp un gd cn nms mr a ccd cl outer A₀ base h₀ L m (pre ++ (u3 ++ Rr)) s u1 u2 ⟨B, F, X, news_sub N (tl_perm _ _ _ _ _), T, hd, hu⟩ h1 h2 x y tx ty hx hx2 hy hy2 hy0 hP1 hP2 hdp hun (fun x hx => ?_) (fun x hx => ?_) Q E fun p q r u v h' tk' t1' t2' ht1 ht2 F' N' off hq hr => ?_
  · rcases List.mem_append.mp hx with hx | hx
    · exact (hpa x hx).1
    rcases List.mem_append.mp hx with hx | hx
    · exact tab_low (by decide) h3 h1 N s3 s1 x hx
    · exact (hpr x hx).1
  · rcases List.mem_append.mp hx with hx | hx
    · exact (hpa x hx).2.1
    rcases List.mem_append.mp hx with hx | hx
    · exact tab_low (by decide) h3 h2 N s3 s2 x hx
    · exact (hpr x hx).2.1
  · exact hret p q r u v h' tk' (t1' ++ (t2' ++ (u3 ++ Rr))) ⟨_, _, _, rfl, ht1, ht2, h3⟩ F' (news_sub N' (tl_perm2 _ _ _ _ _ _)) (fun z hz => off z (tl_perm3 _ _ _ _ _ z hz)) hq hr
theorem ends_app {pre R : List (Addr × Obj)} : Ends R pre (pre ++ R) := by
  induction pre with
  | nil => exact .here
  | cons a l ih => exact .cons ih
section
variable {M : Model} {A : Around} {E : Value → Shared → Prop} {s : Shared} {h₀ : Heap} {L a c : Addr} {m mg mb : Str → Option Value} {cn : Str} {cs : Scope} {ccd : Value} {cl : List (Str × Addr)}
  {p : Program} {loose : List Str} {mean : ExcName → Option Value} {name : Str} {params : Arguments} {body : PySem.Expr} {scope : Scope} {firstLine : Nat} {clos : List (Str × Addr)}
theorem lam_tabs {RR Rr pre big : List (Addr × Obj)} {Q : Value → Shared → Prop} (hE : Ends RR pre big) (hT : Tabs RR Rr) (F : Fr h₀ L s.heap m) (N : News h₀ L s.heap big) (T : Top p loose mean mg mb h₀) (C : CodeHd h₀ c 163) (hcd : ccd = .ref c)
    (hpre : PreOk pre) (hpr : ∀ x ∈ Rr, x.1 ≠ 121 ∧ x.1 ≠ 128 ∧ x.1 ≠ 163) (hcl : closureFor scope (envX cn cs L a ccd cl) = pure clos)
    (h : ∀ f c' oc vs t ctv h' tk RR', Tabs RR' Rr → (c', oc) ∈ RR' → oc.data = .fields vs → vs[1]? = some (.str qLam t) → Fr h₀ L h' m →
      News h₀ L h' ((f, kla_obj name qLam params body scope clos ((mg "__name__").getD .none) c' ctv) :: (pre ++ RR')) → (∀ q ∈ pre, q.1 < f) → (∀ q ∈ RR', q.1 < f) → Q (.ref f) { s with heap := h', toks := tk }) :
    wpAny M A (makeFunction name qLam params (.expr body) scope (envX cn cs L a ccd cl) [] [] [] ⟨145, 68, 145, 102⟩ firstLine) Q E s := by
  refine hide9 fun C9 k9 => ?_
  obtain ⟨u1, u2, u3, rfl, h1, h2, h3⟩ := hT.ex
  refine k9 ?_
  clear k9
  obtain rfl := hE.eq
  have m1 : ∀ x ∈ u1, x ∈ pre ++ (u1 ++ (u2 ++ (u3 ++ Rr))) := fun x hx => List.mem_append.mpr (.inr (List.mem_append.mpr (.inl hx)))
  have m2 : ∀ x ∈ u2, x ∈ pre ++ (u1 ++ (u2 ++ (u3 ++ Rr))) := fun x hx => List.mem_append.mpr (.inr (List.mem_append.mpr (.inr (List.mem_append.mpr (.inl hx)))))
  have m3 : ∀ x ∈ u3, x ∈ pre ++ (u1 ++ (u2 ++ (u3 ++ Rr))) := fun x hx => List.mem_append.mpr (.inr (List.mem_append.mpr (.inr (List.mem_append.mpr (.inr (List.mem_append.mpr (.inl hx)))))))
  have q0 : ∀ v3 : List (Addr × Obj), ∀ x, x ∈ u1 ++ (u2 ++ (v3 ++ Rr)) ↔ x ∈ v3 ++ (u1 ++ (u2 ++ Rr)) := fun v3 x => by simpa using tl_perm4 [] u1 u2 v3 Rr x
  refine lam_any (R := u3 ++ (u1 ++ (u2 ++ Rr))) ends_app rfl F (news_sub N fun x hx => (tl_perm4 _ _ _ _ _ x).mpr hx) T C hcd h3 (fun x hx => (hpre.addr h1 h2 h3 N (fun x hx => List.mem_append.mpr (.inl hx)) (fun x hx => List.mem_append.mpr (.inr hx)) x hx).2.2) (fun x hx => ?_) hcl
    fun f c' oc vs t ctv h' tk tb' R' hR' ht' hm hd hv F' N' l1 l2 => ?_
  · rcases List.mem_append.mp hx with hx | hx
    · exact tab_low (by decide) h1 h3 N m1 m3 x hx
    rcases List.mem_append.mp hx with hx | hx
    · exact tab_low (by decide) h2 h3 N m2 m3 x hx
    · exact (hpr x hx).2.2
  · subst hR'
    refine h f c' oc vs t ctv h' tk (u1 ++ (u2 ++ (tb' ++ Rr))) ⟨_, _, _, rfl, h1, h2, ht'⟩ ((q0 _ _).mpr hm) hd hv F' (news_sub N' fun x hx => ?_) l1 (fun q hq => l2 q ((q0 _ _).mp hq))
    rcases List.mem_cons.mp hx with rfl | hx
    · exact .head _
    · exact .tail _ ((tl_perm4 _ _ _ _ _ x).mp hx)
end
end Mine
end

section
namespace Mine
/-- the place after x -/
noncomputable def nxt (size t0 t1 t2 x : Int) : Int := ((t0 * x + t1) * x + t2).fmod size
noncomputable def traj (size t0 t1 t2 spot : Int) : Nat → Int
  | 0 => spot
  | n + 1 => nxt size t0 t1 t2 (traj size t0 t1 t2 spot n)
/-- what has been taken off, and what lies: beats -/
structure WS where
  gone : List Nat
  pl : List (List Nat)
noncomputable def kp (sh : Nat → Int) (s : Int) (l : List Nat) : List Nat := l.takeWhile fun p => decide (sh p ≤ s)
noncomputable def ot (sh : Nat → Int) (s : Int) (l : List Nat) : List Nat := l.dropWhile fun p => decide (sh p ≤ s)
/-- the walk over beats: sh the shares, kd the kinds -/
noncomputable def walkP (sh : Nat → Int) (kd : Nat → Nat) : Nat → Nat → WS → Option (Nat × Nat × WS)
  | 0, _, _ => none
  | k + 1, b, st =>
    let l := st.pl.getD (kd b) []
    let keep := kp sh (sh b) l
    let g := st.gone ++ ot sh (sh b) l
    match keep.getLast? with
    | some p => if sh p = sh b then some (b, b - p, ⟨g, st.pl.set (kd b) keep⟩) else walkP sh kd k (b + 1) ⟨g, st.pl.set (kd b) (keep ++ [b])⟩
    | none => walkP sh kd k (b + 1) ⟨g, st.pl.set (kd b) [b]⟩
end Mine
end

section
open PySem PySem.W PySem.Calls PyProof.Rows
namespace Mine
/-- n blanks, n letters x: as the model reckons them -/
noncomputable def blS (n : Nat) : Str := Txt.mul (Str.ofString " ") (n : Int)
noncomputable def xsS (n : Nat) : Str := Txt.mul (Str.ofString "x") (n : Int)
theorem blS_len (n : Nat) : (blS n).length = n := by
  have := len_mul_k1 (x := Str.ofString " ") (n := (n : Int)) (by decide)
  unfold blS; split at this <;> omega
theorem xsS_len (n : Nat) : (xsS n).length = n := by
  have := len_mul_k1 (x := Str.ofString "x") (n := (n : Int)) (by decide)
  unfold xsS; split at this <;> omega
theorem blS_inj {a b : Nat} (h : blS a = blS b) : a = b := by rw [← blS_len a, h, blS_len]
section
variable {prog : Program} {w : World} {A : Around} {E : Value → Shared → Prop} {s : Shared} {Q : Value → Shared → Prop} {t u : Tok}
theorem mul_bl {n : Int} (h0 : 0 ≤ n) (h1 : n ≤ 1000) (h : ∀ t' k, Q (.str (blS n.toNat) t') { s with toks := k }) : wpAny (model prog w) A (binaryOp .Mult (.str (Str.ofString " ") t) (.int n u)) Q E s := by
  refine SB.mul (mulOk_of 16 1048576 (by decide) (by omega) (by omega) (by decide) (by decide)) fun t' k => ?_
  have := h t' k
  unfold blS at this
  rwa [Int.toNat_of_nonneg h0] at this
theorem mul_xs {n : Int} (h0 : 0 ≤ n) (h1 : n ≤ 1000) (h : ∀ t' k, Q (.str (xsS n.toNat) t') { s with toks := k }) : wpAny (model prog w) A (binaryOp .Mult (.str (Str.ofString "x") t) (.int n u)) Q E s := by
  refine SB.mul (mulOk_of 16 1048576 (by decide) (by omega) (by omega) (by decide) (by decide)) fun t' k => ?_
  have := h t' k
  unfold xsS at this
  rwa [Int.toNat_of_nonneg h0] at this
theorem len_s {x : Str} {n : Nat} (hx : x.length = n) (hn : n ≤ 1000) (h : ∀ t' k, Q (.int (n : Int) t') { s with toks := k }) : wpAny (model prog w) A (call (.builtin "len") [.str x t]) Q E s := by
  refine SBL.len (by omega) ?_
  rw [hx]
  exact h _ _
theorem abs_i {a : Int} (h : ∀ t' k, Q (.int (a.natAbs : Nat) t') { s with toks := k }) : wpAny (model prog w) A (call (.builtin "abs") [.int a t]) Q E s := by
  refine call_abs_int fun u tk => ?_
  rw [show (if a < 0 then -a else a) = ((a.natAbs : Nat) : Int) from by split <;> omega]
  exact h _ _
theorem mul_s {a b : Int} (ha : 0 ≤ a ∧ a ≤ 4) (hb : -10 < b ∧ b < 10) (h : ∀ r t' k, r = a * b → -37 < r → r < 37 → Q (.int r t') { s with toks := k }) : wpAny (model prog w) A (binaryOp .Mult (.int a t) (.int b u)) Q E s := by
  have e : -37 < a * b ∧ a * b < 37 := by
    have h : a = 0 ∨ a = 1 ∨ a = 2 ∨ a = 3 ∨ a = 4 := by omega
    rcases h with rfl | rfl | rfl | rfl | rfl <;> omega
  exact mul_int (h _ _ _ rfl e.1 e.2) (IntMulOk.of_right (intBits_le_64 (by omega) (by omega)))
theorem mul_m {a b : Int} (ha : -50 < a ∧ a < 50) (hb : -10 < b ∧ b < 10) (h : ∀ r t' k, r = a * b → -500 < r → r < 500 → Q (.int r t') { s with toks := k }) : wpAny (model prog w) A (binaryOp .Mult (.int a t) (.int b u)) Q E s := by
  have e : -500 < a * b ∧ a * b < 500 := by
    have h1 : a.natAbs ≤ 49 := by clear h; omega
    have h2 : b.natAbs ≤ 9 := by clear h; omega
    have h3 := abs_mul h1 h2
    clear h ha hb h1 h2
    omega
  exact mul_int (h _ _ _ rfl e.1 e.2) (IntMulOk.of_right (intBits_le_64 (by omega) (by omega)))
theorem mul_i {a b : Int} (ha : -1000 < a ∧ a < 1000) (hb : -1000 < b ∧ b < 1000) (h : ∀ r t' k, r = a * b → Q (.int r t') { s with toks := k }) : wpAny (model prog w) A (binaryOp .Mult (.int a t) (.int b u)) Q E s :=
  mul_int (h _ _ _ rfl) (IntMulOk.of_right (intBits_le_64 (by omega) (by omega)))
end
end Mine
end

section
open PySem PySem.W PySem.Calls PyProof.Rows
set_option maxRecDepth 100000
namespace Mine
structure Pile where
  p : Addr
  dx : Addr
  items : List Value
  n : Nat
  hh : Int
  t0 : Tok
  tk : Tok
  e0 : Nat
  k : Int
noncomputable abbrev Pile.objs (P : Pile) : List (Addr × Obj) := [(P.p, accO P.dx P.items P.n), (P.dx, iniD P.hh P.t0 (.int P.k P.tk) P.e0)]
noncomputable def flat (l : List Pile) : List (Addr × Obj) := l.flatMap Pile.objs
theorem mem_flat {l : List Pile} {x : Addr × Obj} : x ∈ flat l ↔ ∃ P ∈ l, x = (P.p, accO P.dx P.items P.n) ∨ x = (P.dx, iniD P.hh P.t0 (.int P.k P.tk) P.e0) := by
  unfold flat
  rw [List.mem_flatMap]
  constructor
  · rintro ⟨P, hP, hx⟩
    refine ⟨P, hP, ?_⟩
    rcases List.mem_cons.mp hx with h | h
    · exact .inl h
    · exact .inr (List.mem_singleton.mp h)
  · rintro ⟨P, hP, rfl | rfl⟩
    · exact ⟨P, hP, .head _⟩
    · exact ⟨P, hP, .tail _ (.head _)⟩
structure MkJ (c : Addr × Obj) (R : List (Addr × Obj)) (i : Nat) (ys : List Value) (nw : List (Addr × Obj)) : Prop where
  ex : ∃ PL : List Pile, ys = PL.map (fun P => .ref P.p) ∧ nw = c :: (flat PL ++ R) ∧ PL.map (·.k) = (List.range i).map Int.ofNat ∧ (∀ P ∈ PL, P.items = []) ∧ PL.Pairwise (fun P P' => P.p ≠ P'.p) ∧ (∀ P ∈ PL, ∀ x ∈ c :: R, x.1 ≠ P.p)
theorem mk_step {c : Addr × Obj} {R : List (Addr × Obj)} {i : Nat} {PL : List Pile} {P : Pile} {pre : List (Addr × Obj)} (hk : PL.map (·.k) = (List.range i).map Int.ofNat) (hit : ∀ P ∈ PL, P.items = []) (hpw : PL.Pairwise (fun P P' => P.p ≠ P'.p)) (hbs : ∀ P ∈ PL, ∀ x ∈ c :: R, x.1 ≠ P.p)
   (hP : P.items = []) (hPk : P.k = i) (h1 : @LT.lt Nat _ P.dx P.p) (h2 : ∀ x ∈ pre ++ c :: (flat PL ++ R), @LT.lt Nat _ x.1 P.dx) : MkJ c R (i + 1) (PL.map (fun P => .ref P.p) ++ [.ref P.p]) (c :: (flat (PL ++ [P]) ++ R)) := by
  have h3 : ∀ x ∈ c :: (flat PL ++ R), @LT.lt Nat _ x.1 P.p := fun x hx => Nat.lt_trans (h2 x (List.mem_append.mpr (.inr hx))) h1
  refine ⟨PL ++ [P], by simp, rfl, ?_, ?_, ?_, ?_⟩
  · rw [List.map_append, hk, List.range_succ, List.map_append]; simp [hPk]
  · intro P' hP'
    rcases List.mem_append.mp hP' with h | h
    · exact hit _ h
    · rw [List.mem_singleton.mp h]; exact hP
  · refine List.pairwise_append.mpr ⟨hpw, List.pairwise_singleton _ _, fun a ha b hb => ?_⟩
    rw [List.mem_singleton.mp hb]
    exact Nat.ne_of_lt (h3 (a.p, _) (.tail _ (List.mem_append.mpr (.inl (mem_flat.mpr ⟨a, ha, .inl rfl⟩)))))
  · intro P' hP' x hx
    rcases List.mem_append.mp hP' with h | h
    · exact hbs _ h x hx
    · rw [List.mem_singleton.mp h]
      refine Nat.ne_of_lt (h3 x ?_)
      rcases List.mem_cons.mp hx with rfl | hx
      · exact .head _
      · exact .tail _ (List.mem_append.mpr (.inr hx))
theorem mk_sub {c x1 x2 x3 : Addr × Obj} {R : List (Addr × Obj)} {PL : List Pile} {P : Pile} : ∀ q ∈ x1 :: x2 :: x3 :: (c :: (flat (PL ++ [P]) ++ R)), q ∈ (P.p, accO P.dx P.items P.n) :: (P.dx, iniD P.hh P.t0 (.int P.k P.tk) P.e0) :: x1 :: x2 :: x3 :: (c :: (flat PL ++ R)) := by
  intro q hq
  have e : flat (PL ++ [P]) = flat PL ++ P.objs := by simp [flat]
  rw [e] at hq
  simp only [List.mem_cons, List.mem_append, List.not_mem_nil, or_false] at hq ⊢
  rcases hq with h | h | h | h | (h | h | h) | h
  · exact .inr (.inr (.inl h))
  · exact .inr (.inr (.inr (.inl h)))
  · exact .inr (.inr (.inr (.inr (.inl h))))
  · exact .inr (.inr (.inr (.inr (.inr (.inl h)))))
  · exact .inr (.inr (.inr (.inr (.inr (.inr (.inl h))))))
  · exact .inl h
  · exact .inr (.inl h)
  · exact .inr (.inr (.inr (.inr (.inr (.inr (.inr h))))))
theorem mk_off {c x1 x2 x3 : Addr × Obj} {R : List (Addr × Obj)} {PL : List Pile} {P : Pile} (h1 : @LT.lt Nat _ P.dx P.p) (h2 : ∀ x ∈ x1 :: x2 :: x3 :: (c :: (flat PL ++ R)), @LT.lt Nat _ x.1 P.dx) (off : ∀ p ∈ c :: (flat PL ++ R), p.1 ≠ x1.1 ∧ p.1 ≠ x2.1 ∧ p.1 ≠ x3.1) :
   ∀ q ∈ c :: (flat (PL ++ [P]) ++ R), q.1 ≠ x1.1 ∧ q.1 ≠ x2.1 ∧ q.1 ≠ x3.1 := by
  have a1 := h2 x1 (.head _)
  have a2 := h2 x2 (.tail _ (.head _))
  have a3 := h2 x3 (.tail _ (.tail _ (.head _)))
  have e : flat (PL ++ [P]) = flat PL ++ P.objs := by simp [flat]
  intro q hq
  rw [e] at hq
  simp only [List.mem_cons, List.mem_append, List.not_mem_nil, or_false] at hq
  rcases hq with h | (h | h | h) | h
  · exact off q (by rw [h]; exact .head _)
  · exact off q (.tail _ (List.mem_append.mpr (.inl h)))
  · rw [h]; exact ⟨Nat.ne_of_gt (Nat.lt_trans a1 h1), Nat.ne_of_gt (Nat.lt_trans a2 h1), Nat.ne_of_gt (Nat.lt_trans a3 h1)⟩
  · rw [h]; exact ⟨Nat.ne_of_gt a1, Nat.ne_of_gt a2, Nat.ne_of_gt a3⟩
  · exact off q (.tail _ (List.mem_append.mpr (.inr h)))
/-- pieces -/
noncomputable def pcD (bl xs : Nat → Str) (sh : Nat → Int) (b : Nat) : Dat := .tuple [.str (bl b), .str (xs (sh b).natAbs)]
structure LawP where
  size : Int
  kinds : Int
  t0 : Int
  t1 : Int
  t2 : Int
  f : Nat → Int
noncomputable def LawP.sh (p : LawP) (b : Nat) : Int := (p.f b).fdiv p.kinds
noncomputable def LawP.kd (p : LawP) (b : Nat) : Nat := ((p.f b).fmod p.kinds).toNat
structure LawP.Ok (p : LawP) : Prop where
  k1 : 1 ≤ p.kinds
  k2 : p.kinds ≤ 3
  z : (4 ≤ p.size ∧ p.size ≤ 9 ∧ ∀ b, 0 ≤ p.f b ∧ p.f b < p.size) ∨ (-9 ≤ p.size ∧ p.size ≤ -4 ∧ ∀ b, p.size < p.f b ∧ p.f b ≤ 0)
  t0 : 0 ≤ p.t0 ∧ p.t0 ≤ 4
  t1 : -4 ≤ p.t1 ∧ p.t1 ≤ 4
  t2 : -9 ≤ p.t2 ∧ p.t2 ≤ 9
  nx : ∀ b, p.f (b + 1) = nxt p.size p.t0 p.t1 p.t2 (p.f b)
structure WJ (P : LawP) (bl xs : Nat → Str) (plA : Addr) (refs : List Value) (nB : List (Addr × Obj)) (n : Nat) (res : Nat × Nat × WS) (vz vk vt : Value) (b : Nat) (m : Str → Option Value) (nw : List (Addr × Obj)) : Prop where
  ex : ∃ (PL : List Pile) (st : WS) (gl : Addr) (gv : List Value) (ep : Nat) (tl RT : List (Addr × Obj)) (sp : Tok),
    nw = (gl, listOf gv.toArray ep) :: (flat PL ++ (tl ++ RT)) ∧ Tabs RT nB ∧ PL.map (fun Q => Value.ref Q.p) = refs ∧ (∀ x ∈ tl, x.2.cls = .type "tuple") ∧
    DatAll tl gv (st.gone.map (pcD bl xs P.sh)) ∧ st.pl.length = PL.length ∧ (∀ (i : Nat) Q l, PL[i]? = some Q → st.pl[i]? = some l → DatAll tl Q.items (l.map (pcD bl xs P.sh))) ∧
    PL.map (·.k) = (List.range P.kinds.toNat).map Int.ofNat ∧ PL.Pairwise (fun Q Q' => Q.p ≠ Q'.p) ∧ (∀ Q ∈ PL, ∀ x ∈ nB, x.1 ≠ Q.p) ∧
    walkP P.sh P.kd (n - b) b st = some res ∧ (∀ l ∈ st.pl, l.Pairwise (fun p q => P.sh p ≤ P.sh q)) ∧ (∀ l ∈ st.pl, l.length ≤ b) ∧ (∀ l ∈ st.pl, ∀ p ∈ l, p < b) ∧ st.gone.length ≤ 20 * b ∧ m "spot" = some (.int (P.f b) sp) ∧ m "gone" = some (.ref gl)
  p : m "piles" = some (.ref plA)
  z : m "size" = some vz
  k : m "kinds" = some vk
  t : m "terms" = some vt
theorem listItem {prog : Program} {w : World} {A : Around} {E : Value → Shared → Prop} {s : Shared} {value slice : PySem.Expr} {h₀ : Heap} {L l : Addr} {news : List (Addr × Obj)} {vs : List Value} {n : Nat} {k : Int} {u : Tok} {v : Value} {Q : Value → Shared → Prop}
    (N : News h₀ L s.heap news) (hm : (l, listOf vs.toArray n) ∈ news) (h0 : 0 ≤ k) (hhi : k < 100000) (hx : vs[k.toNat]? = some v) (h : Q v s)
    (hs : subscripted slice false (.ref l) (.int k u) = operate [.ref l, .int k u] (getItem (.ref l) (.int k u)) := by with_unfolding_all rfl) :
    wpAny (model prog w) A (subscriptTail value slice (.ref l) (.int k u)) Q E s := by
  have hl : s.heap.IsList l vs.toArray := ⟨_, (N _ hm).1, rfl, n, rfl⟩
  exact tail_any hl.typeIs PySem.F.slot_list_getitem.lookup (wpAny_getItem_list hl h0 (by omega) (by simpa using hx) h) hs
theorem kd_lt (P : LawP) (hP : P.Ok) (b : Nat) : 0 ≤ (P.f b).fmod P.kinds ∧ (P.f b).fmod P.kinds < P.kinds := by
  have := hP.k1
  rw [Int.fmod_eq_emod_of_nonneg _ (by omega)]
  exact ⟨Int.emod_nonneg _ (by omega), Int.emod_lt_of_pos _ (by omega)⟩
theorem sp_bd (P : LawP) (hP : P.Ok) (b : Nat) : -10 < P.f b ∧ P.f b < 10 := by
  rcases hP.z with ⟨h1, h2, h⟩ | ⟨h1, h2, h⟩ <;> have := h b <;> omega
theorem split_at {α : Type} {l : List α} {i : Nat} {x : α} (h : l[i]? = some x) : ∃ pre post, l = pre ++ x :: post ∧ pre.length = i := by
  obtain ⟨hi, rfl⟩ := List.getElem?_eq_some_iff.mp h
  exact ⟨l.take i, l.drop (i + 1), by simp, by simp; omega⟩
theorem wj_in {a b g p t c i : Addr × Obj} {Q : Pile} {pre post : List Pile} {tl nB u1 u2 u3 : List (Addr × Obj)} (ha : a = (Q.p, accO Q.dx Q.items Q.n)) (hb : b = (Q.dx, iniD Q.hh Q.t0 (.int Q.k Q.tk) Q.e0)) (hp : p ∈ nB) (ht : t ∈ nB) (hc : c ∈ nB) :
   ∀ x ∈ a :: b :: g :: p :: t :: c :: (u1 ++ (u2 ++ (u3 ++ (i :: (flat pre ++ (flat post ++ (tl ++ nB))))))), x ∈ i :: (g :: (flat (pre ++ Q :: post) ++ (tl ++ (u1 ++ (u2 ++ (u3 ++ nB)))))) := by
  subst ha; subst hb
  have e : flat (pre ++ Q :: post) = flat pre ++ (Q.objs ++ flat post) := by simp [flat]
  rw [e]
  intro x hx
  simp only [List.mem_cons, List.mem_append, List.not_mem_nil, or_false] at hx ⊢
  rcases hx with h | h | h | h | h | h | h | h | h | h | h | h | h | h
  · exact .inr (.inr (.inl (.inr (.inl (.inl h)))))
  · exact .inr (.inr (.inl (.inr (.inl (.inr h)))))
  · exact .inr (.inl h)
  · subst h; exact .inr (.inr (.inr (.inr (.inr (.inr (.inr hp))))))
  · subst h; exact .inr (.inr (.inr (.inr (.inr (.inr (.inr ht))))))
  · subst h; exact .inr (.inr (.inr (.inr (.inr (.inr (.inr hc))))))
  · exact .inr (.inr (.inr (.inr (.inl h))))
  · exact .inr (.inr (.inr (.inr (.inr (.inl h)))))
  · exact .inr (.inr (.inr (.inr (.inr (.inr (.inl h))))))
  · exact .inl h
  · exact .inr (.inr (.inl (.inl h)))
  · exact .inr (.inr (.inl (.inr (.inr h))))
  · exact .inr (.inr (.inr (.inl h)))
  · exact .inr (.inr (.inr (.inr (.inr (.inr (.inr h))))))
/-- the way back: the ledger between the turns out of what a turn leaves -/
theorem wj_out {g i : Addr × Obj} {Q' : Pile} {pre post : List Pile} {tl tn nB RR Rr all : List (Addr × Obj)} (hT : Tabs RR Rr) (hRr : Rr = i :: (flat pre ++ (flat post ++ (tl ++ nB)))) (h1 : ∀ x ∈ Q'.objs, x ∈ all) (hg : g ∈ all) (hn : ∀ x ∈ tn, x ∈ all) (hr : ∀ x ∈ RR, x ∈ all) :
   ∃ RT, Tabs RT nB ∧ ∀ x ∈ i :: (g :: (flat (pre ++ Q' :: post) ++ ((tn ++ tl) ++ RT))), x ∈ all := by
  refine hide9 fun C9 k9 => ?_
  obtain ⟨u1, u2, u3, rfl, t1, t2, t3⟩ := hT.ex
  refine k9 ?_
  clear k9
  subst hRr
  refine ⟨u1 ++ (u2 ++ (u3 ++ nB)), ⟨_, _, _, rfl, t1, t2, t3⟩, ?_⟩
  have e : flat (pre ++ Q' :: post) = flat pre ++ (Q'.objs ++ flat post) := by simp [flat]
  rw [e]
  have r : ∀ x, (x ∈ u1 ∨ x ∈ u2 ∨ x ∈ u3 ∨ x = i ∨ x ∈ flat pre ∨ x ∈ flat post ∨ x ∈ tl ∨ x ∈ nB) → x ∈ all := fun x hx => hr x (by simpa only [List.mem_append, List.mem_cons] using hx)
  intro x hx
  simp only [List.mem_cons, List.mem_append] at hx
  rcases hx with h | h | (h | h | h) | (h | h) | h | h | h | h
  · exact r x (.inr (.inr (.inr (.inl h))))
  · exact h ▸ hg
  · exact r x (.inr (.inr (.inr (.inr (.inl h)))))
  · exact h1 x (by simpa using h)
  · exact r x (.inr (.inr (.inr (.inr (.inr (.inl h))))))
  · exact hn x h
  · exact r x (.inr (.inr (.inr (.inr (.inr (.inr (.inl h)))))))
  · exact r x (.inl h)
  · exact r x (.inr (.inl h))
  · exact r x (.inr (.inr (.inl h)))
  · exact r x (.inr (.inr (.inr (.inr (.inr (.inr (.inr h)))))))
theorem tabs_addr {h₀ h : Heap} {L : Addr} {R RR Rr : List (Addr × Obj)} (T : Tabs RR Rr) (N : News h₀ L h R) (hs : ∀ x ∈ RR, x ∈ R) {x : Addr × Obj} (hx : x ∈ R) (hc : x.2.cls ≠ .none) : x.1 ≠ 121 ∧ x.1 ≠ 128 ∧ x.1 ≠ 163 := by
  refine hide9 fun C9 k9 => ?_
  obtain ⟨u1, u2, u3, rfl, h1, h2, h3⟩ := T.ex
  refine k9 ?_
  clear k9
  obtain ⟨a, o⟩ := x
  have key : ∀ q ps, (q, tabObj ps) ∈ u1 ++ (u2 ++ (u3 ++ Rr)) → a ≠ q := fun q ps hm e => by
    subst e
    have := news_same N hx (hs _ hm)
    subst this
    exact hc rfl
  obtain ⟨p1, m1, _⟩ := tab_in h1
  obtain ⟨p2, m2, _⟩ := tab_in h2
  obtain ⟨p3, m3, _⟩ := tab_in h3
  exact ⟨key _ _ (List.mem_append.mpr (.inl m1)), key _ _ (List.mem_append.mpr (.inr (List.mem_append.mpr (.inl m2)))), key _ _ (List.mem_append.mpr (.inr (List.mem_append.mpr (.inr (List.mem_append.mpr (.inl m3))))))⟩
theorem rr_apart {h₀ h : Heap} {L I : Addr} {it : Obj} {R : List (Addr × Obj)} {Q : Pile} {pre post : List Pile} {tl nB : List (Addr × Obj)} (N : News h₀ L h R) (hQ : (Q.p, accO Q.dx Q.items Q.n) ∈ R) (hI : (I, it) ∈ R) (hit : it.cls = .type "range_iterator") (hs : ∀ x ∈ flat pre ++ (flat post ++ tl), x ∈ R)
   (hpw : (pre ++ Q :: post).Pairwise (fun Q Q' => Q.p ≠ Q'.p)) (htl : ∀ x ∈ tl, x.2.cls = .type "tuple") (hn : ∀ x ∈ nB, x.1 ≠ Q.p) : ∀ x ∈ (I, it) :: (flat pre ++ (flat post ++ (tl ++ nB))), x.1 ≠ Q.p := by
  obtain ⟨p1, p2, p3⟩ := List.pairwise_append.mp hpw
  obtain ⟨p4, p5⟩ := List.pairwise_cons.mp p2
  have key : ∀ x : Addr × Obj, x ∈ R → x.2.cls ≠ .ref 101 → x.1 ≠ Q.p := by
    rintro ⟨a, o⟩ hx hc e
    have e' : a = Q.p := e
    subst e'
    have := news_same N hx hQ
    subst this
    exact hc rfl
  have fl : ∀ l : List Pile, (∀ x ∈ flat l, x ∈ R) → (∀ Q' ∈ l, Q'.p ≠ Q.p) → ∀ x ∈ flat l, x.1 ≠ Q.p := by
    intro l hl hq x hx
    obtain ⟨Q', hQ', rfl | rfl⟩ := mem_flat.mp hx
    · exact hq Q' hQ'
    · exact key _ (hl _ hx) (by simp [iniD, dictOf])
  intro x hx
  rcases List.mem_cons.mp hx with rfl | hx
  · exact key _ hI (by rw [hit]; simp)
  rcases List.mem_append.mp hx with hx | hx
  · exact fl pre (fun x hx => hs x (List.mem_append.mpr (.inl hx))) (fun Q' hQ' => p3 Q' hQ' Q (.head _)) x hx
  rcases List.mem_append.mp hx with hx | hx
  · exact fl post (fun x hx => hs x (List.mem_append.mpr (.inr (List.mem_append.mpr (.inl hx))))) (fun Q' hQ' => (p4 Q' hQ').symm) x hx
  rcases List.mem_append.mp hx with hx | hx
  · exact key x (hs x (List.mem_append.mpr (.inr (List.mem_append.mpr (.inr hx))))) (by rw [htl x hx]; simp)
  · exact hn x hx
theorem flat_cls {l : List Pile} : ∀ x ∈ flat l, x.2.cls ≠ .none := by
  intro x hx
  obtain ⟨Q', hQ', rfl | rfl⟩ := mem_flat.mp hx
  · simp [accO]
  · simp [iniD, dictOf]
theorem rr_tabs {h₀ h : Heap} {L I : Addr} {it : Obj} {R RR Rr : List (Addr × Obj)} {pre post : List Pile} {tl nB : List (Addr × Obj)} (T : Tabs RR Rr) (N : News h₀ L h R) (hs : ∀ x ∈ RR, x ∈ R) (hRr : Rr = (I, it) :: (flat pre ++ (flat post ++ (tl ++ nB)))) (hit : it.cls = .type "range_iterator")
   (htl : ∀ x ∈ tl, x.2.cls = .type "tuple") (hn : ∀ x ∈ nB, x.1 ≠ 121 ∧ x.1 ≠ 128 ∧ x.1 ≠ 163) : ∀ x ∈ Rr, x.1 ≠ 121 ∧ x.1 ≠ 128 ∧ x.1 ≠ 163 := by
  intro x hx
  have hR := hs x (T.sub x hx)
  rw [hRr] at hx
  rcases List.mem_cons.mp hx with h | hx
  · exact tabs_addr T N hs hR (by rw [h]; show it.cls ≠ _; rw [hit]; simp)
  rcases List.mem_append.mp hx with hx | hx
  · exact tabs_addr T N hs hR (flat_cls x hx)
  rcases List.mem_append.mp hx with hx | hx
  · exact tabs_addr T N hs hR (flat_cls x hx)
  rcases List.mem_append.mp hx with hx | hx
  · exact tabs_addr T N hs hR (by rw [htl x hx]; simp)
  · exact hn x hx
theorem pn_cons {h₀ h : Heap} {L p dx : Addr} {items : List Value} {n : Nat} {R l : List (Addr × Obj)} {a : Addr} {o : Obj} (N : News h₀ L h R) (hp : (p, accO dx items n) ∈ R) (hx : (a, o) ∈ R) (hc : o.cls ≠ .ref 101) (h : ∀ x ∈ l, x.1 ≠ p) : ∀ x ∈ (a, o) :: l, x.1 ≠ p := by
  intro x hx'
  rcases List.mem_cons.mp hx' with rfl | hx'
  · intro e
    have e' : a = p := e
    subst e'
    have := news_same N hx hp
    subst this
    exact hc rfl
  · exact h x hx'
section
variable {h₀ h : Heap} {L : Addr} {a b c d e p q : Addr × Obj} {r : List (Addr × Obj)}
theorem news_l1 (N : News h₀ L h (a :: p :: q :: r)) : News h₀ L h (p :: q :: a :: r) := news_sub N (by simp +contextual [or_imp, forall_and])
theorem news_l2 (N : News h₀ L h (a :: b :: p :: q :: r)) : News h₀ L h (p :: q :: a :: b :: r) := news_sub N (by simp +contextual [or_imp, forall_and])
theorem news_l3 (N : News h₀ L h (a :: b :: c :: p :: q :: r)) : News h₀ L h (p :: q :: a :: b :: c :: r) := news_sub N (by simp +contextual [or_imp, forall_and])
theorem news_l4 (N : News h₀ L h (a :: b :: c :: d :: p :: q :: r)) : News h₀ L h (p :: q :: a :: b :: c :: d :: r) := news_sub N (by simp +contextual [or_imp, forall_and])
theorem news_l5 (N : News h₀ L h (a :: b :: c :: d :: e :: p :: q :: r)) : News h₀ L h (p :: q :: a :: b :: c :: d :: e :: r) := news_sub N (by simp +contextual [or_imp, forall_and])
end
theorem acc_ne_ini {h₀ h : Heap} {L p dx : Addr} {items : List Value} {n : Nat} {hh : Int} {t0 : Tok} {v : Value} {e0 : Nat} {R : List (Addr × Obj)} (N : News h₀ L h R) (h1 : (p, accO dx items n) ∈ R) (h2 : (dx, iniD hh t0 v e0) ∈ R) : @Ne Nat p dx := fun e => by
  have e' : p = dx := e
  subst e'
  have := news_same N h1 h2
  cases this
theorem it_kd {P : LawP} {b : Nat} {r : Int} {vs : List Value} {v : Value} (h : r = (P.f b).fmod P.kinds) (hx : vs[P.kd b]? = some v) : vs[r.toNat]? = some v := by rw [h]; exact hx
theorem LawP.Ok.sz {P : LawP} (hP : P.Ok) : P.size < 10 ∧ -10 < P.size ∧ P.size ≠ 0 := by
  rcases hP.z with ⟨a, b, _⟩ | ⟨a, b, _⟩
  · exact ⟨Int.lt_of_le_of_lt b (by decide), Int.lt_of_lt_of_le (by decide) a, Int.ne_of_gt (Int.lt_of_lt_of_le (by decide) a)⟩
  · exact ⟨Int.lt_of_le_of_lt b (by decide), Int.lt_of_lt_of_le (by decide) a, Int.ne_of_lt (Int.lt_of_le_of_lt b (by decide))⟩
theorem sh_sd {P : LawP} (hP : P.Ok) {sd : Int} (hsd : (0 < P.size ∧ sd = 1) ∨ (¬ 0 < P.size ∧ sd = -1)) (b : Nat) : sd * ((P.sh b).natAbs : Int) = P.sh b ∧ (P.sh b).natAbs < 10 := by
  have h1 := hP.k1
  have e : P.sh b = P.f b / P.kinds := by unfold LawP.sh; exact Int.fdiv_eq_ediv_of_nonneg _ (by omega)
  have e1 := Int.emod_add_mul_ediv (P.f b) P.kinds
  have e2 := Int.emod_nonneg (P.f b) (show P.kinds ≠ 0 by omega)
  have e3 := Int.emod_lt_of_pos (P.f b) (show 0 < P.kinds by omega)
  have h2 := hP.k2
  rw [e]
  have hb : (P.f b / P.kinds).natAbs ≤ (P.f b).natAbs := Int.natAbs_ediv_le_natAbs _ _
  rcases hP.z with ⟨z1, z2, z3⟩ | ⟨z1, z2, z3⟩
  · have hz := z3 b
    have hs : sd = 1 := by
      rcases hsd with h | h
      · exact h.2
      · exact absurd (Int.lt_of_lt_of_le (by decide) z1) h.1
    rw [hs, Int.one_mul]
    exact ⟨Int.natAbs_of_nonneg (Int.ediv_nonneg hz.1 (Int.le_trans (by decide) h1)), Nat.lt_of_le_of_lt hb (by clear hb e1 e2 e3 e hs hsd; omega)⟩
  · have hz := z3 b
    have hs : sd = -1 := by
      rcases hsd with h | h
      · exact absurd h.1 (by clear hz e1 e2 e3 e hb; omega)
      · exact h.2
    have hn : P.f b / P.kinds ≤ 0 := by
      have := Int.ediv_le_ediv (show 0 < P.kinds from Int.lt_of_lt_of_le (by decide) h1) (show P.f b ≤ 0 by clear hs hsd e1 e2 e3 e hb; omega)
      rwa [Int.zero_ediv] at this
    rw [hs, Int.ofNat_natAbs_of_nonpos hn]
    exact ⟨by rw [Int.neg_mul, Int.one_mul, Int.neg_neg], Nat.lt_of_le_of_lt hb (by clear hb e1 e2 e3 e hs hsd; omega)⟩
theorem key_in {h₀ h : Heap} {L : Addr} {x y : Addr × Obj} {pre RR : List (Addr × Obj)} (N : News h₀ L h (pre ++ RR)) (hx : x ∈ RR) (hy : y ∈ RR) : News h₀ L h (x :: y :: (pre ++ RR)) := news_sub N fun z hz => by
  rcases List.mem_cons.mp hz with rfl | hz
  · exact List.mem_append.mpr (.inr hx)
  rcases List.mem_cons.mp hz with rfl | hz
  · exact List.mem_append.mpr (.inr hy)
  · exact hz
theorem key_in4 {h₀ h : Heap} {L : Addr} {x a b c : Addr × Obj} {R RR : List (Addr × Obj)} (N : News h₀ L h (a :: b :: c :: R)) (hx : x ∈ RR) (hs : ∀ x ∈ RR, x ∈ R) : News h₀ L h (a :: b :: c :: x :: R) := news_sub N fun z hz => by
  rcases List.mem_cons.mp hz with rfl | hz
  · exact .head _
  rcases List.mem_cons.mp hz with rfl | hz
  · exact .tail _ (.head _)
  rcases List.mem_cons.mp hz with rfl | hz
  · exact .tail _ (.tail _ (.head _))
  rcases List.mem_cons.mp hz with rfl | hz
  · exact .tail _ (.tail _ (.tail _ (hs _ hx)))
  · exact .tail _ (.tail _ (.tail _ hz))
theorem addN {prog : Program} {w : World} {A : Around} {E : Value → Shared → Prop} {s : Shared} {h₀ : Heap} {L l b : Addr} {m : Str → Option Value} {news : List (Addr × Obj)} {vs ws : List Value} {n k : Nat} {Q : Value → Shared → Prop} (F : Fr h₀ L s.heap m) (N : News h₀ L s.heap news) (hl : (l, listOf vs.toArray n) ∈ news) (hb : (b, listOf ws.toArray k) ∈ news)
    (hsz : vs.length ≤ 1000) (hsz2 : ws.length ≤ 1000) (h : ∀ l' h', Fr h₀ L h' m → News h₀ L h' ((l', listOf (vs ++ ws).toArray 0) :: news) → Q (.ref l') { s with heap := h' }) : wpAny (model prog w) A (binaryOp .Add (.ref l) (.ref b)) Q E s := by
  refine add_arrays F N (its := vs.toArray) (its2 := ws.toArray) ⟨_, (N _ hl).1, rfl, n, rfl⟩ ⟨_, (N _ hb).1, rfl, k, rfl⟩ (fun h' F' N' => h _ h' F' N') ?_
  have : (2000 : Nat) ≤ sizeLine := by decide
  simp only [List.size_toArray]; omega
theorem datAll_split {n : List (Addr × Obj)} : ∀ {A B : List Value} {C D : List Dat}, A.length = C.length → DatAll n (A ++ B) (C ++ D) → DatAll n A C ∧ DatAll n B D
  | [], B, [], D, _, h => ⟨.nil, h⟩
  | [], _, _ :: _, _, e, _ => nomatch e
  | _ :: _, _, [], _, e, _ => nomatch e
  | a :: A, B, c :: C, D, e, h => by
    cases h with
    | cons h1 h2 =>
      obtain ⟨i1, i2⟩ := datAll_split (by simpa using e) h2
      exact ⟨.cons h1 i1, i2⟩
theorem datAll_cut {n : List (Addr × Obj)} {Qi : List Value} {C D : List Dat} (h : DatAll n Qi (C ++ D)) : ∃ A B, Qi = A ++ B ∧ A.length = C.length ∧ DatAll n A C ∧ DatAll n B D := by
  have hl : Qi.length = C.length + D.length := by rw [h.length, List.length_append]
  have e : Qi = Qi.take C.length ++ Qi.drop C.length := (List.take_append_drop _ _).symm
  have e1 : (Qi.take C.length).length = C.length := by rw [List.length_take]; omega
  rw [e] at h
  obtain ⟨h1, h2⟩ := datAll_split e1 h
  exact ⟨_, _, e, e1, h1, h2⟩
theorem kp_ot (sh : Nat → Int) (s : Int) (l : List Nat) : kp sh s l ++ ot sh s l = l := List.takeWhile_append_dropWhile
/-- bisect_right's answer, told by what it parts -/
theorem bi_len {sh : Nat → Int} {s r : Int} {l : List Nat} (h0 : 0 ≤ r) (h1 : r ≤ (l.map sh).length) (h2 : ∀ (i : Nat) (k : Int), (l.map sh)[i]? = some k → (i : Int) < r → k ≤ s) (h3 : ∀ (i : Nat) (k : Int), (l.map sh)[i]? = some k → r ≤ (i : Int) → s < k) : r = (kp sh s l).length := by
  obtain ⟨n, rfl⟩ := Int.eq_ofNat_of_zero_le h0
  have g : ∀ (l : List Nat) (n : Nat), n ≤ l.length → (∀ i p, l[i]? = some p → i < n → sh p ≤ s) → (∀ i p, l[i]? = some p → n ≤ i → s < sh p) → n = (kp sh s l).length := by
    intro l
    induction l with
    | nil => intro n hn _ _; simp [kp]; simpa using hn
    | cons p l ih =>
      intro n hn a b
      cases n with
      | zero =>
        have := b 0 p rfl (Nat.le_refl _)
        simp [kp, Int.not_le.mpr this]
      | succ n =>
        have hp := a 0 p rfl (Nat.succ_pos _)
        have := ih n (by simpa using hn) (fun i q hq hi => a (i + 1) q (by simpa using hq) (by omega)) (fun i q hq hi => b (i + 1) q (by simpa using hq) (by omega))
        simp [kp, hp] at this ⊢
        exact this
  have := g l n (by simpa using h1) (fun i p hp hi => h2 i (sh p) (by simp [hp]) (by omega)) (fun i p hp hi => h3 i (sh p) (by simp [hp]) (by omega))
  omega
end Mine
end

section
open PySem PySem.W PySem.Calls PyProof.Rows
set_option maxRecDepth 100000
namespace Mine
theorem walkP_next {sh : Nat → Int} {kd : Nat → Nat} {k b : Nat} {st : WS} (hne : ∀ p, (kp sh (sh b) (st.pl.getD (kd b) [])).getLast? = some p → sh p ≠ sh b) :
   walkP sh kd (k + 1) b st = walkP sh kd k (b + 1) ⟨st.gone ++ ot sh (sh b) (st.pl.getD (kd b) []), st.pl.set (kd b) (kp sh (sh b) (st.pl.getD (kd b) []) ++ [b])⟩ := by
  rw [walkP]
  cases h : (kp sh (sh b) (st.pl.getD (kd b) [])).getLast? with
  | none => rw [List.getLast?_eq_none_iff.mp h]; rfl
  | some p => simp only [if_neg (hne p h)]
theorem walkP_ret {sh : Nat → Int} {kd : Nat → Nat} {k b p : Nat} {st : WS} (h : (kp sh (sh b) (st.pl.getD (kd b) [])).getLast? = some p) (he : sh p = sh b) :
   walkP sh kd (k + 1) b st = some (b, b - p, ⟨st.gone ++ ot sh (sh b) (st.pl.getD (kd b) []), st.pl.set (kd b) (kp sh (sh b) (st.pl.getD (kd b) []))⟩) := by
  rw [walkP]
  simp only [h, if_pos he]
theorem kp_le {sh : Nat → Int} {s : Int} : ∀ {l : List Nat}, ∀ p ∈ kp sh s l, sh p ≤ s
  | [], p, hp => nomatch hp
  | a :: l, p, hp => by
    unfold kp at hp
    rw [List.takeWhile_cons] at hp
    split at hp
    · rename_i h
      rcases List.mem_cons.mp hp with rfl | hp
      · simpa using h
      · exact kp_le (l := l) p hp
    · cases hp
theorem kp_sub {sh : Nat → Int} {s : Int} {l : List Nat} : (kp sh s l).Sublist l := List.takeWhile_sublist _
theorem ot_sub {sh : Nat → Int} {s : Int} {l : List Nat} : (ot sh s l).Sublist l := List.dropWhile_sublist _
/-- nothing of the ledger between the turns lies at the range's iterator -/
theorem wj_off {h₀ h : Heap} {L I : Addr} {x0 left : Int} {all news' : List (Addr × Obj)} {PL : List Pile} {g : Addr × Obj} {tl RT nB : List (Addr × Obj)} (N : News h₀ L h all) (hI : (I, itR x0 left) ∈ all) (hnews : news' = g :: (flat PL ++ (tl ++ RT))) (hs : ∀ x ∈ news', x ∈ all) (hg : g.2.cls = .type "list") (htl : ∀ x ∈ tl, x.2.cls = .type "tuple") (hT : Tabs RT nB) (hn : ∀ x ∈ nB, x.1 ≠ I) : ∀ x ∈ news', x.1 ≠ I := by
  have key : ∀ x : Addr × Obj, x ∈ news' → x.2.cls ≠ .type "range_iterator" → x.1 ≠ I := by
    rintro ⟨a, o⟩ hx hc e
    have e' : a = I := e
    subst e'
    have := news_same N (hs _ hx) hI
    subst this
    exact hc rfl
  have tb : ∀ (x : Addr × Obj), x ∈ news' → (∃ vs, x.2.data = .fields vs ∧ (vs = #[] ∨ ∃ a b c, vs = #[rawInt a, rawInt b, .ref c] ∧ x.2.cls = .none) ∨ ∃ vs q t, x.2.data = .fields vs ∧ vs[1]? = some (.str q t)) → x.1 ≠ I := by
    rintro ⟨a, o⟩ hx ho e
    have e' : a = I := e
    subst e'
    have := news_same N (hs _ hx) hI
    subst this
    obtain ⟨vs, ⟨hd, rfl | ⟨_, _, _, _, hc⟩⟩ | ⟨vs, q, t, hd, hv⟩⟩ := ho
    · cases hd
    · cases hc
    · cases hd; simp [rawInt] at hv
  intro x hx
  have hx0 := hx
  rw [hnews] at hx
  rcases List.mem_cons.mp hx with rfl | hx
  · exact key _ hx0 (by rw [hg]; simp)
  rcases List.mem_append.mp hx with hx | hx
  · refine key x hx0 ?_
    obtain ⟨Q', hQ', rfl | rfl⟩ := mem_flat.mp hx <;> simp [accO, iniD, dictOf]
  rcases List.mem_append.mp hx with hx | hx
  · exact key x hx0 (by rw [htl x hx]; simp)
  refine hide9 fun C9 k9 => ?_
  obtain ⟨u1, u2, u3, rfl, h1, h2, h3⟩ := hT.ex
  refine k9 ?_
  clear k9
  rcases List.mem_append.mp hx with hx | hx
  · exact tb x hx0 (tab_obj h1 x hx)
  rcases List.mem_append.mp hx with hx | hx
  · exact tb x hx0 (tab_obj h2 x hx)
  rcases List.mem_append.mp hx with hx | hx
  · exact tb x hx0 (tab_obj h3 x hx)
  · exact hn x hx
theorem pc_dat {tl : List (Addr × Obj)} {q : Addr} {b : Nat} {sh : Nat → Int} {t u : Tok} (h : (q, tupO [.str (blS b) t, .str (xsS (sh b).natAbs) u]) ∈ tl) : DatIn tl (.ref q) (pcD blS xsS sh b) := .tuple h (.cons (.str _ _) (.cons (.str _ _) .nil))
section
variable {P : LawP} {plA : Addr} {refs : List Value} {nB : List (Addr × Obj)} {n : Nat} {res : Nat × Nat × WS} {vz vk vt : Value} {b : Nat} {m' : Str → Option Value}
  {h₀ h' : Heap} {L I : Addr} {s₁ : Shared} {it : Obj} {Q : Flow → Shared → Prop} {tk : Nat} {x0 left : Int} {pre post : List Pile} {Q0 : Pile} {st : WS} {tl tn RR Rr all : List (Addr × Obj)} {gv B' A9 : List Value} {gl' q' : Addr} {n9 ep : Nat} {l : List Nat} {sp t u : Tok}
/-- what is kept of the piles by a turn that goes on -/
theorem wj_piles (hP : P.Ok) (hb : b < n)
   (hit' : ∀ (i : Nat) Q l, (pre ++ Q0 :: post)[i]? = some Q → st.pl[i]? = some l → DatAll tl Q.items (l.map (pcD blS xsS P.sh))) (hlen : st.pl.length = (pre ++ Q0 :: post).length) (hpl : pre.length = P.kd b) (hl : st.pl[P.kd b]? = some l)
   (hA9 : DatAll (tn ++ tl) A9 (l'.map (pcD blS xsS P.sh))) : ∀ (i : Nat) Q l9, (pre ++ { Q0 with items := A9, n := n9 } :: post)[i]? = some Q → (st.pl.set (P.kd b) l')[i]? = some l9 → DatAll (tn ++ tl) Q.items (l9.map (pcD blS xsS P.sh)) := by
  intro i Q l9 h1 h2
  have mono : ∀ {vs ds}, DatAll tl vs ds → DatAll (tn ++ tl) vs ds := fun h => DatAll.mono (fun p hp => List.mem_append.mpr (.inr hp)) h
  rcases Nat.lt_trichotomy i pre.length with h | h | h
  · rw [List.getElem?_append_left h] at h1
    rw [List.getElem?_set_ne (by omega)] at h2
    exact mono (hit' i Q l9 (by rw [List.getElem?_append_left h]; exact h1) h2)
  · subst h
    rw [List.getElem?_append_right (Nat.le_refl _), Nat.sub_self] at h1
    cases h1
    rw [← hpl, List.getElem?_set_self (by rw [hlen]; simp)] at h2
    cases h2
    exact hA9
  · have e : ∀ Q9 : Pile, (pre ++ Q9 :: post)[i]? = post[i - pre.length - 1]? := fun Q9 => by
      rw [List.getElem?_append_right (by omega), List.getElem?_cons, if_neg (by omega)]
    rw [e] at h1
    rw [List.getElem?_set_ne (by omega)] at h2
    exact mono (hit' i Q l9 (by rw [e]; exact h1) h2)
theorem wj_next (news : List (Addr × Obj)) (hP : P.Ok) (hb : b < n) (F' : Fr h₀ L h' m') (N' : News h₀ L h' all) (hT9 : Tabs RR Rr) (hRr : Rr = (I, it) :: (flat pre ++ (flat post ++ (tl ++ nB)))) (hRR : ∀ x ∈ RR, x ∈ all) (hit9 : it = itR x0 left)
   (m1 : (Q0.p, accO Q0.dx A9 n9) ∈ all) (m2 : (Q0.dx, iniD Q0.hh Q0.t0 (.int Q0.k Q0.tk) Q0.e0) ∈ all) (m3 : (gl', listOf (gv ++ B').toArray ep) ∈ all) (htn : ∀ x ∈ tn, x ∈ all) (htn2 : ∀ x ∈ tn, x.2.cls = .type "tuple")
   (hA9 : DatAll (tn ++ tl) A9 ((kp P.sh (P.sh b) l ++ [b]).map (pcD blS xsS P.sh))) (hB' : DatAll tl B' ((ot P.sh (P.sh b) l).map (pcD blS xsS P.sh))) (hgv : DatAll tl gv (st.gone.map (pcD blS xsS P.sh)))
   (hrefs : (pre ++ Q0 :: post).map (fun Q => Value.ref Q.p) = refs) (htl : ∀ x ∈ tl, x.2.cls = .type "tuple") (hlen : st.pl.length = (pre ++ Q0 :: post).length) (hit' : ∀ (i : Nat) Q l, (pre ++ Q0 :: post)[i]? = some Q → st.pl[i]? = some l → DatAll tl Q.items (l.map (pcD blS xsS P.sh)))
   (hks : (pre ++ Q0 :: post).map (·.k) = (List.range P.kinds.toNat).map Int.ofNat) (hpw' : (pre ++ Q0 :: post).Pairwise (fun Q Q' => Q.p ≠ Q'.p)) (hnBQ : ∀ Q ∈ pre ++ Q0 :: post, ∀ x ∈ nB, x.1 ≠ Q.p) (hnI : ∀ x ∈ nB, x.1 ≠ I)
   (hw : walkP P.sh P.kd (n - b) b st = some res) (hne : ∀ p, (kp P.sh (P.sh b) l).getLast? = some p → P.sh p ≠ P.sh b) (hso : ∀ l ∈ st.pl, l.Pairwise (fun p q => P.sh p ≤ P.sh q)) (hll : ∀ l ∈ st.pl, l.length ≤ b) (hlb : ∀ l ∈ st.pl, ∀ p ∈ l, p < b) (hgl : st.gone.length ≤ 20 * b) (hb18 : b < 18)
   (hpl : pre.length = P.kd b) (hl : st.pl[P.kd b]? = some l)
   (e1 : m' "spot" = some (.int (P.f (b + 1)) sp)) (e2 : m' "gone" = some (.ref gl')) (e3 : m' "piles" = some (.ref plA)) (e4 : m' "size" = some vz) (e5 : m' "kinds" = some vk) (e6 : m' "terms" = some vt) :
   TurnEnd h₀ L s₁ I it (fun m' n' => WJ P blS xsS plA refs nB n res vz vk vt (b + 1) m' n') Q .next { s₁ with heap := h', toks := tk } := by
  have hlm : l ∈ st.pl := List.mem_of_getElem? hl
  have hgd : st.pl.getD (P.kd b) [] = l := by rw [List.getD_eq_getElem?_getD, hl]; rfl
  obtain ⟨RT, hRT, hsub⟩ := wj_out (Q' := { Q0 with items := A9, n := n9 }) (g := (gl', listOf (gv ++ B').toArray ep)) hT9 hRr (fun x hx => by
    rcases List.mem_cons.mp hx with rfl | hx
    · exact m1
    · rw [List.mem_singleton.mp hx]; exact m2) m3 htn hRR
  have htt : ∀ x ∈ tn ++ tl, x.2.cls = .type "tuple" := fun x hx => (List.mem_append.mp hx).elim (htn2 x) (htl x)
  have hset : ∀ l9 ∈ st.pl.set (P.kd b) (kp P.sh (P.sh b) l ++ [b]), l9 = kp P.sh (P.sh b) l ++ [b] ∨ l9 ∈ st.pl := fun l9 h => (List.mem_or_eq_of_mem_set h).symm
  have hkpl : (kp P.sh (P.sh b) l).length ≤ b := Nat.le_trans kp_sub.length_le (hll l hlm)
  have hotl : (ot P.sh (P.sh b) l).length ≤ b := Nat.le_trans ot_sub.length_le (hll l hlm)
  refine turnEnd_next _ F' N' hsub (wj_off N' (hit9 ▸ hsub _ (.head _)) rfl (fun x hx => hsub x (.tail _ hx)) rfl htt hRT hnI) ⟨⟨_, ⟨st.gone ++ ot P.sh (P.sh b) l, st.pl.set (P.kd b) (kp P.sh (P.sh b) l ++ [b])⟩, gl', gv ++ B', ep, tn ++ tl, RT, sp, rfl, hRT, ?_, htt, ?_, ?_, ?_, ?_, ?_, ?_, ?_, ?_, ?_, ?_, ?_, e1, e2⟩, e3, e4, e5, e6⟩
  · rw [← hrefs]; simp
  · rw [List.map_append]
    exact DatAll.append (DatAll.mono (fun p hp => List.mem_append.mpr (.inr hp)) hgv) (DatAll.mono (fun p hp => List.mem_append.mpr (.inr hp)) hB')
  · rw [List.length_set, hlen]; simp
  · exact wj_piles hP hb hit' hlen hpl hl hA9
  · rw [← hks]; simp
  · rw [List.pairwise_append, List.pairwise_cons] at hpw' ⊢
    refine ⟨hpw'.1, ⟨fun a ha => hpw'.2.1.1 a ha, hpw'.2.1.2⟩, fun a ha c hc => ?_⟩
    rcases List.mem_cons.mp hc with rfl | hc
    · exact hpw'.2.2 a ha Q0 (.head _)
    · exact hpw'.2.2 a ha c (.tail _ hc)
  · intro Q hQ
    rcases List.mem_append.mp hQ with h | h
    · exact hnBQ Q (List.mem_append.mpr (.inl h))
    rcases List.mem_cons.mp h with rfl | h
    · exact hnBQ Q0 (List.mem_append.mpr (.inr (.head _)))
    · exact hnBQ Q (List.mem_append.mpr (.inr (.tail _ h)))
  · rw [show n - b = (n - (b + 1)) + 1 from by omega, walkP_next (by rw [hgd]; exact hne), hgd] at hw
    exact hw
  · intro l9 h9
    rcases hset l9 h9 with rfl | h9
    · refine List.pairwise_append.mpr ⟨(hso l hlm).sublist kp_sub, List.pairwise_singleton _ _, fun a ha c hc => ?_⟩
      rw [List.mem_singleton.mp hc]; exact kp_le a ha
    · exact hso l9 h9
  · intro l9 h9
    rcases hset l9 h9 with rfl | h9
    · rw [List.length_append, List.length_singleton]; omega
    · exact Nat.le_succ_of_le (hll l9 h9)
  · intro l9 h9 p hp
    rcases hset l9 h9 with rfl | h9
    · rcases List.mem_append.mp hp with hp | hp
      · exact Nat.lt_succ_of_lt (hlb l hlm p (kp_sub.subset hp))
      · rw [List.mem_singleton.mp hp]; exact Nat.lt_succ_self _
    · exact Nat.lt_succ_of_lt (hlb l9 h9 p hp)
  · show (st.gone ++ ot P.sh (P.sh b) l).length ≤ 20 * (b + 1)
    rw [List.length_append]; omega
/-- what _law_walked leaves in the ledger, behind the tuple that it hands back -/
structure WOut (P : LawP) (res : Nat × Nat × WS) (news : List (Addr × Obj)) (plA gl : Addr) (rest : List (Addr × Obj)) : Prop where
  ex : ∃ (PL : List Pile) (gv : List Value) (ep : Nat) (tl RT : List (Addr × Obj)), rest = (plA, LCg.lst (PL.map fun Q => Value.ref Q.p)) :: (gl, listOf gv.toArray ep) :: (flat PL ++ (tl ++ RT)) ∧ Tabs RT news ∧ (∀ x ∈ tl, x.2.cls = .type "tuple") ∧
    DatAll tl gv (res.2.2.gone.map (pcD blS xsS P.sh)) ∧ res.2.2.pl.length = PL.length ∧ (∀ (i : Nat) Q l, PL[i]? = some Q → res.2.2.pl[i]? = some l → DatAll tl Q.items (l.map (pcD blS xsS P.sh))) ∧
    PL.map (·.k) = (List.range P.kinds.toNat).map Int.ofNat ∧ PL.Pairwise (fun Q Q' => Q.p ≠ Q'.p) ∧ (∀ l ∈ res.2.2.pl, l.length ≤ 20) ∧ res.2.2.gone.length ≤ 400 ∧ (∀ l ∈ res.2.2.pl, ∀ p ∈ l, p < 20)
theorem init_sub {a b c d : Addr × Obj} {F u1 u2 u3 news : List (Addr × Obj)} : ∀ x ∈ b :: (F ++ ([] ++ (u1 ++ (u2 ++ (u3 ++ (c :: d :: news)))))), x ∈ a :: b :: c :: d :: (F ++ (u1 ++ (u2 ++ (u3 ++ news)))) := by
  intro x hx
  simp only [List.mem_cons, List.mem_append, List.not_mem_nil, false_or] at hx ⊢
  rcases hx with h | h | h | h | h | h | h | h
  · exact .inr (.inl h)
  · exact .inr (.inr (.inr (.inr (.inl h))))
  · exact .inr (.inr (.inr (.inr (.inr (.inl h)))))
  · exact .inr (.inr (.inr (.inr (.inr (.inr (.inl h))))))
  · exact .inr (.inr (.inr (.inr (.inr (.inr (.inr (.inl h)))))))
  · exact .inr (.inr (.inl h))
  · exact .inr (.inr (.inr (.inl h)))
  · exact .inr (.inr (.inr (.inr (.inr (.inr (.inr (.inr h)))))))
theorem flat_apart {h₀ h : Heap} {L a : Addr} {o : Obj} {R : List (Addr × Obj)} {PL : List Pile} {Q : Pile} (N : News h₀ L h R) (hx : (a, o) ∈ R) (hc : o.cls ≠ .ref 101) (hs : ∀ x ∈ flat PL, x ∈ R) (hQ : Q ∈ PL) : a ≠ Q.p := fun e => by
  subst e
  have := news_same N hx (hs _ (mem_flat.mpr ⟨Q, hQ, .inl rfl⟩))
  subst this
  exact hc rfl
theorem tabs_shrink {RT nB news : List (Addr × Obj)} (T : Tabs RT nB) (hs : ∀ x ∈ news, x ∈ nB) : ∃ RT', Tabs RT' news ∧ ∀ x ∈ RT', x ∈ RT := by
  refine hide9 fun C9 k9 => ?_
  obtain ⟨u1, u2, u3, rfl, h1, h2, h3⟩ := T.ex
  refine k9 ?_
  clear k9
  refine ⟨u1 ++ (u2 ++ (u3 ++ news)), ⟨_, _, _, rfl, h1, h2, h3⟩, fun x hx => ?_⟩
  simp only [List.mem_append] at hx ⊢
  rcases hx with h | h | h | h
  · exact .inl h
  · exact .inr (.inl h)
  · exact .inr (.inr (.inl h))
  · exact .inr (.inr (.inr (hs x h)))
theorem wj_ret {news : List (Addr × Obj)} {T : Addr × Obj} {p0 : Nat} (hP : P.Ok) (hb : b < n) (N' : News h₀ L h' all) (hT9 : Tabs RR Rr) (hRr : Rr = (I, it) :: (flat pre ++ (flat post ++ (tl ++ nB)))) (hRR : ∀ x ∈ RR, x ∈ all) (hnews : ∀ x ∈ news, x ∈ nB)
   (m1 : (Q0.p, accO Q0.dx A9 n9) ∈ all) (m2 : (Q0.dx, iniD Q0.hh Q0.t0 (.int Q0.k Q0.tk) Q0.e0) ∈ all) (m3 : (gl', listOf (gv ++ B').toArray ep) ∈ all) (m4 : T ∈ all) (m5 : (plA, LCg.lst refs) ∈ all) (htn : ∀ x ∈ tn, x ∈ all) (htn2 : ∀ x ∈ tn, x.2.cls = .type "tuple")
   (hA9 : DatAll (tn ++ tl) A9 ((kp P.sh (P.sh b) l).map (pcD blS xsS P.sh))) (hB' : DatAll tl B' ((ot P.sh (P.sh b) l).map (pcD blS xsS P.sh))) (hgv : DatAll tl gv (st.gone.map (pcD blS xsS P.sh)))
   (hrefs : (pre ++ Q0 :: post).map (fun Q => Value.ref Q.p) = refs) (htl : ∀ x ∈ tl, x.2.cls = .type "tuple") (hlen : st.pl.length = (pre ++ Q0 :: post).length) (hit' : ∀ (i : Nat) Q l, (pre ++ Q0 :: post)[i]? = some Q → st.pl[i]? = some l → DatAll tl Q.items (l.map (pcD blS xsS P.sh)))
   (hks : (pre ++ Q0 :: post).map (·.k) = (List.range P.kinds.toNat).map Int.ofNat) (hpw' : (pre ++ Q0 :: post).Pairwise (fun Q Q' => Q.p ≠ Q'.p))
   (hw : walkP P.sh P.kd (n - b) b st = some res) (hne : (kp P.sh (P.sh b) l).getLast? = some p0) (he : P.sh p0 = P.sh b) (hll : ∀ l ∈ st.pl, l.length ≤ b) (hlb : ∀ l ∈ st.pl, ∀ p ∈ l, p < b) (hgl : st.gone.length ≤ 20 * b) (hb18 : b < 18)
   (hpl : pre.length = P.kd b) (hl : st.pl[P.kd b]? = some l) :
   res.1 = b ∧ res.2.1 = b - p0 ∧ ∃ rest, WOut P res news plA gl' rest ∧ News h₀ L h' (T :: rest) := by
  have hlm : l ∈ st.pl := List.mem_of_getElem? hl
  have hgd : st.pl.getD (P.kd b) [] = l := by rw [List.getD_eq_getElem?_getD, hl]; rfl
  rw [show n - b = (n - (b + 1)) + 1 from by omega, walkP_ret (by rw [hgd]; exact hne) he, hgd] at hw
  obtain rfl := Option.some.inj hw
  obtain ⟨RT, hRT, hsub⟩ := wj_out (Q' := { Q0 with items := A9, n := n9 }) (g := (gl', listOf (gv ++ B').toArray ep)) hT9 hRr (fun x hx => by
    rcases List.mem_cons.mp hx with rfl | hx
    · exact m1
    · rw [List.mem_singleton.mp hx]; exact m2) m3 htn hRR
  obtain ⟨RT', hRT', hss⟩ := tabs_shrink hRT hnews
  have htt : ∀ x ∈ tn ++ tl, x.2.cls = .type "tuple" := fun x hx => (List.mem_append.mp hx).elim (htn2 x) (htl x)
  have hset : ∀ l9 ∈ st.pl.set (P.kd b) (kp P.sh (P.sh b) l), l9 = kp P.sh (P.sh b) l ∨ l9 ∈ st.pl := fun l9 h => (List.mem_or_eq_of_mem_set h).symm
  have hkpl : (kp P.sh (P.sh b) l).length ≤ b := Nat.le_trans kp_sub.length_le (hll l hlm)
  have hotl : (ot P.sh (P.sh b) l).length ≤ b := Nat.le_trans ot_sub.length_le (hll l hlm)
  refine ⟨rfl, rfl, _, ⟨pre ++ { Q0 with items := A9, n := n9 } :: post, gv ++ B', ep, tn ++ tl, RT', rfl, hRT', htt, ?_, ?_, ?_, ?_, ?_, ?_, ?_, ?_⟩, ?_⟩
  · show DatAll _ _ ((st.gone ++ ot P.sh (P.sh b) l).map _)
    rw [List.map_append]
    exact DatAll.append (DatAll.mono (fun p hp => List.mem_append.mpr (.inr hp)) hgv) (DatAll.mono (fun p hp => List.mem_append.mpr (.inr hp)) hB')
  · show (st.pl.set _ _).length = _
    rw [List.length_set, hlen]; simp
  · exact wj_piles hP hb hit' hlen hpl hl hA9
  · rw [← hks]; simp
  · rw [List.pairwise_append, List.pairwise_cons] at hpw' ⊢
    refine ⟨hpw'.1, ⟨fun a ha => hpw'.2.1.1 a ha, hpw'.2.1.2⟩, fun a ha c hc => ?_⟩
    rcases List.mem_cons.mp hc with rfl | hc
    · exact hpw'.2.2 a ha Q0 (.head _)
    · exact hpw'.2.2 a ha c (.tail _ hc)
  · intro l9 h9
    rcases hset l9 h9 with rfl | h9
    · omega
    · have := hll l9 h9; omega
  · show (st.gone ++ ot P.sh (P.sh b) l).length ≤ 400
    rw [List.length_append]; omega
  · intro l9 h9 p hp
    rcases hset l9 h9 with rfl | h9
    · have := hlb l hlm p (kp_sub.subset hp); omega
    · have := hlb l9 h9 p hp; omega
  · refine news_sub N' fun x hx => ?_
    rcases List.mem_cons.mp hx with rfl | hx
    · exact m4
    rcases List.mem_cons.mp hx with rfl | hx
    · have e : (pre ++ { Q0 with items := A9, n := n9 } :: post).map (fun Q => Value.ref Q.p) = refs := by rw [← hrefs]; simp
      rw [e]; exact m5
    rcases List.mem_cons.mp hx with rfl | hx
    · exact m3
    refine hsub x (.tail _ (.tail _ (List.mem_append.mpr ?_)))
    rcases List.mem_append.mp hx with h | hx
    · exact .inl h
    · refine .inr (List.mem_append.mpr ?_)
      rcases List.mem_append.mp hx with h | h
      · exact .inl h
      · exact .inr (hss x h)
end
end Mine
end

section
open PySem PySem.W PySem.Calls PyProof.Rows
set_option maxRecDepth 100000
set_option maxHeartbeats 0
namespace Mine
theorem pc_inv {tl : List (Addr × Obj)} {v : Value} {b : Nat} {sh : Nat → Int} (h : DatIn tl v (pcD blS xsS sh b)) :
    ∃ q n t u, v = Value.ref q ∧ (q, ({ cls := .type "tuple", data := .seq (List.toArray [Value.str (blS b) t, Value.str (xsS (sh b).natAbs) u]) n } : Obj)) ∈ tl := by
  exact inv_strs h
theorem pc_at {ls : List Nat} {tl : List (Addr × Obj)} {Qi : List Value} {i : Nat} {v : Value} {k : Int} {sh : Nat → Int} (hl : DatAll tl Qi (ls.map (pcD blS xsS sh))) (hv : Qi[i]? = some v) (hk : (ls.map sh)[i]? = some k) :
    ∃ (i1 : i < ls.length) (q : Addr) (n : Nat) (t u : Tok), v = Value.ref q ∧ k = sh ls[i] ∧ (q, ({ cls := .type "tuple", data := .seq (List.toArray [Value.str (blS ls[i]) t, Value.str (xsS (sh ls[i]).natAbs) u]) n } : Obj)) ∈ tl := by
  rw [List.getElem?_map] at hk
  obtain ⟨p1, e1, rfl⟩ := Option.map_eq_some_iff.mp hk
  obtain ⟨i1, rfl⟩ := List.getElem?_eq_some_iff.mp e1
  obtain ⟨v', hv', hD⟩ := hl.get (k := i) (by rw [List.length_map]; exact i1)
  rw [hv] at hv'
  cases hv'
  rw [List.getElem_map] at hD
  refine hide9 fun C9 k9 => ?_
  obtain ⟨q, n, t, u, e, h⟩ := pc_inv hD
  refine k9 ?_
  clear k9
  exact ⟨i1, q, n, t, u, e, rfl, h⟩
theorem pc_last {tl : List (Addr × Obj)} {A : List Value} {C : List Dat} {p : Nat} {sh : Nat → Int} (h : DatAll tl A (C ++ List.map (pcD blS xsS sh) [p])) :
    ∃ A' q n t u, A = A' ++ [Value.ref q] ∧ A'.length = C.length ∧ DatAll tl A' C ∧ (q, ({ cls := .type "tuple", data := .seq (List.toArray [Value.str (blS p) t, Value.str (xsS (sh p).natAbs) u]) n } : Obj)) ∈ tl := by
  refine hide9 fun C9 k9 => ?_
  obtain ⟨A', X, rfl, hA', hDA', hDX⟩ := datAll_cut h
  obtain ⟨v, r, e1, hD9, hDn⟩ := inv_cons hDX
  obtain ⟨q, n, t, u, e2, hq⟩ := pc_inv hD9
  refine k9 ?_
  clear k9
  exact ⟨A', q, n, t, u, by rw [e1, e2, inv_nil hDn], hA', hDA', hq⟩
theorem side_mono {M : Model} {A : Around} {t : Sem Value} {Q : Value → Shared → Prop} {E : Value → Shared → Prop} {s₁ : Shared} (P : Int → Prop) (h : wpAny M A t (fun v s' => ∃ sd u tk', v = .int sd u ∧ P sd ∧ s' = { s₁ with toks := tk' }) E s₁) (k : ∀ sd u tk', P sd → Q (.int sd u) { s₁ with toks := tk' }) : wpAny M A t Q E s₁ :=
  wpAny_mono h (fun v s' ⟨sd, u, tk', e1, hP, e2⟩ => by subst e1; subst e2; exact k sd u tk' hP) fun _ _ e => e
section
local macro_rules | `(tactic| walk_at "pyIter ref") => `(tactic| (k_here; refine stop_of ?_))

theorem c_walked (w : World) (loose mean mg mb) (dp un : Nat) (gd cn nms mr a ccd cl outer A₀ base h₀ L m news s) (RR : List (Addr × Obj)) (P : LawP) (hP : P.Ok) (tz tkk ts : Tok) (tA : Addr) (tv0 tv1 tv2 : Tok) (ep0 : Nat)
   (H : At w loose mean mg mb dp un A₀ base h₀ outer L m RR s) (hT : Tabs RR news) (hterms : (tA, listOf #[.int P.t0 tv0, .int P.t1 tv1, .int P.t2 tv2] ep0) ∈ news) 
   (hP1 : CodeHd base 125 121) (hP2 : CodeHd base 132 128) (hP3 : CodeHd base 165 163) (hdp : dp + 300 < recursionLimit) (hun : un + 1700 < cLine) (hpr1 : ∀ x ∈ news, x.1 ≠ 121) (hpr2 : ∀ x ∈ news, x.1 ≠ 128) (hpr3 : ∀ x ∈ news, x.1 ≠ 163) (Q E : Value → Shared → Prop)
   (res : Nat × Nat × WS) (hres : walkP P.sh P.kd (2 * (if P.size < 0 then -P.size else P.size)).toNat 0 ⟨[], List.replicate P.kinds.toNat []⟩ = some res) (hret : ∀ T plA gl rest h' tk' t1 t2, WOut P res news plA gl rest → Fr h₀ L h' m → News h₀ L h' ((T, tupO [.int res.1 t1, .int res.2.1 t2, .ref plA, .ref gl]) :: rest) → Q (.ref T) { s with heap := h', toks := tk' }) :
   wpAny (model PG w) (topA dp un gd cn nms mr L a ccd cl outer) (call (.ref 166) [.int P.size tz, .int P.kinds tkk, .ref tA, .int (P.f 0) ts]) Q E s := by
  k_with_none
  (k_with "all here" => first | assumption | ((with_reducible refine List.forall_mem_cons.mpr ⟨?_, ?_⟩); k_ne; k_all) | ((repeat (cases ‹_ ∧ _›)); first | assumption | walk_at "all tail" | walk_at "all raw"))
  (k_with "execs cons" => (k_here; (fail_if_success k_gentoks); (fail_if_success k_made); (with_reducible refine wpAny_execs_cons ?_); k_fold; (try dsimp only)))
  (k_with "eval Name" => (k_here; (fail_if_success (with_reducible show wpAny _ _ (eval _ (compEnvC _ _ _ _)) _ _ _)); k_dflt (refine' nameX_C ?Nkq ?ckq ?mkq ?dkq ?_ ?akq ?bkq; (case akq => exact Eq.refl _); (case bkq => exact Eq.refl (some _)); (case Nkq => k_asm); (case ckq => exact Eq.refl (some _)); (case mkq => k_mem); (case dkq => k_asm); k_whole)))
  (k_with "eval Name" => (k_here; (fail_if_success (with_reducible show wpAny _ _ (eval _ (compEnvC _ _ _ _)) _ _ _)); k_dflt (refine' nameX_L ?Fkq ?vkq ?_ ?akq ?bkq; (case Fkq => k_asm); (case akq => exact Eq.refl _); (case bkq => exact Eq.refl (some _)); (case vkq => exact Eq.refl (some _)); k_whole)))
  (k_with "callWith ref" => (k_here; (with_reducible show wpAny _ _ (callWith _ (Value.ref (OfNat.ofNat _)) _ _ _) _ _ _); k_dflt (refine' callWith_KW ?k1q ?k2q ?k3q ?_; (case k1q => k_asm); (case k2q => k_is); (case k3q => exact rfl); k_whole)))
  (k_with "callWith ref" => (k_here; (with_reducible show wpAny _ _ (callWith _ (Value.ref (OfNat.ofNat _)) _ _ _) _ _ _); k_dflt (refine' callWith_K0 ?k1q ?k2q ?_; (case k1q => first | with_reducible assumption | exact Frag.In.keeps (by with_reducible assumption) (Fr.keep (by with_reducible assumption)) | k_in); (case k2q => k_is); k_whole)))
  (k_with "callWith ref" => (k_here; (with_reducible show wpAny _ _ (callWith _ (Value.ref (OfNat.ofNat _)) _ _ _) _ _ _); k_dflt (refine' callWith_K ?k1q ?k2q ?_; (case k1q => k_asm); (case k2q => k_is); k_whole)))
  (k_with "all raw" => ((with_reducible rename ∀ p, p ∈ _ → @LT.lt Nat _ (Prod.fst p) _ => h9zq); first | exact rawLt_ne h9zq (by (fail_if_success (fail_if_success (omega (config := {})))); lia) | (clear h9zq; walk_at "all raw")))
  (k_with "all tail" => ((with_reducible rename AllLt _ _ => h9zq); first | exact allLt_ne h9zq (by (fail_if_success (fail_if_success (omega (config := {})))); lia) | (clear h9zq; walk_at "all tail")))
  (k_with "CompSrc" => (k_here; refine stop_of ?_))
  (k_with "eval IfExp" => (k_here; refine stop_of ?_))
  (k_with "call ref" => (k_here; (with_reducible show wpAny _ _ (call (Value.ref 101) _ _) _ _ _); k_dflt (refine' c_make (H := ⟨?b_Bk154q, ?b_Fk154q, ?b_Xk154q, ?b_Nk154q, ?b_Tk154q, ?b_hdk154q, ?b_huk154q⟩)  (hret := ?_) (gd := _) (cn := _) (nms := _) (mr := _) (a := _) (ccd := _) (cl := _) (k := _) (tk0 := _) (E := _); (case b_Bk154q => k_asm); (case b_Fk154q => k_asm); (case b_Xk154q => k_asm); (case b_Nk154q => k_asm); (case b_Tk154q => k_asm); (case b_hdk154q => ktr_room); (case b_huk154q => ktr_units);  k_whole); intro _ _ _ _ _ _ _ _ _ _ _ _))
  (k_with "acc find" => first | exact am_append _ | exact am_push _ | exact am_popfrom _ | exact am_pop _ | exact am_pc _)
  (k_with "getMethod ref" => (k_here; k_dflt (refine' acc_methodN ?Fk156q ?Xk156q ?Ik156q ?fk156q ?sk156q ?_; (case Fk156q => k_asm); (case Xk156q => k_asm); (case Ik156q => k_inst); (case fk156q => walk_at "acc find"); (case sk156q => k_get); k_whole)))
  (k_with "ends" => first | exact Ends.here | (refine' Ends.cons ?hhk157q; (case hhk157q => walk_at "ends")))
  (k_with "pre ok" => first | exact trivial | (refine' And.intro ?ak158q ?bk158q; (case ak158q => first | exact .inl (fun h => by cases h) | exact .inr (by assumption)); (case bk158q => walk_at "pre ok")))
  (k_with "sub tail" => (intro _ hxzq; (repeat (refine List.mem_cons_of_mem _ ?_)); exact hxzq))
  (k_with "pn acc" => first | assumption | (refine' pn_cons ?Nk160q ?hpk160q ?hxk160q ?hck160q ?hk160q; (case Nk160q => k_asm); (case hpk160q => k_mem); (case hxk160q => k_mem); (case hck160q => exact fun h => by cases h); (case hk160q => walk_at "pn acc")) | (refine' List.forall_mem_cons.mpr ⟨?ak160q, ?bk160q⟩; (case ak160q => assumption); (case bk160q => walk_at "pn acc")) | exact Tabs.apart (by assumption) (by k_asm) (by k_mem) (by walk_at "sub tail") (fun vs h => by cases h) (by assumption))
  (k_with "N lift" => first | k_asm | exact news_l1 (by assumption) | exact news_l2 (by assumption) | exact news_l3 (by assumption) | exact news_l4 (by assumption) | exact news_l5 (by assumption))
  (k_with "idm le" => first | assumption | omega)
  (k_with "le9" => first | assumption | omega | (simp only [List.length_append, List.length_nil, List.length_cons, Int.natCast_add]; omega))
  (k_with "call builtin:len" => (k_here; refine stop_of ?_))
  (k_with "call builtin:len" => (k_here; (with_reducible show wpAny _ _ (call (Value.builtin "len") [Value.str _ _]) _ _ _); (refine len_s (by first | exact xsS_len _ | exact blS_len _) (by omega) ?_); intro _ _))
  (k_with "binaryOp Mult str int" => (k_here; refine stop_of ?_))
  (k_with "binaryOp Mult str int" => (k_here; first | (refine mul_bl (by omega) (by omega) ?_) | (refine mul_xs (by omega) (by omega) ?_); intro _ _))
  (k_with "binaryOp Mult int int" => (k_here; first | ((refine mul_s (by omega) (by omega) ?_); intro r9zq t9zq k9zq hr9zq ha9zq hb9zq) | ((refine mul_m (by omega) (by omega) ?_); intro r9zq t9zq k9zq hr9zq ha9zq hb9zq)))
  (k_with "binaryOp Mult int int" => (k_here; (with_reducible show wpAny _ _ (binaryOp _ (Value.int 2 _) (Value.int _ _)) _ _ _); refine mul_int ?_ (IntMulOk.of_left (intBits_le_64 (by omega) (by omega)))))
  (k_with "binaryOp Add ref ref" => (k_here; k_dflt (refine' addN ?Fk170q ?Nk170q ?ak170q ?bk170q ?ck170q ?dk170q ?_; (case Fk170q => k_asm); (case Nk170q => k_asm); (case ak170q => k_mem); (case bk170q => k_mem); (case ck170q => walk_at "le9"); (case dk170q => walk_at "le9"); k_whole); intro _ _ _ _))
  (k_with "call builtin:abs" => (k_here; (fail_if_success (with_reducible show wpAny _ _ (call _ [Value.int (LawP.size _) _] _) _ _ _)); (refine abs_i ?_); intro _ _))
  (k_with "mem9" => (repeat (first | exact List.Mem.head _ | refine List.Mem.tail _ ?_)))
  (k_with "call ref" => (k_here; (with_reducible show wpAny _ _ (call (Value.ref 147) _ _) _ _ _); refine stop_of ?_))
  (k_with "call ref" => (k_here; (with_reducible show wpAny _ _ (call (Value.ref 98) _ _) _ _ _); refine stop_of ?_))
  (k_with "call ref" => (k_here; (with_reducible show wpAny _ _ (call (Value.ref 53) _ _) _ _ _); refine stop_of ?_))
  (k_with "call ref" => (k_here; (with_reducible show wpAny _ _ (call (Value.ref 61) _ _) _ _ _); refine stop_of ?_))
  (k_with "call ref" => (k_here; (with_reducible show wpAny _ _ (call (Value.ref 45) _ _) _ _ _); refine stop_of ?_))
  (k_with "call ref" => (k_here; (with_reducible show wpAny _ _ (call (Value.ref 147) _ _) _ _ _); k_dflt (refine' c_idmT (H := ⟨?b_Bk178q, ?b_Fk178q, ?b_Xk178q, ?b_Nk178q, ?b_Tk178q, ?b_hdk178q, ?b_huk178q⟩) (hT := ?h_hTk178q) (hE := ?h_hEk178q) (hx := ?h_hxk178q) (hx2 := ?h_hx2k178q) (hy := ?h_hyk178q) (hy2 := ?h_hy2k178q) (hy0 := ?h_hy0k178q) (hP1 := ?h_hP1k178q) (hP2 := ?h_hP2k178q) (hdp := ?h_hdpk178q) (hun := ?h_hunk178q) (hpre := ?h_hprek178q) (hpr := ?h_hprk178q) (hret := ?_) (gd := _) (cn := _) (nms := _) (mr := _) (a := _) (ccd := _) (cl := _) (tx := _) (ty := _) (E := _); (case b_Bk178q => k_asm); (case b_Fk178q => k_asm); (case b_Xk178q => k_asm); (case b_Nk178q => k_asm); (case b_Tk178q => k_asm); (case b_hdk178q => ktr_room); (case b_huk178q => ktr_units); (case h_hTk178q => assumption); (case h_hEk178q => walk_at "ends"); (case h_hxk178q => walk_at "idm le"); (case h_hx2k178q => walk_at "idm le"); (case h_hyk178q => walk_at "idm le"); (case h_hy2k178q => walk_at "idm le"); (case h_hy0k178q => walk_at "idm le"); (case h_hP1k178q => assumption); (case h_hP2k178q => assumption); (case h_hdpk178q => ktr_room); (case h_hunk178q => ktr_units); (case h_hprek178q => walk_at "pre ok"); (case h_hprk178q => assumption); k_whole); intro _ _ _ _ _ _ _ _ _ _ Nzq _ _ _; (try simp only [List.cons_append, List.nil_append] at Nzq)))
  (k_with "call ref" => (k_here; (with_reducible show wpAny _ _ (call (Value.ref 98) _ _) _ _ _); k_dflt (refine' c_pc (H := ⟨?b_Bk179q, ?b_Fk179q, ?b_Xk179q, ?b_Nk179q, ?b_Tk179q, ?b_hdk179q, ?b_huk179q⟩) (hpd := ?h_hpdk179q) (hpn := ?h_hpnk179q) (hlen := ?h_hlenk179q) (hret := ?_) (gd := _) (cn := _) (nms := _) (mr := _) (a := _) (ccd := _) (cl := _) (E := _); (case b_Bk179q => k_asm); (case b_Fk179q => k_asm); (case b_Xk179q => k_asm); (case b_Nk179q => walk_at "N lift"); (case b_Tk179q => k_asm); (case b_hdk179q => ktr_room); (case b_huk179q => ktr_units); (case h_hpdk179q => assumption); (case h_hpnk179q => walk_at "pn acc"); (case h_hlenk179q => assumption); k_whole); intro _ _ _ _ _))
  (k_with "call ref" => (k_here; (with_reducible show wpAny _ _ (call (Value.ref 53) _ _) _ _ _); k_dflt (refine' c_popfrom (H := ⟨?b_Bk180q, ?b_Fk180q, ?b_Xk180q, ?b_Nk180q, ?b_Tk180q, ?b_hdk180q, ?b_huk180q⟩) (hpd := ?h_hpdk180q) (hpn := ?h_hpnk180q) (hlen := ?h_hlenk180q) (h0 := ?h_h0k180q) (hi := ?h_hik180q) (hret := ?_) (gd := _) (cn := _) (nms := _) (mr := _) (a := _) (ccd := _) (cl := _) (ti := _) (E := _); (case b_Bk180q => k_asm); (case b_Fk180q => k_asm); (case b_Xk180q => k_asm); (case b_Nk180q => walk_at "N lift"); (case b_Tk180q => k_asm); (case b_hdk180q => ktr_room); (case b_huk180q => ktr_units); (case h_hpdk180q => assumption); (case h_hpnk180q => walk_at "pn acc"); (case h_hlenk180q => walk_at "le9"); (case h_h0k180q => walk_at "le9"); (case h_hik180q => walk_at "le9"); k_whole); intro _ _ _ _ _ Nzq; (try simp only [Int.toNat_natCast, List.drop_left, List.take_left] at Nzq)))
  (k_with "call ref" => (k_here; (with_reducible show wpAny _ _ (call (Value.ref 61) _ _) _ _ _); k_dflt (refine' c_pop (H := ⟨?b_Bk181q, ?b_Fk181q, ?b_Xk181q, ?b_Nk181q, ?b_Tk181q, ?b_hdk181q, ?b_huk181q⟩) (hpd := ?h_hpdk181q) (hpn := ?h_hpnk181q) (hlen := ?h_hlenk181q) (hret := ?_) (gd := _) (cn := _) (nms := _) (mr := _) (a := _) (ccd := _) (cl := _) (E := _); (case b_Bk181q => k_asm); (case b_Fk181q => k_asm); (case b_Xk181q => k_asm); (case b_Nk181q => walk_at "N lift"); (case b_Tk181q => k_asm); (case b_hdk181q => ktr_room); (case b_huk181q => ktr_units); (case h_hpdk181q => assumption); (case h_hpnk181q => walk_at "pn acc"); (case h_hlenk181q => walk_at "le9"); k_whole); intro _ _ _ _ _))
  (k_with "call ref" => (k_here; (with_reducible show wpAny _ _ (call (Value.ref 45) _ _) _ _ _); k_dflt (refine' c_push (H := ⟨?b_Bk182q, ?b_Fk182q, ?b_Xk182q, ?b_Nk182q, ?b_Tk182q, ?b_hdk182q, ?b_huk182q⟩) (hpd := ?h_hpdk182q) (hpn := ?h_hpnk182q) (hlen := ?h_hlenk182q) (hret := ?_) (gd := _) (cn := _) (nms := _) (mr := _) (a := _) (ccd := _) (cl := _) (x := _) (y := _) (tx := _) (ty := _) (E := _); (case b_Bk182q => k_asm); (case b_Fk182q => k_asm); (case b_Xk182q => k_asm); (case b_Nk182q => walk_at "N lift"); (case b_Tk182q => k_asm); (case b_hdk182q => ktr_room); (case b_huk182q => ktr_units); (case h_hpdk182q => assumption); (case h_hpnk182q => walk_at "pn acc"); (case h_hlenk182q => walk_at "le9"); k_whole); intro _ _ _ _ _ _))
  (k_with "subscriptTail" => (k_here; (with_reducible show wpAny _ _ (subscriptTail _ _ (Value.ref _) (Value.int _ _)) _ _ _); k_dflt (refine' listItem ?Nk183q ?mk183q ?ak183q ?bk183q ?ck183q ?_; (case Nk183q => k_asm); (case mk183q => k_mem); (case ak183q => walk_at "it a"); (case bk183q => walk_at "it b"); (case ck183q => walk_at "it c"))))
  (k_with "subscriptTail Name Name ref int" => (k_here; (with_reducible show wpAny _ _ (subscriptTail _ _ (Value.ref _) (Value.int _ _)) _ _ _); k_dflt (refine' listItem ?Nk184q ?mk184q ?ak184q ?bk184q ?ck184q ?_; (case Nk184q => k_asm); (case mk184q => k_mem); (case ak184q => walk_at "it a"); (case bk184q => walk_at "it b"); (case ck184q => walk_at "it c"))))
  (k_with "subscriptTail Name Constant ref int" => (k_here; (with_reducible show wpAny _ _ (subscriptTail _ _ (Value.ref _) (Value.int _ _)) _ _ _); k_dflt (refine' listItem ?Nk185q ?mk185q ?ak185q ?bk185q ?ck185q ?_; (case Nk185q => k_asm); (case mk185q => k_mem); (case ak185q => walk_at "it a"); (case bk185q => walk_at "it b"); (case ck185q => walk_at "it c"))))
  (k_with "it a" => first | assumption | omega | decide)
  (k_with "it b" => first | assumption | omega | decide)
  (k_with "it c" => first | exact it_kd (by assumption) (by assumption) | exact rfl)
  (k_with "call ref" => (k_here; (with_reducible show wpAny _ _ (call (Value.ref 156) _ _) _ _ _); refine stop_of ?_))
  (k_with "eval Lambda" => (k_here; k_dflt (refine' kla_eval ?d0k190q ?_; (case d0k190q => exact rfl)); k_dflt (refine' lam_tabs ?Ek190q ?Tk190q ?Fk190q ?Nk190q ?Tpk190q ?Ck190q ?cdk190q ?prek190q ?prk190q ?clk190q ?_; (case Fk190q => k_asm); (case Nk190q => k_asm); (case Tk190q => assumption); (case Ek190q => walk_at "ends"); (case Tpk190q => k_asm); (case cdk190q => exact rfl); (case Ck190q => kn_code); (case prek190q => walk_at "pre ok"); (case prk190q => assumption); (case clk190q => exact rfl); k_whole); intro _ _ _ _ _ _ _ _ _ _ _ _ _ _ Nzq s1zq s2zq; (try simp only [List.cons_append, List.nil_append] at Nzq); clear s1zq s2zq))
  refine hide9 fun C9 k9 => ?_
  obtain ⟨B, F, X, N, T, hd, hu⟩ := H
  refine k9 ?_
  clear k9
  have z9 : PySem.Challenge.rw_wo0040_01 = PySem.Challenge.rw_wo0040_01 ∧ Mine.frag.heap_1 = Mine.frag.heap_1 := by
    k_fill
    exact ⟨rfl, rfl⟩
  clear z9
  have hk1 := hP.k1
  have hk2 := hP.k2
  have hz1 : P.size < 10 ∧ -10 < P.size ∧ P.size ≠ 0 := hP.sz
  k_steps
  rename_i g9 L9 hh0 tk0 FG9 F0 B9 X9 T9 lL o9 d19 N0
  unfold Stop
  refine side_mono (fun sd => (0 < P.size ∧ sd = 1) ∨ (¬ 0 < P.size ∧ sd = -1)) (IfExp_ ?_) fun sd u tk' hsd => ?_
  · k_steps
    · exact .inl ⟨by assumption, rfl⟩
    · exact .inr ⟨by assumption, rfl⟩
  k_steps
  unfold Stop
  refine LCg.CompSrc.range (n := P.kinds.toNat) rfl (by assumption) (by assumption) (by assumption) (small_one (by decide) (by decide) (by omega) (by omega)) (by rw [rangeSize_nat, Int.sub_zero]) (Nat.le_trans (show P.kinds.toNat ≤ 3 by omega) (by decide)) ?h
  intro g
  refine comp_inv (MkJ _ _) ?step ?done P.kinds.toNat 0 [] _ (Nat.zero_add _) ⟨⟨[], rfl, rfl, rfl, fun _ h => (nomatch h), .nil, fun _ h => (nomatch h)⟩⟩
  case step =>
    intro i v ys nw I oI C oC D m₂ h tk E' hin hz4z hz5z hC hx Fz Nz off ne
    refine hide9 fun C9 k9 => ?_
    obtain ⟨⟨PL, rfl, rfl, hk, hit, hpw, hbs⟩⟩ := hz4z
    obtain ⟨t, rfl⟩ := hz5z
    refine k9 ?_
    clear k9
    k_steps
    rename Fr _ _ _ _ => F8
    rename News _ _ _ _ => N8
    rename (∀ x : Addr × Obj, x ∈ _ → @LT.lt Nat _ x.1 _) => l2
    rename @LT.lt Nat _ _ _ => l1
    exact cEnd_of _ F8 N8 (mk_sub (P := ⟨_, _, [], _, _, _, _, _, _⟩)) (mk_off (P := ⟨_, _, [], _, _, _, _, _, _⟩) l1 l2 off) trivial (mk_step (P := ⟨_, _, [], _, _, _, _, _, _⟩) (pre := [_, _, _]) hk hit hpw hbs rfl (Int.zero_add _) l1 l2)
  case done =>
    intro ys nw hz6z
    refine hide9 fun C9 k9 => ?_
    obtain ⟨⟨PL, rfl, rfl, hk, hit, hpw, hbs⟩⟩ := hz6z
    refine k9 ?_
    clear k9
    k_steps
    rename_i oC dC qk9 ek9 hc2 tkc t29 u29 v29 a1 a2 D9 hh1 kk1 o19 l9 hh2 l19 TT9 hh3 l29 hh4 hh5 hh6 F8 N8 uu1 tk2 hh7 tk3 t19 u19 v19 hr9 F9 N9 a9
    unfold Stop
    have oCn : ∀ x ∈ news, x.1 ≠ L9 + 1 := fun x hx => Nat.ne_of_lt (Nat.lt_succ_of_lt (lL x (hT.sub x hx)))
    obtain ⟨nB, hnB⟩ : ∃ nB, nB = (D9, LCg.lst (PL.map fun Q => Value.ref Q.p)) :: (L9 + 1, oC) :: news := ⟨_, rfl⟩
    have mP : (D9, LCg.lst (PL.map fun Q => Value.ref Q.p)) ∈ nB := by rw [hnB]; exact .head _
    have mC : (L9 + 1, oC) ∈ nB := by rw [hnB]; exact .tail _ (.head _)
    have mT : (tA, listOf #[.int P.t0 tv0, .int P.t1 tv1, .int P.t2 tv2] ep0) ∈ nB := by rw [hnB]; exact .tail _ (.tail _ hterms)
    refine hide9 fun C9 k9 => ?_
    obtain ⟨u1, u2, u3, hRR, hu1, hu2, hu3⟩ := hT.ex
    refine k9 ?_
    clear k9
    have N9x : News g9 L9 hh7 ((l9, listOf (List.toArray ([] : List Value)) 0) :: (flat PL ++ ([] ++ (u1 ++ (u2 ++ (u3 ++ nB)))))) := by
      have N9 := N9
      rw [hRR] at N9
      rw [hnB]
      exact news_sub N9 init_sub
    have hn121 : ∀ x ∈ nB, x.1 ≠ 121 ∧ x.1 ≠ 128 ∧ x.1 ≠ 163 := by
      rw [hnB]
      intro x hx
      rcases List.mem_cons.mp hx with rfl | hx
      · exact tabs_addr hT N9 (fun x hx => .tail _ (.tail _ (.tail _ (.tail _ (List.mem_append.mpr (.inr hx)))))) (.tail _ (.tail _ (.head _))) (fun h => by cases h)
      rcases List.mem_cons.mp hx with rfl | hx
      · obtain ⟨p1, m1, _⟩ := tab_in hu1
        obtain ⟨p2, m2, _⟩ := tab_in hu2
        obtain ⟨p3, m3, _⟩ := tab_in hu3
        have a1 := lL _ (hRR ▸ List.mem_append.mpr (.inl m1))
        have a2 := lL _ (hRR ▸ List.mem_append.mpr (.inr (List.mem_append.mpr (.inl m2))))
        have a3 := lL _ (hRR ▸ List.mem_append.mpr (.inr (List.mem_append.mpr (.inr (List.mem_append.mpr (.inl m3))))))
        exact ⟨Nat.ne_of_gt (Nat.lt_succ_of_lt a1), Nat.ne_of_gt (Nat.lt_succ_of_lt a2), Nat.ne_of_gt (Nat.lt_succ_of_lt a3)⟩
      · exact ⟨hpr1 x hx, hpr2 x hx, hpr3 x hx⟩
    have hnBQ0 : ∀ Q ∈ PL, ∀ x ∈ nB, x.1 ≠ Q.p := by
      rw [hnB]
      intro Q hQ x hx
      rcases List.mem_cons.mp hx with rfl | hx
      · exact flat_apart N9 (.tail _ (.tail _ (.head _))) (fun h => by cases h) (fun x hx => .tail _ (.tail _ (.tail _ (.tail _ (List.mem_append.mpr (.inl hx)))))) hQ
      rcases List.mem_cons.mp hx with rfl | hx
      · exact hbs Q hQ _ (.head _)
      · exact hbs Q hQ x (.tail _ (hT.sub x hx))
    refine iter_rangeUnr (n := (2 * (if P.size < 0 then -P.size else P.size)).toNat) rfl hr9 (small_one (by decide) (by decide) (by split <;> omega) (by split <;> omega)) (by rw [rangeSize_nat, Int.sub_zero]) F9 N9x fun I hI => ?_
    have hnI : ∀ x ∈ nB, x.1 ≠ I := fun x hx => Nat.ne_of_lt (hI x (.tail _ (List.mem_append.mpr (.inr (List.mem_append.mpr (.inr (List.mem_append.mpr (.inr (List.mem_append.mpr (.inr (List.mem_append.mpr (.inr hx))))))))))))
    refine rangeRest_inv (WJ P blS xsS D9 (PL.map fun Q => Value.ref Q.p) nB (2 * (if P.size < 0 then -P.size else P.size)).toNat res (.int P.size tz) (.int P.kinds tkk) (.ref tA)) ?turn ?fin _ 0 _ _ (Nat.zero_add _) ?init
    case turn =>
      intro b m nw t h tk' it hb hz7z hit9 Fz Nz
      refine hide9 fun C9 k9 => ?_
      obtain ⟨⟨PL', st, gl, gv, ep, tl, RT, sp, rfl, hTb, hrefs, htl, hgv, hlen, hit', hks, hpw', hnBQ, hw, hso, hll, hlb, hgl, msp, mgo⟩, mp, mz, mk, mt⟩ := hz7z
      refine k9 ?_
      clear k9
      have hkd := kd_lt P hP b
      have hsp := sp_bd P hP b
      have ht0 := hP.t0
      have ht1 := hP.t1
      have ht2 := hP.t2
      have hPLn : PL'.length = P.kinds.toNat := by simpa using congrArg List.length hks
      have hkdn : P.kd b < PL'.length := by rw [hPLn]; unfold LawP.kd; exact (Int.toNat_lt_toNat (Int.lt_of_le_of_lt hkd.1 hkd.2)).mpr hkd.2
      obtain ⟨Q9, hQ⟩ : ∃ Q, PL'[P.kd b]? = some Q := ⟨_, List.getElem?_eq_getElem hkdn⟩
      obtain ⟨l, hl⟩ : ∃ l, st.pl[P.kd b]? = some l := ⟨_, List.getElem?_eq_getElem (by omega)⟩
      have hlD := hit' _ _ _ hQ hl
      have hrQ : (PL.map fun Q => Value.ref Q.p)[P.kd b]? = some (.ref Q9.p) := by rw [← hrefs, List.getElem?_map, hQ]; rfl
      refine hide9 fun C9 k9 => ?_
      obtain ⟨pre, post, rfl, hpl⟩ := split_at hQ
      obtain ⟨Qp, Qd, Qi, Qn, Qh, Qt, Qk, Qe, Qkk⟩ := Q9
      refine k9 ?_
      clear k9
      dsimp only at hlD hrQ
      have hlen9 : l.length ≤ b := hll l (List.mem_of_getElem? hl)
      have hb18 : b < 18 := by have := hb; split at this <;> omega
      have hQil : Qi.length = l.length := by rw [hlD.length, List.length_map]
      refine hide9 fun C9 k9 => ?_
      obtain ⟨u1, u2, u3, rfl, hu1, hu2, hu3⟩ := hTb.ex
      refine k9 ?_
      clear k9
      obtain ⟨Rr, hRr⟩ : ∃ Rr, Rr = (I, it) :: (flat pre ++ (flat post ++ (tl ++ nB))) := ⟨_, rfl⟩
      obtain ⟨RR8, hRR8⟩ : ∃ RR8, RR8 = u1 ++ (u2 ++ (u3 ++ Rr)) := ⟨_, rfl⟩
      have hT8 : Tabs RR8 Rr := ⟨_, _, _, hRR8, hu1, hu2, hu3⟩
      have Nz := news_at F9 Nz rfl
      have hits : it.cls = .type "range_iterator" := by rw [hit9]; rfl
      have oRr : ∀ x ∈ Rr, x.1 ≠ Qp := by
        rw [hRr]
        refine rr_apart (Q := ⟨Qp, Qd, Qi, Qn, Qh, Qt, Qk, Qe, Qkk⟩) Nz (.tail _ (.tail _ (List.mem_append.mpr (.inl (mem_flat.mpr ⟨_, List.mem_append.mpr (.inr (.head _)), .inl rfl⟩))))) (.head _) hits (fun x hx => ?_) hpw' htl (hnBQ _ (List.mem_append.mpr (.inr (.head _))))
        simp only [flat, List.flatMap_append, List.flatMap_cons, List.mem_cons, List.mem_append] at hx ⊢
        rcases hx with h | h | h
        · exact .inr (.inr (.inl (.inl h)))
        · exact .inr (.inr (.inl (.inr (.inr h))))
        · exact .inr (.inr (.inr (.inl h)))
      have Nx : News g9 L9 h ((Qp, accO Qd Qi Qn) :: (Qd, iniD Qh Qt (.int Qkk Qk) Qe) :: (gl, listOf gv.toArray ep) :: (D9, LCg.lst (PL.map fun Q => Value.ref Q.p)) :: (tA, listOf #[.int P.t0 tv0, .int P.t1 tv1, .int P.t2 tv2] ep0) :: (L9 + 1, oC) :: RR8) := by
        refine news_sub Nz ?_
        rw [hRR8, hRr]
        exact wj_in (Q := ⟨Qp, Qd, Qi, Qn, Qh, Qt, Qk, Qe, Qkk⟩) rfl rfl mP mT mC
      have oTb : ∀ x ∈ Rr, x.1 ≠ 121 ∧ x.1 ≠ 128 ∧ x.1 ≠ 163 := rr_tabs hT8 Nx (by walk_at "sub tail") hRr hits htl hn121
      have hcQ : (L9 + 1, oC).1 ≠ Qp := hnBQ _ (List.mem_append.mpr (.inr (.head _))) _ mC
      have hcT : (L9 + 1, oC).1 ≠ 121 ∧ (L9 + 1, oC).1 ≠ 128 ∧ (L9 + 1, oC).1 ≠ 163 := hn121 _ mC
      have hpd9 : @Ne Nat Qp Qd := acc_ne_ini Nx (.head _) (.tail _ (.head _))
      have hQlen : Qi.length ≤ 500 := by omega
      have Fz := fr_at F9 (fr_ovr Fz [(Str.ofString "beat", .int (0 + (b : Int)) t), (Str.ofString "spot", .int (P.f b) sp), (Str.ofString "gone", .ref gl), (Str.ofString "piles", .ref D9), (Str.ofString "size", .int P.size tz), (Str.ofString "kinds", .int P.kinds tkk), (Str.ofString "terms", .ref tA)] (by
        intro p hp
        rcases List.mem_cons.mp hp with rfl | hp
        · rfl
        rcases List.mem_cons.mp hp with rfl | hp
        · exact msp
        rcases List.mem_cons.mp hp with rfl | hp
        · exact mgo
        rcases List.mem_cons.mp hp with rfl | hp
        · exact mp
        rcases List.mem_cons.mp hp with rfl | hp
        · exact mz
        rcases List.mem_cons.mp hp with rfl | hp
        · exact mk
        rcases List.mem_cons.mp hp with rfl | hp
        · exact mt
        · cases hp)) rfl
      dsimp only [ovr] at Fz
      clear F9 N9 N9x Nz F8 N8 hTb hT
      k_steps
      unfold Stop
      rename ((_, _) ∈ _) => hm9
      rename Obj.data _ = Data.fields _ => d1
      rename _[1]? = some (Value.str _ _) => d2
      rename Tabs _ _ => hT9
      rename News _ _ _ _ => Nb
      k_dflt (refine' c_bisect (ks := l.map P.sh) (H := ⟨?b_B, ?b_F, ?b_X, ?b_N, ?b_T, ?b_hd, ?b_hu⟩) (hP3 := ?hp3) (hhi := ?hhi) (hkl := ?hkl) (hlen := ?hlen) (hsorted := ?hsorted) (hK := ?hK) (hret := ?_) (gd := _) (cn := _) (nms := _) (mr := _) (a := _) (ccd := _) (cl := _) (tx := _) (tl := _) (th := _) (E := _))
      case b_B => k_asm
      case b_F => k_asm
      case b_X => k_asm
      case b_N => exact Nb
      case b_T => k_asm
      case b_hd => ktr_room
      case b_hu => ktr_units
      case hp3 => assumption
      case hhi => exact rfl
      case hkl => rw [List.length_map]; exact hQil
      case hlen => rw [List.length_map]; omega
      case hsorted =>
        intro i j k k' hij h1 h2
        have hs := hso l (List.mem_of_getElem? hl)
        rw [List.getElem?_map] at h1 h2
        obtain ⟨p1, e1, rfl⟩ := Option.map_eq_some_iff.mp h1
        obtain ⟨p2, e2, rfl⟩ := Option.map_eq_some_iff.mp h2
        obtain ⟨i1, rfl⟩ := List.getElem?_eq_some_iff.mp e1
        obtain ⟨i2, rfl⟩ := List.getElem?_eq_some_iff.mp e2
        exact List.pairwise_iff_getElem.mp hs i j i1 i2 hij
      case hK =>
        unfold KeyP
        intro dp un gd cn nms mr a ccd cl outer A₀ h₀ L m s v i k Q E B F X N T hd hu hv hk hret
        refine hide9 fun C9 k9 => ?_
        obtain ⟨i1, q5, n5, t5, u5, rfl, rfl, hq⟩ := pc_at hlD hv hk
        refine k9 ?_
        clear k9
        have hsh := sh_sd hP hsd (l[i])
        have N2 := key_in (pre := [_, _, _, _, _, _, _, _]) N (hT9.sub _ (by rw [hRr]; exact List.mem_cons_of_mem _ (List.mem_append.mpr (.inr (List.mem_append.mpr (.inr (List.mem_append.mpr (.inl hq)))))))) hm9
        k_steps
        rename _ = sd * _ => hr9
        rename News _ _ _ _ => N3
        rw [hr9, hsh.1]
        exact hret _ _ _ (by assumption) (news_sub N3 fun x hx => .tail _ (.tail _ hx))
      intro r9 t9 h' tk9 F' N' hr0 hr1 hr2 hr3
      have hrk := bi_len hr0 hr1 hr2 hr3
      rename _ = Int.fdiv _ _ => hq9
      have hq9' : _ = P.sh b := hq9
      rw [hq9'] at hrk
      have hshb := (sh_sd hP hsd b).2
      rw [← hq9'] at hshb
      have hKO := kp_ot P.sh (P.sh b) l
      rw [← hKO, List.map_append] at hlD
      refine hide9 fun C9 k9 => ?_
      obtain ⟨A, B', rfl, hA, hDA, hDB⟩ := datAll_cut hlD
      refine k9 ?_
      clear k9
      rw [List.length_map] at hA
      rw [← hA] at hrk
      subst hrk
      rw [List.length_append] at hQil hQlen
      have hAB : A.length ≤ b ∧ B'.length ≤ b := by omega
      have hgv9 : gv.length ≤ 1000 := by have := hgv.length; rw [List.length_map] at this; omega
      clear Nb hr1 hr2 hr3 hr0
      rcases List.eq_nil_or_concat (kp P.sh (P.sh b) l) with hK | ⟨K', p0, hK⟩
      · have hA0 : A = [] := by apply List.eq_nil_of_length_eq_zero; rw [hA, hK]; rfl
        subst hA0
        k_steps
        · rename Fr _ _ _ _ => F8
          rename News _ _ _ _ => N8
          rename Tabs _ _ => hT8
          rename _ = Int.fmod _ _ => hr8
          rename _ = _ * P.f b => hm2
          rename _ = P.t0 * _ => hm1
          have hnx := hr8
          rw [hm2, hm1] at hnx
          have hnx := hnx.trans (hP.nx b).symm
          simp only [Int.zero_add, Int.toNat_natCast, hq9'] at N8
          exact wj_next news (Q0 := ⟨Qp, Qd, _, Qn, Qh, Qt, Qk, Qe, Qkk⟩) (tn := [(_, tupO [.str (blS b) _, .str (xsS (P.sh b).natAbs) _])]) hP hb F8 N8 hT8 hRr (by walk_at "sub tail") hit9
            (by walk_at "mem9") (by walk_at "mem9") (by walk_at "mem9") (fun x hx => by rw [List.mem_singleton.mp hx]; walk_at "mem9") (fun x hx => by rw [List.mem_singleton.mp hx])
            (by rw [hK]; exact .cons (pc_dat (.head _)) .nil) hDB hgv hrefs htl hlen hit' hks hpw' hnBQ hnI hw (by rw [hK]; intro p hp; cases hp) hso hll hlb hgl hb18 hpl hl (by rw [← hnx]; rfl) rfl rfl rfl rfl rfl
      · rw [hK, List.concat_eq_append, List.map_append] at hDA
        refine hide9 fun C9 k9 => ?_
        obtain ⟨A', q5, n5, t5, u5, rfl, hA', hDA', hq0⟩ := pc_last hDA
        refine k9 ?_
        clear k9
        rename News _ _ _ _ => Nb
        have hT99 : Tabs _ Rr := hT9
        have N4 := key_in4 Nb (hT99.sub _ (by rw [hRr]; exact List.mem_cons_of_mem _ (List.mem_append.mpr (.inr (List.mem_append.mpr (.inr (List.mem_append.mpr (.inl hq0)))))))) (by walk_at "sub tail")
        clear Nb
        simp only [List.length_append, List.length_cons, List.length_nil] at hQil hQlen hAB
        have hsh0 := sh_sd hP hsd p0
        have hp0 : p0 < 1000 := by
          have := hlb l (List.mem_of_getElem? hl) p0 (hKO ▸ List.mem_append.mpr (.inl (by rw [hK, List.concat_eq_append]; exact List.mem_append.mpr (.inr (.head _)))))
          omega
        k_steps
        · refine turnEnd_ret ?_
          k_steps
          rename Fr _ _ _ _ => F8
          rename News _ _ _ _ => N8
          rename Tabs _ _ => hT8
          rename _ = sd * _ => hs9
          rename _ = _ => he9
          rw [hs9, hsh0.1, hq9'] at he9
          simp only [Int.zero_add, Int.toNat_natCast, hq9'] at N8
          have hlt := hlb l (List.mem_of_getElem? hl) p0 (hKO ▸ List.mem_append.mpr (.inl (by rw [hK, List.concat_eq_append]; exact List.mem_append.mpr (.inr (.head _)))))
          refine hide9 fun C9 k9 => ?_
          obtain ⟨r1, r2, rest, hW, hN⟩ := wj_ret (news := news) (p0 := p0) (plA := D9) (Q0 := ⟨Qp, Qd, _, Qn, Qh, Qt, Qk, Qe, Qkk⟩) (tn := [(_, tupO [.str (blS p0) _, .str (xsS (P.sh p0).natAbs) _])]) (T := (_, tupO [.int (b : Int) _, .int ((b : Int) - (p0 : Int)) _, .ref D9, .ref _])) hP hb N8 hT8 hRr (by walk_at "sub tail") (fun x hx => by rw [hnB]; exact .tail _ (.tail _ hx))
            (by walk_at "mem9") (by walk_at "mem9") (by walk_at "mem9") (by walk_at "mem9") (by walk_at "mem9") (fun x hx => by rw [List.mem_singleton.mp hx]; walk_at "mem9") (fun x hx => by rw [List.mem_singleton.mp hx])
            (by rw [hK, List.concat_eq_append, List.map_append]; exact DatAll.append (DatAll.mono (fun p hp => List.mem_append.mpr (.inr hp)) hDA') (.cons (pc_dat (.head _)) .nil)) hDB hgv hrefs htl hlen hit' hks hpw' hw
            (by rw [hK, List.concat_eq_append, List.getLast?_append]; rfl) he9 hll hlb hgl hb18 hpl hl
          refine k9 ?_
          clear k9
          have e1 : ((b : Nat) : Int) = ((res.1 : Nat) : Int) := by rw [r1]
          have e2 : ((b : Nat) : Int) - ((p0 : Nat) : Int) = ((res.2.1 : Nat) : Int) := by rw [r2]; omega
          rw [e2, e1] at hN
          exact hret _ _ _ _ _ _ _ _ hW F8 hN
        · rename Fr _ _ _ _ => F8
          rename News _ _ _ _ => N8
          rename Tabs _ _ => hT8
          rename _ = Int.fmod _ _ => hr8
          rename _ = _ * P.f b => hm2
          rename _ = P.t0 * _ => hm1
          have hnx := hr8
          rw [hm2, hm1] at hnx
          have hnx := hnx.trans (hP.nx b).symm
          simp only [Int.zero_add, Int.toNat_natCast, hq9'] at N8
          exact wj_next news (Q0 := ⟨Qp, Qd, _, Qn, Qh, Qt, Qk, Qe, Qkk⟩) (tn := [(_, tupO [.str (blS b) _, .str (xsS (P.sh b).natAbs) _]), (_, tupO [.str (blS p0) _, .str (xsS (P.sh p0).natAbs) _])]) hP hb F8 N8 hT8 hRr (by walk_at "sub tail") hit9
            (by walk_at "mem9") (by walk_at "mem9") (by walk_at "mem9") (fun x hx => by
              rcases List.mem_cons.mp hx with rfl | hx
              · walk_at "mem9"
              · rw [List.mem_singleton.mp hx]; walk_at "mem9") (fun x hx => by
              rcases List.mem_cons.mp hx with rfl | hx
              · rfl
              · rw [List.mem_singleton.mp hx])
            (by rw [hK, List.concat_eq_append, List.map_append, List.map_append]; exact DatAll.append (DatAll.append (DatAll.mono (fun p hp => List.mem_append.mpr (.inr hp)) hDA') (.cons (pc_dat (.tail _ (.head _))) .nil)) (.cons (pc_dat (.head _)) .nil)) hDB hgv hrefs htl hlen hit' hks hpw' hnBQ hnI hw
            (by rw [hK, List.concat_eq_append, List.getLast?_append]; intro p hp; cases hp; rename ¬ (_ = _) => hne; rename _ = sd * _ => hs9; rw [hs9, hsh0.1, hq9'] at hne; exact hne) hso hll hlb hgl hb18 hpl hl (by rw [← hnx]; rfl) rfl rfl rfl rfl rfl
        · exfalso
          rename ((List.length (_ ++ _) : Nat) : Int) = 0 => h0
          rw [List.length_append] at h0
          simp at h0
          omega
    case fin =>
      intro m nw h tk' hz8z Fz Nz
      refine hide9 fun C9 k9 => ?_
      obtain ⟨⟨PL', st, gl, gv, ep, tl, RT, sp, rfl, hTb, hrefs, htl, hgv, hlen, hit', hks, hpw', hnBQ, hw, _⟩, _, _, _, _⟩ := hz8z
      refine k9 ?_
      clear k9
      rw [Nat.sub_self] at hw
      cases hw
    case init =>
      have hPL : PL.length = P.kinds.toNat := by simpa using congrArg List.length hk
      have hrep : ∀ l ∈ List.replicate P.kinds.toNat ([] : List Nat), l = [] := fun l hl => (List.mem_replicate.mp hl).2
      refine ⟨⟨PL, ⟨[], List.replicate P.kinds.toNat []⟩, l9, [], 0, [], _, ts, rfl, ⟨_, _, _, rfl, hu1, hu2, hu3⟩, rfl, (fun x hx => by cases hx), .nil, by rw [List.length_replicate, hPL], ?_, hk, hpw, hnBQ0, hres, ?_, ?_, ?_, Nat.zero_le _, rfl, rfl⟩, rfl, rfl, rfl, rfl⟩
      · intro i Q l hQ hl
        have e := hrep l (List.mem_of_getElem? hl)
        rw [e, hit Q (List.mem_of_getElem? hQ)]
        exact .nil
      · intro l hl; rw [hrep l hl]; exact .nil
      · intro l hl; rw [hrep l hl]; exact Nat.le_refl _
      · intro l hl p hp; rw [hrep l hl] at hp; cases hp
end
end Mine
end

section
open PySem PySem.W PySem.Calls PyProof.Rows PyProof.Rows.LCg PyProof.Rows.LCt
set_option maxRecDepth 100000
namespace Mine
/-- a comprehension whose target is a cell: what its own frame is -/
noncomputable def newX (scope : Scope) (env : Env) (x : Str) (cl : List (Str × Addr)) : Sem Env := do
  let C ← alloc { cls := .type "dict", data := .dict #[] }
  let X ← alloc { cls := .type "cell", data := .cell none }
  pure { scope := scope, locals := C, globals := env.globals, cells := (x, X) :: cl, qual := env.qual, func := none, code := env.code, frame := env.frame, builtins := env.builtins }
section
variable {prog : Program} {w : World} {A : Around} {E : Value → Shared → Prop} {s : Shared} {h₀ : Heap} {L : Addr} {m : Str → Option Value} {env : Env}
/-- the end of a turn -/
noncomputable def XEnd (h₀ : Heap) (L : Addr) (m : Str → Option Value) (s₁ : Shared) (four : List (Addr × Obj)) (J : Value → List (Addr × Obj) → Prop) (y : Value) (s₂ : Shared) : Prop :=
  ∃ h' tk nw, s₂ = { s₁ with heap := h', toks := tk } ∧ Fr h₀ L h' m ∧ News h₀ L h' (four ++ nw) ∧ (∀ p ∈ nw, ∀ q ∈ four, p.1 ≠ q.1) ∧ J y nw
theorem xEnd_of {four : List (Addr × Obj)} {J : Value → List (Addr × Obj) → Prop} {y : Value} {s₁ : Shared} {h' : Heap} {tk : Nat} {all : List (Addr × Obj)} (nw : List (Addr × Obj)) (F : Fr h₀ L h' m) (N : News h₀ L h' all) (sub : ∀ p ∈ four ++ nw, p ∈ all) (off : ∀ p ∈ nw, ∀ q ∈ four, p.1 ≠ q.1) (r : J y nw) :
   XEnd h₀ L m s₁ four J y { s₁ with heap := h', toks := tk } := ⟨h', tk, nw, rfl, F, fun p hp => N p (sub p hp), off, r⟩
theorem off1_of {D : Addr} : ∀ {l : List (Addr × Obj)}, (∀ p ∈ l, @Ne Nat p.1 D) → Off1 D l
  | [], _ => trivial
  | _ :: _, h => ⟨h _ (.head _), off1_of fun p hp => h p (.tail _ hp)⟩
theorem block_X {elt iter : Expr} {x : Str} {px : Pos} {scope : Scope} {cl : List (Str × Addr)} {pos : Pos} {s₂ : Shared} {I : Addr} {fp : List Addr} {n : Nat} {P : Nat → Value → Prop} {St : Nat → Heap → Prop} {news : List (Addr × Obj)} {RR : Value → Addr → Result → Shared → Prop}
    (W : Walks prog w A I fp [I] n P St) (hsz : n ≤ sizeLine) (hIo : ∀ i h, St i h → ∃ o, h.get? I = some o) (J : Nat → List Value → List (Addr × Obj) → Prop)
    (hSt2 : ∀ j ys nw h h' o, J j ys nw → St j h → h.get? I = some o → h'.get? I = some o → (∀ b o, h₀.get? b = some o → h'.get? b = some o) → News h₀ L h' nw → St j h')
    (hkind : scope.kind = .function) (hxc : (relabel scope env).names.lookup x = some .cell) (hnew : newFunctionEnv scope env.globals cl [] env.qual none .none (some env) = newX scope env x cl)
    (hst : St 0 s₂.heap) (hfp : ∀ b ∈ fp, b < s₂.heap.objs.size)
    (F : Fr h₀ L s₂.heap m) (N : News h₀ L s₂.heap news) (hIL : L ≠ I) (hI₀ : h₀.get? I = none) (off : ∀ p ∈ news, p.1 ≠ I) (hJ : J 0 [] news)
    (step : ∀ i v ys nw oI oX oC X C D h tk (E' : Value → Shared → Prop), i < n → J i ys nw → P i v → oX.data = .cell (some v) → Fr h₀ L h m → News h₀ L h ((I, oI) :: (X, oX) :: (C, oC) :: (D, lst ys) :: nw) →
      (∀ p ∈ nw, @Ne Nat p.1 I ∧ @Ne Nat p.1 X ∧ @Ne Nat p.1 C ∧ @Ne Nat p.1 D) → (@Ne Nat I X ∧ @Ne Nat I C ∧ @Ne Nat I D ∧ @Ne Nat X C ∧ @Ne Nat X D ∧ @Ne Nat C D) →
      wpAny (model prog w) A (eval elt (compEnvC scope ((x, X) :: cl) C env)) (XEnd h₀ L m { s₂ with heap := h, toks := tk } [(I, oI), (X, oX), (C, oC), (D, lst ys)] (fun y nw' => J (i + 1) (ys ++ [y]) nw')) E' { s₂ with heap := h, toks := tk })
    (hRR : ∀ D C h tk m' ys nw, Fr h₀ L h m → News h₀ L h ((D, lst ys) :: nw) → Off1 D nw → h.Ns C m' → h₀.get? C = none → h₀.get? D = none → C ≠ L → D ≠ L → C ≠ D → (∀ p ∈ nw, p.1 ≠ C) → J n ys nw → RR (.ref D) C (.ok .next) { s₂ with heap := h, toks := tk }) :
    wpAny (model prog w) A (newList []) (fun acc s₃ => wpAny (model prog w) A (newFunctionEnv scope env.globals cl [] env.qual none .none (some env)) (fun cenv s₄ =>
      codeAny (model prog w) A (.compStart (.ListComp elt [⟨.Name x px, iter, [], 0⟩] scope pos) 0 (.ref I) acc { cenv with scope := relabel scope env }) (RR acc cenv.locals) s₄) E s₃) E s₂ := by
  refine wpAny_newObj_type ?_
  rw [hnew]
  refine wpAny_bind (wpAny_alloc (wpAny_bind (wpAny_alloc (wpAny_pure ?_))))
  dsimp only
  -- the addresses: the list, the frame, the cell
  generalize hD : s₂.heap.objs.size = D
  have hDI : I < D := hD ▸ hfp I (W.sub I (List.mem_singleton.mpr rfl))
  have hLD : L < D := hD ▸ F.ns.lt
  generalize hH1 : s₂.heap.push { cls := .type "list", dict := none, data := .seq ([] : List Value).toArray } = H1
  have hC : H1.objs.size = D + 1 := by rw [← hH1, Heap.size_push, hD]
  generalize hH2 : H1.push { cls := .type "dict", data := .dict #[] } = H2
  have hX : H2.objs.size = D + 2 := by rw [← hH2, Heap.size_push, hC]
  generalize hH3 : H2.push { cls := .type "cell", data := .cell none } = H3
  rw [hC, hX]
  have old : ∀ b o, s₂.heap.get? b = some o → H3.get? b = some o := fun b o e => by
    rw [← hH3, ← hH2, ← hH1]
    exact Heap.get?_push_of_some _ (Heap.get?_push_of_some _ (Heap.get?_push_of_some _ e))
  have fresh₀ : ∀ a, D ≤ a → h₀.get? a = none := fun a ha => by
    cases e : h₀.get? a with
    | none => rfl
    | some o' => exact absurd (Heap.lt_size (F.keep a o' e)) (by rw [hD]; exact Nat.not_lt.mpr ha)
  have gD : H3.get? D = some (lst []) := by
    rw [← hH3, ← hH2, ← hH1, ← hD]
    exact Heap.get?_push_of_some _ (Heap.get?_push_of_some _ (Heap.get?_push_size _ rfl))
  have gC : H3.Ns (D + 1) (fun _ => none) := by
    have := Heap.Ns.new H1 (.type "dict")
    rw [hC] at this
    refine this.at' fun o e => ?_
    rw [← hH3]
    rw [hH2] at e
    exact Heap.get?_push_of_some _ e
  have gX : H3.IsCell (D + 2) none := by
    refine ⟨{ cls := .type "cell", data := .cell none }, ?_, rfl⟩
    rw [← hH3, ← hX]
    exact Heap.get?_push_size _ rfl
  have hst₁ : St 0 H3 := W.frame _ _ _ hst fun b _ o e => old b o e
  have F₃ : Fr h₀ L H3 m := F.keeps old
  have N₃ : News h₀ L H3 news := N.grown old
  have low : ∀ p ∈ news, p.1 < D := fun p hp => hD ▸ Heap.lt_size (N p hp).1
  have loop : ∀ s₃ : Shared, s₃ = { s₂ with heap := H3 } →
      codeAny (model prog w) A (.compLoop (.ListComp elt [⟨.Name x px, iter, [], 0⟩] scope pos) 0 (.ref I) (.ref D) (compEnvC scope ((x, D + 2) :: cl) (D + 1) env)) (RR (.ref D) (D + 1)) s₃ := by
    rintro s₃ rfl
    refine codeAny_compLoop_tests
      (fun k s' => ∃ h' tk i ys nw ov, s' = { s₂ with heap := h', toks := tk } ∧ i ≤ n ∧ k = n + 1 - i ∧ ys.length = i ∧ St i h' ∧ Fr h₀ L h' m ∧ h'.Ns (D + 1) (fun _ => none) ∧ h'.IsCell (D + 2) ov ∧ News h₀ L h' ((D, lst ys) :: nw) ∧
        (∀ p ∈ nw, @Ne Nat p.1 I ∧ @Ne Nat p.1 (D + 2) ∧ @Ne Nat p.1 (D + 1) ∧ @Ne Nat p.1 D) ∧ J i ys nw) ?_ (n + 1)
      ⟨H3, s₂.toks, 0, [], news, none, rfl, Nat.zero_le _, rfl, rfl, hst₁, F₃, gC, gX, ?_, ?_, hJ⟩
    · intro k s' hz9z
      refine hide9 fun C9 k9 => ?_
      obtain ⟨h', tk, i, ys, nw, ov, rfl, hi, rfl, hyl, hst', F', hC', hX', N', off', hJ'⟩ := hz9z
      refine k9 ?_
      clear k9
      have nXI : D + 2 ≠ I := Nat.ne_of_gt (Nat.lt_add_right 2 hDI)
      have nCI : D + 1 ≠ I := Nat.ne_of_gt (Nat.lt_add_right 1 hDI)
      have nDI : D ≠ I := Nat.ne_of_gt hDI
      have nXL : D + 2 ≠ L := Nat.ne_of_gt (Nat.lt_add_right 2 hLD)
      have nCL : D + 1 ≠ L := Nat.ne_of_gt (Nat.lt_add_right 1 hLD)
      have nDL : D ≠ L := Nat.ne_of_gt hLD
      by_cases hlt : i < n
      · refine W.item i _ _ _ hlt hst' fun v h₂ tk₂ hPv hst₂ hk₂ => ?_
        have k2 : ∀ b o, b ≠ I → h'.get? b = some o → h₂.get? b = some o := fun b o hb e => hk₂ b o (by simpa using hb) e
        have F₂ : Fr h₀ L h₂ m := fr_but F' hk₂ hIL hI₀
        have X₂ : h₂.IsCell (D + 2) ov := by
          obtain ⟨o, e, d⟩ := hX'
          exact ⟨o, k2 _ _ nXI e, d⟩
        refine wpAny_assign_Name (wpAny_storeName_cell (c := D + 2) hkind hxc (by simp [compEnvC]) X₂ fun h₃ X₃ hs₃ => ?_)
        refine wpAny_tests_nil ?_
        simp only [if_true]
        have k3 : ∀ b o, b ≠ D + 2 → h₂.get? b = some o → h₃.get? b = some o := fun b o hb e => hs₃.extBut b o hb e
        have hst₃ : St (i + 1) h₃ := W.frame _ _ _ hst₂ fun b hb o e => k3 b o (Nat.ne_of_lt (Nat.lt_add_right 2 (hD ▸ hfp b hb))) e
        obtain ⟨oI, heI⟩ := hIo _ _ hst₃
        obtain ⟨oX, heX, hdX⟩ := X₃
        have C₃ : h₃.Ns (D + 1) (fun _ => none) := (hC'.at' fun o e => k2 _ o nCI e).at' fun o e => k3 _ o (Nat.ne_of_lt (Nat.lt_succ_self _)) e
        obtain ⟨oC, heC, hoC⟩ := ns_obj C₃
        have F₃' : Fr h₀ L h₃ m := F₂.change hs₃ nXL (fresh₀ _ (Nat.le_add_right _ _))
        have N₃' : News h₀ L h₃ ((I, oI) :: (D + 2, oX) :: (D + 1, oC) :: (D, lst ys) :: nw) := by
          intro p hp
          rcases List.mem_cons.mp hp with rfl | hp
          · exact ⟨heI, Ne.symm hIL, hI₀⟩
          rcases List.mem_cons.mp hp with rfl | hp
          · exact ⟨heX, nXL, fresh₀ _ (Nat.le_add_right _ _)⟩
          rcases List.mem_cons.mp hp with rfl | hp
          · exact ⟨heC, nCL, fresh₀ _ (Nat.le_add_right _ _)⟩
          have z := N' p hp
          rcases List.mem_cons.mp hp with rfl | hp
          · exact ⟨k3 _ _ (Nat.ne_of_lt (Nat.lt_add_of_pos_right (by decide))) (k2 _ _ nDI z.1), z.2⟩
          · have o := off' p hp
            exact ⟨k3 _ _ o.2.1 (k2 _ _ o.1 z.1), z.2⟩
        refine wpAny_mono (step i v ys nw oI oX oC (D + 2) (D + 1) D h₃ _ _ hlt hJ' hPv hdX F₃' N₃' off' ⟨nXI.symm, nCI.symm, nDI.symm, Nat.ne_of_gt (Nat.lt_succ_self _), Nat.ne_of_gt (Nat.lt_add_of_pos_right (by decide)), Nat.ne_of_gt (Nat.lt_succ_self _)⟩) (fun y s₄ h₄ => ?_) fun _ _ e => e
        refine hide9 fun C9 k9 => ?_
        obtain ⟨h₄, tk₄, nw₄, rfl, F₄, N₄, off₄, J₄⟩ := h₄
        refine k9 ?_
        clear k9
        have zI := (N₄ (I, oI) (.head _)).1
        have zX := (N₄ (D + 2, oX) (.tail _ (.head _))).1
        have zC := (N₄ (D + 1, oC) (.tail _ (.tail _ (.head _)))).1
        have zD := (N₄ (D, lst ys) (.tail _ (.tail _ (.tail _ (.head _))))).1
        have N₄' : News h₀ L h₄ nw₄ := fun p hp => N₄ p (.tail _ (.tail _ (.tail _ (.tail _ hp))))
        have hst₄ : St (i + 1) h₄ := hSt2 _ _ _ _ _ _ J₄ hst₃ heI zI F₄.keep N₄'
        refine append_at (hsz := by show ys.toArray.size ≤ sizeLine; rw [List.size_toArray, hyl]; exact Nat.le_trans hi hsz) zD fun h₅ hs₅ hD₅ => ?_
        have off4 : ∀ p ∈ nw₄, @Ne Nat p.1 I ∧ @Ne Nat p.1 (D + 2) ∧ @Ne Nat p.1 (D + 1) ∧ @Ne Nat p.1 D := fun p hp => ⟨off₄ p hp (I, oI) (.head _), off₄ p hp (D + 2, oX) (.tail _ (.head _)), off₄ p hp (D + 1, oC) (.tail _ (.tail _ (.head _))), off₄ p hp (D, lst ys) (.tail _ (.tail _ (.tail _ (.head _))))⟩
        refine ⟨n + 1 - (i + 1), by omega, h₅, tk₄, i + 1, ys ++ [y], nw₄, some v, rfl, hlt, rfl, by rw [List.length_append, List.length_singleton, hyl], W.frame _ _ _ hst₄ fun b hb o e => hs₅.extBut b o (Nat.ne_of_lt (hD ▸ hfp b hb)) e, F₄.change hs₅ nDL (fresh₀ _ (Nat.le_refl _)),
          (hoC.ns zC).sameBut hs₅ (Nat.ne_of_gt (Nat.lt_succ_self _)), ⟨oX, hs₅.extBut _ _ (Nat.ne_of_gt (Nat.lt_add_of_pos_right (by decide))) zX, hdX⟩, fun p hp => ?_, off4, J₄⟩
        rcases List.mem_cons.mp hp with rfl | hp
        · exact ⟨hD₅.trans (congrArg some (lst_snoc ys y)), nDL, fresh₀ _ (Nat.le_refl _)⟩
        · exact ⟨hs₅.extBut _ _ (off4 p hp).2.2.2 (N₄' p hp).1, (N₄' p hp).2⟩
      · obtain rfl : i = n := Nat.le_antisymm hi (Nat.not_lt.mp hlt)
        refine W.done _ _ _ hst' fun h₂ tk₂ hk₂ => ?_
        have k2 : ∀ b o, b ≠ I → h'.get? b = some o → h₂.get? b = some o := fun b o hb e => hk₂ b o (by simpa using hb) e
        refine hRR _ _ h₂ tk₂ _ ys nw (fr_but F' hk₂ hIL hI₀) (news_but N' hk₂ fun p hp => ?_) ?_ (hC'.at' fun o e => k2 _ o nCI e) (fresh₀ _ (Nat.le_add_right _ _)) (fresh₀ _ (Nat.le_refl _)) nCL nDL (Nat.ne_of_gt (Nat.lt_succ_self _)) (fun p hp => (off' p hp).2.2.1) hJ'
        · rcases List.mem_cons.mp hp with rfl | hp
          · exact nDI
          · exact (off' p hp).1
        · exact off1_of fun p hp => (off' p hp).2.2.2
    · intro p hp
      rcases List.mem_cons.mp hp with rfl | hp
      · exact ⟨gD, (Nat.ne_of_lt hLD).symm, fresh₀ _ (Nat.le_refl _)⟩
      · exact N₃ p hp
    · intro p hp
      have := low p hp
      have h9 : @Ne Nat p.1 I := off p hp
      exact ⟨h9, Nat.ne_of_lt (Nat.lt_add_right 2 this), Nat.ne_of_lt (Nat.lt_add_right 1 this), Nat.ne_of_lt this⟩
  exact codeAny_compStart_list (loop _ rfl) (W.self 0 _ _ _ hst₁ (loop _ rfl))
/-- what a comprehension with a cell for its target wants of its source: a list of the ledger, or a range -/
structure XTurns (prog : Program) (w : World) (A : Around) (h₀ : Heap) (L : Addr) (m : Str → Option Value) (env : Env) (elt : Expr) (x : Str) (scope : Scope) (cl : List (Str × Addr)) (n : Nat) (P : Nat → Value → Prop) (J : Nat → List Value → List (Addr × Obj) → Prop) (s₂ : Shared) : Prop where
  turn : ∀ i v ys nw oI oX oC I X C D h tk (E' : Value → Shared → Prop), i < n → J i ys nw → P i v → oX.data = .cell (some v) → Fr h₀ L h m → News h₀ L h ((I, oI) :: (X, oX) :: (C, oC) :: (D, lst ys) :: nw) →
      (∀ p ∈ nw, @Ne Nat p.1 I ∧ @Ne Nat p.1 X ∧ @Ne Nat p.1 C ∧ @Ne Nat p.1 D) → (@Ne Nat I X ∧ @Ne Nat I C ∧ @Ne Nat I D ∧ @Ne Nat X C ∧ @Ne Nat X D ∧ @Ne Nat C D) →
      wpAny (model prog w) A (eval elt (compEnvC scope ((x, X) :: cl) C env)) (XEnd h₀ L m { s₂ with heap := h, toks := tk } [(I, oI), (X, oX), (C, oC), (D, lst ys)] (fun y nw' => J (i + 1) (ys ++ [y]) nw')) E' { s₂ with heap := h, toks := tk }
noncomputable def XSrcL (prog : Program) (w : World) (A : Around) (h₀ : Heap) (L : Addr) (m : Str → Option Value) (env : Env) (elt : Expr) (x : Str) (scope : Scope) (cl : List (Str × Addr)) (Fin : Shared → List Value → List (Addr × Obj) → Prop) (xv : Value) (s₁ : Shared) : Prop :=
  ∃ ax its nn news J, xv = .ref ax ∧ A.handled = none ∧ Fr h₀ L s₁.heap m ∧ News h₀ L s₁.heap news ∧ its.size ≤ sizeLine ∧ (∀ i ys nw, J i ys nw → (ax, ({ cls := .type "list", data := .seq its nn } : Obj)) ∈ nw) ∧ J 0 [] news ∧
    XTurns prog w A h₀ L m env elt x scope cl its.size (fun i v => its[i]? = some v) J s₁ ∧ ∀ ys nw, J its.size ys nw → Fin s₁ ys nw
noncomputable def XSrcR (prog : Program) (w : World) (A : Around) (h₀ : Heap) (L : Addr) (m : Str → Option Value) (env : Env) (elt : Expr) (x : Str) (scope : Scope) (cl : List (Str × Addr)) (Fin : Shared → List Value → List (Addr × Obj) → Prop) (xv : Value) (s₁ : Shared) : Prop :=
  ∃ r a b t u v n news J, xv = .ref r ∧ A.handled = none ∧ Fr h₀ L s₁.heap m ∧ News h₀ L s₁.heap news ∧ IsRange s₁.heap r a b 1 t u v ∧ Builtin.Range.small a b 1 = true ∧ Builtin.Range.rangeSize a b 1 = ((n : Nat) : Int) ∧ n ≤ sizeLine ∧ J 0 [] news ∧
    XTurns prog w A h₀ L m env elt x scope cl n (fun i v => ∃ t, v = .int (a + (i : Int)) t) J s₁ ∧ ∀ ys nw, J n ys nw → Fin s₁ ys nw
noncomputable def XSrc (prog : Program) (w : World) (A : Around) (h₀ : Heap) (L : Addr) (m : Str → Option Value) (env : Env) (elt : Expr) (x : Str) (scope : Scope) (cl : List (Str × Addr)) (Fin : Shared → List Value → List (Addr × Obj) → Prop) (xv : Value) (s₁ : Shared) : Prop :=
  XSrcL prog w A h₀ L m env elt x scope cl Fin xv s₁ ∨ XSrcR prog w A h₀ L m env elt x scope cl Fin xv s₁
/-- the source's block, for any wish RR that what is left fulfils -/
theorem xsrc_block {elt iter : Expr} {x : Str} {px : Pos} {scope : Scope} {cl : List (Str × Addr)} {pos : Pos} {Fin : Shared → List Value → List (Addr × Obj) → Prop} {xv : Value} {s₁ : Shared} {RR : Value → Addr → Result → Shared → Prop}
    (hkind : scope.kind = .function) (hxc : (relabel scope env).names.lookup x = some .cell) (hnew : newFunctionEnv scope env.globals cl [] env.qual none .none (some env) = newX scope env x cl)
    (S : XSrc prog w A h₀ L m env elt x scope cl Fin xv s₁)
    (hRR : ∀ D C h tk m' ys nw, Fr h₀ L h m → News h₀ L h ((D, lst ys) :: nw) → Off1 D nw → h.Ns C m' → h₀.get? C = none → h₀.get? D = none → C ≠ L → D ≠ L → C ≠ D → (∀ p ∈ nw, p.1 ≠ C) → Fin s₁ ys nw → RR (.ref D) C (.ok .next) { s₁ with heap := h, toks := tk }) :
    wpAny (model prog w) A (pyIter xv) (fun it s₂ => wpAny (model prog w) A (newList []) (fun acc s₃ => wpAny (model prog w) A (newFunctionEnv scope env.globals cl [] env.qual none .none (some env)) (fun cenv s₄ =>
      codeAny (model prog w) A (.compStart (.ListComp elt [⟨.Name x px, iter, [], 0⟩] scope pos) 0 it acc { cenv with scope := relabel scope env }) (RR acc cenv.locals) s₄) E s₃) E s₂) E s₁ := by
  rcases S with ⟨ax, its, nn, news, J, rfl, hh, F, N, hsz, hm, hJ, ht, hf⟩ | ⟨r, a, b, t, u, v, n, news, J, rfl, hh, F, N, hr, hsm, hn, hsz, hJ, ht, hf⟩
  · have hl : s₁.heap.IsList ax its := ⟨_, (N _ (hm _ _ _ hJ)).1, rfl, nn, rfl⟩
    have hlt : ax < s₁.heap.objs.size := Heap.lt_size (N _ (hm _ _ _ hJ)).1
    refine wpAny_pyIter_list hl ?_
    have up : ∀ b o, s₁.heap.get? b = some o → (s₁.heap.push { cls := .type "list_iterator", data := .fields #[.ref ax, .int 0 0] }).get? b = some o := fun b o e => Heap.get?_push_of_some _ e
    refine block_X (Walks.list hh s₁.heap.objs.size ax (Nat.ne_of_lt hlt) its) hsz (fun i h st => by obtain ⟨o, e, _⟩ := st.1; exact ⟨o, e⟩) J
      (fun j ys nw h h' o hj st e e' k N => list_st j h h' o nw st e e' k N (.inr ⟨_, hm _ _ _ hj, rfl, nn, rfl⟩)) hkind hxc hnew ⟨⟨_, Heap.get?_push_size _ rfl, rfl, rfl⟩, hl.push _⟩ (fun b hb => ?_)
      (F.keeps up) (N.grown up) (Nat.ne_of_lt F.ns.lt) (next_is_new F) (fun p hp => Nat.ne_of_lt (Heap.lt_size (N p hp).1)) hJ
      (fun i v ys nw oI oX oC X C D h tk E' hi hj hp hd hF hN ho hne => ht.turn i v ys nw oI oX oC _ X C D h tk E' hi hj hp hd hF hN ho hne)
      (fun D C h tk m' ys nw hF hN o1 hns c0 d0 cl dl cd oc hj => hRR D C h tk m' ys nw hF hN o1 hns c0 d0 cl dl cd oc (hf ys nw hj))
    show b < (s₁.heap.push _).objs.size
    rw [Heap.size_push]
    rcases List.mem_cons.mp hb with rfl | hb
    · exact Nat.lt_succ_self _
    · rw [List.mem_singleton.mp hb]; exact Nat.lt_succ_of_lt hlt
  · refine wpAny_pyIter_range hr hsm ?_
    refine block_X (range_walks hh a n) hsz (fun i h st => ⟨_, st⟩) J (fun j ys nw h h' o hj st e e' k N => range_st j h h' o nw st e e' k N trivial) hkind hxc hnew
      (by show IsRangeIter _ _ _ _ _; rw [hn]; simpa using Heap.get?_push_size _ rfl) (fun b hb => ?_)
      (F.keeps fun _ _ e => Heap.get?_push_of_some _ e) (N.grown fun _ _ e => Heap.get?_push_of_some _ e) (Nat.ne_of_lt F.ns.lt) (next_is_new F) (fun p hp => Nat.ne_of_lt (Heap.lt_size (N p hp).1)) hJ
      (fun i v ys nw oI oX oC X C D h tk E' hi hj hp hd hF hN ho hne => ht.turn i v ys nw oI oX oC _ X C D h tk E' hi hj hp hd hF hN ho hne)
      (fun D C h tk m' ys nw hF hN o1 hns c0 d0 cl dl cd oc hj => hRR D C h tk m' ys nw hF hN o1 hns c0 d0 cl dl cd oc (hf ys nw hj))
    rw [List.mem_singleton.mp hb]
    show s₁.heap.objs.size < (s₁.heap.push _).objs.size
    rw [Heap.size_push]; exact Nat.lt_succ_self _
theorem xsrcL_of {elt : Expr} {x : Str} {scope : Scope} {cl : List (Str × Addr)} {Fin : Shared → List Value → List (Addr × Obj) → Prop} {ax : Addr} {vs : List Value} {nn : Nat} {nw : List (Addr × Obj)} {s₁ : Shared} (hh : A.handled = none) (F : Fr h₀ L s₁.heap m) (N : News h₀ L s₁.heap nw) (hm : (ax, listOf vs.toArray nn) ∈ nw) (hsz : vs.length ≤ sizeLine) (J : Nat → List Value → Prop) (j0 : J 0 [])
    (ht : ∀ i v ys oI oX oC I X C D h tk (E' : Value → Shared → Prop), i < vs.length → J i ys → vs[i]? = some v → oX.data = .cell (some v) → Fr h₀ L h m → News h₀ L h ((I, oI) :: (X, oX) :: (C, oC) :: (D, lst ys) :: nw) →
      (∀ p ∈ nw, @Ne Nat p.1 I ∧ @Ne Nat p.1 X ∧ @Ne Nat p.1 C ∧ @Ne Nat p.1 D) → (@Ne Nat I X ∧ @Ne Nat I C ∧ @Ne Nat I D ∧ @Ne Nat X C ∧ @Ne Nat X D ∧ @Ne Nat C D) →
      wpAny (model prog w) A (eval elt (compEnvC scope ((x, X) :: cl) C env)) (XEnd h₀ L m { s₁ with heap := h, toks := tk } [(I, oI), (X, oX), (C, oC), (D, lst ys)] (fun y nw' => J (i + 1) (ys ++ [y]) ∧ nw' = nw)) E' { s₁ with heap := h, toks := tk })
    (fin : ∀ ys, J vs.length ys → Fin s₁ ys nw) : XSrc prog w A h₀ L m env elt x scope cl Fin (.ref ax) s₁ :=
  .inl ⟨ax, vs.toArray, nn, nw, fun i ys nw' => J i ys ∧ nw' = nw, rfl, hh, F, N, by rw [List.size_toArray]; exact hsz, fun _ _ _ ⟨_, e⟩ => e ▸ hm, ⟨j0, rfl⟩,
    ⟨fun i v ys nw' oI oX oC I X C D h tk E' hi hj hp hd hF hN ho hne => by
      obtain ⟨hj, rfl⟩ := hj
      exact ht i v ys oI oX oC I X C D h tk E' (by rw [List.size_toArray] at hi; exact hi) hj (by rw [List.getElem?_toArray] at hp; exact hp) hd hF hN ho hne⟩, fun ys nw' hj => by
      obtain ⟨hj, rfl⟩ := hj
      rw [List.size_toArray] at hj
      exact fin ys hj⟩
/-- «y = [elt for x in iter]», x a cell -/
theorem assign_listCompX {elt iter : Expr} {x y : Str} {px py : Pos} {scope : Scope} {cl : List (Str × Addr)} {pos spos : Pos} {Q : Flow → Shared → Prop} (_F : Fr h₀ L s.heap m) (hLe : env.locals = L)
    (hsw : swapsWith (.ListComp elt [⟨.Name x px, iter, [], 0⟩] scope pos) (some (.Name y py)) spos.line env = pure true) (hclos : closureFor scope env = pure cl)
    (hkind : scope.kind = .function) (hnames : ∀ z ∈ scope.names, z.2 = .local → scope.names.lookup z.1 = some .local) (hxc : (relabel scope env).names.lookup x = some .cell) (hnew : newFunctionEnv scope env.globals cl [] env.qual none .none (some env) = newX scope env x cl)
    (hy : env.kindOf y = some .local) (hp : (env.scope.kind == .class || (env.scope.kind == .module && env.locals != env.globals)) = false)
    (h : wpAny (model prog w) A (eval iter env) (XSrc prog w A h₀ L m env elt x scope cl (fun s₂ => FinA h₀ L m s₂ y Q)) E s) (hs : ∀ v, foldedSetIterable iter env v = pure v) :
    wpAny (model prog w) A (exec (.Assign [.Name y py] (.ListComp elt [⟨.Name x px, iter, [], 0⟩] scope pos) spos) env) Q E s := by
  subst hLe
  rw [exec_Assign_Name_used _ _ _ _ hsw]
  refine wpAny_bind (wpAny_standAt (wpAny_bind ?_))
  show wpAny _ A (do let _ ← comprehension (.ListComp elt [⟨.Name x px, iter, [], 0⟩] scope pos) scope env _ (newList []) false (eval iter env) (some (assign (.Name y py) env))) _ _ s
  refine wpAny_bind (wpAny_mono (wpAny_comprehension_free (use := some (assign (.Name y py) env)) (Q := fun _ s' => Q .next s') rfl hs hclos hkind hnames
    (wpAny_mono h (fun xv s₁ h₁ => xsrc_block hkind hxc hnew h₁ fun D C h' tk m' ys nw F' N' o1 hn hC₀ hD₀ hCL hDL hCD offC fin => ?_) fun _ _ e => e)) (fun _ s' hq => wpAny_pure (wpAny_pure hq)) fun _ _ e => e)
  show wpAny _ A (assign (.Name y py) env (.ref D)) _ _ _
  refine wpAny_assign_Name (wpAny_storeName_local hy F'.ns (fun h₂ hn₂ hs₂ => ?_) hp)
  have hL₀ : h₀.get? env.locals = none := Heap.get?_none_of_le F'.above
  have F₂ : Fr h₀ env.locals h₂ (fun z => if z = y then some (.ref D) else m z) := ⟨hn₂, fun b o e => hs₂.extBut b o (fun q => by rw [q, hL₀] at e; cases e) (F'.keep b o e), F'.above⟩
  refine ⟨m', hn.sameBut hs₂ hCL, fun h'' hs'' => fin D h'' _ (F₂.change hs'' hCL hC₀) (fun p hp => ?_) o1⟩
  have z : h₂.get? p.1 = some p.2 := hs₂.extBut _ _ (N' p hp).2.1 (N' p hp).1
  refine ⟨hs''.extBut _ _ ?_ z, (N' p hp).2⟩
  rcases List.mem_cons.mp hp with rfl | hp
  · exact Ne.symm hCD
  · exact offC p hp
/-- a comprehension without a test over a list of the ledger; the ledger stays -/
theorem compL_of {elt : Expr} {x : Str} {scope : Scope} {cl : List (Str × Addr)} {Fin : Shared → List Value → List (Addr × Obj) → Prop} {ax : Addr} {vs : List Value} {nn : Nat} {nw : List (Addr × Obj)} {s₁ : Shared} (hh : A.handled = none) (F : Fr h₀ L s₁.heap m) (N : News h₀ L s₁.heap nw) (hm : (ax, listOf vs.toArray nn) ∈ nw) (hsz : vs.length ≤ sizeLine) (J : Nat → List Value → Prop) (j0 : J 0 [])
    (ht : ∀ i v ys I oI C oC D m₂ h tk (E' : Value → Shared → Prop), i < vs.length → J i ys → vs[i]? = some v → NsObj oC m₂ → m₂ x = some v → Fr h₀ L h m → News h₀ L h ((I, oI) :: (C, oC) :: (D, lst ys) :: nw) → (∀ p ∈ nw, p.1 ≠ I ∧ p.1 ≠ C ∧ p.1 ≠ D) → ((@Ne Nat I C) ∧ (@Ne Nat I D) ∧ (@Ne Nat C D)) →
      wpAny (model prog w) A (eval elt (compEnvC scope cl C env)) (CEnd h₀ L m { s₁ with heap := h, toks := tk } I oI C oC D (lst ys) (SrcAt h₀ ax vs.toArray) (fun y news' => J (i + 1) (ys ++ [y]) ∧ news' = nw)) E' { s₁ with heap := h, toks := tk })
    (fin : ∀ g ys, J vs.length ys → Fin { s₁ with heap := g } ys nw) : CompSrc prog w A h₀ L m env elt x scope cl Fin (.ref ax) s₁ := by
  refine CompSrc.ledger hh F N hm (by rw [List.size_toArray]; exact hsz) fun g => comp_inv (fun i ys nw' => J i ys ∧ nw' = nw) ?_ ?_ _ 0 [] nw (Nat.zero_add _) ⟨j0, rfl⟩
  · intro i v ys nw' I oI C oC D m₂ h tk E' hi hj hp hC hx hF hN ho hne
    obtain ⟨hj, rfl⟩ := hj
    exact ht i v ys I oI C oC D m₂ h tk E' (by rw [List.size_toArray] at hi; exact hi) hj (by rw [List.getElem?_toArray] at hp; exact hp) hC hx hF hN ho hne
  · intro ys nw' hj
    obtain ⟨hj, rfl⟩ := hj
    rw [List.size_toArray] at hj
    exact fin g ys hj
/-- a comprehension with one test over a list of the ledger; the ledger stays -/
theorem compTL_of {ct elt : Expr} {x : Str} {scope : Scope} {cl : List (Str × Addr)} {Fin : Shared → List Value → List (Addr × Obj) → Prop} {ax : Addr} {vs : List Value} {nn : Nat} {nw : List (Addr × Obj)} {s₁ : Shared} (hh : A.handled = none) (F : Fr h₀ L s₁.heap m) (N : News h₀ L s₁.heap nw) (hm : (ax, listOf vs.toArray nn) ∈ nw) (hsz : vs.length ≤ sizeLine) (J : Nat → List Value → Prop) (j0 : J 0 [])
    (ht : ∀ i v ys I oI C oC D m₂ h tk (E' : Value → Shared → Prop), i < vs.length → J i ys → vs[i]? = some v → NsObj oC m₂ → m₂ x = some v → Fr h₀ L h m → News h₀ L h ((I, oI) :: (C, oC) :: (D, lst ys) :: nw) → (∀ p ∈ nw, p.1 ≠ I ∧ p.1 ≠ C ∧ p.1 ≠ D) → ((@Ne Nat I C) ∧ (@Ne Nat I D) ∧ (@Ne Nat C D)) →
      wpAny (model prog w) A (isTrue ct (compEnvC scope cl C env) (eval ct (compEnvC scope cl C env))) (fun ok s' => if ok = true then
        wpAny (model prog w) A (eval elt (compEnvC scope cl C env)) (CEnd h₀ L m { s₁ with heap := h, toks := tk } I oI C oC D (lst ys) (SrcAt h₀ ax vs.toArray) (fun y news' => J (i + 1) (ys ++ [y]) ∧ news' = nw)) E' s'
        else CEnd h₀ L m { s₁ with heap := h, toks := tk } I oI C oC D (lst ys) (SrcAt h₀ ax vs.toArray) (fun _ news' => J (i + 1) ys ∧ news' = nw) Value.none s') E' { s₁ with heap := h, toks := tk })
    (fin : ∀ g ys, J vs.length ys → Fin { s₁ with heap := g } ys nw) : CompSrcT prog w A h₀ L m env ct elt x scope cl Fin (.ref ax) s₁ := by
  refine CompSrcT.ledger hh F N hm (by rw [List.size_toArray]; exact hsz) fun g => compT_inv (fun i ys nw' => J i ys ∧ nw' = nw) ?_ ?_ _ 0 [] nw (Nat.zero_add _) ⟨j0, rfl⟩
  · intro i v ys nw' I oI C oC D m₂ h tk E' hi hj hp hC hx hF hN ho hne
    obtain ⟨hj, rfl⟩ := hj
    exact ht i v ys I oI C oC D m₂ h tk E' (by rw [List.size_toArray] at hi; exact hi) hj (by rw [List.getElem?_toArray] at hp; exact hp) hC hx hF hN ho hne
  · intro ys nw' hj
    obtain ⟨hj, rfl⟩ := hj
    rw [List.size_toArray] at hj
    exact fin g ys hj
end
end Mine
end

section
open PySem PySem.W PySem.Calls PyProof.Rows
set_option maxRecDepth 100000
namespace Mine
theorem take_filter {R : List Int} {p : Int → Bool} {i : Nat} {y : Int} (hy : R[i]? = some y) : (R.take (i + 1)).filter p = (R.take i).filter p ++ if p y then [y] else [] := by
  rw [List.take_succ, hy, List.filter_append]
  congr 1
  simp [List.filter_cons]
theorem fmod_emod {x y q : Int} (hq : 1 ≤ q) (h : Int.fmod x q = Int.fmod y q) : x % q = y % q := by
  rwa [Int.fmod_eq_emod_of_nonneg _ (by omega), Int.fmod_eq_emod_of_nonneg _ (by omega)] at h
theorem fmod_emod' {x y q : Int} (hq : 1 ≤ q) (h : x % q = y % q) : Int.fmod x q = Int.fmod y q := by
  rwa [Int.fmod_eq_emod_of_nonneg _ (by omega), Int.fmod_eq_emod_of_nonneg _ (by omega)]
noncomputable def Least (R : List Int) (q v m : Int) : Prop := m ∈ R ∧ m % q = v % q ∧ ∀ o ∈ R, o % q = v % q → m ≤ o
noncomputable def LeastsTo (R : List Int) (q : Int) (i : Nat) (ms : List Int) : Prop := ∀ j, j < i → ∃ v m, R[j]? = some v ∧ ms[j]? = some m ∧ Least R q v m
theorem leastsTo_nil {R q} : LeastsTo R q 0 [] := fun j hj => absurd hj (Nat.not_lt_zero j)
theorem leastsTo_snoc {R q ms v m} (h : LeastsTo R q ms.length ms) (hv : R[ms.length]? = some v) (hm : Least R q v m) : LeastsTo R q (ms.length + 1) (ms ++ [m]) := by
  intro j hj
  by_cases e : j < ms.length
  · refine hide9 fun C9 k9 => ?_
    obtain ⟨v, m', h1, h2, h3⟩ := h j e
    refine k9 ?_
    clear k9
    exact ⟨v, m', h1, by rw [List.getElem?_append_left e]; exact h2, h3⟩
  · obtain rfl : j = ms.length := by omega
    exact ⟨v, m, hv, by rw [List.getElem?_append_right (Nat.le_refl _), Nat.sub_self]; rfl, hm⟩
noncomputable def IdxTo (f : Nat → Int) (k : Nat) (ms : List Int) (i : Nat) (is : List Int) : Prop := ∀ j, j < i → ∃ (mv : Int) (p : Nat), ms[j]? = some mv ∧ is[j]? = some (p : Int) ∧ p < k ∧ f p = mv
theorem idxTo_snoc {f k ms is y} {p : Nat} (h : IdxTo f k ms is.length is) (hy : ms[is.length]? = some y) (hp : ((List.range k).map f)[p]? = some y) : IdxTo f k ms (is.length + 1) (is ++ [(p : Int)]) := by
  intro j hj
  by_cases e : j < is.length
  · refine hide9 fun C9 k9 => ?_
    obtain ⟨v, m', h1, h2, h3⟩ := h j e
    refine k9 ?_
    clear k9
    exact ⟨v, m', h1, by rw [List.getElem?_append_left e]; exact h2, h3⟩
  · obtain rfl : j = is.length := by omega
    refine ⟨y, p, hy, by rw [List.getElem?_append_right (Nat.le_refl _), Nat.sub_self]; rfl, ?_⟩
    rw [List.getElem?_map] at hp
    obtain ⟨q, hq, e⟩ := Option.map_eq_some_iff.mp hp
    have := List.getElem?_eq_some_iff.mp hq
    obtain ⟨hl, e2⟩ := this
    rw [List.length_range] at hl
    rw [List.getElem_range] at e2
    subst e2
    exact ⟨hl, e⟩
theorem is_mu {f : Nat → Int} {k mu j : Nat} (hdis : ∀ i j, i < j → j < k → f i ≠ f j) (hmu : mu < k) (hper : f k = f mu) (h : ((List.range k).map f)[j]? = some (f k)) : j = mu := by
  rw [List.getElem?_map] at h
  obtain ⟨q, hq, e⟩ := Option.map_eq_some_iff.mp h
  obtain ⟨hl, e2⟩ := List.getElem?_eq_some_iff.mp hq
  rw [List.length_range] at hl
  rw [List.getElem_range] at e2
  subst e2
  rw [hper] at e
  rcases Nat.lt_trichotomy j mu with h | h | h
  · exact absurd e (hdis _ _ h hmu)
  · exact h
  · exact absurd e.symm (hdis _ _ h hl)
/-- what _law_told tells: i0 -/
structure ToldI (f : Nat → Int) (q : Int) (k mu i0 : Nat) : Prop where
  lo : mu ≤ i0
  hi : i0 < k
  least : ∀ o, mu ≤ o → o < k → f o % q = f i0 % q → f i0 ≤ f o
  first : ∀ j, mu ≤ j → j < k → (∀ o, mu ≤ o → o < k → f o % q = f j % q → f j ≤ f o) → i0 ≤ j
theorem ring_at {f : Nat → Int} {k mu : Nat} {R : List Int} (hR : R = ((List.range k).map f).drop mu) (j : Nat) (h : mu + j < k) : R[j]? = some (f (mu + j)) := by
  rw [hR, List.getElem?_drop, List.getElem?_map, List.getElem?_range h]; rfl
theorem ring_mem {f : Nat → Int} {k mu : Nat} {R : List Int} (hR : R = ((List.range k).map f).drop mu) {v : Int} : v ∈ R ↔ ∃ o, mu ≤ o ∧ o < k ∧ f o = v := by
  constructor
  · intro h
    obtain ⟨j, hj⟩ := List.getElem?_of_mem h
    have hl : mu + j < k := by
      have := (List.getElem?_eq_some_iff.mp hj).1
      rw [hR] at this; simp at this; omega
    rw [ring_at hR j hl] at hj
    exact ⟨mu + j, Nat.le_add_right _ _, hl, Option.some.inj hj⟩
  · intro hz10z
    refine hide9 fun C9 k9 => ?_
    obtain ⟨o, h1, h2, rfl⟩ := hz10z
    refine k9 ?_
    clear k9
    have := ring_at hR (o - mu) (by omega)
    rw [show mu + (o - mu) = o by omega] at this
    exact List.mem_of_getElem? this
theorem told_of {f : Nat → Int} {q : Int} {k mu : Nat} {R ms is : List Int} {M : Int} {n : Nat} (hR : R = ((List.range k).map f).drop mu) (hmu : mu < k) (hdis : ∀ i j, i < j → j < k → f i ≠ f j) (hn : n = k - mu) (hl : LeastsTo R q n ms) (hx : IdxTo f k ms n is) (his : is.length = n) (hM : M ∈ is) (hmin : ∀ a, a ∈ is → M ≤ a) : ∃ i0 : Nat, M = (i0 : Int) ∧ ToldI f q k mu i0 := by
  have inj : ∀ a b, a < k → b < k → f a = f b → a = b := fun a b ha hb e => by
    rcases Nat.lt_trichotomy a b with h | h | h
    · exact absurd e (hdis _ _ h hb)
    · exact h
    · exact absurd e.symm (hdis _ _ h ha)
  obtain ⟨j, hj⟩ := List.getElem?_of_mem hM
  have hjn : j < n := by rw [← his]; exact (List.getElem?_eq_some_iff.mp hj).1
  refine hide9 fun C9 k9 => ?_
  obtain ⟨mv, p, h1, h2, h3, h4⟩ := hx j hjn
  obtain ⟨v, m', g1, g2, g3, g4, g5⟩ := hl j hjn
  refine k9 ?_
  clear k9
  rw [h1] at g2; cases g2
  rw [hj] at h2; cases h2
  refine ⟨p, rfl, ?_, h3, ?_, ?_⟩
  · refine hide9 fun C9 k9 => ?_
    obtain ⟨o, o1, o2, o3⟩ := (ring_mem hR).mp g3
    refine k9 ?_
    clear k9
    rw [inj _ _ h3 o2 (h4.trans o3.symm)]; exact o1
  · intro o o1 o2 o3
    rw [h4] at o3 ⊢
    exact g5 _ ((ring_mem hR).mpr ⟨o, o1, o2, rfl⟩) (o3.trans g4)
  · intro j' j1 j2 j3
    have hj'n : j' - mu < n := by omega
    refine hide9 fun C9 k9 => ?_
    obtain ⟨mv', p', h1', h2', h3', h4'⟩ := hx (j' - mu) hj'n
    obtain ⟨v', m', g1', g2', g3', g4', g5'⟩ := hl (j' - mu) hj'n
    refine k9 ?_
    clear k9
    rw [h1'] at g2'; cases g2'
    rw [ring_at hR _ (by omega), show mu + (j' - mu) = j' by omega] at g1'; cases g1'
    have e : mv' = f j' := by
      have a := g5' (f j') ((ring_mem hR).mpr ⟨j', j1, j2, rfl⟩) rfl
      refine hide9 fun C9 k9 => ?_
      obtain ⟨o, o1, o2, o3⟩ := (ring_mem hR).mp g3'
      refine k9 ?_
      clear k9
      have b := j3 o o1 o2 (by rw [o3]; exact g4')
      omega
    have : p' = j' := inj _ _ h3' j2 (h4'.trans e)
    subst this
    have := hmin _ (List.mem_of_getElem? h2')
    omega
theorem per_of {P : LawP} (hP : P.Ok) {k mu : Nat} (hmu : mu < k) (hper : P.f k = P.f mu) : ∀ n, k ≤ n → P.f n = P.f (n - (k - mu)) := by
  intro n hn
  induction n with
  | zero => omega
  | succ n ih =>
    by_cases e : k = n + 1
    · rw [← e, hper]; congr 1; omega
    · have h := ih (by omega)
      rw [hP.nx n, h, ← hP.nx (n - (k - mu))]; congr 1; omega
end Mine
end

section
open PySem PySem.W PySem.Calls PyProof.Rows
set_option maxRecDepth 100000
namespace Mine
/-- place p lies yet when beat b comes -/
noncomputable def lies (f : Nat → Int) (kd : Nat → Nat) (b p : Nat) : Bool := (List.range b).all fun q => !(decide (p < q) && decide (kd q = kd p) && decide (f q < f p))
theorem lies_iff {f kd b p} : lies f kd b p = true ↔ ∀ q, p < q → q < b → kd q = kd p → f p ≤ f q := by
  unfold lies
  simp only [List.all_eq_true, List.mem_range, Bool.not_eq_true', Bool.and_eq_false_iff, decide_eq_false_iff_not]
  constructor
  · intro h q h1 h2 h3
    rcases h q h2 with (h | h) | h
    · exact absurd h1 h
    · exact absurd h3 h
    · omega
  · intro h q h2
    by_cases h1 : p < q
    · by_cases h3 : kd q = kd p
      · exact .inr (by have := h q h1 h2 h3; omega)
      · exact .inl (.inr h3)
    · exact .inl (.inl h1)
theorem lies_succ {f kd b p} (hp : p < b) : lies f kd (b + 1) p = (lies f kd b p && !(decide (kd b = kd p) && decide (f b < f p))) := by
  unfold lies
  rw [List.range_succ, List.all_append]
  simp [hp]
noncomputable def pile (f : Nat → Int) (kd : Nat → Nat) (b k : Nat) : List Nat := (List.range b).filter fun p => decide (kd p = k) && lies f kd b p
noncomputable def gotten (f : Nat → Int) (kd : Nat → Nat) (q : Nat) : List Nat := (pile f kd q (kd q)).filter fun p => decide (f q < f p)
noncomputable def goneTo (f : Nat → Int) (kd : Nat → Nat) (b : Nat) : List Nat := (List.range b).flatMap (gotten f kd)
theorem mem_pile {f kd b k p} : p ∈ pile f kd b k ↔ p < b ∧ kd p = k ∧ lies f kd b p = true := by
  unfold pile
  simp [List.mem_filter, and_assoc]
theorem filter_congr' {α : Type} {p q : α → Bool} : ∀ {l : List α}, (∀ x ∈ l, p x = q x) → l.filter p = l.filter q
  | [], _ => rfl
  | a :: l, h => by
    rw [List.filter_cons, List.filter_cons, h a (.head _), filter_congr' fun x hx => h x (.tail _ hx)]
theorem pile_other {f kd b k} (h : kd b ≠ k) : pile f kd (b + 1) k = pile f kd b k := by
  unfold pile
  rw [List.range_succ, List.filter_append]
  have e : [b].filter (fun p => decide (kd p = k) && lies f kd (b + 1) p) = [] := by simp [h]
  rw [e, List.append_nil]
  refine filter_congr' fun p hp => ?_
  rw [lies_succ (List.mem_range.mp hp)]
  by_cases e : kd p = k
  · have : ¬ kd b = kd p := fun x => h (x.trans e)
    simp only [e, decide_true, Bool.true_and, decide_eq_false h, Bool.false_and, Bool.not_false, Bool.and_true]
  · simp [e]
theorem lies_self {f kd b} : lies f kd (b + 1) b = true := lies_iff.mpr fun q h1 h2 _ => by omega
/-- what stays of a pile under beat b -/
noncomputable def stay (f : Nat → Int) (kd : Nat → Nat) (b : Nat) : List Nat := (pile f kd b (kd b)).filter fun p => decide (f p ≤ f b)
theorem stay_eq {f kd b} : stay f kd b = (List.range b).filter fun p => decide (kd p = kd b) && lies f kd (b + 1) p := by
  unfold stay pile
  rw [List.filter_filter]
  refine filter_congr' fun p hp => ?_
  rw [lies_succ (List.mem_range.mp hp)]
  by_cases e : kd p = kd b
  · have e2 : (decide (f p ≤ f b)) = !decide (f b < f p) := by
      by_cases h : f p ≤ f b
      · simp [h]
      · simp [h]; omega
    simp only [e, decide_true, Bool.true_and, e2]
    rw [Bool.and_comm]
  · simp [e]
theorem pile_here {f kd b} : pile f kd (b + 1) (kd b) = stay f kd b ++ [b] := by
  rw [stay_eq]
  unfold pile
  rw [List.range_succ, List.filter_append]
  congr 1
  simp [lies_self]
theorem range_pairwise (n : Nat) : (List.range n).Pairwise (· < ·) := List.pairwise_lt_range
theorem pile_sorted {f kd b k} : (pile f kd b k).Pairwise fun p q => f p ≤ f q := by
  have h1 : (pile f kd b k).Pairwise (· < ·) := (range_pairwise b).sublist List.filter_sublist
  have h2 : ∀ (l : List Nat), (∀ p ∈ l, p ∈ pile f kd b k) → l.Pairwise (· < ·) → l.Pairwise fun p q => f p ≤ f q := by
    intro l hl hp
    induction l with
    | nil => exact .nil
    | cons a l ih =>
      obtain ⟨x, y⟩ := List.pairwise_cons.mp hp
      refine List.pairwise_cons.mpr ⟨fun c hc => ?_, ih (fun p hp => hl p (.tail _ hp)) y⟩
      obtain ⟨a1, a2, a3⟩ := mem_pile.mp (hl a (.head _))
      obtain ⟨c1, c2, c3⟩ := mem_pile.mp (hl c (.tail _ hc))
      exact lies_iff.mp a3 c (x c hc) c1 (c2.trans a2.symm)
  exact h2 _ (fun _ h => h) h1
theorem take_sorted {g : Nat → Int} {s : Int} : ∀ {l : List Nat}, l.Pairwise (fun p q => g p ≤ g q) → l.takeWhile (fun p => decide (g p ≤ s)) = l.filter (fun p => decide (g p ≤ s)) ∧ l.dropWhile (fun p => decide (g p ≤ s)) = l.filter (fun p => decide (s < g p))
  | [], _ => ⟨rfl, rfl⟩
  | a :: l, h => by
    obtain ⟨h1, h2⟩ := List.pairwise_cons.mp h
    obtain ⟨i1, i2⟩ := take_sorted (s := s) h2
    by_cases e : g a ≤ s
    · have e' : ¬ s < g a := by omega
      simp only [List.takeWhile_cons, List.dropWhile_cons, List.filter_cons, e, e', decide_true, decide_false, if_true, i1, i2]
      exact ⟨trivial, by simp⟩
    · have e' : s < g a := by omega
      simp only [List.takeWhile_cons, List.dropWhile_cons, List.filter_cons, e, e', decide_true, decide_false, if_true]
      have n1 : l.filter (fun p => decide (g p ≤ s)) = [] := List.filter_eq_nil_iff.mpr fun c hc => by have := h1 c hc; simp; omega
      have n2 : l.filter (fun p => decide (s < g p)) = l := List.filter_eq_self.mpr fun c hc => by have := h1 c hc; simp; omega
      rw [n1, n2]
      exact ⟨by simp, by simp⟩
structure Shares (sh : Nat → Int) (f : Nat → Int) (kd : Nat → Nat) : Prop where
  le : ∀ p q, kd p = kd q → (sh p ≤ sh q ↔ f p ≤ f q)
theorem kp_pile {sh f kd b} (S : Shares sh f kd) : kp sh (sh b) (pile f kd b (kd b)) = stay f kd b ∧ ot sh (sh b) (pile f kd b (kd b)) = gotten f kd b := by
  have hs : (pile f kd b (kd b)).Pairwise fun p q => sh p ≤ sh q := by
    have h1 : (pile f kd b (kd b)).Pairwise fun p q => f p ≤ f q := pile_sorted
    refine List.Pairwise.imp_of_mem (fun {p q} hp hq h => ?_) h1
    exact (S.le p q ((mem_pile.mp hp).2.1.trans (mem_pile.mp hq).2.1.symm)).mpr h
  obtain ⟨h1, h2⟩ := take_sorted (s := sh b) hs
  refine ⟨h1.trans (filter_congr' fun p hp => ?_), h2.trans (filter_congr' fun p hp => ?_)⟩
  · have := S.le p b (mem_pile.mp hp).2.1
    simp [this]
  · have := S.le p b (mem_pile.mp hp).2.1
    have e : sh b < sh p ↔ f b < f p := by omega
    simp [e]
theorem map_set {α : Type} {n i : Nat} {g : Nat → α} {g' : Nat → α} {x : α} (hi : i < n) (hx : g' i = x) (ho : ∀ j, j ≠ i → g' j = g j) : ((List.range n).map g).set i x = (List.range n).map g' := by
  apply List.ext_getElem
  · simp
  · intro j h1 h2
    rw [List.getElem_set]
    split
    · rename_i e; subst e; simp [hx]
    · rename_i e
      simp [ho j (fun h => e h.symm)]
theorem walk_runs {sh f kd} (S : Shares sh f kd) {K stop i0 : Nat} (hkd : ∀ b, kd b < K) (h1 : ∀ b p, b ≤ stop → p < b → kd p = kd b → lies f kd b p = true → f p = f b → b = stop ∧ p = i0) (h2 : i0 < stop) (h3 : f i0 = f stop) (h4 : kd i0 = kd stop) (h5 : lies f kd stop i0 = true) :
   ∀ (j b n : Nat), b + j = stop → stop < b + n → walkP sh kd n b ⟨goneTo f kd b, (List.range K).map (pile f kd b)⟩ = some (stop, stop - i0, ⟨goneTo f kd (stop + 1), (List.range K).map fun k => (List.range stop).filter fun p => decide (kd p = k) && lies f kd (stop + 1) p⟩) := by
  intro j
  induction j with
  | zero =>
    intro b n hb hn
    obtain rfl : b = stop := by omega
    obtain ⟨n, rfl⟩ : ∃ m, n = m + 1 := ⟨n - 1, by omega⟩
    have hgd : ((List.range K).map (pile f kd b)).getD (kd b) [] = pile f kd b (kd b) := by
      rw [List.getD_eq_getElem?_getD, List.getElem?_map, List.getElem?_range (hkd b)]; rfl
    obtain ⟨k1, k2⟩ := kp_pile (b := b) S
    have hin : i0 ∈ stay f kd b := List.mem_filter.mpr ⟨mem_pile.mpr ⟨h2, h4, h5⟩, by simp [h3]⟩
    have hlast : (stay f kd b).getLast? = some i0 := by
      have hne : stay f kd b ≠ [] := List.ne_nil_of_mem hin
      obtain ⟨pre, x, hx⟩ : ∃ pre x, stay f kd b = pre ++ [x] := ⟨_, _, (List.dropLast_concat_getLast hne).symm⟩
      have hxm : x ∈ stay f kd b := by rw [hx]; exact List.mem_append.mpr (.inr (.head _))
      obtain ⟨x1, x2⟩ := List.mem_filter.mp hxm
      have x2 : f x ≤ f b := of_decide_eq_true x2
      obtain ⟨y1, y2, y3⟩ := mem_pile.mp x1
      have hle : f i0 ≤ f x := by
        have hs : (stay f kd b).Pairwise fun p q => f p ≤ f q := pile_sorted.sublist List.filter_sublist
        rw [hx] at hs hin
        rcases List.mem_append.mp hin with h | h
        · exact (List.pairwise_append.mp hs).2.2 _ h x (.head _)
        · rw [List.mem_singleton.mp h]; omega
      have := (h1 b x (Nat.le_refl _) y1 y2 y3 (by omega)).2
      subst this
      rw [hx, List.getLast?_append]; rfl
    have he : sh i0 = sh b := by
      have a := S.le i0 b h4
      have c := S.le b i0 h4.symm
      omega
    rw [walkP_ret (p := i0) (by rw [hgd, k1]; exact hlast) he]
    simp only [hgd]
    rw [k1, k2]
    refine congrArg some (Prod.ext rfl (Prod.ext rfl ?_))
    show WS.mk _ _ = WS.mk _ _
    congr 1
    · show goneTo f kd b ++ gotten f kd b = goneTo f kd (b + 1)
      unfold goneTo
      rw [List.range_succ, List.flatMap_append]; simp
    · refine map_set (hkd b) ?_ fun k hk => ?_
      · exact stay_eq.symm
      · have := pile_other (f := f) (kd := kd) (b := b) (k := k) (fun h => hk h.symm)
        rw [← this]
        unfold pile
        rw [List.range_succ, List.filter_append]
        have e : [b].filter (fun p => decide (kd p = k) && lies f kd (b + 1) p) = [] := by simp; intro h; exact absurd h.symm hk
        rw [e, List.append_nil]
  | succ j ih =>
    intro b n hb hn
    obtain ⟨n, rfl⟩ : ∃ m, n = m + 1 := ⟨n - 1, by omega⟩
    have hgd : ((List.range K).map (pile f kd b)).getD (kd b) [] = pile f kd b (kd b) := by
      rw [List.getD_eq_getElem?_getD, List.getElem?_map, List.getElem?_range (hkd b)]; rfl
    obtain ⟨k1, k2⟩ := kp_pile (b := b) S
    rw [walkP_next ?hne]
    case hne =>
      rw [hgd, k1]
      intro p hp he
      have hm := List.mem_of_getLast? hp
      obtain ⟨x1, x2⟩ := List.mem_filter.mp hm
      obtain ⟨y1, y2, y3⟩ := mem_pile.mp x1
      have a := S.le p b y2
      have c := S.le b p y2.symm
      have := h1 b p (by omega) y1 y2 y3 (by omega)
      omega
    simp only [hgd]
    rw [k1, k2]
    have e1 : goneTo f kd b ++ gotten f kd b = goneTo f kd (b + 1) := by
      unfold goneTo
      rw [List.range_succ, List.flatMap_append]; simp
    have e2 : ((List.range K).map (pile f kd b)).set (kd b) (stay f kd b ++ [b]) = (List.range K).map (pile f kd (b + 1)) := map_set (hkd b) pile_here fun k hk => pile_other fun h => hk h.symm
    rw [e1, e2]
    exact ih (b + 1) n (by omega) (by omega)
end Mine
end

section
open PySem PySem.W PySem.Calls PyProof.Rows
set_option maxRecDepth 100000
namespace Mine
theorem kd_iff {P : LawP} (hP : P.Ok) (a b : Nat) : P.kd a = P.kd b ↔ P.f a % P.kinds = P.f b % P.kinds := by
  have h1 := hP.k1
  unfold LawP.kd
  rw [Int.fmod_eq_emod_of_nonneg _ (by omega), Int.fmod_eq_emod_of_nonneg _ (by omega)]
  have e1 := Int.emod_nonneg (P.f a) (show P.kinds ≠ 0 by omega)
  have e2 := Int.emod_nonneg (P.f b) (show P.kinds ≠ 0 by omega)
  omega
theorem shares_of {P : LawP} (hP : P.Ok) : Shares P.sh P.f P.kd := ⟨fun p q h => by
  have h1 := hP.k1
  have h := (kd_iff hP p q).mp h
  unfold LawP.sh
  rw [Int.fdiv_eq_ediv_of_nonneg _ (by omega), Int.fdiv_eq_ediv_of_nonneg _ (by omega)]
  have e1 := Int.emod_add_mul_ediv (P.f p) P.kinds
  have e2 := Int.emod_add_mul_ediv (P.f q) P.kinds
  have h2 := hP.k2
  have hk : P.kinds = 1 ∨ P.kinds = 2 ∨ P.kinds = 3 := by omega
  rcases hk with hk | hk | hk <;> rw [hk] at e1 e2 h ⊢ <;> omega⟩
theorem kd_lt2 {P : LawP} (hP : P.Ok) (b : Nat) : P.kd b < P.kinds.toNat := by
  have := kd_lt P hP b
  unfold LawP.kd
  exact (Int.toNat_lt_toNat (Int.lt_of_le_of_lt this.1 this.2)).mpr this.2
section
variable {P : LawP} {K mu i0 : Nat}
theorem per_mod (hP : P.Ok) (hmu : mu < K) (hper : P.f K = P.f mu) (n : Nat) (h : mu ≤ n) : P.f n = P.f (mu + (n - mu) % (K - mu)) := by
  induction n using Nat.strongRecOn with
  | _ n ih =>
    by_cases hn : n < K
    · rw [Nat.mod_eq_of_lt (by omega)]; congr 1; omega
    · have e := per_of hP hmu hper n (by omega)
      rw [e, ih (n - (K - mu)) (by omega) (by omega)]
      congr 2
      have : n - mu = (n - (K - mu) - mu) + (K - mu) := by omega
      rw [this, Nat.add_mod_right]
theorem ring_hit (hP : P.Ok) (hmu : mu < K) (hper : P.f K = P.f mu) (p o : Nat) (hp : mu ≤ p) (h1 : mu ≤ o) (h2 : o < K) : ∃ q, p ≤ q ∧ q < p + (K - mu) ∧ P.f q = P.f o := by
  refine hide9 fun C9 k9 => ?_
  obtain ⟨q, q1, q2, q3⟩ := ring_aux (K - mu) (p - mu) (o - mu) (Nat.sub_lt_sub_right h1 h2)
  refine k9 ?_
  clear k9
  refine ⟨mu + q, Nat.sub_le_iff_le_add'.mp q1, ?_, ?_⟩
  · have := Nat.add_lt_add_left q2 mu
    rwa [← Nat.add_assoc, Nat.add_sub_cancel' hp] at this
  · rw [per_mod hP hmu hper _ (Nat.le_add_right mu q), Nat.add_sub_cancel_left, q3, Nat.add_sub_cancel' h1]
/-- no place of a pile comes again but at the end -/
theorem first_again (hP : P.Ok) (hmu : mu < K) (hdis : ∀ i j, i < j → j < K → P.f i ≠ P.f j) (hper : P.f K = P.f mu) (T : ToldI P.f P.kinds K mu i0) :
   ∀ b p, b ≤ i0 + (K - mu) → p < b → P.kd p = P.kd b → lies P.f P.kd b p = true → P.f p = P.f b → b = i0 + (K - mu) ∧ p = i0 := by
  intro b p hb hpb hk hl he
  have inj : ∀ a b, a < K → b < K → P.f a = P.f b → a = b := fun a b ha hb e => by
    rcases Nat.lt_trichotomy a b with h | h | h
    · exact absurd e (hdis _ _ h hb)
    · exact h
    · exact absurd e.symm (hdis _ _ h ha)
  have hbK : K ≤ b := Nat.le_of_not_lt fun h => hdis p b hpb h he
  have hlam : 0 < K - mu := by omega
  have hb' := per_mod hP hmu hper b (by omega)
  have a1 := Nat.mod_lt (b - mu) hlam
  have hpm : mu ≤ p := by
    by_cases h : p < K
    · have := inj p (mu + (b - mu) % (K - mu)) h (by omega) (he.trans hb')
      omega
    · omega
  have hp' := per_mod hP hmu hper p hpm
  have a2 := Nat.mod_lt (p - mu) hlam
  have em : (p - mu) % (K - mu) = (b - mu) % (K - mu) := by
    have := inj (mu + (p - mu) % (K - mu)) (mu + (b - mu) % (K - mu)) (by omega) (by omega) (by rw [← hp', he, hb'])
    omega
  have hge : p + (K - mu) ≤ b := by
    have d1 := Nat.div_add_mod (p - mu) (K - mu)
    have d2 := Nat.div_add_mod (b - mu) (K - mu)
    rw [em] at d1
    have hlt : (p - mu) / (K - mu) < (b - mu) / (K - mu) := by
      refine Nat.lt_of_not_le fun h => ?_
      have := Nat.mul_le_mul_left (K - mu) h
      omega
    have := Nat.mul_le_mul_left (K - mu) (show (p - mu) / (K - mu) + 1 ≤ (b - mu) / (K - mu) from hlt)
    rw [Nat.mul_add] at this
    omega
  have hj : i0 ≤ mu + (p - mu) % (K - mu) := by
    refine T.first _ (by omega) (by omega) fun o o1 o2 o3 => ?_
    rw [← hp'] at o3 ⊢
    refine hide9 fun C9 k9 => ?_
    obtain ⟨q, q1, q2, q3⟩ := ring_hit hP hmu hper p o hpm o1 o2
    refine k9 ?_
    clear k9
    rw [← q3]
    by_cases e : q = p
    · rw [e]; exact Int.le_refl _
    · exact lies_iff.mp hl q (by omega) (by omega) ((kd_iff hP _ _).mpr (by rw [q3]; exact o3))
  have := Nat.mod_le (p - mu) (K - mu)
  omega
theorem walk_told (hP : P.Ok) (hmu : mu < K) (hdis : ∀ i j, i < j → j < K → P.f i ≠ P.f j) (hper : P.f K = P.f mu) (T : ToldI P.f P.kinds K mu i0) {n : Nat} (hn : i0 + (K - mu) < n) :
   walkP P.sh P.kd n 0 ⟨[], List.replicate P.kinds.toNat []⟩ = some (i0 + (K - mu), K - mu, ⟨goneTo P.f P.kd (i0 + (K - mu) + 1), (List.range P.kinds.toNat).map fun k => (List.range (i0 + (K - mu))).filter fun p => decide (P.kd p = k) && lies P.f P.kd (i0 + (K - mu) + 1) p⟩) := by
  have hi := T.lo
  have hi2 := T.hi
  have e3 : P.f i0 = P.f (i0 + (K - mu)) := by
    rw [per_of hP hmu hper (i0 + (K - mu)) (by omega)]; congr 1; omega
  have e4 : P.kd i0 = P.kd (i0 + (K - mu)) := (kd_iff hP _ _).mpr (by rw [e3])
  have h := walk_runs (shares_of hP) (kd_lt2 hP) (first_again hP hmu hdis hper T) (by omega) e3 e4 (lies_iff.mpr fun q h1 h2 h3 => by
    have hq := per_mod hP hmu hper q (by omega)
    have := Nat.mod_lt (q - mu) (show 0 < K - mu by omega)
    rw [hq]
    refine T.least _ (by omega) (by omega) ?_
    rw [← hq]; exact (kd_iff hP _ _).mp h3) (i0 + (K - mu)) 0 n (by omega) (by omega)
  have e0 : (List.range P.kinds.toNat).map (pile P.f P.kd 0) = List.replicate P.kinds.toNat [] := by
    apply List.ext_getElem
    · simp
    · intro j h1 h2; simp [pile]
  rw [e0] at h
  rw [show i0 + (K - mu) - i0 = K - mu by omega] at h
  exact h
end
/-- the first lesser place of its kind behind p, or nought -/
noncomputable def lessers (f : Nat → Int) (q : Int) (stop p : Nat) : List Nat := (List.range' (p + 1) (stop - p)).filter fun o => decide (f o % q = f p % q) && decide (f o < f p)
noncomputable def firstOf (f : Nat → Int) (q : Int) (stop p : Nat) : Nat := (lessers f q stop p).headD 0
theorem head_filter {α : Type} {p : α → Bool} : ∀ {l : List α} {x : α}, (l.filter p).head? = some x → ∃ pre post, l = pre ++ x :: post ∧ p x = true ∧ ∀ y ∈ pre, p y = false
  | [], x, h => by simp at h
  | a :: l, x, h => by
    by_cases e : p a = true
    · rw [List.filter_cons, if_pos e] at h
      cases h
      exact ⟨[], l, rfl, e, fun y hy => nomatch hy⟩
    · rw [List.filter_cons, if_neg e] at h
      refine hide9 fun C9 k9 => ?_
      obtain ⟨pre, post, rfl, h1, h2⟩ := head_filter h
      refine k9 ?_
      clear k9
      refine ⟨a :: pre, post, rfl, h1, fun y hy => ?_⟩
      rcases List.mem_cons.mp hy with rfl | hy
      · simpa using e
      · exact h2 y hy
theorem mem_lessers {f q stop p o} : o ∈ lessers f q stop p ↔ p < o ∧ o ≤ stop ∧ f o % q = f p % q ∧ f o < f p := by
  unfold lessers
  simp only [List.mem_filter, List.mem_range'_1, Bool.and_eq_true, decide_eq_true_eq]
  omega
section
variable {P : LawP} {stop : Nat}
theorem first_zero (hP : P.Ok) {p : Nat} : firstOf P.f P.kinds stop p = 0 ↔ lies P.f P.kd (stop + 1) p = true := by
  rw [lies_iff]
  unfold firstOf
  cases h : lessers P.f P.kinds stop p with
  | nil =>
    refine ⟨fun _ q h1 h2 h3 => ?_, fun _ => rfl⟩
    rcases Int.lt_or_le (P.f q) (P.f p) with g | g
    · have : q ∈ lessers P.f P.kinds stop p := mem_lessers.mpr ⟨h1, by omega, (kd_iff hP _ _).mp h3, g⟩
      rw [h] at this; cases this
    · exact g
  | cons o l =>
    have ho : o ∈ lessers P.f P.kinds stop p := by rw [h]; exact .head _
    refine hide9 fun C9 k9 => ?_
    obtain ⟨h1, h2, h3, h4⟩ := mem_lessers.mp ho
    refine k9 ?_
    clear k9
    refine ⟨fun e => ?_, fun e => ?_⟩
    · have e : o = 0 := e
      omega
    · have := e o h1 (by omega) ((kd_iff hP _ _).mpr h3)
      omega
theorem first_eq (hP : P.Ok) {p q : Nat} (hq : q ≠ 0) : firstOf P.f P.kinds stop p = q ↔ (p < q ∧ q ≤ stop ∧ P.kd p = P.kd q ∧ lies P.f P.kd q p = true ∧ P.f q < P.f p) := by
  constructor
  · intro h
    unfold firstOf at h
    have hh : (lessers P.f P.kinds stop p).head? = some q := by
      cases e : lessers P.f P.kinds stop p with
      | nil => rw [e] at h; exact absurd h.symm hq
      | cons o l => rw [e] at h; exact congrArg some h
    have hm : q ∈ lessers P.f P.kinds stop p := List.mem_of_head? hh
    refine hide9 fun C9 k9 => ?_
    obtain ⟨h1, h2, h3, h4⟩ := mem_lessers.mp hm
    refine k9 ?_
    clear k9
    refine ⟨h1, h2, ((kd_iff hP _ _).mpr h3).symm, lies_iff.mpr fun r r1 r2 r3 => ?_, h4⟩
    refine hide9 fun C9 k9 => ?_
    obtain ⟨pre, post, e1, e2, e3⟩ := head_filter hh
    refine k9 ?_
    clear k9
    have hr : r ∈ pre := by
      have hr' : r ∈ List.range' (p + 1) (stop - p) := by rw [List.mem_range'_1]; omega
      have hs : (List.range' (p + 1) (stop - p)).Pairwise (· < ·) := List.pairwise_lt_range'
      rw [e1] at hr' hs
      rcases List.mem_append.mp hr' with g | g
      · exact g
      rcases List.mem_cons.mp g with rfl | g
      · omega
      · have := (List.pairwise_cons.mp (List.pairwise_append.mp hs).2.1).1 r g
        omega
    have := e3 r hr
    simp only [Bool.and_eq_false_iff, decide_eq_false_iff_not] at this
    rcases this with g | g
    · exact absurd ((kd_iff hP _ _).mp r3) g
    · omega
  · intro hz11z
    refine hide9 fun C9 k9 => ?_
    obtain ⟨h1, h2, h3, h4, h5⟩ := hz11z
    refine k9 ?_
    clear k9
    have hm : q ∈ lessers P.f P.kinds stop p := mem_lessers.mpr ⟨h1, h2, (kd_iff hP _ _).mp h3.symm, h5⟩
    unfold firstOf
    cases e : lessers P.f P.kinds stop p with
    | nil => rw [e] at hm; cases hm
    | cons o l =>
      show o = q
      have ho : o ∈ lessers P.f P.kinds stop p := by rw [e]; exact .head _
      refine hide9 fun C9 k9 => ?_
      obtain ⟨g1, g2, g3, g4⟩ := mem_lessers.mp ho
      refine k9 ?_
      clear k9
      have hs : (lessers P.f P.kinds stop p).Pairwise (· < ·) := List.Pairwise.sublist List.filter_sublist List.pairwise_lt_range'
      rw [e] at hs hm
      rcases List.mem_cons.mp hm with g | g
      · exact g.symm
      · have := (List.pairwise_cons.mp hs).1 q g
        have := lies_iff.mp h4 o g1 this ((kd_iff hP _ _).mpr g3)
        omega
/-- the pairs, in the order of the sorted list -/
noncomputable def orderL (f : Nat → Int) (kd : Nat → Nat) (stop : Nat) : List (Nat × Nat) := (List.range (stop + 1)).flatMap fun q => (gotten f kd q).map fun p => (q, p)
theorem order_gone {f kd stop} : (orderL f kd stop).map (·.2) = goneTo f kd (stop + 1) := by
  unfold orderL goneTo
  rw [List.map_flatMap]
  congr 1
  funext q
  rw [List.map_map]
  exact List.map_id' _
theorem mem_gotten {f kd q p} : p ∈ gotten f kd q ↔ p < q ∧ kd p = kd q ∧ lies f kd q p = true ∧ f q < f p := by
  unfold gotten
  rw [List.mem_filter, mem_pile, decide_eq_true_iff]
  constructor
  · rintro ⟨⟨a, b, c⟩, d⟩; exact ⟨a, b, c, d⟩
  · rintro ⟨a, b, c, d⟩; exact ⟨⟨a, b, c⟩, d⟩
noncomputable def lex (a b : Nat × Nat) : Prop := a.1 < b.1 ∨ (a.1 = b.1 ∧ a.2 < b.2)
theorem gotten_sorted {f kd q} : (gotten f kd q).Pairwise (· < ·) := ((range_pairwise q).sublist List.filter_sublist).sublist List.filter_sublist
theorem order_sorted {f kd stop} : (orderL f kd stop).Pairwise lex := by
  unfold orderL
  rw [List.pairwise_flatMap]
  refine ⟨fun q hq => ?_, ?_⟩
  · rw [List.pairwise_map]
    exact gotten_sorted.imp fun h => .inr ⟨rfl, h⟩
  · refine (range_pairwise (stop + 1)).imp fun h => ?_
    intro x hx y hy
    obtain ⟨a, _, rfl⟩ := List.mem_map.mp hx
    obtain ⟨b, _, rfl⟩ := List.mem_map.mp hy
    exact .inl h
/-- the pairs before the sort -/
noncomputable def pairsL (g : Nat → Nat) (stop : Nat) : List (Nat × Nat) := ((List.range stop).filter fun p => decide (g p ≠ 0)).map fun p => (g p, p)
theorem mem_order (hP : P.Ok) {x : Nat × Nat} : x ∈ orderL P.f P.kd stop ↔ x ∈ pairsL (firstOf P.f P.kinds stop) stop := by
  obtain ⟨q, p⟩ := x
  unfold orderL pairsL
  simp only [List.mem_flatMap, List.mem_map, List.mem_range, List.mem_filter, decide_eq_true_eq]
  constructor
  · intro hz12z
    refine hide9 fun C9 k9 => ?_
    obtain ⟨q', hq, p', hp, e⟩ := hz12z
    refine k9 ?_
    clear k9
    cases e
    refine hide9 fun C9 k9 => ?_
    obtain ⟨h1, h2, h3, h4⟩ := mem_gotten.mp hp
    refine k9 ?_
    clear k9
    have e := (first_eq (stop := stop) hP (p := p) (q := q) (by omega)).mpr ⟨h1, by omega, h2, h3, h4⟩
    exact ⟨p, ⟨by omega, by omega⟩, by rw [e]⟩
  · intro hz13z
    refine hide9 fun C9 k9 => ?_
    obtain ⟨p', ⟨h1, h2⟩, e⟩ := hz13z
    refine k9 ?_
    clear k9
    cases e
    refine hide9 fun C9 k9 => ?_
    obtain ⟨g1, g2, g3, g4, g5⟩ := (first_eq (stop := stop) hP (p := p) h2).mp rfl
    refine k9 ?_
    clear k9
    exact ⟨_, by omega, p, mem_gotten.mpr ⟨g1, g3, g4, g5⟩, rfl⟩
end
theorem lex_irrefl {a : Nat × Nat} : ¬ lex a a := by rintro (h | ⟨_, h⟩) <;> omega
theorem lex_asymm {a b : Nat × Nat} (h : lex a b) : ¬ lex b a := by unfold lex at *; omega
/-- two lists in strict order with the same members are the same -/
theorem sorted_same : ∀ {l l' : List (Nat × Nat)}, l.Pairwise lex → l'.Pairwise lex → (∀ x, x ∈ l ↔ x ∈ l') → l = l'
  | [], [], _, _, _ => rfl
  | [], b :: _, _, _, h => nomatch (h b).mpr (.head _)
  | a :: _, [], _, _, h => nomatch (h a).mp (.head _)
  | a :: l, b :: l', h1, h2, h => by
    obtain ⟨p1, p2⟩ := List.pairwise_cons.mp h1
    obtain ⟨q1, q2⟩ := List.pairwise_cons.mp h2
    have e : a = b := by
      rcases List.mem_cons.mp ((h a).mp (.head _)) with g | g
      · exact g
      rcases List.mem_cons.mp ((h b).mpr (.head _)) with g' | g'
      · exact g'.symm
      · exact absurd (p1 b g') (lex_asymm (q1 a g))
    subst e
    rw [sorted_same p2 q2 fun x => ?_]
    constructor
    · intro hx
      rcases List.mem_cons.mp ((h x).mp (.tail _ hx)) with rfl | g
      · exact absurd (p1 _ hx) lex_irrefl
      · exact g
    · intro hx
      rcases List.mem_cons.mp ((h x).mpr (.tail _ hx)) with rfl | g
      · exact absurd (q1 _ hx) lex_irrefl
      · exact g
end Mine
end

section
open PySem PySem.W PySem.Calls PyProof.Rows
set_option maxRecDepth 100000
set_option maxHeartbeats 0
namespace Mine
theorem notinN {prog : Program} {w : World} {A : Around} {E : Value → Shared → Prop} {s : Shared} {h₀ : Heap} {L l : Addr} {news : List (Addr × Obj)} {vs : List Value} {ns : List Int} {n : Nat} {k : Int} {t : Tok} {Q : Value → Shared → Prop} (N : News h₀ L s.heap news) (hm : (l, listOf vs.toArray n) ∈ news) (hi : IntsAre vs ns)
   (h : ∀ b : Bool, (b = true ↔ k ∉ ns) → Q (.bool b) s) : wpAny (model prog w) A (compareOp .NotIn (.int k t) (.ref l)) Q E s := by
  refine notin_list_ints ⟨_, (N _ hm).1, rfl, n, rfl⟩ hi (h _ ?_)
  simp only [Bool.not_eq_true', List.any_eq_false, beq_iff_eq]
  exact ⟨fun h hk => h k hk rfl, fun h x hx e => h (e ▸ hx)⟩
theorem kf_ints_of {vs : List Value} {ns : List Int} (h : IntsAre vs ns) : kf_ints vs = true := by
  induction h with
  | nil => rfl
  | cons i t _ ih => exact ih
theorem kf_at_of {vs : List Value} {ns : List Int} (h : IntsAre vs ns) {k : Int} (hk : k ∈ ns) : ∃ j, kf_at k vs = some j ∧ j < ns.length ∧ ns[j]? = some k ∧ ∀ i, i < j → ns[i]? ≠ some k := by
  induction h with
  | nil => cases hk
  | cons i t h ih =>
    by_cases e : i = k
    · subst e
      exact ⟨0, by simp [kf_at, isInt], Nat.succ_pos _, rfl, fun i hi => absurd hi (Nat.not_lt_zero _)⟩
    · refine hide9 fun C9 k9 => ?_
      obtain ⟨j, h1, h2, h3, h4⟩ := ih ((List.mem_cons.mp hk).resolve_left (fun h => e h.symm))
      refine k9 ?_
      clear k9
      refine ⟨j + 1, ?_, Nat.succ_lt_succ h2, h3, fun i' hi' => ?_⟩
      · unfold kf_at
        have : isInt k (.int i t) = false := by simp [isInt, e]
        rw [this, h1]; rfl
      · cases i' with
        | zero => intro h; simp at h; exact e h
        | succ i' => exact h4 i' (Nat.lt_of_succ_lt_succ hi')
theorem indexN {prog : Program} {w : World} {A : Around} {E : Value → Shared → Prop} {s : Shared} {h₀ : Heap} {L l : Addr} {news : List (Addr × Obj)} {vs : List Value} {ns : List Int} {n : Nat} {k : Int} {t : Tok} {Q : Value → Shared → Prop} (N : News h₀ L s.heap news) (hm : (l, listOf vs.toArray n) ∈ news) (hi : IntsAre vs ns) (hz : ns.length ≤ 1000) (hk : k ∈ ns)
   (h : ∀ (j : Nat) t' k', j < ns.length → ns[j]? = some k → (∀ i, i < j → ns[i]? ≠ some k) → Q (.int (j : Int) t') { s with toks := k' }) : wpAny (model prog w) A (call (.builtin "list.index") [.ref l, .int k t]) Q E s := by
  refine hide9 fun C9 k9 => ?_
  obtain ⟨j, h1, h2, h3, h4⟩ := kf_at_of hi hk
  refine k9 ?_
  clear k9
  have hl := hi.length
  exact kf_index N hm (kf_ints_of hi) h1 rfl (by dsimp only; rw [hl]; exact Nat.le_trans hz (by decide)) (h j _ _ h2 h3 h4)
theorem minN {prog : Program} {w : World} {A : Around} {E : Value → Shared → Prop} {s : Shared} {h₀ : Heap} {L l : Addr} {m : Str → Option Value} {news : List (Addr × Obj)} {vs : List Value} {ns : List Int} {n : Nat} {Q : Value → Shared → Prop} (F : Fr h₀ L s.heap m) (N : News h₀ L s.heap news) (hm : (l, listOf vs.toArray n) ∈ news) (hi : IntsAre vs ns) (hne : 0 < ns.length) (hh : A.handled = none)
    (h : ∀ h' M (t : Tok) tk, Fr h₀ L h' m → News h₀ L h' news → M ∈ ns → (∀ a, a ∈ ns → M ≤ a) → Q (.int M t) { s with heap := h', toks := tk }) : wpAny (model prog w) A (call (.builtin "min") [.ref l]) Q E s :=
  kso_min F N ⟨_, (N _ hm).1, rfl, n, rfl⟩ hi hne hh h
theorem le_line {vs : List Value} {R : List Int} {f : Nat → Int} {j k : Nat} (h : IntsAre vs R) (hR : ((List.range k).map f).drop j = R) (hk : k ≤ 9) : vs.length ≤ sizeLine := by
  rw [h.length, ← hR, sizeLine_eq]; simp; omega
structure TdJ (P : LawP) (K : Nat) (l : Addr) (fix : List (Addr × Obj)) (vz vt : Value) (n : Nat) (m : Str → Option Value) (nw : List (Addr × Obj)) : Prop where
  ex : ∃ (k : Nat) (vs : List Value) (ep : Nat) (sp : Tok), n = K - k ∧ k ≤ K ∧ IntsAre vs ((List.range k).map P.f) ∧ nw = (l, listOf vs.toArray ep) :: fix ∧ m "spot" = some (.int (P.f k) sp)
  z : m "size" = some vz
  t : m "terms" = some vt
theorem ints_at {vs : List Value} {ns : List Int} (h : IntsAre vs ns) : ∀ {i : Nat} {v : Value}, vs[i]? = some v → ∃ x t, v = .int x t ∧ ns[i]? = some x := by
  induction h with
  | nil => intro i v h; cases i <;> cases h
  | cons n t h ih =>
    intro i v hi
    cases i with
    | zero => cases hi; exact ⟨n, t, rfl, rfl⟩
    | succ i => exact ih hi
theorem off4_of {nw : List (Addr × Obj)} {I X C D : Addr} {oI oX oC oD : Obj} (h : ∀ p ∈ nw, @Ne Nat p.1 I ∧ @Ne Nat p.1 X ∧ @Ne Nat p.1 C ∧ @Ne Nat p.1 D) : ∀ p ∈ nw, ∀ q ∈ [(I, oI), (X, oX), (C, oC), (D, oD)], p.1 ≠ q.1 := by
  intro p hp q hq
  refine hide9 fun C9 k9 => ?_
  obtain ⟨h1, h2, h3, h4⟩ := h p hp
  refine k9 ?_
  clear k9
  rcases List.mem_cons.mp hq with rfl | hq
  · exact h1
  rcases List.mem_cons.mp hq with rfl | hq
  · exact h2
  rcases List.mem_cons.mp hq with rfl | hq
  · exact h3
  rcases List.mem_cons.mp hq with rfl | hq
  · exact h4
  · cases hq
structure TeJ (P : LawP) (k stop : Nat) (l : Addr) (fix : List (Addr × Obj)) (vs0 : Value) (n : Nat) (m : Str → Option Value) (nw : List (Addr × Obj)) : Prop where
  ex : ∃ (i : Nat) (vs : List Value) (ep : Nat), n = stop + 1 - i ∧ k ≤ i ∧ i ≤ stop + 1 ∧ IntsAre vs ((List.range i).map P.f) ∧ nw = (l, listOf vs.toArray ep) :: fix
  st : m "stop" = some vs0
theorem sub_told {a b c d e f g : Addr × Obj} {r : List (Addr × Obj)} : ∀ x ∈ a :: b :: r, x ∈ a :: b :: c :: d :: e :: f :: g :: r := by simp +contextual [or_imp]
theorem news_3p {h₀ h : Heap} {L : Addr} {a b c p : Addr × Obj} {r : List (Addr × Obj)} (N : News h₀ L h (a :: b :: c :: p :: r)) : News h₀ L h (p :: c :: r) := news_sub N (by simp +contextual [or_imp, forall_and])
theorem row_at {P : LawP} (hP : P.Ok) {k mu i : Nat} {vs ws : List Value} (hmu : mu < k) (hper : P.f k = P.f mu) (hi : k ≤ i) (hw : ws.length = k - mu) (h : IntsAre vs ((List.range i).map P.f)) : ((List.range i).map P.f).getD ((vs.length : Int) - (ws.length : Int)).toNat 0 = P.f i := by
  have hl : vs.length = i := by have := h.length; simpa using this
  have e : ((vs.length : Int) - (ws.length : Int)).toNat = i - (k - mu) := by rw [hl, hw]; omega
  rw [e, List.getD_eq_getElem?_getD, List.getElem?_map, List.getElem?_range (by omega)]
  exact (per_of hP hmu hper i hi).symm
section
theorem c_told (w : World) (loose mean mg mb) (dp un : Nat) (gd cn nms mr a ccd cl outer A₀ base h₀ L m news s) (P : LawP) (hP : P.Ok) (tz tkk ts : Tok) (tA : Addr) (tv0 tv1 tv2 : Tok) (ep0 : Nat)
   (H : At w loose mean mg mb dp un A₀ base h₀ outer L m news s) (K mu : Nat) (hK : K ≤ 9) (hmu : mu < K) (hdis : ∀ i j, i < j → j < K → P.f i ≠ P.f j) (hper : P.f K = P.f mu) (hterms : (tA, listOf #[.int P.t0 tv0, .int P.t1 tv1, .int P.t2 tv2] ep0) ∈ news) (Q E : Value → Shared → Prop)
   (hret : ∀ i0 T rowA vs ep h' tk' t1 t2, ToldI P.f P.kinds K mu i0 → IntsAre vs ((List.range (i0 + (K - mu) + 1)).map P.f) → Fr h₀ L h' m → News h₀ L h' ((T, tupO [.ref rowA, .int ((i0 + (K - mu) : Nat) : Int) t1, .int ((K - mu : Nat) : Int) t2]) :: (rowA, listOf vs.toArray ep) :: news) → Q (.ref T) { s with heap := h', toks := tk' }) :
   wpAny (model PG w) (topA dp un gd cn nms mr L a ccd cl outer) (call (.ref 171) [.int P.size tz, .int P.kinds tkk, .ref tA, .int (P.f 0) ts]) Q E s := by
  k_with_none
  (k_with "all here" => first | assumption | ((with_reducible refine List.forall_mem_cons.mpr ⟨?_, ?_⟩); k_ne; k_all) | ((repeat (cases ‹_ ∧ _›)); first | assumption | walk_at "all tail" | walk_at "all raw"))
  (k_with "execs cons" => (k_here; (fail_if_success k_gentoks); (fail_if_success k_made); (with_reducible refine wpAny_execs_cons ?_); k_fold; (try dsimp only)))
  (k_with "eval Name" => (k_here; (fail_if_success (with_reducible show wpAny _ _ (eval _ (compEnvC _ _ _ _)) _ _ _)); k_dflt (refine' nameX_C ?Nkq ?ckq ?mkq ?dkq ?_ ?akq ?bkq; (case akq => exact Eq.refl _); (case bkq => exact Eq.refl (some _)); (case Nkq => k_asm); (case ckq => exact Eq.refl (some _)); (case mkq => k_mem); (case dkq => k_asm); k_whole)))
  (k_with "eval Name" => (k_here; (fail_if_success (with_reducible show wpAny _ _ (eval _ (compEnvC _ _ _ _)) _ _ _)); k_dflt (refine' nameX_L ?Fkq ?vkq ?_ ?akq ?bkq; (case Fkq => k_asm); (case akq => exact Eq.refl _); (case bkq => exact Eq.refl (some _)); (case vkq => exact Eq.refl (some _)); k_whole)))
  (k_with "callWith ref" => (k_here; (with_reducible show wpAny _ _ (callWith _ (Value.ref (OfNat.ofNat _)) _ _ _) _ _ _); k_dflt (refine' callWith_KW ?k1q ?k2q ?k3q ?_; (case k1q => k_asm); (case k2q => k_is); (case k3q => exact rfl); k_whole)))
  (k_with "callWith ref" => (k_here; (with_reducible show wpAny _ _ (callWith _ (Value.ref (OfNat.ofNat _)) _ _ _) _ _ _); k_dflt (refine' callWith_K0 ?k1q ?k2q ?_; (case k1q => first | with_reducible assumption | exact Frag.In.keeps (by with_reducible assumption) (Fr.keep (by with_reducible assumption)) | k_in); (case k2q => k_is); k_whole)))
  (k_with "callWith ref" => (k_here; (with_reducible show wpAny _ _ (callWith _ (Value.ref (OfNat.ofNat _)) _ _ _) _ _ _); k_dflt (refine' callWith_K ?k1q ?k2q ?_; (case k1q => k_asm); (case k2q => k_is); k_whole)))
  (k_with "all raw" => ((with_reducible rename ∀ p, p ∈ _ → @LT.lt Nat _ (Prod.fst p) _ => h9zq); first | exact rawLt_ne h9zq (by (fail_if_success (fail_if_success (omega (config := {})))); lia) | (clear h9zq; walk_at "all raw")))
  (k_with "all tail" => ((with_reducible rename AllLt _ _ => h9zq); first | exact allLt_ne h9zq (by (fail_if_success (fail_if_success (omega (config := {})))); lia) | (clear h9zq; walk_at "all tail")))
  (k_with "compareOp NotIn int ref" => (k_here; k_dflt (refine' notinN ?Nk193q ?mk193q ?ik193q ?_; (case Nk193q => k_asm); (case mk193q => k_mem); (case ik193q => assumption)); intro _ _))
  (k_with "call builtin:list.index" => (k_here; k_dflt (refine' indexN ?Nk194q ?mk194q ?ik194q ?zk194q ?kk194q ?_; (case Nk194q => k_asm); (case mk194q => k_mem); (case ik194q => assumption); (case zk194q => walk_at "ix z"); (case kk194q => walk_at "ix k")); intro _ _ _ _ _ _))
  (k_with "ix z" => (simp only [List.length_map, List.length_range]; omega))
  (k_with "ix k" => assumption)
  (k_with "call builtin:list.append" => (k_here; (with_reducible show wpAny _ _ (call (Value.builtin _) [Value.ref _, _]) _ _ _); k_dflt (refine' appendN ?Fk197q ?Nk197q ?Uk197q ?zk197q ?_; (case Fk197q => k_asm); (case Nk197q => k_asm); (case Uk197q => k_upd); (case zk197q => assumption); k_whole); intro _ _ _; (try k_sweep)))
  (k_with "it9" => first | assumption | omega | decide)
  (k_with "subscriptTail Name Constant ref int" => (k_here; (with_reducible show wpAny _ _ (subscriptTail _ _ (Value.ref _) (Value.int _ _)) _ _ _); k_dflt (refine' listItem ?Nk199q ?mk199q ?ak199q ?bk199q ?ck199q ?_; (case Nk199q => k_asm); (case mk199q => k_mem); (case ak199q => walk_at "it9"); (case bk199q => walk_at "it9"); (case ck199q => exact rfl))))
  (k_with "subscriptTail Name Slice ref ref" => (k_here; k_dflt (refine' kmk_slice_ints ?Fk200q ?Nk200q ?lk200q ?pk200q ?qk200q ?ik200q ?mk200q ?ck200q ?_ ?sk200q ?tk200q ?zk200q; (case Fk200q => k_asm); (case Nk200q => k_asm); (case lk200q => exact News.isList (by k_asm) (by k_mem)); (case pk200q => exact IsPart.int _ _); (case qk200q => exact IsPart.none); (case ik200q => l_ints); (case mk200q => exact kmk_from (by l_ints) (by first | assumption | omega)); (case ck200q => exact List.length_drop ..); (case sk200q => with_unfolding_all rfl); (case tk200q => kmk_pure); (case zk200q => kmk_size)); intro _ _ _ _ _ l1zq hIzq hCzq hLzq; (try simp only [Int.reduceNeg, Int.neg_neg, Int.reduceToNat] at hIzq hCzq hLzq); (try k_lt l1zq); (try k_sweep)))
  (k_with "binaryOp Mult int int" => (k_here; first | ((refine mul_s (by omega) (by omega) ?_); intro r9zq t9zq k9zq hr9zq ha9zq hb9zq) | ((refine mul_m (by omega) (by omega) ?_); intro r9zq t9zq k9zq hr9zq ha9zq hb9zq)))
  (k_with "call builtin:min" => (k_here; k_dflt (refine' minN ?Fk202q ?Nk202q ?mk202q ?ik202q ?nek202q ?hhk202q ?_; (case Fk202q => k_asm); (case Nk202q => k_asm); (case mk202q => k_mem); (case ik202q => assumption); (case nek202q => assumption); (case hhk202q => with_unfolding_all rfl)); intro _ _ _ _ _ _ _ _))
  (k_with "call builtin:len" => (k_here; (with_reducible show wpAny _ _ (call (Value.builtin "len") [Value.ref _]) _ _ _); k_dflt (refine' lenN ?Nk203q ?mk203q ?zk203q ?_; (case Nk203q => k_asm); (case mk203q => k_mem); (case zk203q => walk_at "len z"); k_whole)))
  (k_with "len z" => first | omega | (simp only [List.length_map, List.length_range]; omega))
  (k_with "exec While Compare cons nil" => (k_here; refine stop_of ?_))
  (k_with "CompSrc" => (k_here; refine stop_of ?_))
  (k_with "CompSrcT" => (k_here; refine stop_of ?_))
  (k_with "XSrc" => (k_here; refine stop_of ?_))
  (k_with "exec Assign cons ListComp" => (k_here; refine stop_of ?_))
  refine hide9 fun C9 k9 => ?_
  obtain ⟨B, F, X, N, T, hd, hu⟩ := H
  refine k9 ?_
  clear k9
  have z9 : PySem.Challenge.rw_wo0040_01 = PySem.Challenge.rw_wo0040_01 ∧ Mine.frag.heap_1 = Mine.frag.heap_1 := by
    k_fill
    exact ⟨rfl, rfl⟩
  clear z9
  have hk1 := hP.k1
  have hk2 := hP.k2
  have hz0 : P.size ≠ 0 := hP.sz.2.2
  have hz1 : P.size < 10 ∧ -10 < P.size := ⟨hP.sz.1, hP.sz.2.1⟩
  have N : News h₀ L s.heap ((tA, listOf #[.int P.t0 tv0, .int P.t1 tv1, .int P.t2 tv2] ep0) :: news) := news_sub N fun x hx => by
    rcases List.mem_cons.mp hx with rfl | hx
    · exact hterms
    · exact hx
  k_steps
  rename_i g9 L9 hh0 tk0 FG9 BB9 X9 T9 lL o1 o2 o3 d1 d2 d3 l9 hh1 l19 hh2 oR F9 N9 dR
  unfold Stop
  refine while_inv (TdJ P K l9 _ (.int P.size tz) (.ref tA)) (K - 0) F9 N9 ⟨⟨0, [], 0, ts, rfl, Nat.zero_le _, .nil, rfl, rfl⟩, rfl, rfl⟩ ?hE ?turn
  case hE => first | passes_own | with_unfolding_all passes_own
  case turn =>
    intro n' m₁ nw h₁ tk₁ hz14z Fz Nz
    refine hide9 fun C9 k9 => ?_
    obtain ⟨⟨k, vs, ep, sp, rfl, hk, Iv, rfl, ms⟩, mz, mt⟩ := hz14z
    refine k9 ?_
    clear k9
    have hsp := sp_bd P hP k
    have ht0 := hP.t0
    have ht1 := hP.t1
    have ht2 := hP.t2
    have hvs : vs.length ≤ 1000 := by have := Iv.length; simp at this; omega
    have Fz := fr_at F9 (fr_ovr Fz [(Str.ofString "spot", .int (P.f k) sp), (Str.ofString "size", .int P.size tz), (Str.ofString "terms", .ref tA)] (by
      intro p hp
      rcases List.mem_cons.mp hp with rfl | hp
      · exact ms
      rcases List.mem_cons.mp hp with rfl | hp
      · exact mz
      rcases List.mem_cons.mp hp with rfl | hp
      · exact mt
      · cases hp)) rfl
    dsimp only [ovr] at Fz
    clear F9 N9
    k_steps
    · rename Fr _ _ _ _ => F8
      rename News _ _ _ _ => N8
      rename (_ = true) => hb1
      rename (_ = true ↔ _) => hb2
      rename _ = _ * P.f k => hm2
      rename _ = P.t0 * _ => hm1
      have hkK : k ≠ K := fun e => hb2.mp hb1 (by rw [e, hper]; exact List.mem_map_of_mem (List.mem_range.mpr hmu))
      have hnx := hP.nx k
      unfold nxt at hnx
      rw [hm2, hm1, ← hnx] at F8
      refine wEnd_next (K - (k + 1)) _ F8 N8 (fun _ h => h) (by omega) ⟨⟨k + 1, _, _, _, rfl, by omega, ?_, rfl, rfl⟩, rfl, rfl⟩
      rw [List.range_succ, List.map_append]; exact Iv.append (.cons _ _ .nil)
    · rename (_ = false) => hb1
      rename (_ = true ↔ _) => hb2
      have hmem : P.f k ∈ (List.range k).map P.f := Decidable.byContradiction fun h => by rw [hb2.mpr h] at hb1; cases hb1
      have hkK : k = K := by
        obtain ⟨i, hi, e⟩ := List.mem_map.mp hmem
        have hi := List.mem_range.mp hi
        rcases Nat.lt_or_ge k K with h | h
        · exact absurd e (hdis i k hi h)
        · omega
      subst hkK
      unfold Stop
      dsimp only
      k_steps
      unfold Stop
      rename Fr _ _ _ _ => F8
      rename News _ _ _ _ => N8
      refine assign_listCompX F8 rfl (by with_unfolding_all rfl) (by with_unfolding_all rfl) rfl (by decide) (by rfl) (by with_unfolding_all rfl) (by rfl) (by rfl) ?src (fun v => by rfl)
      case src =>
        k_steps
        unfold Stop
        rename IntsAre _ (List.drop _ _) => hI8
        rename _[_]? = some (P.f k) => hj2
        have hjm := is_mu hdis hmu hper hj2
        generalize hR : List.drop _ ((List.range k).map P.f) = R at *
        have hRm : R = ((List.range k).map P.f).drop mu := by rw [← hR, ← hjm]; rfl
        have hRn : R.length = k - mu := by rw [hRm]; simp
        have hRk : R.length ≤ 9 := by omega
        refine xsrcL_of (by with_unfolding_all rfl) F8 N8 (.head _) ?sz (fun i ys => ∃ ms : List Int, IntsAre ys ms ∧ ms.length = i ∧ LeastsTo R P.kinds i ms) ⟨[], .nil, rfl, leastsTo_nil⟩ ?turn ?fin
        case sz => exact le_line hI8 hR hK
        case fin =>
          intro ys hz15z
          refine hide9 fun C9 k9 => ?_
          obtain ⟨ms, hms, hmn, hls⟩ := hz15z
          refine k9 ?_
          clear k9
          have hRl := hI8.length
          clear F8 N8
          k_steps
          unfold Stop
          rename Fr _ _ _ _ => F8
          rename News _ _ _ _ => N8
          have hmz : ys.length ≤ sizeLine := by rw [hms.length, hmn]; exact le_line hI8 hR hK
          refine compL_of (by with_unfolding_all rfl) F8 N8 (.head _) hmz (fun i ys => ∃ is : List Int, IntsAre ys is ∧ is.length = i ∧ IdxTo P.f k ms i is) ⟨[], .nil, rfl, fun j hj => absurd hj (Nat.not_lt_zero j)⟩ ?turn3 ?fin3
          case turn3 =>
            intro i2 v2 ys2 I2 oI2 C2 oC2 D2 m2 h2 tk2 E2 hi2 hz16z hv2 hC2 hm2 hF2 hN2 ho2 hne2
            refine hide9 fun C9 k9 => ?_
            obtain ⟨is, his, rfl, hidx⟩ := hz16z
            obtain ⟨y, ty, rfl, hy⟩ := ints_at hms hv2
            refine k9 ?_
            clear k9
            have hym : y ∈ (List.range k).map P.f := by
              refine hide9 fun C9 k9 => ?_
              obtain ⟨v, m, h1, h2, h3⟩ := hls is.length (by rw [← hmn, ← hms.length]; exact hi2)
              refine k9 ?_
              clear k9
              rw [hy] at h2
              cases h2
              rw [← hR] at h3
              exact List.mem_of_mem_drop h3.1
            clear F8 N8
            k_steps
            rename _[_]? = some y => hg1
            refine cEnd_of _ hF2 hN2 (fun p hp => hp) ho2 (.inr ⟨_, .head _, rfl, _, rfl⟩) ⟨⟨is ++ [_], intsAre_append his (.cons _ _ .nil), by rw [List.length_append]; rfl, idxTo_snoc hidx hy hg1⟩, rfl⟩
          case fin3 =>
            intro g ys2 hz17z
            refine hide9 fun C9 k9 => ?_
            obtain ⟨is, his, hil, hidx⟩ := hz17z
            refine k9 ?_
            clear k9
            have hn0 : 0 < is.length := by rw [hil, hms.length, hmn, hRl]; omega
            clear F8 N8
            k_steps
            unfold Stop
            rename Fr _ _ _ _ => F8
            rename News _ _ _ _ => N8
            rename (_ ∈ is) => hM1
            rename (∀ a, a ∈ is → _ ≤ a) => hM2
            have hwz := hRl.trans hRn
            obtain ⟨i0, rfl, hI0⟩ := told_of (n := k - mu) hRm hmu hdis rfl (by rw [← hwz]; exact hls) (by rw [← hwz, ← hmn, ← hms.length]; exact hidx) (by rw [hil, hms.length, hmn, hwz]) hM1 hM2
            have hlo := hI0.lo
            have hhi := hI0.hi
            have e9 : (i0 : Int) + ((k - mu : Nat) : Int) = ((i0 + (k - mu) : Nat) : Int) := by omega
            rw [hwz, e9] at F8
            generalize hst : i0 + (k - mu) = stop at F8
            refine while_inv (TeJ P k stop l9 _ (.int stop _)) (stop + 1 - k) F8 (news_3p N8) ⟨⟨k, vs, ep, rfl, Nat.le_refl _, by omega, Iv, rfl⟩, rfl⟩ ?hE2 ?turn4
            case hE2 => first | passes_own | with_unfolding_all passes_own
            case turn4 =>
              intro n' m₂ nw h₂ tk₂ hz18z Fz Nz
              refine hide9 fun C9 k9 => ?_
              obtain ⟨⟨i, vs4, ep4, rfl, hki, his4, Iv4, rfl⟩, mst⟩ := hz18z
              refine k9 ?_
              clear k9
              have hvs4 : vs4.length ≤ 1000 := by have := Iv4.length; simp at this; omega
              have hvl4 : vs4.length = i := by have := Iv4.length; simpa using this
              have hq := row_at hP hmu hper hki hwz Iv4
              have Fz := fr_at F8 (fr_ovr Fz [(Str.ofString "stop", .int stop _)] (by
                intro p hp
                rcases List.mem_cons.mp hp with rfl | hp
                · exact mst
                · cases hp)) rfl
              dsimp only [ovr] at Fz
              clear F8 N8
              k_steps
              · rename Fr _ _ _ _ => F8
                rename News _ _ _ _ => N8
                refine wEnd_next (stop + 1 - (i + 1)) _ F8 N8 (fun _ h => h) (by omega) ⟨⟨i + 1, _, _, rfl, by omega, by omega, ?_, rfl⟩, rfl⟩
                rw [List.range_succ, List.map_append, hq]; exact Iv4.append (.cons _ _ .nil)
              · unfold Stop
                dsimp only
                k_steps
                rename Fr h₀ L _ _ => F8
                rename News h₀ L _ _ => N8
                rename ¬ ((_ : Int) ≤ _) => hh9
                subst hst
                obtain rfl : i = i0 + (k - mu) + 1 := by omega
                rw [hwz] at N8
                exact hret i0 _ _ vs4 ep4 _ _ _ _ hI0 Iv4 F8 (news_sub N8 sub_told)
        case turn =>
          intro i v ys oI oX oC I X C D h tk E' hi hz19z hv hX hF hN hoff hne
          refine hide9 fun C9 k9 => ?_
          obtain ⟨ms, hms, rfl, hls⟩ := hz19z
          obtain ⟨x, tx, rfl, hx⟩ := ints_at hI8 hv
          refine k9 ?_
          clear k9
          k_steps
          unfold Stop
          refine compTL_of (by with_unfolding_all rfl) hF hN (.tail _ (.tail _ (.tail _ (.tail _ (.head _))))) ?sz2 (fun i ys => ∃ ns : List Int, IntsAre ys ns ∧ ns = (R.take i).filter (fun o => decide (o % P.kinds = x % P.kinds))) ⟨[], .nil, rfl⟩ ?turn2 ?fin2
          case sz2 => exact le_line hI8 hR hK
          case fin2 =>
            rintro g ys2 ⟨ns, hns, he⟩
            have hRl := hI8.length
            rw [hRl, List.take_length] at he
            have hn0 : 0 < ns.length := by rw [he]; exact List.length_pos_of_mem (List.mem_filter.mpr ⟨List.mem_of_getElem? hx, decide_eq_true rfl⟩)
            k_steps
            rename Fr _ _ _ _ => F9
            rename News _ _ _ _ => N9
            rename (_ ∈ ns) => hM1
            rename (∀ a, a ∈ ns → _ ≤ a) => hM2
            rw [he] at hM1 hM2
            have hM3 := List.mem_filter.mp hM1
            refine xEnd_of _ F9 N9 (fun p hp => .tail _ hp) (off4_of hoff) ⟨⟨ms ++ [_], intsAre_append hms (.cons _ _ .nil), by rw [List.length_append]; rfl, leastsTo_snoc hls hx ⟨hM3.1, of_decide_eq_true hM3.2, fun o ho he => hM2 o (List.mem_filter.mpr ⟨ho, decide_eq_true he⟩)⟩⟩, rfl⟩
          case turn2 =>
            rintro i2 v2 ys2 I2 oI2 C2 oC2 D2 m2 h2 tk2 E2 hi2 ⟨ns, hns, he⟩ hv2 hC2 hm2 hF2 hN2 ho2 hne2
            refine hide9 fun C9 k9 => ?_
            obtain ⟨y, ty, rfl, hy⟩ := ints_at hI8 hv2
            refine k9 ?_
            clear k9
            clear hF hN
            k_steps
            · rename Int.fmod _ _ = Int.fmod _ _ => ha
              refine cEnd_of _ hF2 hN2 (fun p hp => hp) ho2 (.inr ⟨_, .tail _ (.tail _ (.tail _ (.tail _ (.head _)))), rfl, _, rfl⟩) ⟨⟨ns ++ [y], intsAre_append hns (.cons _ _ .nil), ?_⟩, rfl⟩
              rw [take_filter hy, ← he, decide_eq_true (fmod_emod hk1 ha)]; rfl
            · rename ¬ (Int.fmod _ _ = Int.fmod _ _) => ha
              refine cEnd_of _ hF2 hN2 (fun p hp => hp) ho2 (.inr ⟨_, .tail _ (.tail _ (.tail _ (.tail _ (.head _)))), rfl, _, rfl⟩) ⟨⟨ns, hns, ?_⟩, rfl⟩
              rw [take_filter hy, ← he, decide_eq_false (fun e => ha (fmod_emod' hk1 e))]; simp
end
end Mine
end

section
open PySem PySem.W PySem.Calls PyProof.Rows PyProof.Rows.LCg PyProof.Rows.LCt
set_option maxRecDepth 100000
namespace Mine
structure EnumAt (h₀ h : Heap) (L e it l : Addr) (news : List (Addr × Obj)) : Prop where
  en : IsEnum h e it 0 .none
  li : h.IsListIter it l 0
  lo : ∀ x ∈ news, @LT.lt Nat _ x.1 it
  hi : @LT.lt Nat _ it e
  fr : @LT.lt Nat _ L it
  ab : h₀.objs.size ≤ it
section
variable {prog : Program} {w : World} {A : Around} {E : Value → Shared → Prop} {s : Shared} {h₀ : Heap} {L l : Addr} {m : Str → Option Value} {news : List (Addr × Obj)} {vs : List Value} {n : Nat}
theorem enumN {Q : Value → Shared → Prop} (F : Fr h₀ L s.heap m) (N : News h₀ L s.heap news) (hm : (l, listOf vs.toArray n) ∈ news)
    (h : ∀ e it h', Fr h₀ L h' m → News h₀ L h' news → EnumAt h₀ h' L e it l news → Q (.ref e) { s with heap := h' }) : wpAny (model prog w) A (call (.type "enumerate") [.ref l]) Q E s := by
  have hl : s.heap.IsList l vs.toArray := ⟨_, (N _ hm).1, rfl, n, rfl⟩
  refine call_enumerate_list hl fun h' he hi hsz hk => h _ _ h' (F.keeps hk) (N.grown hk) ⟨he, hi, fun x hx => Heap.lt_size (N x hx).1, Nat.lt_succ_self _, F.ns.lt, Nat.le_trans F.above (Nat.le_of_lt F.ns.lt)⟩
/-- the places of a list, told with their numbers -/
theorem enum_W {elts : List Expr} {k : Nat} {pos : Pos} {e it : Addr} (hh : A.handled = none) (hei : e ≠ it) (hle : l ≠ e) (hli : l ≠ it) :
    KTurns prog w A (.Tuple elts k pos) e [e, it, l] [e, it] vs.toArray.size (fun i v h => ∃ T vals, v = .ref T ∧ (∃ t x, vs.toArray[i]? = some x ∧ vals = #[.int i t, x]) ∧ h.IsTuple T vals)
      (fun i v h => ∃ T vals, v = .ref T ∧ (∃ t x, vs.toArray[i]? = some x ∧ vals = #[.int i t, x]) ∧ h.IsTuple T vals ∧ ((∃ x, IsEnumOut h e it ((i : Int) + 1) x T) ∧ h.IsListIter it l (i + 1) ∧ h.IsList l vs.toArray ∧ T ≠ e ∧ T ≠ it))
      (fun i h => (∃ old, IsEnum h e it i old) ∧ h.IsListIter it l i ∧ h.IsList l vs.toArray) :=
  KTurns.ofWalksU (WalksT.enumerate hh e it l hei hle hli vs.toArray).toU
/-- the end of a turn of a loop over enumerate -/
noncomputable def EEnd (h₀ : Heap) (L : Addr) (s₁ : Shared) (e : Addr) (oE : Obj) (it : Addr) (oI : Obj) (J : (Str → Option Value) → List (Addr × Obj) → Prop) (Q : Flow → Shared → Prop) (f : Flow) (s₂ : Shared) : Prop :=
  match f with
  | .ret v => Q (.ret v) s₂
  | .brk => Q .next s₂
  | _ => ∃ h' tk m' nw, s₂ = { s₁ with heap := h', toks := tk } ∧ Fr h₀ L h' m' ∧ News h₀ L h' ((e, oE) :: (it, oI) :: nw) ∧ (∀ p ∈ nw, @Ne Nat p.1 e ∧ @Ne Nat p.1 it) ∧ J m' nw
theorem eEnd_next {e it : Addr} {oE oI : Obj} {J : (Str → Option Value) → List (Addr × Obj) → Prop} {Q : Flow → Shared → Prop} {s₁ : Shared} {h' : Heap} {tk : Nat} {m' : Str → Option Value} {all : List (Addr × Obj)} (nw : List (Addr × Obj)) (F : Fr h₀ L h' m') (N : News h₀ L h' all)
    (sub : ∀ p ∈ (e, oE) :: (it, oI) :: nw, p ∈ all) (off : ∀ p ∈ nw, @Ne Nat p.1 e ∧ @Ne Nat p.1 it) (r : J m' nw) : EEnd h₀ L s₁ e oE it oI J Q .next { s₁ with heap := h', toks := tk } := ⟨h', tk, m', nw, rfl, F, fun p hp => N p (sub p hp), off, r⟩
variable {env : Env}
theorem enum_turns {elts : List Expr} {k : Nat} {pos : Pos} {body : List Stmt} {Q : Flow → Shared → Prop} {e it : Addr} (hh : A.handled = none) (F : Fr h₀ env.locals s.heap m) (N : News h₀ env.locals s.heap news) (hE : EnumAt h₀ s.heap env.locals e it l news) (hl : (l, listOf vs.toArray n) ∈ news)
    (J : Nat → (Str → Option Value) → List (Addr × Obj) → Prop) (hm : ∀ i m nw, J i m nw → (l, listOf vs.toArray n) ∈ nw) (hJ : J 0 m news)
    (turn : ∀ i x m₁ nw h tk oE oI T t, i < vs.length → vs[i]? = some x → J i m₁ nw → oE.cls = .type "enumerate" → oI.cls = .type "list_iterator" → h.IsTuple T #[.int i t, x] → (∀ p ∈ nw, @Ne Nat p.1 e ∧ @Ne Nat p.1 it) → Fr h₀ env.locals h m₁ → News h₀ env.locals h ((e, oE) :: (it, oI) :: nw) →
      wpAny (model prog w) A (assign (.Tuple elts k pos) env (.ref T)) (fun _ s₃ => wpAny (model prog w) A (execs body env) (EEnd h₀ env.locals { s with heap := h, toks := tk } e oE it oI (J (i + 1)) Q) E s₃) E { s with heap := h, toks := tk })
    (done : ∀ h' tk m' nw, Fr h₀ env.locals h' m' → News h₀ env.locals h' nw → J vs.length m' nw → Q .next { s with heap := h', toks := tk }) :
    wpAny (model prog w) A (pyIter (.ref e)) (fun i2 s₂ => TurnsAt prog w A h₀ env (.Tuple elts k pos) body Q E i2 s₂) E s := by
  have hlt := hE.lo _ hl
  have hhi := hE.hi
  have hL := hE.fr
  have hn := hE.ab
  have zl := N _ hl
  have n1 : l ≠ it := Nat.ne_of_lt hlt
  have n2 : l ≠ e := Nat.ne_of_lt (Nat.lt_trans hlt hhi)
  have n3 : env.locals ≠ it := Nat.ne_of_lt hL
  have n4 : env.locals ≠ e := Nat.ne_of_lt (Nat.lt_trans hL hhi)
  have f1 : h₀.get? it = none := Heap.get?_none_of_le hn
  have f2 : h₀.get? e = none := Heap.get?_none_of_le (Nat.le_trans hn (Nat.le_of_lt hhi))
  have wr : ∀ b ∈ [e, it], b = e ∨ b = it := fun b hb => by simpa using hb
  refine wpAny_pyIter_enum hE.en ⟨e, [e, it, l], [e, it], vs.toArray.size, _, _, _, m, news, J, rfl, enum_W hh (Ne.symm (Nat.ne_of_lt hhi)) n2 n1, ?_, ?_, ?_, ⟨⟨_, hE.en⟩, hE.li, ⟨_, zl.1, rfl, n, rfl⟩⟩, F, N, hJ, ?_, ?_⟩
  · intro hm
    rcases List.mem_cons.mp hm with h | hm
    · exact n4 h
    rcases List.mem_cons.mp hm with h | hm
    · exact n3 h
    · exact zl.2.1 (List.mem_singleton.mp hm).symm
  · intro b hb
    rcases wr b hb with rfl | rfl
    · exact f2
    · exact f1
  · intro p hp hb
    have := hE.lo p hp
    rcases wr _ hb with h | h
    · exact Nat.ne_of_lt (Nat.lt_trans this hhi) h
    · exact Nat.ne_of_lt this h
  · intro i v m₁ nw h₁ tk₁ own hi hz20z hJ hoff hown hget hall hz21z F₁ N₁
    refine hide9 fun C9 k9 => ?_
    obtain ⟨T, vals, rfl, ⟨t, x, hx, rfl⟩, hT⟩ := hz20z
    obtain ⟨⟨old, hE1⟩, hI1, hL1⟩ := hz21z
    refine k9 ?_
    clear k9
    obtain ⟨oE, hE1', hcE⟩ : ∃ o, h₁.get? e = some o ∧ o.cls = .type "enumerate" := ⟨_, hE1, rfl⟩
    refine hide9 fun C9 k9 => ?_
    obtain ⟨oI, hoI, hcI, hdI⟩ := hI1
    refine k9 ?_
    clear k9
    have me := hall e (by simp) f2 _ hE1'
    have mi := hall it (by simp) f1 _ hoI
    have N₂ : News h₀ env.locals h₁ ((e, oE) :: (it, oI) :: nw) := fun p hp => by
      rcases List.mem_cons.mp hp with rfl | hp
      · exact N₁ _ (List.mem_append_left _ me)
      rcases List.mem_cons.mp hp with rfl | hp
      · exact N₁ _ (List.mem_append_left _ mi)
      · exact N₁ _ (List.mem_append_right _ hp)
    have hil : i < vs.length := by simpa using hi
    refine wpAny_mono (turn i x m₁ nw h₁ tk₁ _ oI T t hil (by simpa using hx) hJ hcE hcI hT (fun p hp => ⟨fun h => hoff p hp (by simp [h]), fun h => hoff p hp (by simp [h])⟩) F₁ N₂) (fun _ s₃ h₃ => wpAny_mono h₃ (fun f s₄ p => ?_) fun _ _ z => z) fun _ _ z => z
    have fin : (∃ h' tk m' nw', s₄ = { ({ s with heap := h₁, toks := tk₁ } : Shared) with heap := h', toks := tk } ∧ Fr h₀ env.locals h' m' ∧ News h₀ env.locals h' ((e, oE) :: (it, oI) :: nw') ∧ (∀ p ∈ nw', @Ne Nat p.1 e ∧ @Ne Nat p.1 it) ∧ J (i + 1) m' nw') →
        LoopStepU h₀ env.locals [e, it] own (J (i + 1)) { s with heap := h₁, toks := tk₁ } .next s₄ := by
      intro hz22z
      refine hide9 fun C9 k9 => ?_
      obtain ⟨h', tk, m', nw', e4, F', N', ho, hJ'⟩ := hz22z
      refine k9 ?_
      clear k9
      refine ⟨rfl, h', tk, m', nw', e4, F', ?_, fun p hp hb => ?_, hJ'⟩
      · rintro ⟨pa, po⟩ hp
        rcases List.mem_append.mp hp with hp | hp
        · have h2 : h₁.get? pa = some po := hget _ hp
          have h3 := hown _ hp
          rcases List.mem_cons.mp h3 with h3 | h3
          · have h3' : pa = e := h3
            subst h3'
            rw [hE1'] at h2; cases h2
            exact N' _ (.head _)
          rcases List.mem_cons.mp h3 with h3 | h3
          · have h3' : pa = it := h3
            subst h3'
            rw [hoI] at h2; cases h2
            exact N' _ (.tail _ (.head _))
          · have h3' : pa = l := List.mem_singleton.mp h3
            subst h3'
            have := (N₁ _ (List.mem_append_right _ (hm _ _ _ hJ))).1
            rw [this] at h2; cases h2
            exact N' _ (.tail _ (.tail _ (hm _ _ _ hJ')))
        · exact N' _ (.tail _ (.tail _ hp))
      · rcases wr _ hb with h | h
        · exact (ho p hp).1 h
        · exact (ho p hp).2 h
    cases f with
    | ret v => exact .ret p
    | brk => exact .brk p
    | next => exact .next (fin p)
    | cont => exact .cont (fin p)
  · intro h' tk m' nw F' N' _ hJ'
    exact done h' tk m' nw F' N' (by rw [List.size_toArray] at hJ'; exact hJ')
end
/- comprehensions over pairs -/
section
variable {prog : Program} {w : World} {A : Around} {E : Value → Shared → Prop} {s : Shared}
noncomputable def TStep (prog : Program) (w : World) (A : Around) (elt : Expr) (acc : Value) (env : Env) (NB : Value → Shared → Prop) (G : Shared → Prop) : List Expr → Shared → Prop
  | [], s₂ => wpAny (model prog w) A (eval elt env) (fun x s₄ => wpAny (model prog w) A (call (.builtin "list.append") [acc, x]) (fun _ s₅ => G s₅) NB s₄) NB s₂
  | [c], s₂ => wpAny (model prog w) A (isTrue c env (eval c env)) (fun ok s₃ => if ok = true then wpAny (model prog w) A (eval elt env) (fun x s₄ => wpAny (model prog w) A (call (.builtin "list.append") [acc, x]) (fun _ s₅ => G s₅) NB s₄) NB s₃ else G s₃) NB s₂
  | _, _ => False
theorem kp_loop {elt target iter : Expr} {ts : List Expr} {scope : Scope} {pos : Pos} {it acc : Value} {env : Env} {R : Result → Shared → Prop} (hts : ts = [] ∨ ∃ c, ts = [c]) (I : Nat → Shared → Prop)
    (turn : ∀ n s, I n s → wpAny (model prog w) A (pyNext it) (fun r s₁ => match r with
      | none => R (.ok .next) s₁
      | some v => wpAny (model prog w) A (letOwnedTupleGo target it v) (fun _ s₀ => wpAny (model prog w) A (assign target env v) (fun _ s₂ => TStep prog w A elt acc env (notedBy (model prog w) A env fun e s' => R (.error e) s') (fun s₅ => ∃ m, m < n ∧ I m s₅) ts s₂)
          (notedBy (model prog w) A env fun e s' => R (.error e) s') s₀) (notedBy (model prog w) A env fun e s' => R (.error e) s') s₁) (notedBy (model prog w) A env fun e s' => R (.error e) s') s)
    (n : Nat) (h : I n s) : codeAny (model prog w) A (.compLoop (.ListComp elt [⟨target, iter, ts, 0⟩] scope pos) 0 it acc env) R s := by
  rcases hts with rfl | ⟨c, rfl⟩
  · exact kcp_loop I turn n h
  · exact kct_loop I turn n h
variable {h₀ : Heap} {L : Addr} {m : Str → Option Value} {env : Env}
noncomputable def PStep (prog : Program) (w : World) (A : Around) (elt : Expr) (cenv : Env) (G : Value → Shared → Prop) (B : Shared → Prop) (E' : Value → Shared → Prop) : List Expr → Shared → Prop
  | [], s₂ => wpAny (model prog w) A (eval elt cenv) G E' s₂
  | [c], s₂ => wpAny (model prog w) A (isTrue c cenv (eval c cenv)) (fun ok s₃ => if ok = true then wpAny (model prog w) A (eval elt cenv) G E' s₃ else B s₃) E' s₂
  | _, _ => False
theorem pStep_go {elt : Expr} {cenv : Env} {acc : Value} {ts : List Expr} {G : Value → Shared → Prop} {B G2 : Shared → Prop} {NB : Value → Shared → Prop} {s₂ : Shared} (h : PStep prog w A elt cenv G B NB ts s₂) (hA : ∀ y s₄, G y s₄ → wpAny (model prog w) A (call (.builtin "list.append") [acc, y]) (fun _ s₅ => G2 s₅) NB s₄) (hB : ∀ s₄, B s₄ → G2 s₄) :
    TStep prog w A elt acc cenv NB G2 ts s₂ := by
  match ts, h with
  | [], h => exact wpAny_mono h (fun y s₄ g => hA y s₄ g) fun _ _ e => e
  | [c], h =>
    refine wpAny_mono h (fun ok s₃ g => ?_) fun _ _ e => e
    cases ok with
    | true => simp only [if_true] at g ⊢; exact wpAny_mono g (fun y s₄ g => hA y s₄ g) fun _ _ e => e
    | false => simp only [Bool.false_eq_true, if_false] at g ⊢; exact hB _ g
  | _ :: _ :: _, h => exact h.elim
/-- what a turn of a comprehension over pairs has to show -/
noncomputable def PTurn (prog : Program) (w : World) (A : Around) (h₀ : Heap) (L : Addr) (m : Str → Option Value) (env : Env) (ts : List Expr) (elt : Expr) (a b : Str) (scope : Scope) (cl : List (Str × Addr)) (ws : List (Addr × String)) (n : Nat) (R : Nat → Value → Value → Prop) (J : Nat → List Value → List (Addr × Obj) → Prop) (s₁ : Shared) : Prop :=
  ∀ i x y ys nw own oC C D m₂ h tk (E' : Value → Shared → Prop), i < n → J i ys nw → R i x y → NsObj oC m₂ → m₂ a = some x → m₂ b = some y → Objs ws own → Fr h₀ L h m → News h₀ L h (own ++ ((C, oC) :: (D, lst ys) :: nw)) →
    (∀ p ∈ nw, (∀ q ∈ own, @Ne Nat p.1 q.1) ∧ @Ne Nat p.1 C ∧ @Ne Nat p.1 D) → ((∀ q ∈ own, @Ne Nat q.1 C ∧ @Ne Nat q.1 D) ∧ @Ne Nat C D) →
    PStep prog w A elt (compEnvC scope cl C env) (XEnd h₀ L m { s₁ with heap := h, toks := tk } (own ++ [(C, oC), (D, lst ys)]) (fun z nw' => J (i + 1) (ys ++ [z]) nw')) (fun s₄ => XEnd h₀ L m { s₁ with heap := h, toks := tk } (own ++ [(C, oC), (D, lst ys)]) (fun _ nw' => J (i + 1) ys nw') .none s₄) E' ts { s₁ with heap := h, toks := tk }
theorem block_K {elt iter : Expr} {a b : Str} {pa pb tp : Pos} {kk : Nat} {ts : List Expr} {scope : Scope} {cl : List (Str × Addr)} {pos : Pos} {s₂ : Shared} {I : Addr} {fp wr : List Addr} {n : Nat} {P Md : Nat → Value → Heap → Prop} {St : Nat → Heap → Prop} {ws : List (Addr × String)} {news : List (Addr × Obj)} {RR : Value → Addr → Result → Shared → Prop} {R : Nat → Value → Value → Prop}
    (hts : ts = [] ∨ ∃ c, ts = [c]) (hh : A.handled = none) (W : KTurns prog w A (.Tuple [.Name a pa, .Name b pb] kk tp) I fp wr n P Md St) (hself : ∀ (s' : Shared) (Q : Value → Shared → Prop) (E' : Value → Shared → Prop), St 0 s'.heap → Q (.ref I) s' → wpAny (model prog w) A (pyIter (.ref I)) Q E' s')
    (hsz : n ≤ sizeLine) (hobj : ∀ i h, St i h → ∃ own, Objs ws own ∧ ∀ p ∈ own, h.get? p.1 = some p.2) (hws : ∀ x ∈ wr, x ∈ ws.map (·.1)) (hwf : ∀ x ∈ ws.map (·.1), x ∈ fp) (J : Nat → List Value → List (Addr × Obj) → Prop)
    (hSt2 : ∀ j ys nw h h' own, J j ys nw → St j h → Objs ws own → (∀ p ∈ own, h.get? p.1 = some p.2) → (∀ p ∈ own, h'.get? p.1 = some p.2) → News h₀ L h' nw → St j h')
    (hP : ∀ i v h ys nw, P i v h → J i ys nw → News h₀ L h nw → ∃ T x y, v = .ref T ∧ h.IsTuple T #[x, y] ∧ R i x y)
    (hcell : ∀ y ∈ scope.names, y.2 ≠ .cell) (hkind : scope.kind = .function) (hxa : scope.names.lookup a = some .local) (hxb : scope.names.lookup b = some .local) (hab : ¬ a = b)
    (hst : St 0 s₂.heap) (hfp : ∀ b ∈ fp, b < s₂.heap.objs.size) (F : Fr h₀ L s₂.heap m) (N : News h₀ L s₂.heap news) (hL : L ∉ ws.map (·.1)) (hw0 : ∀ x ∈ ws.map (·.1), h₀.get? x = none) (off : ∀ p ∈ news, p.1 ∉ ws.map (·.1)) (hJ : J 0 [] news)
    (step : PTurn prog w A h₀ L m env ts elt a b scope cl ws n R J s₂)
    (hRR : ∀ D C h tk m' ys nw, Fr h₀ L h m → News h₀ L h ((D, lst ys) :: nw) → Off1 D nw → h.Ns C m' → h₀.get? C = none → h₀.get? D = none → C ≠ L → D ≠ L → C ≠ D → (∀ p ∈ nw, p.1 ≠ C) → J n ys nw → RR (.ref D) C (.ok .next) { s₂ with heap := h, toks := tk }) :
    wpAny (model prog w) A (newList []) (fun acc s₃ => wpAny (model prog w) A (newFunctionEnv scope env.globals cl [] env.qual none .none (some env)) (fun cenv s₄ =>
      codeAny (model prog w) A (.compStart (.ListComp elt [⟨.Tuple [.Name a pa, .Name b pb] kk tp, iter, ts, 0⟩] scope pos) 0 (.ref I) acc { cenv with scope := relabel scope env }) (RR acc cenv.locals) s₄) E s₃) E s₂ := by
  refine wpAny_newObj_type (wpAny_newFunctionEnv hcell (by intro y hy; simp at hy) (fun h₁ hns₁ hsb₁ => ?_) hkind)
  dsimp only at hns₁ hsb₁ ⊢
  generalize hH2 : s₂.heap.push { cls := .type "list", dict := none, data := .seq ([] : List Value).toArray } = H2 at hns₁ hsb₁ ⊢
  generalize hD : s₂.heap.objs.size = D at *
  have hC2 : H2.objs.size = D + 1 := by rw [← hH2, Heap.size_push, hD]
  generalize hCe : H2.objs.size = C at *
  have hLD : L < D := hD ▸ F.ns.lt
  have hDC : D ≠ C := by rw [hC2]; exact Nat.ne_of_lt (Nat.lt_succ_self _)
  have below : ∀ b, b < D → b ≠ C ∧ b ≠ D := fun b hb => ⟨by rw [hC2]; exact Nat.ne_of_lt (Nat.lt_succ_of_lt hb), Nat.ne_of_lt hb⟩
  have old : ∀ b o, s₂.heap.get? b = some o → h₁.get? b = some o := fun b o e => hsb₁.extBut b o (below b (hD ▸ Heap.lt_size e)).1 (Heap.get?_push_of_some _ (hH2 ▸ Heap.get?_push_of_some _ e))
  have hacc : h₁.get? D = some (lst []) := hsb₁.extBut _ _ hDC (Heap.get?_push_of_some _ (by rw [← hH2, ← hD]; exact Heap.get?_push_size _ rfl))
  have fresh₀ : ∀ a, D ≤ a → h₀.get? a = none := fun a ha => by
    cases e : h₀.get? a with
    | none => rfl
    | some o' => exact absurd (hD ▸ Heap.lt_size (F.keep a o' e)) (Nat.not_lt.mpr ha)
  have hC₀ : h₀.get? C = none := fresh₀ _ (by rw [hC2]; exact Nat.le_succ _)
  have hD₀ : h₀.get? D = none := fresh₀ _ (Nat.le_refl _)
  have hDL : D ≠ L := Ne.symm (below L hLD).2
  have hCL : C ≠ L := Ne.symm (below L hLD).1
  have wsl : ∀ x ∈ ws.map (·.1), x ≠ C ∧ x ≠ D := fun x hx => below x (hfp x (hwf x hx))
  have ownw : ∀ {own : List (Addr × Obj)}, Objs ws own → ∀ q ∈ own, q.1 ∈ ws.map (·.1) := fun ho q hq => by rw [← ho.map]; exact List.mem_map.mpr ⟨q, hq, rfl⟩
  have wC : C ∉ wr := fun h => (wsl C (hws C h)).1 rfl
  have wD : D ∉ wr := fun h => (wsl D (hws D h)).2 rfl
  have wL : L ∉ wr := fun h => hL (hws L h)
  have w0 : ∀ b o, h₀.get? b = some o → b ∉ wr := fun b o e h => by rw [hw0 b (hws b h)] at e; cases e
  have loop : ∀ s₃ : Shared, s₃ = { s₂ with heap := h₁, toks := s₂.toks + ([] : List (Str × Value)).length } →
      codeAny (model prog w) A (.compLoop (.ListComp elt [⟨.Tuple [.Name a pa, .Name b pb] kk tp, iter, ts, 0⟩] scope pos) 0 (.ref I) (.ref D) (compEnvC scope cl C env)) (RR (.ref D) C) s₃ := by
    rintro s₃ rfl
    refine kp_loop hts
      (fun k s' => ∃ h' tk i ys m' nw, s' = { s₂ with heap := h', toks := tk } ∧ i ≤ n ∧ k = n + 1 - i ∧ ys.length ≤ i ∧ St i h' ∧ Fr h₀ L h' m ∧ h'.Ns C m' ∧ News h₀ L h' ((D, lst ys) :: nw) ∧
        (∀ p ∈ nw, p.1 ∉ ws.map (·.1) ∧ p.1 ≠ C ∧ p.1 ≠ D) ∧ J i ys nw) ?_ (n + 1)
      ⟨h₁, _, 0, [], _, news, rfl, Nat.zero_le _, rfl, Nat.le_refl _, W.frame _ _ _ hst (fun b _ o e => old b o e), F.keeps old, hns₁, fun p hp => ?_, fun p hp => ?_, hJ⟩
    · intro k s' hz23z
      refine hide9 fun C9 k9 => ?_
      obtain ⟨h', tk, i, ys, m', nw, rfl, hi, rfl, hyl, hst', F', hn', N', off', hJ'⟩ := hz23z
      refine k9 ?_
      clear k9
      by_cases hlt : i < n
      · refine W.item i _ _ _ hlt hst' fun v h₂ tk₂ hMd hk₂ => ?_
        refine W.go i v _ _ _ hMd fun h₃ hPv hst₃ hk₃ => ?_
        have up₃ : ∀ c o, c ∉ wr → h'.get? c = some o → h₃.get? c = some o := fun c o hc e => hk₃ c o hc (hk₂ c o hc e)
        have N₃ : News h₀ L h₃ ((D, lst ys) :: nw) := fun p hp => by
          have z := N' p hp
          refine ⟨up₃ _ _ ?_ z.1, z.2⟩
          rcases List.mem_cons.mp hp with rfl | hp
          · exact wD
          · exact fun h => (off' p hp).1 (hws _ h)
        refine hide9 fun C9 k9 => ?_
        obtain ⟨T, x, y, rfl, hT, hR⟩ := hP i v h₃ ys nw hPv hJ' fun p hp => N₃ p (.tail _ hp)
        refine k9 ?_
        clear k9
        refine kcp_assign (env := compEnvC scope cl C env) hh hT (lookup_relabel_local hxa) (lookup_relabel_local hxb) (by simp [compEnvC, relabel, hkind]) (hn'.at' fun o e => up₃ _ o wC e) fun h₄ tk₄ hn₄ hs₄ => ?_
        have up : ∀ c o, c ∉ wr → c ≠ C → h'.get? c = some o → h₄.get? c = some o := fun c o h1 h2 e => hs₄ c o h2 (up₃ c o h1 e)
        have hst₄ : St (i + 1) h₄ := W.frame _ _ _ hst₃ fun b hb o e => hs₄ b o (below b (hfp b hb)).1 e
        obtain ⟨own, hown, hval⟩ := hobj (i + 1) h₄ hst₄
        obtain ⟨oC, heC, hoC⟩ := ns_obj hn₄
        have F₄ : Fr h₀ L h₄ m := ⟨F'.ns.at' fun o e => up _ o wL (Ne.symm hCL) e, fun c o e => up c o (w0 c o e) (fun q => by rw [q, hC₀] at e; cases e) (F'.keep c o e), F'.above⟩
        have N₄ : News h₀ L h₄ (own ++ ((C, oC) :: (D, lst ys) :: nw)) := fun q hq => by
          rcases List.mem_append.mp hq with hq | hq
          · have := ownw hown q hq
            exact ⟨hval q hq, fun e => hL (e ▸ this), hw0 _ this⟩
          rcases List.mem_cons.mp hq with rfl | hq
          · exact ⟨heC, hCL, hC₀⟩
          · have z := N₃ q hq
            refine ⟨hs₄ _ _ ?_ z.1, z.2⟩
            rcases List.mem_cons.mp hq with rfl | hq
            · exact hDC
            · exact (off' q hq).2.1
        refine pStep_go (step i x y ys nw own oC C D _ h₄ tk₄ _ hlt hJ' hR hoC (by simp [hab]) (by simp) hown F₄ N₄ (fun p hp => ⟨fun q hq e => (off' p hp).1 (e ▸ ownw hown q hq), (off' p hp).2.1, (off' p hp).2.2⟩) ⟨fun q hq => wsl _ (ownw hown q hq), Ne.symm hDC⟩) (fun z s₄ g => ?_) fun s₄ g => ?_
        · refine hide9 fun C9 k9 => ?_
          obtain ⟨h₅, tk₅, nw₅, rfl, F₅, N₅, off₅, J₅⟩ := g
          refine k9 ?_
          clear k9
          have zD := (N₅ (D, lst ys) (List.mem_append_left _ (List.mem_append_right _ (.tail _ (.head _))))).1
          have zC := (N₅ (C, oC) (List.mem_append_left _ (List.mem_append_right _ (.head _)))).1
          have N₅' : News h₀ L h₅ nw₅ := fun p hp => N₅ p (List.mem_append_right _ hp)
          have hst₅ : St (i + 1) h₅ := hSt2 _ _ _ _ _ _ J₅ hst₄ hown hval (fun p hp => (N₅ p (List.mem_append_left _ (List.mem_append_left _ hp))).1) N₅'
          have o5 : ∀ p ∈ nw₅, p.1 ∉ ws.map (·.1) ∧ p.1 ≠ C ∧ p.1 ≠ D := fun p hp => ⟨fun h => by
            rw [← hown.map] at h
            obtain ⟨q, hq, e⟩ := List.mem_map.mp h
            exact off₅ p hp q (List.mem_append_left _ hq) e.symm, off₅ p hp _ (List.mem_append_right _ (.head _)), off₅ p hp _ (List.mem_append_right _ (.tail _ (.head _)))⟩
          refine append_at (hsz := by show ys.toArray.size ≤ sizeLine; rw [List.size_toArray]; exact Nat.le_trans hyl (Nat.le_trans hi hsz)) zD fun h₆ hs₆ hD₆ => ?_
          refine ⟨n + 1 - (i + 1), by omega, h₆, tk₅, i + 1, ys ++ [z], _, nw₅, rfl, hlt, rfl, by rw [List.length_append, List.length_singleton]; omega, W.frame _ _ _ hst₅ fun b hb o e => hs₆.extBut b o (below b (hfp b hb)).2 e, F₅.change hs₆ hDL hD₀, (hoC.ns zC).sameBut hs₆ (Ne.symm hDC), fun p hp => ?_, o5, J₅⟩
          rcases List.mem_cons.mp hp with rfl | hp
          · exact ⟨hD₆.trans (congrArg some (lst_snoc ys z)), hDL, hD₀⟩
          · exact ⟨hs₆.extBut _ _ (o5 p hp).2.2 (N₅' p hp).1, (N₅' p hp).2⟩
        · refine hide9 fun C9 k9 => ?_
          obtain ⟨h₅, tk₅, nw₅, rfl, F₅, N₅, off₅, J₅⟩ := g
          refine k9 ?_
          clear k9
          have zD := (N₅ (D, lst ys) (List.mem_append_left _ (List.mem_append_right _ (.tail _ (.head _)))))
          have zC := (N₅ (C, oC) (List.mem_append_left _ (List.mem_append_right _ (.head _)))).1
          have N₅' : News h₀ L h₅ nw₅ := fun p hp => N₅ p (List.mem_append_right _ hp)
          have hst₅ : St (i + 1) h₅ := hSt2 _ _ _ _ _ _ J₅ hst₄ hown hval (fun p hp => (N₅ p (List.mem_append_left _ (List.mem_append_left _ hp))).1) N₅'
          have o5 : ∀ p ∈ nw₅, p.1 ∉ ws.map (·.1) ∧ p.1 ≠ C ∧ p.1 ≠ D := fun p hp => ⟨fun h => by
            rw [← hown.map] at h
            obtain ⟨q, hq, e⟩ := List.mem_map.mp h
            exact off₅ p hp q (List.mem_append_left _ hq) e.symm, off₅ p hp _ (List.mem_append_right _ (.head _)), off₅ p hp _ (List.mem_append_right _ (.tail _ (.head _)))⟩
          refine ⟨n + 1 - (i + 1), by omega, h₅, tk₅, i + 1, ys, _, nw₅, rfl, hlt, rfl, by omega, hst₅, F₅, hoC.ns zC, fun p hp => ?_, o5, J₅⟩
          rcases List.mem_cons.mp hp with rfl | hp
          · exact zD
          · exact N₅' p hp
      · obtain rfl : i = n := Nat.le_antisymm hi (Nat.not_lt.mp hlt)
        refine W.done _ _ _ hst' fun h₂ tk₂ hk₂ => ?_
        refine hRR _ _ h₂ tk₂ _ ys nw ⟨F'.ns.at' fun o e => hk₂ _ o wL e, fun c o e => hk₂ c o (w0 c o e) (F'.keep c o e), F'.above⟩ (fun p hp => ?_) (off1_of fun p hp => (off' p hp).2.2) (hn'.at' fun o e => hk₂ _ o wC e) hC₀ hD₀ hCL hDL (Ne.symm hDC) (fun p hp => (off' p hp).2.1) hJ'
        have z := N' p hp
        refine ⟨hk₂ _ _ ?_ z.1, z.2⟩
        rcases List.mem_cons.mp hp with rfl | hp
        · exact wD
        · exact fun h => (off' p hp).1 (hws _ h)
    · rcases List.mem_cons.mp hp with rfl | hp
      · exact ⟨hacc, hDL, hD₀⟩
      · exact N.grown old p hp
    · have := hD ▸ Heap.lt_size (N p hp).1
      exact ⟨off p hp, (below _ this).1, (below _ this).2⟩
  exact codeAny_compStart_list (loop _ rfl) (hself _ _ _ (W.frame _ _ _ hst fun b _ o e => old b o e) (loop _ rfl))
end
end Mine
end

section
open PySem PySem.W PySem.Calls PyProof.Rows PyProof.Rows.LCg PyProof.Rows.LCt
set_option maxRecDepth 100000
namespace Mine
section
variable {prog : Program} {w : World} {A : Around} {E : Value → Shared → Prop} {s : Shared} {h₀ : Heap} {L : Addr} {m : Str → Option Value} {env : Env}
noncomputable def PEnum (prog : Program) (w : World) (A : Around) (h₀ : Heap) (L : Addr) (m : Str → Option Value) (env : Env) (ts : List Expr) (elt : Expr) (a b : Str) (scope : Scope) (cl : List (Str × Addr)) (Fin : Shared → List Value → List (Addr × Obj) → Prop) (xv : Value) (s₁ : Shared) : Prop :=
  ∃ e it l vs n news J, xv = .ref e ∧ A.handled = none ∧ Fr h₀ L s₁.heap m ∧ News h₀ L s₁.heap news ∧ EnumAt h₀ s₁.heap L e it l news ∧ vs.length ≤ sizeLine ∧ (∀ i ys nw, J i ys nw → (l, listOf (List.toArray vs) n) ∈ nw) ∧ J 0 [] news ∧
    PTurn prog w A h₀ L m env ts elt a b scope cl [(e, "enumerate"), (it, "list_iterator")] vs.length (fun i x y => (∃ t, x = .int i t) ∧ vs[i]? = some y) J s₁ ∧ ∀ ys nw, J vs.length ys nw → Fin s₁ ys nw
noncomputable def PList (prog : Program) (w : World) (A : Around) (h₀ : Heap) (L : Addr) (m : Str → Option Value) (env : Env) (ts : List Expr) (elt : Expr) (a b : Str) (scope : Scope) (cl : List (Str × Addr)) (Fin : Shared → List Value → List (Addr × Obj) → Prop) (xv : Value) (s₁ : Shared) : Prop :=
  ∃ l vs n news J R, xv = .ref l ∧ A.handled = none ∧ Fr h₀ L s₁.heap m ∧ News h₀ L s₁.heap news ∧ vs.length ≤ sizeLine ∧ (∀ i ys nw, J i ys nw → (l, listOf (List.toArray vs) n) ∈ nw) ∧ (∀ i v, vs[i]? = some v → ∃ T x y k, v = .ref T ∧ R i x y ∧ ∀ j ys nw, J j ys nw → (T, ({ cls := .type "tuple", data := .seq #[x, y] k } : Obj)) ∈ nw) ∧ J 0 [] news ∧
    (∀ I, (∀ x ∈ news, @LT.lt Nat _ x.1 I) → PTurn prog w A h₀ L m env ts elt a b scope cl [(I, "list_iterator")] vs.length R J s₁) ∧ ∀ ys nw, J vs.length ys nw → Fin s₁ ys nw
noncomputable def PSrc (prog : Program) (w : World) (A : Around) (h₀ : Heap) (L : Addr) (m : Str → Option Value) (env : Env) (ts : List Expr) (elt : Expr) (a b : Str) (scope : Scope) (cl : List (Str × Addr)) (Fin : Shared → List Value → List (Addr × Obj) → Prop) (xv : Value) (s₁ : Shared) : Prop :=
  PEnum prog w A h₀ L m env ts elt a b scope cl Fin xv s₁ ∨ PList prog w A h₀ L m env ts elt a b scope cl Fin xv s₁
theorem objs1 {a : Addr} {c : String} : ∀ {own : List (Addr × Obj)}, Objs [(a, c)] own → ∃ o, own = [(a, o)] ∧ o.cls = .type c
  | [(_, o)], ⟨⟨e, h⟩, _⟩ => by
    dsimp only at e h
    subst e
    exact ⟨o, rfl, h⟩
  | [], h => h.elim
  | _ :: _ :: _, ⟨_, h⟩ => h.elim
theorem objs2 {a b : Addr} {c d : String} : ∀ {own : List (Addr × Obj)}, Objs [(a, c), (b, d)] own → ∃ o o', own = [(a, o), (b, o')] ∧ o.cls = .type c ∧ o'.cls = .type d
  | [], h => h.elim
  | [_], ⟨_, h⟩ => h.elim
  | [(_, o), (_, o')], ⟨⟨e, h⟩, ⟨e', h'⟩, _⟩ => by
    dsimp only at e h e' h'
    subst e; subst e'
    exact ⟨o, o', rfl, h, h'⟩
  | _ :: _ :: _ :: _, ⟨_, _, h⟩ => h.elim
theorem psrc_block {elt iter : Expr} {a b : Str} {pa pb tp : Pos} {kk : Nat} {ts : List Expr} {scope : Scope} {cl : List (Str × Addr)} {pos : Pos} {Fin : Shared → List Value → List (Addr × Obj) → Prop} {xv : Value} {s₁ : Shared} {RR : Value → Addr → Result → Shared → Prop}
    (hts : ts = [] ∨ ∃ c, ts = [c]) (hcell : ∀ y ∈ scope.names, y.2 ≠ .cell) (hkind : scope.kind = .function) (hxa : scope.names.lookup a = some .local) (hxb : scope.names.lookup b = some .local) (hab : ¬ a = b)
    (S : PSrc prog w A h₀ L m env ts elt a b scope cl Fin xv s₁)
    (hRR : ∀ D C h tk m' ys nw, Fr h₀ L h m → News h₀ L h ((D, lst ys) :: nw) → Off1 D nw → h.Ns C m' → h₀.get? C = none → h₀.get? D = none → C ≠ L → D ≠ L → C ≠ D → (∀ p ∈ nw, p.1 ≠ C) → Fin s₁ ys nw → RR (.ref D) C (.ok .next) { s₁ with heap := h, toks := tk }) :
    wpAny (model prog w) A (pyIter xv) (fun it s₂ => wpAny (model prog w) A (newList []) (fun acc s₃ => wpAny (model prog w) A (newFunctionEnv scope env.globals cl [] env.qual none .none (some env)) (fun cenv s₄ =>
      codeAny (model prog w) A (.compStart (.ListComp elt [⟨.Tuple [.Name a pa, .Name b pb] kk tp, iter, ts, 0⟩] scope pos) 0 it acc { cenv with scope := relabel scope env }) (RR acc cenv.locals) s₄) E s₃) E s₂) E s₁ := by
  rcases S with ⟨e, it, l, vs, n, news, J, rfl, hh, F, N, hE, hsz, hm, hJ, ht, hf⟩ | ⟨l, vs, n, news, J, R, rfl, hh, F, N, hsz, hm, hp, hJ, ht, hf⟩
  · have hl := hm _ _ _ hJ
    have hlt := hE.lo _ hl
    have hhi := hE.hi
    have hL := hE.fr
    have hn := hE.ab
    have zl := N _ hl
    have n1 : l ≠ it := Nat.ne_of_lt hlt
    have n2 : l ≠ e := Nat.ne_of_lt (Nat.lt_trans hlt hhi)
    have n3 : L ≠ it := Nat.ne_of_lt hL
    have n4 : L ≠ e := Nat.ne_of_lt (Nat.lt_trans hL hhi)
    have f1 : h₀.get? it = none := Heap.get?_none_of_le hn
    have f2 : h₀.get? e = none := Heap.get?_none_of_le (Nat.le_trans hn (Nat.le_of_lt hhi))
    have W := enum_W (prog := prog) (w := w) (vs := vs) (elts := [.Name a pa, .Name b pb]) (k := kk) (pos := tp) hh (Ne.symm (Nat.ne_of_lt hhi)) n2 n1
    have elt : e < s₁.heap.objs.size := Heap.lt_size hE.en
    refine wpAny_pyIter_enum hE.en (block_K (ws := [(e, "enumerate"), (it, "list_iterator")]) hts hh W (fun s' Q E' st q => by obtain ⟨⟨old, he⟩, _⟩ := st; exact wpAny_pyIter_enum he q) (by rw [List.size_toArray]; exact hsz) (fun i h st => ?_) (fun x hx => by simpa using hx) (fun x hx => ?_) J (fun j ys nw h h' own hj st ho h1 h2 hN => ?_)
      (R := fun i x y => (∃ t, x = .int i t) ∧ vs[i]? = some y) (fun i v h ys nw hPv hj hN => ?_) hcell hkind hxa hxb hab ⟨⟨_, hE.en⟩, hE.li, ⟨_, zl.1, rfl, n, rfl⟩⟩ (fun b hb => ?_) F N (fun hx => ?_) (fun x hx => ?_) (fun p hp hx => ?_) hJ (by rw [List.size_toArray]; exact ht)
      (fun D C h tk m' ys nw hF hN o1 hns c0 d0 cl dl cd oc hj => hRR D C h tk m' ys nw hF hN o1 hns c0 d0 cl dl cd oc (hf ys nw (by rw [List.size_toArray] at hj; exact hj))))
    · refine hide9 fun C9 k9 => ?_
      obtain ⟨⟨old, he⟩, ⟨oI, hoI, hcI, _⟩, _⟩ := st
      refine k9 ?_
      clear k9
      obtain ⟨oE, hoE, hcE⟩ : ∃ o, h.get? e = some o ∧ o.cls = .type "enumerate" := ⟨_, he, rfl⟩
      refine ⟨[(e, oE), (it, oI)], ⟨⟨rfl, hcE⟩, ⟨rfl, hcI⟩, trivial⟩, fun p hp => ?_⟩
      rcases List.mem_cons.mp hp with rfl | hp
      · exact hoE
      · rw [List.mem_singleton.mp hp]; exact hoI
    · have hx' : x = e ∨ x = it := by simpa using hx
      rcases hx' with rfl | rfl <;> simp
    · refine hide9 fun C9 k9 => ?_
      obtain ⟨⟨old, he⟩, ⟨oI, hoI, hcI, hdI⟩, hlI⟩ := st
      obtain ⟨oE, oJ, rfl, _, _⟩ := objs2 ho
      refine k9 ?_
      clear k9
      have a1 := h1 _ (.head _)
      have a2 := h1 _ (.tail _ (.head _))
      have b1 := h2 _ (.head _)
      have b2 := h2 _ (.tail _ (.head _))
      dsimp only at a1 a2 b1 b2
      have he' : h.get? e = some _ := he
      have e3 := b1.trans (a1.symm.trans he')
      have e4 : oJ = oI := Option.some.inj (a2.symm.trans hoI)
      subst e4
      exact ⟨⟨old, e3⟩, ⟨_, b2, hcI, hdI⟩, ⟨_, (hN _ (hm _ _ _ hj)).1, rfl, n, rfl⟩⟩
    · refine hide9 fun C9 k9 => ?_
      obtain ⟨T, vals, rfl, ⟨t, x, hx, rfl⟩, hT⟩ := hPv
      refine k9 ?_
      clear k9
      exact ⟨T, _, x, rfl, hT, ⟨t, rfl⟩, by simpa using hx⟩
    · rcases List.mem_cons.mp hb with rfl | hb
      · exact elt
      rcases List.mem_cons.mp hb with rfl | hb
      · exact Nat.lt_trans hhi elt
      · rw [List.mem_singleton.mp hb]; exact Nat.lt_trans hlt (Nat.lt_trans hhi elt)
    · have hx' : L = e ∨ L = it := by simpa using hx
      rcases hx' with h | h
      · exact n4 h
      · exact n3 h
    · have hx' : x = e ∨ x = it := by simpa using hx
      rcases hx' with rfl | rfl
      · exact f2
      · exact f1
    · have hx' : p.1 = e ∨ p.1 = it := by simpa using hx
      have := hE.lo p hp
      rcases hx' with h | h
      · exact Nat.ne_of_lt (Nat.lt_trans this hhi) h
      · exact Nat.ne_of_lt this h
  · have hl : s₁.heap.IsList l vs.toArray := ⟨_, (N _ (hm _ _ _ hJ)).1, rfl, n, rfl⟩
    have hlt : l < s₁.heap.objs.size := Heap.lt_size (N _ (hm _ _ _ hJ)).1
    have up : ∀ b o, s₁.heap.get? b = some o → (s₁.heap.push { cls := .type "list_iterator", data := .fields #[.ref l, .int 0 0] }).get? b = some o := fun b o e => Heap.get?_push_of_some _ e
    have W := KTurns.ofWalks (target := .Tuple [.Name a pa, .Name b pb] kk tp) (Walks.list (prog := prog) (w := w) hh s₁.heap.objs.size l (Nat.ne_of_lt hlt) vs.toArray) (fun i v s Q E st q => letGo_listiter st.1 q)
    refine wpAny_pyIter_list hl (block_K (s₂ := { s₁ with heap := s₁.heap.push { cls := .type "list_iterator", data := .fields #[.ref l, .int 0 0] } }) (ws := [(s₁.heap.objs.size, "list_iterator")]) hts hh W (fun s' Q E' st q => wpAny_pyIter_listiter st.1 q) (by rw [List.size_toArray]; exact hsz) (fun i h st => ?_) (fun x hx => by simpa using hx) (fun x hx => ?_) J (fun j ys nw h h' own hj st ho h1 h2 hN => ?_)
      (R := R) (fun i v h ys nw hPv hj hN => ?_) hcell hkind hxa hxb hab ⟨⟨_, Heap.get?_push_size _ rfl, rfl, rfl⟩, hl.push _⟩ (fun b hb => ?_) (F.keeps up) (N.grown up) (fun hx => ?_) (fun x hx => ?_) (fun p hp hx => ?_) hJ (by rw [List.size_toArray]; exact ht _ fun x hx => Heap.lt_size (N x hx).1)
      (fun D C h tk m' ys nw hF hN o1 hns c0 d0 cl dl cd oc hj => hRR D C h tk m' ys nw hF hN o1 hns c0 d0 cl dl cd oc (hf ys nw (by rw [List.size_toArray] at hj; exact hj))))
    · refine hide9 fun C9 k9 => ?_
      obtain ⟨⟨oI, hoI, hcI, _⟩, _⟩ := st
      refine k9 ?_
      clear k9
      exact ⟨[(_, oI)], ⟨⟨rfl, hcI⟩, trivial⟩, fun p hp => by rw [List.mem_singleton.mp hp]; exact hoI⟩
    · have hx' : x = s₁.heap.objs.size := by simpa using hx
      rw [hx']; exact .head _
    · refine hide9 fun C9 k9 => ?_
      obtain ⟨⟨oI, hoI, hcI, hdI⟩, hlI⟩ := st
      refine k9 ?_
      clear k9
      obtain ⟨oJ, rfl, _⟩ := objs1 ho
      have a1 := h1 _ (.head _)
      have b1 := h2 _ (.head _)
      dsimp only at a1 b1
      have e4 : oJ = oI := Option.some.inj (a1.symm.trans hoI)
      subst e4
      exact ⟨⟨_, b1, hcI, hdI⟩, ⟨_, (hN _ (hm _ _ _ hj)).1, rfl, n, rfl⟩⟩
    · have hPv' : vs.toArray[i]? = some v := hPv
      refine hide9 fun C9 k9 => ?_
      obtain ⟨T, x, y, k, rfl, hR, hT⟩ := hp i v (by simpa using hPv')
      refine k9 ?_
      clear k9
      exact ⟨T, x, y, rfl, ⟨_, (hN _ (hT _ _ _ hj)).1, rfl, k, rfl⟩, hR⟩
    · show b < (s₁.heap.push _).objs.size
      rw [Heap.size_push]
      rcases List.mem_cons.mp hb with rfl | hb
      · exact Nat.lt_succ_self _
      · rw [List.mem_singleton.mp hb]; exact Nat.lt_succ_of_lt hlt
    · have hx' : L = s₁.heap.objs.size := by simpa using hx
      exact Nat.ne_of_lt F.ns.lt hx'
    · have hx' : x = s₁.heap.objs.size := by simpa using hx
      rw [hx']; exact next_is_new F
    · have hx' : p.1 = s₁.heap.objs.size := by simpa using hx
      exact Nat.ne_of_lt (Heap.lt_size (N p hp).1) hx'
/-- «[elt for a, b in iter]», with or without a test -/
theorem ListComp_K {elt iter : Expr} {a b : Str} {pa pb tp : Pos} {kk : Nat} {ts : List Expr} {scope : Scope} {cl : List (Str × Addr)} {pos : Pos} {Q : Value → Shared → Prop} (_F : Fr h₀ L s.heap m) (hts : ts = [] ∨ ∃ c, ts = [c])
    (hclos : closureFor scope env = pure cl) (hcell : ∀ y ∈ scope.names, y.2 ≠ .cell) (hkind : scope.kind = .function) (hnames : ∀ z ∈ scope.names, z.2 = .local → scope.names.lookup z.1 = some .local) (hxa : scope.names.lookup a = some .local) (hxb : scope.names.lookup b = some .local) (hab : ¬ a = b)
    (h : wpAny (model prog w) A (eval iter env) (PSrc prog w A h₀ L m env ts elt a b scope cl (fun s₂ => FinE h₀ L m s₂ Q)) E s) (hs : ∀ v, foldedSetIterable iter env v = pure v) :
    wpAny (model prog w) A (eval (.ListComp elt [⟨.Tuple [.Name a pa, .Name b pb] kk tp, iter, ts, 0⟩] scope pos) env) Q E s := by
  rw [eval_ListComp]
  refine wpAny_comprehension_free (use := none) rfl hs hclos hkind hnames (wpAny_mono h (fun xv s₁ h₁ => psrc_block hts hcell hkind hxa hxb hab h₁ fun D C h' tk m' ys nw F' N' o1 hn hC₀ hD₀ hCL hDL hCD offC fin => ?_) fun _ _ e => e)
  refine ⟨m', hn, fun h'' hs'' => fin D h'' tk (F'.change hs'' hCL hC₀) (fun p hp => ?_) o1⟩
  refine ⟨hs''.extBut _ _ ?_ (N' p hp).1, (N' p hp).2⟩
  rcases List.mem_cons.mp hp with rfl | hp
  · exact Ne.symm hCD
  · exact offC p hp
variable {ts : List Expr} {elt : Expr} {a b : Str} {scope : Scope} {cl : List (Str × Addr)} {Fin : Shared → List Value → List (Addr × Obj) → Prop} {s₁ : Shared} {news : List (Addr × Obj)}
theorem pEnum_of {e it l : Addr} {vs : List Value} {n : Nat} (hh : A.handled = none) (F : Fr h₀ L s₁.heap m) (N : News h₀ L s₁.heap news) (hE : EnumAt h₀ s₁.heap L e it l news) (hsz : vs.length ≤ sizeLine) (J : Nat → List Value → List (Addr × Obj) → Prop) (hm : ∀ i ys nw, J i ys nw → (l, listOf vs.toArray n) ∈ nw) (j0 : J 0 [] news)
    (ht : ∀ i y t ys nw oE oI oC C D m₂ h tk (E' : Value → Shared → Prop), i < vs.length → J i ys nw → vs[i]? = some y → NsObj oC m₂ → m₂ a = some (.int i t) → m₂ b = some y → oE.cls = .type "enumerate" → oI.cls = .type "list_iterator" → Fr h₀ L h m → News h₀ L h ((e, oE) :: (it, oI) :: (C, oC) :: (D, lst ys) :: nw) →
      (∀ p ∈ nw, @Ne Nat p.1 e ∧ @Ne Nat p.1 it ∧ @Ne Nat p.1 C ∧ @Ne Nat p.1 D) → (@Ne Nat e C ∧ @Ne Nat e D ∧ @Ne Nat it C ∧ @Ne Nat it D ∧ @Ne Nat C D) →
      PStep prog w A elt (compEnvC scope cl C env) (XEnd h₀ L m { s₁ with heap := h, toks := tk } [(e, oE), (it, oI), (C, oC), (D, lst ys)] (fun z nw' => J (i + 1) (ys ++ [z]) nw')) (fun s₄ => XEnd h₀ L m { s₁ with heap := h, toks := tk } [(e, oE), (it, oI), (C, oC), (D, lst ys)] (fun _ nw' => J (i + 1) ys nw') .none s₄) E' ts { s₁ with heap := h, toks := tk })
    (fin : ∀ ys nw, J vs.length ys nw → Fin s₁ ys nw) : PSrc prog w A h₀ L m env ts elt a b scope cl Fin (.ref e) s₁ := by
  refine .inl ⟨e, it, l, vs, n, news, J, rfl, hh, F, N, hE, hsz, hm, j0, ?_, fin⟩
  intro i x y ys nw own oC C D m₂ h tk E' hi hj hR hC ha hb ho hF hN hoff hne
  obtain ⟨⟨t, rfl⟩, hy⟩ := hR
  refine hide9 fun C9 k9 => ?_
  obtain ⟨p2, q2, rfl, c1, c2⟩ := objs2 ho
  refine k9 ?_
  clear k9
  exact ht i y t ys nw p2 q2 oC C D m₂ h tk E' hi hj hy hC ha hb c1 c2 hF hN (fun r hr => ⟨(hoff r hr).1 _ (.head _), (hoff r hr).1 _ (.tail _ (.head _)), (hoff r hr).2⟩) ⟨(hne.1 _ (.head _)).1, (hne.1 _ (.head _)).2, (hne.1 _ (.tail _ (.head _))).1, (hne.1 _ (.tail _ (.head _))).2, hne.2⟩
theorem pList_of {l : Addr} {vs : List Value} {n : Nat} (hh : A.handled = none) (F : Fr h₀ L s₁.heap m) (N : News h₀ L s₁.heap news) (hsz : vs.length ≤ sizeLine) (R : Nat → Value → Value → Prop) (J : Nat → List Value → List (Addr × Obj) → Prop) (hm : ∀ i ys nw, J i ys nw → (l, listOf vs.toArray n) ∈ nw) (j0 : J 0 [] news)
    (hp : ∀ i v, vs[i]? = some v → ∃ T x y k, v = .ref T ∧ R i x y ∧ ∀ j ys nw, J j ys nw → (T, ({ cls := .type "tuple", data := .seq #[x, y] k } : Obj)) ∈ nw)
    (ht : ∀ i x y ys nw I oI oC C D m₂ h tk (E' : Value → Shared → Prop), i < vs.length → J i ys nw → R i x y → NsObj oC m₂ → m₂ a = some x → m₂ b = some y → oI.cls = .type "list_iterator" → Fr h₀ L h m → News h₀ L h ((I, oI) :: (C, oC) :: (D, lst ys) :: nw) →
      (∀ p ∈ nw, @Ne Nat p.1 I ∧ @Ne Nat p.1 C ∧ @Ne Nat p.1 D) → (@Ne Nat I C ∧ @Ne Nat I D ∧ @Ne Nat C D) →
      PStep prog w A elt (compEnvC scope cl C env) (XEnd h₀ L m { s₁ with heap := h, toks := tk } [(I, oI), (C, oC), (D, lst ys)] (fun z nw' => J (i + 1) (ys ++ [z]) nw')) (fun s₄ => XEnd h₀ L m { s₁ with heap := h, toks := tk } [(I, oI), (C, oC), (D, lst ys)] (fun _ nw' => J (i + 1) ys nw') .none s₄) E' ts { s₁ with heap := h, toks := tk })
    (fin : ∀ ys nw, J vs.length ys nw → Fin s₁ ys nw) : PSrc prog w A h₀ L m env ts elt a b scope cl Fin (.ref l) s₁ := by
  refine .inr ⟨l, vs, n, news, J, R, rfl, hh, F, N, hsz, hm, hp, j0, ?_, fin⟩
  intro I _ i x y ys nw own oC C D m₂ h tk E' hi hj hR hC ha hb ho hF hN hoff hne
  obtain ⟨p2, rfl, c1⟩ := objs1 ho
  exact ht i x y ys nw I p2 oC C D m₂ h tk E' hi hj hR hC ha hb c1 hF hN (fun r hr => ⟨(hoff r hr).1 _ (.head _), (hoff r hr).2⟩) ⟨(hne.1 _ (.head _)).1, (hne.1 _ (.head _)).2, hne.2⟩
theorem xsrcR_of {x : Str} {r : Addr} {lo hi : Int} {t u v : Tok} {n : Nat} (hh : A.handled = none) (F : Fr h₀ L s₁.heap m) (N : News h₀ L s₁.heap news) (hr : IsRange s₁.heap r lo hi 1 t u v) (hsm : Builtin.Range.small lo hi 1 = true) (hn : Builtin.Range.rangeSize lo hi 1 = ((n : Nat) : Int)) (hsz : n ≤ sizeLine) (J : Nat → List Value → List (Addr × Obj) → Prop) (j0 : J 0 [] news)
    (ht : ∀ i t ys nw oI oX oC I X C D h tk (E' : Value → Shared → Prop), i < n → J i ys nw → oX.data = .cell (some (.int (lo + (i : Int)) t)) → Fr h₀ L h m → News h₀ L h ((I, oI) :: (X, oX) :: (C, oC) :: (D, lst ys) :: nw) →
      (∀ p ∈ nw, @Ne Nat p.1 I ∧ @Ne Nat p.1 X ∧ @Ne Nat p.1 C ∧ @Ne Nat p.1 D) → (@Ne Nat I X ∧ @Ne Nat I C ∧ @Ne Nat I D ∧ @Ne Nat X C ∧ @Ne Nat X D ∧ @Ne Nat C D) →
      wpAny (model prog w) A (eval elt (compEnvC scope ((x, X) :: cl) C env)) (XEnd h₀ L m { s₁ with heap := h, toks := tk } [(I, oI), (X, oX), (C, oC), (D, lst ys)] (fun y nw' => J (i + 1) (ys ++ [y]) nw')) E' { s₁ with heap := h, toks := tk })
    (fin : ∀ ys nw, J n ys nw → Fin s₁ ys nw) : XSrc prog w A h₀ L m env elt x scope cl Fin (.ref r) s₁ :=
  .inr ⟨r, lo, hi, t, u, v, n, news, J, rfl, hh, F, N, hr, hsm, hn, hsz, j0, ⟨fun i v ys nw oI oX oC I X C D h tk E' hi hj hp hd hF hN ho hne => by
    obtain ⟨t, rfl⟩ := hp
    exact ht i t ys nw oI oX oC I X C D h tk E' hi hj hd hF hN ho hne⟩, fin⟩
end
end Mine
end

section
open PySem PySem.W PySem.Calls PyProof.Rows
set_option maxRecDepth 100000
set_option maxHeartbeats 0
namespace Mine
theorem allLt_mem {d : Nat} : ∀ {l : List (Addr × Obj)}, AllLt d l → ∀ x ∈ l, @LT.lt Nat _ x.1 d
  | [], _, x, hx => nomatch hx
  | p :: r, h, x, hx => by
    rcases List.mem_cons.mp hx with rfl | hx
    · exact h.1
    · exact allLt_mem h.2 x hx
theorem absB {n : Nat} (h : n < 10) : ((n : Nat) : Int) ≤ 1000 := by omega
section
theorem c_piece (w : World) (loose mean mg mb) (dp un : Nat) (gd cn nms mr a ccd cl outer A₀ base h₀ L m news s) (P : LawP) (rowA : Addr) (vs : List Value) (ep : Nat) (tkk tb tv : Tok) (b : Nat)
   (H : At w loose mean mg mb dp un A₀ base h₀ outer L m news s) (hrow : (rowA, listOf vs.toArray ep) ∈ news) (hx : vs[b]? = some (.int (P.f b) tv)) (hb : b ≤ 100) (hP : P.Ok) (Q E : Value → Shared → Prop)
   (hret : ∀ T h' tk' t1 t2, Fr h₀ L h' m → News h₀ L h' ((T, tupO [.str (blS b) t1, .str (xsS (P.sh b).natAbs) t2]) :: news) → (∀ x ∈ news, @LT.lt Nat _ x.1 T) → Q (.ref T) { s with heap := h', toks := tk' }) :
   wpAny (model PG w) (topA dp un gd cn nms mr L a ccd cl outer) (call (.ref 183) [.ref rowA, .int P.kinds tkk, .int (b : Int) tb]) Q E s := by
  k_with_none
  (k_with "all here" => first | assumption | ((with_reducible refine List.forall_mem_cons.mpr ⟨?_, ?_⟩); k_ne; k_all) | ((repeat (cases ‹_ ∧ _›)); first | assumption | walk_at "all tail" | walk_at "all raw"))
  (k_with "execs cons" => (k_here; (fail_if_success k_gentoks); (fail_if_success k_made); (with_reducible refine wpAny_execs_cons ?_); k_fold; (try dsimp only)))
  (k_with "eval Name" => (k_here; (fail_if_success (with_reducible show wpAny _ _ (eval _ (compEnvC _ _ _ _)) _ _ _)); k_dflt (refine' nameX_C ?Nkq ?ckq ?mkq ?dkq ?_ ?akq ?bkq; (case akq => exact Eq.refl _); (case bkq => exact Eq.refl (some _)); (case Nkq => k_asm); (case ckq => exact Eq.refl (some _)); (case mkq => k_mem); (case dkq => k_asm); k_whole)))
  (k_with "eval Name" => (k_here; (fail_if_success (with_reducible show wpAny _ _ (eval _ (compEnvC _ _ _ _)) _ _ _)); k_dflt (refine' nameX_L ?Fkq ?vkq ?_ ?akq ?bkq; (case Fkq => k_asm); (case akq => exact Eq.refl _); (case bkq => exact Eq.refl (some _)); (case vkq => exact Eq.refl (some _)); k_whole)))
  (k_with "callWith ref" => (k_here; (with_reducible show wpAny _ _ (callWith _ (Value.ref (OfNat.ofNat _)) _ _ _) _ _ _); k_dflt (refine' callWith_KW ?k1q ?k2q ?k3q ?_; (case k1q => k_asm); (case k2q => k_is); (case k3q => exact rfl); k_whole)))
  (k_with "callWith ref" => (k_here; (with_reducible show wpAny _ _ (callWith _ (Value.ref (OfNat.ofNat _)) _ _ _) _ _ _); k_dflt (refine' callWith_K0 ?k1q ?k2q ?_; (case k1q => first | with_reducible assumption | exact Frag.In.keeps (by with_reducible assumption) (Fr.keep (by with_reducible assumption)) | k_in); (case k2q => k_is); k_whole)))
  (k_with "callWith ref" => (k_here; (with_reducible show wpAny _ _ (callWith _ (Value.ref (OfNat.ofNat _)) _ _ _) _ _ _); k_dflt (refine' callWith_K ?k1q ?k2q ?_; (case k1q => k_asm); (case k2q => k_is); k_whole)))
  (k_with "all raw" => ((with_reducible rename ∀ p, p ∈ _ → @LT.lt Nat _ (Prod.fst p) _ => h9zq); first | exact rawLt_ne h9zq (by (fail_if_success (fail_if_success (omega (config := {})))); lia) | (clear h9zq; walk_at "all raw")))
  (k_with "all tail" => ((with_reducible rename AllLt _ _ => h9zq); first | exact allLt_ne h9zq (by (fail_if_success (fail_if_success (omega (config := {})))); lia) | (clear h9zq; walk_at "all tail")))
  (k_with "subscriptTail" => (k_here; (with_reducible show wpAny _ _ (subscriptTail _ _ (Value.ref _) (Value.int _ _)) _ _ _); k_dflt (refine' listItem ?Nk212q ?mk212q ?ak212q ?bk212q ?ck212q ?_; (case Nk212q => k_asm); (case mk212q => k_mem); (case ak212q => omega); (case bk212q => omega); (case ck212q => assumption))))
  (k_with "call builtin:abs" => (k_here; (refine abs_i ?_); intro _ _))
  (k_with "binaryOp Mult str int" => (k_here; first | (refine mul_bl (by omega) (by omega) ?_) | (refine mul_xs (by omega) (absB (by assumption)) ?_); intro _ _))
  refine hide9 fun C9 k9 => ?_
  obtain ⟨B, F, X, N, T, hd, hu⟩ := H
  refine k9 ?_
  clear k9
  have z9 : PySem.Challenge.rw_wo0040_01 = PySem.Challenge.rw_wo0040_01 ∧ Mine.frag.heap_1 = Mine.frag.heap_1 := by
    k_fill
    exact ⟨rfl, rfl⟩
  clear z9
  have N : News h₀ L s.heap ((rowA, listOf vs.toArray ep) :: news) := news_sub N fun x hx => by
    rcases List.mem_cons.mp hx with rfl | hx
    · exact hrow
    · exact hx
  have hx' : vs[((b : Nat) : Int).toNat]? = some (.int (P.f b) tv) := by rw [Int.toNat_natCast]; exact hx
  have hk1 := hP.k1
  have hk2 := hP.k2
  have hsp := sp_bd P hP b
  have hsh : (P.sh b).natAbs < 10 := by
    rcases Int.lt_or_le 0 P.size with h | h
    · exact (sh_sd (sd := 1) hP (.inl ⟨h, rfl⟩) b).2
    · exact (sh_sd (sd := -1) hP (.inr ⟨by omega, rfl⟩) b).2
  have hsh' : (Int.fdiv (P.f b) P.kinds).natAbs < 10 := hsh
  k_steps
  rename _ ∧ AllLt _ _ => l8
  rename Fr h₀ L _ _ => F8
  rename News h₀ L _ _ => N8
  simp only [Int.toNat_natCast] at N8
  exact hret _ _ _ _ _ F8 (news_sub N8 fun x hx => by
    rcases List.mem_cons.mp hx with rfl | hx
    · exact .head _
    · exact .tail _ (.tail _ hx)) (fun x hx => allLt_mem l8.2 x hx)
end
end Mine
end

section
open PySem PySem.W PySem.Calls PyProof.Rows
set_option maxRecDepth 100000
set_option maxHeartbeats 0
namespace Mine
structure PsJ (P : LawP) (stop : Nat) (D l c : Addr) (oD : Obj) (rest : List (Addr × Obj)) (i : Nat) (m : Str → Option Value) (nw : List (Addr × Obj)) : Prop where
  ex : ∃ (fs : List Value) (ep : Nat) (oV : Obj) (v : Option Value), IntsAre fs ((List.range i).map fun p => ((firstOf P.f P.kinds stop p : Nat) : Int)) ∧ nw = (D, oD) :: (l, listOf fs.toArray ep) :: (c, oV) :: rest ∧ oV.data = .cell v
  f : m "firsts" = some (.ref l)
noncomputable def tokAt (vs : List Value) (j : Nat) : Tok := match vs[j]? with
  | some (.int _ t) => t
  | _ => 0
theorem row_item {vs : List Value} {n : Nat} {f : Nat → Int} {k : Int} (h : IntsAre vs ((List.range n).map f)) (h0 : 0 ≤ k) (h1 : k < n) : vs[k.toNat]? = some (.int (f k.toNat) (tokAt vs k.toNat)) := by
  have hl : vs.length = n := by have := h.length; simpa using this
  obtain ⟨v, hv⟩ : ∃ v, vs[k.toNat]? = some v := ⟨_, List.getElem?_eq_getElem (by omega)⟩
  refine hide9 fun C9 k9 => ?_
  obtain ⟨x, t, rfl, hx⟩ := ints_at h hv
  refine k9 ?_
  clear k9
  rw [List.getElem?_map, List.getElem?_range (by omega)] at hx
  cases hx
  rw [hv]
  unfold tokAt
  rw [hv]
section
variable {prog : Program} {w : World} {A : Around} {E : Value → Shared → Prop} {h₀ : Heap} {L : Addr} {m : Str → Option Value} {env : Env}
theorem truthyN {s : Shared} {l : Addr} {news : List (Addr × Obj)} {v : Value} {vs : List Value} {n : Nat} {Q : Bool → Shared → Prop} (N : News h₀ L s.heap news) (hm : (l, listOf (v :: vs).toArray n) ∈ news) (hz : vs.length ≤ 1000) (h : ∀ tk, Q true { s with toks := tk }) : wpAny (model prog w) A (truthy (.ref l)) Q E s := by
  refine wpAny_truthy_list ⟨_, (N _ hm).1, rfl, n, rfl⟩ (by simp; omega) ?_
  have : (decide (0 < (v :: vs).toArray.size)) = true := by simp
  simpa [this] using h _
open PyProof.Rows.LCg PyProof.Rows.LCt in
/-- a comprehension with one test over a range; the ledger stays -/
theorem compTR_of {ct elt : Expr} {x : Str} {scope : Scope} {cl : List (Str × Addr)} {Fin : Shared → List Value → List (Addr × Obj) → Prop} {r : Addr} {lo hi : Int} {t u v : Tok} {n : Nat} {nw : List (Addr × Obj)} {s₁ : Shared} (hh : A.handled = none) (F : Fr h₀ L s₁.heap m) (N : News h₀ L s₁.heap nw) (hr : IsRange s₁.heap r lo hi 1 t u v) (hsm : Builtin.Range.small lo hi 1 = true) (hn : Builtin.Range.rangeSize lo hi 1 = ((n : Nat) : Int)) (hsz : n ≤ sizeLine) (J : Nat → List Value → Prop) (j0 : J 0 [])
    (ht : ∀ i t ys I oI C oC D m₂ h tk (E' : Value → Shared → Prop), i < n → J i ys → NsObj oC m₂ → m₂ x = some (.int (lo + (i : Int)) t) → Fr h₀ L h m → News h₀ L h ((I, oI) :: (C, oC) :: (D, lst ys) :: nw) → (∀ p ∈ nw, p.1 ≠ I ∧ p.1 ≠ C ∧ p.1 ≠ D) → ((@Ne Nat I C) ∧ (@Ne Nat I D) ∧ (@Ne Nat C D)) →
      wpAny (model prog w) A (isTrue ct (compEnvC scope cl C env) (eval ct (compEnvC scope cl C env))) (fun ok s' => if ok = true then
        wpAny (model prog w) A (eval elt (compEnvC scope cl C env)) (CEnd h₀ L m { s₁ with heap := h, toks := tk } I oI C oC D (lst ys) (fun _ => True) (fun y news' => J (i + 1) (ys ++ [y]) ∧ news' = nw)) E' s'
        else CEnd h₀ L m { s₁ with heap := h, toks := tk } I oI C oC D (lst ys) (fun _ => True) (fun _ news' => J (i + 1) ys ∧ news' = nw) Value.none s') E' { s₁ with heap := h, toks := tk })
    (fin : ∀ g ys, J n ys → Fin { s₁ with heap := g } ys nw) : CompSrcT prog w A h₀ L m env ct elt x scope cl Fin (.ref r) s₁ := by
  refine CompSrcT.range hh F N hr hsm hn hsz fun g => compT_inv (fun i ys nw' => J i ys ∧ nw' = nw) ?_ ?_ _ 0 [] nw (Nat.zero_add _) ⟨j0, rfl⟩
  · intro i v ys nw' I oI C oC D m₂ h tk E' hi hj hp hC hx hF hN ho hne
    obtain ⟨hj, rfl⟩ := hj
    obtain ⟨t, rfl⟩ := hp
    exact ht i t ys I oI C oC D m₂ h tk E' hi hj hC hx hF hN ho hne
  · intro ys nw' hj
    obtain ⟨hj, rfl⟩ := hj
    exact fin g ys hj
end
noncomputable def lessTo (f : Nat → Int) (q : Int) (p n : Nat) : List Nat := (List.range' (p + 1) n).filter fun o => decide (f o % q = f p % q) && decide (f o < f p)
theorem less_yes {f : Nat → Int} {q : Int} {p n : Nat} (h1 : f (p + 1 + n) % q = f p % q) (h2 : f (p + 1 + n) < f p) : lessTo f q p (n + 1) = lessTo f q p n ++ [p + 1 + n] := by
  unfold lessTo
  rw [List.range'_1_concat, List.filter_append]
  simp [h1, h2]
theorem less_no {f : Nat → Int} {q : Int} {p n : Nat} (h : f (p + 1 + n) % q = f p % q → ¬ f (p + 1 + n) < f p) : lessTo f q p (n + 1) = lessTo f q p n := by
  unfold lessTo
  rw [List.range'_1_concat, List.filter_append]
  have e : [p + 1 + n].filter (fun o => decide (f o % q = f p % q) && decide (f o < f p)) = [] := by
    simp only [List.filter_cons, List.filter_nil]
    rw [if_neg]
    simp only [Bool.and_eq_true, decide_eq_true_eq]
    exact fun ⟨a, b⟩ => h a b
  rw [e, List.append_nil]
theorem pt_yes {f : Nat → Int} {q : Int} {p n : Nat} {ys : List Value} {t : Tok} {j : Int} {g : Int} (hq : 1 ≤ q) (hj : IntsAre ys ((lessTo f q p n).map fun o => ((o : Nat) : Int))) (he : j = ((p + 1 + n : Nat) : Int)) (hg : g = f (p + 1 + n)) (h1 : Int.fmod g q = Int.fmod (f p) q) (h2 : g < f p) : IntsAre (ys ++ [.int j t]) ((lessTo f q p (n + 1)).map fun o => ((o : Nat) : Int)) := by
  subst hg; subst he
  rw [less_yes (fmod_emod hq h1) h2, List.map_append]
  exact intsAre_append hj (.cons _ _ .nil)
theorem pt_no {f : Nat → Int} {q : Int} {p n : Nat} {ys : List Value} {g : Int} (hq : 1 ≤ q) (hj : IntsAre ys ((lessTo f q p n).map fun o => ((o : Nat) : Int))) (hg : g = f (p + 1 + n)) (h : Int.fmod g q = Int.fmod (f p) q → ¬ g < f p) : IntsAre ys ((lessTo f q p (n + 1)).map fun o => ((o : Nat) : Int)) := by
  subst hg
  rw [less_no fun e => h (fmod_emod' hq e)]
  exact hj
theorem row_get {f : Nat → Int} {n j : Nat} {k : Int} (he : k.toNat = j) (h : j < n) : ((List.range n).map f).getD k.toNat 0 = f j := by
  rw [he, List.getD_eq_getElem?_getD, List.getElem?_map, List.getElem?_range h]; rfl
theorem ps_next {h₀ h' : Heap} {L : Addr} {P : LawP} {stop i : Nat} {D l c e it : Addr} {oD oE oI oV oW : Obj} {rest all : List (Addr × Obj)} {fs fs' : List Value} {ep ep' : Nat} {v : Option Value} {Q : Flow → Shared → Prop} {s₁ : Shared} {tk : Nat} {m' : Str → Option Value}
   (hoff : ∀ p ∈ (D, oD) :: (l, listOf fs.toArray ep) :: (c, oW) :: rest, @Ne Nat p.1 e ∧ @Ne Nat p.1 it) (F : Fr h₀ L h' m') (N : News h₀ L h' all) (sub : ∀ p ∈ (e, oE) :: (it, oI) :: (D, oD) :: (l, listOf fs'.toArray ep') :: (c, oV) :: rest, p ∈ all)
   (hfs : IntsAre fs' ((List.range (i + 1)).map fun p => ((firstOf P.f P.kinds stop p : Nat) : Int))) (hv : oV.data = .cell v) (hm : m' "firsts" = some (.ref l)) : EEnd h₀ L s₁ e oE it oI (PsJ P stop D l c oD rest (i + 1)) Q .next { s₁ with heap := h', toks := tk } := by
  refine eEnd_next _ F N sub (fun p hp => ?_) ⟨⟨fs', ep', oV, v, hfs, rfl, hv⟩, hm⟩
  rcases List.mem_cons.mp hp with rfl | hp
  · exact hoff _ (.head _)
  rcases List.mem_cons.mp hp with rfl | hp
  · exact hoff (l, listOf fs.toArray ep) (.tail _ (.head _))
  rcases List.mem_cons.mp hp with rfl | hp
  · exact hoff (c, oW) (.tail _ (.tail _ (.head _)))
  · exact hoff p (.tail _ (.tail _ (.tail _ hp)))
theorem firsts_snoc {f : Nat → Int} {q : Int} {stop i : Nat} {fs : List Value} {x : Int} {t : Tok} (h : IntsAre fs ((List.range i).map fun p => ((firstOf f q stop p : Nat) : Int))) (hx : x = ((firstOf f q stop i : Nat) : Int)) : IntsAre (fs ++ [.int x t]) ((List.range (i + 1)).map fun p => ((firstOf f q stop p : Nat) : Int)) := by
  subst hx
  rw [List.range_succ, List.map_append]
  exact intsAre_append h (.cons _ _ .nil)
theorem sub_passed {a b c d e f : Addr × Obj} {r : List (Addr × Obj)} : ∀ x ∈ b :: r, x ∈ a :: b :: c :: d :: e :: f :: r := by simp +contextual [or_imp]
theorem ints_cut {vs : List Value} {f : Nat → Int} {n : Nat} (h : IntsAre vs (((List.range (n + 1)).map f).take (((List.range (n + 1)).map f).length - (-(-1 : Int)).toNat))) : IntsAre vs ((List.range n).map f) := by
  have e : ((List.range (n + 1)).map f).length - (-(-1 : Int)).toNat = n := by simp
  rw [e, ← List.map_take, List.take_range, Nat.min_eq_left (Nat.le_succ n)] at h
  exact h
section
local macro_rules | `(tactic| walk_at "pyIter ref") => `(tactic| (k_here; refine stop_of ?_))

theorem c_passed (w : World) (loose mean mg mb) (dp un : Nat) (gd cn nms mr a ccd cl outer A₀ base h₀ L m news s) (P : LawP) (hP : P.Ok) (rowA : Addr) (vs : List Value) (ep : Nat) (tkk : Tok) (stop : Nat)
   (H : At w loose mean mg mb dp un A₀ base h₀ outer L m news s) (hrow : (rowA, listOf vs.toArray ep) ∈ news) (hI : IntsAre vs ((List.range (stop + 1)).map P.f)) (hst : stop ≤ 18) (Q E : Value → Shared → Prop)
   (hret : ∀ D ws h' tk' k, IntsAre ws ((List.range stop).map fun p => ((firstOf P.f P.kinds stop p : Nat) : Int)) → Fr h₀ L h' m → News h₀ L h' ((D, listOf ws.toArray k) :: news) → Q (.ref D) { s with heap := h', toks := tk' }) :
   wpAny (model PG w) (topA dp un gd cn nms mr L a ccd cl outer) (call (.ref 176) [.ref rowA, .int P.kinds tkk]) Q E s := by
  k_with_none
  (k_with "all here" => first | assumption | ((with_reducible refine List.forall_mem_cons.mpr ⟨?_, ?_⟩); k_ne; k_all) | ((repeat (cases ‹_ ∧ _›)); first | assumption | walk_at "all tail" | walk_at "all raw"))
  (k_with "execs cons" => (k_here; (fail_if_success k_gentoks); (fail_if_success k_made); (with_reducible refine wpAny_execs_cons ?_); k_fold; (try dsimp only)))
  (k_with "eval Name" => (k_here; (fail_if_success (with_reducible show wpAny _ _ (eval _ (compEnvC _ _ _ _)) _ _ _)); k_dflt (refine' nameX_C ?Nkq ?ckq ?mkq ?dkq ?_ ?akq ?bkq; (case akq => exact Eq.refl _); (case bkq => exact Eq.refl (some _)); (case Nkq => k_asm); (case ckq => exact Eq.refl (some _)); (case mkq => k_mem); (case dkq => k_asm); k_whole)))
  (k_with "eval Name" => (k_here; (fail_if_success (with_reducible show wpAny _ _ (eval _ (compEnvC _ _ _ _)) _ _ _)); k_dflt (refine' nameX_L ?Fkq ?vkq ?_ ?akq ?bkq; (case Fkq => k_asm); (case akq => exact Eq.refl _); (case bkq => exact Eq.refl (some _)); (case vkq => exact Eq.refl (some _)); k_whole)))
  (k_with "callWith ref" => (k_here; (with_reducible show wpAny _ _ (callWith _ (Value.ref (OfNat.ofNat _)) _ _ _) _ _ _); k_dflt (refine' callWith_KW ?k1q ?k2q ?k3q ?_; (case k1q => k_asm); (case k2q => k_is); (case k3q => exact rfl); k_whole)))
  (k_with "callWith ref" => (k_here; (with_reducible show wpAny _ _ (callWith _ (Value.ref (OfNat.ofNat _)) _ _ _) _ _ _); k_dflt (refine' callWith_K0 ?k1q ?k2q ?_; (case k1q => first | with_reducible assumption | exact Frag.In.keeps (by with_reducible assumption) (Fr.keep (by with_reducible assumption)) | k_in); (case k2q => k_is); k_whole)))
  (k_with "callWith ref" => (k_here; (with_reducible show wpAny _ _ (callWith _ (Value.ref (OfNat.ofNat _)) _ _ _) _ _ _); k_dflt (refine' callWith_K ?k1q ?k2q ?_; (case k1q => k_asm); (case k2q => k_is); k_whole)))
  (k_with "all raw" => ((with_reducible rename ∀ p, p ∈ _ → @LT.lt Nat _ (Prod.fst p) _ => h9zq); first | exact rawLt_ne h9zq (by (fail_if_success (fail_if_success (omega (config := {})))); lia) | (clear h9zq; walk_at "all raw")))
  (k_with "all tail" => ((with_reducible rename AllLt _ _ => h9zq); first | exact allLt_ne h9zq (by (fail_if_success (fail_if_success (omega (config := {})))); lia) | (clear h9zq; walk_at "all tail")))
  (k_with "CompSrcT" => (k_here; refine stop_of ?_))
  (k_with "subscriptTail Name Name ref int" => (k_here; (with_reducible show wpAny _ _ (subscriptTail _ _ (Value.ref _) (Value.int _ _)) _ _ _); k_dflt (refine' listItem ?Nk218q ?mk218q ?ak218q ?bk218q ?ck218q ?_; (case Nk218q => k_asm); (case mk218q => k_mem); (case ak218q => walk_at "it9"); (case bk218q => walk_at "it9"); (case ck218q => exact row_item (by assumption) (by omega) (by omega)))))
  (k_with "subscriptTail Name Name ref int" => (k_here; (with_reducible show wpAny _ _ (subscriptTail _ _ (Value.ref _) (Value.int _ _)) _ _ _); k_dflt (refine item_list_intsR (by is_list) (by assumption) (by first | decide | omega) (by first | idx_side | (simp; omega)) (by first | decide | omega) ?_); intro _))
  (k_with "subscriptTail Name Constant ref int" => (k_here; (with_reducible show wpAny _ _ (subscriptTail _ _ (Value.ref _) (Value.int _ _)) _ _ _); k_dflt (refine' listItem ?Nk220q ?mk220q ?ak220q ?bk220q ?ck220q ?_; (case Nk220q => k_asm); (case mk220q => k_mem); (case ak220q => walk_at "it9"); (case bk220q => walk_at "it9"); (case ck220q => exact rfl))))
  (k_with "truthy ref" => (k_here; (with_reducible show wpAny _ _ (truthy (Value.ref _)) _ _ _); k_dflt (refine' truthyN ?Nk221q ?mk221q ?zk221q ?_; (case Nk221q => k_asm); (case mk221q => k_mem); (case zk221q => assumption)); intro _))
  (k_with "call builtin:list.append" => (k_here; (with_reducible show wpAny _ _ (call (Value.builtin _) [Value.ref _, _]) _ _ _); k_dflt (refine' appendN ?Fk222q ?Nk222q ?Uk222q ?zk222q ?_; (case Fk222q => k_asm); (case Nk222q => k_asm); (case Uk222q => k_upd); (case zk222q => assumption); k_whole); intro _ _ _; (try k_sweep)))
  (k_with "exec For Tuple Call cons nil" => (k_here; refine stop_of ?_))
  (k_with "exec For" => (k_here; refine stop_of ?_))
  (k_with "call type:enumerate" => (k_here; k_dflt (refine' enumN ?Fk225q ?Nk225q ?mk225q ?_; (case Fk225q => k_asm); (case Nk225q => k_asm); (case mk225q => k_mem); k_whole); intro _ _ _ _ _ _))
  (k_with "it9" => first | assumption | omega | decide)
  (k_with "call builtin:len" => (k_here; (with_reducible show wpAny _ _ (call (Value.builtin "len") [Value.ref _]) _ _ _); k_dflt (refine' lenN ?Nk227q ?mk227q ?zk227q ?_; (case Nk227q => k_asm); (case mk227q => k_mem); (case zk227q => walk_at "len z"); k_whole)))
  (k_with "len z" => first | omega | (simp only [List.length_map, List.length_range]; omega))
  refine hide9 fun C9 k9 => ?_
  obtain ⟨B, F, X, N, T, hd, hu⟩ := H
  refine k9 ?_
  clear k9
  have z9 : PySem.Challenge.rw_wo0040_01 = PySem.Challenge.rw_wo0040_01 ∧ Mine.frag.heap_1 = Mine.frag.heap_1 := by
    k_fill
    exact ⟨rfl, rfl⟩
  clear z9
  have hk1 := hP.k1
  have hk2 := hP.k2
  have N : News h₀ L s.heap ((rowA, listOf vs.toArray ep) :: news) := news_sub N fun x hx => by
    rcases List.mem_cons.mp hx with rfl | hx
    · exact hrow
    · exact hx
  have hvl : vs.length = stop + 1 := by have := hI.length; simpa using this
  have hvs : vs.length ≤ 1000 := by omega
  have hvz : vs.toArray.size ≤ sizeLine := by rw [List.size_toArray]; exact Nat.le_trans hvs (by decide)
  k_steps
  unfold Stop
  rename Fr _ _ _ _ => F8
  rename News _ _ _ _ => N8
  refine For_turns F8 ?it (fun _ => by rfl) (by first | passes_own | with_unfolding_all passes_own)
  case it =>
    k_steps
    unfold Stop
    (try clear F8); (try clear N8)
    rename Fr _ _ _ _ => F8
    rename News _ _ _ _ => N8
    rename IntsAre _ (List.take _ _) => hI8
    rename EnumAt _ _ _ _ _ _ _ => hE8
    have q1 : @LT.lt Nat _ _ _ := hE8.lo _ (.head _)
    have q2 := hE8.hi
    dsimp only at q1
    have hI9 := ints_cut hI8
    clear hI8
    refine enum_turns rfl F8 N8 hE8 (.head _) (PsJ P stop _ _ _ _ _) ?hm ⟨⟨[], 0, _, _, .nil, rfl, by assumption⟩, rfl⟩ ?turn ?done
    case hm =>
      intro i m nw hz24z
      refine hide9 fun C9 k9 => ?_
      obtain ⟨⟨fs, ep, oV, v, _, rfl, _⟩, _⟩ := hz24z
      refine k9 ?_
      clear k9
      exact .head _
    case turn =>
      intro i x m₁ nw h tk oE oI T t hi hx hz25z hcE hcI hT hoff Fz Nz
      refine hide9 fun C9 k9 => ?_
      obtain ⟨⟨fs, ep2, oV, v, hfs, rfl, hoV⟩, mf⟩ := hz25z
      obtain ⟨xv, tx, rfl, hxv⟩ := ints_at hI9 hx
      refine k9 ?_
      clear k9
      have Fz := fr_at F8 (fr_ovr Fz [(Str.ofString "firsts", .ref _)] (by
        intro p hp
        rcases List.mem_cons.mp hp with rfl | hp
        · exact mf
        · cases hp)) rfl
      have Nz := news_at F8 Nz rfl
      dsimp only [ovr] at Fz
      clear F8 N8
      have hxe : xv = P.f i := by
        have := ints_at hI9 hx
        rw [List.getElem?_map, List.getElem?_range (by have := hI9.length; simp at this; omega)] at hxv
        exact (Option.some.inj hxv).symm
      subst hxe
      have hist : i < stop := by have := hI9.length; simp at this; omega
      have hsp := sp_bd P hP i
      k_steps
      unfold Stop
      clear Fz Nz
      rename Fr _ _ _ _ => F8
      rename News _ _ _ _ => N8
      refine compTR_of (n := ((vs.length : Int) - ((i : Int) + 1)).toNat) (by with_unfolding_all rfl) F8 N8 (by assumption) (small_one (by omega) (by omega) (by omega) (by omega)) (by rw [rangeSize_nat]) (Nat.le_trans (show _ ≤ 100 by omega) (by decide)) (fun i2 ys => IntsAre ys ((lessTo P.f P.kinds i i2).map fun o => ((o : Nat) : Int))) .nil ?turn2 ?fin2
      case turn2 =>
        rintro i2 t2 ys2 I2 oI2 C2 oC2 D2 m2 h2 tk2 E2 hi2 hj2 hC2 hm2 hF2 hN2 ho2 hne2
        have hio : ((i : Int) + 1 + (i2 : Int)).toNat = i + 1 + i2 := by omega
        clear F8 N8
        k_steps
        · rename Int.fmod _ _ = Int.fmod _ _ => ha
          rename List.getD _ _ _ < _ => hb
          exact cEnd_of _ hF2 hN2 (fun p hp => hp) ho2 trivial ⟨pt_yes hk1 hj2 (by omega) (row_get hio (by omega)) ha hb, rfl⟩
        · rename ¬ (List.getD _ _ _ < _) => hb
          exact cEnd_of _ hF2 hN2 (fun p hp => hp) ho2 trivial ⟨pt_no hk1 hj2 (row_get hio (by omega)) fun _ => hb, rfl⟩
        · rename Int.fmod _ _ ≠ Int.fmod _ _ => ha
          exact cEnd_of _ hF2 hN2 (fun p hp => hp) ho2 trivial ⟨pt_no hk1 hj2 (row_get hio (by omega)) fun e => absurd e ha, rfl⟩
      case fin2 =>
        intro g ys2 hj2
        have hfo : firstOf P.f P.kinds stop i = (lessTo P.f P.kinds i ((vs.length : Int) - ((i : Int) + 1)).toNat).headD 0 := by
          have : ((vs.length : Int) - ((i : Int) + 1)).toNat = stop - i := by omega
          rw [this]; rfl
        have hfl : fs.length ≤ 1000 := by have := hfs.length; simp at this; omega
        cases hos : lessTo P.f P.kinds i ((vs.length : Int) - ((i : Int) + 1)).toNat with
        | nil =>
          rw [hos] at hj2 hfo
          cases hj2
          clear F8 N8
          k_steps
          rename Fr _ _ _ _ => F8
          rename News _ _ _ _ => N8
          exact ps_next hoff F8 N8 (fun p hp => .tail _ hp) (firsts_snoc hfs (by rw [hfo]; rfl)) (by assumption) rfl
        | cons o os =>
          rw [hos] at hj2 hfo
          have hy9 := hj2.length
          cases hj2
          rename IntsAre _ (List.map _ os) => hj3
          have hy8 := hj3.length
          rw [List.length_map] at hy8
          have hy7 : os.length ≤ 100 := by
            have : (lessTo P.f P.kinds i ((vs.length : Int) - ((i : Int) + 1)).toNat).length ≤ ((vs.length : Int) - ((i : Int) + 1)).toNat := by unfold lessTo; exact Nat.le_trans (List.length_filter_le _ _) (by simp)
            rw [hos, List.length_cons] at this; omega
          have hy6 := Nat.le_trans (Nat.le_of_eq hy8) (Nat.le_trans hy7 (show 100 ≤ 1000 by decide))
          clear F8 N8
          k_steps
          rename Fr _ _ _ _ => F8
          rename News _ _ _ _ => N8
          exact ps_next hoff F8 N8 (fun p hp => .tail _ hp) (firsts_snoc hfs (by rw [hfo]; rfl)) (by assumption) rfl
    case done =>
      intro h' tk m' nw Fz Nz hz26z
      refine hide9 fun C9 k9 => ?_
      obtain ⟨⟨fs, ep2, oV, v, hfs, rfl, hoV⟩, mf⟩ := hz26z
      refine k9 ?_
      clear k9
      have hws := hI9.length
      rw [List.length_map, List.length_range] at hws
      rw [hws] at hfs
      have Fz := fr_at F8 (fr_ovr Fz [(Str.ofString "firsts", .ref _)] (by
        intro p hp
        rcases List.mem_cons.mp hp with rfl | hp
        · exact mf
        · cases hp)) rfl
      have Nz := news_at F8 Nz rfl
      dsimp only [ovr] at Fz
      clear F8 N8
      dsimp only
      k_steps
      rename Fr h₀ L _ _ => F8
      rename News h₀ L _ _ => N8
      exact hret _ _ _ _ _ hfs F8 (news_sub N8 sub_passed)
end
end Mine
end

section
open PySem PySem.W PySem.Calls PyProof.Rows
set_option maxRecDepth 100000
set_option maxHeartbeats 1000000
namespace Mine
section
variable {prog : Program} {w : World} {A : Around} {E : Value → Shared → Prop} {s : Shared} {p it : Addr} {o : Obj} {od : Option Obj} {items : Array Value} {n i : Nat}
/-- whatever bears items -/
noncomputable def IsSeq (h : Heap) (a : Addr) (items : Array Value) : Prop := ∃ o n, h.get? a = some o ∧ o.data = .seq items n
theorem acc_iter {Q : Value → Shared → Prop} (X : (Mine.frag.heap_1 w.params).In s.heap) (I : InstAt s.heap p o 101 od) (hq : Q (.ref s.heap.objs.size) { s with heap := s.heap.push { cls := .type "list_iterator", data := .fields #[.ref p, .int 0 0] } }) :
    wpAny (model PG w) A (pyIter (.ref p)) Q E s := by
  have hb : ∀ self, bindSpecial (.builtin "list.__iter__") self = pure (.builtin "list.__iter__", [self]) := slot_list_iter.bind
  have hcall : ∀ {Q' : Value → Shared → Prop} {E' : Value → Shared → Prop}, Q' (.ref s.heap.objs.size) { s with heap := s.heap.push { cls := .type "list_iterator", data := .fields #[.ref p, .int 0 0] } } → wpAny (model PG w) A (call (.builtin "list.__iter__") [.ref p]) Q' E' s := by
    intro Q' E' hq'
    refine wpAny_call (codeAny_call_builtin (by decide +kernel) entry_list_iter (acc_check X I (.inl (by decide +kernel)) (nm := "__iter__") (by decide +kernel) (args_list_iter _) ?_))
    show wpAny _ _ (do ret (← newFields "list_iterator" [.ref p, rawInt 0])) _ _ s
    exact wpAny_bind (wpAny_newObj_type (wpAny_pure hq'))
  unfold pyIter
  refine wpAny_bind (wpAny_bind (I.type.here ((looks_findIn X (f_it w.params)).here ?_)))
  show wpAny _ _ (callSpecialIfBoundUnlessNone? (.ref p) "__iter__" _ >>= _) _ _ _
  refine wpAny_bind ?_
  simp only [callSpecialIfBoundUnlessNone?, bindSpecialIfBound?]
  refine wpAny_holding (wpAny_bind (wpAny_bind (wpAny_bind (I.type.here ((looks_findIn X (f_it w.params)).here ?_)))))
  simp only [hb]
  refine wpAny_bind (wpAny_askSetting (wpAny_ite ?_))
  have hT : ({ s with heap := s.heap.push { cls := .type "list_iterator", data := .fields #[.ref p, .int 0 0] } } : Shared).TypeIs (.ref s.heap.objs.size) "list_iterator" := ⟨_, Heap.get?_push_size _ rfl, rfl⟩
  split
  · refine wpAny_bind (wpAny_pure (wpAny_pure ?_))
    simp only [builtin_beq_none, Bool.false_eq_true, if_false]
    exact wpAny_bind (hcall (wpAny_pure (wpAny_bind (wpAny_specialOf hT slot_listiter_next.lookup (wpAny_pure hq)))))
  · refine wpAny_tryCatch (wpAny_bind (wpAny_pure (wpAny_pure ?_)))
    simp only [builtin_beq_none, Bool.false_eq_true, if_false]
    exact wpAny_bind (hcall (wpAny_pure (wpAny_bind (wpAny_specialOf hT slot_listiter_next.lookup (wpAny_pure hq)))))
theorem seq_next {x : Value} {Q : Option Value → Shared → Prop} (hit : s.heap.IsListIter it p i) (hl : IsSeq s.heap p items) (hx : items[i]? = some x)
    (hQ : ∀ h', h'.IsListIter it p (i + 1) → Heap.SameBut it s.heap h' → Q (some x) { s with heap := h' }) : wpAny (model prog w) A (pyNext (.ref it)) Q E s := by
  refine hide9 fun C9 k9 => ?_
  obtain ⟨o, ho, hc, hd⟩ := id hit
  obtain ⟨ol, nl, hol, hdl⟩ := hl
  refine k9 ?_
  clear k9
  unfold pyNext
  refine wpAny_bind (wpAny_attempt (wpAny_callSpecial?_slot (name := Str.ofString "__next__") hit.typeIs slot_listiter_next (wpAny_call_entry slot_listiter_next hit.typeIs entry_listiter_next ?_ (args_listiter_next _))))
  show wpAny _ _ (field (.ref it) 0 >>= _) _ _ s
  refine wpAny_bind (wpAny_field ho hd (x := .ref p) rfl ?_)
  show wpAny _ _ (if (Value.ref p == Value.none) = true then _ else _) _ _ s
  rw [if_neg (show ¬ ((Value.ref p == Value.none) = true) from Bool.false_ne_true)]
  show wpAny _ _ (field (.ref it) 1 >>= _) _ _ s
  refine wpAny_bind (wpAny_field ho hd (x := .int i 0) rfl ?_)
  show wpAny _ _ (seqItems? (.ref p) >>= _) _ _ s
  refine wpAny_bind (wpAny_seqItems hol hdl ?_)
  simp only [Int.toNat_natCast, hx]
  refine wpAny_bind (wpAny_setField ho hd (by simp) (wpAny_pure ⟨x, rfl, wpAny_pure (hQ _ ?_ (Heap.SameBut.update ..))⟩))
  exact ⟨_, Heap.get?_update_self _ ho (Obj.isFreed_of_fields (Obj.data_mapFields hd _)), (Obj.cls_mapFields ..).trans hc, by
    rw [Obj.data_mapFields hd]; simp [rawInt]⟩
theorem seq_end {Q : Option Value → Shared → Prop} (hh : A.handled = none) (hit : s.heap.IsListIter it p i) (hl : IsSeq s.heap p items) (hx : items[i]? = none)
    (hQ : ∀ h', Heap.ExtBut it s.heap h' → Q none { s with heap := h' }) : wpAny (model prog w) A (pyNext (.ref it)) Q E s := by
  refine hide9 fun C9 k9 => ?_
  obtain ⟨o, ho, hc, hd⟩ := id hit
  obtain ⟨ol, nl, hol, hdl⟩ := hl
  refine k9 ?_
  clear k9
  unfold pyNext
  refine wpAny_bind (wpAny_attempt (wpAny_callSpecial?_slot (name := Str.ofString "__next__") hit.typeIs slot_listiter_next (wpAny_call_entry slot_listiter_next hit.typeIs entry_listiter_next ?_ (args_listiter_next _))))
  show wpAny _ _ (field (.ref it) 0 >>= _) _ _ s
  refine wpAny_bind (wpAny_field ho hd (x := .ref p) rfl ?_)
  show wpAny _ _ (if (Value.ref p == Value.none) = true then _ else _) _ _ s
  rw [if_neg (show ¬ ((Value.ref p == Value.none) = true) from Bool.false_ne_true)]
  show wpAny _ _ (field (.ref it) 1 >>= _) _ _ s
  refine wpAny_bind (wpAny_field ho hd (x := .int i 0) rfl ?_)
  show wpAny _ _ (seqItems? (.ref p) >>= _) _ _ s
  refine wpAny_bind (wpAny_seqItems hol hdl ?_)
  simp only [Int.toNat_natCast, hx]
  refine wpAny_bind (wpAny_rule (wpAny_bind (wpAny_setField ho hd (by simp) ?_)))
  show wpAny _ _ (newExc (.type "StopIteration") [] >>= _) _ _ _
  refine wpAny_bind ?_
  simp only [newExc, newTuple]
  refine wpAny_bind (wpAny_newObj_type ?_ (by size_fits))
  refine wpAny_bind (m := firstArgMember _ _) (wpAny_of_eq (a := Value.none) (by first | rfl | (simp only [firstArgMember]; rfl)) ?_)
  refine wpAny_newObj_type ?_ (by size_fits)
  simp only [raiseNew]
  refine wpAny_bind (wpAny_handled ?_)
  rw [show A.in1.handled = none from hh]
  refine wpAny_bind (wpAny_pure (wpAny_throw ?_))
  refine wpAny_bind (wpAny_isInstance (T := "StopIteration") (b := true) ⟨_, Heap.get?_push_size _ rfl, rfl⟩ isSubtype_stop ?_)
  exact wpAny_pure (hQ _ (((Heap.SameBut.update ..).extBut.push _).push _))
theorem IsSeq.at {h h' : Heap} {a : Addr} {its : Array Value} (x : IsSeq h a its) (k : ∀ o, h.get? a = some o → h'.get? a = some o) : IsSeq h' a its :=
  let ⟨o, n, e, d⟩ := x; ⟨o, n, k o e, d⟩
/-- the items of an instance of a list's subclass -/
theorem seq_walks (hh : A.handled = none) (hne : p ≠ it) : Walks prog w A it [it, p] [it] items.size (fun i v => items[i]? = some v) (fun i h => h.IsListIter it p i ∧ IsSeq h p items) where
  sub := fun b hb => by simp at hb; simp [hb]
  frame := fun _ _ _ st hk => ⟨st.1.at fun o e => hk it (by simp) o e, st.2.at fun o e => hk p (by simp) o e⟩
  item := fun i s Q E hi st hQ => by
    refine seq_next st.1 st.2 (x := items[i]) (by simp [hi]) fun h' hit' hs' => ?_
    exact hQ _ h' s.toks (by simp [hi]) ⟨hit', st.2.at fun o e => hs'.extBut p o hne e⟩ fun b o hb e => hs'.extBut b o (fun h => hb (by simp [h])) e
  done := fun s Q E st hQ => seq_end hh st.1 st.2 (by simp) fun h' he' => hQ h' s.toks fun b o hb e => he' b o (fun h => hb (by simp [h])) e
  self := fun _ _ _ _ st hQ => wpAny_pyIter_listiter st.1 hQ
theorem seq_pairs (hh : A.handled = none) (hne : p ≠ it) (Ts : Nat → Addr) (vals : Nat → Array Value) (hit : ∀ j, j < items.size → items[j]? = some (.ref (Ts j))) (hTI : ∀ j, j < items.size → Ts j ≠ it) :
    WalksU prog w A it (it :: p :: (List.range items.size).map Ts) [it] items.size (fun j v => j < items.size ∧ v = vals j)
      (fun j h => h.IsListIter it p j ∧ IsSeq h p items ∧ ∀ k, k < items.size → h.IsTuple (Ts k) (vals k))
      (fun j T h => (j < items.size ∧ T = Ts j) ∧ h.IsListIter it p (j + 1) ∧ IsSeq h p items ∧ ∀ k, k < items.size → h.IsTuple (Ts k) (vals k)) where
  sub := fun b hb => by simp at hb; simp [hb]
  frame := fun _ _ _ st hk => ⟨st.1.at fun o e => hk it (by simp) o e, st.2.1.at fun o e => hk p (by simp) o e,
    fun k hk' => (st.2.2 k hk').at fun o e => hk (Ts k) (List.mem_cons_of_mem _ (List.mem_cons_of_mem _ (List.mem_map.mpr ⟨k, List.mem_range.mpr hk', rfl⟩))) o e⟩
  item := fun i s Q E hi st hQ => by
    refine seq_next st.1 st.2.1 (x := .ref (Ts i)) (hit i hi) fun h' hit' hs' => ?_
    have tup : ∀ k, k < items.size → h'.IsTuple (Ts k) (vals k) := fun k hk' => (st.2.2 k hk').extBut hs'.extBut (hTI k hk')
    exact hQ (Ts i) (vals i) h' s.toks ⟨hi, rfl⟩ (tup i hi) ⟨⟨hi, rfl⟩, hit', st.2.1.at fun o e => hs'.extBut p o hne e, tup⟩ fun b o hb e => hs'.extBut b o (fun h => hb (by simp [h])) e
  go := fun _ _ _ _ _ s Q _ hm hQ => wpAny_letOwnedTupleGo_listiter hm.2.1 (hQ s.heap hm.2 fun _ _ _ e => e)
  apart := fun j T _ hm hmem => by
    rcases List.mem_cons.mp hmem with e | e
    · exact hTI j hm.1.1 (hm.1.2 ▸ e)
    · cases e
  done := fun s Q E st hQ => seq_end hh st.1 st.2.1 (by simp) fun h' he' => hQ h' s.toks fun b o hb e => he' b o (fun h => hb (by simp [h])) e
  self := fun _ _ _ _ st hQ => wpAny_pyIter_listiter st.1 hQ
end
end Mine
end

section
open PySem PySem.W PySem.Calls PyProof.Rows
set_option maxRecDepth 100000
set_option maxHeartbeats 1000000
namespace Mine
section
variable {w : World} {A : Around} {E : Value → Shared → Prop} {s : Shared} {h₀ h : Heap} {L : Addr} {m : Str → Option Value} {news news' : List (Addr × Obj)}
  {p dx : Addr} {items : List Value} {n : Nat}
theorem ga_beq : (onTheHeap (.ref 101) && (Value.builtin "list.__getattribute__" == Value.builtin "object.__getattribute__")) = false := by decide +kernel
theorem ga_bind (self : Value) : bindSpecial (.builtin "list.__getattribute__") self = pure (.builtin "list.__getattribute__", [self]) := by kernel_rfl
theorem ga_ent : entryFor table "list.__getattribute__" = some Builtin.«object.__getattribute__» := entryFor_alias (id' := "object.__getattribute__") (by kernel_rfl) rfl (by decide +kernel) (by kernel_rfl)
theorem hasD2 (P : Params) : hasDictIn (Mine.frag.heap_1 P) 101 = true := by kernel_rfl
theorem noG (P : Params) : noGet (Mine.frag.heap_1 P) none = true := by kernel_rfl
theorem ini_look {hh : Int} {t0 : Tok} {v : Value} {e0 : Nat} : lookIn "_initial_size" (iniD hh t0 v e0) = some (some v) := by rw [lookIn_dict]; k_get
theorem ini_find (P : Params) {hh : Int} {t0 : Tok} {v : Value} {e0 : Nat} : findObj (Mine.frag.heap_1 P) 101 (some (iniD hh t0 v e0)) "_initial_size" = some (.value v) :=
  @findObj_own (Mine.frag.heap_1 P) 101 (iniD hh t0 v e0) "_initial_size" v none (hasD2 P) (f_ini P) (noG P) ini_look
theorem acc_callB {nm id : String} {args : List Value} {B : Builtin} {o : Obj} {od : Option Obj} {Q : Value → Shared → Prop} (X : (Mine.frag.heap_1 w.params).In s.heap) (I : InstAt s.heap p o 101 od) (hk : builtinKind id = some .slot ∨ builtinKind id = some .method) (hsp : splitId id = some ("list", nm)) (hpl : plainId id = true) (ent : entryFor table id = some B) (ha : argsOk id ⟨.ref p :: args, []⟩)
    (hbody : wpAny (model PG w) A.in1 (B ⟨.ref p :: args, []⟩) (fun fin s' => ∃ v, fin = .done (.ret v) ∧ Q v s') (fun e s' => E e s') s) : wpAny (model PG w) A (call (.builtin id) (.ref p :: args)) Q E s := by
  refine wpAny_call (codeAny_call_builtin hpl ent (acc_check X I hk hsp ha (wpAny_mono hbody (fun fin s' z => ?_) fun _ _ z => z)))
  obtain ⟨v, rfl, z⟩ := z
  exact z
theorem acc_getIni {hh : Int} {t0 : Tok} {k : Int} {tk : Tok} {e0 : Nat} {ex : Bool} {Q : Value → Shared → Prop} (F : Fr h₀ L s.heap m) (X₀ : (Mine.frag.heap_1 w.params).In h₀) (N : News h₀ L s.heap news) (hp : (p, accO dx items n) ∈ news) (hdx : (dx, iniD hh t0 (.int k tk) e0) ∈ news)
    (h : Q (.int k tk) { s with toks := s.toks + 1 }) : wpAny (model PG w) A (getAttr (.ref p) "_initial_size" ex) Q E s := by
  have X : (Mine.frag.heap_1 w.params).In s.heap := X₀.keeps F.keep
  have I : InstAt s.heap p (accO dx items n) 101 (some (iniD hh t0 (.int k tk) e0)) := acc_inst N hp hdx
  refine hide9 fun C9 k9 => ?_
  obtain ⟨g9, g, d, t, os⟩ := s
  refine k9 ?_
  clear k9
  dsimp only at X I h ⊢
  unfold getAttr getAttrBy
  refine wpAny_bind (wpAny_mkText (wpAny_holding (wpAny_bind (I.type.at (wpAny_bind ((looks_findIn X (f_ga w.params)).at ?_))))))
  dsimp only
  rw [ga_beq, if_neg Bool.false_ne_true]
  unfold getAttrByItsOwn hookBefore callGetattribute boundAndCalled
  refine wpAny_bind (m := (if onTheHeap (.ref 101) then typeLookup (.ref 101) "__getattr__" else pure none)) ((looks_findIn X (f_gat w.params)).at ?_)
  refine wpAny_bind (wpAny_attempt (wpAny_holding ?_))
  rw [if_neg (show ¬ ((ex && onTheHeap (.builtin "list.__getattribute__")) = true) by rw [show onTheHeap (.builtin "list.__getattribute__") = false from rfl, Bool.and_false]; exact Bool.false_ne_true)]
  refine wpAny_bind (wpAny_of_eq (ga_bind _) ?_)
  have z1 : plainId "list.__getattribute__" = true := by decide +kernel
  have z2 : argsOk "list.__getattribute__" ⟨[.ref p, .str "_initial_size" t], []⟩ := by unfold argsOk; kernel_rfl
  have z3 : builtinKind "list.__getattribute__" = some .slot := by decide +kernel
  have z4 : splitId "list.__getattribute__" = some ("list", "__getattribute__") := by decide +kernel
  show wpAny (model PG w) A (call (.builtin "list.__getattribute__") [.ref p, .str "_initial_size" t]) _ _ _
  have hf := looks_find (M := model PG w) X I (ini_find w.params)
  have ht := I.type (M := model PG w)
  have body : ∀ {Q' : Fin → Shared → Prop} {E' : Value → Shared → Prop} {A' : Around}, Q' (.done (.ret (.int k tk))) ⟨g9, g, d, t + 1, os⟩ → wpAny (model PG w) A' (Builtin.«object.__getattribute__» ⟨[.ref p, .str "_initial_size" t], []⟩) Q' E' ⟨g9, g, d, t + 1, os⟩ := by
    intro Q' E' A' hq
    unfold Builtin.«object.__getattribute__»
    repeat (first | (with_reducible refine Looks.at ht ?_) | (with_reducible refine Looks.at hf ?_) | wp_step | dsimp only)
    exact hq
  refine acc_callB (s := ⟨g9, g, d, t + 1, os⟩) X I (.inl z3) z4 z1 ga_ent z2 (body ⟨_, rfl, ?_⟩)
  exact wpAny_pure h
end
end Mine
end

section
open PySem PySem.W PySem.Calls PyProof.Rows
set_option maxRecDepth 100000
set_option maxHeartbeats 1000000
namespace Mine
/-- the table of a code that bears one generator expression -/
noncomputable def GT (pos : Pos) (ps : Array Value) : Prop := ps = #[] ∨ ∃ c', ps = #[rawInt pos.line, rawInt pos.col, .ref c']
section
variable {M : Model} {prog : Program} {w : World} {A : Around} {E : Value → Shared → Prop} {s : Shared} {h₀ : Heap} {L P c : Addr} {m : Str → Option Value} {rest : List (Addr × Obj)} {ps : Array Value} {pos : Pos} {env : Env}
theorem gen_code {qual : Str} {scope : Scope} {Q : Value → Shared → Prop} (F : Fr h₀ L s.heap m) (N : News h₀ L s.heap ((P, tabObj ps) :: rest)) (C : CodeHd h₀ c P) (hcode : env.code = .ref c) (G : GT pos ps) (hn : ∀ x ∈ rest, x.1 ≠ P)
   (h : ∀ c' ps' h' tk, GT pos ps' → (∀ b o, b ≠ P → s.heap.get? b = some o → h'.get? b = some o) → s.heap.objs.size ≤ h'.objs.size → Fr h₀ L h' m → News h₀ L h' ((P, tabObj ps') :: rest) → Q (.ref c') { s with heap := h', toks := tk }) : wpAny M A (genexprCode env pos qual scope) Q E s := by
  have zP := N _ (.head _)
  have C' : CodeHd s.heap c P := C.keeps F.keep
  rcases G with rfl | ⟨c', rfl⟩
  · refine wpAny_genexprCodeX hcode (C'.code zP.1 trivial) (C'.tab zP.1) rfl fun c' h' tk hx hge hlt _ _ ht _ => ?_
    have up : ∀ b o, b ≠ P → s.heap.get? b = some o → h'.get? b = some o := fun b o hb e => hx b o hb e
    refine h c' _ h' tk (.inr ⟨c', rfl⟩) up (Nat.le_trans hge (Nat.le_of_lt hlt)) ⟨F.ns.at' fun o e => up _ o (Ne.symm zP.2.1) e, fun b o e => up b o (fun q => by rw [q, zP.2.2] at e; cases e) (F.keep b o e), F.above⟩ fun x hx' => ?_
    rcases List.mem_cons.mp hx' with rfl | hx'
    · refine ⟨?_, zP.2⟩
      have := ht.2
      rw [Array.empty_append] at this
      exact this
    · exact ⟨up _ _ (hn x hx') (N x (.tail _ hx')).1, (N x (.tail _ hx')).2⟩
  · refine wpAny_genexprCode_hit hcode (C'.code zP.1 (by simp [TriplesOk, rawInt])) (c' := .ref c') (by simp [codeAmong, rawInt]) ?_
    exact h c' _ s.heap s.toks (.inr ⟨c', rfl⟩) (fun _ _ _ e => e) (Nat.le_refl _) F N
theorem pass_all (n : Nat) : passing (fun _ => true) n 0 = List.range n := by unfold passing; simp
theorem args_sum2 (a b : Value) : argsOk "sum" ⟨[a, b], []⟩ := by unfold argsOk; kernel_rfl
/-- a walk one place further on -/
theorem WalksS.later {I : Addr} {fp wr : List Addr} {G : Array GenState → Array GenState → Prop} {n : Nat} {Pp : Nat → Value → Prop} {St : Nat → Shared → Prop} (W : WalksS prog w A I fp wr G n Pp St) :
    WalksS prog w A I fp wr G (n + 1) (fun j v => ∃ i, j = i + 1 ∧ Pp i v) (fun j s => ∃ i, j = i + 1 ∧ St i s) where
  sub := W.sub
  grefl := W.grefl
  gtrans := W.gtrans
  frame := fun i s h' tk ⟨j, e, st⟩ ht hk => ⟨j, e, W.frame j s h' tk st ht hk⟩
  item := fun i s Q E hi ⟨j, e, st⟩ hQ => by
    subst e
    exact W.item j s Q E (by omega) st fun v s' hp st' hm => hQ v s' ⟨j, rfl, hp⟩ ⟨j + 1, rfl, st'⟩ hm
  done := fun s Q E ⟨j, e, st⟩ hQ => by
    obtain rfl : j = n := by omega
    exact W.done s Q E st hQ
  self := fun i s Q E ⟨j, e, st⟩ hQ => W.self j s Q E st hQ
noncomputable def shiftV (k : Int) (val : Nat → Int) : Nat → Int
  | 0 => k
  | j + 1 => val j
theorem shift_sum (k : Int) (val : Nat → Int) : ∀ j, preSum (shiftV k val) (j + 1) = k + preSum val j
  | 0 => by simp [preSum, shiftV]
  | j + 1 => by rw [preSum, shift_sum k val j]; simp only [preSum, shiftV]; omega
theorem sum_start {x : Value} {k : Int} {tk : Tok} {Q : Value → Shared → Prop} (hk : k = 0 ∨ k = 1 ∨ k = 2)
    (h : wpAny (model prog w) A.in1 (pyIter x) (fun it s₂ => ∃ I fp wr G n Pp St val, it = .ref I ∧ WalksS prog w A.in1 I fp wr G n Pp St ∧ St 0 s₂ ∧ (∀ b ∈ fp, b < s₂.heap.objs.size) ∧
      (∀ i v, Pp i v → ∃ t, v = .int (val i) t) ∧ (∀ j, j < n → InLong (val j) ∧ InLong (k + preSum val (j + 1))) ∧ ∀ s' t', Moved wr G s₂ s' → Q (.int (k + preSum val n) t') s') E s) :
    wpAny (model prog w) A (call (.builtin "sum") [x, .int k tk]) Q E s := by
  refine call_function_tree F.kind_sum F.plain_sum F.entry_sum (args_sum2 _ _) ?_
  unfold Builtin.«sum»
  simp only [List.length_cons, List.length_nil]
  rw [if_neg (by decide)]
  refine wpAny_bind (wpAny_of_eq (show Builtin.Builtins.bindParams "sum" ["start"] 0 ⟨[.int k tk], []⟩ = pure [some (.int k tk)] from rfl) ?_)
  refine wpAny_bind (wpAny_mono h (fun it s₂ h₂ => ?_) fun _ _ e => e)
  refine hide9 fun C9 k9 => ?_
  obtain ⟨I, fp, wr, G, n, Pp, St, val, rfl, W, hst, hfp, hval, hfit, hQ⟩ := h₂
  refine k9 ?_
  clear k9
  dsimp only
  split
  · refine wpAny_bind (wpAny_rule ?_)
    refine wpAny_bind (wpAny_mkInt ?_)
    refine wpAny_bind (wpAny_pure ?_)
    simp only [List.forIn_cons, List.forIn_nil]
    refine wpAny_bind (wpAny_bind (wpAny_bind (wpAny_isInstance (T := "int") (b := false) (typeIs_int _ _ _) PySem.sub_int_str ?_)))
    simp only [Bool.false_eq_true, if_false]
    refine wpAny_pure (wpAny_bind (wpAny_bind (wpAny_isInstance (T := "int") (b := false) (typeIs_int _ _ _) PySem.sub_int_bytes ?_)))
    simp only [Bool.false_eq_true, if_false]
    refine wpAny_pure (wpAny_bind (wpAny_bind (wpAny_isInstance (T := "int") (b := false) (typeIs_int _ _ _) PySem.sub_int_bytearray ?_)))
    simp only [Bool.false_eq_true, if_false]
    refine wpAny_pure (wpAny_pure ?_)
    refine wpAny_bind (wpAny_newObj_type ?_)
    have hSf : s₂.heap.objs.size ∉ fp := fun hm => Nat.lt_irrefl _ (hfp _ hm)
    have hk2 : -10 < k ∧ k < 10 := by omega
    have e1 : preSum (shiftV k val) 1 = k := by simp [preSum, shiftV]
    refine wpAny_pure ⟨plainId_quiet F.plain_sum_loop _, codeAny_sum_loopS (WalksS.later W) (shiftV k val) (fun i v ⟨j, e, hp⟩ => by subst e; exact hval j v hp) (fun j hj => ?_) s₂.heap.objs.size hSf n 1 _ s₂.toks 0 (by omega) (by omega)
      ⟨0, rfl, W.frame 0 s₂ _ _ hst (by first | exact Nat.le_refl _ | exact Nat.le_succ _ | omega) fun b _ o e => Heap.get?_push_of_some _ e⟩ (by rw [e1]; exact Heap.get?_push_size _ rfl) fun s' t' hm => ?_⟩
    · cases j with
      | zero =>
        rw [e1]
        show InLong k ∧ InLong k
        unfold InLong
        omega
      | succ j =>
        rw [shift_sum]
        exact hfit j (by omega)
    · rw [shift_sum]
      exact hQ s' t' (hm.drop_new (by first | exact Nat.le_refl _ | exact Nat.le_succ _ | omega))
  · rename_i hne
    exfalso
    rcases hk with rfl | rfl | rfl <;> exact hne rfl
end
end Mine
end

section
open PySem PySem.W PySem.Calls PyProof.Rows
set_option maxRecDepth 100000
set_option maxHeartbeats 1000000
namespace Mine
section
variable {w : World} {A : Around} {E : Value → Shared → Prop} {s : Shared} {h₀ : Heap} {L P c p dx : Addr} {m mg mb : Str → Option Value} {rest : List (Addr × Obj)} {ps : Array Value} {env : Env} {pp : Program} {loose : List Str} {mean : ExcName → Option Value}
theorem WalksS.weak {prog : Program} {I : Addr} {fp wr : List Addr} {G : Array GenState → Array GenState → Prop} {n : Nat} {Pp Pp' : Nat → Value → Prop} {St : Nat → Shared → Prop} (W : WalksS prog w A I fp wr G n Pp St) (h : ∀ j v, Pp j v → Pp' j v) : WalksS prog w A I fp wr G n Pp' St where
  sub := W.sub
  grefl := W.grefl
  gtrans := W.gtrans
  frame := W.frame
  item := fun i s Q E hi st hQ => W.item i s Q E hi st fun v s' hp st' hm => hQ v s' (h i v hp) st' hm
  done := W.done
  self := W.self
/-- «(elt for a, b in self)», self an instance of the list subclass whose items are pairs of texts -/
theorem gen_eval {elt iter : Expr} {xa xb : Str} {pa pb pt : Pos} {kt : Nat} {scope : Scope} {cl : List (Str × Addr)} {pos : Pos} {Q : Value → Shared → Prop} {items : List Value} {n e0 : Nat} {es : List DictEntry} (Ts : Nat → Addr) (X Y : Nat → Str) (tx ty : Nat → Tok)
    (hh : A.handled = none) (hco : scope.isCoroutine = false) (hclos : closureFor scope env = pure cl) (hcell : ∀ y ∈ scope.names, y.2 ≠ .cell) (h0 : scope.names.lookup (".0" : Str) = some NameKind.local)
    (hxa : scope.names.lookup xa = some .local) (hxb : scope.names.lookup xb = some .local) (hab : xa ≠ xb) (hkind : scope.kind = .function) (hroom : A.depth < recursionLimit)
    (hev : ∀ {Q' : Value → Shared → Prop}, Q' (.ref p) s → wpAny (model PG w) A (eval iter env) Q' E s) (hcode : env.code = .ref c) (hge : env.globals = mainGlobals)
    (F : Fr h₀ L s.heap m) (N : News h₀ L s.heap ((P, tabObj ps) :: rest)) (K : (Mine.frag.heap_1 w.params).In h₀) (T : Top pp loose mean mg mb h₀) (C : CodeHd h₀ c P) (G : GT pos ps) (hn : ∀ x ∈ rest, x.1 ≠ P) (hG : AllBare s.gens)
    (hp : (p, accO dx items n) ∈ rest) (hdx : (dx, dictOf es e0) ∈ rest)
    (hit : ∀ j, j < items.length → items[j]? = some (.ref (Ts j)) ∧ ∃ k, (Ts j, ({ cls := .type "tuple", data := .seq #[.str (X j) (tx j), .str (Y j) (ty j)] k } : Obj)) ∈ rest)
    (helt : ∀ (C' : Addr) (code : Value) (A' : Around) (E' : Value → Shared → Prop) (j : Nat) (t : Shared) m₂, A'.handled = none → A'.depth ≤ A.depth + 1 → A'.units ≤ A.units + 8 → j < items.length → Fr h₀ C' t.heap m₂ → m₂ xa = some (.str (X j) (tx j)) → m₂ xb = some (.str (Y j) (ty j)) →
      wpAny (model PG w) A' (eval elt (genEnv scope cl C' code builtinsNs env)) (fun y s₃ => (∃ u, y = .int (((X j).length + (Y j).length : Nat) : Int) u) ∧ Keeps t s₃) E' t)
    (hQ : ∀ a B ps' s₅, GT pos ps' → Fr h₀ L s₅.heap m → News h₀ L s₅.heap ((P, tabObj ps') :: rest) → AllBare s₅.gens → s₅.os = s.os → (∀ x ∈ (P, tabObj ps') :: rest, x.1 ≤ B) → L ≤ B → Gen PG w A B a items.length (fun j y => ∃ u, y = .int (((X j).length + (Y j).length : Nat) : Int) u) s₅ → Q (.ref a) s₅)
    (hs : ∀ x, genFold iter env x = pure x) :
    wpAny (model PG w) A (eval (.GeneratorExp elt [⟨.Tuple [.Name xa pa, .Name xb pb] kt pt, iter, [], 0⟩] scope pos) env) Q E s := by
  have hX : (Mine.frag.heap_1 w.params).In s.heap := K.keeps F.keep
  have I : InstAt s.heap p (accO dx items n) 101 (some (dictOf es e0)) := acc_inst N (List.Mem.tail _ hp) (List.Mem.tail _ hdx)
  have zp := N _ (List.Mem.tail _ hp)
  have zP := N _ (.head _)
  have hLs : L < s.heap.objs.size := F.ns.lt
  have hplt : p < s.heap.objs.size := Heap.lt_size zp.1
  have hlow : ∀ x ∈ (P, tabObj ps) :: rest, x.1 < s.heap.objs.size := fun x hx => Heap.lt_size (N x hx).1
  have hlim : s.heap.NoLimit := T.nolimit.keeps F.keep
  refine hide9 fun C9 k9 => ?_
  obtain ⟨bm, ob, b1, b2, b3, b4, b5, b6⟩ := T.bmain
  refine k9 ?_
  clear k9
  refine wpAny_GeneratorExp_walksQTD hh hco hclos hcell h0 hxa hxb hab hkind hroom (hev ?_) hs
  refine acc_iter hX I ?_
  generalize hIt : s.heap.objs.size = it at *
  have up : ∀ b o, s.heap.get? b = some o → (s.heap.push { cls := .type "list_iterator", data := .fields #[.ref p, .int 0 0] }).get? b = some o := fun b o e => Heap.get?_push_of_some _ e
  have F₂ := F.keeps up
  have N₂ := N.grown up
  refine ⟨hlim.keeps up, gen_code (s := { s with heap := s.heap.push { cls := .type "list_iterator", data := .fields #[.ref p, .int 0 0] } }) F₂ N₂ C hcode G hn fun c' ps' h₃ tk₃ G₃ up₃ hsz₃ F₃ N₃ => ?_⟩
  have hitP : it ≠ P := fun e => by have := hlow _ (.head _); rw [← e] at this; exact Nat.lt_irrefl _ this
  have hcP : cStatics ≠ P := fun e => by
    obtain ⟨_, hns, _⟩ := hlim
    refine hide9 fun C9 k9 => ?_
    obtain ⟨o, es', ep, ho, hd', _⟩ := hns
    refine k9 ?_
    clear k9
    rw [e, zP.1] at ho; cases ho; cases hd'
  have up2 : ∀ b o, b ≠ P → s.heap.get? b = some o → h₃.get? b = some o := fun b o hb e => up₃ b o hb (up b o e)
  have hl₃ : h₃.NoLimit := T.nolimit.keeps F₃.keep
  have hg₃ : h₃.Ns env.globals mg := by rw [hge]; exact T.g.keeps F₃.keep
  have hsz3 : it + 1 ≤ h₃.objs.size := by
    have : (s.heap.push { cls := .type "list_iterator", data := .fields #[.ref p, .int 0 0] }).objs.size = it + 1 := by rw [Heap.size_push, hIt]
    exact Nat.le_trans (Nat.le_of_eq this.symm) hsz₃
  refine wpAny_builtinsFor (s := { s with heap := h₃, toks := tk₃ }) hg₃ b1 b2 (F₃.keep _ _ b3) b4 b5 b6 ?_
  have hTlt : ∀ j, j < items.toArray.size → Ts j ≠ it := fun j hj => by
    obtain ⟨_, k, hm⟩ := hit j (by simpa using hj)
    exact Nat.ne_of_lt (hlow _ (List.Mem.tail _ hm))
  have hne : p ≠ it := Nat.ne_of_lt hplt
  have hcit : cStatics < it := by
    obtain ⟨_, hns, _⟩ := hlim
    exact hIt ▸ hns.lt
  have hTP : ∀ j, j < items.length → Ts j ≠ P := fun j hj => by
    obtain ⟨_, k, hm⟩ := hit j hj
    exact hn _ hm
  have hpP : p ≠ P := hn _ hp
  refine ⟨it, it :: p :: (List.range items.toArray.size).map Ts, [it], items.toArray.size, (fun j v => j < items.toArray.size ∧ v = #[.str (X j) (tx j), .str (Y j) (ty j)]), _, _, (fun _ => true), (fun j y => ∃ u, y = .int (((X j).length + (Y j).length : Nat) : Int) u), rfl,
    (fun A' hA' => seq_pairs (prog := PG) (w := w) (items := items.toArray) hA' hne Ts (fun j => #[.str (X j) (tx j), .str (Y j) (ty j)]) (fun j hj => by simpa using (hit j (by simpa using hj)).1) hTlt), (fun i vals hv => ⟨_, _, hv.2⟩), ?_, ?_, hl₃, ?_, ?_, ?_⟩
  · refine ⟨⟨_, up₃ _ _ hitP (by rw [← hIt]; exact Heap.get?_push_size _ rfl), rfl, rfl⟩, ⟨_, _, up2 _ _ hpP zp.1, rfl⟩, fun k hk => ?_⟩
    obtain ⟨_, k', hm⟩ := hit k (by simpa using hk)
    exact ⟨_, up2 _ _ (hn _ hm) (N _ (List.Mem.tail _ hm)).1, rfl, k', rfl⟩
  · intro b hb
    refine Nat.lt_of_lt_of_le ?_ hsz3
    rcases List.mem_cons.mp hb with rfl | hb
    · exact Nat.lt_succ_self _
    rcases List.mem_cons.mp hb with rfl | hb
    · exact Nat.lt_succ_of_lt hplt
    · obtain ⟨j, hj, rfl⟩ := List.mem_map.mp hb
      obtain ⟨_, k, hm⟩ := hit j (by simpa using hj)
      exact Nat.lt_succ_of_lt (hlow _ (List.Mem.tail _ hm))
  · intro hm
    exact Nat.ne_of_lt hcit (List.mem_singleton.mp hm)
  · intro href hhref
    have inB : ∀ (t : Shared) m₂, t.heap.Ns h₃.objs.size m₂ → (∀ b ∈ List.range h₃.objs.size, b ∉ [it] → ∀ o, href.get? b = some o → t.heap.get? b = some o) → Fr h₀ h₃.objs.size t.heap m₂ := fun t m₂ hns hkp =>
      ⟨hns, fun b o e => hkp b (List.mem_range.mpr (Heap.lt_size (F₃.keep b o e))) (fun hm => by
        have h1 := List.mem_singleton.mp hm
        have h2 := Heap.lt_size e
        rw [h1] at h2
        exact Nat.lt_irrefl _ (Nat.lt_trans (Nat.lt_of_lt_of_le h2 F.above) hLs)) o (hhref b o (F₃.keep b o e)), Nat.le_trans F.above (Nat.le_trans (Nat.le_of_lt hLs) (Nat.le_trans (Nat.le_succ _) hsz3))⟩
    exact ⟨fun A' E' i va vb t m₂ hA hD hU hPt hns hma hmb hkp => wpAny_pure ⟨rfl, _, _, rfl, fun _ _ e => e⟩, fun A' E' i va vb t m₂ hA hD hU hPt _ hns hma hmb hkp => by
      obtain ⟨hi, e⟩ := hPt
      obtain ⟨e1, e2⟩ : va = .str (X i) (tx i) ∧ vb = .str (Y i) (ty i) := by simpa using congrArg Array.toList e
      subst e1; subst e2
      exact helt _ _ A' E' i t m₂ hA hD hU (by simpa using hi) (inB t m₂ hns hkp) hma hmb⟩
  · intro a h₅ tk gs hgb hag hsz₅ hk₅ W hat
    rw [pass_all, List.length_range] at W
    have W' := WalksS.weak (Pp' := fun j y => ∃ u, y = .int (((X j).length + (Y j).length : Nat) : Int) u) W fun j v ⟨i, h1, h2⟩ => by
      obtain ⟨hl, e⟩ := List.getElem?_eq_some_iff.mp h1
      rw [List.getElem_range] at e
      subst e
      exact h2
    refine hQ a (it - 1) ps' _ G₃ (F₃.keeps hk₅) (N₃.grown hk₅) (hG.push hgb) rfl (fun x hx => ?_) (Nat.le_pred_of_lt hLs) ⟨_, _, _, _, W', hat, (fun i s' st => st.1.typeIs), List.mem_cons_self, ?_, ?_⟩
    · have : x.1 < it := by
        rcases List.mem_cons.mp hx with rfl | hx
        · exact hlow (P, tabObj ps) (.head _)
        · exact hlow _ (.tail _ hx)
      exact Nat.le_pred_of_lt this
    · intro b hb
      show b < h₅.objs.size
      rw [hsz₅]
      rcases List.mem_cons.mp hb with rfl | hb
      · exact Nat.lt_succ_self _
      · rcases List.mem_cons.mp hb with rfl | hb
        · exact Nat.lt_succ_of_lt hag
        · exact Nat.lt_succ_of_lt (Nat.lt_trans (List.mem_range.mp hb) hag)
    · intro b hb
      rcases List.mem_cons.mp hb with rfl | hb
      · exact Nat.lt_of_lt_of_le (Nat.lt_of_le_of_lt (Nat.sub_le _ _) (Nat.lt_succ_self _)) hsz3
      · rw [List.mem_singleton.mp hb]; exact Nat.sub_lt (Nat.lt_of_le_of_lt (Nat.zero_le _) hLs) (by decide)
end
end Mine
end

section
open PySem PySem.W PySem.Calls PyProof.Rows
set_option maxRecDepth 100000
set_option maxHeartbeats 0
namespace Mine
noncomputable abbrev pLen : Pos := ⟨26, 19, 26, 63⟩
theorem pre_fits {k : Int} {val : Nat → Nat} {j : Nat} (hk : k = 0 ∨ k = 1 ∨ k = 2) (hj : j + 1 ≤ 100) (h : ∀ i, i ≤ j → val i ≤ 1000) : InLong ((fun j => ((val j : Nat) : Int)) j) ∧ InLong (k + preSum (fun j => ((val j : Nat) : Int)) (j + 1)) := by
  have key : ∀ n, n ≤ j + 1 → 0 ≤ preSum (fun j => ((val j : Nat) : Int)) n ∧ preSum (fun j => ((val j : Nat) : Int)) n ≤ 1000 * n := by
    intro n
    induction n with
    | zero => intro _; simp [preSum]
    | succ n ih =>
      intro hn
      have h1 := ih (by omega)
      have h2 := h n (by omega)
      rw [preSum]
      omega
  have h1 := key (j + 1) (Nat.le_refl _)
  have h2 := h j (Nat.le_refl _)
  unfold InLong
  dsimp only
  omega
theorem news_c {h₀ h : Heap} {L : Addr} {a b c : Addr × Obj} {r : List (Addr × Obj)} (N : News h₀ L h (a :: b :: c :: r)) : News h₀ L h (c :: a :: b :: r) := news_sub N (by simp +contextual [or_imp])
theorem g_len (P : Params) : nsIn (Mine.frag.heap_1 P) mainGlobals "len" = some none := by kernel_rfl
theorem len_name {w : World} {A : Around} {E : Value → Shared → Prop} {t : Shared} {h₀ : Heap} {m₂ mg mb : Str → Option Value} {env : Env} {x str : Str} {tt : Tok} {p1 p2 p3 : Pos} {pp : Program} {loose : List Str} {mean : ExcName → Option Value} {Q : Value → Shared → Prop} (hk : env.scope.kind = .function) (hl : env.kindOf "len" = some .globalImplicit) (hx : env.kindOf x = some .local) (hxd : (x == ("__debug__" : Str)) = false) (hge : env.globals = mainGlobals) (hbe : env.builtins = builtinsNs)
   (F : Fr h₀ env.locals t.heap m₂) (K : (Mine.frag.heap_1 w.params).In h₀) (T : Top pp loose mean mg mb h₀) (hm : m₂ x = some (.str str tt)) (hz : str.length ≤ 1000) (h : ∀ u k, Q (.int (str.length : Int) u) { t with toks := k }) : wpAny (model PG w) A (eval (.Call (.Name "len" p1) [.Name x p2] [] p3) env) Q E t := by
  refine Call_ (Name_function_global hk hl (loadGlobal_builtin (mg := mg) (mb := mb) (v := .builtin "len") (by rw [hge]; exact T.g.keeps F.keep) (mg_none_of K T.g (g_len w.params)) (by rw [hbe]; exact T.b.keeps F.keep) ((T.builtins "len" (by decide)).trans boot_len) ?_))
  refine callWith_builtin1 (spliced_more (wpAny_Name (wpAny_loadName_local hk hx F.ns hm (spliced_none ?_)) hxd))
  exact len_s rfl hz h
section
theorem c_len (w : World) (loose mean mg mb) (dp un : Nat) (gd cn nms mr a ccd cl outer A₀ base h₀ L m news s) (ps : Array Value) (p dx : Addr) (items : List Value) (n : Nat) (hh9 : Int) (t0 : Tok) (k : Int) (tkv : Tok) (e0 : Nat) (Ts : Nat → Addr) (X9 Y9 : Nat → Str) (tx ty : Nat → Tok)
   (H : At w loose mean mg mb dp un A₀ base h₀ outer L m ((p, accO dx items n) :: (dx, iniD hh9 t0 (.int k tkv) e0) :: (63, tabObj ps) :: news) s) (hC : CodeHd base 67 63) (hG : GT pLen ps) (hg : AllBare s.gens) (hn : ∀ x ∈ (p, accO dx items n) :: (dx, iniD hh9 t0 (.int k tkv) e0) :: news, x.1 ≠ 63) (hk : k = 0 ∨ k = 1 ∨ k = 2)
   (hit : ∀ j, j < items.length → items[j]? = some (.ref (Ts j)) ∧ ∃ k, (Ts j, ({ cls := .type "tuple", data := .seq #[.str (X9 j) (tx j), .str (Y9 j) (ty j)] k } : Obj)) ∈ news) (hlen : items.length ≤ 100) (hval : ∀ j, j < items.length → (X9 j).length + (Y9 j).length ≤ 1000) (Q E : Value → Shared → Prop)
   (hret : ∀ ps' s' t, GT pLen ps' → Fr h₀ L s'.heap m → News h₀ L s'.heap ((p, accO dx items n) :: (dx, iniD hh9 t0 (.int k tkv) e0) :: (63, tabObj ps') :: news) → AllBare s'.gens → s'.os = s.os → Q (.int (k + preSum (fun j => (((X9 j).length + (Y9 j).length : Nat) : Int)) items.length) t) s') :
   wpAny (model PG w) (topA dp un gd cn nms mr L a ccd cl outer) (call (.ref 68) [.ref p]) Q E s := by
  k_with_none
  (k_with "all here" => first | assumption | ((with_reducible refine List.forall_mem_cons.mpr ⟨?_, ?_⟩); k_ne; k_all) | ((repeat (cases ‹_ ∧ _›)); first | assumption | walk_at "all tail" | walk_at "all raw"))
  (k_with "execs cons" => (k_here; (fail_if_success k_gentoks); (fail_if_success k_made); (with_reducible refine wpAny_execs_cons ?_); k_fold; (try dsimp only)))
  (k_with "eval Name" => (k_here; (fail_if_success (with_reducible show wpAny _ _ (eval _ (compEnvC _ _ _ _)) _ _ _)); k_dflt (refine' nameX_C ?Nkq ?ckq ?mkq ?dkq ?_ ?akq ?bkq; (case akq => exact Eq.refl _); (case bkq => exact Eq.refl (some _)); (case Nkq => k_asm); (case ckq => exact Eq.refl (some _)); (case mkq => k_mem); (case dkq => k_asm); k_whole)))
  (k_with "eval Name" => (k_here; (fail_if_success (with_reducible show wpAny _ _ (eval _ (compEnvC _ _ _ _)) _ _ _)); k_dflt (refine' nameX_L ?Fkq ?vkq ?_ ?akq ?bkq; (case Fkq => k_asm); (case akq => exact Eq.refl _); (case bkq => exact Eq.refl (some _)); (case vkq => exact Eq.refl (some _)); k_whole)))
  (k_with "callWith ref" => (k_here; (with_reducible show wpAny _ _ (callWith _ (Value.ref (OfNat.ofNat _)) _ _ _) _ _ _); k_dflt (refine' callWith_KW ?k1q ?k2q ?k3q ?_; (case k1q => k_asm); (case k2q => k_is); (case k3q => exact rfl); k_whole)))
  (k_with "callWith ref" => (k_here; (with_reducible show wpAny _ _ (callWith _ (Value.ref (OfNat.ofNat _)) _ _ _) _ _ _); k_dflt (refine' callWith_K0 ?k1q ?k2q ?_; (case k1q => first | with_reducible assumption | exact Frag.In.keeps (by with_reducible assumption) (Fr.keep (by with_reducible assumption)) | k_in); (case k2q => k_is); k_whole)))
  (k_with "callWith ref" => (k_here; (with_reducible show wpAny _ _ (callWith _ (Value.ref (OfNat.ofNat _)) _ _ _) _ _ _); k_dflt (refine' callWith_K ?k1q ?k2q ?_; (case k1q => k_asm); (case k2q => k_is); k_whole)))
  (k_with "all raw" => ((with_reducible rename ∀ p, p ∈ _ → @LT.lt Nat _ (Prod.fst p) _ => h9zq); first | exact rawLt_ne h9zq (by (fail_if_success (fail_if_success (omega (config := {})))); lia) | (clear h9zq; walk_at "all raw")))
  (k_with "all tail" => ((with_reducible rename AllLt _ _ => h9zq); first | exact allLt_ne h9zq (by (fail_if_success (fail_if_success (omega (config := {})))); lia) | (clear h9zq; walk_at "all tail")))
  (k_with "eval GeneratorExp" => (k_here; refine stop_of ?_))
  (k_with "call builtin:sum" => (k_here; refine stop_of ?_))
  (k_with "getAttr ref" => (k_here; (with_reducible show wpAny _ _ (getAttr (Value.ref _) _ _) _ _ _); k_dflt (refine' acc_getIni ?Fk233q ?Xk233q ?Nk233q ?pk233q ?dk233q ?_; (case Fk233q => k_asm); (case Xk233q => k_asm); (case Nk233q => k_asm); (case pk233q => k_mem); (case dk233q => k_mem); k_whole)))
  refine hide9 fun C9 k9 => ?_
  obtain ⟨B, F, X, N, T, hd, hu⟩ := H
  refine k9 ?_
  clear k9
  have z9 : PySem.Challenge.rw_wo0040_01 = PySem.Challenge.rw_wo0040_01 ∧ Mine.frag.heap_1 = Mine.frag.heap_1 := by
    k_fill
    exact ⟨rfl, rfl⟩
  clear z9
  k_steps
  unfold Stop
  rename Fr _ _ _ _ => F8
  rename News _ _ _ _ => N8
  rename Below _ _ _ _ => B8
  rename Top _ _ _ _ _ _ => T8
  rename Frag.In _ _ => X8
  have hC8 := hC.keeps B8.stays
  refine gen_eval (c := 67) (P := 63) (p := p) (cl := []) (n := n) (rest := (p, accO dx items n) :: (dx, iniD hh9 t0 (.int k tkv) e0) :: news) Ts X9 Y9 tx ty (by with_unfolding_all rfl) rfl (by with_unfolding_all rfl) (by decide) (by rfl) (by rfl) (by rfl) (by decide) rfl (by ktr_room) (fun hq => nameX_L F8 rfl hq) rfl rfl F8 (news_c N8) X8 T8 hC8 hG hn hg (.head _) (.tail _ (.head _)) ?hit ?helt ?hQ (fun _ => by rfl)
  case hit => exact fun j hj => ⟨(hit j hj).1, (hit j hj).2.imp fun _ h => .tail _ (.tail _ h)⟩
  case helt =>
    intro C' code A' E' j t m₂ hA hD hU hj Ft ha hb
    have hv := hval j hj
    refine wpAny_BinOp (len_name rfl rfl rfl (by decide) rfl rfl Ft X8 T8 ha (by omega) fun u1 k1 => ?_)
    refine len_name rfl rfl rfl (by decide) rfl rfl (t := { t with toks := k1 }) Ft X8 T8 hb (by omega) fun u2 k2 => ?_
    refine add_int ?_
    exact ⟨⟨_, by rw [Int.natCast_add]⟩, _, _, rfl, fun _ _ e => e⟩
  case hQ =>
    intro a B9 ps' s₅ hG5 F5 N5 hg5 hos5 hB5 hLB5 hGen
    clear F8 N8
    k_steps
    unfold Stop
    refine hide9 fun C9 k9 => ?_
    obtain ⟨fp9, wr9, gg9, St9, W9, hst9, _, _, hfp9, hwr9⟩ := hGen
    refine k9 ?_
    clear k9
    have W1 := W9.in4_1
    have st1 : St9 0 { s₅ with toks := s₅.toks + 1 } := W1.frame 0 s₅ s₅.heap _ hst9 (Nat.le_succ _) (fun _ _ _ e => e)
    refine sum_start hk (W1.self 0 _ _ _ st1 ⟨a, _, _, _, _, _, _, (fun j => (((X9 j).length + (Y9 j).length : Nat) : Int)), rfl, W1, st1, hfp9, (fun i v h => h), (fun j hj => pre_fits hk (Nat.le_trans (Nat.succ_le_of_lt hj) hlen) fun i hi => hval i (by omega)), fun s' t' hm => ?_⟩)
    have F5' : Fr _ _ ({ s₅ with toks := s₅.toks + 1 } : Shared).heap _ := F5
    have hg5' : AllBare ({ s₅ with toks := s₅.toks + 1 } : Shared).gens := hg5
    have F6 := F5'.moved hm (fun b hb => Nat.lt_of_le_of_lt hLB5 (hwr9 b hb))
    have N6 : News _ _ s'.heap _ := fun x hx => ⟨hm.heap _ _ (fun hb => Nat.lt_irrefl _ (Nat.lt_of_lt_of_le (hwr9 _ hb) (hB5 x hx))) (N5 x hx).1, (N5 x hx).2⟩
    have hg6 := hg5'.movedS hm
    have ho6 : s'.os = s.os := hm.os.trans hos5
    clear F5 N5 F5'
    k_steps
    rename Fr h₀ L _ _ => F8
    rename News h₀ L _ _ => N8
    exact hret ps' _ _ hG5 F8 (news_sub N8 (by simp +contextual [or_imp])) hg6 ho6
end
end Mine
end

section
open PySem PySem.W PySem.Calls PyProof.Rows PyProof.Rows.LCg PyProof.Rows.LCt
set_option maxRecDepth 100000
set_option maxHeartbeats 1000000
namespace Mine
theorem ints_of_mem : ∀ {zs : List Value}, (∀ v ∈ zs, ∃ i t, v = .int i t) → ∃ ms, IntsAre zs ms
  | [], _ => ⟨[], .nil⟩
  | v :: zs, h => by
    obtain ⟨i, t, rfl⟩ := h v (.head _)
    obtain ⟨ms, hm⟩ := ints_of_mem fun v hv => h v (.tail _ hv)
    exact ⟨i :: ms, .cons i t hm⟩
theorem ints_mem {vs : List Value} {ns : List Int} (h : IntsAre vs ns) : ∀ v ∈ vs, ∃ i t, v = .int i t := by
  induction h with
  | nil => intro v hv; cases hv
  | cons i t _ ih =>
    intro v hv
    rcases List.mem_cons.mp hv with rfl | hv
    · exact ⟨i, t, rfl⟩
    · exact ih v hv
theorem slice3N {prog : Program} {w : World} {A : Around} {E : Value → Shared → Prop} {s : Shared} {h₀ : Heap} {L l : Addr} {m : Str → Option Value} {news : List (Addr × Obj)} {value slice : PySem.Expr} {vs : List Value} {ns : List Int} {n : Nat} {x y : Int} {tx ty : Tok} {ops : List Value} {Q : Value → Shared → Prop} (F : Fr h₀ L s.heap m) (N : News h₀ L s.heap news) (hm : (l, listOf vs.toArray n) ∈ news) (hi : IntsAre vs ns) (hz : vs.length ≤ 1000) (hy : y ≠ 0)
   (h : ∀ D zs ms h', IntsAre zs ms → Fr h₀ L h' m → News h₀ L h' ((D, listOf zs.toArray 0) :: news) → (∀ p ∈ news, p.1 < D) → Q (.ref D) { s with heap := h' })
   (hs : subscripted slice false (.ref l) (.ref s.heap.objs.size) = operate ops (getItem (.ref l) (.ref s.heap.objs.size))) (ht : ∀ r, letTemporaryGo value (.ref l) r = pure ()) :
   wpAny (model prog w) A (subscriptTail value slice (.ref l) (.ref s.heap.objs.size)) Q E { s with heap := s.heap.push { cls := .type "slice", data := .fields #[.int x tx, .none, .int y ty] } } := by
  have hsub : ∀ v ∈ (slicePick vs.toArray (some x) none (some y)).toList, v ∈ vs := by
    intro v hv
    unfold slicePick at hv
    rw [List.toList_toArray] at hv
    obtain ⟨j, _, hj⟩ := List.mem_filterMap.mp hv
    rw [List.getElem?_toArray] at hj
    exact List.mem_of_getElem? hj
  obtain ⟨ms, hms⟩ := ints_of_mem fun v hv => ints_mem hi v (hsub v hv)
  exact kmk_slice3_lit (lo := some x) (hi := none) (st := some y) F N ⟨_, (N _ hm).1, rfl, n, rfl⟩ (.int _ _) .none (.int _ _) (by simpa using hy) rfl (fun D h' F' N' l1 => h D _ ms h' hms F' N' l1) hs ht (by rw [List.size_toArray]; exact Nat.le_trans hz (by decide))
theorem sumN {prog : Program} {w : World} {A : Around} {E : Value → Shared → Prop} {s : Shared} {h₀ : Heap} {L l : Addr} {m : Str → Option Value} {news : List (Addr × Obj)} {vs : List Value} {ns : List Int} {n : Nat} {Q : Value → Shared → Prop} (F : Fr h₀ L s.heap m) (N : News h₀ L s.heap news) (hh : A.handled = none) (hm : (l, listOf vs.toArray n) ∈ news) (hi : IntsAre vs ns)
   (h : ∀ h' tk t', Fr h₀ L h' m → News h₀ L h' news → Q (.int ns.sum t') { s with heap := h', toks := tk }) : wpAny (model prog w) A (call (.builtin "sum") [.ref l]) Q E s :=
  PyProof.Rows.LSm.sum_ints F N hh ⟨_, (N _ hm).1, rfl, n, rfl⟩ hi h
theorem sliceUp {prog : Program} {w : World} {A : Around} {E : Value → Shared → Prop} {s : Shared} {h₀ : Heap} {L l : Addr} {m : Str → Option Value} {news : List (Addr × Obj)} {value slice : PySem.Expr} {vs : List Value} {ns : List Int} {y : Int} {ty : Tok} {Q : Value → Shared → Prop} (F : Fr h₀ L s.heap m) (N : News h₀ L s.heap news) (hl : h₀.IsList l vs.toArray) (hi : IntsAre vs ns) (hz : vs.length ≤ 1000)
   (h : ∀ D zs ms h', IntsAre zs ms → zs.length ≤ 1000 → Fr h₀ L h' m → News h₀ L h' ((D, listOf zs.toArray 0) :: news) → (∀ p ∈ news, p.1 < D) → Q (.ref D) { s with heap := h' })
   (hs : subscripted slice false (.ref l) (.ref s.heap.objs.size) = operate [Value.ref s.heap.objs.size, Value.ref l] (getItem (.ref l) (.ref s.heap.objs.size))) (ht : ∀ r, letTemporaryGo value (.ref l) r = pure ()) :
   wpAny (model prog w) A (subscriptTail value slice (.ref l) (.ref s.heap.objs.size)) Q E { s with heap := s.heap.push { cls := .type "slice", data := .fields #[.none, .int y ty, .none] } } := by
  have hsub : ∀ v ∈ (slicePick vs.toArray none (some y) none).toList, v ∈ vs := by
    intro v hv
    unfold slicePick at hv
    rw [List.toList_toArray] at hv
    obtain ⟨j, _, hj⟩ := List.mem_filterMap.mp hv
    rw [List.getElem?_toArray] at hj
    exact List.mem_of_getElem? hj
  obtain ⟨ms, hms⟩ := ints_of_mem fun v hv => ints_mem hi v (hsub v hv)
  refine kmk_slice_lit (lo := none) (hi := some y) F N (F.lst hl) .none (.int _ _) rfl (fun D h' F' N' l1 => h D _ ms h' hms ?_ F' N' l1) hs ht (by rw [List.size_toArray]; exact Nat.le_trans hz (by decide))
  have := slicePick_size_le vs.toArray none (some y) none
  rw [List.size_toArray] at this
  rw [Array.length_toList]
  exact Nat.le_trans this hz
section
variable {prog : Program} {w : World} {A : Around} {E : Value → Shared → Prop} {s : Shared} {h₀ : Heap} {L : Addr} {m : Str → Option Value} {env : Env} {ts : List PySem.Expr} {elt : PySem.Expr} {a b : Str} {scope : Scope} {cl : List (Str × Addr)} {Fin : Shared → List Value → List (Addr × Obj) → Prop} {s₁ : Shared} {news : List (Addr × Obj)}
/-- pairs from enumerate; the ledger stays -/
theorem pEnum_of2 {e it l : Addr} {vs : List Value} {n : Nat} (hh : A.handled = none) (F : Fr h₀ L s₁.heap m) (N : News h₀ L s₁.heap news) (hE : EnumAt h₀ s₁.heap L e it l news) (hm : (l, listOf vs.toArray n) ∈ news) (hsz : vs.length ≤ sizeLine) (J : Nat → List Value → Prop) (j0 : J 0 [])
    (ht : ∀ i y t ys oE oI oC C D m₂ h tk (E' : Value → Shared → Prop), i < vs.length → J i ys → vs[i]? = some y → NsObj oC m₂ → m₂ a = some (.int i t) → m₂ b = some y → oE.cls = .type "enumerate" → oI.cls = .type "list_iterator" → Fr h₀ L h m → News h₀ L h ((e, oE) :: (it, oI) :: (C, oC) :: (D, lst ys) :: news) →
      (∀ p ∈ news, @Ne Nat p.1 e ∧ @Ne Nat p.1 it ∧ @Ne Nat p.1 C ∧ @Ne Nat p.1 D) → (@Ne Nat e C ∧ @Ne Nat e D ∧ @Ne Nat it C ∧ @Ne Nat it D ∧ @Ne Nat C D) →
      PStep prog w A elt (compEnvC scope cl C env) (XEnd h₀ L m { s₁ with heap := h, toks := tk } [(e, oE), (it, oI), (C, oC), (D, lst ys)] (fun z nw' => J (i + 1) (ys ++ [z]) ∧ nw' = news)) (fun s₄ => XEnd h₀ L m { s₁ with heap := h, toks := tk } [(e, oE), (it, oI), (C, oC), (D, lst ys)] (fun _ nw' => J (i + 1) ys ∧ nw' = news) .none s₄) E' ts { s₁ with heap := h, toks := tk })
    (fin : ∀ ys, J vs.length ys → Fin s₁ ys news) : PSrc prog w A h₀ L m env ts elt a b scope cl Fin (.ref e) s₁ := by
  refine pEnum_of hh F N hE hsz (fun i ys nw => J i ys ∧ nw = news) (fun _ _ _ h => h.2 ▸ hm) ⟨j0, rfl⟩ ?_ (fun ys nw h => h.2 ▸ fin ys h.1)
  intro i y t ys nw oE oI oC C D m₂ h tk E' hi hj
  obtain ⟨hj, rfl⟩ := hj
  exact ht i y t ys oE oI oC C D m₂ h tk E' hi hj
/-- the same, the ledger stays, at the end of a turn -/
theorem xEnd_same {four : List (Addr × Obj)} {J : Value → Prop} {y : Value} {h' : Heap} {tk : Nat} {all nw : List (Addr × Obj)} (F : Fr h₀ L h' m) (N : News h₀ L h' all) (sub : ∀ p ∈ four ++ nw, p ∈ all) (off : ∀ p ∈ nw, ∀ q ∈ four, p.1 ≠ q.1) (r : J y) :
   XEnd h₀ L m s₁ four (fun y nw' => J y ∧ nw' = nw) y { s₁ with heap := h', toks := tk } := xEnd_of nw F N sub off ⟨r, rfl⟩
theorem offX4 {a b c d : Addr} {oa ob oc od : Obj} {nw : List (Addr × Obj)} (h : ∀ p ∈ nw, @Ne Nat p.1 a ∧ @Ne Nat p.1 b ∧ @Ne Nat p.1 c ∧ @Ne Nat p.1 d) : ∀ p ∈ nw, ∀ q ∈ [(a, oa), (b, ob), (c, oc), (d, od)], p.1 ≠ q.1 := by
  intro p hp q hq
  simp only [List.mem_cons, List.not_mem_nil, or_false] at hq
  refine hide9 fun C9 k9 => ?_
  obtain ⟨h1, h2, h3, h4⟩ := h p hp
  refine k9 ?_
  clear k9
  rcases hq with rfl | rfl | rfl | rfl
  · exact h1
  · exact h2
  · exact h3
  · exact h4
end
end Mine
end

section
open PySem PySem.W PySem.Calls PyProof.Rows
set_option maxRecDepth 100000
set_option maxHeartbeats 0
namespace Mine
section
theorem c_numbers (w : World) (loose mean mg mb) (dp un : Nat) (gd cn nms mr a ccd cl outer A₀ base h₀ L m news s) (sA : Addr) (vs : List Value) (ns : List Int)
   (H : At w loose mean mg mb dp un A₀ base h₀ outer L m news s) (hS : h₀.IsList sA vs.toArray) (hI : IntsAre vs ns) (hz : ns.length ≤ 63) (Q E : Value → Shared → Prop)
   (hret : ∀ D ws ms h' tk' k, IntsAre ws ms → ms.length = 6 → Fr h₀ L h' m → News h₀ L h' ((D, listOf (List.toArray ws) k) :: news) → Q (.ref D) { s with heap := h', toks := tk' }) :
   wpAny (model PG w) (topA dp un gd cn nms mr L a ccd cl outer) (call (.ref 161) [.ref sA]) Q E s := by
  k_with_none
  (k_with "all here" => first | assumption | ((with_reducible refine List.forall_mem_cons.mpr ⟨?_, ?_⟩); k_ne; k_all) | ((repeat (cases ‹_ ∧ _›)); first | assumption | walk_at "all tail" | walk_at "all raw"))
  (k_with "execs cons" => (k_here; (fail_if_success k_gentoks); (fail_if_success k_made); (with_reducible refine wpAny_execs_cons ?_); k_fold; (try dsimp only)))
  (k_with "eval Name" => (k_here; (fail_if_success (with_reducible show wpAny _ _ (eval _ (compEnvC _ _ _ _)) _ _ _)); k_dflt (refine' nameX_C ?Nkq ?ckq ?mkq ?dkq ?_ ?akq ?bkq; (case akq => exact Eq.refl _); (case bkq => exact Eq.refl (some _)); (case Nkq => k_asm); (case ckq => exact Eq.refl (some _)); (case mkq => k_mem); (case dkq => k_asm); k_whole)))
  (k_with "eval Name" => (k_here; (fail_if_success (with_reducible show wpAny _ _ (eval _ (compEnvC _ _ _ _)) _ _ _)); k_dflt (refine' nameX_L ?Fkq ?vkq ?_ ?akq ?bkq; (case Fkq => k_asm); (case akq => exact Eq.refl _); (case bkq => exact Eq.refl (some _)); (case vkq => exact Eq.refl (some _)); k_whole)))
  (k_with "callWith ref" => (k_here; (with_reducible show wpAny _ _ (callWith _ (Value.ref (OfNat.ofNat _)) _ _ _) _ _ _); k_dflt (refine' callWith_KW ?k1q ?k2q ?k3q ?_; (case k1q => k_asm); (case k2q => k_is); (case k3q => exact rfl); k_whole)))
  (k_with "callWith ref" => (k_here; (with_reducible show wpAny _ _ (callWith _ (Value.ref (OfNat.ofNat _)) _ _ _) _ _ _); k_dflt (refine' callWith_K0 ?k1q ?k2q ?_; (case k1q => first | with_reducible assumption | exact Frag.In.keeps (by with_reducible assumption) (Fr.keep (by with_reducible assumption)) | k_in); (case k2q => k_is); k_whole)))
  (k_with "callWith ref" => (k_here; (with_reducible show wpAny _ _ (callWith _ (Value.ref (OfNat.ofNat _)) _ _ _) _ _ _); k_dflt (refine' callWith_K ?k1q ?k2q ?_; (case k1q => k_asm); (case k2q => k_is); k_whole)))
  (k_with "all raw" => ((with_reducible rename ∀ p, p ∈ _ → @LT.lt Nat _ (Prod.fst p) _ => h9zq); first | exact rawLt_ne h9zq (by (fail_if_success (fail_if_success (omega (config := {})))); lia) | (clear h9zq; walk_at "all raw")))
  (k_with "all tail" => ((with_reducible rename AllLt _ _ => h9zq); first | exact allLt_ne h9zq (by (fail_if_success (fail_if_success (omega (config := {})))); lia) | (clear h9zq; walk_at "all tail")))
  (k_with "CompSrc" => (k_here; refine stop_of ?_))
  (k_with "PSrc" => (k_here; refine stop_of ?_))
  (k_with "call type:enumerate" => (k_here; k_dflt (refine' enumN ?Fk238q ?Nk238q ?mk238q ?_; (case Fk238q => k_asm); (case Nk238q => k_asm); (case mk238q => k_mem); k_whole); intro _ _ _ _ _ _))
  (k_with "eval ListComp" => (k_here; (with_reducible show wpAny _ _ (eval (PySem.Expr.ListComp _ [PySem.Comprehension.mk (PySem.Expr.Tuple _ _ _) _ _ _] _ _) _) _ _ _); k_dflt (refine' ListComp_K ?Fk239q ?tsk239q ?clk239q ?cek239q ?kik239q ?nak239q ?xak239q ?xbk239q ?abk239q ?_ ?hsk239q; (case Fk239q => k_asm); (case tsk239q => first | exact .inl rfl | exact .inr ⟨_, rfl⟩); (case clk239q => with_unfolding_all rfl); (case cek239q => decide); (case kik239q => rfl); (case nak239q => decide); (case xak239q => rfl); (case xbk239q => rfl); (case abk239q => decide); (case hsk239q => exact fun _ => by rfl); k_whole)))
  (k_with "call builtin:sum" => (k_here; k_dflt (refine' sumN ?Fk240q ?Nk240q ?hhk240q ?mk240q ?ik240q ?_; (case Fk240q => k_asm); (case Nk240q => k_asm); (case hhk240q => with_unfolding_all rfl); (case mk240q => k_mem); (case ik240q => assumption); k_whole); intro _ _ _ _ _))
  (k_with "subscriptTail" => (k_here; (with_reducible show wpAny _ _ (subscriptTail _ (PySem.Expr.Slice _ _ (some _) _) (Value.ref _) (Value.ref _)) _ _ _); k_dflt (refine' slice3N ?Fk241q ?Nk241q ?mk241q ?ik241q ?zk241q ?yk241q ?_ ?sk241q ?tk241q; (case Fk241q => k_asm); (case Nk241q => k_asm); (case mk241q => k_mem); (case ik241q => assumption); (case zk241q => assumption); (case yk241q => decide); (case sk241q => with_unfolding_all rfl); (case tk241q => kmk_pure); k_whole); intro _ _ _ _ _ _ _ _))
  (k_with "subscriptTail Name Slice ref ref" => (k_here; refine stop_of ?_))
  (k_with "subscriptTail Name Slice ref ref" => (k_here; (with_reducible show wpAny _ _ (subscriptTail _ (PySem.Expr.Slice _ _ (some _) _) (Value.ref _) (Value.ref _)) _ _ _); k_dflt (refine' slice3N ?Fk243q ?Nk243q ?mk243q ?ik243q ?zk243q ?yk243q ?_ ?sk243q ?tk243q; (case Fk243q => k_asm); (case Nk243q => k_asm); (case mk243q => k_mem); (case ik243q => assumption); (case zk243q => assumption); (case yk243q => decide); (case sk243q => with_unfolding_all rfl); (case tk243q => kmk_pure); k_whole); intro _ _ _ _ _ _ _ _))
  (k_with "eval ListComp" => (k_here; (with_reducible show wpAny _ _ (eval (PySem.Expr.ListComp _ [PySem.Comprehension.mk (PySem.Expr.Name _ _) _ [] _] _ _) _) _ _ _); k_dflt (refine LCg.ListComp_U (F₀ := by k_asm) (by with_unfolding_all rfl) (by decide) (by rfl) (by decide) (by rfl) ?_)))
  refine hide9 fun C9 k9 => ?_
  obtain ⟨B, F, X, N, T, hd, hu⟩ := H
  refine k9 ?_
  clear k9
  have z9 : PySem.Challenge.rw_wo0040_01 = PySem.Challenge.rw_wo0040_01 ∧ Mine.frag.heap_1 = Mine.frag.heap_1 := by
    k_fill
    exact ⟨rfl, rfl⟩
  clear z9
  have hvz : vs.toArray.size ≤ sizeLine := by rw [List.size_toArray, hI.length]; exact Nat.le_trans hz (by decide)
  have hvl : vs.length ≤ 1000 := by rw [hI.length]; omega
  have hS9 : True := trivial
  k_steps
  unfold Stop
  rename Fr h₀ _ _ _ => FG8
  rename Fr _ _ _ _ => F8
  rename News _ _ _ _ => N8
  have hS8 := hS.at fun o e => FG8.keep _ o e
  refine sliceUp F8 N8 hS8 hI (by rw [hI.length]; omega) ?sl (by with_unfolding_all rfl) (by kmk_pure)
  case sl =>
   intro D8 zs8 ms8 h8 hI8 hz8 F9 N9 l9
   have q9 : @LT.lt Nat _ _ _ := l9 _ (.head _)
   dsimp only at q9
   clear F8 N8
   k_steps
   unfold Stop
   rename Fr _ _ _ _ => F8
   rename News _ _ _ _ => N8
   refine compL_of (by with_unfolding_all rfl) F8 N8 (.head _) (Nat.le_trans hz8 (by decide)) (fun i ys => ∃ ms, IntsAre ys ms ∧ ms.length = i) ⟨[], .nil, rfl⟩ ?t1 ?f1
   case t1 =>
    rintro i v ys I oI C oC D m₂ h tk E' hi ⟨ms, hj, hjl⟩ hv hC hx hF hN ho hne
    obtain ⟨z, tz, rfl⟩ := ints_mem hI8 v (List.mem_of_getElem? hv)
    clear F8 N8
    k_steps
    exact cEnd_of _ hF hN (fun p hp => hp) ho (.inr ⟨_, .head _, rfl, _, rfl⟩) ⟨⟨_, intsAre_append hj (.cons _ _ .nil), by rw [List.length_append, hjl]; rfl⟩, rfl⟩
   case f1 =>
    rintro g ys ⟨ms, hj, hjl⟩
    have hq8 : ys.length ≤ 1000 := by rw [hj.length, hjl]; exact hz8
    clear F8 N8
    k_steps
    unfold Stop
    rename Fr _ _ _ _ => F8
    rename News _ _ _ _ => N8
    rename EnumAt _ _ _ _ _ _ _ => hE8
    refine pEnum_of2 (by with_unfolding_all rfl) F8 N8 hE8 (.head _) (by rw [sizeLine_eq]; exact Nat.le_of_ble_eq_true rfl) (fun i ys => ∃ ms, IntsAre ys ms ∧ ms.length = i) ⟨[], .nil, rfl⟩ ?t2 ?f2
    case t2 =>
     rintro i y t ys oE oI oC C D m₂ h tk E' hi ⟨ms, hj2, hml⟩ hy hC ha hb hcE hcI hF hN hoff hne
     obtain ⟨z, tz, rfl⟩ : ∃ i t, y = .int i t := by
       have := List.mem_of_getElem? hy
       simp only [List.mem_cons, List.not_mem_nil, or_false] at this
       rcases this with rfl | rfl | rfl | rfl | rfl | rfl <;> exact ⟨_, _, rfl⟩
     clear F8 N8
     unfold PStep
     dsimp only
     k_steps
     rename Fr _ _ _ _ => F8
     rename News _ _ _ _ => N8
     exact xEnd_same F8 N8 (fun p hp => .tail _ hp) (offX4 hoff) ⟨_, intsAre_append hj2 (.cons _ _ .nil), by rw [List.length_append, hml]; rfl⟩
    case f2 =>
     rintro ys ⟨ms, hj2, hml⟩
     clear F8 N8
     k_steps
     rename Fr h₀ L _ _ => F8
     rename News h₀ L _ _ => N8
     exact hret _ _ _ _ _ _ hj2 hml F8 (news_sub N8 fun x hx => (List.mem_cons.mp hx).elim (fun e => e ▸ .head _) fun hx => .tail _ (.tail _ (.tail _ (.tail _ (.tail _ hx)))))
end
end Mine
end

section
open PySem PySem.W PySem.Calls PyProof.Rows
set_option maxRecDepth 100000
namespace Mine
theorem pigeons : ∀ (n : Nat) (l : List Nat), l.Nodup → (∀ x ∈ l, x < n) → l.length ≤ n
  | 0, [], _, _ => Nat.le_refl _
  | 0, a :: l, _, h => absurd (h a (.head _)) (Nat.not_lt_zero _)
  | n + 1, l, hd, h => by
    have ih := pigeons n (l.erase n) (hd.erase n) fun x hx => by
      have := (hd.mem_erase_iff).mp hx
      have := h x this.2
      omega (config := {})
    rw [List.length_erase] at ih
    split at ih <;> omega (config := {})
/-- a walk over at most n places comes back: the first time, told with the place that it comes back to -/
theorem comes_back {f : Nat → Int} {lo : Int} {n : Nat} (hb : ∀ i, lo ≤ f i ∧ f i < lo + n) : ∃ K mu, K ≤ n ∧ mu < K ∧ (∀ i j, i < j → j < K → f i ≠ f j) ∧ f K = f mu := by
  have key : ∀ k, (∀ i j, i < j → j < k → f i ≠ f j) → k ≤ n := by
    intro k hd
    have hnd : ((List.range k).map fun i => (f i - lo).toNat).Nodup := by
      unfold List.Nodup
      rw [List.pairwise_map]
      refine (List.pairwise_lt_range (n := k)).imp_of_mem fun {a b} ha hb' hab e => ?_
      have h1 := hb a
      have h2 := hb b
      exact hd a b hab (List.mem_range.mp hb') (by omega (config := {}))
    have := pigeons n _ hnd fun x hx => by
      obtain ⟨i, _, rfl⟩ := List.mem_map.mp hx
      have := hb i
      omega (config := {})
    simpa using this
  have step : ∀ m, (∀ i j, i < j → j < m → f i ≠ f j) ∨ ∃ K mu, K < m ∧ mu < K ∧ (∀ i j, i < j → j < K → f i ≠ f j) ∧ f K = f mu := by
    intro m
    induction m with
    | zero => exact .inl fun i j _ h => absurd h (Nat.not_lt_zero _)
    | succ m ih =>
      rcases ih with h | ⟨K, mu, h1, h2⟩
      · by_cases hm : ∃ mu, mu < m ∧ f m = f mu
        · obtain ⟨mu, h1, h2⟩ := hm
          exact .inr ⟨m, mu, Nat.lt_succ_self _, h1, h, h2⟩
        · refine .inl fun i j hij hj e => ?_
          rcases Nat.lt_or_ge j m with g | g
          · exact h i j hij g e
          · obtain rfl : j = m := by omega (config := {})
            exact hm ⟨i, hij, e.symm⟩
      · exact .inr ⟨K, mu, by omega (config := {}), h2⟩
  rcases step (n + 1) with h | ⟨K, mu, h1, h2⟩
  · have := key _ h; omega (config := {})
  · exact ⟨K, mu, by omega (config := {}), h2⟩
theorem nxt_bd {size t0 t1 t2 x : Int} (hz : (4 ≤ size ∧ size ≤ 9) ∨ (-9 ≤ size ∧ size ≤ -4)) : (0 < size ∧ 0 ≤ nxt size t0 t1 t2 x ∧ nxt size t0 t1 t2 x < size) ∨ (size < 0 ∧ size < nxt size t0 t1 t2 x ∧ nxt size t0 t1 t2 x ≤ 0) := by
  unfold nxt
  generalize (t0 * x + t1) * x + t2 = y
  rcases hz with h | h
  · exact .inl ⟨by omega (config := {}), Int.fmod_nonneg_of_pos _ (by omega (config := {})), Int.fmod_lt_of_pos _ (by omega (config := {}))⟩
  · refine .inr ⟨by omega (config := {}), ?_⟩
    obtain ⟨z, rfl⟩ : ∃ z : Int, size = -z := ⟨-size, by omega (config := {})⟩
    have e : y.fmod (-z) = -((-y).fmod z) := by
      have := Int.neg_fmod_neg (-y) z
      rw [Int.neg_neg] at this
      exact this
    rw [e]
    have h1 := Int.fmod_nonneg_of_pos (-y) (show 0 < z by omega (config := {}))
    have h2 := Int.fmod_lt_of_pos (-y) (show 0 < z by omega (config := {}))
    omega (config := {})
theorem law_params (a b c d e f : Int) : ∃ (P : LawP) (K mu : Nat), P.Ok ∧ K ≤ 9 ∧ mu < K ∧ (∀ i j, i < j → j < K → P.f i ≠ P.f j) ∧ P.f K = P.f mu ∧
    (K : Int) ≤ (if P.size < 0 then -P.size else P.size) ∧
    P.size = (4 + a.fmod 6) * (1 - 2 * ((a.fdiv 6).fmod 2)) ∧ P.kinds = 1 + b.fmod 3 ∧ P.t0 = c.fmod 5 ∧ P.t1 = d.fmod 9 - 4 ∧ P.t2 = e.fmod 19 - 9 ∧ P.f 0 = f.fmod ((4 + a.fmod 6) * (1 - 2 * ((a.fdiv 6).fmod 2))) := by
  obtain ⟨S, hS⟩ : ∃ S, S = (4 + a.fmod 6) * (1 - 2 * ((a.fdiv 6).fmod 2)) := ⟨_, rfl⟩
  have a1 := Int.fmod_nonneg_of_pos a (show (0 : Int) < 6 by decide)
  have a2 := Int.fmod_lt_of_pos a (show (0 : Int) < 6 by decide)
  have a3 := Int.fmod_nonneg_of_pos (a.fdiv 6) (show (0 : Int) < 2 by decide)
  have a4 := Int.fmod_lt_of_pos (a.fdiv 6) (show (0 : Int) < 2 by decide)
  have b1 := Int.fmod_nonneg_of_pos b (show (0 : Int) < 3 by decide)
  have b2 := Int.fmod_lt_of_pos b (show (0 : Int) < 3 by decide)
  have c1 := Int.fmod_nonneg_of_pos c (show (0 : Int) < 5 by decide)
  have c2 := Int.fmod_lt_of_pos c (show (0 : Int) < 5 by decide)
  have d1 := Int.fmod_nonneg_of_pos d (show (0 : Int) < 9 by decide)
  have d2 := Int.fmod_lt_of_pos d (show (0 : Int) < 9 by decide)
  have e1 := Int.fmod_nonneg_of_pos e (show (0 : Int) < 19 by decide)
  have e2 := Int.fmod_lt_of_pos e (show (0 : Int) < 19 by decide)
  have hz : (4 ≤ S ∧ S ≤ 9) ∨ (-9 ≤ S ∧ S ≤ -4) := by
    rw [hS]
    generalize (a.fdiv 6).fmod 2 = q at *
    generalize a.fmod 6 = r at *
    have hq : q = 0 ∨ q = 1 := by omega (config := {})
    rcases hq with rfl | rfl
    · rw [show (1 : Int) - 2 * 0 = 1 from rfl]; omega (config := {})
    · rw [show (1 : Int) - 2 * 1 = -1 from rfl]; omega (config := {})
  rw [← hS]
  have hf0 : (0 < S ∧ 0 ≤ f.fmod S ∧ f.fmod S < S) ∨ (S < 0 ∧ S < f.fmod S ∧ f.fmod S ≤ 0) := by
    have := nxt_bd (t0 := 0) (t1 := 0) (t2 := f) (x := 0) hz
    unfold nxt at this
    simpa using this
  have hbd : ∀ n, (0 < S ∧ 0 ≤ traj S (c.fmod 5) (d.fmod 9 - 4) (e.fmod 19 - 9) (f.fmod S) n ∧ traj S (c.fmod 5) (d.fmod 9 - 4) (e.fmod 19 - 9) (f.fmod S) n < S) ∨ (S < 0 ∧ S < traj S (c.fmod 5) (d.fmod 9 - 4) (e.fmod 19 - 9) (f.fmod S) n ∧ traj S (c.fmod 5) (d.fmod 9 - 4) (e.fmod 19 - 9) (f.fmod S) n ≤ 0) := by
    intro n
    cases n with
    | zero => exact hf0
    | succ n => exact nxt_bd hz
  obtain ⟨K, mu, hK, hmu, hdis, hper⟩ := comes_back (f := traj S (c.fmod 5) (d.fmod 9 - 4) (e.fmod 19 - 9) (f.fmod S)) (lo := if S < 0 then S + 1 else 0) (n := S.natAbs) fun i => by
    rcases hbd i with h | h <;> split <;> omega (config := {})
  refine ⟨⟨S, 1 + b.fmod 3, c.fmod 5, d.fmod 9 - 4, e.fmod 19 - 9, traj S (c.fmod 5) (d.fmod 9 - 4) (e.fmod 19 - 9) (f.fmod S)⟩, K, mu, ⟨?_, ?_, ?_, ?_, ?_, ?_, fun n => rfl⟩, by omega (config := {}), hmu, hdis, hper, ?_, rfl, rfl, rfl, rfl, rfl, rfl⟩
  · dsimp only; omega (config := {})
  · dsimp only; omega (config := {})
  · dsimp only
    rcases hz with h | h
    · exact .inl ⟨h.1, h.2, fun n => by rcases hbd n with g | g <;> omega (config := {})⟩
    · exact .inr ⟨h.1, h.2, fun n => by rcases hbd n with g | g <;> omega (config := {})⟩
  · dsimp only; omega (config := {})
  · dsimp only; omega (config := {})
  · dsimp only; omega (config := {})
  · dsimp only; split <;> omega (config := {})
end Mine
end

section
open PySem PySem.W PySem.Calls PyProof.Rows
set_option maxRecDepth 100000
set_option maxHeartbeats 0
namespace Mine
theorem c_told2 (w : World) (loose mean mg mb) (dp un : Nat) (gd cn nms mr a ccd cl outer A₀ base h₀ L m news s) (P : LawP) (hP : P.Ok) (tz tkk ts : Tok) (tA : Addr) (tv0 tv1 tv2 : Tok) (ep0 : Nat) (S kd sp v0 v1 v2 : Int) (e1 : P.size = S) (e2 : P.kinds = kd) (e3 : P.t0 = v0) (e4 : P.t1 = v1) (e5 : P.t2 = v2) (e6 : P.f 0 = sp)
   (H : At w loose mean mg mb dp un A₀ base h₀ outer L m news s) (K mu : Nat) (hK : K ≤ 9) (hmu : mu < K) (hdis : ∀ i j, i < j → j < K → P.f i ≠ P.f j) (hper : P.f K = P.f mu) (hterms : (tA, listOf #[.int v0 tv0, .int v1 tv1, .int v2 tv2] ep0) ∈ news) (Q E : Value → Shared → Prop)
   (hret : ∀ i0 T rowA vs ep h' tk' t1 t2, ToldI P.f P.kinds K mu i0 → IntsAre vs ((List.range (i0 + (K - mu) + 1)).map P.f) → Fr h₀ L h' m → News h₀ L h' ((T, tupO [.ref rowA, .int ((i0 + (K - mu) : Nat) : Int) t1, .int ((K - mu : Nat) : Int) t2]) :: (rowA, listOf vs.toArray ep) :: news) → Q (.ref T) { s with heap := h', toks := tk' }) :
   wpAny (model PG w) (topA dp un gd cn nms mr L a ccd cl outer) (call (.ref 171) [.int S tz, .int kd tkk, .ref tA, .int sp ts]) Q E s := by
  subst e1 e2 e3 e4 e5 e6
  exact c_told w loose mean mg mb dp un gd cn nms mr a ccd cl outer A₀ base h₀ L m news s P hP tz tkk ts tA tv0 tv1 tv2 ep0 H K mu hK hmu hdis hper hterms Q E hret
theorem c_walked2 (w : World) (loose mean mg mb) (dp un : Nat) (gd cn nms mr a ccd cl outer A₀ base h₀ L m news s) (RR : List (Addr × Obj)) (P : LawP) (hP : P.Ok) (tz tkk ts : Tok) (tA : Addr) (tv0 tv1 tv2 : Tok) (ep0 : Nat) (S kd sp v0 v1 v2 : Int) (e1 : P.size = S) (e2 : P.kinds = kd) (e3 : P.t0 = v0) (e4 : P.t1 = v1) (e5 : P.t2 = v2) (e6 : P.f 0 = sp)
   (H : At w loose mean mg mb dp un A₀ base h₀ outer L m RR s) (hT : Tabs RR news) (hterms : (tA, listOf #[.int v0 tv0, .int v1 tv1, .int v2 tv2] ep0) ∈ news) 
   (hP1 : CodeHd base 125 121) (hP2 : CodeHd base 132 128) (hP3 : CodeHd base 165 163) (hdp : dp + 300 < recursionLimit) (hun : un + 1700 < cLine) (hpr1 : ∀ x ∈ news, x.1 ≠ 121) (hpr2 : ∀ x ∈ news, x.1 ≠ 128) (hpr3 : ∀ x ∈ news, x.1 ≠ 163) (Q E : Value → Shared → Prop)
   (res : Nat × Nat × WS) (hres : walkP P.sh P.kd (2 * (if P.size < 0 then -P.size else P.size)).toNat 0 ⟨[], List.replicate P.kinds.toNat []⟩ = some res) (hret : ∀ T plA gl rest h' tk' t1 t2, WOut P res news plA gl rest → Fr h₀ L h' m → News h₀ L h' ((T, tupO [.int res.1 t1, .int res.2.1 t2, .ref plA, .ref gl]) :: rest) → Q (.ref T) { s with heap := h', toks := tk' }) :
   wpAny (model PG w) (topA dp un gd cn nms mr L a ccd cl outer) (call (.ref 166) [.int S tz, .int kd tkk, .ref tA, .int sp ts]) Q E s := by
  subst e1 e2 e3 e4 e5 e6
  exact c_walked w loose mean mg mb dp un gd cn nms mr a ccd cl outer A₀ base h₀ L m news s RR P hP tz tkk ts tA tv0 tv1 tv2 ep0 H hT hterms hP1 hP2 hP3 hdp hun hpr1 hpr2 hpr3 Q E res hres hret
/-- a thing that bears a class lies at no table -/
theorem tab_apart {h₀ h : Heap} {L a P : Addr} {o : Obj} {ps : Array Value} {R : List (Addr × Obj)} (N : News h₀ L h R) (hT : (P, tabObj ps) ∈ R) (hx : (a, o) ∈ R) (hc : o.cls ≠ .none) : a ≠ P := fun e => by
  subst e
  have := news_same N hT hx
  subst this
  exact hc rfl
/-- a thing that is no cell lies at no cell -/
theorem cell_apart {h₀ h : Heap} {L a c : Addr} {o oc : Obj} {v : Option Value} {R : List (Addr × Obj)} (N : News h₀ L h R) (hT : (c, oc) ∈ R) (hd : oc.data = .cell v) (hx : (a, o) ∈ R) (hc : ∀ v, o.data ≠ .cell v) : a ≠ c := fun e => by
  subst e
  have := news_same N hT hx
  subst this
  exact hc _ hd
theorem fr_some {h₀ h : Heap} {L : Addr} {m : Str → Option Value} (F : Fr h₀ L h m) (ps : List (Str × Value)) (hp : ∀ p ∈ ps, m p.1 = some p.2) : ∃ m1, Fr h₀ L h (ovr ps m1) := ⟨m, fr_ovr F ps hp⟩
theorem law_sub1 {T r t d f rc k p1 p2 p3 p4 : Addr × Obj} {h₀ h : Heap} {L : Addr} (N : News h₀ L h (T :: r :: t :: d :: f :: rc :: k :: p1 :: p2 :: p3 :: p4 :: [])) : News h₀ L h (p2 :: p1 :: p3 :: r :: t :: f :: rc :: k :: p4 :: []) := news_sub N (by repeat (first | exact List.forall_mem_nil _ | refine sub_cons (by repeat (first | exact List.Mem.head _ | refine List.Mem.tail _ ?_ | refine List.mem_append_right _ ?_)) ?_ | refine sub_app ?_ ?_ | (intro p hp; repeat (first | exact hp | exact List.mem_append_left _ hp | refine List.Mem.tail _ ?_ | refine List.mem_append_right _ ?_))))
theorem law_sub2 {T pl gl r t f rc k p : Addr × Obj} {big : List (Addr × Obj)} {h₀ h : Heap} {L : Addr} (N : News h₀ L h (T :: pl :: gl :: r :: t :: f :: rc :: k :: p :: big)) : News h₀ L h (r :: pl :: gl :: f :: rc :: k :: p :: big) := news_sub N (by repeat (first | exact List.forall_mem_nil _ | refine sub_cons (by repeat (first | exact List.Mem.head _ | refine List.Mem.tail _ ?_ | refine List.mem_append_right _ ?_)) ?_ | refine sub_app ?_ ?_ | (intro p hp; repeat (first | exact hp | exact List.mem_append_left _ hp | refine List.Mem.tail _ ?_ | refine List.mem_append_right _ ?_))))
theorem law_apart {r t f rc k : Addr × Obj} {ps1 ps2 ps3 ps4 : Array Value} {h₀ h : Heap} {L : Addr} (N : News h₀ L h ((121, tabObj ps1) :: (128, tabObj ps2) :: (163, tabObj ps3) :: r :: t :: f :: rc :: k :: (63, tabObj ps4) :: [])) (hr : r.2.cls ≠ .none) (ht : t.2.cls ≠ .none) (hf : @LT.lt Nat _ 163 f.1) (hrc : @LT.lt Nat _ 163 rc.1) (hk : @LT.lt Nat _ 163 k.1) :
    ∀ P9 : Addr, (P9 = 121 ∨ P9 = 128 ∨ P9 = 163) → ∀ x ∈ r :: t :: f :: rc :: k :: (63, tabObj ps4) :: [], x.1 ≠ P9 := by
  intro P9 hP9 x hx
  obtain ⟨ps, hm⟩ : ∃ ps, (P9, tabObj ps) ∈ (121, tabObj ps1) :: (128, tabObj ps2) :: (163, tabObj ps3) :: r :: t :: f :: rc :: k :: (63, tabObj ps4) :: [] := by
    rcases hP9 with rfl | rfl | rfl
    · exact ⟨_, .head _⟩
    · exact ⟨_, .tail _ (.head _)⟩
    · exact ⟨_, .tail _ (.tail _ (.head _))⟩
  have hle : @LE.le Nat _ P9 163 := by rcases hP9 with rfl | rfl | rfl <;> decide
  rcases List.mem_cons.mp hx with rfl | hx
  · exact tab_apart N hm (.tail _ (.tail _ (.tail _ (.head _)))) hr
  rcases List.mem_cons.mp hx with rfl | hx
  · exact tab_apart N hm (.tail _ (.tail _ (.tail _ (.tail _ (.head _))))) ht
  rcases List.mem_cons.mp hx with rfl | hx
  · exact Nat.ne_of_gt (Nat.lt_of_le_of_lt hle hf)
  rcases List.mem_cons.mp hx with rfl | hx
  · exact Nat.ne_of_gt (Nat.lt_of_le_of_lt hle hrc)
  rcases List.mem_cons.mp hx with rfl | hx
  · exact Nat.ne_of_gt (Nat.lt_of_le_of_lt hle hk)
  · rw [List.mem_singleton.mp hx]
    rcases hP9 with rfl | rfl | rfl
    · exact Nat.ne_of_lt (by decide : (63 : Nat) < 121)
    · exact Nat.ne_of_lt (by decide : (63 : Nat) < 128)
    · exact Nat.ne_of_lt (by decide : (63 : Nat) < 163)
end Mine
end

section
open PySem PySem.W PySem.Calls PyProof.Rows
set_option maxRecDepth 100000
set_option maxHeartbeats 0
namespace Mine
noncomputable def seqD (x : Addr × Obj) : Bool := match x.2.data with
  | .seq _ _ => true
  | _ => false
theorem seqD_iff {x : Addr × Obj} (h : seqD x = true) : ∃ vs n, x.2.data = .seq vs n := by
  unfold seqD at h
  split at h
  · rename_i vs n e; exact ⟨vs, n, e⟩
  · cases h
mutual
theorem datIn_seq {news : List (Addr × Obj)} : ∀ {v : Value} {d : Dat}, DatIn news v d → DatIn (news.filter seqD) v d
  | _, _, .none => .none
  | _, _, .bool b => .bool b
  | _, _, .int i t => .int i t
  | _, _, .str x t => .str x t
  | _, _, .bytes b t => .bytes b t
  | _, _, .tuple hm r => .tuple (List.mem_filter.mpr ⟨hm, rfl⟩) (datAll_seq r)
  | _, _, .list hm r => .list (List.mem_filter.mpr ⟨hm, rfl⟩) (datAll_seq r)
theorem datAll_seq {news : List (Addr × Obj)} : ∀ {vs : List Value} {ds : List Dat}, DatAll news vs ds → DatAll (news.filter seqD) vs ds
  | _, _, .nil => .nil
  | _, _, .cons h r => .cons (datIn_seq h) (datAll_seq r)
end
noncomputable def pileL (P : LawP) (stop k : Nat) : List Nat := (List.range stop).filter fun p => decide (P.kd p = k) && lies P.f P.kd (stop + 1) p
/-- what the walk leaves, told for what comes after it -/
structure LO (P : LawP) (stop : Nat) (PL : List Pile) (gv : List Value) (big : List (Addr × Obj)) : Prop where
  gone : DatAll big gv ((goneTo P.f P.kd (stop + 1)).map (pcD blS xsS P.sh))
  len : PL.length = P.kinds.toNat
  it : ∀ (i : Nat) Q, PL[i]? = some Q → DatAll big Q.items ((pileL P stop i).map (pcD blS xsS P.sh))
  k : ∀ (i : Nat) Q, PL[i]? = some Q → Q.k = (i : Int)
  objs : ∀ Q ∈ PL, (Q.p, accO Q.dx Q.items Q.n) ∈ big ∧ (Q.dx, iniD Q.hh Q.t0 (.int Q.k Q.tk) Q.e0) ∈ big
  cell : ∀ x ∈ big, ∀ v, x.2.data ≠ .cell v
  off : ∀ x ∈ big, x.1 ≠ 63
  t1 : ∃ ps, (121, tabObj ps) ∈ big
  t2 : ∃ ps, (128, tabObj ps) ∈ big
  t3 : ∃ ps, (163, tabObj ps) ∈ big
  gl : gv.length ≤ 400
  il : ∀ Q ∈ PL, Q.items.length ≤ 20
theorem law_out {P : LawP} {stop lam : Nat} {nB rest : List (Addr × Obj)} {plA gl : Addr} {h₀ h : Heap} {L : Addr} {T : Addr × Obj} (hst : stop ≤ 17)
   (W : WOut P (stop, lam, ⟨goneTo P.f P.kd (stop + 1), (List.range P.kinds.toNat).map (pileL P stop)⟩) nB plA gl rest) (N : News h₀ L h (T :: rest)) (h63 : (63, tabObj #[]) ∈ nB) :
   ∃ PL gv ep big, LO P stop PL gv big ∧ News h₀ L h (T :: (plA, LCg.lst (PL.map fun Q => Value.ref Q.p)) :: (gl, listOf gv.toArray ep) :: (nB ++ big)) := by
  refine hide9 fun C9 k9 => ?_
  obtain ⟨PL, gv, ep, tl, RT, rfl, hT, htl, hgv, hpl, hit, hks, hpw, hl20, hg400, hp20⟩ := W.ex
  obtain ⟨u1, u2, u3, rfl, hu1, hu2, hu3⟩ := hT.ex
  refine k9 ?_
  clear k9
  dsimp only at hgv hpl hit hl20 hg400 hp20
  have hsub : ∀ x ∈ flat PL ++ (tl.filter seqD ++ (u1 ++ (u2 ++ u3))), x ∈ flat PL ++ (tl ++ (u1 ++ (u2 ++ (u3 ++ nB)))) := by
    intro x hx
    simp only [List.mem_append, List.mem_filter] at hx ⊢
    rcases hx with h | h | h | h | h
    · exact .inl h
    · exact .inr (.inl h.1)
    · exact .inr (.inr (.inl h))
    · exact .inr (.inr (.inr (.inl h)))
    · exact .inr (.inr (.inr (.inr (.inl h))))
  have hR : ∀ x ∈ flat PL ++ (tl ++ (u1 ++ (u2 ++ (u3 ++ nB)))), x ∈ T :: (plA, LCg.lst (PL.map fun Q => Value.ref Q.p)) :: (gl, listOf gv.toArray ep) :: (flat PL ++ (tl ++ (u1 ++ (u2 ++ (u3 ++ nB))))) := fun x hx => .tail _ (.tail _ (.tail _ hx))
  have hnB : ∀ x ∈ nB, x ∈ flat PL ++ (tl ++ (u1 ++ (u2 ++ (u3 ++ nB)))) := fun x hx => by
    simp only [List.mem_append]; exact .inr (.inr (.inr (.inr (.inr hx))))
  have hk : ∀ (i : Nat) Q, PL[i]? = some Q → Q.k = (i : Int) ∧ i < P.kinds.toNat := by
    intro i Q hQ
    have h1 : (PL.map (·.k))[i]? = some Q.k := by rw [List.getElem?_map, hQ]; rfl
    rw [hks, List.getElem?_map] at h1
    obtain ⟨j, hj, e⟩ := Option.map_eq_some_iff.mp h1
    obtain ⟨hl, e2⟩ := List.getElem?_eq_some_iff.mp hj
    rw [List.length_range] at hl
    rw [List.getElem_range] at e2
    subst e2
    exact ⟨e.symm, hl⟩
  have tlm : ∀ x ∈ tl.filter seqD, x ∈ flat PL ++ (tl.filter seqD ++ (u1 ++ (u2 ++ u3))) := fun x hx => List.mem_append.mpr (.inr (List.mem_append.mpr (.inl hx)))
  have hpil : ∀ (i : Nat) Q, PL[i]? = some Q → DatAll tl Q.items ((pileL P stop i).map (pcD blS xsS P.sh)) := fun i Q hQ => by
    refine hit i Q (pileL P stop i) hQ ?_
    rw [List.getElem?_map, List.getElem?_range (hk i Q hQ).2]; rfl
  have mu : ∀ x, x ∈ u1 ∨ x ∈ u2 ∨ x ∈ u3 → x ∈ flat PL ++ (tl.filter seqD ++ (u1 ++ (u2 ++ u3))) := fun x hx => by
    simp only [List.mem_append]
    rcases hx with h | h | h
    · exact .inr (.inr (.inl h))
    · exact .inr (.inr (.inr (.inl h)))
    · exact .inr (.inr (.inr (.inr h)))
  refine ⟨PL, gv, ep, flat PL ++ (tl.filter seqD ++ (u1 ++ (u2 ++ u3))), ⟨DatAll.mono tlm (datAll_seq hgv), ?_, fun i Q hQ => DatAll.mono tlm (datAll_seq (hpil i Q hQ)), fun i Q hQ => (hk i Q hQ).1, ?_, ?_, ?_, ?_, ?_, ?_, ?_, ?_⟩, ?_⟩
  · have := congrArg List.length hks; simpa using this
  · intro Q hQ
    exact ⟨List.mem_append.mpr (.inl (mem_flat.mpr ⟨Q, hQ, .inl rfl⟩)), List.mem_append.mpr (.inl (mem_flat.mpr ⟨Q, hQ, .inr rfl⟩))⟩
  · intro x hx v e
    have tabs : ∀ {p pos q u}, TabSt p pos q u → x ∈ u → False := fun ht hm => by
      obtain ⟨vs, hv⟩ := tab_fields ht x hm
      rw [hv] at e; cases e
    simp only [List.mem_append] at hx
    rcases hx with h | h | h | h | h
    · obtain ⟨Q, hQ, rfl | rfl⟩ := mem_flat.mp h <;> cases e
    · obtain ⟨vs, n, hd⟩ := seqD_iff (List.mem_filter.mp h).2
      rw [hd] at e; cases e
    · exact tabs hu1 h
    · exact tabs hu2 h
    · exact tabs hu3 h
  · intro x hx
    have e63 : ∀ x ∈ [((63 : Addr), tabObj #[])], x ∈ T :: (plA, LCg.lst (PL.map fun Q => Value.ref Q.p)) :: (gl, listOf gv.toArray ep) :: (flat PL ++ (tl ++ (u1 ++ (u2 ++ (u3 ++ nB))))) := fun x hx => by
      rw [List.mem_singleton.mp hx]; exact hR _ (hnB _ h63)
    have m63 := e63 _ (.head _)
    have tabs : ∀ {p pos q u}, p ≠ 63 → TabSt p pos q u → (∀ y ∈ u, y ∈ flat PL ++ (tl ++ (u1 ++ (u2 ++ (u3 ++ nB))))) → x ∈ u → x.1 ≠ 63 := fun hp ht hs hm => tab_ne hp ht (.empty (pos := ⟨0, 0, 0, 0⟩) (qual := qLam)) N (fun y hy => hR y (hs y hy)) e63 x hm
    have noF : x ∈ flat PL ++ (tl ++ (u1 ++ (u2 ++ (u3 ++ nB)))) → (∀ vs, x.2.data ≠ .fields vs) → x.1 ≠ 63 := fun hm hd e => by
      obtain ⟨a, o⟩ := x
      have e' : a = 63 := e
      subst e'
      have := news_same N m63 (hR _ hm)
      subst this
      exact hd _ rfl
    have hx0 := hsub x hx
    simp only [List.mem_append] at hx
    rcases hx with h | h | h | h | h
    · refine noF hx0 fun vs e => ?_
      obtain ⟨Q, hQ, rfl | rfl⟩ := mem_flat.mp h <;> cases e
    · refine noF hx0 fun vs e => ?_
      obtain ⟨vs, n, hd⟩ := seqD_iff (List.mem_filter.mp h).2
      rw [hd] at e; cases e
    · exact tabs (by decide) hu1 (fun y hy => hsub y (mu y (.inl hy))) h
    · exact tabs (by decide) hu2 (fun y hy => hsub y (mu y (.inr (.inl hy)))) h
    · exact tabs (by decide) hu3 (fun y hy => hsub y (mu y (.inr (.inr hy)))) h
  · obtain ⟨ps, h, _⟩ := tab_in hu1; exact ⟨ps, mu _ (.inl h)⟩
  · obtain ⟨ps, h, _⟩ := tab_in hu2; exact ⟨ps, mu _ (.inr (.inl h))⟩
  · obtain ⟨ps, h, _⟩ := tab_in hu3; exact ⟨ps, mu _ (.inr (.inr h))⟩
  · rw [hgv.length, List.length_map]; exact hg400
  · intro Q hQ
    obtain ⟨i, hi⟩ := List.getElem?_of_mem hQ
    rw [(hpil i Q hi).length, List.length_map]
    have : (pileL P stop i).length ≤ stop := by
      unfold pileL
      exact Nat.le_trans (List.length_filter_le _ _) (by simp)
    omega
  · refine news_sub N fun x hx => ?_
    rcases List.mem_cons.mp hx with rfl | hx
    · exact .head _
    rcases List.mem_cons.mp hx with rfl | hx
    · exact .tail _ (.head _)
    rcases List.mem_cons.mp hx with rfl | hx
    · exact .tail _ (.tail _ (.head _))
    rcases List.mem_append.mp hx with hx | hx
    · exact hR _ (hnB _ hx)
    · exact hR _ (hsub _ hx)
end Mine
end

section
open PySem PySem.W PySem.Calls PyProof.Rows
set_option maxRecDepth 100000
namespace Mine
/-- a question that tells the order of two numbers' keys -/
structure CmpOk (k : Nat → Int) (n : Nat) (Inv : Shared → Prop) (cmp : Nat → Nat → (Bool → Shared → Prop) → Shared → Prop) : Prop where
  ask : ∀ i j C s, i < n → j < n → Inv s → (∀ s', Inv s' → C (decide (k i < k j)) s') → cmp i j C s
structure PM (n : Nat) (p : Array Nat) : Prop where
  perm : p.toList.Perm (List.range n)
theorem PM.sz {n p} (h : PM n p) : p.size = n := by have := h.perm.length_eq; simpa using this
theorem PM.lt {n p a} (h : PM n p) (ha : a < n) : p.getD a 0 < n := by
  have hs : a < p.size := by rw [h.sz]; exact ha
  have e : p.getD a 0 = p[a] := by simp [Array.getD, hs]
  rw [e]
  have : p[a] ∈ p.toList := by simp
  exact List.mem_range.mp (h.perm.mem_iff.mp this)
theorem PM.inj {n p a b} (h : PM n p) (ha : a < n) (hb : b < n) (e : p.getD a 0 = p.getD b 0) : a = b := by
  have hs : a < p.size := by rw [h.sz]; exact ha
  have hs' : b < p.size := by rw [h.sz]; exact hb
  have e1 : p.getD a 0 = p[a] := by simp [Array.getD, hs]
  have e2 : p.getD b 0 = p[b] := by simp [Array.getD, hs']
  rw [e1, e2] at e
  have nd : p.toList.Nodup := h.perm.nodup_iff.mpr List.nodup_range
  have := List.getElem_inj nd (i := a) (j := b) (h₀ := by simpa using hs) (h₁ := by simpa using hs')
  exact this.mp (by simpa using e)
section
variable {k : Nat → Int} {n : Nat} {Inv : Shared → Prop} {cmp : Nat → Nat → (Bool → Shared → Prop) → Shared → Prop} {p : Array Nat}
noncomputable def KInj (k : Nat → Int) (n : Nat) : Prop := ∀ i j, i < n → j < n → k i = k j → i = j
theorem key_ne (hk : KInj k n) (h : PM n p) {a b : Nat} (ha : a < n) (hb : b < n) (hab : a ≠ b) : k (p.getD a 0) ≠ k (p.getD b 0) := fun e => hab (h.inj ha hb (hk _ _ (h.lt ha) (h.lt hb) e))
noncomputable def Asc (k : Nat → Int) (p : Array Nat) (m : Nat) : Prop := ∀ a b, a < b → b < m → k (p.getD a 0) < k (p.getD b 0)
noncomputable def Desc (k : Nat → Int) (p : Array Nat) (m : Nat) : Prop := ∀ a b, a < b → b < m → k (p.getD b 0) < k (p.getD a 0)
theorem Asc.snoc {m : Nat} (h : Asc k p m) (h1 : k (p.getD (m - 1) 0) < k (p.getD m 0)) : Asc k p (m + 1) := by
  intro a b hab hb
  by_cases e : b < m
  · exact h a b hab e
  · obtain rfl : b = m := by omega
    by_cases e2 : a = b - 1
    · subst e2; exact h1
    · have := h a (b - 1) (by omega) (by omega); omega
theorem Desc.snoc {m : Nat} (h : Desc k p m) (h1 : k (p.getD m 0) < k (p.getD (m - 1) 0)) : Desc k p (m + 1) := by
  intro a b hab hb
  by_cases e : b < m
  · exact h a b hab e
  · obtain rfl : b = m := by omega
    by_cases e2 : a = b - 1
    · subst e2; exact h1
    · have := h a (b - 1) (by omega) (by omega); omega
theorem asc_wp (H : CmpOk k n Inv cmp) (hk : KInj k n) (hp : PM n p) {Q : Nat → Shared → Prop} : ∀ (f m : Nat) (s : Shared), Inv s → Asc k p m → 1 ≤ m → m + f ≤ n →
    (∀ m' s', Inv s' → m ≤ m' → m' ≤ m + f → Asc k p m' → (m' = m + f ∨ k (p.getD m' 0) < k (p.getD (m' - 1) 0)) → Q m' s') → (kas_asc p f m).kasWp cmp Q s
  | 0, m, s, hs, ha, h1, hle, hQ => hQ m s hs (Nat.le_refl _) (Nat.le_refl _) ha (.inl rfl)
  | f + 1, m, s, hs, ha, h1, hle, hQ => H.ask _ _ _ _ (hp.lt (by omega)) (hp.lt (by omega)) hs fun s' hs' => by
    show (if decide (k (p.getD m 0) < k (p.getD (m - 1) 0)) = true then KasT.ret m else kas_asc p f (m + 1)).kasWp cmp Q s'
    by_cases c : k (p.getD m 0) < k (p.getD (m - 1) 0)
    · rw [if_pos (decide_eq_true c)]
      exact hQ m s' hs' (Nat.le_refl _) (by omega) ha (.inr c)
    · rw [if_neg (by simpa using c)]
      have hne := key_ne hk hp (a := m) (b := m - 1) (by omega) (by omega) (by omega)
      refine asc_wp H hk hp f (m + 1) s' hs' (ha.snoc (by omega)) (by omega) (by omega) fun m' s'' i1 i2 i3 i4 i5 => hQ m' s'' i1 (by omega) (by omega) i4 ?_
      rcases i5 with h | h
      · exact .inl (by omega)
      · exact .inr h
theorem desc_wp (H : CmpOk k n Inv cmp) (hk : KInj k n) (hp : PM n p) {Q : Array Nat × Nat × Nat → Shared → Prop} : ∀ (f m : Nat) (s : Shared), Inv s → Desc k p m → 1 ≤ m → m + f ≤ n →
    (∀ m' s', Inv s' → m ≤ m' → m' ≤ m + f → Desc k p m' → Q (p, m', 0) s') → (kas_desc f p m 0).kasWp cmp Q s
  | 0, m, s, hs, ha, h1, hle, hQ => hQ m s hs (Nat.le_refl _) (Nat.le_refl _) ha
  | f + 1, m, s, hs, ha, h1, hle, hQ => H.ask _ _ _ _ (hp.lt (by omega)) (hp.lt (by omega)) hs fun s' hs' => by
    show (if decide (k (p.getD m 0) < k (p.getD (m - 1) 0)) = true then (if 0 > 0 then kas_desc f (kas_rev p (m - (0 + 1)) m) (m + 1) 0 else kas_desc f p (m + 1) 0) else .ask (p.getD (m - 1) 0) (p.getD m 0) fun d => if d = true then .ret (p, m, 0) else kas_desc f p (m + 1) (0 + 1)).kasWp cmp Q s'
    by_cases c : k (p.getD m 0) < k (p.getD (m - 1) 0)
    · rw [if_pos (decide_eq_true c), if_neg (Nat.lt_irrefl 0)]
      exact desc_wp H hk hp f (m + 1) s' hs' (ha.snoc c) (by omega) (by omega) fun m' s'' i1 i2 i3 i4 => hQ m' s'' i1 (by omega) (by omega) i4
    · rw [if_neg (by simpa using c)]
      have hne := key_ne hk hp (a := m) (b := m - 1) (by omega) (by omega) (by omega)
      refine H.ask _ _ _ _ (hp.lt (by omega)) (hp.lt (by omega)) hs' fun s'' hs'' => ?_
      show (if decide (k (p.getD (m - 1) 0) < k (p.getD m 0)) = true then KasT.ret (p, m, 0) else kas_desc f p (m + 1) (0 + 1)).kasWp cmp Q s''
      rw [if_pos (decide_eq_true (by omega))]
      exact hQ m s'' hs'' (Nat.le_refl _) (by omega) ha
theorem rev_get {m : Nat} (hm : m ≤ p.size) (a : Nat) : (kas_rev p 0 m).getD a 0 = if a < m then p.getD (m - 1 - a) 0 else p.getD a 0 := by
  have e := getElem?_mirror_all (i := 0) hm a
  unfold kas_rev
  rw [Array.getD_eq_getD_getElem?, Array.getD_eq_getD_getElem?, Array.getD_eq_getD_getElem?, e]
  by_cases h : a < m
  · rw [if_pos ⟨Nat.zero_le _, h⟩, if_pos h, Nat.zero_add]
  · rw [if_neg (fun q => h q.2), if_neg h]
theorem rev_pm {m : Nat} (hp : PM n p) : PM n (kas_rev p 0 m) := ⟨((mirror_perm p 0 m _).toList).trans hp.perm⟩
theorem tail3_wp (H : CmpOk k n Inv cmp) (hk : KInj k n) (hp : PM n p) {Q : Nat × Array Nat → Shared → Prop} {m : Nat} {s : Shared} (hs : Inv s) (hd : Desc k p m) (h1 : 1 ≤ m) (hm : m ≤ n)
    (hQ : ∀ m' p' s', Inv s' → PM n p' → 1 ≤ m' → m' ≤ n → Asc k p' m' → Q (m', p') s') : (kas_tail3 m n p).kasWp cmp Q s := by
  unfold kas_tail3
  rw [KasT.kasWp_bind]
  have hq := rev_pm (m := m) hp
  refine asc_wp H hk hq (n - m) m s hs ?_ h1 (by omega) fun m' s' i1 i2 i3 i4 _ => hQ m' _ s' i1 hq (by omega) (by omega) i4
  intro a b hab hb
  rw [rev_get (by rw [hp.sz]; exact hm), rev_get (by rw [hp.sz]; exact hm), if_pos (by omega), if_pos hb]
  exact hd _ _ (by omega) (by omega)
theorem descPart_wp (H : CmpOk k n Inv cmp) (hk : KInj k n) (hp : PM n p) {Q : Nat × Array Nat → Shared → Prop} {s : Shared} (hs : Inv s) (h2 : 2 ≤ n) (hd : k (p.getD 1 0) < k (p.getD 0 0))
    (hQ : ∀ m' p' s', Inv s' → PM n p' → 1 ≤ m' → m' ≤ n → Asc k p' m' → Q (m', p') s') : (kas_descPart 1 n p).kasWp cmp Q s := by
  unfold kas_descPart
  rw [KasT.kasWp_bind]
  refine desc_wp H hk hp (n - (1 + 1)) (1 + 1) s hs ?_ (by omega) (by omega) fun m' s' i1 i2 i3 i4 => ?_
  · intro a b hab hb
    obtain rfl : a = 0 := by omega
    obtain rfl : b = 1 := by omega
    exact hd
  · show (if 0 > 0 then kas_tail3 m' n (kas_rev p (m' - (0 + 1)) m') else kas_tail3 m' n p).kasWp cmp Q s'
    rw [if_neg (Nat.lt_irrefl 0)]
    exact tail3_wp H hk hp i1 i4 (by omega) (by omega) hQ
theorem count_wp (H : CmpOk k n Inv cmp) (hk : KInj k n) (hp : PM n p) {Q : Nat × Array Nat → Shared → Prop} {s : Shared} (hs : Inv s) (h2 : 2 ≤ n)
    (hQ : ∀ m' p' s', Inv s' → PM n p' → 1 ≤ m' → m' ≤ n → Asc k p' m' → Q (m', p') s') : (kas_count n p).kasWp cmp Q s := by
  unfold kas_count
  rw [KasT.kasWp_bind]
  refine asc_wp H hk hp (n - 1) 1 s hs (fun a b hab hb => by omega) (Nat.le_refl _) (by omega) fun m s' i1 i2 i3 i4 i5 => ?_
  show (if (m == n) = true then KasT.ret (m, p) else if m > 1 then KasT.ask (p.getD 0 0) (p.getD (m - 1) 0) fun c => if c = true then KasT.ret (m, p) else kas_descPart m n (kas_rev p 0 m) else kas_descPart m n p).kasWp cmp Q s'
  by_cases e : m = n
  · rw [if_pos (by simpa using e)]
    exact hQ m p s' i1 hp i2 (by omega) i4
  · rw [if_neg (by simpa using e)]
    by_cases g : m > 1
    · rw [if_pos g]
      refine H.ask _ _ _ _ (hp.lt (by omega)) (hp.lt (by omega)) i1 fun s'' hs'' => ?_
      show (if decide (k (p.getD 0 0) < k (p.getD (m - 1) 0)) = true then KasT.ret (m, p) else kas_descPart m n (kas_rev p 0 m)).kasWp cmp Q s''
      rw [if_pos (decide_eq_true (i4 0 (m - 1) (by omega) (by omega)))]
      exact hQ m p s'' hs'' hp i2 (by omega) i4
    · rw [if_neg g]
      obtain rfl : m = 1 := by omega
      refine descPart_wp H hk hp i1 h2 ?_ hQ
      rcases i5 with h | h
      · omega
      · exact h
theorem place_wp (H : CmpOk k n Inv cmp) (hp : PM n p) (hk : KInj k n) {K : Nat} (hK : K < n) {Q : Nat → Shared → Prop} : ∀ (f l r : Nat) (s : Shared), Inv s → l ≤ r → r ≤ K → r - l ≤ f → (∀ i, i < l → k (p.getD i 0) < k (p.getD K 0)) → (∀ i, r ≤ i → i < K → k (p.getD K 0) < k (p.getD i 0)) → Asc k p K →
    (∀ l' s', Inv s' → l' ≤ K → (∀ i, i < l' → k (p.getD i 0) < k (p.getD K 0)) → (∀ i, l' ≤ i → i < K → k (p.getD K 0) < k (p.getD i 0)) → Q l' s') → (kas_place p K f l r).kasWp cmp Q s
  | 0, l, r, s, hs, hlr, hr, hf, h1, h2, ha, hQ => by
    obtain rfl : l = r := by omega
    exact hQ l s hs hr h1 h2
  | f + 1, l, r, s, hs, hlr, hr, hf, h1, h2, ha, hQ => by
    unfold kas_place
    by_cases e : l ≥ r
    · rw [if_pos e]
      obtain rfl : l = r := by omega
      exact hQ l s hs hr h1 h2
    · rw [if_neg e]
      have hm : (l + r) / 2 < r ∧ l ≤ (l + r) / 2 := by omega
      refine H.ask _ _ _ _ (hp.lt hK) (hp.lt (by omega)) hs fun s' hs' => ?_
      show (if decide (k (p.getD K 0) < k (p.getD ((l + r) / 2) 0)) = true then kas_place p K f l ((l + r) / 2) else kas_place p K f ((l + r) / 2 + 1) r).kasWp cmp Q s'
      by_cases c : k (p.getD K 0) < k (p.getD ((l + r) / 2) 0)
      · rw [if_pos (decide_eq_true c)]
        refine place_wp H hp hk hK f l ((l + r) / 2) s' hs' hm.2 (by omega) (by omega) h1 (fun i hi hiK => ?_) ha hQ
        by_cases e3 : i = (l + r) / 2
        · subst e3; exact c
        · have := ha ((l + r) / 2) i (by omega) hiK; omega
      · rw [if_neg (by simpa using c)]
        have hne := key_ne hk hp (a := K) (b := (l + r) / 2) hK (by omega) (by omega)
        refine place_wp H hp hk hK f ((l + r) / 2 + 1) r s' hs' (by omega) hr (by omega) (fun i hi => ?_) h2 ha hQ
        by_cases e3 : i = (l + r) / 2
        · subst e3; omega
        · have := ha i ((l + r) / 2) (by omega) (by omega); omega
theorem bubble_get {src d : Nat} (hs : src < p.size) (hd : d ≤ src) (a : Nat) : (bubble p src d).getD a 0 = if a = src - d then p.getD src 0 else if src - d < a ∧ a ≤ src then p.getD (a - 1) 0 else p.getD a 0 := by
  have e := getElem?_bubble hs d hd a
  rw [Array.getD_eq_getD_getElem?, Array.getD_eq_getD_getElem?, Array.getD_eq_getD_getElem?, Array.getD_eq_getD_getElem?, e]
  split
  · rfl
  · split <;> rfl
theorem bin_wp (H : CmpOk k n Inv cmp) (hk : KInj k n) {Q : Array Nat → Shared → Prop} : ∀ (f : Nat) (p : Array Nat) (K : Nat) (s : Shared), Inv s → PM n p → Asc k p K → K + f = n → (∀ p' s', Inv s' → PM n p' → Asc k p' n → Q p' s') → (kas_bin f p K).kasWp cmp Q s
  | 0, p, K, s, hs, hp, ha, hf, hQ => hQ p s hs hp (by rw [← hf]; exact ha)
  | f + 1, p, K, s, hs, hp, ha, hf, hQ => by
    show ((kas_place p K K 0 K).bind fun l => kas_bin f (bubble p K (K - l)) (K + 1)).kasWp cmp Q s
    rw [KasT.kasWp_bind]
    refine place_wp H hp hk (by omega) K 0 K s hs (Nat.zero_le _) (Nat.le_refl _) (by omega) (fun i hi => absurd hi (Nat.not_lt_zero _)) (fun i h1 h2 => by omega) ha fun l s' i1 i2 i3 i4 => ?_
    refine bin_wp H hk f _ (K + 1) s' i1 ⟨((bubble_perm p K (K - l)).toList).trans hp.perm⟩ ?_ (by omega) hQ
    have hsz : K < p.size := by rw [hp.sz]; omega
    intro a b hab hb
    rw [bubble_get hsz (by omega), bubble_get hsz (by omega)]
    have el : K - (K - l) = l := by omega
    rw [el]
    by_cases ea : a = l
    · subst ea
      rw [if_pos rfl, if_neg (by omega), if_pos (by omega)]
      exact i4 (b - 1) (by omega) (by omega)
    · rw [if_neg ea]
      by_cases eb : b = l
      · subst eb
        rw [if_pos rfl, if_neg (by omega)]
        exact i3 a (by omega)
      · rw [if_neg eb]
        by_cases c1 : l < a ∧ a ≤ K
        · rw [if_pos c1, if_pos (by omega)]
          exact ha (a - 1) (b - 1) (by omega) (by omega)
        · rw [if_neg c1]
          by_cases c2 : l < b ∧ b ≤ K
          · rw [if_pos c2]
            by_cases c3 : a = b - 1
            · omega
            · exact ha a (b - 1) (by omega) (by omega)
          · rw [if_neg c2]
            exact ha a b hab (by omega)
theorem sort_wp (H : CmpOk k n Inv cmp) (hk : KInj k n) {Q : Array Nat → Shared → Prop} {s : Shared} (hs : Inv s) (h2 : 2 ≤ n) (hQ : ∀ p' s', Inv s' → PM n p' → Asc k p' n → Q p' s') : (kas_sort n).kasWp cmp Q s := by
  unfold kas_sort
  rw [KasT.kasWp_bind]
  refine count_wp H hk ⟨List.Perm.refl _⟩ hs h2 fun m p' s' i1 i2 i3 i4 i5 => ?_
  show (if m < n then kas_bin (n - max m 1) p' (max m 1) else KasT.ret p').kasWp cmp Q s'
  have em : max m 1 = m := Nat.max_eq_left i3
  rw [em]
  by_cases c : m < n
  · rw [if_pos c]
    exact bin_wp H hk (n - m) p' m s' i1 i2 i5 (by omega) hQ
  · rw [if_neg c]
    obtain rfl : m = n := by omega
    exact hQ p' s' i1 i2 i5
end
end Mine
end

section
open PySem PySem.W PySem.Calls PyProof.Rows
set_option maxRecDepth 100000
set_option maxHeartbeats 4000000
namespace Mine
section
variable {prog : Program} {w : World} {A : Around} {E : Value → Shared → Prop} {s : Shared} {h₀ : Heap} {L a : Addr} {m : Str → Option Value} {news : List (Addr × Obj)} {vs : List Value}
/-- a list of no item, or of one, sorted in its place -/
theorem short_sort {n : Nat} {P : PySem.Fin → Shared → Prop} (ho : s.heap.get? a = some (seqObj "list" vs.toArray n)) (h1 : vs.length < 2)
    (h : ∀ h' c, (∀ b o, b ≠ a → s.heap.get? b = some o → h'.get? b = some o) → h'.get? a = some (seqObj "list" vs.toArray c) → P (.done (.ret .none)) { s with heap := h' }) :
    wpAny (model prog w) A (Builtin.«list.sort» ⟨[.ref a], []⟩) P E s := by
  have ha : a < s.heap.objs.size := Heap.lt_size ho
  have hz : vs.toArray.size < 2 := by rw [List.size_toArray]; exact h1
  have hzl : vs.toArray.size ≤ sizeLine := by rw [sizeLine_eq]; omega
  obtain ⟨g1, hg1⟩ : ∃ g, g = s.heap.update a (Obj.mapSeq fun _ => (#[] : Array Value)) := ⟨_, rfl⟩
  obtain ⟨e1, ho1⟩ : ∃ e1, g1.get? a = some (seqObj "list" #[] e1) := ⟨_, by rw [hg1]; exact get?_update_seq ho fun _ => #[]⟩
  have sz1 : g1.objs.size = s.heap.objs.size := by rw [hg1, Heap.size_update]
  obtain ⟨g2, hg2⟩ : ∃ g, g = (g1.push (seqObj "tuple" vs.toArray 0)).push (seqObj "list" #[] 0) := ⟨_, rfl⟩
  have ho2 : g2.get? a = some (seqObj "list" #[] e1) := by rw [hg2]; exact Heap.get?_push_of_some _ (Heap.get?_push_of_some _ ho1)
  rw [list_sort_plain]
  refine wpAny_bind (listItems_at ho rfl ?_)
  refine wpAny_bind (listUpdate_at ho rfl ?_ hzl (Nat.zero_le _))
  rw [← hg1]
  refine wpAny_bind (seqEpoch_at (s := { s with heap := g1 }) ho1 rfl ?_)
  refine wpAny_bind (wpAny_newTuple ?_ hzl)
  refine wpAny_bind (wpAny_newList ?_ (Nat.zero_le _))
  refine wpAny_holding ?_
  show wpAny (model prog w) A _ P E { s with heap := (g1.push (seqObj "tuple" vs.toArray 0)).push (seqObj "list" #[] 0) }
  rw [← hg2]
  dsimp only
  rw [if_pos hz, if_pos hz]
  refine wpAny_bind (wpAny_pure ?_)
  rw [StateT.run_pure]
  refine wpAny_bind (wpAny_pure ?_)
  dsimp only
  refine wpAny_bind (seqEpoch_at (s := { s with heap := g2 }) ho2 rfl ?_)
  have ez : (vs.toArray.zip vs.toArray).map (·.2) = vs.toArray := by
    apply Array.ext'
    simp only [Array.toList_map, Array.toList_zip]
    rw [List.map_snd_zip (Nat.le_refl _)]
  refine wpAny_bind (listUpdate_at (s := { s with heap := g2 }) ho2 rfl ?_ (Nat.zero_le _) (by
    show ((vs.toArray.zip vs.toArray).map (·.2)).size ≤ _
    rw [ez]; exact Nat.le_succ_of_le hzl))
  simp only [bne_self_eq_false, Bool.false_eq_true, if_false]
  refine wpAny_pure ?_
  have s2 := Heap.SameBut.update g2 a (Obj.mapSeq fun _ => (vs.toArray.zip vs.toArray).map (·.2))
  have e2 := get?_update_seq ho2 fun _ => (vs.toArray.zip vs.toArray).map (·.2)
  refine h _ _ (fun b o hb e => ?_) (e2.trans (by rw [ez]))
  refine s2.extBut b o hb ?_
  rw [hg2]
  refine Heap.get?_push_of_some _ (Heap.get?_push_of_some _ ?_)
  rw [hg1, Heap.get?_update_ne _ _ _ _ hb]
  exact e
theorem short_sorted {l : Addr} {Q : Value → Shared → Prop} (F : Fr h₀ L s.heap m) (N : News h₀ L s.heap news) (hl : s.heap.IsList l vs.toArray) (h1 : vs.length < 2)
    (h : ∀ D c h', Fr h₀ L h' m → News h₀ L h' ((D, listOf vs.toArray c) :: news) → (∀ q ∈ news, q.1 < D) → Q (.ref D) { s with heap := h' }) :
    wpAny (model prog w) A (call (.builtin "sorted") [.ref l]) Q E s := by
  have hzl : vs.toArray.size ≤ sizeLine := by rw [sizeLine_eq, List.size_toArray]; omega
  obtain ⟨g1, hg1⟩ : ∃ g, g = (s.heap.push (seqObj "list" #[] 0)).update s.heap.objs.size (Obj.mapSeq (· ++ vs.toArray)) := ⟨_, rfl⟩
  have hsz : g1.objs.size = s.heap.objs.size + 1 := by rw [hg1, Heap.size_update, size_push']
  obtain ⟨g2, hg2⟩ : ∃ g, g = g1.push (seqObj "list" vs.toArray 0) := ⟨_, rfl⟩
  have ho : g2.get? (s.heap.objs.size + 1) = some (seqObj "list" vs.toArray 0) := by rw [hg2, ← hsz]; exact Heap.get?_push_size _ rfl
  have keep : ∀ b o, s.heap.get? b = some o → g2.get? b = some o := fun b o q => by
    have hlt : b < s.heap.objs.size := Heap.lt_size q
    rw [hg2]
    refine Heap.get?_push_of_some _ ?_
    rw [hg1, Heap.get?_update_ne _ _ _ _ (Nat.ne_of_lt hlt)]
    exact Heap.get?_push_of_some _ q
  refine call_function_entry kind_sorted plain_sorted entry_sorted (args_sorted1 _) ?_
  unfold Builtin.«sorted»
  refine wpAny_bind (m := checkCount "sorted" 1 1 _) (wpAny_pure ?_)
  refine wpAny_bind (collect_list hl ?_ (by rw [sizeLine_eq]; omega))
  refine wpAny_bind (wpAny_newList ?_ hzl)
  show wpAny _ _ _ _ _ { s with heap := ((s.heap.push (seqObj "list" #[] 0)).update s.heap.objs.size (Obj.mapSeq (· ++ vs.toArray))).push (seqObj "list" vs.toArray 0) }
  rw [← hg1, hsz, ← hg2]
  refine wpAny_bind (wpAny_holding (wpAny_call_entry slot_list_sort ⟨_, ho, rfl⟩ entry_list_sort (short_sort (s := { s with heap := g2 }) ho h1 fun h' c hk hD => ⟨_, rfl, ?_⟩) (args_list_sort _)))
  refine wpAny_pure ⟨_, rfl, ?_⟩
  have hL : L < s.heap.objs.size := F.ns.lt
  have k' : ∀ b o, s.heap.get? b = some o → h'.get? b = some o := fun b o q => hk b o (Nat.ne_of_lt (Nat.lt_succ_of_lt (Heap.lt_size q))) (keep b o q)
  refine h _ c h' (F.kept k') (fun p hp => ?_) (fun q hq => Nat.lt_succ_of_lt (Heap.lt_size (N q hq).1))
  rcases List.mem_cons.mp hp with rfl | hp
  · exact ⟨hD, Nat.ne_of_gt (Nat.lt_succ_of_lt hL), Heap.get?_none_of_le (Nat.le_trans F.above (Nat.le_succ_of_le (Nat.le_of_lt hL)))⟩
  · exact ⟨k' _ _ (N p hp).1, (N p hp).2⟩
end
noncomputable def pairD (x : Nat × Nat) : Dat := .tuple [.int (x.1 : Int), .int (x.2 : Int)]
noncomputable def keyP (x : Nat × Nat) : Int := (x.1 : Int) * 100 + (x.2 : Int)
theorem keyP_lt {x y : Nat × Nat} (hx : x.2 < 100) (hy : y.2 < 100) : keyP x < keyP y ↔ lex x y := by
  unfold keyP lex; omega
section
variable {prog : Program} {w : World} {A : Around} {E : Value → Shared → Prop} {s : Shared} {h₀ : Heap} {L : Addr} {m : Str → Option Value} {news : List (Addr × Obj)} {vs : List Value}
theorem datAll_at {n : List (Addr × Obj)} {vs : List Value} {xs : List (Nat × Nat)} (h : DatAll n vs (xs.map pairD)) {i : Nat} (hi : i < xs.length) : ∃ T tq tp k, vs.getD i .none = .ref T ∧ vs[i]? = some (.ref T) ∧ (T, ({ cls := .type "tuple", data := .seq #[.int (xs[i].1 : Int) tq, .int (xs[i].2 : Int) tp] k } : Obj)) ∈ n := by
  obtain ⟨v, hv, hd⟩ := h.get (k := i) (by rw [List.length_map]; exact hi)
  rw [List.getElem_map] at hd
  refine hide9 fun C9 k9 => ?_
  obtain ⟨T, k, tq, tp, e1, hm⟩ := inv_ints hd
  refine k9 ?_
  clear k9
  rw [e1] at hv
  exact ⟨T, _, _, k, by rw [List.getD_eq_getElem?_getD, hv]; rfl, hv, hm⟩
/-- pairs of numbers sorted -/
theorem sorted_pairs {l : Addr} {n : Nat} {xs : List (Nat × Nat)} {Q : Value → Shared → Prop} (F : Fr h₀ L s.heap m) (N : News h₀ L s.heap news) {tl : List (Addr × Obj)} (hm : (l, listOf vs.toArray n) ∈ news) (htl : ∀ x ∈ tl, x ∈ news) (hd : DatAll tl vs (xs.map pairD)) (hnd : xs.Nodup) (hb : ∀ x ∈ xs, x.2 < 100) (h64 : xs.length < 64)
    (h : ∀ D c h' tk (ws : List Value) (ys : List (Nat × Nat)), Fr h₀ L h' m → News h₀ L h' ((D, listOf ws.toArray c) :: news) → (∀ q ∈ news, q.1 < D) → DatAll tl ws (ys.map pairD) → ys.Perm xs → ys.Pairwise lex → Q (.ref D) { s with heap := h', toks := tk }) :
    wpAny (model prog w) A (call (.builtin "sorted") [.ref l]) Q E s := by
  have hlen : vs.length = xs.length := by have := hd.length; simpa using this
  have hl : s.heap.IsList l vs.toArray := ⟨_, (N _ hm).1, rfl, n, rfl⟩
  by_cases h2 : vs.length < 2
  · refine short_sorted F N hl h2 fun D c h' F' N' lt => h D c h' s.toks vs xs F' N' lt hd (List.Perm.refl _) ?_
    match xs, hlen with
    | [], _ => exact .nil
    | [x], _ => exact List.pairwise_singleton _ _
    | _ :: _ :: _, e => simp at e; omega
  · refine kat_sorted F N hl (by omega) (by omega) fun D e1 h' F' N' lt => ?_
    have at9 : ∀ {h2 : Heap}, News h₀ L h2 ((D, seqObj "list" #[] e1) :: news) → ∀ i, i < xs.length → ∃ (hi : i < xs.length) (T : Addr) (tq tp : Tok) (k : Nat), vs.getD i .none = .ref T ∧ vs[i]? = some (.ref T) ∧ h2.get? T = some ({ cls := .type "tuple", data := .seq #[.int (xs[i].1 : Int) tq, .int (xs[i].2 : Int) tp] k } : Obj) := by
      intro h2 N2 i hi
      refine hide9 fun C9 k9 => ?_
      obtain ⟨T, tq, tp, k, e1, e2, e3⟩ := datAll_at hd hi
      refine k9 ?_
      clear k9
      exact ⟨hi, T, tq, tp, k, e1, e2, (N2 _ (.tail _ (htl _ e3))).1⟩
    obtain ⟨fs, hfs, hfI⟩ : ∃ fs, KatTups h' vs fs ∧ (∀ v ∈ fs, ∃ i t, v = .int i t) ∧ fs.length = vs.length := by
      have key : ∀ (vs : List Value) (xs : List (Nat × Nat)), DatAll tl vs (xs.map pairD) → ∃ fs, KatTups h' vs fs ∧ (∀ v ∈ fs, ∃ i t, v = .int i t) ∧ fs.length = vs.length := by
        intro vs
        induction vs with
        | nil => intro xs _; exact ⟨[], KatTups.nil, fun _ hv => (nomatch hv), rfl⟩
        | cons v vs ih =>
          intro xs hx
          match xs, hx with
          | x :: xs, hx =>
            obtain ⟨T, tq, tp, k, _, e2, e3⟩ := datAll_at hx (i := 0) (Nat.succ_pos _)
            obtain rfl : v = .ref T := Option.some.inj e2
            cases hx with
            | cons _ hr =>
              obtain ⟨fs, f1, f2, f3⟩ := ih xs hr
              refine ⟨.int (x.1 : Int) tq :: fs, KatTups.cons (N' _ (.tail _ (htl _ e3))).1 rfl rfl rfl f1, fun v hv => ?_, by simp [f3]⟩
              rcases List.mem_cons.mp hv with rfl | hv
              · exact ⟨_, _, rfl⟩
              · exact f2 v hv
      exact key vs xs hd
    refine kat_kind (s := { s with heap := h' }) hfs (by rw [hfI.2]; omega) (T := .type "int") (fun v hv => ?_) (by decide) ?_
    · obtain ⟨i, t, rfl⟩ := hfI.1 v hv
      exact .now
    · rw [show (Value.type "int" != Value.type "tuple") = true by decide]
      rw [hlen]
      refine sort_wp (n := xs.length) (k := fun i => keyP (xs.getD i (0, 0))) (Inv := fun s' => ∃ tk, s' = { s with heap := h', toks := tk }) ⟨?_⟩ ?_ ⟨s.toks, rfl⟩ (by omega) ?_
      · rintro i j C s' hi hj ⟨tk, rfl⟩ hC
        refine hide9 fun C9 k9 => ?_
        obtain ⟨hi', T, tq, tp, k, e1, e2, e3⟩ := at9 N' i hi
        obtain ⟨hj', T', tq', tp', k', e1', e2', e3'⟩ := at9 N' j hj
        refine k9 ?_
        clear k9
        unfold kas_ask
        rw [e1, e1']
        refine kat_lt (s := { s with heap := h', toks := tk }) e3 rfl e3' rfl ?_
        show KatLex prog w A.in1.in1 true _ C [(Value.int (xs[i].1 : Int) tq, Value.int (xs[j].1 : Int) tq'), (Value.int (xs[i].2 : Int) tp, Value.int (xs[j].2 : Int) tp')] 0 _
        have gi : xs.getD i (0, 0) = xs[i] := by rw [List.getD_eq_getElem?_getD, List.getElem?_eq_getElem hi']; rfl
        have gj : xs.getD j (0, 0) = xs[j] := by rw [List.getD_eq_getElem?_getD, List.getElem?_eq_getElem hj']; rfl
        have bi := hb _ (List.getElem_mem hi')
        have bj := hb _ (List.getElem_mem hj')
        have hC' := hC { s with heap := h', toks := tk } ⟨tk, rfl⟩
        rw [gi, gj] at hC'
        unfold keyP at hC'
        refine kat_cons (wpAny_eqBool_int ?_)
        by_cases q1 : (xs[i].1 : Int) = (xs[j].1 : Int)
        · rw [beq_iff_eq.mpr q1]
          refine kat_yes (kat_cons (wpAny_eqBool_int ?_))
          by_cases q2 : (xs[i].2 : Int) = (xs[j].2 : Int)
          · rw [beq_iff_eq.mpr q2]
            refine kat_yes (kat_nil ?_)
            have : decide (((#[Value.int (xs[i].1 : Int) tq, Value.int (xs[i].2 : Int) tp] : Array Value)).size < (#[Value.int (xs[j].1 : Int) tq', Value.int (xs[j].2 : Int) tp'] : Array Value).size) = decide ((xs[i].1 : Int) * 100 + (xs[i].2 : Int) < (xs[j].1 : Int) * 100 + (xs[j].2 : Int)) := by
              rw [decide_eq_false (by simp), decide_eq_false (by omega)]
            rw [this]; exact hC'
          · rw [beq_eq_false_iff_ne.mpr q2]
            refine kat_no (kat_one _ _ (PyProof.Rows.lt_int ?_))
            have : decide ((xs[i].2 : Int) < (xs[j].2 : Int)) = decide ((xs[i].1 : Int) * 100 + (xs[i].2 : Int) < (xs[j].1 : Int) * 100 + (xs[j].2 : Int)) := decide_eq_decide.mpr (by omega)
            show C _ _
            rw [this]; exact hC'
        · rw [beq_eq_false_iff_ne.mpr q1]
          refine kat_no (oneLt_int ?_)
          have : decide ((xs[i].1 : Int) < (xs[j].1 : Int)) = decide ((xs[i].1 : Int) * 100 + (xs[i].2 : Int) < (xs[j].1 : Int) * 100 + (xs[j].2 : Int)) := decide_eq_decide.mpr (by omega)
          rw [this]; exact hC'
      · intro i j hi hj e
        have gi : xs.getD i (0, 0) = xs[i] := by rw [List.getD_eq_getElem?_getD, List.getElem?_eq_getElem hi]; rfl
        have gj : xs.getD j (0, 0) = xs[j] := by rw [List.getD_eq_getElem?_getD, List.getElem?_eq_getElem hj]; rfl
        dsimp only at e
        rw [gi, gj] at e
        have bi := hb _ (List.getElem_mem hi)
        have bj := hb _ (List.getElem_mem hj)
        unfold keyP at e
        have : xs[i] = xs[j] := Prod.ext (by omega) (by omega)
        exact (List.getElem_inj hnd).mp this
      · rintro p s' ⟨tk, rfl⟩ hp ha
        have hpl : p.toList.length = xs.length := by simpa using hp.sz
        have pm : ∀ i ∈ p.toList, i < xs.length := fun i hi => List.mem_range.mp (hp.perm.mem_iff.mp hi)
        refine KasFin.intro F' N' (.head fun q hq => Nat.ne_of_lt (lt q hq)) fun h2 c F2 N2 => ?_
        refine h D c h2 tk (p.toList.map fun i => vs.getD i Value.none) (p.toList.map fun i => xs.getD i (0, 0)) F2 N2 lt ?_ ?_ ?_
        · have key : ∀ l : List Nat, (∀ i ∈ l, i < xs.length) → DatAll tl (l.map fun i => vs.getD i Value.none) ((l.map fun i => xs.getD i (0, 0)).map pairD) := by
            intro l
            induction l with
            | nil => intro _; exact .nil
            | cons i l ih =>
              intro hl
              have hi := hl i (.head _)
              obtain ⟨v, hv, hdv⟩ := hd.get (k := i) (by rw [List.length_map]; exact hi)
              refine .cons ?_ (ih fun j hj => hl j (.tail _ hj))
              have g1 : vs.getD i Value.none = v := by rw [List.getD_eq_getElem?_getD, hv]; rfl
              have g2 : xs.getD i (0, 0) = xs[i] := by rw [List.getD_eq_getElem?_getD, List.getElem?_eq_getElem hi]; rfl
              show DatIn tl (vs.getD i Value.none) (pairD (xs.getD i (0, 0)))
              rw [g1, g2]
              rw [List.getElem_map] at hdv
              exact hdv
          exact key _ pm
        · have e : (List.range xs.length).map (fun i => xs.getD i (0, 0)) = xs := by
            apply List.ext_getElem
            · simp
            · intro i h1 h2
              rw [List.getElem_map, List.getElem_range, List.getD_eq_getElem?_getD, List.getElem?_eq_getElem h2]; rfl
          have := hp.perm.map (fun i => xs.getD i (0, 0))
          rw [e] at this
          exact this
        · rw [List.pairwise_map, List.pairwise_iff_getElem]
          intro i j hi hj hij
          have g := ha i j hij (by omega)
          have hi' : i < p.size := by simpa using hi
          have hj' : j < p.size := by simpa using hj
          have e1 : p.getD i 0 = p.toList[i] := by simp [Array.getD, hi']
          have e2 : p.getD j 0 = p.toList[j] := by simp [Array.getD, hj']
          rw [e1, e2] at g
          have q1 := pm _ (List.getElem_mem hi)
          have q2 := pm _ (List.getElem_mem hj)
          refine (keyP_lt ?_ ?_).mp g
          · rw [List.getD_eq_getElem?_getD, List.getElem?_eq_getElem q1]; exact hb _ (List.getElem_mem q1)
          · rw [List.getD_eq_getElem?_getD, List.getElem?_eq_getElem q2]; exact hb _ (List.getElem_mem q2)
end
end Mine
end

section
open PySem PySem.W PySem.Calls PyProof.Rows PyProof.Rows.LCg PyProof.Rows.LCt
set_option maxRecDepth 100000
namespace Mine
/-- the ledger grows by what bears the data so far -/
structure DJ (Pr : Addr × Obj → Prop) (news : List (Addr × Obj)) (ds : List Dat) (ys : List Value) (nw : List (Addr × Obj)) : Prop where
  ex : ∃ tls, nw = tls ++ news ∧ (∀ x ∈ tls, Pr x) ∧ DatAll tls ys ds
theorem dj_nil {Pr : Addr × Obj → Prop} {news : List (Addr × Obj)} : DJ Pr news [] [] news := ⟨⟨[], rfl, fun _ h => (nomatch h), .nil⟩⟩
noncomputable def TupP (x : Addr × Obj) : Prop := x.2.cls = .type "tuple" ∧ ∃ vs n, x.2.data = .seq vs n
theorem ne_cls {h₀ h : Heap} {L a b : Addr} {o o' : Obj} {R : List (Addr × Obj)} (N : News h₀ L h R) (hx : (a, o) ∈ R) (hy : (b, o') ∈ R) (hc : o.cls ≠ o'.cls) : a ≠ b := fun e => by
  subst e
  have := news_same N hx hy
  subst this
  exact hc rfl
theorem ne_data {h₀ h : Heap} {L a b : Addr} {o o' : Obj} {R : List (Addr × Obj)} (N : News h₀ L h R) (hx : (a, o) ∈ R) (hy : (b, o') ∈ R) (hc : o.data ≠ o'.data) : a ≠ b := fun e => by
  subst e
  have := news_same N hx hy
  subst this
  exact hc rfl
section
variable {prog : Program} {w : World} {A : Around} {h₀ : Heap} {L : Addr} {m : Str → Option Value} {env : Env} {s₁ : Shared} {news all four tls tn : List (Addr × Obj)} {Pr : Addr × Obj → Prop} {ys : List Value} {ds ds' : List Dat} {y : Value} {h' : Heap} {tk : Nat}
/-- the end of a turn: the ledger grows by tn -/
theorem xEndD {J : Value → List (Addr × Obj) → Prop} (hJ : DJ Pr news ds ys (tn ++ (tls ++ news)) → J y (tn ++ (tls ++ news))) (F : Fr h₀ L h' m) (N : News h₀ L h' all) (sub : ∀ p ∈ four ++ (tn ++ (tls ++ news)), p ∈ all) (off : ∀ p ∈ tls ++ news, ∀ q ∈ four, p.1 ≠ q.1) (offn : ∀ p ∈ tn, ∀ q ∈ four, p.1 ≠ q.1)
   (h1 : ∀ x ∈ tls, Pr x) (h2 : ∀ x ∈ tn, Pr x) (hd : DatAll (tn ++ tls) ys ds) : XEnd h₀ L m s₁ four J y { s₁ with heap := h', toks := tk } := by
  refine xEnd_of (tn ++ (tls ++ news)) F N sub (fun p hp q hq => ?_) (hJ ⟨⟨tn ++ tls, by rw [List.append_assoc], fun x hx => ?_, hd⟩⟩)
  · rcases List.mem_append.mp hp with hp | hp
    · exact offn p hp q hq
    · exact off p hp q hq
  · rcases List.mem_append.mp hx with hx | hx
    · exact h2 x hx
    · exact h1 x hx
variable {ts : List Expr} {elt : Expr} {a b : Str} {scope : Scope} {cl : List (Str × Addr)} {Fin : Shared → List Value → List (Addr × Obj) → Prop}
/-- pairs from enumerate -/
theorem pEnumD_of {e it l : Addr} {vs : List Value} {n : Nat} (hh : A.handled = none) (F : Fr h₀ L s₁.heap m) (N : News h₀ L s₁.heap news) (hE : EnumAt h₀ s₁.heap L e it l news) (hm : (l, listOf vs.toArray n) ∈ news) (hsz : vs.length ≤ sizeLine) (Pr : Addr × Obj → Prop) (D : Nat → List Dat) (D0 : D 0 = [])
    (ht : ∀ i y t ys tls oE oI oC C D9 m₂ h tk (E' : Value → Shared → Prop), i < vs.length → (∀ x ∈ tls, Pr x) → DatAll tls ys (D i) → vs[i]? = some y → NsObj oC m₂ → m₂ a = some (.int i t) → m₂ b = some y → oE.cls = .type "enumerate" → oI.cls = .type "list_iterator" → Fr h₀ L h m → News h₀ L h ((e, oE) :: (it, oI) :: (C, oC) :: (D9, lst ys) :: (tls ++ news)) →
      (∀ p ∈ tls ++ news, @Ne Nat p.1 e ∧ @Ne Nat p.1 it ∧ @Ne Nat p.1 C ∧ @Ne Nat p.1 D9) → (@Ne Nat e C ∧ @Ne Nat e D9 ∧ @Ne Nat it C ∧ @Ne Nat it D9 ∧ @Ne Nat C D9) →
      PStep prog w A elt (compEnvC scope cl C env) (XEnd h₀ L m { s₁ with heap := h, toks := tk } [(e, oE), (it, oI), (C, oC), (D9, lst ys)] (fun z nw' => DJ Pr news (D (i + 1)) (ys ++ [z]) nw')) (fun s₄ => XEnd h₀ L m { s₁ with heap := h, toks := tk } [(e, oE), (it, oI), (C, oC), (D9, lst ys)] (fun _ nw' => DJ Pr news (D (i + 1)) ys nw') .none s₄) E' ts { s₁ with heap := h, toks := tk })
    (fin : ∀ ys tls, (∀ x ∈ tls, Pr x) → DatAll tls ys (D vs.length) → Fin s₁ ys (tls ++ news)) : PSrc prog w A h₀ L m env ts elt a b scope cl Fin (.ref e) s₁ := by
  refine pEnum_of (n := n) hh F N hE hsz (fun i ys nw => DJ Pr news (D i) ys nw) (fun i ys nw h => ?_) (by rw [D0]; exact dj_nil) ?_ (fun ys nw h => ?_)
  · refine hide9 fun C9 k9 => ?_
    obtain ⟨tls, rfl, _, _⟩ := h.ex
    refine k9 ?_
    clear k9
    exact List.mem_append.mpr (.inr hm)
  · intro i y t ys nw oE oI oC C D9 m₂ h tk E' hi hj
    refine hide9 fun C9 k9 => ?_
    obtain ⟨tls, rfl, h1, h2⟩ := hj.ex
    refine k9 ?_
    clear k9
    exact ht i y t ys tls oE oI oC C D9 m₂ h tk E' hi h1 h2
  · refine hide9 fun C9 k9 => ?_
    obtain ⟨tls, rfl, h1, h2⟩ := h.ex
    refine k9 ?_
    clear k9
    exact fin ys tls h1 h2
/-- pairs from a list of pairs -/
theorem pListD_of {l : Addr} {vs : List Value} {n : Nat} (hh : A.handled = none) (F : Fr h₀ L s₁.heap m) (N : News h₀ L s₁.heap news) (hm : (l, listOf vs.toArray n) ∈ news) (hsz : vs.length ≤ sizeLine) (R : Nat → Value → Value → Prop) (Pr : Addr × Obj → Prop) (D : Nat → List Dat) (D0 : D 0 = [])
    (hp : ∀ i v, vs[i]? = some v → ∃ T x y k, v = .ref T ∧ R i x y ∧ (T, ({ cls := .type "tuple", data := .seq #[x, y] k } : Obj)) ∈ news)
    (ht : ∀ i x y ys tls I oI oC C D9 m₂ h tk (E' : Value → Shared → Prop), i < vs.length → (∀ x ∈ tls, Pr x) → DatAll tls ys (D i) → R i x y → NsObj oC m₂ → m₂ a = some x → m₂ b = some y → oI.cls = .type "list_iterator" → Fr h₀ L h m → News h₀ L h ((I, oI) :: (C, oC) :: (D9, lst ys) :: (tls ++ news)) →
      (∀ p ∈ tls ++ news, @Ne Nat p.1 I ∧ @Ne Nat p.1 C ∧ @Ne Nat p.1 D9) → (@Ne Nat I C ∧ @Ne Nat I D9 ∧ @Ne Nat C D9) →
      PStep prog w A elt (compEnvC scope cl C env) (XEnd h₀ L m { s₁ with heap := h, toks := tk } [(I, oI), (C, oC), (D9, lst ys)] (fun z nw' => DJ Pr news (D (i + 1)) (ys ++ [z]) nw')) (fun s₄ => XEnd h₀ L m { s₁ with heap := h, toks := tk } [(I, oI), (C, oC), (D9, lst ys)] (fun _ nw' => DJ Pr news (D (i + 1)) ys nw') .none s₄) E' ts { s₁ with heap := h, toks := tk })
    (fin : ∀ ys tls, (∀ x ∈ tls, Pr x) → DatAll tls ys (D vs.length) → Fin s₁ ys (tls ++ news)) : PSrc prog w A h₀ L m env ts elt a b scope cl Fin (.ref l) s₁ := by
  refine pList_of (n := n) hh F N hsz R (fun i ys nw => DJ Pr news (D i) ys nw) (fun i ys nw h => ?_) (by rw [D0]; exact dj_nil) (fun i v hv => ?_) ?_ (fun ys nw h => ?_)
  · refine hide9 fun C9 k9 => ?_
    obtain ⟨tls, rfl, _, _⟩ := h.ex
    refine k9 ?_
    clear k9
    exact List.mem_append.mpr (.inr hm)
  · refine hide9 fun C9 k9 => ?_
    obtain ⟨T, x, y, k, e, r, hT⟩ := hp i v hv
    refine k9 ?_
    clear k9
    refine ⟨T, x, y, k, e, r, fun j ys nw h => ?_⟩
    refine hide9 fun C9 k9 => ?_
    obtain ⟨tls, rfl, _, _⟩ := h.ex
    refine k9 ?_
    clear k9
    exact List.mem_append.mpr (.inr hT)
  · intro i x y ys nw I oI oC C D9 m₂ h tk E' hi hj
    refine hide9 fun C9 k9 => ?_
    obtain ⟨tls, rfl, h1, h2⟩ := hj.ex
    refine k9 ?_
    clear k9
    exact ht i x y ys tls I oI oC C D9 m₂ h tk E' hi h1 h2
  · refine hide9 fun C9 k9 => ?_
    obtain ⟨tls, rfl, h1, h2⟩ := h.ex
    refine k9 ?_
    clear k9
    exact fin ys tls h1 h2
/-- a range, its target a cell -/
theorem xRangeD_of {x : Str} {r : Addr} {lo hi : Int} {t u v : Tok} {n : Nat} (hh : A.handled = none) (F : Fr h₀ L s₁.heap m) (N : News h₀ L s₁.heap news) (hr : IsRange s₁.heap r lo hi 1 t u v) (hsm : Builtin.Range.small lo hi 1 = true) (hn : Builtin.Range.rangeSize lo hi 1 = ((n : Nat) : Int)) (hsz : n ≤ sizeLine) (Pr : Addr × Obj → Prop) (D : Nat → List Dat) (D0 : D 0 = [])
    (ht : ∀ i t ys tls oI oX oC I X C D9 h tk (E' : Value → Shared → Prop), i < n → (∀ x ∈ tls, Pr x) → DatAll tls ys (D i) → oX.data = .cell (some (.int (lo + (i : Int)) t)) → Fr h₀ L h m → News h₀ L h ((I, oI) :: (X, oX) :: (C, oC) :: (D9, lst ys) :: (tls ++ news)) →
      (∀ p ∈ tls ++ news, @Ne Nat p.1 I ∧ @Ne Nat p.1 X ∧ @Ne Nat p.1 C ∧ @Ne Nat p.1 D9) → (@Ne Nat I X ∧ @Ne Nat I C ∧ @Ne Nat I D9 ∧ @Ne Nat X C ∧ @Ne Nat X D9 ∧ @Ne Nat C D9) →
      wpAny (model prog w) A (eval elt (compEnvC scope ((x, X) :: cl) C env)) (XEnd h₀ L m { s₁ with heap := h, toks := tk } [(I, oI), (X, oX), (C, oC), (D9, lst ys)] (fun y nw' => DJ Pr news (D (i + 1)) (ys ++ [y]) nw')) E' { s₁ with heap := h, toks := tk })
    (fin : ∀ ys tls, (∀ x ∈ tls, Pr x) → DatAll tls ys (D n) → Fin s₁ ys (tls ++ news)) : XSrc prog w A h₀ L m env elt x scope cl Fin (.ref r) s₁ := by
  refine xsrcR_of hh F N hr hsm hn hsz (fun i ys nw => DJ Pr news (D i) ys nw) (by rw [D0]; exact dj_nil) ?_ (fun ys nw h => ?_)
  · intro i t ys nw oI oX oC I X C D9 h tk E' hi hj
    refine hide9 fun C9 k9 => ?_
    obtain ⟨tls, rfl, h1, h2⟩ := hj.ex
    refine k9 ?_
    clear k9
    exact ht i t ys tls oI oX oC I X C D9 h tk E' hi h1 h2
  · refine hide9 fun C9 k9 => ?_
    obtain ⟨tls, rfl, h1, h2⟩ := h.ex
    refine k9 ?_
    clear k9
    exact fin ys tls h1 h2
theorem offX3 {a b c : Addr} {oa ob oc : Obj} {nw : List (Addr × Obj)} (h : ∀ p ∈ nw, @Ne Nat p.1 a ∧ @Ne Nat p.1 b ∧ @Ne Nat p.1 c) : ∀ p ∈ nw, ∀ q ∈ [(a, oa), (b, ob), (c, oc)], p.1 ≠ q.1 := by
  intro p hp q hq
  simp only [List.mem_cons, List.not_mem_nil, or_false] at hq
  obtain ⟨h1, h2, h3⟩ := h p hp
  rcases hq with rfl | rfl | rfl
  · exact h1
  · exact h2
  · exact h3
/-- a tuple is none of an enumerate object, its iterator, a frame, a list -/
theorem tup_off4 {R : List (Addr × Obj)} {T e it C D : Addr} {o oE oI oC : Obj} {ys : List Value} {m₂ : Str → Option Value} {h : Heap} (N : News h₀ L h R) (hT : (T, o) ∈ R) (hP : TupP (T, o)) (h1 : (e, oE) ∈ R) (h2 : (it, oI) ∈ R) (h3 : (C, oC) ∈ R) (h4 : (D, lst ys) ∈ R) (c1 : oE.cls = .type "enumerate") (c2 : oI.cls = .type "list_iterator") (c3 : NsObj oC m₂) : ∀ p ∈ [(T, o)], ∀ q ∈ [(e, oE), (it, oI), (C, oC), (D, lst ys)], p.1 ≠ q.1 := by
  intro p hp q hq
  rw [List.mem_singleton.mp hp]
  have hc : o.cls = .type "tuple" := hP.1
  obtain ⟨vs, n, hd⟩ : ∃ vs n, o.data = .seq vs n := hP.2
  simp only [List.mem_cons, List.not_mem_nil, or_false] at hq
  rcases hq with rfl | rfl | rfl | rfl
  · exact ne_cls N hT h1 (by rw [hc, c1]; decide)
  · exact ne_cls N hT h2 (by rw [hc, c2]; decide)
  · refine hide9 fun C9 k9 => ?_
    obtain ⟨es, ep, hd2, _⟩ := c3
    refine k9 ?_
    clear k9
    exact ne_data N hT h3 (by rw [hd, hd2]; intro q; cases q)
  · exact ne_cls N hT h4 (by rw [hc]; exact (by decide : Value.type "tuple" ≠ Value.type "list"))
theorem tup_off3 {R : List (Addr × Obj)} {T it C D : Addr} {o oI oC : Obj} {ys : List Value} {m₂ : Str → Option Value} {h : Heap} (N : News h₀ L h R) (hT : (T, o) ∈ R) (hP : TupP (T, o)) (h2 : (it, oI) ∈ R) (h3 : (C, oC) ∈ R) (h4 : (D, lst ys) ∈ R) (c2 : oI.cls = .type "list_iterator") (c3 : NsObj oC m₂) : ∀ p ∈ [(T, o)], ∀ q ∈ [(it, oI), (C, oC), (D, lst ys)], p.1 ≠ q.1 := by
  intro p hp q hq
  rw [List.mem_singleton.mp hp]
  have hc : o.cls = .type "tuple" := hP.1
  obtain ⟨vs, n, hd⟩ : ∃ vs n, o.data = .seq vs n := hP.2
  simp only [List.mem_cons, List.not_mem_nil, or_false] at hq
  rcases hq with rfl | rfl | rfl
  · exact ne_cls N hT h2 (by rw [hc, c2]; decide)
  · refine hide9 fun C9 k9 => ?_
    obtain ⟨es, ep, hd2, _⟩ := c3
    refine k9 ?_
    clear k9
    exact ne_data N hT h3 (by rw [hd, hd2]; intro q; cases q)
  · exact ne_cls N hT h4 (by rw [hc]; exact (by decide : Value.type "tuple" ≠ Value.type "list"))
end
theorem sub_one4 {a b c d t : Addr × Obj} {r : List (Addr × Obj)} : ∀ p ∈ [a, b, c, d] ++ ([t] ++ r), p ∈ t :: a :: b :: c :: d :: r := by repeat (first | exact List.forall_mem_nil _ | refine sub_cons (by repeat (first | exact List.Mem.head _ | refine List.Mem.tail _ ?_ | refine List.mem_append_right _ ?_)) ?_ | refine sub_app ?_ ?_ | (intro p hp; repeat (first | exact hp | exact List.mem_append_left _ hp | refine List.Mem.tail _ ?_ | refine List.mem_append_right _ ?_)))
theorem sub_one3 {a b c t : Addr × Obj} {r : List (Addr × Obj)} : ∀ p ∈ [a, b, c] ++ ([t] ++ r), p ∈ t :: a :: b :: c :: r := by repeat (first | exact List.forall_mem_nil _ | refine sub_cons (by repeat (first | exact List.Mem.head _ | refine List.Mem.tail _ ?_ | refine List.mem_append_right _ ?_)) ?_ | refine sub_app ?_ ?_ | (intro p hp; repeat (first | exact hp | exact List.mem_append_left _ hp | refine List.Mem.tail _ ?_ | refine List.mem_append_right _ ?_)))
theorem law_sub3 {od d f r p g cf cr ck x : Addr × Obj} {tls big : List (Addr × Obj)} {h₀ h : Heap} {L : Addr} (N : News h₀ L h (od :: d :: (tls ++ (f :: r :: p :: g :: cf :: cr :: ck :: x :: big)))) : News h₀ L h (od :: f :: r :: p :: g :: cf :: cr :: ck :: x :: (tls ++ big)) := news_sub N (by repeat (first | exact List.forall_mem_nil _ | refine sub_cons (by repeat (first | exact List.Mem.head _ | refine List.Mem.tail _ ?_ | refine List.mem_append_right _ ?_)) ?_ | refine sub_app ?_ ?_ | (intro p hp; repeat (first | exact hp | exact List.mem_append_left _ hp | refine List.Mem.tail _ ?_ | refine List.mem_append_right _ ?_))))
theorem pairs_yes {g : Nat → Nat} {i : Nat} (h : g i ≠ 0) : (pairsL g (i + 1)).map pairD = (pairsL g i).map pairD ++ [pairD (g i, i)] := by
  unfold pairsL
  rw [List.range_succ, List.filter_append, List.map_append, List.map_append]
  simp [h]
theorem pairs_no {g : Nat → Nat} {i : Nat} (h : g i = 0) : (pairsL g (i + 1)).map pairD = (pairsL g i).map pairD := by
  unfold pairsL
  rw [List.range_succ, List.filter_append, List.map_append, List.map_append]
  simp [h]
theorem pairs_nodup {g : Nat → Nat} {n : Nat} : (pairsL g n).Nodup := by
  unfold pairsL List.Nodup
  rw [List.pairwise_map]
  exact ((range_pairwise n).sublist List.filter_sublist).imp fun h e => by
    have := congrArg Prod.snd e
    dsimp only at this
    omega
theorem pairs_len {g : Nat → Nat} {n : Nat} : (pairsL g n).length ≤ n := by
  unfold pairsL
  rw [List.length_map]
  exact Nat.le_trans (List.length_filter_le _ _) (by simp)
theorem pairs_lt {g : Nat → Nat} {n : Nat} : ∀ x ∈ pairsL g n, x.2 < n := by
  intro x hx
  unfold pairsL at hx
  obtain ⟨p, hp, rfl⟩ := List.mem_map.mp hx
  exact List.mem_range.mp (List.mem_filter.mp hp).1
theorem order_of {P : LawP} (hP : P.Ok) {stop : Nat} {ys : List (Nat × Nat)} (hp : ys.Perm (pairsL (firstOf P.f P.kinds stop) stop)) (hs : ys.Pairwise lex) : ys = orderL P.f P.kd stop :=
  sorted_same hs order_sorted fun x => hp.mem_iff.trans (mem_order hP).symm
end Mine
end

section
open PySem PySem.W PySem.Calls PyProof.Rows PyProof.Rows.LCg PyProof.Rows.LCt
set_option maxRecDepth 100000
namespace Mine
theorem ok_mul {x : Str} {c : Nat} (hx : x = ⟨#[c]⟩) (hc : c < 0x110000) (n : Int) : PyData.strOk (Txt.mul x n) = true := by
  subst hx
  have h := mul_one_list c n
  unfold PyData.strOk
  rw [← Array.all_toList, h, List.all_eq_true]
  intro y hy
  rw [(List.mem_replicate.mp hy).2]
  exact decide_eq_true hc
theorem ok_bl (n : Nat) : PyData.strOk (blS n) = true := ok_mul (c := 32) (by decide) (by decide) n
theorem ok_xs (n : Nat) : PyData.strOk (xsS n) = true := ok_mul (c := 120) (by decide) (by decide) n
theorem ok_pc (sh : Nat → Int) (b k : Nat) : kqdOk (k + 1) (pcD blS xsS sh b) = true := by
  unfold pcD
  simp [kqdOk, ok_bl, ok_xs]
theorem decide_true_any {p : Prop} {i : Decidable p} (h : p) : @decide p i = true := decide_eq_true h
section
variable {prog : Program} {w : World} {A : Around} {E : Value → Shared → Prop} {s : Shared} {h₀ : Heap} {L a b : Addr} {news n₁ n₂ : List (Addr × Obj)} {xs ys : List Value} {ka kb : Nat} {ds es : List Dat} {Q : Value → Shared → Prop}
theorem ne_sameD (N : News h₀ L s.heap news) (ma : (a, listOf xs.toArray ka) ∈ news) (Da : DatAll n₁ xs ds) (sa : ∀ p ∈ n₁, p ∈ news) (mb : (b, listOf ys.toArray kb) ∈ news) (Db : DatAll n₂ ys es) (sb : ∀ p ∈ n₂, p ∈ news)
    (ha : ∀ d ∈ ds, kqdOk 8 d = true) (hu : A.units + 64 < cLine) (he : ds = es) (h : Q (.bool false) s) : wpAny (model prog w) A (compareOp .NotEq (.ref a) (.ref b)) Q E s := by
  subst he
  refine kqd_ne N ma rfl rfl Da sa mb rfl rfl Db sb ha ha hu ?_
  rw [decide_true_any rfl]; exact h
theorem news_dup3 {a b c : Addr × Obj} {R : List (Addr × Obj)} {h : Heap} (N : News h₀ L h R) (ha : a ∈ R) (hb : b ∈ R) (hc : c ∈ R) : News h₀ L h (a :: b :: c :: R) := fun p hp => by
  rcases List.mem_cons.mp hp with rfl | hp
  · exact N _ ha
  rcases List.mem_cons.mp hp with rfl | hp
  · exact N _ hb
  rcases List.mem_cons.mp hp with rfl | hp
  · exact N _ hc
  · exact N _ hp
end
theorem law_sub4 {d od f r p g cf cr ck x : Addr × Obj} {t2 tls big : List (Addr × Obj)} {h₀ h : Heap} {L : Addr} (N : News h₀ L h (d :: (t2 ++ (od :: f :: r :: p :: g :: cf :: cr :: ck :: x :: (tls ++ big))))) : News h₀ L h (f :: r :: p :: cf :: cr :: ck :: x :: big) := news_sub N (by repeat (first | exact List.forall_mem_nil _ | refine sub_cons (by repeat (first | exact List.Mem.head _ | refine List.Mem.tail _ ?_ | refine List.mem_append_right _ ?_)) ?_ | refine sub_app ?_ ?_ | (intro p hp; repeat (first | exact hp | exact List.mem_append_left _ hp | refine List.Mem.tail _ ?_ | refine List.mem_append_right _ ?_))))
theorem news_dup5 {h₀ h : Heap} {L : Addr} {a b c d e : Addr × Obj} {R : List (Addr × Obj)} (N : News h₀ L h R) (ha : a ∈ R) (hb : b ∈ R) (hc : c ∈ R) (hd : d ∈ R) (he : e ∈ R) : News h₀ L h (a :: b :: c :: d :: e :: R) := fun p hp => by
  rcases List.mem_cons.mp hp with rfl | hp
  · exact N _ ha
  rcases List.mem_cons.mp hp with rfl | hp
  · exact N _ hb
  rcases List.mem_cons.mp hp with rfl | hp
  · exact N _ hc
  rcases List.mem_cons.mp hp with rfl | hp
  · exact N _ hd
  rcases List.mem_cons.mp hp with rfl | hp
  · exact N _ he
  · exact N _ hp
theorem sub_dup3 {a b c x y z t : Addr × Obj} {r : List (Addr × Obj)} : ∀ p ∈ [a, b, c] ++ ([t] ++ r), p ∈ t :: x :: y :: z :: a :: b :: c :: r := by repeat (first | exact List.forall_mem_nil _ | refine sub_cons (by repeat (first | exact List.Mem.head _ | refine List.Mem.tail _ ?_ | refine List.mem_append_right _ ?_)) ?_ | refine sub_app ?_ ?_ | (intro p hp; repeat (first | exact hp | exact List.mem_append_left _ hp | refine List.Mem.tail _ ?_ | refine List.mem_append_right _ ?_)))
/-- the pairs' data are those of the list of pairs at each place -/
noncomputable def PairAt (xs : List (Nat × Nat)) (i : Nat) (x y : Value) : Prop := ∃ q t u, xs[i]? = some q ∧ x = .int (q.1 : Int) t ∧ y = .int (q.2 : Int) u
theorem pairs_at {n news : List (Addr × Obj)} {vs : List Value} {xs : List (Nat × Nat)} (h : DatAll n vs (xs.map pairD)) (hs : ∀ x ∈ n, x ∈ news) (i : Nat) (v : Value) (hv : vs[i]? = some v) : ∃ T x y k, v = .ref T ∧ PairAt xs i x y ∧ (T, ({ cls := .type "tuple", data := .seq #[x, y] k } : Obj)) ∈ news := by
  have hi : i < xs.length := by
    have h1 := h.length
    rw [List.length_map] at h1
    have := (List.getElem?_eq_some_iff.mp hv).1
    omega
  refine hide9 fun C9 k9 => ?_
  obtain ⟨T, tq, tp, k, _, e, hm⟩ := datAll_at h hi
  refine k9 ?_
  clear k9
  rw [e] at hv
  cases hv
  exact ⟨T, _, _, k, rfl, ⟨xs[i], tq, tp, List.getElem?_eq_getElem hi, rfl, rfl⟩, hs _ hm⟩
theorem take_snoc {α : Type} {l : List α} {i : Nat} {x : α} (h : l[i]? = some x) : l.take (i + 1) = l.take i ++ [x] := by
  rw [List.take_add_one, h]; rfl
theorem order_lt {P : LawP} (hP : P.Ok) {stop i : Nat} {q : Nat × Nat} (h : (orderL P.f P.kd stop)[i]? = some q) : q.2 < stop := pairs_lt _ ((mem_order hP).mp (List.mem_of_getElem? h))
theorem order_pcs {P : LawP} {stop : Nat} : (orderL P.f P.kd stop).map (fun q => pcD blS xsS P.sh q.2) = (goneTo P.f P.kd (stop + 1)).map (pcD blS xsS P.sh) := by
  rw [← order_gone, List.map_map]; rfl
theorem row_here {vs : List Value} {stop b : Nat} {f : Nat → Int} (h : IntsAre vs ((List.range (stop + 1)).map f)) (hb : b < stop + 1) : ∃ t, vs[b]? = some (.int (f b) t) := by
  obtain ⟨v, hv⟩ : ∃ v, vs[b]? = some v := ⟨_, List.getElem?_eq_getElem (by have := h.length; simp at this; omega)⟩
  refine hide9 fun C9 k9 => ?_
  obtain ⟨x, t, rfl, hx⟩ := ints_at h hv
  refine k9 ?_
  clear k9
  rw [List.getElem?_map, List.getElem?_range hb] at hx
  cases hx
  exact ⟨t, hv⟩
theorem off1_mem {D : Addr} : ∀ {l : List (Addr × Obj)}, PyProof.Rows.LCg.Off1 D l → ∀ p ∈ l, @Ne Nat p.1 D
  | [], _, p, hp => nomatch hp
  | _ :: _, h, p, hp => by
    rcases List.mem_cons.mp hp with rfl | hp
    · exact h.1
    · exact off1_mem h.2 p hp
theorem sub_dup5 {a b c d x1 x2 x3 x4 x5 t : Addr × Obj} {r : List (Addr × Obj)} : ∀ p ∈ [a, b, c, d] ++ ([t] ++ r), p ∈ t :: x1 :: x2 :: x3 :: x4 :: x5 :: a :: b :: c :: d :: r := by repeat (first | exact List.forall_mem_nil _ | refine sub_cons (by repeat (first | exact List.Mem.head _ | refine List.Mem.tail _ ?_ | refine List.mem_append_right _ ?_)) ?_ | refine sub_app ?_ ?_ | (intro p hp; repeat (first | exact hp | exact List.mem_append_left _ hp | refine List.Mem.tail _ ?_ | refine List.mem_append_right _ ?_)))
theorem mem_in4 {a b c d x1 x2 x3 x4 x5 e1 e2 e3 e4 y1 y2 y3 y4 y5 : Addr × Obj} {tls r : List (Addr × Obj)} : ∀ q ∈ [a, b, c, d], q ∈ x1 :: x2 :: x3 :: x4 :: x5 :: e1 :: e2 :: e3 :: e4 :: (tls ++ (y1 :: y2 :: y3 :: y4 :: y5 :: a :: b :: c :: d :: r)) := by repeat (first | exact List.forall_mem_nil _ | refine sub_cons (by repeat (first | exact List.Mem.head _ | refine List.Mem.tail _ ?_ | refine List.mem_append_right _ ?_)) ?_ | refine sub_app ?_ ?_ | (intro p hp; repeat (first | exact hp | exact List.mem_append_left _ hp | refine List.Mem.tail _ ?_ | refine List.mem_append_right _ ?_)))
theorem mem_up4 {a b c d x1 x2 x3 x4 x5 : Addr × Obj} {r : List (Addr × Obj)} : ∀ q ∈ [a, b, c, d], q ∈ x1 :: x2 :: x3 :: x4 :: x5 :: a :: b :: c :: d :: r := by repeat (first | exact List.forall_mem_nil _ | refine sub_cons (by repeat (first | exact List.Mem.head _ | refine List.Mem.tail _ ?_ | refine List.mem_append_right _ ?_)) ?_ | refine sub_app ?_ ?_ | (intro p hp; repeat (first | exact hp | exact List.mem_append_left _ hp | refine List.Mem.tail _ ?_ | refine List.mem_append_right _ ?_)))
theorem sub_due {D a b c d y1 y2 y3 y4 y5 : Addr × Obj} {t3 r : List (Addr × Obj)} : ∀ p ∈ [a, b, c, d] ++ ((D :: t3) ++ r), p ∈ D :: (t3 ++ (y1 :: y2 :: y3 :: y4 :: y5 :: a :: b :: c :: d :: r)) := by
  intro p hp
  simp only [List.mem_append, List.mem_cons, List.not_mem_nil, or_false] at hp ⊢
  rcases hp with (h | h | h | h) | (h | h) | h
  · exact .inr (.inr (.inr (.inr (.inr (.inr (.inr (.inl h)))))))
  · exact .inr (.inr (.inr (.inr (.inr (.inr (.inr (.inr (.inl h))))))))
  · exact .inr (.inr (.inr (.inr (.inr (.inr (.inr (.inr (.inr (.inl h)))))))))
  · exact .inr (.inr (.inr (.inr (.inr (.inr (.inr (.inr (.inr (.inr (.inl h))))))))))
  · exact .inl h
  · exact .inr (.inl h)
  · exact .inr (.inr (.inr (.inr (.inr (.inr (.inr (.inr (.inr (.inr (.inr h))))))))))
theorem mem_in4' {a b c d y1 y2 y3 y4 y5 : Addr × Obj} {t3 r : List (Addr × Obj)} : ∀ q ∈ [a, b, c, d], q ∈ t3 ++ (y1 :: y2 :: y3 :: y4 :: y5 :: a :: b :: c :: d :: r) := by repeat (first | exact List.forall_mem_nil _ | refine sub_cons (by repeat (first | exact List.Mem.head _ | refine List.Mem.tail _ ?_ | refine List.mem_append_right _ ?_)) ?_ | refine sub_app ?_ ?_ | (intro p hp; repeat (first | exact hp | exact List.mem_append_left _ hp | refine List.Mem.tail _ ?_ | refine List.mem_append_right _ ?_)))
theorem law_sub5 {d f r p cf cr ck x : Addr × Obj} {t2 big : List (Addr × Obj)} {h₀ h : Heap} {L : Addr} (N : News h₀ L h (d :: (t2 ++ (f :: r :: p :: cf :: cr :: ck :: x :: big)))) : News h₀ L h (d :: p :: x :: (t2 ++ big)) := news_sub N (by repeat (first | exact List.forall_mem_nil _ | refine sub_cons (by repeat (first | exact List.Mem.head _ | refine List.Mem.tail _ ?_ | refine List.mem_append_right _ ?_)) ?_ | refine sub_app ?_ ?_ | (intro p hp; repeat (first | exact hp | exact List.mem_append_left _ hp | refine List.Mem.tail _ ?_ | refine List.mem_append_right _ ?_))))
noncomputable def SeqP (x : Addr × Obj) : Prop := ∃ vs n, x.2.data = .seq vs n
/-- what of a pile lies, of its first i places -/
noncomputable def pileTo (P : LawP) (stop k i : Nat) : List Nat := (List.range i).filter fun p => decide (P.kd p = k) && lies P.f P.kd (stop + 1) p
theorem pileTo_yes {P : LawP} {stop k i : Nat} (h1 : P.kd i = k) (h2 : lies P.f P.kd (stop + 1) i = true) : (pileTo P stop k (i + 1)).map (pcD blS xsS P.sh) = (pileTo P stop k i).map (pcD blS xsS P.sh) ++ [pcD blS xsS P.sh i] := by
  unfold pileTo
  rw [List.range_succ, List.filter_append, List.map_append]
  simp [h1, h2]
theorem pileTo_no {P : LawP} {stop k i : Nat} (h : P.kd i = k → lies P.f P.kd (stop + 1) i = true → False) : (pileTo P stop k (i + 1)).map (pcD blS xsS P.sh) = (pileTo P stop k i).map (pcD blS xsS P.sh) := by
  unfold pileTo
  rw [List.range_succ, List.filter_append, List.map_append]
  have e : [i].filter (fun p => decide (P.kd p = k) && lies P.f P.kd (stop + 1) p) = [] := by
    simp only [List.filter_cons, List.filter_nil]
    rw [if_neg]
    simp only [Bool.and_eq_true, decide_eq_true_eq]
    exact fun ⟨a, b⟩ => h a b
  rw [e]; simp
noncomputable def dueD (P : LawP) (stop k : Nat) : Dat := .list ((pileL P stop k).map (pcD blS xsS P.sh))
theorem due_snoc {P : LawP} {stop i : Nat} : (List.range (i + 1)).map (dueD P stop) = (List.range i).map (dueD P stop) ++ [dueD P stop i] := by
  rw [List.range_succ, List.map_append]; rfl
theorem kd_of {P : LawP} {p k : Nat} (hP : P.Ok) (h : (P.f p).fmod P.kinds = 0 + (k : Int)) : P.kd p = k := by
  unfold LawP.kd; omega
theorem kd_not {P : LawP} {p k : Nat} (hP : P.Ok) (h : (P.f p).fmod P.kinds ≠ 0 + (k : Int)) : P.kd p ≠ k := by
  have := kd_lt P hP p
  unfold LawP.kd; omega
end Mine
end

section
open PySem PySem.W PySem.Calls PyProof.Rows PyProof.Rows.LCg PyProof.Rows.LCt
set_option maxRecDepth 100000
namespace Mine
section
variable {prog : Program} {w : World} {A : Around} {E : Value → Shared → Prop} {s : Shared} {h₀ : Heap} {L : Addr} {m : Str → Option Value} {env : Env}
/-- the end of a turn of a comprehension whose element may change what is no heap -/
noncomputable def GEnd (h₀ : Heap) (L : Addr) (m : Str → Option Value) (S : Shared → Prop) (own : List (Addr × Obj)) (J : Value → List (Addr × Obj) → Prop) (y : Value) (s₂ : Shared) : Prop :=
  ∃ nw, S s₂ ∧ Fr h₀ L s₂.heap m ∧ News h₀ L s₂.heap (own ++ nw) ∧ (∀ p ∈ nw, ∀ q ∈ own, p.1 ≠ q.1) ∧ J y nw
theorem gEnd_of {S : Shared → Prop} {own all : List (Addr × Obj)} {J : Value → List (Addr × Obj) → Prop} {y : Value} {s₂ : Shared} (nw : List (Addr × Obj)) (hS : S s₂) (F : Fr h₀ L s₂.heap m) (N : News h₀ L s₂.heap all) (sub : ∀ p ∈ own ++ nw, p ∈ all) (off : ∀ p ∈ nw, ∀ q ∈ own, p.1 ≠ q.1) (r : J y nw) : GEnd h₀ L m S own J y s₂ :=
  ⟨nw, hS, F, fun p hp => N p (sub p hp), off, r⟩
noncomputable def Stable (S : Shared → Prop) : Prop := ∀ s h tk, S s → S { s with heap := h, toks := tk }
theorem block_G {elt iter : Expr} {x : Str} {px : Pos} {scope : Scope} {cl : List (Str × Addr)} {pos : Pos} {s₂ : Shared} {I : Addr} {fp : List Addr} {n : Nat} {P : Nat → Value → Prop} {St : Nat → Heap → Prop} {news : List (Addr × Obj)} {RR : Value → Addr → Result → Shared → Prop} {S : Shared → Prop}
    (hS : Stable S) (W : Walks prog w A I fp [I] n P St) (hsz : n ≤ sizeLine) (hIo : ∀ i h, St i h → ∃ o, h.get? I = some o) (J : Nat → List Value → List (Addr × Obj) → Prop)
    (hSt2 : ∀ j ys nw h h' o, J j ys nw → St j h → h.get? I = some o → h'.get? I = some o → (∀ b o, h₀.get? b = some o → h'.get? b = some o) → News h₀ L h' nw → St j h')
    (hcell : ∀ y ∈ scope.names, y.2 ≠ .cell) (hkind : scope.kind = .function) (hx : scope.names.lookup x = some .local)
    (hst : St 0 s₂.heap) (hfp : ∀ b ∈ fp, b < s₂.heap.objs.size)
    (F : Fr h₀ L s₂.heap m) (N : News h₀ L s₂.heap news) (hIL : L ≠ I) (hI₀ : h₀.get? I = none) (off : ∀ p ∈ news, p.1 ≠ I) (hJ : J 0 [] news) (hs : S s₂)
    (step : ∀ i v ys nw oI oC C D m₂ s (E' : Value → Shared → Prop), S s → i < n → J i ys nw → P i v → NsObj oC m₂ → m₂ x = some v → (∃ o, s.heap.get? I = some o) → Fr h₀ L s.heap m → News h₀ L s.heap ((I, oI) :: (C, oC) :: (D, lst ys) :: nw) →
      (∀ p ∈ nw, @Ne Nat p.1 I ∧ @Ne Nat p.1 C ∧ @Ne Nat p.1 D) → (@Ne Nat I C ∧ @Ne Nat I D ∧ @Ne Nat C D) → I < C → D < C →
      wpAny (model prog w) A (eval elt (compEnvC scope cl C env)) (GEnd h₀ L m S [(I, oI), (C, oC), (D, lst ys)] (fun y nw' => J (i + 1) (ys ++ [y]) nw')) E' s)
    (hRR : ∀ D C s m' ys nw, S s → Fr h₀ L s.heap m → News h₀ L s.heap ((D, lst ys) :: nw) → Off1 D nw → s.heap.Ns C m' → h₀.get? C = none → h₀.get? D = none → C ≠ L → D ≠ L → C ≠ D → (∀ p ∈ nw, p.1 ≠ C) → J n ys nw → RR (.ref D) C (.ok .next) s) :
    wpAny (model prog w) A (newList []) (fun acc s₃ => wpAny (model prog w) A (newFunctionEnv scope env.globals cl [] env.qual none .none (some env)) (fun cenv s₄ =>
      codeAny (model prog w) A (.compStart (.ListComp elt [⟨.Name x px, iter, [], 0⟩] scope pos) 0 (.ref I) acc { cenv with scope := relabel scope env }) (RR acc cenv.locals) s₄) E s₃) E s₂ := by
  refine wpAny_newObj_type (wpAny_newFunctionEnv hcell (by intro y hy; simp at hy) (fun h₁ hns₁ hsb₁ => ?_) hkind)
  dsimp only at hns₁ hsb₁ ⊢
  generalize hH2 : s₂.heap.push { cls := .type "list", dict := none, data := .seq ([] : List Value).toArray } = H2 at hns₁ hsb₁ ⊢
  generalize hD : s₂.heap.objs.size = D at *
  have hC2 : H2.objs.size = D + 1 := by rw [← hH2, Heap.size_push, hD]
  generalize hCe : H2.objs.size = C at *
  have hLD : L < D := hD ▸ F.ns.lt
  have hDlC : D < C := by rw [hC2]; exact Nat.lt_succ_self _
  have hDC : D ≠ C := Nat.ne_of_lt hDlC
  have below : ∀ b, b < D → b ≠ C ∧ b ≠ D := fun b hb => ⟨Nat.ne_of_lt (Nat.lt_trans hb hDlC), Nat.ne_of_lt hb⟩
  have old : ∀ b o, s₂.heap.get? b = some o → h₁.get? b = some o := fun b o e => hsb₁.extBut b o (below b (hD ▸ Heap.lt_size e)).1 (Heap.get?_push_of_some _ (hH2 ▸ Heap.get?_push_of_some _ e))
  have hacc : h₁.get? D = some (lst []) := hsb₁.extBut _ _ hDC (Heap.get?_push_of_some _ (by rw [← hH2, ← hD]; exact Heap.get?_push_size _ rfl))
  have fresh₀ : ∀ a, D ≤ a → h₀.get? a = none := fun a ha => by
    cases e : h₀.get? a with
    | none => rfl
    | some o' => exact absurd (hD ▸ Heap.lt_size (F.keep a o' e)) (Nat.not_lt.mpr ha)
  have hC₀ : h₀.get? C = none := fresh₀ _ (by rw [hC2]; exact Nat.le_succ _)
  have hD₀ : h₀.get? D = none := fresh₀ _ (Nat.le_refl _)
  have hDL : D ≠ L := Ne.symm (below L hLD).2
  have hCL : C ≠ L := Ne.symm (below L hLD).1
  have hI : I < D := hfp I (W.sub I (List.mem_singleton.mpr rfl))
  have hIC := (below I hI).1
  have hID := (below I hI).2
  have loop : ∀ s₃ : Shared, s₃ = { s₂ with heap := h₁, toks := s₂.toks + ([] : List (Str × Value)).length } →
      codeAny (model prog w) A (.compLoop (.ListComp elt [⟨.Name x px, iter, [], 0⟩] scope pos) 0 (.ref I) (.ref D) (compEnvC scope cl C env)) (RR (.ref D) C) s₃ := by
    rintro s₃ rfl
    refine codeAny_compLoop_tests
      (fun k s' => ∃ i ys m' nw, S s' ∧ i ≤ n ∧ k = n + 1 - i ∧ ys.length = i ∧ St i s'.heap ∧ Fr h₀ L s'.heap m ∧ s'.heap.Ns C m' ∧ News h₀ L s'.heap ((D, lst ys) :: nw) ∧
        (∀ p ∈ nw, @Ne Nat p.1 I ∧ @Ne Nat p.1 C ∧ @Ne Nat p.1 D) ∧ J i ys nw) ?_ (n + 1)
      ⟨0, [], _, news, hS _ _ _ hs, Nat.zero_le _, rfl, rfl, W.frame _ _ _ hst fun b _ o e => old b o e, F.keeps old, hns₁, fun p hp => ?_, fun p hp => ?_, hJ⟩
    · intro k s' hz27z
      refine hide9 fun C9 k9 => ?_
      obtain ⟨i, ys, m', nw, hs', hi, rfl, hyl, hst', F', hn', N', off', hJ'⟩ := hz27z
      refine k9 ?_
      clear k9
      by_cases hlt : i < n
      · refine W.item i _ _ _ hlt hst' fun v h₂ tk₂ hPv hst₂ hk₂ => ?_
        have k2 : ∀ b o, b ≠ I → s'.heap.get? b = some o → h₂.get? b = some o := fun b o hb e => hk₂ b o (by simpa using hb) e
        have F₂ : Fr h₀ L h₂ m := fr_but F' hk₂ hIL hI₀
        have C₂ := hn'.at' fun o e => k2 _ o (Ne.symm hIC) e
        refine wpAny_assign_Name (wpAny_storeName_local (lookup_relabel_local (env := env) hx) C₂ (fun h₃ hn₃ hs₃ => ?_) (by simp [compEnvC, relabel, hkind]))
        refine wpAny_tests_nil ?_
        simp only [if_true]
        have k3 : ∀ b o, b ≠ C → h₂.get? b = some o → h₃.get? b = some o := fun b o hb e => hs₃.extBut b o hb e
        have hst₃ : St (i + 1) h₃ := W.frame _ _ _ hst₂ fun b hb o e => k3 b o (below b (hfp b hb)).1 e
        obtain ⟨oI, heI⟩ := hIo _ _ hst₃
        obtain ⟨oC, heC, hoC⟩ := ns_obj hn₃
        have F₃ : Fr h₀ L h₃ m := F₂.change hs₃ hCL hC₀
        have N₃ : News h₀ L h₃ ((I, oI) :: (C, oC) :: (D, lst ys) :: nw) := by
          intro p hp
          rcases List.mem_cons.mp hp with rfl | hp
          · exact ⟨heI, Ne.symm hIL, hI₀⟩
          rcases List.mem_cons.mp hp with rfl | hp
          · exact ⟨heC, hCL, hC₀⟩
          have z := N' p hp
          rcases List.mem_cons.mp hp with rfl | hp
          · exact ⟨k3 _ _ hDC (k2 _ _ (Ne.symm hID) z.1), z.2⟩
          · have o := off' p hp
            exact ⟨k3 _ _ o.2.1 (k2 _ _ o.1 z.1), z.2⟩
        refine wpAny_mono (step i v ys nw oI oC C D _ { s' with heap := h₃, toks := tk₂ + 1 } _ (hS _ _ _ hs') hlt hJ' hPv hoC (by simp) ⟨_, heI⟩ F₃ N₃ off' ⟨hIC, hID, Ne.symm hDC⟩ (Nat.lt_trans hI hDlC) hDlC) (fun y s₄ h₄ => ?_) fun _ _ e => e
        refine hide9 fun C9 k9 => ?_
        obtain ⟨nw₄, hs₄, F₄, N₄, off₄, J₄⟩ := h₄
        refine k9 ?_
        clear k9
        have zI := (N₄ (I, oI) (.head _)).1
        have zC := (N₄ (C, oC) (.tail _ (.head _))).1
        have zD := (N₄ (D, lst ys) (.tail _ (.tail _ (.head _)))).1
        have N₄' : News h₀ L s₄.heap nw₄ := fun p hp => N₄ p (.tail _ (.tail _ (.tail _ hp)))
        have hst₄ : St (i + 1) s₄.heap := hSt2 _ _ _ _ _ _ J₄ hst₃ heI zI F₄.keep N₄'
        have off4 : ∀ p ∈ nw₄, @Ne Nat p.1 I ∧ @Ne Nat p.1 C ∧ @Ne Nat p.1 D := fun p hp => ⟨off₄ p hp (I, oI) (.head _), off₄ p hp (C, oC) (.tail _ (.head _)), off₄ p hp (D, lst ys) (.tail _ (.tail _ (.head _)))⟩
        refine append_at (hsz := by show ys.toArray.size ≤ sizeLine; rw [List.size_toArray, hyl]; exact Nat.le_trans hi hsz) zD fun h₅ hs₅ hD₅ => ?_
        refine ⟨n + 1 - (i + 1), by omega, i + 1, ys ++ [y], _, nw₄, hS s₄ h₅ s₄.toks hs₄, hlt, rfl, by rw [List.length_append, List.length_singleton, hyl], W.frame _ _ _ hst₄ fun b hb o e => hs₅.extBut b o (below b (hfp b hb)).2 e, F₄.change hs₅ hDL hD₀,
          (hoC.ns zC).sameBut hs₅ (Ne.symm hDC), fun p hp => ?_, off4, J₄⟩
        rcases List.mem_cons.mp hp with rfl | hp
        · exact ⟨hD₅.trans (congrArg some (lst_snoc ys y)), hDL, hD₀⟩
        · exact ⟨hs₅.extBut _ _ (off4 p hp).2.2 (N₄' p hp).1, (N₄' p hp).2⟩
      · obtain rfl : i = n := Nat.le_antisymm hi (Nat.not_lt.mp hlt)
        refine W.done _ _ _ hst' fun h₂ tk₂ hk₂ => ?_
        have k2 : ∀ b o, b ≠ I → s'.heap.get? b = some o → h₂.get? b = some o := fun b o hb e => hk₂ b o (by simpa using hb) e
        refine hRR _ _ { s' with heap := h₂, toks := tk₂ } _ ys nw (hS _ _ _ hs') (fr_but F' hk₂ hIL hI₀) (news_but N' hk₂ fun p hp => ?_) ?_ (hn'.at' fun o e => k2 _ o (Ne.symm hIC) e) hC₀ hD₀ hCL hDL (Ne.symm hDC) (fun p hp => (off' p hp).2.1) hJ'
        · rcases List.mem_cons.mp hp with rfl | hp
          · exact Ne.symm hID
          · exact (off' p hp).1
        · exact off1_of fun p hp => (off' p hp).2.2
    · rcases List.mem_cons.mp hp with rfl | hp
      · exact ⟨hacc, hDL, hD₀⟩
      · exact N.grown old p hp
    · have h9 := hD ▸ Heap.lt_size (N p hp).1
      exact ⟨off p hp, (below _ h9).1, (below _ h9).2⟩
  exact codeAny_compStart_list (loop _ rfl) (W.self 0 _ _ _ (W.frame _ _ _ hst fun b _ o e => old b o e) (loop _ rfl))
end
end Mine
end

section
open PySem PySem.W PySem.Calls PyProof.Rows PyProof.Rows.LCg PyProof.Rows.LCt
set_option maxRecDepth 100000
namespace Mine
section
variable {w : World} {A : Around} {E : Value → Shared → Prop} {s : Shared} {h₀ : Heap} {L : Addr} {m : Str → Option Value} {env : Env}
noncomputable def GSrc (w : World) (A : Around) (h₀ : Heap) (L : Addr) (m : Str → Option Value) (env : Env) (elt iter : Expr) (x : Str) (px : Pos) (scope : Scope) (cl : List (Str × Addr)) (pos : Pos) (Fin : Shared → List Value → List (Addr × Obj) → Prop) (xv : Value) (s₁ : Shared) : Prop :=
  ∀ (E : Value → Shared → Prop) (RR : Value → Addr → Result → Shared → Prop),
    (∀ D C s m' ys nw, Fr h₀ L s.heap m → News h₀ L s.heap ((D, lst ys) :: nw) → Off1 D nw → s.heap.Ns C m' → h₀.get? C = none → h₀.get? D = none → C ≠ L → D ≠ L → C ≠ D → (∀ p ∈ nw, p.1 ≠ C) → Fin s ys nw → RR (.ref D) C (.ok .next) s) →
    wpAny (model PG w) A (pyIter xv) (fun it s₂ => wpAny (model PG w) A (newList []) (fun acc s₃ => wpAny (model PG w) A (newFunctionEnv scope env.globals cl [] env.qual none .none (some env)) (fun cenv s₄ =>
      codeAny (model PG w) A (.compStart (.ListComp elt [⟨.Name x px, iter, [], 0⟩] scope pos) 0 it acc { cenv with scope := relabel scope env }) (RR acc cenv.locals) s₄) E s₃) E s₂) E s₁
theorem ListComp_G {elt iter : Expr} {x : Str} {px : Pos} {scope : Scope} {cl : List (Str × Addr)} {pos : Pos} {Q : Value → Shared → Prop} (_F : Fr h₀ L s.heap m)
    (hclos : closureFor scope env = pure cl) (hkind : scope.kind = .function) (hnames : ∀ z ∈ scope.names, z.2 = .local → scope.names.lookup z.1 = some .local)
    (h : wpAny (model PG w) A (eval iter env) (GSrc w A h₀ L m env elt iter x px scope cl pos (fun s₂ => FinE h₀ L m s₂ Q)) E s) (hs : ∀ v, foldedSetIterable iter env v = pure v) :
    wpAny (model PG w) A (eval (.ListComp elt [⟨.Name x px, iter, [], 0⟩] scope pos) env) Q E s := by
  rw [eval_ListComp]
  refine wpAny_comprehension_free (use := none) rfl hs hclos hkind hnames (wpAny_mono h (fun xv s₁ h₁ => h₁ E _ fun D C s' m' ys nw F' N' o1 hn hC₀ hD₀ hCL hDL hCD offC fin => ?_) fun _ _ e => e)
  refine ⟨m', hn, fun h'' hs'' => fin D h'' s'.toks (F'.change hs'' hCL hC₀) (fun p hp => ?_) o1⟩
  refine ⟨hs''.extBut _ _ ?_ (N' p hp).1, (N' p hp).2⟩
  rcases List.mem_cons.mp hp with rfl | hp
  · exact Ne.symm hCD
  · exact offC p hp
variable {elt iter : Expr} {x : Str} {px : Pos} {scope : Scope} {cl : List (Str × Addr)} {pos : Pos} {Fin : Shared → List Value → List (Addr × Obj) → Prop} {s₁ : Shared} {news : List (Addr × Obj)} {S : Shared → Prop}
/-- over a list of the ledger -/
theorem gList_of {ax : Addr} {vs : List Value} {nn : Nat} (hcell : ∀ y ∈ scope.names, y.2 ≠ .cell) (hkind : scope.kind = .function) (hx : scope.names.lookup x = some .local) (hS : Stable S) (hs : S s₁) (hh : A.handled = none) (F : Fr h₀ L s₁.heap m) (N : News h₀ L s₁.heap news) (hsz : vs.length ≤ sizeLine) (J : Nat → List Value → List (Addr × Obj) → Prop)
    (hm : ∀ i ys nw, J i ys nw → (ax, listOf vs.toArray nn) ∈ nw) (j0 : J 0 [] news)
    (ht : ∀ i v ys nw I oI oC C D m₂ s (E' : Value → Shared → Prop), S s → i < vs.length → J i ys nw → vs[i]? = some v → NsObj oC m₂ → m₂ x = some v → Fr h₀ L s.heap m → News h₀ L s.heap ((I, oI) :: (C, oC) :: (D, lst ys) :: nw) → (∀ p ∈ nw, @Ne Nat p.1 I ∧ @Ne Nat p.1 C ∧ @Ne Nat p.1 D) → (@Ne Nat I C ∧ @Ne Nat I D ∧ @Ne Nat C D) →
      wpAny (model PG w) A (eval elt (compEnvC scope cl C env)) (GEnd h₀ L m S [(I, oI), (C, oC), (D, lst ys)] (fun y nw' => J (i + 1) (ys ++ [y]) nw')) E' s)
    (fin : ∀ s ys nw, S s → J vs.length ys nw → Fin s ys nw) : GSrc w A h₀ L m env elt iter x px scope cl pos Fin (.ref ax) s₁ := by
  intro E RR hRR
  have hm0 := hm _ _ _ j0
  have hl : s₁.heap.IsList ax vs.toArray := ⟨_, (N _ hm0).1, rfl, nn, rfl⟩
  have hlt : ax < s₁.heap.objs.size := Heap.lt_size (N _ hm0).1
  refine wpAny_pyIter_list hl ?_
  have up : ∀ b o, s₁.heap.get? b = some o → (s₁.heap.push { cls := .type "list_iterator", data := .fields #[.ref ax, .int 0 0] }).get? b = some o := fun b o e => Heap.get?_push_of_some _ e
  refine block_G (s₂ := { s₁ with heap := s₁.heap.push { cls := .type "list_iterator", data := .fields #[.ref ax, .int 0 0] } }) hS (Walks.list hh s₁.heap.objs.size ax (Nat.ne_of_lt hlt) vs.toArray) (by rw [List.size_toArray]; exact hsz) (fun i h st => by obtain ⟨o, e, _⟩ := st.1; exact ⟨o, e⟩) J
    (fun j ys nw h h' o hj st e e' k N => list_st j h h' o nw st e e' k N (.inr ⟨_, hm _ _ _ hj, rfl, nn, rfl⟩)) hcell hkind hx ⟨⟨_, Heap.get?_push_size _ rfl, rfl, rfl⟩, hl.push _⟩ (fun b hb => ?_)
    (F.keeps up) (N.grown up) (Nat.ne_of_lt F.ns.lt) (next_is_new F) (fun p hp => Nat.ne_of_lt (Heap.lt_size (N p hp).1)) j0 (hS s₁ (s₁.heap.push { cls := .type "list_iterator", data := .fields #[.ref ax, .int 0 0] }) s₁.toks hs)
    (fun i v ys nw oI oC C D m₂ s E' hs hi hj hp hC hmx _ hF hN ho hne _ _ => ht i v ys nw _ oI oC C D m₂ s E' hs (by rw [List.size_toArray] at hi; exact hi) hj (by rw [List.getElem?_toArray] at hp; exact hp) hC hmx hF hN ho hne)
    (fun D C s m' ys nw hs hF hN o1 hns c0 d0 cl dl cd oc hj => hRR D C s m' ys nw hF hN o1 hns c0 d0 cl dl cd oc (fin s ys nw hs (by rw [List.size_toArray] at hj; exact hj)))
  show b < (s₁.heap.push _).objs.size
  rw [Heap.size_push]
  rcases List.mem_cons.mp hb with rfl | hb
  · exact Nat.lt_succ_self _
  · rw [List.mem_singleton.mp hb]; exact Nat.lt_succ_of_lt hlt
/-- over an instance of the list's subclass -/
theorem gAcc_of {p dx : Addr} {items : List Value} {nn e0 : Nat} {es : List DictEntry} (hcell : ∀ y ∈ scope.names, y.2 ≠ .cell) (hkind : scope.kind = .function) (hx : scope.names.lookup x = some .local) (hS : Stable S) (hs : S s₁) (hh : A.handled = none) (X : (Mine.frag.heap_1 w.params).In h₀) (F : Fr h₀ L s₁.heap m) (N : News h₀ L s₁.heap news) (hsz : items.length ≤ sizeLine) (J : Nat → List Value → List (Addr × Obj) → Prop)
    (hm : ∀ i ys nw, J i ys nw → (p, accO dx items nn) ∈ nw) (hdx : (dx, dictOf es e0) ∈ news) (j0 : J 0 [] news)
    (ht : ∀ i v ys nw I oI oC C D m₂ s (E' : Value → Shared → Prop), S s → i < items.length → J i ys nw → items[i]? = some v → NsObj oC m₂ → m₂ x = some v → Fr h₀ L s.heap m → News h₀ L s.heap ((I, oI) :: (C, oC) :: (D, lst ys) :: nw) → (∀ p ∈ nw, @Ne Nat p.1 I ∧ @Ne Nat p.1 C ∧ @Ne Nat p.1 D) → (@Ne Nat I C ∧ @Ne Nat I D ∧ @Ne Nat C D) →
      wpAny (model PG w) A (eval elt (compEnvC scope cl C env)) (GEnd h₀ L m S [(I, oI), (C, oC), (D, lst ys)] (fun y nw' => J (i + 1) (ys ++ [y]) nw')) E' s)
    (fin : ∀ s ys nw, S s → J items.length ys nw → Fin s ys nw) : GSrc w A h₀ L m env elt iter x px scope cl pos Fin (.ref p) s₁ := by
  intro E RR hRR
  have hm0 := hm _ _ _ j0
  have hlt : p < s₁.heap.objs.size := Heap.lt_size (N _ hm0).1
  refine acc_iter (X.keeps F.keep) (acc_inst N hm0 hdx) ?_
  have up : ∀ b o, s₁.heap.get? b = some o → (s₁.heap.push { cls := .type "list_iterator", data := .fields #[.ref p, .int 0 0] }).get? b = some o := fun b o e => Heap.get?_push_of_some _ e
  refine block_G (s₂ := { s₁ with heap := s₁.heap.push { cls := .type "list_iterator", data := .fields #[.ref p, .int 0 0] } }) hS (seq_walks (it := s₁.heap.objs.size) (items := items.toArray) hh (Nat.ne_of_lt hlt)) (by rw [List.size_toArray]; exact hsz) (fun i h st => by obtain ⟨o, e, _⟩ := st.1; exact ⟨o, e⟩) J
    (fun j ys nw h h' o hj st e e' k N => ?_) hcell hkind hx ⟨⟨_, Heap.get?_push_size _ rfl, rfl, rfl⟩, ⟨_, nn, up _ _ (N _ hm0).1, rfl⟩⟩ (fun b hb => ?_)
    (F.keeps up) (N.grown up) (Nat.ne_of_lt F.ns.lt) (next_is_new F) (fun p hp => Nat.ne_of_lt (Heap.lt_size (N p hp).1)) j0 (hS s₁ (s₁.heap.push { cls := .type "list_iterator", data := .fields #[.ref p, .int 0 0] }) s₁.toks hs)
    (fun i v ys nw oI oC C D m₂ s E' hs hi hj hp hC hmx _ hF hN ho hne _ _ => ht i v ys nw _ oI oC C D m₂ s E' hs (by rw [List.size_toArray] at hi; exact hi) hj (by rw [List.getElem?_toArray] at hp; exact hp) hC hmx hF hN ho hne)
    (fun D C s m' ys nw hs hF hN o1 hns c0 d0 cl dl cd oc hj => hRR D C s m' ys nw hF hN o1 hns c0 d0 cl dl cd oc (fin s ys nw hs (by rw [List.size_toArray] at hj; exact hj)))
  · refine hide9 fun C9 k9 => ?_
    obtain ⟨⟨oI, hoI, hcI, hdI⟩, _⟩ := st
    refine k9 ?_
    clear k9
    rw [hoI] at e
    cases e
    exact ⟨⟨_, e', hcI, hdI⟩, ⟨_, nn, (N _ (hm _ _ _ hj)).1, rfl⟩⟩
  · show b < (s₁.heap.push _).objs.size
    rw [Heap.size_push]
    rcases List.mem_cons.mp hb with rfl | hb
    · exact Nat.lt_succ_self _
    · rw [List.mem_singleton.mp hb]; exact Nat.lt_succ_of_lt hlt
/-- over a list of the ledger; what bears the data is added to it -/
theorem gListD_of {ax : Addr} {vs : List Value} {nn : Nat} (hcell : ∀ y ∈ scope.names, y.2 ≠ .cell) (hkind : scope.kind = .function) (hx : scope.names.lookup x = some .local) (hS : Stable S) (hs : S s₁) (hh : A.handled = none) (F : Fr h₀ L s₁.heap m) (N : News h₀ L s₁.heap news) (hm : (ax, listOf vs.toArray nn) ∈ news) (hsz : vs.length ≤ sizeLine) (B : List (Addr × Obj)) (D : Nat → List Dat) (D0 : D 0 = [])
    (ht : ∀ i v ys tls I oI oC C D9 m₂ s (E' : Value → Shared → Prop), S s → i < vs.length → DatAll (tls ++ B) ys (D i) → vs[i]? = some v → NsObj oC m₂ → m₂ x = some v → Fr h₀ L s.heap m → News h₀ L s.heap ((I, oI) :: (C, oC) :: (D9, lst ys) :: (tls ++ news)) → (∀ p ∈ tls ++ news, @Ne Nat p.1 I ∧ @Ne Nat p.1 C ∧ @Ne Nat p.1 D9) → (@Ne Nat I C ∧ @Ne Nat I D9 ∧ @Ne Nat C D9) →
      wpAny (model PG w) A (eval elt (compEnvC scope cl C env)) (GEnd h₀ L m S [(I, oI), (C, oC), (D9, lst ys)] (fun y nw' => ∃ tls', nw' = tls' ++ news ∧ DatAll (tls' ++ B) (ys ++ [y]) (D (i + 1)))) E' s)
    (fin : ∀ s ys tls, S s → DatAll (tls ++ B) ys (D vs.length) → Fin s ys (tls ++ news)) : GSrc w A h₀ L m env elt iter x px scope cl pos Fin (.ref ax) s₁ := by
  refine gList_of (nn := nn) hcell hkind hx hS hs hh F N hsz (fun i ys nw => ∃ tls, nw = tls ++ news ∧ DatAll (tls ++ B) ys (D i)) (fun i ys nw h => ?_) ⟨[], rfl, by rw [D0]; exact .nil⟩ ?_ (fun s ys nw hs h => ?_)
  · obtain ⟨tls, rfl, _⟩ := h
    exact List.mem_append.mpr (.inr hm)
  · intro i v ys nw I oI oC C D9 m₂ s E' hs hi hj
    obtain ⟨tls, rfl, hd⟩ := hj
    exact ht i v ys tls I oI oC C D9 m₂ s E' hs hi hd
  · obtain ⟨tls, rfl, hd⟩ := h
    exact fin s ys tls hs hd
/-- over an instance of the list's subclass: its items, as they are; the ledger stays -/
theorem gAccI_of {p dx : Addr} {items : List Value} {nn e0 : Nat} {es : List DictEntry} (hcell : ∀ y ∈ scope.names, y.2 ≠ .cell) (hkind : scope.kind = .function) (hx : scope.names.lookup x = some .local) (hS : Stable S) (hs : S s₁) (hh : A.handled = none) (X : (Mine.frag.heap_1 w.params).In h₀) (F : Fr h₀ L s₁.heap m) (N : News h₀ L s₁.heap news) (hm : (p, accO dx items nn) ∈ news) (hdx : (dx, dictOf es e0) ∈ news) (hsz : items.length ≤ sizeLine)
    (ht : ∀ i v I oI oC C D9 m₂ s (E' : Value → Shared → Prop), S s → i < items.length → items[i]? = some v → NsObj oC m₂ → m₂ x = some v → Fr h₀ L s.heap m → News h₀ L s.heap ((I, oI) :: (C, oC) :: (D9, lst (items.take i)) :: news) → (∀ p ∈ news, @Ne Nat p.1 I ∧ @Ne Nat p.1 C ∧ @Ne Nat p.1 D9) →
      wpAny (model PG w) A (eval elt (compEnvC scope cl C env)) (GEnd h₀ L m S [(I, oI), (C, oC), (D9, lst (items.take i))] (fun y nw' => y = v ∧ nw' = news)) E' s)
    (fin : ∀ s, S s → Fin s items news) : GSrc w A h₀ L m env elt iter x px scope cl pos Fin (.ref p) s₁ := by
  refine gAcc_of hcell hkind hx hS hs hh X F N hsz (fun i ys nw => ys = items.take i ∧ nw = news) (fun i ys nw h => h.2 ▸ hm) hdx ⟨rfl, rfl⟩ ?_ (fun s ys nw hs h => ?_)
  · rintro i v ys nw I oI oC C D9 m₂ s E' hs hi ⟨rfl, rfl⟩ hv hC hmx hF hN ho _
    refine wpAny_mono (ht i v I oI oC C D9 m₂ s E' hs hi hv hC hmx hF hN ho) (fun y s' h => ?_) fun _ _ e => e
    refine hide9 fun C9 k9 => ?_
    obtain ⟨nw', a1, a2, a3, a4, rfl, rfl⟩ := h
    refine k9 ?_
    clear k9
    exact ⟨_, a1, a2, a3, a4, (take_snoc hv).symm, rfl⟩
  · obtain ⟨rfl, rfl⟩ := h
    rw [List.take_length]
    exact fin s hs
end
theorem mem_big {a b c d e f x : Addr × Obj} {tls t2 big : List (Addr × Obj)} (h : x ∈ big) : x ∈ a :: b :: c :: (tls ++ (d :: e :: f :: (t2 ++ big))) := by
  simp only [List.mem_cons, List.mem_append]
  exact .inr (.inr (.inr (.inr (.inr (.inr (.inr (.inr h)))))))
theorem sub_g3 {a b c t : Addr × Obj} {r : List (Addr × Obj)} : ∀ p ∈ [a, b, c] ++ (t :: r), p ∈ t :: a :: b :: c :: r := by simp +contextual [or_imp]
theorem mem_g3 {a b c : Addr × Obj} {r : List (Addr × Obj)} : ∀ p ∈ [a, b, c], p ∈ a :: b :: c :: r := by simp +contextual [or_imp]
theorem mem_g3' {a b c : Addr × Obj} {r : List (Addr × Obj)} : ∀ p ∈ r, p ∈ a :: b :: c :: r := by simp +contextual [or_imp]
theorem ok_due (P : LawP) (stop k : Nat) : kqdOk 8 (dueD P stop k) = true := by
  unfold dueD
  simp only [kqdOk, List.all_eq_true]
  intro d hd
  obtain ⟨b, _, rfl⟩ := List.mem_map.mp hd
  exact ok_pc _ _ _
theorem law_sub6 {d du p x : Addr × Obj} {tls t2 big : List (Addr × Obj)} {h₀ h : Heap} {L : Addr} (N : News h₀ L h (d :: (tls ++ (du :: p :: x :: (t2 ++ big))))) : News h₀ L h (x :: du :: p :: (t2 ++ big)) := news_sub N (by simp +contextual [or_imp])
end Mine
end

section
open PySem PySem.W PySem.Calls PyProof.Rows PyProof.Rows.LCg PyProof.Rows.LCt
set_option maxRecDepth 100000
namespace Mine
noncomputable def lenP (P : LawP) (b : Nat) : Int := ((b + (P.sh b).natAbs : Nat) : Int)
noncomputable def valP (P : LawP) (stop k : Nat) : Int := (k : Int) + ((pileL P stop k).map (lenP P)).sum
theorem pre_list (f : Nat → Int) (l : List Nat) : ∀ i, i ≤ l.length → preSum (fun j => f (l.getD j 0)) i = ((l.take i).map f).sum
  | 0, _ => by simp [preSum]
  | i + 1, h => by
    have hx : l[i]? = some l[i] := List.getElem?_eq_getElem h
    rw [preSum, pre_list f l i (by omega), take_snoc hx, List.map_append, List.sum_append]
    simp [List.getD_eq_getElem?_getD, hx]
theorem lenP_bd {P : LawP} {stop k : Nat} (hst : stop ≤ 17) (hsh : ∀ b, (P.sh b).natAbs < 10) : ∀ l : List Nat, (∀ b ∈ l, b < stop) → 0 ≤ (l.map (lenP P)).sum ∧ (l.map (lenP P)).sum ≤ 30 * l.length
  | [], _ => by simp
  | b :: l, h => by
    have h1 := lenP_bd (k := k) hst hsh l fun c hc => h c (.tail _ hc)
    have h2 := h b (.head _)
    have h3 := hsh b
    rw [List.map_cons, List.sum_cons]
    unfold lenP at *
    simp only [List.length_cons]
    omega
theorem pileL_lt {P : LawP} {stop k : Nat} : ∀ b ∈ pileL P stop k, b < stop := fun b hb => List.mem_range.mp (List.mem_filter.mp hb).1
theorem pileL_len {P : LawP} {stop k : Nat} : (pileL P stop k).length ≤ stop := by
  unfold pileL
  exact Nat.le_trans (List.length_filter_le _ _) (by simp)
theorem valP_bd {P : LawP} {stop k : Nat} (hst : stop ≤ 17) (hsh : ∀ b, (P.sh b).natAbs < 10) (hk : k ≤ 3) : 0 ≤ valP P stop k ∧ valP P stop k < 1000 := by
  have h1 := lenP_bd (k := k) hst hsh (pileL P stop k) pileL_lt
  have h2 := pileL_len (P := P) (stop := stop) (k := k)
  unfold valP
  omega
theorem sh_lt {P : LawP} (hP : P.Ok) (b : Nat) : (P.sh b).natAbs < 10 := by
  rcases Int.lt_or_le 0 P.size with h | h
  · exact (sh_sd (sd := 1) hP (.inl ⟨h, rfl⟩) b).2
  · exact (sh_sd (sd := -1) hP (.inr ⟨by omega, rfl⟩) b).2
/-- the items of a pile: where its pieces lie -/
theorem pile_items {n : List (Addr × Obj)} {vs : List Value} {sh : Nat → Int} {l : List Nat} (h : DatAll n vs (l.map (pcD blS xsS sh))) : ∃ (Ts : Nat → Addr) (tx ty : Nat → Tok), ∀ j, j < vs.length → vs[j]? = some (.ref (Ts j)) ∧ ∃ k, (Ts j, ({ cls := .type "tuple", data := .seq #[.str (blS (l.getD j 0)) (tx j), .str (xsS (sh (l.getD j 0)).natAbs) (ty j)] k } : Obj)) ∈ n := by
  have hl : vs.length = l.length := by have := h.length; simpa using this
  have key : ∀ j, ∃ t : Addr × Tok × Tok, j < vs.length → vs[j]? = some (.ref t.1) ∧ ∃ k, (t.1, ({ cls := .type "tuple", data := .seq #[.str (blS (l.getD j 0)) t.2.1, .str (xsS (sh (l.getD j 0)).natAbs) t.2.2] k } : Obj)) ∈ n := by
    intro j
    by_cases hj : j < vs.length
    · obtain ⟨v, hv, hd⟩ := h.get (k := j) (by rw [List.length_map, ← hl]; exact hj)
      rw [List.getElem_map] at hd
      have e : l.getD j 0 = l[j] := by rw [List.getD_eq_getElem?_getD, List.getElem?_eq_getElem (by omega)]; rfl
      refine hide9 fun C9 k9 => ?_
      obtain ⟨T, k, t1, t2, e1, hm⟩ := inv_strs hd
      refine k9 ?_
      clear k9
      rw [← e] at hm
      exact ⟨(T, t1, t2), fun _ => ⟨e1 ▸ hv, k, hm⟩⟩
    · exact ⟨(0, 0, 0), fun h => absurd h hj⟩
  obtain ⟨f, hf⟩ := Classical.skolem.mp key
  exact ⟨fun j => (f j).1, fun j => (f j).2.1, fun j => (f j).2.2, hf⟩
theorem ints_of_dats {n : List (Addr × Obj)} : ∀ {vs : List Value} {ns : List Int}, DatAll n vs (ns.map .int) → IntsAre vs ns
  | [], [], _ => .nil
  | _ :: _, [], h => nomatch h
  | [], _ :: _, h => nomatch h
  | v :: vs, k :: ns, h => by
    cases h with
    | cons h1 h2 =>
      cases h1
      exact .cons _ _ (ints_of_dats h2)
theorem dats_of_ints : ∀ {vs : List Value} {ns : List Int}, IntsAre vs ns → DatAll [] vs (ns.map .int)
  | _, _, .nil => .nil
  | _, _, .cons i t h => .cons (.int i t) (dats_of_ints h)
section
variable {w : World} {A : Around} {E : Value → Shared → Prop} {s : Shared} {h₀ : Heap} {L a b : Addr} {m : Str → Option Value} {env : Env}
theorem eq_sameD {prog : Program} {news n₁ n₂ : List (Addr × Obj)} {xs ys : List Value} {ka kb : Nat} {ds es : List Dat} {Q : Value → Shared → Prop} (N : News h₀ L s.heap news) (ma : (a, listOf xs.toArray ka) ∈ news) (Da : DatAll n₁ xs ds) (sa : ∀ p ∈ n₁, p ∈ news) (mb : (b, listOf ys.toArray kb) ∈ news) (Db : DatAll n₂ ys es) (sb : ∀ p ∈ n₂, p ∈ news)
    (ha : ∀ d ∈ ds, kqdOk 8 d = true) (hu : A.units + 64 < cLine) (he : ds = es) (h : Q (.bool true) s) : wpAny (model prog w) A (compareOp .Eq (.ref a) (.ref b)) Q E s := by
  subst he
  refine kqd_eq N ma rfl rfl Da sa mb rfl rfl Db sb ha ha hu ?_
  rw [decide_true_any rfl]; exact h
variable {elt iter : Expr} {x : Str} {px : Pos} {scope : Scope} {cl : List (Str × Addr)} {pos : Pos} {Fin : Shared → List Value → List (Addr × Obj) → Prop} {s₁ : Shared} {base : List (Addr × Obj)} {S : Shared → Prop}
/-- over a list of the ledger; the table of one code is filled on the way, and ints come out -/
theorem gListT_of {ax : Addr} {vs : List Value} {nn : Nat} {ps0 : Array Value} (hcell : ∀ y ∈ scope.names, y.2 ≠ .cell) (hkind : scope.kind = .function) (hx : scope.names.lookup x = some .local) (hS : Stable S) (hs : S s₁) (hh : A.handled = none) (F : Fr h₀ L s₁.heap m) (N : News h₀ L s₁.heap ((63, tabObj ps0) :: base)) (G0 : GT pLen ps0) (hm : (ax, listOf vs.toArray nn) ∈ base) (hsz : vs.length ≤ sizeLine) (val : Nat → Int)
    (ht : ∀ i v ys ps I oI oC C D9 m₂ s (E' : Value → Shared → Prop), S s → i < vs.length → GT pLen ps → IntsAre ys ((List.range i).map val) → vs[i]? = some v → NsObj oC m₂ → m₂ x = some v → Fr h₀ L s.heap m → News h₀ L s.heap ((I, oI) :: (C, oC) :: (D9, lst ys) :: ((63, tabObj ps) :: base)) → (∀ p ∈ (63, tabObj ps) :: base, @Ne Nat p.1 I ∧ @Ne Nat p.1 C ∧ @Ne Nat p.1 D9) → (@Ne Nat I C ∧ @Ne Nat I D9 ∧ @Ne Nat C D9) →
      wpAny (model PG w) A (eval elt (compEnvC scope cl C env)) (GEnd h₀ L m S [(I, oI), (C, oC), (D9, lst ys)] (fun y nw' => ∃ ps', nw' = (63, tabObj ps') :: base ∧ GT pLen ps' ∧ IntsAre (ys ++ [y]) ((List.range (i + 1)).map val))) E' s)
    (fin : ∀ s ys ps, S s → GT pLen ps → IntsAre ys ((List.range vs.length).map val) → Fin s ys ((63, tabObj ps) :: base)) : GSrc w A h₀ L m env elt iter x px scope cl pos Fin (.ref ax) s₁ := by
  refine gList_of (nn := nn) hcell hkind hx hS hs hh F N hsz (fun i ys nw => ∃ ps, nw = (63, tabObj ps) :: base ∧ GT pLen ps ∧ IntsAre ys ((List.range i).map val)) (fun i ys nw h => ?_) ⟨ps0, rfl, G0, .nil⟩ ?_ (fun s ys nw hs h => ?_)
  · obtain ⟨ps, rfl, _⟩ := h
    exact .tail _ hm
  · intro i v ys nw I oI oC C D9 m₂ s E' hs hi hj
    refine hide9 fun C9 k9 => ?_
    obtain ⟨ps, rfl, hg, hd⟩ := hj
    refine k9 ?_
    clear k9
    exact ht i v ys ps I oI oC C D9 m₂ s E' hs hi hg hd
  · refine hide9 fun C9 k9 => ?_
    obtain ⟨ps, rfl, hg, hd⟩ := h
    refine k9 ?_
    clear k9
    exact fin s ys ps hs hg hd
theorem sub_len {p d x I C D : Addr × Obj} {r : List (Addr × Obj)} : ∀ q ∈ [I, C, D] ++ (x :: r), q ∈ p :: d :: x :: (I :: C :: D :: r) := by simp +contextual [or_imp]
theorem news_len {p d x I C D : Addr × Obj} {r : List (Addr × Obj)} {h : Heap} (N : News h₀ L h (I :: C :: D :: (x :: r))) (hp : p ∈ r) (hd : d ∈ r) : News h₀ L h (p :: d :: x :: (I :: C :: D :: r)) := by
  intro q hq
  simp only [List.mem_cons] at hq
  rcases hq with rfl | rfl | rfl | rfl | rfl | rfl | h
  · exact N _ (.tail _ (.tail _ (.tail _ (.tail _ hp))))
  · exact N _ (.tail _ (.tail _ (.tail _ (.tail _ hd))))
  · exact N _ (.tail _ (.tail _ (.tail _ (.head _))))
  · exact N _ (.head _)
  · exact N _ (.tail _ (.head _))
  · exact N _ (.tail _ (.tail _ (.head _)))
  · exact N _ (.tail _ (.tail _ (.tail _ (.tail _ h))))
theorem off63 {p d I C D du pl : Addr × Obj} {t2 big : List (Addr × Obj)} {ps : Array Value} {h : Heap} (N : News h₀ L h (p :: d :: (63, tabObj ps) :: (I :: C :: D :: du :: pl :: (t2 ++ big)))) (hp : p.1 ≠ 63) (hd : d.1 ≠ 63) (hI : I.1 ≠ 63) (hC : C.1 ≠ 63) (hD : D.1 ≠ 63) (hdu : du.2.cls ≠ .none) (hpl : pl.2.cls ≠ .none) (ht : ∀ x ∈ t2, SeqP x) (hb : ∀ x ∈ big, x.1 ≠ 63) :
    ∀ x ∈ p :: d :: (I :: C :: D :: du :: pl :: (t2 ++ big)), x.1 ≠ 63 := by
  have m63 : ((63 : Addr), tabObj ps) ∈ p :: d :: (63, tabObj ps) :: (I :: C :: D :: du :: pl :: (t2 ++ big)) := .tail _ (.tail _ (.head _))
  intro x hx
  rcases List.mem_cons.mp hx with rfl | hx
  · exact hp
  rcases List.mem_cons.mp hx with rfl | hx
  · exact hd
  rcases List.mem_cons.mp hx with rfl | hx
  · exact hI
  rcases List.mem_cons.mp hx with rfl | hx
  · exact hC
  rcases List.mem_cons.mp hx with rfl | hx
  · exact hD
  rcases List.mem_cons.mp hx with rfl | hx
  · exact tab_apart N m63 (.tail _ (.tail _ (.tail _ (.tail _ (.tail _ (.tail _ (.head _))))))) hdu
  rcases List.mem_cons.mp hx with rfl | hx
  · exact tab_apart N m63 (.tail _ (.tail _ (.tail _ (.tail _ (.tail _ (.tail _ (.tail _ (.head _)))))))) hpl
  rcases List.mem_append.mp hx with hx | hx
  · obtain ⟨vs, n, e⟩ := ht x hx
    refine Ne.symm (ne_data N m63 (.tail _ (.tail _ (.tail _ (.tail _ (.tail _ (.tail _ (.tail _ (.tail _ (List.mem_append.mpr (.inl hx)))))))))) ?_)
    rw [e]
    intro q; cases q
  · exact hb x hx
theorem off_len {I C D : Addr} {ps ps' : Array Value} {base : List (Addr × Obj)} (h : ∀ p ∈ (63, tabObj ps) :: base, @Ne Nat p.1 I ∧ @Ne Nat p.1 C ∧ @Ne Nat p.1 D) : ∀ p ∈ (63, tabObj ps') :: base, @Ne Nat p.1 I ∧ @Ne Nat p.1 C ∧ @Ne Nat p.1 D := by
  intro p hp
  rcases List.mem_cons.mp hp with rfl | hp
  · exact h (63, tabObj ps) (.head _)
  · exact h p (.tail _ hp)
theorem len_val {P : LawP} {stop i n : Nat} {k : Int} (hk : k = (i : Int)) (hn : n = (pileL P stop i).length) : k + preSum (fun j => (((blS ((pileL P stop i).getD j 0)).length + (xsS (P.sh ((pileL P stop i).getD j 0)).natAbs).length : Nat) : Int)) n = valP P stop i := by
  subst hk; subst hn
  have e : (fun j => (((blS ((pileL P stop i).getD j 0)).length + (xsS (P.sh ((pileL P stop i).getD j 0)).natAbs).length : Nat) : Int)) = fun j => lenP P ((pileL P stop i).getD j 0) := by
    funext j
    rw [blS_len, xsS_len]; rfl
  rw [e, pre_list _ _ _ (Nat.le_refl _), List.take_length]; rfl
theorem pileL_at {P : LawP} {stop i j : Nat} (hst : stop ≤ 17) (hsh : ∀ b, (P.sh b).natAbs < 10) : (blS ((pileL P stop i).getD j 0)).length + (xsS (P.sh ((pileL P stop i).getD j 0)).natAbs).length ≤ 1000 := by
  rw [blS_len, xsS_len]
  have h1 := hsh ((pileL P stop i).getD j 0)
  have h2 : (pileL P stop i).getD j 0 ≤ 17 := by
    rw [List.getD_eq_getElem?_getD]
    cases e : (pileL P stop i)[j]? with
    | none => exact Nat.zero_le _
    | some b =>
      have := pileL_lt b (List.mem_of_getElem? e)
      show b ≤ 17
      omega
  omega
theorem false_nil {tls : List (Addr × Obj)} (h : ∀ x ∈ tls, False) : tls = [] := by
  cases tls with
  | nil => rfl
  | cons a l => exact (h a (.head _)).elim
theorem due_at {n : List (Addr × Obj)} {ys : List Value} {P : LawP} {stop K i : Nat} {y : Value} (h : DatAll n ys ((List.range K).map (dueD P stop))) (hy : ys[i]? = some y) : i < K ∧ ∃ R9 vr kr, y = .ref R9 ∧ (R9, listOf (List.toArray vr) kr) ∈ n ∧ DatAll n vr ((pileL P stop i).map (pcD blS xsS P.sh)) := by
  have hl : ys.length = K := by have := h.length; simpa using this
  have hi : i < K := by have := (List.getElem?_eq_some_iff.mp hy).1; omega
  refine ⟨hi, ?_⟩
  obtain ⟨v, hv, hd⟩ := h.get (k := i) (by simpa using hi)
  rw [hy] at hv
  cases hv
  rw [List.getElem_map, List.getElem_range] at hd
  unfold dueD at hd
  cases hd with
  | list hm hr => exact ⟨_, _, _, rfl, hm, hr⟩
noncomputable def PcAt (P : LawP) (l : List Nat) (i : Nat) (x y : Value) : Prop := ∃ b t u, l[i]? = some b ∧ x = .str (blS b) t ∧ y = .str (xsS (P.sh b).natAbs) u
theorem pcs_at {P : LawP} {n news : List (Addr × Obj)} {vs : List Value} {l : List Nat} (h : DatAll n vs (l.map (pcD blS xsS P.sh))) (hs : ∀ x ∈ n, x ∈ news) (i : Nat) (v : Value) (hv : vs[i]? = some v) : ∃ T x y k, v = .ref T ∧ PcAt P l i x y ∧ (T, ({ cls := .type "tuple", data := .seq #[x, y] k } : Obj)) ∈ news := by
  have hl : vs.length = l.length := by have := h.length; simpa using this
  have hi : i < l.length := by have := (List.getElem?_eq_some_iff.mp hv).1; omega
  refine hide9 fun C9 k9 => ?_
  obtain ⟨Ts, tx, ty, hit⟩ := pile_items h
  refine k9 ?_
  clear k9
  obtain ⟨h1, k, h2⟩ := hit i (by omega)
  rw [hv] at h1
  cases h1
  have e : l.getD i 0 = l[i] := by rw [List.getD_eq_getElem?_getD, List.getElem?_eq_getElem hi]; rfl
  rw [e] at h2
  exact ⟨_, _, _, k, rfl, ⟨l[i], _, _, List.getElem?_eq_getElem hi, rfl, rfl⟩, hs _ h2⟩
theorem news_dup1 {a : Addr × Obj} {R : List (Addr × Obj)} {h : Heap} (N : News h₀ L h R) (ha : a ∈ R) : News h₀ L h (a :: R) := fun p hp => by
  rcases List.mem_cons.mp hp with rfl | hp
  · exact N _ ha
  · exact N _ hp
end
theorem int_dats {P : LawP} {l : List Nat} : l.map (fun b => Dat.int (lenP P b)) = (l.map (lenP P)).map Dat.int := by rw [List.map_map]; rfl
theorem val_dats {P : LawP} {stop n : Nat} : (List.range n).map (fun k => Dat.int (valP P stop k)) = ((List.range n).map (valP P stop)).map Dat.int := by rw [List.map_map]; rfl
end Mine
end

namespace Mine
section
open PySem.Calls
set_option maxHeartbeats 0
theorem kn_postB {M : Model} {A : Around} {cd : PySem.Code} {s s₁ : Shared} {cw : ClaimW} {cl : Str → Option Addr} {mean : ExcName → Option Value} {args : List WData} {tabs : List (Addr × Addr)} (hT : TabsAt tabs s₁.heap)
    (h : codeAny M A cd (fun r s' => ((∃ v d as, r = .ok (.ret v) ∧ (∀ cls, cw.raises args cls = false) ∧ ReadsW cw.records cl s'.heap v d as ∧ cw.post args d args = true ∧
      (cw.unshared = true → as.Nodup ∧ ∀ a ∈ as, (ghostOf s₁.heap tabs).get? a = none)) ∧ (∀ b o, (ghostOf s₁.heap tabs).get? b = some o → s'.heap.get? b = some o) ∧ s'.os = s₁.os ∧ AllBare s'.gens) ∧ GrownAll tabs s'.heap) s) : codeAny M A cd (GoodWG cw cl mean args s₁) s :=
  codeAny_mono h fun r s' ⟨⟨hc, hk, hos, hg⟩, hgr⟩ => by
    have keep : ∀ b o, b ∉ tabs.map (·.2) → s₁.heap.get? b = some o → s'.heap.get? b = some o := fun b o hb e => hk b o (ghost_ne e hb)
    have grown : ∀ b o, b ∈ tabs.map (·.2) → s₁.heap.get? b = some o → isCodeTable s₁.heap b ∧ o = tabObj #[] ∧ ∃ ps, s'.heap.get? b = some (tabObj ps) := fun b o hb e => by
      obtain ⟨q, hq, rfl⟩ := List.mem_map.mp hb
      have e2 := (hT q hq).2
      rw [e] at e2
      exact ⟨((hT q hq).1.tab (hT q hq).2).isCodeTable, Option.some.inj e2, hgr.get q hq⟩
    refine ⟨?_, ⟨fun b o e => ?_, fun b o e => ?_⟩, hos, hg⟩
    · refine hide9 fun C9 k9 => ?_
      obtain ⟨v, d, as, r1, r2, r3, r4, r5⟩ := hc
      refine k9 ?_
      clear k9
      refine .inl ⟨v, d, as, r1, r2, r3, r4, fun q => ⟨(r5 q).1, fun a ha => ?_⟩⟩
      cases q1 : s₁.heap.get? a with
      | none => rfl
      | some o =>
        by_cases hb : a ∈ tabs.map (·.2)
        · refine hide9 fun C9 k9 => ?_
          obtain ⟨_, _, ps, hP⟩ := grown a o hb q1
          refine k9 ?_
          clear k9
          exact absurd ha (readsW_apart hP rfl r3)
        · have e3 := (r5 q).2 a ha
          rw [show (ghostOf s₁.heap tabs).get? a = some o from ghost_ne q1 hb] at e3
          cases e3
    · by_cases hb : b ∈ tabs.map (·.2)
      · refine hide9 fun C9 k9 => ?_
        obtain ⟨ht, rfl, ps, hP⟩ := grown b o hb e
        refine k9 ?_
        clear k9
        exact .inr (.inl ⟨ht, rfl, #[], ps, rfl, by rw [Array.empty_append]; exact hP⟩)
      · exact .inl (keep b o hb e)
    · by_cases hb : b ∈ tabs.map (·.2)
      · refine hide9 fun C9 k9 => ?_
        obtain ⟨_, _, ps, hP⟩ := grown b o hb e
        refine k9 ?_
        clear k9
        exact ⟨_, hP⟩
      · exact ⟨o, keep b o hb e⟩
/-- the end of the law: no line of the walk knows it -/
noncomputable def LEnd (g0 : Heap) (L : Addr) (os : OsState) (f : Flow) (s' : Shared) : Prop := f = .ret (.bool true) ∧ (∃ m, Fr g0 L s'.heap m) ∧ (GrownAt 128 s'.heap ∧ GrownAt 121 s'.heap ∧ GrownAt 163 s'.heap ∧ GrownAt 63 s'.heap) ∧ AllBare s'.gens ∧ s'.os = os
theorem lEnd_mono {M : Model} {A : Around} {t : Sem Flow} {Q : Flow → Shared → Prop} {E : Value → Shared → Prop} {s : Shared} {g0 : Heap} {L : Addr} {os : OsState} (h : wpAny M A t (LEnd g0 L os) E s) (hQ : ∀ s', LEnd g0 L os (.ret (.bool true)) s' → Q (.ret (.bool true)) s') : wpAny M A t Q E s :=
  wpAny_mono h (fun f s' g => by obtain rfl := g.1; exact hQ s' g) fun _ _ e => e
theorem six_of {vs : List Value} {ns : List Int} (h : IntsAre vs ns) (hl : ns.length = 6) : ∃ a b c d e f ta tb tc td te tf, vs = [.int a ta, .int b tb, .int c tc, .int d td, .int e te, .int f tf] := by
  refine hide9 fun C9 k9 => ?_
  obtain ⟨a, b, c, d, e, f, e0⟩ := six_list hl
  refine k9 ?_
  clear k9
  rw [e0] at h
  refine hide9 fun C9 k9 => ?_
  obtain ⟨ta, r1, e1, h⟩ := ints_cons h
  obtain ⟨tb, r2, e2, h⟩ := ints_cons h
  obtain ⟨tc, r3, e3, h⟩ := ints_cons h
  obtain ⟨td, r4, e4, h⟩ := ints_cons h
  obtain ⟨te, r5, e5, h⟩ := ints_cons h
  obtain ⟨tf, r6, e6, h⟩ := ints_cons h
  refine k9 ?_
  clear k9
  exact ⟨a, b, c, d, e, f, ta, tb, tc, td, te, tf, by rw [e1, e2, e3, e4, e5, e6, ints_nil h]⟩
structure Mk (n : Nat) : Prop
section
theorem law_all : PySem.Challenge.rw_wo0040_01.Holds := by
  k_with_none
  (k_with "all here" => first | assumption | ((with_reducible refine List.forall_mem_cons.mpr ⟨?_, ?_⟩); k_ne; k_all) | ((repeat (cases ‹_ ∧ _›)); first | assumption | walk_at "all tail" | walk_at "all raw"))
  (k_with "execs cons" => (k_here; (fail_if_success k_gentoks); (fail_if_success k_made); (try k_fold); (with_reducible refine wpAny_execs_cons ?_); k_fold; (try dsimp only)))
  (k_with "eval Name" => (k_here; (fail_if_success (with_reducible show wpAny _ _ (eval _ (compEnvC _ _ _ _)) _ _ _)); k_dflt (refine' nameX_C ?Nkq ?ckq ?mkq ?dkq ?_ ?akq ?bkq; (case akq => exact Eq.refl _); (case bkq => exact Eq.refl (some _)); (case Nkq => k_asm); (case ckq => exact Eq.refl (some _)); (case mkq => k_mem); (case dkq => k_asm); k_whole)))
  (k_with "eval Name" => (k_here; (fail_if_success (with_reducible show wpAny _ _ (eval _ (compEnvC _ _ _ _)) _ _ _)); k_dflt (refine' nameX_L ?Fkq ?vkq ?_ ?akq ?bkq; (case Fkq => k_asm); (case akq => exact Eq.refl _); (case bkq => exact Eq.refl (some _)); (case vkq => exact Eq.refl (some _)); k_whole)))
  (k_with "callWith ref" => (k_here; (with_reducible show wpAny _ _ (callWith _ (Value.ref (OfNat.ofNat _)) _ _ _) _ _ _); k_dflt (refine' callWith_KW ?k1q ?k2q ?k3q ?_; (case k1q => k_asm); (case k2q => k_is); (case k3q => exact rfl); k_whole)))
  (k_with "callWith ref" => (k_here; (with_reducible show wpAny _ _ (callWith _ (Value.ref (OfNat.ofNat _)) _ _ _) _ _ _); k_dflt (refine' callWith_K0 ?k1q ?k2q ?_; (case k1q => first | with_reducible assumption | exact Frag.In.keeps (by with_reducible assumption) (Fr.keep (by with_reducible assumption)) | k_in); (case k2q => k_is); k_whole)))
  (k_with "callWith ref" => (k_here; (with_reducible show wpAny _ _ (callWith _ (Value.ref (OfNat.ofNat _)) _ _ _) _ _ _); k_dflt (refine' callWith_K ?k1q ?k2q ?_; (case k1q => k_asm); (case k2q => k_is); k_whole)))
  (k_with "all raw" => ((with_reducible rename ∀ p, p ∈ _ → @LT.lt Nat _ (Prod.fst p) _ => h9zq); first | exact rawLt_ne h9zq (by (fail_if_success (fail_if_success (omega (config := {})))); lia) | (clear h9zq; walk_at "all raw")))
  (k_with "all tail" => ((with_reducible rename AllLt _ _ => h9zq); first | exact allLt_ne h9zq (by (fail_if_success (fail_if_success (omega (config := {})))); lia) | (clear h9zq; walk_at "all tail")))
  (k_with "it9" => first | decide | omega)
  (k_with "call ref" => (k_here; (with_reducible show wpAny _ _ (call (Value.ref 171) _ _) _ _ _); refine stop_of ?_))
  (k_with "call ref" => (k_here; (with_reducible show wpAny _ _ (call (Value.ref 161) _ _) _ _ _); refine stop_of ?_))
  (k_with "call ref" => (k_here; (with_reducible show wpAny _ _ (call (Value.ref 166) _ _) _ _ _); refine stop_of ?_))
  (k_with "call ref" => (k_here; (with_reducible show wpAny _ _ (call (Value.ref 176) _ _) _ _ _); refine stop_of ?_))
  (k_with "CompSrc" => (k_here; refine stop_of ?_))
  (k_with "PSrc" => (k_here; refine stop_of ?_))
  (k_with "call builtin:sorted" => (k_here; refine stop_of ?_))
  (k_with "call ref" => (k_here; (with_reducible show wpAny _ _ (call (Value.ref 183) _ _) _ _ _); refine stop_of ?_))
  (k_with "exec Assign cons ListComp" => (k_here; refine stop_of ?_))
  (k_with "compareOp NotEq ref ref" => (k_here; refine stop_of ?_))
  (k_with "XSrc" => (k_here; refine stop_of ?_))
  (k_with "GSrc" => (k_here; refine stop_of ?_))
  (k_with "GEnd" => (k_here; refine stop_of ?_))
  (k_with "compareOp Eq ref ref" => (k_here; refine stop_of ?_))
  (k_with "call builtin:len" => (k_here; refine stop_of ?_))
  (k_with "subscriptTail Name Constant ref int" => (k_here; (with_reducible show wpAny _ _ (subscriptTail _ _ (Value.ref _) (Value.int _ _)) _ _ _); k_dflt (refine' listItem ?Nk263q ?mk263q ?ak263q ?bk263q ?ck263q ?_; (case Nk263q => k_asm); (case mk263q => k_mem); (case ak263q => walk_at "it9"); (case bk263q => walk_at "it9"); (case ck263q => exact rfl))))
  (k_with "call type:enumerate" => (k_here; k_dflt (refine' enumN ?Fk264q ?Nk264q ?mk264q ?_; (case Fk264q => k_asm); (case Nk264q => k_asm); (case mk264q => k_mem); k_whole); intro _ _ _ _ _ _))
  (k_with "eval ListComp" => (k_here; (with_reducible show wpAny _ _ (eval (PySem.Expr.ListComp _ [PySem.Comprehension.mk (PySem.Expr.Tuple _ _ _) _ _ _] _ _) _) _ _ _); k_dflt (refine' ListComp_K ?Fk265q ?tsk265q ?clk265q ?cek265q ?kik265q ?nak265q ?xak265q ?xbk265q ?abk265q ?_ ?hsk265q; (case Fk265q => k_asm); (case tsk265q => first | exact .inl rfl | exact .inr ⟨_, rfl⟩); (case clk265q => with_unfolding_all rfl); (case cek265q => decide); (case kik265q => rfl); (case nak265q => decide); (case xak265q => rfl); (case xbk265q => rfl); (case abk265q => decide); (case hsk265q => exact fun _ => by rfl); k_whole)))
  (k_with "subscriptTail Name Name ref int" => (k_here; (with_reducible show wpAny _ _ (subscriptTail _ _ (Value.ref _) (Value.int _ _)) _ _ _); k_dflt (refine' listItem ?Nk266q ?mk266q ?ak266q ?bk266q ?ck266q ?_; (case Nk266q => k_asm); (case mk266q => k_mem); (case ak266q => walk_at "it9"); (case bk266q => walk_at "it9"); (case ck266q => exact row_item (by assumption) (by omega) (by omega)))))
  (k_with "eval ListComp" => (k_here; (with_reducible show wpAny _ _ (eval (PySem.Expr.ListComp _ [PySem.Comprehension.mk (PySem.Expr.Name _ _) _ [] _] _ _) _) _ _ _); k_dflt (refine' ListComp_G ?Fk267q ?clk267q ?kik267q ?nak267q ?_ ?hsk267q; (case Fk267q => k_asm); (case clk267q => with_unfolding_all rfl); (case kik267q => rfl); (case nak267q => decide); (case hsk267q => exact fun _ => by rfl); k_whole)))
  (k_with "call builtin:len" => (k_here; (with_reducible show wpAny _ _ (call (Value.builtin "len") [Value.str _ _]) _ _ _); (refine len_s (by first | exact xsS_len _ | exact blS_len _) (by omega) ?_); intro _ _))
  (k_with "call builtin:sum" => (k_here; k_dflt (refine' sumN ?Fk269q ?Nk269q ?hhk269q ?mk269q ?ik269q ?_; (case Fk269q => k_asm); (case Nk269q => k_asm); (case hhk269q => with_unfolding_all rfl); (case mk269q => k_mem); (case ik269q => assumption); k_whole); intro _ _ _ _ _))
  (k_with "eval ListComp" => (k_here; (with_reducible rename Mk 2 => mk9zq); refine stop_of ?_))
  (k_with "exec If Compare" => (k_here; (with_reducible rename Mk 5 => mk9zq); refine stop_of ?_))
  (k_with "exec Return some" => (k_here; (with_reducible rename Mk 6 => mk9zq); refine stop_of ?_))
  (k_with "exec Return" => (k_here; (with_reducible rename Mk 6 => mk9zq); refine stop_of ?_))
  w_on
  refine holds_law Mine.said9 fun said => ?_
  clear said
  refine holds_open (q := Mine.frag.view_1) (loose := ["_Accumulator", "bisect_right"]) (Xt := fun s => xlAt Mine.frag.view_1 [] s && recOk (RowW.records (OpenRow.toRowW PySem.Challenge.rw_wo0040_01.row)) s) (XP := XL Mine.frag.view_1 []) (Yf := Hook.obs (kmHook Mine.frag.heap_1 [2, 3, 15, 17, 18, 20, 21, 22, 25, 30, 31, 32, 34, 35, 37, 38, 39, 41, 42, 44, 45, 46, 47, 49, 50, 52, 53, 54, 55, 57, 58, 60, 61, 62, 64, 65, 67, 68, 69, 71, 72, 74, 75, 76, 77, 79, 80, 82, 83, 84, 86, 87, 89, 90, 91, 92, 94, 95, 97, 98, 99, 100, 101, 102, 103, 106, 108, 109, 111, 112, 113, 115, 116, 118, 119, 120, 122, 123, 125, 126, 127, 129, 130, 132, 133, 134, 136, 137, 139, 140, 141, 143, 144, 146, 147, 148, 149, 150, 152, 153, 155, 156, 157, 160, 161, 162, 165, 166, 167, 170, 171, 172, 175, 176, 177, 179, 180, 182, 183, 184, 187, 188] (fun _ => by kernel_rfl) [128, 121, 163, 63])) (Ya := Hook.val (kmHook Mine.frag.heap_1 [2, 3, 15, 17, 18, 20, 21, 22, 25, 30, 31, 32, 34, 35, 37, 38, 39, 41, 42, 44, 45, 46, 47, 49, 50, 52, 53, 54, 55, 57, 58, 60, 61, 62, 64, 65, 67, 68, 69, 71, 72, 74, 75, 76, 77, 79, 80, 82, 83, 84, 86, 87, 89, 90, 91, 92, 94, 95, 97, 98, 99, 100, 101, 102, 103, 106, 108, 109, 111, 112, 113, 115, 116, 118, 119, 120, 122, 123, 125, 126, 127, 129, 130, 132, 133, 134, 136, 137, 139, 140, 141, 143, 144, 146, 147, 148, 149, 150, 152, 153, 155, 156, 157, 160, 161, 162, 165, 166, 167, 170, 171, 172, 175, 176, 177, 179, 180, 182, 183, 184, 187, 188] (fun _ => by kernel_rfl) [128, 121, 163, 63])) (YP := Hook.says (kmHook Mine.frag.heap_1 [2, 3, 15, 17, 18, 20, 21, 22, 25, 30, 31, 32, 34, 35, 37, 38, 39, 41, 42, 44, 45, 46, 47, 49, 50, 52, 53, 54, 55, 57, 58, 60, 61, 62, 64, 65, 67, 68, 69, 71, 72, 74, 75, 76, 77, 79, 80, 82, 83, 84, 86, 87, 89, 90, 91, 92, 94, 95, 97, 98, 99, 100, 101, 102, 103, 106, 108, 109, 111, 112, 113, 115, 116, 118, 119, 120, 122, 123, 125, 126, 127, 129, 130, 132, 133, 134, 136, 137, 139, 140, 141, 143, 144, 146, 147, 148, 149, 150, 152, 153, 155, 156, 157, 160, 161, 162, 165, 166, 167, 170, 171, 172, 175, 176, 177, 179, 180, 182, 183, 184, 187, 188] (fun _ => by kernel_rfl) [128, 121, 163, 63])) (N := 2124) ?hl (Hook.of (kmHook Mine.frag.heap_1 [2, 3, 15, 17, 18, 20, 21, 22, 25, 30, 31, 32, 34, 35, 37, 38, 39, 41, 42, 44, 45, 46, 47, 49, 50, 52, 53, 54, 55, 57, 58, 60, 61, 62, 64, 65, 67, 68, 69, 71, 72, 74, 75, 76, 77, 79, 80, 82, 83, 84, 86, 87, 89, 90, 91, 92, 94, 95, 97, 98, 99, 100, 101, 102, 103, 106, 108, 109, 111, 112, 113, 115, 116, 118, 119, 120, 122, 123, 125, 126, 127, 129, 130, 132, 133, 134, 136, 137, 139, 140, 141, 143, 144, 146, 147, 148, 149, 150, 152, 153, 155, 156, 157, 160, 161, 162, 165, 166, 167, 170, 171, 172, 175, 176, 177, 179, 180, 182, 183, 184, 187, 188] (fun _ => by kernel_rfl) [128, 121, 163, 63])) (Hook.keeps (kmHook Mine.frag.heap_1 [2, 3, 15, 17, 18, 20, 21, 22, 25, 30, 31, 32, 34, 35, 37, 38, 39, 41, 42, 44, 45, 46, 47, 49, 50, 52, 53, 54, 55, 57, 58, 60, 61, 62, 64, 65, 67, 68, 69, 71, 72, 74, 75, 76, 77, 79, 80, 82, 83, 84, 86, 87, 89, 90, 91, 92, 94, 95, 97, 98, 99, 100, 101, 102, 103, 106, 108, 109, 111, 112, 113, 115, 116, 118, 119, 120, 122, 123, 125, 126, 127, 129, 130, 132, 133, 134, 136, 137, 139, 140, 141, 143, 144, 146, 147, 148, 149, 150, 152, 153, 155, 156, 157, 160, 161, 162, 165, 166, 167, 170, 171, 172, 175, 176, 177, 179, 180, 182, 183, 184, 187, 188] (fun _ => by kernel_rfl) [128, 121, 163, 63])) (fun s e => xl_of s (Bool.and_eq_true_iff.mp e).1) XL.keeps (by rfl) (by rfl) (by rfl) (fun s e => recFacts_of (Bool.and_eq_true_iff.mp e).2) (by rfl) Mine.said_row9 (by decide +kernel) ⟨rfl, rfl, rfl, rfl, rfl, by decide +kernel⟩ ?hw ?hc
  case hl => exact Mine.hl9
  case hw => w_witness2
  k_fill
  intro w s₀ s₁ mg mb G Y fa o pm cd doc dV kV ho hd hcd hD hmg hg args vals as hpre hlay hrd hwl hlo
  have KX := km_in_of Y
  km_tabs Y
  have X := (Ground.X G).1
  have V := (Ground.X G).2
  refine Ground.open G ?_
  intro T B D TE TW
  try (refine guard_noD D (by decide +kernel) ?_; clear D)
  have hT9 : TabsAt ([(132,128),(125,121),(165,163),(67,63)] : List (Addr × Addr)) _ := List.forall_mem_cons.mpr ⟨⟨codeHd_of_K (c := 132) (P := 128) KX (by kernel_rfl), hT8 128 (by k_mem)⟩, List.forall_mem_cons.mpr ⟨⟨codeHd_of_K (c := 125) (P := 121) KX (by kernel_rfl), hT8 121 (by k_mem)⟩, List.forall_mem_cons.mpr ⟨⟨codeHd_of_K (c := 165) (P := 163) KX (by kernel_rfl), hT8 163 (by k_mem)⟩, List.forall_mem_cons.mpr ⟨⟨codeHd_of_K (c := 67) (P := 63) KX (by kernel_rfl), hT8 63 (by k_mem)⟩, fun _ h => nomatch h⟩⟩⟩⟩
  clear hmg
  wrow_args hpre hlay hrd hwl hlo
  all_goals (
    first | refine callC_kw (enter_call ?_) | refine enter_call ?_
    w_top on
    refine kn_postB hT9 ?_
    w_call any ho hd hcd hD T F
    clear hd
    kn_ghosts F T
    k_drop
    skip)
  all_goals try k_fold
  rename_i ns8 q1 q2 q3 q4 q5 as1 as2 sA vs8 as3 q8 q9 q10 q11 hI8 q6 hz8 q7 h1 tk1 oF oR oK cF cR cK q12 X8 T8 B8 F8 cP1 cP2 cP3 N8 l8
  rename CodeHd _ (Prod.fst (67, _)) _ => cP4
  have hS8 := lifted
  clear lifted
  clear q12 hD q7 q6 q11 q10 q9 q8 q5 q4 q3 q2 q1 G Y ho hcd hT8 X V T B TE TW hT9
  dsimp only at cP1 cP2 cP3 cP4
  refine lEnd_mono (g0 := ghostOf s₁.heap [(132,128),(125,121),(165,163),(67,63)]) (L := s₁.heap.objs.size) (os := s₁.os) ?_ (fun s' h => ?_)
  rotate_left
  · refine hide9 fun C9 k9 => ?_
    obtain ⟨_, ⟨m, F⟩, ⟨g1, g2, g3, g4⟩, hga, hos⟩ := h
    refine k9 ?_
    clear k9
    refine ⟨⟨⟨_, _, [], rfl, fun _ => rfl, ReadsW.bool true, ?_, ?_⟩, F.keep, hos, hga⟩, g1, g2, g3, g4, trivial⟩
    · first | rfl | kernel_rfl | decide +kernel
    · exact fun _ => ⟨.nil, fun a ha => nomatch ha⟩
  generalize hg0 : ghostOf s₁.heap [(132,128),(125,121),(165,163),(67,63)] = g0 at *
  clear hg0
  generalize hL0 : s₁.heap.objs.size = L0 at *
  have mk9 : Mk 1 := ⟨⟩
  have cF' : oF.data = .cell none := cF
  have cR' : oR.data = .cell none := cR
  have cK' : oK.data = .cell none := cK
  clear cF cR cK
  obtain ⟨m0, F7⟩ : ∃ m0, Fr g0 L0 h1 (ovr [(Str.ofString "script", .ref sA)] m0) := ⟨_, fr_ovr F8 _ (by
    intro p hp
    rcases List.mem_cons.mp hp with rfl | hp
    · rfl
    · cases hp)⟩
  dsimp only [ovr] at F7
  clear F8
  k_steps
  unfold Stop
  rename Fr _ _ _ _ => F8
  rename News _ _ _ _ => N8
  refine c_numbers (H := ⟨by k_asm, F8, by k_asm, N8, by k_asm, by ktr_room, by ktr_units⟩) (hS := hS8) (hI := hI8) (hz := by omega) (hret := ?_) (gd := _) (cn := _) (nms := _) (mr := _) (a := _) (ccd := _) (cl := _) (E := _)
  intro D9 ws9 ms9 h9 t9 k9 hI9 hm9 F9 N9
  refine hide9 fun C9 k9 => ?_
  obtain ⟨na, nb, nc, nd, ne, nf, ta, tb, tc, td, te, tf, rfl⟩ := six_of hI9 hm9
  refine k9 ?_
  clear k9
  clear F8 N8 hI9 hm9 hI8 hz8 hS8
  have d1 : @Ne Nat D9 (L0 + 1 + 1 + 1) := fun e => by subst e; have := news_same N9 (.head _) (.tail _ (.head _)); rw [← this] at cF'; cases cF'
  have d2 : @Ne Nat D9 (L0 + 1 + 1) := fun e => by subst e; have := news_same N9 (.head _) (.tail _ (.tail _ (.head _))); rw [← this] at cR'; cases cR'
  have d3 : @Ne Nat D9 (L0 + 1) := fun e => by subst e; have := news_same N9 (.head _) (.tail _ (.tail _ (.tail _ (.head _)))); rw [← this] at cK'; cases cK'
  refine hide9 fun C9 k9 => ?_
  obtain ⟨P, K, mu, hP, hK, hmu, hdis, hper, hKz, e1, e2, e3, e4, e5, e6⟩ := law_params na nb nc nd ne nf
  refine k9 ?_
  clear k9
  have hz0 : P.size ≠ 0 := by rcases hP.z with h | h <;> omega
  rw [e1] at hz0
  k_steps
  unfold Stop
  rename Fr _ _ _ _ => F8
  rename News _ _ _ _ => N8
  rename _ ∧ _ => l9
  rename Obj.data _ = _ => cK'
  rename Obj => oK8
  rename Addr => tA8
  have cK2 := cK'.trans (congrArg (fun z => Data.cell (some (Value.int z _))) e2.symm)
  clear cK'
  k_dflt (refine' c_told2 (P := P) (hP := hP) (K := K) (mu := mu) (e1 := e1) (e2 := e2) (e3 := e3) (e4 := e4) (e5 := e5) (e6 := e6) (H := ⟨?b_B, ?b_F, ?b_X, ?b_N, ?b_T, ?b_hd, ?b_hu⟩) (hK := hK) (hmu := hmu) (hdis := hdis) (hper := hper) (hterms := ?h_t) (hret := ?_) (gd := _) (cn := _) (nms := _) (mr := _) (a := _) (ccd := _) (cl := _) (tz := _) (tkk := _) (ts := _) (E := _))
  case b_B => k_asm
  case b_F => exact F8
  case b_X => k_asm
  case b_N => exact N8
  case b_T => k_asm
  case b_hd => ktr_room
  case b_hu => ktr_units
  case h_t => exact .head _
  k_whole
  intro i0 T9 rowA vs9 ep9 h9 t9 u1 u2 hI0 hI9 F9 N9
  have r1 : @Ne Nat T9 (L0 + 1 + 1) := cell_apart N9 (.tail _ (.tail _ (.tail _ (.tail _ (.tail _ (.head _)))))) cR' (.head _) (fun v h => by cases h)
  have r2 : @Ne Nat rowA (L0 + 1 + 1) := cell_apart N9 (.tail _ (.tail _ (.tail _ (.tail _ (.tail _ (.head _)))))) cR' (.tail _ (.head _)) (fun v h => by cases h)
  clear F8 N8
  (rename Mk _ => mk9; clear mk9)
  have mk9 : Mk 2 := ⟨⟩
  k_steps
  unfold Stop
  rename Fr _ _ _ _ => F8
  rename News _ _ _ _ => N8
  rename Obj.data _ = Data.cell (some (Value.ref _)) => cR2
  rename Obj => oR8
  have N9 := law_sub1 N8
  have hlo := hI0.lo
  have hhi := hI0.hi
  have hn9 : i0 + (K - mu) < (2 * (if P.size < 0 then -P.size else P.size)).toNat := by
    generalize (if P.size < 0 then -P.size else P.size) = z9 at hKz
    omega
  have hres := walk_told hP hmu hdis hper hI0 hn9
  have hap := law_apart N9 (fun h => by cases h) (fun h => by cases h) (by dsimp only; omega) (by dsimp only; omega) (by dsimp only; omega)
  clear N8
  k_dflt (refine' c_walked2 (P := P) (hP := hP) (e1 := e1) (e2 := rfl) (e3 := e3) (e4 := e4) (e5 := e5) (e6 := e6) (H := ⟨?b_B, ?b_F, ?b_X, ?b_N, ?b_T, ?b_hd, ?b_hu⟩) (hT := ⟨[(121, tabObj #[])], [(128, tabObj #[])], [(163, tabObj #[])], rfl, .empty, .empty, .empty⟩) (hterms := ?h_t) (hP1 := cP2) (hP2 := cP1) (hP3 := cP3) (hdp := ?h_dp) (hun := ?h_un) (hpr1 := hap 121 (.inl rfl)) (hpr2 := hap 128 (.inr (.inl rfl))) (hpr3 := hap 163 (.inr (.inr rfl))) (res := (i0 + (K - mu), K - mu, _)) (hres := hres) (hret := ?_) (gd := _) (cn := _) (nms := _) (mr := _) (a := _) (ccd := _) (cl := _) (tz := _) (tkk := _) (ts := _) (E := _))
  case b_B => k_asm
  case b_F => exact F8
  case b_X => k_asm
  case b_N => exact N9
  case b_T => k_asm
  case b_hd => ktr_room
  case b_hu => ktr_units
  case h_dp => ktr_room
  case h_un => ktr_units
  case h_t => exact .tail _ (.head _)
  k_whole
  clear F8 N9
  intro T9 plA gl rest h9 t9 w1 w2 hW F9 N9
  dsimp only at N9
  have hst : i0 + (K - mu) ≤ 17 := by omega
  clear hn9 hres hap hlo hhi hI0 e1 e2 e3 e4 e5 e6
  have q1 : ∀ (a b : Option Value) (m9 : Str → Option Value), (fun x : Str => if x = Str.ofString "ring" then a else if x = Str.ofString "stop" then b else m9 x) (Str.ofString "ring") = a ∧ (fun x : Str => if x = Str.ofString "ring" then a else if x = Str.ofString "stop" then b else m9 x) (Str.ofString "stop") = b := fun a b m9 => ⟨if_pos rfl, (if_neg (by decide)).trans (if_pos rfl)⟩
  obtain ⟨m1, F8⟩ := fr_some F9 [(Str.ofString "ring", .int ((K - mu : Nat) : Int) u2), (Str.ofString "stop", .int ((i0 + (K - mu) : Nat) : Int) u1)] (List.forall_mem_cons.mpr ⟨(q1 _ _ _).1, List.forall_mem_cons.mpr ⟨(q1 _ _ _).2, fun _ h => nomatch h⟩⟩)
  dsimp only [ovr] at F8
  clear F9
  generalize i0 + (K - mu) = stop at hI9 hW N9 F8 hst
  generalize K - mu = lam at hW N9 F8
  refine hide9 fun C9 k9 => ?_
  obtain ⟨PL, gv, ep2, big, hLO, N8⟩ := law_out hst hW N9 (.tail _ (.tail _ (.tail _ (.tail _ (.tail _ (.head _))))))
  refine k9 ?_
  clear k9
  clear hW N9
  simp only [List.cons_append, List.nil_append] at N8
  k_steps
  all_goals try (exfalso; rename ((_ : Int) ≠ _) => hne; exact hne rfl)
  unfold Stop
  (try clear F8); (try clear N8)
  rename Fr _ _ _ _ => F8
  rename News _ _ _ _ => N8
  have N9 := law_sub2 N8
  k_dflt (refine' c_passed (P := P) (hP := hP) (H := ⟨?b_B, ?b_F, ?b_X, ?b_N, ?b_T, ?b_hd, ?b_hu⟩) (hrow := ?h_r) (hI := hI9) (hst := ?h_s) (hret := ?_) (gd := _) (cn := _) (nms := _) (mr := _) (a := _) (ccd := _) (cl := _) (tkk := _) (E := _))
  case b_B => k_asm
  case b_F => exact F8
  case b_X => k_asm
  case b_N => exact N9
  case b_T => k_asm
  case b_hd => ktr_room
  case b_hu => ktr_units
  case h_r => exact .head _
  case h_s => exact Nat.le_trans hst (by decide)
  k_whole
  clear F8 N8 N9
  intro FD fs9 h9 t9 kf hIf F9 N9
  have mF : (L0 + 1 + 1 + 1, oF) ∈ (FD, listOf fs9.toArray kf) :: (rowA, listOf vs9.toArray ep9) :: (plA, LCg.lst (PL.map fun Q => Value.ref Q.p)) :: (gl, listOf gv.toArray ep2) :: (L0 + 1 + 1 + 1, oF) :: (L0 + 1 + 1, oR8) :: (L0 + 1, oK8) :: (63, tabObj #[]) :: big := .tail _ (.tail _ (.tail _ (.tail _ (.head _))))
  have a1 : @Ne Nat FD (L0 + 1 + 1 + 1) := cell_apart N9 mF cF' (.head _) (fun v h => by cases h)
  have a2 : @Ne Nat rowA (L0 + 1 + 1 + 1) := cell_apart N9 mF cF' (.tail _ (.head _)) (fun v h => by cases h)
  have a3 : @Ne Nat plA (L0 + 1 + 1 + 1) := cell_apart N9 mF cF' (.tail _ (.tail _ (.head _))) (fun v h => by cases h)
  have a4 : @Ne Nat gl (L0 + 1 + 1 + 1) := cell_apart N9 mF cF' (.tail _ (.tail _ (.tail _ (.head _)))) (fun v h => by cases h)
  have a5 : ∀ x ∈ big, x.1 ≠ L0 + 1 + 1 + 1 := fun x hx => cell_apart N9 mF cF' (.tail _ (.tail _ (.tail _ (.tail _ (.tail _ (.tail _ (.tail _ (.tail _ hx)))))))) (hLO.cell x hx)
  clear mF
  k_steps
  unfold Stop
  rename Fr _ _ _ _ => F8
  rename News _ _ _ _ => N8
  rename Obj => oF8
  rename Obj.data _ = Data.cell (some (Value.ref FD)) => cF2
  have q2 : ∀ (a b c d e f : Option Value) (m9 : Str → Option Value), (fun x : Str => if x = Str.ofString "gone" then a else if x = Str.ofString "piles" then b else if x = Str.ofString "between" then c else if x = Str.ofString "beat" then d else if x = Str.ofString "ring" then e else if x = Str.ofString "stop" then f else m9 x) (Str.ofString "gone") = a ∧ (fun x : Str => if x = Str.ofString "gone" then a else if x = Str.ofString "piles" then b else if x = Str.ofString "between" then c else if x = Str.ofString "beat" then d else if x = Str.ofString "ring" then e else if x = Str.ofString "stop" then f else m9 x) (Str.ofString "piles") = b := fun a b c d e f m9 => ⟨if_pos rfl, (if_neg (by decide)).trans (if_pos rfl)⟩
  obtain ⟨m2, F7⟩ := fr_some F8 [(Str.ofString "gone", .ref gl), (Str.ofString "piles", .ref plA)] (List.forall_mem_cons.mpr ⟨(q2 _ _ _ _ _ _ _).1, List.forall_mem_cons.mpr ⟨(q2 _ _ _ _ _ _ _).2, fun _ h => nomatch h⟩⟩)
  dsimp only [ovr] at F7
  clear F8 q1 q2 a1 a2 a3 a4 a5 d1 d2 d3 cF' cP1 cP2 cP3 hKz hdis hper hmu hK
  (rename Mk _ => mk9; clear mk9)
  have mk9 : Mk 3 := ⟨⟩
  have hfl : fs9.length = stop := by have := hIf.length; simpa using this
  k_steps
  unfold Stop
  clear F7 N8
  rename Fr _ _ _ _ => F8
  rename News _ _ _ _ => N8
  rename EnumAt _ _ _ _ _ _ _ => hE8
  refine pEnumD_of (by with_unfolding_all rfl) F8 N8 hE8 (.head _) (by rw [hfl, sizeLine_eq]; omega) TupP (fun i => (pairsL (firstOf P.f P.kinds stop) i).map pairD) rfl ?t1 ?f1
  case t1 =>
    rintro i y t ys tls oE oI oC C D9 m₂ h tk E' hi hP1 hD hy hC ha hb hcE hcI hF hN hoff hne
    refine hide9 fun C9 k9 => ?_
    obtain ⟨z, tz, rfl, hz⟩ := ints_at hIf hy
    refine k9 ?_
    clear k9
    rw [List.getElem?_map, List.getElem?_range (by omega)] at hz
    cases hz
    clear F8 N8
    unfold PStep
    dsimp only
    k_steps
    · (try clear hF); (try clear hN)
      rename Fr _ _ _ _ => F8
      rename News _ _ _ _ => N8
      rename (_ : Int) ≠ 0 => hg9
      dsimp only at hg9
      refine xEndD (tn := [_]) (fun h => h) F8 N8 sub_one4 (offX4 hoff) (tup_off4 N8 (.head _) ⟨rfl, _, _, rfl⟩ (.tail _ (.head _)) (.tail _ (.tail _ (.head _))) (.tail _ (.tail _ (.tail _ (.head _)))) (.tail _ (.tail _ (.tail _ (.tail _ (.head _))))) hcE hcI hC) hP1 (fun x hx => by rw [List.mem_singleton.mp hx]; exact ⟨rfl, _, _, rfl⟩) ?_
      rw [pairs_yes (by omega)]
      exact DatAll.append (DatAll.mono (fun p hp => .tail _ hp) hD) (.one (.tuple (.head _) (.cons (.int _ _) (.cons (.int _ _) .nil))))
    · rename (_ : Int) = 0 => hg9
      dsimp only at hg9
      refine xEndD (tn := []) (fun h => h) hF hN (fun p hp => hp) (offX4 hoff) (fun _ h => nomatch h) hP1 (fun _ h => nomatch h) ?_
      rw [pairs_no (by omega)]
      exact hD
  case f1 =>
    intro ys tls hP1 hD
    clear F8 N8
    k_steps
    unfold Stop
    rename Fr _ _ _ _ => F8
    rename News _ _ _ _ => N8
    have hD1 := hD
    rw [hfl] at hD1
    refine sorted_pairs F8 N8 (.head _) (fun p hp => .tail _ (List.mem_append.mpr (.inl hp))) hD1 pairs_nodup (fun x hx => Nat.lt_of_lt_of_le (pairs_lt x hx) (by omega)) (Nat.lt_of_le_of_lt pairs_len (by omega)) ?_
    intro OD oc h9 tk9 ows oys F9 N9 olt hoD hoP hoS
    obtain rfl := order_of hP hoP hoS
    have N8' := law_sub3 N9
    clear F8 N8 N9
    rename PyProof.Rows.LCg.Off1 _ _ => o9
    clear o9
    clear hoP hoS hD hD1 olt hE8 hP1
    (rename Mk _ => mk9; clear mk9)
    have mk9 : Mk 4 := ⟨⟩
    have hol : ows.length = (orderL P.f P.kd stop).length := by have := hoD.length; simpa using this
    k_steps
    unfold Stop
    (try clear F7); (try clear N8')
    rename Fr _ _ _ _ => F8
    rename News _ _ _ _ => N8
    have hozl : ows.length ≤ 400 := by
      have h2 := hLO.gone.length
      have h3 := hLO.gl
      rw [List.length_map] at h2
      rw [hol]
      have := congrArg List.length (order_gone (f := P.f) (kd := P.kd) (stop := stop))
      rw [List.length_map] at this
      omega
    refine pListD_of (by with_unfolding_all rfl) F8 N8 (.head _) (by rw [sizeLine_eq]; omega) (PairAt (orderL P.f P.kd stop)) TupP (fun i => ((orderL P.f P.kd stop).take i).map fun q => pcD blS xsS P.sh q.2) rfl (pairs_at hoD fun x hx => .tail _ (.tail _ (.tail _ (.tail _ (.tail _ (.tail _ (.tail _ (.tail _ (.tail _ (List.mem_append.mpr (.inl hx))))))))))) ?t1 ?f1
    case t1 =>
      intro i x y ys tls2 I oI oC C D9 m₂ h tk E' hi hP1 hD hz28z hC ha hb hcI hF hN hoff hne
      refine hide9 fun C9 k9 => ?_
      obtain ⟨q, t, u, hq, rfl, rfl⟩ := hz28z
      refine k9 ?_
      clear k9
      obtain ⟨tv, hx⟩ := row_here (b := q.2) hI9 (by have := order_lt hP hq; omega)
      have hqs := order_lt hP hq
      have N9 := news_dup3 hN (a := (L0 + 1 + 1, oR8)) (b := (L0 + 1, oK8)) (c := (rowA, listOf vs9.toArray ep9)) (by first | ((repeat (first | exact List.Mem.head _ | refine List.Mem.tail _ ?_ | refine List.mem_append_right _ ?_)); done) | simp) (by first | ((repeat (first | exact List.Mem.head _ | refine List.Mem.tail _ ?_ | refine List.mem_append_right _ ?_)); done) | simp) (by first | ((repeat (first | exact List.Mem.head _ | refine List.Mem.tail _ ?_ | refine List.mem_append_right _ ?_)); done) | simp)
      clear F8 N8 hN
      unfold PStep
      dsimp only
      k_steps
      unfold Stop
      rename Fr _ _ _ _ => F8
      rename News _ _ _ _ => N8
      k_dflt (refine' c_piece (P := P) (b := q.2) (vs := vs9) (ep := ep9) (tv := tv) (H := ⟨?b_B, ?b_F, ?b_X, ?b_N, ?b_T, ?b_hd, ?b_hu⟩) (hrow := ?h_r) (hx := hx) (hb := ?h_b) (hP := hP) (hret := ?_) (gd := _) (cn := _) (nms := _) (mr := _) (a := _) (ccd := _) (cl := _) (tkk := _) (tb := _) (E := _))
      case b_B => k_asm
      case b_F => exact F8
      case b_X => k_asm
      case b_N => exact N8
      case b_T => k_asm
      case b_hd => ktr_room
      case b_hu => ktr_units
      case h_r => exact .tail _ (.tail _ (.head _))
      case h_b => omega
      k_whole
      clear F8 N8
      intro T9 h9 t9 v1 v2 F8 N8 _
      refine xEndD (tn := [_]) (fun h => h) F8 N8 sub_dup3 (offX3 hoff) (tup_off3 N8 (.head _) ⟨rfl, _, _, rfl⟩ (.tail _ (.tail _ (.tail _ (.tail _ (.head _))))) (.tail _ (.tail _ (.tail _ (.tail _ (.tail _ (.head _)))))) (.tail _ (.tail _ (.tail _ (.tail _ (.tail _ (.tail _ (.head _))))))) hcI hC) hP1 (fun x hx => by rw [List.mem_singleton.mp hx]; exact ⟨rfl, _, _, rfl⟩) ?_
      (try dsimp only)
      rw [take_snoc hq, List.map_append]
      exact DatAll.append (DatAll.mono (fun p hp => .tail _ hp) hD) (.one (.tuple (.head _) (.cons (.str _ _) (.cons (.str _ _) .nil))))
    case f1 =>
      intro ys tls2 hP1 hD
      (try dsimp only at hD)
      rw [hol, List.take_length, order_pcs] at hD
      clear F8 N8
      k_steps
      unfold Stop
      rename Fr _ _ _ _ => F8
      rename News _ _ _ _ => N8
      refine ne_sameD N8 (.tail _ (List.mem_append.mpr (.inr (.tail _ (.tail _ (.tail _ (.tail _ (.head _)))))))) hLO.gone (fun x hx => .tail _ (List.mem_append.mpr (.inr (.tail _ (.tail _ (.tail _ (.tail _ (.tail _ (.tail _ (.tail _ (.tail _ (.tail _ (List.mem_append.mpr (.inr hx)))))))))))))) (.head _) hD (fun x hx => .tail _ (List.mem_append.mpr (.inl hx))) (fun d hd => ?ok) (by ktr_units) rfl ?_
      case ok =>
        obtain ⟨b, _, rfl⟩ := List.mem_map.mp hd
        exact ok_pc _ _ _
      have N9 := law_sub4 N8
      clear N8 hD hP1
      rename PyProof.Rows.LCg.Off1 _ _ => o9
      clear o9 hozl hol hoD
      k_steps
      unfold Stop
      have q2 : ∀ (a b c : Option Value) (m9 : Str → Option Value), (fun x : Str => if x = Str.ofString "order" then a else if x = Str.ofString "gone" then b else if x = Str.ofString "piles" then c else m9 x) (Str.ofString "piles") = c := fun a b c m9 => (if_neg (by decide)).trans ((if_neg (by decide)).trans (if_pos rfl))
      obtain ⟨m3, F7⟩ := fr_some F8 [(Str.ofString "piles", .ref plA)] (List.forall_mem_cons.mpr ⟨q2 _ _ _ _, fun _ h => nomatch h⟩)
      dsimp only [ovr] at F7
      clear F8 q2
      (rename Mk _ => mk9; clear mk9)
      have mk9 : Mk 5 := ⟨⟩
      refine assign_listCompX F7 rfl (by with_unfolding_all rfl) (by with_unfolding_all rfl) rfl (by decide) (by rfl) (by with_unfolding_all rfl) (by rfl) (by rfl) ?src (fun v => by rfl)
      case src =>
        have hfl : fs9.length = stop := by have := hIf.length; simpa using this
        have hvl : vs9.length = stop + 1 := by have := hI9.length; simpa using this
        have hk1 := hP.k1
        have hk2 := hP.k2
        k_steps
        unfold Stop
        (try clear F7)
        rename Fr _ _ _ _ => F8
        rename News _ _ _ _ => N8
        refine xRangeD_of (n := P.kinds.toNat) (by with_unfolding_all rfl) F8 N8 (by assumption) (small_one (by decide) (by decide) (by omega) (by omega)) (by rw [rangeSize_nat, Int.sub_zero]) (Nat.le_trans (show P.kinds.toNat ≤ 3 by omega) (by decide)) SeqP (fun i => (List.range i).map (dueD P stop)) rfl ?t1 ?f1
        case t1 =>
          rintro i t ys tls2 oI oX oC I X C D9 h tk E' hi hP1 hD hoX hF hN hoff hne
          have N9 := news_dup5 hN (a := (FD, listOf fs9.toArray kf)) (b := (rowA, listOf vs9.toArray ep9)) (c := (L0 + 1 + 1 + 1, oF8)) (d := (L0 + 1 + 1, oR8)) (e := (L0 + 1, oK8)) (by first | ((repeat (first | exact List.Mem.head _ | refine List.Mem.tail _ ?_ | refine List.mem_append_right _ ?_)); done) | simp) (by first | ((repeat (first | exact List.Mem.head _ | refine List.Mem.tail _ ?_ | refine List.mem_append_right _ ?_)); done) | simp) (by first | ((repeat (first | exact List.Mem.head _ | refine List.Mem.tail _ ?_ | refine List.mem_append_right _ ?_)); done) | simp) (by first | ((repeat (first | exact List.Mem.head _ | refine List.Mem.tail _ ?_ | refine List.mem_append_right _ ?_)); done) | simp) (by first | ((repeat (first | exact List.Mem.head _ | refine List.Mem.tail _ ?_ | refine List.mem_append_right _ ?_)); done) | simp)
          clear F8 N8 hN
          k_steps
          unfold Stop
          rename Fr _ _ _ _ => F8
          rename News _ _ _ _ => N8
          rename EnumAt _ _ _ _ _ _ _ => hE8
          refine pEnumD_of (by with_unfolding_all rfl) F8 N8 hE8 (.head _) (by rw [hfl, sizeLine_eq]; omega) (fun x => TupP x ∧ ∀ q ∈ [(I, oI), (X, oX), (C, oC), (D9, PyProof.Rows.LCg.lst ys)], x.1 ≠ q.1) (fun i2 => (pileTo P stop i i2).map (pcD blS xsS P.sh)) rfl ?t2 ?f2
          case t2 =>
            rintro i2 y t2 ys2 tls3 oE oI2 oC2 C2 D2 m₂ h2 tk2 E2 hi2 hP2 hD2 hy hC2 ha hb hcE hcI hF2 hN2 hoff2 hne2
            (rename IntsAre fs9 _ => hIf)
            refine hide9 fun C9 k9 => ?_
            obtain ⟨z, tz, rfl, hz⟩ := ints_at hIf hy
            refine k9 ?_
            clear k9
            rw [List.getElem?_map, List.getElem?_range (by omega)] at hz
            cases hz
            have N9 := news_dup5 hN2 (a := (X, oX)) (b := (rowA, listOf vs9.toArray ep9)) (c := (L0 + 1 + 1 + 1, oF8)) (d := (L0 + 1 + 1, oR8)) (e := (L0 + 1, oK8)) (by first | ((repeat (first | exact List.Mem.head _ | refine List.Mem.tail _ ?_ | refine List.mem_append_right _ ?_)); done) | simp) (by first | ((repeat (first | exact List.Mem.head _ | refine List.Mem.tail _ ?_ | refine List.mem_append_right _ ?_)); done) | simp) (by first | ((repeat (first | exact List.Mem.head _ | refine List.Mem.tail _ ?_ | refine List.mem_append_right _ ?_)); done) | simp) (by first | ((repeat (first | exact List.Mem.head _ | refine List.Mem.tail _ ?_ | refine List.mem_append_right _ ?_)); done) | simp) (by first | ((repeat (first | exact List.Mem.head _ | refine List.Mem.tail _ ?_ | refine List.mem_append_right _ ?_)); done) | simp)
            clear F8 N8 
            unfold PStep
            dsimp only
            k_steps
            · rename (_ : Int) ≠ 0 => hg9
              dsimp only at hg9
              refine xEndD (tn := []) (fun h => h) hF2 hN2 (fun p hp => hp) (offX4 hoff2) (fun _ h => nomatch h) hP2 (fun _ h => nomatch h) ?_
              (try dsimp only)
              rw [pileTo_no fun _ hl => hg9 (by have := (first_zero (stop := stop) hP (p := i2)).mpr hl; omega)]
              exact hD2
            · unfold Stop
              rename (_ : Int) = 0 => hg9
              rename Int.fmod _ _ = _ => hm9
              dsimp only at hg9
              rw [Int.toNat_natCast] at hm9
              obtain ⟨tv, hx⟩ := row_here (b := i2) hI9 (by omega)
              rename Fr _ _ _ _ => F8
              rename News _ _ _ _ => N8
              k_dflt (refine' c_piece (P := P) (b := i2) (vs := vs9) (ep := ep9) (tv := tv) (H := ⟨?b_B, ?b_F, ?b_X, ?b_N, ?b_T, ?b_hd, ?b_hu⟩) (hrow := ?h_r) (hx := hx) (hb := ?h_b) (hP := hP) (hret := ?_) (gd := _) (cn := _) (nms := _) (mr := _) (a := _) (ccd := _) (cl := _) (tkk := _) (tb := _) (E := _))
              case b_B => k_asm
              case b_F => exact F8
              case b_X => k_asm
              case b_N => exact N8
              case b_T => k_asm
              case b_hd => ktr_room
              case b_hu => ktr_units
              case h_r => exact .tail _ (.head _)
              case h_b => omega
              k_whole
              clear F8 N8
              intro T9 h9 t9 v1 v2 F8 N8 olt
              refine xEndD (tn := [_]) (fun h => h) F8 N8 sub_dup5 (offX4 hoff2) (fun p hp q hq => by rw [List.mem_singleton.mp hp]; exact Nat.ne_of_gt (olt q (mem_up4 q hq))) hP2 (fun x hx => by rw [List.mem_singleton.mp hx]; exact ⟨⟨rfl, _, _, rfl⟩, fun q hq => Nat.ne_of_gt (olt q (mem_in4 q hq))⟩) ?_
              (try dsimp only)
              rw [pileTo_yes (kd_of hP hm9) ((first_zero (stop := stop) hP (p := i2)).mp (by omega))]
              exact DatAll.append (DatAll.mono (fun p hp => .tail _ hp) hD2) (.one (.tuple (.head _) (.cons (.str _ _) (.cons (.str _ _) .nil))))
            · rename Int.fmod _ _ ≠ _ => hm9
              rw [Int.toNat_natCast] at hm9
              refine xEndD (tn := []) (fun h => h) hF2 hN2 (fun p hp => hp) (offX4 hoff2) (fun _ h => nomatch h) hP2 (fun _ h => nomatch h) ?_
              (try dsimp only)
              rw [pileTo_no fun hk _ => kd_not hP hm9 hk]
              exact hD2
          case f2 =>
            intro ys2 tls3 hP2 hD2
            clear F8 N8
            k_steps
            rename Fr _ _ _ _ => F8
            rename News _ _ _ _ => N8
            rename PyProof.Rows.LCg.Off1 _ _ => o9
            rw [hfl] at hD2
            refine xEndD (tn := _ :: tls3) (fun h => h) F8 N8 sub_due (offX4 hoff) (fun p hp q hq => ?_) hP1 (fun x hx => ?_) ?_
            · rcases List.mem_cons.mp hp with rfl | hp
              · exact Ne.symm (off1_mem o9 q (mem_in4' q hq))
              · exact (hP2 p hp).2 q hq
            · rcases List.mem_cons.mp hx with rfl | hx
              · exact ⟨_, _, rfl⟩
              · exact (hP2 x hx).1.2
            · (try dsimp only)
              rw [due_snoc]
              exact DatAll.append (DatAll.mono (fun p hp => List.mem_append.mpr (.inr hp)) hD) (.one (.list (.head _) (DatAll.mono (fun p hp => .tail _ (List.mem_append.mpr (.inl hp))) hD2)))
        case f1 =>
          intro ys tls2 hP1 hD
          clear F8 N8
          k_steps
          unfold Stop
          rename Fr _ _ _ _ => F8
          rename News _ _ _ _ => N8
          rename PyProof.Rows.LCg.Off1 _ _ => o9
          rename_i dueA h8 tk8
          have N9 := law_sub5 N8
          clear N8 o9
          (rename Mk _ => mk9; clear mk9)
          have mk9 : Mk 6 := ⟨⟩
          have hPl : (PL.map fun Q => Value.ref Q.p).length = P.kinds.toNat := by rw [List.length_map]; exact hLO.len
          k_steps
          unfold Stop
          rename Fr _ _ _ _ => F8
          rename News _ _ _ _ => N8
          refine gListD_of (S := fun s' => s'.gens = s₁.gens ∧ s'.os = s₁.os) (by decide) rfl (by rfl) (fun s h tk hs => hs) ⟨rfl, rfl⟩ (by with_unfolding_all rfl) F8 N8 (.tail _ (.head _)) (by rw [hPl, sizeLine_eq]; omega) big (fun i => (List.range i).map (dueD P stop)) rfl ?t1 ?f1
          case t1 =>
            rintro i v ys1 tls I oI oC C D9 m₂ s E' hs hi hD1 hv hC hmx hF hN hoff hne
            obtain ⟨Q, hQ, rfl⟩ : ∃ Q, PL[i]? = some Q ∧ v = .ref Q.p := by
              rw [List.getElem?_map] at hv
              obtain ⟨Q, h1, h2⟩ := Option.map_eq_some_iff.mp hv
              exact ⟨Q, h1, h2.symm⟩
            have hQm := List.mem_of_getElem? hQ
            have hob := hLO.objs Q hQm
            have hil := hLO.il Q hQm
            clear F8 N8
            k_steps
            unfold Stop
            rename Fr _ _ _ _ => F8
            rename News _ _ _ _ => N8
            refine gAccI_of (S := fun s' => s'.gens = s₁.gens ∧ s'.os = s₁.os) (by decide) rfl (by rfl) (fun s h tk hs => hs) hs (by with_unfolding_all rfl) X8 F8 N8 (mem_big hob.1) (mem_big hob.2) (by rw [sizeLine_eq]; omega) ?t2 ?f2
            case t2 =>
              rintro i2 v2 I2 oI2 C2 oC2 D2 m9 s2 E2 hs2 hi2 hv2 hC2 hmx2 hF2 hN2 ho2
              clear F8 N8
              k_steps
              exact gEnd_of _ hs2 hF2 hN2 (fun p hp => hp) (offX3 ho2) ⟨rfl, rfl⟩
            case f2 =>
              intro s3 hs3 D1 h3 tk3 F3 N3 o3
              refine gEnd_of (s₂ := { s3 with heap := h3, toks := tk3 }) (_ :: (tls ++ _)) hs3 F3 N3 sub_g3 (fun p hp q hq => ?_) ⟨_ :: tls, rfl, ?_⟩
              · rcases List.mem_cons.mp hp with rfl | hp
                · exact Ne.symm (off1_mem o3 q (mem_g3 q hq))
                · exact offX3 hoff p hp q hq
              · (try dsimp only)
                rw [due_snoc]
                exact DatAll.append (DatAll.mono (fun p hp => .tail _ hp) hD1) (.one (.list (.head _) (DatAll.mono (fun p hp => .tail _ (List.mem_append.mpr (.inr hp))) (hLO.it i Q hQ))))
          case f1 =>
            intro s ys1 tls hs hD1
            refine hide9 fun C9 k9 => ?_
            obtain ⟨hh, gg, dd, tt, oo⟩ := s
            refine k9 ?_
            clear k9
            obtain ⟨hs1, hs2⟩ := hs
            dsimp only at hs1 hs2
            subst hs1 hs2
            clear F8 N8
            k_steps
            unfold Stop
            rename Fr _ _ _ _ => F8
            rename News _ _ _ _ => N8
            rw [hPl] at hD1
            refine ne_sameD N8 (.head _) hD1 (fun x hx => ?sb) (.tail _ (List.mem_append.mpr (.inr (.head _)))) hD (fun x hx => .tail _ (List.mem_append.mpr (.inr (.tail _ (.tail _ (.tail _ (List.mem_append.mpr (.inl hx)))))))) (fun d hd => ?ok) (by ktr_units) rfl ?_
            case sb =>
              rcases List.mem_append.mp hx with hx | hx
              · exact .tail _ (List.mem_append.mpr (.inl hx))
              · exact .tail _ (List.mem_append.mpr (.inr (.tail _ (.tail _ (.tail _ (List.mem_append.mpr (.inr hx)))))))
            case ok =>
              obtain ⟨b, _, rfl⟩ := List.mem_map.mp hd
              exact ok_due _ _ _
            have N9 := law_sub6 N8
            rename PyProof.Rows.LCg.Off1 _ _ => o9
            clear N8 o9 hD1
            k_steps
            (rename Mk _ => mk9; clear mk9)
            have mk9 : Mk 7 := ⟨⟩
            have hPl : (PL.map fun Q => Value.ref Q.p).length = P.kinds.toNat := by rw [List.length_map]; exact hLO.len
            unfold Stop
            k_steps
            unfold Stop
            rename Fr _ _ _ _ => F8
            rename News _ _ _ _ => N8
            refine gListT_of (S := fun s' => AllBare s'.gens ∧ s'.os = s₁.os) (by decide) rfl (by rfl) (fun s h tk hs => hs) ⟨.of_eq hg, rfl⟩ (by with_unfolding_all rfl) F8 N8 (.inl rfl) (.tail _ (.head _)) (by rw [hPl, sizeLine_eq]; omega) (valP P stop) ?t1 ?f1
            case t1 =>
              rintro i v ys1 ps I oI oC C D9 m₂ s E' hs hi hG hI1 hv hC hmx hF hN hoff hne
              obtain ⟨Q, hQ, rfl⟩ : ∃ Q, PL[i]? = some Q ∧ v = .ref Q.p := by
                rw [List.getElem?_map] at hv
                obtain ⟨Q, h1, h2⟩ := Option.map_eq_some_iff.mp hv
                exact ⟨Q, h1, h2.symm⟩
              have hQm := List.mem_of_getElem? hQ
              have hob := hLO.objs Q hQm
              have hil := hLO.il Q hQm
              clear F8 N8
              k_steps
              unfold Stop
              rename Fr _ _ _ _ => F8
              rename News _ _ _ _ => N8
              refine hide9 fun C9 k9 => ?_
              obtain ⟨Ts, tx, ty, hit9⟩ := pile_items (hLO.it i Q hQ)
              refine k9 ?_
              clear k9
              have hik : i < P.kinds.toNat := by rw [← hPl]; exact hi
              have hQk := hLO.k i Q hQ
              have N9 := news_len N8 (List.Mem.tail _ (List.Mem.tail _ (List.mem_append.mpr (.inr hob.1)))) (List.Mem.tail _ (List.Mem.tail _ (List.mem_append.mpr (.inr hob.2))))
              have o63 := hoff (63, tabObj ps) (.head _)
              have hn9 := off63 N9 (hLO.off _ hob.1) (hLO.off _ hob.2) (Ne.symm o63.1) (Ne.symm o63.2.1) (Ne.symm o63.2.2) (fun h => by cases h) (fun h => by cases h) hP1 hLO.off
              refine len_K F8 X8 (acc_inst N9 (.head _) (.tail _ (.head _))) (f_len w.params) (by kernel_rfl) ?_
              k_dflt (refine' c_len (Ts := Ts) (X9 := fun j => blS ((pileL P stop i).getD j 0)) (Y9 := fun j => xsS (P.sh ((pileL P stop i).getD j 0)).natAbs) (tx := tx) (ty := ty) (H := ⟨?b_B, ?b_F, ?b_X, ?b_N, ?b_T, ?b_hd, ?b_hu⟩) (hC := cP4) (hG := hG) (hg := hs.1) (hn := hn9) (hk := ?h_k) (hit := ?h_it) (hlen := ?h_len) (hval := ?h_val) (hret := ?_) (gd := _) (cn := _) (nms := _) (mr := _) (a := _) (ccd := _) (cl := _) (E := _))
              case b_B => k_asm
              case b_F => exact F8
              case b_X => k_asm
              case b_N => exact N9
              case b_T => k_asm
              case b_hd => ktr_room
              case b_hu => ktr_units
              case h_k => rw [hQk]; omega
              case h_it => exact fun j hj => ⟨(hit9 j hj).1, (hit9 j hj).2.imp fun _ h => .tail _ (.tail _ (.tail _ (.tail _ (.tail _ (List.mem_append.mpr (.inr h))))))⟩
              case h_len => omega
              case h_val => exact fun j _ => pileL_at hst (sh_lt hP)
              k_whole
              clear F8 N8 N9
              intro ps' s' t hG5 F5 N5 hg5 hos5
              have hpl9 : Q.items.length = (pileL P stop i).length := by have := (hLO.it i Q hQ).length; simpa using this
              have hv9 := len_val (P := P) (stop := stop) hQk hpl9
              have hb9 := valP_bd (k := i) hst (sh_lt hP) (by omega)
              (try dsimp only)
              rw [hv9]
              refine ⟨⟨hb9.1, by omega⟩, gEnd_of (s₂ := { s' with toks := s'.toks + 1 }) _ ⟨hg5, hos5.trans hs.2⟩ F5 N5 sub_len (offX3 (off_len hoff)) ⟨ps', rfl, hG5, ?_⟩⟩
              rw [List.range_succ, List.map_append]
              exact intsAre_append hI1 (.cons _ _ .nil)
            case f1 =>
              intro s ys1 ps hs hG hI1
              obtain ⟨hs1, hs2⟩ := hs
              clear F8 N8
              k_steps
              unfold Stop
              rename Fr _ _ _ _ => F8
              rename News _ _ _ _ => N8
              rename EnumAt _ _ _ _ _ _ _ => hE8
              rename _ ∧ _ ∧ _ ∧ _ => o9
              clear o9
              refine pEnumD_of (by with_unfolding_all rfl) F8 N8 hE8 (.tail _ (.tail _ (.head _))) (by have := hD.length; simp at this; rw [sizeLine_eq]; omega) (fun _ => False) (fun i => (List.range i).map fun k => Dat.int (valP P stop k)) rfl ?t3 ?f3
              case t3 =>
                rintro i y t ys2 tls oE oI oC C D9 m₂ h tk E' hi hP2 hD2 hy hC ha hb hcE hcI hF hN hoff hne
                obtain rfl := false_nil hP2
                refine hide9 fun C9 k9 => ?_
                obtain ⟨hik, R9, vr, kr, rfl, hR, hRd⟩ := due_at hD hy
                refine k9 ?_
                clear k9
                have N9 := news_dup1 hN (a := (R9, listOf vr.toArray kr)) (.tail _ (.tail _ (.tail _ (.tail _ (.tail _ (.tail _ (.tail _ (.tail _ (List.mem_append.mpr (.inl hR))))))))))
                clear F8 N8
                unfold PStep
                dsimp only
                k_steps
                unfold Stop
                rename Fr _ _ _ _ => F8
                rename News _ _ _ _ => N8
                have hvr : vr.length = (pileL P stop i).length := by have := hRd.length; simpa using this
                have hpl := pileL_len (P := P) (stop := stop) (k := i)
                refine pListD_of (by with_unfolding_all rfl) F8 N8 (.head _) (by rw [hvr, sizeLine_eq]; omega) (PcAt P (pileL P stop i)) (fun _ => False) (fun i2 => ((pileL P stop i).take i2).map fun b => Dat.int (lenP P b)) rfl (pcs_at hRd fun x hx => .tail _ (.tail _ (.tail _ (.tail _ (.tail _ (.tail _ (.tail _ (.tail _ (.tail _ (List.mem_append.mpr (.inl hx))))))))))) ?t4 ?f4
                case t4 =>
                  intro i2 x y2 ys3 tls3 I oI2 oC2 C2 D2 m9 h2 tk2 E2 hi2 hP3 hD3 hz29z hC2 ha2 hb2 hcI2 hF2 hN2 hoff2 hne2
                  refine hide9 fun C9 k9 => ?_
                  obtain ⟨b, t5, t6, hb5, rfl, rfl⟩ := hz29z
                  refine k9 ?_
                  clear k9
                  obtain rfl := false_nil hP3
                  have hbs := pileL_lt b (List.mem_of_getElem? hb5)
                  have hbh := sh_lt hP b
                  clear F8 N8
                  (try clear N9)
                  unfold PStep
                  dsimp only
                  k_steps
                  rename Fr _ _ _ _ => F8
                  rename News _ _ _ _ => N8
                  have e9 : (b : Int) + ((P.sh b).natAbs : Int) = lenP P b := by unfold lenP; omega
                  refine xEndD (tn := []) (tls := []) (fun h => h) F8 N8 (fun p hp => hp) (offX3 hoff2) (fun _ h => nomatch h) hP3 (fun _ h => nomatch h) ?_
                  (try dsimp only)
                  rw [take_snoc hb5, List.map_append]
                  refine DatAll.append hD3 (.one ?_)
                  show DatIn _ _ (Dat.int (lenP P b))
                  rw [← e9]
                  exact .int _ _
                case f4 =>
                  intro ys3 tls3 hP3 hD3
                  obtain rfl := false_nil hP3
                  (try dsimp only at hD3)
                  rw [hvr, List.take_length, int_dats] at hD3
                  have hI3 := ints_of_dats hD3
                  clear F8 N8
                  (try clear N9)
                  k_steps
                  rename Fr _ _ _ _ => F8
                  rename News _ _ _ _ => N8
                  refine xEndD (tn := []) (tls := []) (fun h => h) F8 N8 (fun p hp => .tail _ (.tail _ hp)) (offX4 hoff) (fun _ h => nomatch h) hP2 (fun _ h => nomatch h) ?_
                  (try dsimp only)
                  rw [List.range_succ, List.map_append]
                  exact DatAll.append hD2 (.one (show DatIn _ _ (Dat.int ((i : Int) + ((pileL P stop i).map (lenP P)).sum)) from .int _ _))
              case f3 =>
                intro ys4 tls4 hP4 hD4
                obtain rfl := false_nil hP4
                clear F8 N8
                k_steps
                unfold Stop
                rename Fr _ _ _ _ => F8
                rename News _ _ _ _ => N8
                have hyl : ys.length = P.kinds.toNat := by have := hD.length; simpa using this
                rw [hyl, val_dats] at hD4
                rw [hPl] at hI1
                refine eq_sameD N8 (.tail _ (.head _)) (dats_of_ints hI1) (fun _ h => nomatch h) (.head _) hD4 (fun _ h => nomatch h) (fun d hd => ?ok) (by ktr_units) rfl ?_
                case ok =>
                  obtain ⟨z, _, rfl⟩ := List.mem_map.mp hd
                  rfl
                have mb := fun (x : Addr × Obj) (hx : x ∈ big) => (N8 x (.tail _ (.tail _ (.tail _ (.tail _ (.tail _ (List.mem_append.mpr (.inr hx)))))))).1
                obtain ⟨p1, q1⟩ := hLO.t1
                obtain ⟨p2, q2⟩ := hLO.t2
                obtain ⟨p3, q3⟩ := hLO.t3
                refine ⟨rfl, ⟨_, F8⟩, ⟨⟨p2, mb _ q2⟩, ⟨p1, mb _ q1⟩, ⟨p3, mb _ q3⟩, ⟨_, (N8 _ (.tail _ (.tail _ (.head _)))).1⟩⟩, hs1, hs2⟩
end
end
end Mine
end
set_option maxRecDepth 100000 in
set_option maxHeartbeats 8000000 in
theorem PySem.Challenge.cw_wo0040_01_holds : PySem.Challenge.rw_wo0040_01.Holds := by
  exact Mine.law_all
