import PyProof.Rows.All
import Wide.All
import OpenK.AllK
import Wide.FinOn
import Lean
import PySem.Challenge.RW_ij0200_01
open PySem PySem.W PyProof.Rows PySem.Calls
set_option Elab.async false
set_option maxRecDepth 100000
set_option maxHeartbeats 8000000
set_option compiler.extract_closed false
set_option rowWalk.seconds 0
namespace Mine
local macro_rules | `(tactic| o_head $H) => `(tactic| assumption)
theorem frag : OpenRow.Holds (OpenLaw.row PySem.Challenge.rw_ij0200_01) → OpenRow.Holds (OpenLaw.row PySem.Challenge.rw_ij0200_01) := by
  intro h
  k_head
noncomputable def rowO : RowW := OpenRow.toRowW (OpenLaw.row PySem.Challenge.rw_ij0200_01)
noncomputable def view : Program :=
  { rowO.prog with
    main := { rowO.prog.main with
      body := match rowO.prog.main.body with
        | [s0, _, s2, s3, _, s5, s6, _, s8, s9, _, s11, s12, _, s14, s15, s16, s17, s18] => [s0, s2, s3, s5, s6, s8, s9, s11, s12, s14, s15, s16, s17, s18]
        | _ => [] } }
noncomputable def looseL : List PySem.Str := [PySem.Str.ofString "_twin_re_1", PySem.Str.ofString "_special_chars_map"]
noncomputable def asL : List Addr := [2, 3, 6, 11, 12, 32, 34, 35, 37, 38, 39, 41, 42, 44, 45, 49, 50, 51, 53, 54, 56, 57, 59, 63, 65, 66, 68, 69, 70, 72, 73, 75, 76, 77, 79, 80, 82, 83, 84, 86, 87, 89, 90, 91, 94, 95, 96, 99, 100, 101, 103, 104, 106, 107, 108, 111, 112]
noncomputable def hk : Hook := kHook frag.heap_1 asL (fun _ => by kernel_rfl)
noncomputable def extra (s : Shared) : Bool := xlAt view [] s && recOk (RowW.records rowO) s
noncomputable def impT (tb : String → Option Builtin) (p : Program) (w : World) : Nat → SharedT → Thread → Option SharedT
  | 0, _, _ => none
  | n + 1, s, t => match t.atExitBegin with
    | some [] => some s
    | some (_ :: _) => none
    | none => match stepT (denote tb) p w s t with
      | some (s', t') => impT tb p w n s' t'
      | none => none
noncomputable def runT (tb : String → Option Builtin) (p : Program) (w : World) (n₀ : Nat) (ann : Option Value) : Nat → SharedT → Thread → Option SharedT
  | 0, _, _ => none
  | n + 1, s, t => match through t with
    | true => some s
    | false => match stepOk n₀ ann t with
      | false => none
      | true => match stepT (denote tb) p w s t with
        | some (s', t') => runT tb p w n₀ ann n s' t'
        | none => none
noncomputable def buildT : List Obj → Nat → BT → Option BT
  | [], _, T => some T
  | o :: l, n, T => match ((T.ins n o).get n).isSome with
    | true => buildT l (n + 1) (T.ins n o)
    | false => none
noncomputable def toT (s : Shared) : Option SharedT := match buildT s.heap.objs.toList 0 .nil with
  | some T => some ⟨T, s.heap.objs.size, s.heap.life, s.gens, s.drawn, s.toks, s.os⟩
  | none => none
theorem impT_of {tb : String → Option Builtin} {p : Program} {w : World} : ∀ {n : Nat} {s s' : SharedT} {t : Thread}, impT tb p w n s t = some s' → importEnds tb p w n s.abs t = some s'.abs
  | 0, _, _, _, h => by cases h
  | n + 1, s, s', t, h => by
    unfold impT at h
    unfold importEnds
    cases he : t.atExitBegin with
    | some l =>
      rw [he] at h
      cases l with
      | nil => cases h; rfl
      | cons a l => cases h
    | none =>
      rw [he] at h
      cases hs : stepT (denote tb) p w s t with
      | none => rw [hs] at h; cases h
      | some r => obtain ⟨s₂, t₂⟩ := r; rw [hs] at h; dsimp only; rw [stepT_spec hs]; exact impT_of h
theorem runT_of {tb : String → Option Builtin} {p : Program} {w : World} {n₀ : Nat} {ann : Option Value} : ∀ {n : Nat} {s s' : SharedT} {t : Thread}, runT tb p w n₀ ann n s t = some s' → topRun tb p w n₀ ann n s.abs t = some s'.abs
  | 0, _, _, _, h => by cases h
  | n + 1, s, s', t, h => by
    unfold runT at h
    unfold topRun
    cases he : through t with
    | true => rw [he] at h; cases h; rfl
    | false =>
      rw [he] at h
      cases hk : stepOk n₀ ann t with
      | false => rw [hk] at h; cases h
      | true =>
        rw [hk] at h
        cases hs : stepT (denote tb) p w s t with
        | none => rw [hs] at h; cases h
        | some r => obtain ⟨s₂, t₂⟩ := r; rw [hs] at h; dsimp only; rw [stepT_spec hs]; exact runT_of h
theorem buildT_of {life : Life} : ∀ {l : List Obj} {n : Nat} {T T' : BT} {xs : List Obj}, absHeap T n life = ⟨xs.toArray, life⟩ → buildT l n T = some T' → absHeap T' (n + l.length) life = ⟨(xs ++ l).toArray, life⟩
  | [], n, T, T', xs, e, h => by cases h; rw [List.append_nil]; exact e
  | o :: l, n, T, T', xs, e, h => by
    unfold buildT at h
    cases g : ((T.ins n o).get n).isSome with
    | false => rw [g] at h; cases h
    | true =>
      rw [g] at h
      have e2 : absHeap (T.ins n o) (n + 1) life = ⟨(xs ++ [o]).toArray, life⟩ := by
        rw [absHeap_ins g, e]
        show Heap.mk (xs.toArray.push o) life = _
        rw [List.push_toArray]
      have := buildT_of e2 h
      rw [List.length_cons, show n + (l.length + 1) = n + 1 + l.length by omega, this, List.append_assoc]
      rfl
theorem toT_of {s : Shared} {a : SharedT} (h : toT s = some a) : a.abs = s := by
  unfold toT at h
  cases hb : buildT s.heap.objs.toList 0 .nil with
  | none => rw [hb] at h; cases h
  | some T =>
    rw [hb] at h
    cases h
    have e := buildT_of (life := s.heap.life) (n := 0) (T := .nil) (xs := []) rfl hb
    rw [Nat.zero_add, List.nil_append] at e
    show Shared.mk (absHeap T s.heap.objs.size s.heap.life) _ _ _ _ = s
    rw [show s.heap.objs.size = s.heap.objs.toList.length from rfl, e]
noncomputable def openT (w : World) : Option Shared := (toT (start (opening rowO.prog)).1).bind fun a => (impT treeTable (opening rowO.prog) w 3562 a (start (opening rowO.prog)).2).bind fun b => fenceModules? rowO.prog b.abs
noncomputable def topT (w : World) (s : Shared) : Option SharedT := match s.heap.isNs mainGlobals && s.gens.size == 0 with
  | true => (toT s).bind fun c => runT treeTable rowO.prog w s.heap.objs.size (s.heap.nsMap mainGlobals "__annotations__") 3562 c (topStub rowO.prog)
  | false => none
noncomputable def looksAt (s₀ : Shared) (s : Shared) := match staticsOk (importedModules rowO.prog.main.body) s₀.heap s.heap && namesBound rowO.prog s.heap && gensDone s && laidKept s₀.heap s.heap with
  | true => some (openSeen view looseL (importedModules rowO.prog.main.body) extra true s, asL.map s.heap.get?)
  | false => none
noncomputable def runW {X : Type} (f : Shared → Shared → Option X) (w : World) : Option X := (openT w).bind fun s₀ => (topT w s₀).bind fun d => f s₀ d.abs
noncomputable def endGood (w : World) := some (openGood view looseL, (frag.heap_1 w.params).map fun p => some p.2)
theorem run_of {w : World} (h : runW looksAt w = endGood w) : (openEnds treeTable rowO.prog w 3562).map (fun s => (openSeen view looseL (importedModules rowO.prog.main.body) extra true s, Hook.obs hk s)) = some (openGood view looseL, Hook.val hk w) := by
  unfold endGood at h
  obtain ⟨s₀, h1, h2⟩ := Option.bind_eq_some_iff.mp h
  obtain ⟨d, h3, h4⟩ := Option.bind_eq_some_iff.mp h2
  obtain ⟨a, h5, h6⟩ := Option.bind_eq_some_iff.mp h1
  obtain ⟨b, h7, h8⟩ := Option.bind_eq_some_iff.mp h6
  have q1 : fencedOpening treeTable rowO.prog w 3562 = some s₀ := by
    unfold fencedOpening
    rw [← toT_of h5, impT_of h7]
    exact h8
  unfold openEnds
  rw [q1]
  show Option.map _ (topFrom treeTable rowO.prog w 3562 s₀) = _
  unfold topT at h3
  unfold topFrom
  cases hg : (s₀.heap.isNs mainGlobals && s₀.gens.size == 0) with
  | false => rw [hg] at h3; cases h3
  | true =>
    rw [hg] at h3
    obtain ⟨c, h9, h10⟩ := Option.bind_eq_some_iff.mp h3
    have q2 := runT_of h10
    rw [toT_of h9] at q2
    dsimp only
    rw [q2]
    show Option.map _ (match staticsOk (importedModules rowO.prog.main.body) s₀.heap d.abs.heap && namesBound rowO.prog d.abs.heap && gensDone d.abs && laidKept s₀.heap d.abs.heap with
      | true => some d.abs
      | false => none) = _
    unfold looksAt at h4
    cases hk : (staticsOk (importedModules rowO.prog.main.body) s₀.heap d.abs.heap && namesBound rowO.prog d.abs.heap && gensDone d.abs && laidKept s₀.heap d.abs.heap) with
    | false => rw [hk] at h4; cases h4
    | true =>
      rw [hk] at h4
      exact h4
theorem runW_twin : Function.const _ true (@runW Unit) = true := by k_qdec
theorem left_ff (w : World) : PySem.W.Fast.tw6304747254941411293 looksAt ((w.withFollow "comprehension-iter-twice" false).withFollow "special-get-raises" false) = endGood ((w.withFollow "comprehension-iter-twice" false).withFollow "special-get-raises" false) := by kernel_rfl
theorem left_ft (w : World) : PySem.W.Fast.tw6304747254941411293 looksAt ((w.withFollow "comprehension-iter-twice" false).withFollow "special-get-raises" true) = endGood ((w.withFollow "comprehension-iter-twice" false).withFollow "special-get-raises" true) := by kernel_rfl
theorem left_tf (w : World) : PySem.W.Fast.tw6304747254941411293 looksAt ((w.withFollow "comprehension-iter-twice" true).withFollow "special-get-raises" false) = endGood ((w.withFollow "comprehension-iter-twice" true).withFollow "special-get-raises" false) := by kernel_rfl
theorem left_tt (w : World) : PySem.W.Fast.tw6304747254941411293 looksAt ((w.withFollow "comprehension-iter-twice" true).withFollow "special-get-raises" true) = endGood ((w.withFollow "comprehension-iter-twice" true).withFollow "special-get-raises" true) := by kernel_rfl
theorem left_all : LeftO rowO.prog view looseL extra (Hook.obs hk) (Hook.val hk) 3562 := fun w => run_of (by
  rw [PySem.W.Fast.te6304747254941411293]
  exact byRow2 (P := fun w => PySem.W.Fast.tw6304747254941411293 looksAt w = endGood w) "special-get-raises"
    (byRow2 (P := fun w => PySem.W.Fast.tw6304747254941411293 looksAt (w.withFollow "special-get-raises" false) = endGood (w.withFollow "special-get-raises" false)) "comprehension-iter-twice" left_ff left_tf)
    (byRow2 (P := fun w => PySem.W.Fast.tw6304747254941411293 looksAt (w.withFollow "special-get-raises" true) = endGood (w.withFollow "special-get-raises" true)) "comprehension-iter-twice" left_ft left_tt) w)
end Mine

namespace Mine
local macro_rules | `(tactic| walk_at $s:str) => do let t := Lean.Syntax.mkStrLit ("!" ++ s.getString); `(tactic| k_extra $t)
local macro_rules | `(tactic| ksw_same) => `(tactic| k_extra "!ksw_same")
local macro_rules | `(tactic| cell_enter) => `(tactic| k_extra "!cell_enter")
local macro_rules | `(tactic| k_all) => `(tactic| k_extra "!k_all")
local macro_rules | `(tactic| kt_le) => `(tactic| k_extra "!kt_le")
local macro_rules | `(tactic| omega) => `(tactic| lia)
theorem base_here : True := trivial

theorem rl_01_1 : True := by
  k_with "!wpq" => (first | (with_reducible first | refine wpAny_pure ?_ | refine wpAny_bind ?_ | refine wpAny_letGo ?_ | refine wpAny_attempt ?_ | refine wpAny_throw ?_ | refine wpAny_mkInt' ?_ | refine wpAny_mkStr' ?_ | refine wpAny_of_eq (by assumption) ?_ | refine wpAny_typeOf (by assumption) ?_ | refine wpAny_specialOf_val (by assumption) (by assumption) ?_ | refine wpAny_specialOf (by assumption) (by assumption) ?_ | refine wpAny_isInstance_val (by assumption) (by assumption) ?_ | refine wpAny_isInstance (by assumption) (by assumption) ?_) | wp_delta | wp_step)
  trivial
theorem if_not {α : Type} {M : Model} {A : Around} {E : Value → Shared → Prop} {s : Shared} {c : Bool} {a b : Sem α} {Q : α → Shared → Prop} (hc : c = false) (h : wpAny M A b Q E s) : wpAny M A (if c = true then a else b) Q E s := by
  subst hc
  exact h
theorem if_so {α : Type} {M : Model} {A : Around} {E : Value → Shared → Prop} {s : Shared} {c : Bool} {a b : Sem α} {Q : α → Shared → Prop} (hc : c = true) (h : wpAny M A a Q E s) : wpAny M A (if c = true then a else b) Q E s := by
  subst hc
  exact h

/-! a list's append as a value -/
noncomputable def boundApp (l : Addr) : Obj := { cls := .type "builtin_function_or_method", data := .fields #[.builtin "list.append", .ref l] }
theorem slot_mdget : Slot "method_descriptor" "__get__" "method_descriptor.__get__" :=
  .of (owner := "method_descriptor") (n := "__get__") (by rw [typeLookup_type, builtinLookup_eq_fast]; kernel_rfl) (by decide +kernel) (by decide +kernel) (by decide +kernel)
    (by first | exact .inl (by decide +kernel) | exact .inr (by decide +kernel)) (by rw [isSubtype_type]; kernel_rfl)
theorem entry_mdget : entryFor table "method_descriptor.__get__" = some Builtin.«method_descriptor.__get__» := entryFor_of_tree (by kernel_rfl)
theorem args_mdget (a b c : Value) : argsOk "method_descriptor.__get__" ⟨[a, b, c], []⟩ := by unfold argsOk; kernel_rfl
theorem md_set : typeLookup (.type "method_descriptor") "__set__" = pure none := by rw [typeLookup_type, builtinLookup_eq_fast]; kernel_rfl
theorem md_del : typeLookup (.type "method_descriptor") "__delete__" = pure none := by rw [typeLookup_type, builtinLookup_eq_fast]; kernel_rfl
theorem md_owner : isSubtype (.type "list") (.type (String.intercalate "." (List.dropLast (String.cutAt "list.append" '.')))) = pure true := by
  rw [show String.intercalate "." (List.dropLast (String.cutAt "list.append" '.')) = "list" from by decide +kernel, isSubtype_type]; kernel_rfl
theorem meets_ga (a : Addr) (xs : Array Value) (k : Nat) (sl : Array (Option Value)) (u : Tok) :
    Meets (Builtin.«object.__getattribute__» ⟨[.ref a, .str "append" u], []⟩) (fun _ R s => s.heap.get? a = some { cls := .type "list", dict := none, data := .seq xs k, slots := sl } ∧ R (.ok (.ret (.ref s.heap.objs.size))) { s with heap := s.heap.push (boundApp a) }) :=
  Meets.of_wp fun prog w A R s hs => by
    obtain ⟨hp, g, d, tk, os⟩ := s
    obtain ⟨hx, hs⟩ := hs
    have hT : (⟨hp, g, d, tk, os⟩ : Shared).TypeIs (.ref a) "list" := ⟨_, hx, rfl⟩
    have f6 := F.slot_list_append.lookup
    have f7 := F.type_list_append
    have f8 := slot_mdget.lookup
    have f9 := md_set
    have f10 := md_del
    have f12 := md_owner
    unfold Builtin.«object.__getattribute__»
    repeat (any_goals (first | assumption | ((with_reducible show wpAny _ _ (call (Value.builtin "method_descriptor.__get__") _ _) _ _ _); refine wpAny_call_entry slot_mdget f7 entry_mdget ?_ (args_mdget _ _ _)) | walk_at "wpq"))
    exact ⟨_, rfl, wpAny_pure ⟨_, rfl, hs⟩⟩
theorem getAttr_append {prog : Program} {w : World} {A : Around} {E : Value → Shared → Prop} {s : Shared} {a : Addr} {o : Obj} {xs : Array Value} {k : Nat} {Q : Value → Shared → Prop}
    (hx : s.heap.get? a = some o) (hc : o.cls = .type "list") (hdat : o.data = .seq xs k) (hd : o.dict = none)
    (h : Q (.ref s.heap.objs.size) { s with heap := s.heap.push (boundApp a), toks := s.toks + 1 }) :
    wpAny (model prog w) A (getAttr (.ref a) "append" true) Q E s := by
  obtain ⟨c, dct, dat, sl⟩ := o
  simp only at hc hdat hd
  subst hc hdat hd
  obtain ⟨hp, g, d, tk, os⟩ := s
  have hT : ∀ tk', (⟨hp, g, d, tk', os⟩ : Shared).TypeIs (.ref a) "list" := fun _ => ⟨_, hx, rfl⟩
  have f3 := F.slot_list_getattribute.lookup
  have f4 := F.slot_list_getattribute.bind (.ref a)
  have f5 := am_list_getattr_none
  unfold getAttr getAttrBy
  repeat (any_goals (first | assumption | exact hT _ | ((with_reducible show wpAny _ _ (call (Value.builtin "list.__getattribute__") _ _) _ _ _); refine call_meets F.slot_list_getattribute (hT _) am_entry_list_getattribute (F.args_list_getattribute_2 _ _) (meets_ga a xs k sl _) ⟨hx, ?_⟩) | walk_at "wpq"))
  exact wpAny_pure h

section
variable {prog : Program} {w : World} {M : Model} {A : Around} {E : Value → Shared → Prop} {s : Shared} {h₀ : Heap} {L : Addr} {m : PySem.Str → Option Value} {news news' : List (Addr × Obj)}
theorem getAttr_append_K {l : Addr} {its : Array Value} {n : Nat} {Q : Value → Shared → Prop} (F : Fr h₀ L s.heap m) (N : News h₀ L s.heap news) (hm : (l, listOf its n) ∈ news)
    (h : ∀ q h', Fr h₀ L h' m → News h₀ L h' ((q, boundApp l) :: news) → (∀ p ∈ news, p.1 < q) → Q (.ref q) { s with heap := h', toks := s.toks + 1 }) :
    wpAny (model prog w) A (getAttr (.ref l) "append" true) Q E s :=
  getAttr_append (N _ hm).1 rfl rfl rfl (h _ _ (F.push _) (N.push F _) fun p hp => Heap.lt_size (N p hp).1)

noncomputable def StandsB (x l : Addr) (h : Heap) : Prop := h.get? x = some (boundApp l)
theorem callWith_fields {pos : Pos} {u l : Addr} {first : List Value} {args : List (Bool × Sem Value)} {Q : Value → Shared → Prop} (hplain : args.any (·.1) = false)
    (h : wpAny M A (evalArgs (.ref u) true args []) (fun x s₁ => StandsB u l s₁.heap ∧ wpAny M A (call (.ref u) (first ++ x.pos) x.kw) Q E s₁) E s) : wpAny M A (callWith pos (.ref u) first args []) Q E s := by
  unfold callWith
  refine wpAny_bind (wpAny_holding (wpAny_mono h (fun x s₁ h₁ => wpAny_bind (wpAny_standAt ?_)) fun _ _ x => x))
  obtain ⟨ho, hcall⟩ := h₁
  simp only [hplain, List.any_nil, Bool.or_false]
  refine wpAny_bind (m := keeperOf (.ref u)) ?_
  unfold keeperOf
  refine wpAny_bind (wpAny_load ho ?_)
  simp only [boundApp, show (Value.type "builtin_function_or_method" != Value.type "method") = true by decide, show (Value.type "builtin_function_or_method" == Value.type "builtin_function_or_method" || Value.type "builtin_function_or_method" == Value.type "method-wrapper") = true by decide, if_true]
  refine wpAny_pure ?_
  exact wpAny_bind (wpAny_mono hcall (fun r s₂ hr => wpAny_bind (wpAny_holding (wpAny_point (wpAny_pure hr)))) fun _ _ x => x)
theorem callWith_app {pos : Pos} {u l : Addr} {first : List Value} {env : Env} {e : Expr} {rest : List Expr} {Q : Value → Shared → Prop} (_N : News h₀ L s.heap news) (_hm : (u, boundApp l) ∈ news)
    (h : wpAny M A (spliced (backTo pos (starEach (e :: rest) env))) (fun vs s₁ => StandsB u l s₁.heap ∧ wpAny M A (call (.ref u) (first ++ vs)) Q E s₁) E s)
    (he : starEach (e :: rest) env = (false, eval e env) :: starEach rest env := by rfl) (hplain : (backTo pos (starEach rest env)).any (·.1) = false := by rfl) :
    wpAny M A (callWith pos (.ref u) first (backTo pos (starEach (e :: rest) env)) []) Q E s := by
  rw [he] at h ⊢
  refine callWith_fields (l := l) (by show (false || (backTo pos (starEach rest env)).any (·.1)) = false; rw [hplain]; rfl) ?_
  exact evalArgs_plain h
noncomputable def sigApp : Manifest.Signature := ⟨.oneArg, "list.append", "append", .self, [⟨"object", .posOnly, true⟩]⟩
theorem sig_app : Manifest.signature? "list.append" = some sigApp := by first | kernel_rfl | decide +kernel
theorem args_app {a b : Value} : Bind.checkArgs "list.append" { sigApp with full := toString (Bind.lastOf "list") ++ toString "." ++ toString (Bind.lastOf "list.append") } ⟨[a, b], []⟩ = pure () := by first | kernel_rfl | rfl
theorem kind_app : builtinKind "list.append" = some .method := by decide +kernel
theorem sub_mod : isSubtype (.type "list") (.type "module") = pure false := by rw [isSubtype_type]; kernel_rfl
theorem sub_type : isSubtype (.type "list") (.type "type") = pure false := by rw [isSubtype_type]; kernel_rfl
theorem check_app {l : Addr} {v : Value} {its : Array Value} {n : Nat} {Q : Unit → Shared → Prop} (hx : s.heap.get? l = some (listOf its n)) (q : Q () s) : wpAny M A (checkBoundCall "list.append" ⟨[.ref l, v], []⟩) Q E s := by
  have hT : s.TypeIs (.ref l) "list" := ⟨_, hx, rfl⟩
  have f1 := sub_mod
  have f2 := sub_type
  have f3 := @args_app (.ref l) v
  unfold checkBoundCall
  simp only [sig_app, kind_app]
  refine if_not (by decide) ?_
  refine wpAny_bind (wpAny_isInstance hT f1 ?_)
  refine if_not (by rw [show Manifest.varargsMethods.contains "list.append" = false by decide +kernel]; rfl) ?_
  refine wpAny_bind ?_
  repeat (any_goals (first | assumption | exact hT | walk_at "wpq"))
theorem quiet_app {as : Args} : (Code.builtin "list.append" as).quiet = true := Code.quiet_builtin _ (by decide +kernel)
theorem call_app {x l : Addr} {its : Array Value} {n : Nat} {v : Value} {Q : Value → Shared → Prop} (F : Fr h₀ L s.heap m) (N : News h₀ L s.heap news) (hm : (x, boundApp l) ∈ news)
    (U : Upd l (listOf its n) (listOf (its.push v) (n + 1)) news news')
    (h : ∀ h', Fr h₀ L h' m → News h₀ L h' news' → Q .none { s with heap := h' }) (hsz : its.size ≤ sizeLine := by size_fits) :
    wpAny (model prog w) A (call (.ref x) [v]) Q E s := by
  have hx := (N _ hm).1
  obtain ⟨pre, post, rfl, rfl, a, b⟩ := U.split
  have z := N (l, listOf its n) (List.mem_append.mpr (.inr (.head _)))
  refine wpAny_call (codeAny_of_tree ?_)
  show wpAny _ A.in1 (callAny (.ref x) ⟨[v], []⟩) _ _ s
  simp only [callAny]
  refine wpAny_bind (wpAny_load hx ?_)
  simp only [boundApp, show (Value.type "builtin_function_or_method" == Value.type "method" || Value.type "builtin_function_or_method" == Value.type "builtin_function_or_method" || Value.type "builtin_function_or_method" == Value.type "method-wrapper") = true by decide, if_true]
  refine if_so (by decide) ?_
  refine wpAny_bind (check_app z.1 ?_)
  refine wpAny_bind (wpAny_pure (wpAny_pure ?_))
  refine ⟨quiet_app, codeAny_builtin PySem.F.entry_list_append ?_⟩
  show wpAny _ _ (updateSeq l (·.push v) >>= fun _ => ret .none) _ _ s
  refine wpAny_bind ?_
  refine wpAny_updateSeq z.1 rfl (wpAny_pure ?_)
  refine h _ (F.change (Heap.SameBut.update ..) z.2.1 z.2.2) (news_set N a b (Heap.SameBut.update ..) ?_)
  rw [Heap.get?_update_self _ z.1 (by rw [mapSeq_push]; rfl), mapSeq_push]
end

/-! object() -/
theorem co_decides : (Option.getD (Option.bind (Manifest.find? "object") fun x => List.findSome? (fun t => Option.bind (Manifest.find? t) fun b => if b.noNew = true then some true else if (b.attrs.any fun x => x.1 == "__new__") = true then some false else none) x.mro) false) = false := by decide +kernel
theorem co_check : checkTypeCall "object" ⟨[], []⟩ = pure () := by kernel_rfl
theorem co_mro : mroOf (.type "object") = pure [.type "object"] := by kernel_rfl
theorem co_made : Bind.madeBy (.type "object") = pure (some "object.__new__") := by kernel_rfl
section
variable {prog : Program} {w : World} {M : Model} {A : Around} {E : Value → Shared → Prop} {s : Shared} {h₀ : Heap} {L : Addr} {m : PySem.Str → Option Value} {news news' : List (Addr × Obj)}
theorem call_object {Q : Value → Shared → Prop} (h : Q (.ref s.heap.objs.size) { s with heap := s.heap.push { cls := .type "object", data := .plain } }) : wpAny (model prog w) A (call (.type "object") []) Q E s := by
  refine wpAny_call (codeAny_of_tree ?_)
  refine wpAny_pure (a := Fin.again (.builtin "type.__call__" ⟨[.type "object"], []⟩)) ?_
  refine ⟨Code.quiet_builtin _ (by decide +kernel), codeAny_builtin entry_typeCall ?_⟩
  have f1 := co_check
  have f2 := co_mro
  have f3 := co_made
  unfold Builtin.«type.__call__»
  refine wpAny_ite_false (by decide) ?_
  repeat (any_goals (first | assumption | walk_at "wpq"))
  refine codeAny_call_builtin_code (Code.quiet_builtin _ PySem.F.objNew.quiet) ?_
  simp only [checkBuiltinCall, PySem.F.objNew.kind, PySem.F.objNew.split, PySem.F.objNew.row]
  have g1 : isType (.type "object") = pure true := by first | rfl | kernel_rfl
  have g2 : isSubtype (.type "object") (.type "object") = pure true := by rw [isSubtype_type]; kernel_rfl
  have g3 : Bind.staticBase (.type "object") = pure (.type "object") := by kernel_rfl
  repeat (any_goals (first | assumption | walk_at "wpq"))
  refine codeAny_builtin PySem.F.objNew.entry ?_
  have g4 : Bind.madeHere "object.__new__" (.type "object") = pure () := by kernel_rfl
  unfold Builtin.«object.__new__»
  repeat (any_goals (first | assumption | walk_at "wpq"))
  have g5 : typeLookup (.type "object") "__init__" = pure (some (.builtin "object.__init__")) := by rw [typeLookup_type, builtinLookup_eq_fast]; kernel_rfl
  refine wpAny_of_eq g5 ?_
  dsimp only
  have g6 := oi_bind (.ref s.heap.objs.size)
  refine wpAny_holding (wpAny_bind (wpAny_of_eq g6 ?_))
  dsimp only
  refine wpAny_bind ?_
  have hT : (⟨s.heap.push { cls := .type "object", data := .plain }, s.gens, s.drawn, s.toks, s.os⟩ : Shared).TypeIs (.ref s.heap.objs.size) "object" := ⟨_, Heap.get?_push_size _ rfl, rfl⟩
  refine wpAny_call (codeAny_call_builtin oi_plain entry_oi ?_)
  refine @check_slot (model prog w) _ _ _ "object.__init__" "object" "__init__" (.ref s.heap.objs.size) [] [] _ oi_kind oi_split ?_ (oi_args _) ?_
  · intro A' Q' E' s' k q
    exact wpAny_isInstance ⟨_, k _ _ (Heap.get?_push_size _ rfl), rfl⟩ g2 q
  · refine wpAny_of_eq (a := .done (.ret .none)) (show Builtin.«object.__init__» (Args.mk ([Value.ref s.heap.objs.size] ++ []) []) = pure (Fin.done (Flow.ret Value.none)) from oi_run (.ref s.heap.objs.size)) ?_
    exact wpAny_pure (wpAny_pure h)

abbrev plainObject : Obj := { cls := .type "object", data := .plain }
theorem call_object_K {Q : Value → Shared → Prop} (F : Fr h₀ L s.heap m) (N : News h₀ L s.heap news)
    (h : ∀ q h', Fr h₀ L h' m → News h₀ L h' ((q, plainObject) :: news) → (∀ p ∈ news, p.1 < q) → Q (.ref q) { s with heap := h' }) : wpAny (model prog w) A (call (.type "object") []) Q E s :=
  call_object (h _ _ (F.push _) (N.push F _) fun p hp => Heap.lt_size (N p hp).1)
end

/-! str.translate of one sign -/
section
variable {prog : Program} {w : World} {A : Around} {E : Value → Shared → Prop} {s : Shared}
theorem sub_KeyLookup : isSubtype (.type "KeyError") (.type "LookupError") = pure true := by rw [isSubtype_type]; kernel_rfl
theorem tableLookup_hit {d : Addr} {c : Nat} {t : Tok} {x : Str} {f : Int → Option Value} {Q : Builtin.Str.Mapped → Shared → Prop} (hm : s.heap.MapOf (intKind prog w) d f) (hv : f c = some (.str x t))
    (h : Q (.text x) { s with toks := s.toks + 2 }) : wpAny (model prog w) A (Builtin.Str.tableLookup (.ref d) c) Q E s := by
  unfold Builtin.Str.tableLookup
  refine wpAny_bind (wpAny_attempt (wpAny_bind (wpAny_mkInt ?_)))
  refine wpAny_getItem_of (knd := intKind prog w) (k := (c : Int)) (intKind_is prog w _ _) hm hv ?_
  repeat (any_goals (first | assumption | walk_at "wpq"))
theorem tableLookup_miss {d : Addr} {c : Nat} {f : Int → Option Value} {Q : Builtin.Str.Mapped → Shared → Prop} (hm : s.heap.MapOf (intKind prog w) d f) (hds : (d == sysModules) = false) (hh : A.handled = none) (hv : f c = none)
    (h : ∀ h' tk e, Heap.NewExc s.heap h' e "KeyError" → Q .keep { s with heap := h', toks := tk }) : wpAny (model prog w) A (Builtin.Str.tableLookup (.ref d) c) Q E s := by
  unfold Builtin.Str.tableLookup
  refine wpAny_bind (wpAny_attempt (wpAny_bind (wpAny_mkInt ?_)))
  refine wpAny_getItem_missing_of (knd := intKind prog w) (k := (c : Int)) (intKind_is prog w _ _) hds hh hm hv ?_
  intro h' e hx
  obtain ⟨ob, t, he, hc, _⟩ := hx.there
  refine wpAny_bind (wpAny_isInstance (T := "KeyError") ⟨ob, he, hc⟩ sub_KeyLookup ?_)
  repeat (any_goals (first | assumption | exact h _ _ _ hx | walk_at "wpq"))
end
section
variable {prog : Program} {w : World} {A : Around} {E : Value → Shared → Prop} {s : Shared}
theorem translate_hit {d : Addr} {c : Nat} {t u : Tok} {x : Str} {f : Int → Option Value} {Q : Value → Shared → Prop} (hm : s.heap.MapOf (intKind prog w) d f) (hc : c < 128) (hv : f c = some (.str x t)) (hx : x.length = 2) 
    (h : ∀ tk t', Q (.str x t') { s with toks := tk }) : wpAny (model prog w) A (call (.builtin "str.translate") [.str ⟨#[c]⟩ u, .ref d]) Q E s := by
  have hT : s.TypeIs (.str ⟨#[c]⟩ u) "str" := rfl
  refine wpAny_call_entry F.slot_str_translate hT F.entry_str_translate ?_ (F.args_str_translate_2 _ _)
  have h128 : (Array.all #[c] fun x => decide (x < 128)) = true := by simp [hc]
  have hl1 : (x.length == 1) = false := by rw [hx]; rfl
  unfold Builtin.«str.translate»
  refine wpAny_bind (wpAny_of_eq (a := (.str ⟨#[c]⟩ u, ⟨#[c]⟩, .ref d)) (by first | rfl | kernel_rfl) ?_)
  dsimp only
  simp only [h128]
  refine wpAny_ite_false (by simp [PySem.Str.length]) ?_
  repeat (any_goals (first | assumption | ((with_reducible show wpAny _ _ (Builtin.Str.tableLookup _ _) _ _ _); refine tableLookup_hit hm (by exact hv) ?_; (try simp only [hl1, Bool.false_and, Bool.false_eq_true, if_false])) | walk_at "wpq"))
  have e : List.foldl (fun (acc : Array Nat) (p : Str) => acc ++ p.cps) #[] (List.reverse [x]) = x.cps := by simp
  refine wpAny_ite_false (by show decide (Builtin.Str.tooLong (0 + Str.length x) = true) = false; rw [hx]; decide +kernel) ?_
  show wpAny _ _ (retStr ⟨List.foldl (fun (acc : Array Nat) (p : Str) => acc ++ p.cps) #[] (List.reverse [x])⟩) _ _ _
  rw [e]
  unfold retStr
  refine wpAny_bind (wpAny_mkStr (wpAny_pure ⟨_, rfl, h _ _⟩) (by show Str.length x ≤ sizeLine; rw [hx]; decide +kernel))
theorem translate_miss {d : Addr} {c : Nat} {u : Tok} {f : Int → Option Value} {Q : Value → Shared → Prop} (hm : s.heap.MapOf (intKind prog w) d f) (hds : (d == sysModules) = false) (hh : A.handled = none) (hv : f c = none)
    (h : ∀ h' tk t', (∀ b o, s.heap.get? b = some o → h'.get? b = some o) → Q (.str ⟨#[c]⟩ t') { s with heap := h', toks := tk }) : wpAny (model prog w) A (call (.builtin "str.translate") [.str ⟨#[c]⟩ u, .ref d]) Q E s := by
  have hT : s.TypeIs (.str ⟨#[c]⟩ u) "str" := rfl
  refine wpAny_call_entry F.slot_str_translate hT F.entry_str_translate ?_ (F.args_str_translate_2 _ _)
  unfold Builtin.«str.translate»
  refine wpAny_bind (wpAny_of_eq (a := (.str ⟨#[c]⟩ u, ⟨#[c]⟩, .ref d)) (by first | rfl | kernel_rfl) ?_)
  dsimp only
  refine wpAny_ite_false (by simp [PySem.Str.length]) ?_
  by_cases hc : c < 128
  · have h128 : (Array.all #[c] fun x => decide (x < 128)) = true := by simp [hc]
    simp only [h128]
    repeat (any_goals (first | assumption | ((with_reducible show wpAny _ _ (Builtin.Str.tableLookup _ _) _ _ _); refine tableLookup_miss hm hds hh (by exact hv) ?_; intro h1 tk1 e1 x1) | walk_at "wpq"))
    exact ⟨_, rfl, h h1 _ _ x1.keeps⟩
  · have h128 : (Array.all #[c] fun x => decide (x < 128)) = false := by simp [hc]
    simp only [h128]
    repeat (any_goals (first | assumption | ((with_reducible show wpAny _ _ (Builtin.Str.tableLookup _ _) _ _ _); refine tableLookup_miss hm hds hh (by exact hv) ?_; intro h1 tk1 e1 x1) | walk_at "wpq"))
    exact ⟨_, rfl, h h1 _ _ x1.keeps⟩
end

/-- the signs that re.escape escapes -/
noncomputable def specials : List Nat := [40, 41, 91, 93, 123, 125, 63, 42, 43, 45, 124, 94, 36, 92, 46, 38, 126, 35, 32, 9, 10, 13, 11, 12]
noncomputable def escF (c : Nat) : Str := if specials.contains c then ⟨#[92, c]⟩ else ⟨#[c]⟩
noncomputable def objAt (K : Frag) (a : Addr) : Obj := (K.lookup a).getD default
noncomputable def entriesAt (K : Frag) (a : Addr) : Array DictEntry := match (objAt K a).data with | .dict es _ => es | _ => #[]
noncomputable def mapAt (K : Frag) (a : Addr) (k : Int) : Option Value := findBy Value.isInt (entriesAt K a) k
noncomputable def keyOk (e : DictEntry) : Bool := match e.key with | .int k _ => e.hash == hashInt k | _ => false
theorem sp_obj (P : Params) : (frag.heap_1 P).lookup 59 = some (objAt (frag.heap_1 P) 59) ∧ (objAt (frag.heap_1 P) 59).data = .dict (entriesAt (frag.heap_1 P) 59) 24 ∧ (objAt (frag.heap_1 P) 59).ExactDict := by
  refine ⟨by kernel_rfl, by kernel_rfl, ?_⟩
  unfold Obj.ExactDict
  exact ⟨by kernel_rfl, by kernel_rfl, by kernel_rfl⟩
theorem sp_keys (P : Params) : (entriesAt (frag.heap_1 P) 59).all keyOk = true := by kernel_rfl
noncomputable def spOk (P : Params) (c : Nat) : Bool := match mapAt (frag.heap_1 P) 59 (c : Int) with | some (.str x _) => specials.contains c && x == ⟨#[92, c]⟩ && decide (c < 128) | some _ => false | none => !specials.contains c
theorem sp_vals (P : Params) : (List.range 256).all (spOk P) = true := by kernel_rfl
theorem sp_map {prog : Program} {w : World} {P : Params} {h : Heap} (X : (frag.heap_1 P).In h) : h.MapOf (intKind prog w) 59 (mapAt (frag.heap_1 P) 59) := by
  obtain ⟨a, b, c⟩ := sp_obj P
  refine ⟨_, _, _, X _ _ a, c, b, ?_, fun k => rfl⟩
  intro e he
  have q := sp_keys P
  rw [Array.all_eq_true'] at q
  have z := q e he
  unfold keyOk at z
  split at z
  · rename_i k t hk
    exact ⟨k, by rw [hk]; simp [intKind, Value.isInt], by simpa [intKind] using z⟩
  · cases z
section
variable {prog : Program} {w : World} {P : Params} {A : Around} {E : Value → Shared → Prop} {s : Shared} {h₀ : Heap} {L : Addr} {m : PySem.Str → Option Value} {news : List (Addr × Obj)}
theorem translate_K {c : Nat} {u : Tok} {Q : Value → Shared → Prop} (F : Fr h₀ L s.heap m) (N : News h₀ L s.heap news) (X : (frag.heap_1 P).In h₀) (hh : A.handled = none) (hc : c < 256)
    (h : ∀ h' tk t', Fr h₀ L h' m → News h₀ L h' news → Q (.str (escF c) t') { s with heap := h', toks := tk }) : wpAny (model prog w) A (call (.builtin "str.translate") [.str ⟨#[c]⟩ u, .ref 59]) Q E s := by
  have M := sp_map (prog := prog) (w := w) (X.keeps F.keep)
  have q := List.all_eq_true.mp (sp_vals P) c (List.mem_range.mpr hc)
  unfold spOk at q
  split at q
  · rename_i x t hv
    simp only [Bool.and_eq_true, beq_iff_eq, decide_eq_true_eq] at q
    obtain ⟨⟨q1, q2⟩, q3⟩ := q
    have e : escF c = x := by unfold escF; rw [if_pos q1, q2]
    subst q2
    refine translate_hit M q3 hv (by rfl) fun tk t' => ?_
    rw [← e]
    exact h s.heap tk t' F N
  · cases q
  · rename_i hv
    have q1 : specials.contains c = false := by simpa using q
    have e : escF c = ⟨#[c]⟩ := by unfold escF; rw [q1]; rfl
    refine translate_miss M (by decide) hh hv fun h' tk t' k => ?_
    rw [← e]
    exact h h' tk t' ⟨F.ns.keeps k, fun b o z => k b o (F.keep b o z), F.above⟩ fun p hp => ⟨k _ _ (N p hp).1, (N p hp).2⟩
end

theorem getMethod_translate {M : Model} {A : Around} {E : Value → Shared → Prop} {s : Shared} {x : Str} {u : Tok} {pl : Sem Bool} {Q : Value × List Value → Shared → Prop} (h : Q (.builtin "str.translate", [.str x u]) s) :
    wpAny M A (getMethod (.str x u) "translate" pl) Q E s := by
  have hT : s.TypeIs (.str x u) "str" := rfl
  have hR : ∀ a, Value.str x u = .ref a → ∃ o, s.heap.get? a = some o ∧ o.dict = none := fun _ e => nomatch e
  with_reducible exact getMethod_builtin hT F.plainAttrs_str F.slot_str_translate F.type_str_translate hR h
theorem rl_03_2 : True := by
  k_with "!getMethod str" => (with_reducible refine getMethod_translate ?_)
  k_with "!call builtin:str.translate" => (k_here; k_dflt (refine' translate_K (by k_asm) (by k_asm) (by k_asm) (by exact rfl) (by assumption) ?_; k_whole); intro _ _ _ _ _; (try dsimp only))
  trivial
section
variable {prog : Program} {w : World} {loose : List Str} {mean : ExcName → Option Value} {mg mb : Str → Option Value} {p : Program}
  {dp un : Nat} {gd : Option (List Code)} {cn : Str} {cs : Scope} {a : Addr} {ccd : Value} {cl : List (Str × Addr)} {outer : List Env} {A₀ : Around} {base h₀ : Heap} {L : Addr} {m : Str → Option Value} {s : Shared} {Q E : Value → Shared → Prop} {news : List (Addr × Obj)}
theorem escape_c {c : Nat} {tc : Tok} (B : Below A₀ base outer h₀) (F : Fr h₀ L s.heap m) (X : (frag.heap_1 w.params).In h₀) (N : News h₀ L s.heap news) (T : Top p loose mean mg mb h₀) (hk : cs.kind = .function)
    (hd' : dp + 2 < recursionLimit) (hu : un + 16 < cLine) (hc : c < 256)
    (hret : ∀ (t : Tok) (h' : Heap) (tk' : Nat), Fr h₀ L h' m → News h₀ L h' news → Q (.str (escF c) t) { s with heap := h', toks := tk' }) :
    wpAny (model PySem.Challenge.rw_ij0200_01.prog w) (ktrTop dp un gd cn cs L a ccd cl outer) (call (.ref 69) [.str ⟨#[c]⟩ tc]) Q E s := by
  revert X; k_fill; intro X
  refine wpAny_call ?_
  k_dflt cell_enter
  k_steps
  all_goals exact hret _ _ _ (by assumption) (by assumption)
end

section
variable {prog : Program} {w : World} {A : Around} {E : Value → Shared → Prop} {s₁ : Shared} {h₀ : Heap} {L : Addr} {m : Str → Option Value} {news : List (Addr × Obj)}
theorem srcC_signsW {env : Env} {elt : Expr} {x : Str} {ifs : List Expr} {scope : Scope} {Q : Value → Shared → Prop} {y : Str} {t : Tok} {pz : Str → Bool} {d : Str → PyData}
    (hh : A.handled = none) (F : Fr h₀ L s₁.heap m) (N : News h₀ L s₁.heap news) (hsz : y.length ≤ sizeLine)
    (g1 : ∀ C a v s₂ m₂ E', a ∈ signs y → ItemKind.str.is a v → s₂.heap.Ns (compEnv scope C env).locals m₂ → m₂ x = some v → s₁.toks ≤ s₂.toks →
        wpAny (model prog w) A (forIn ifs true fun c r => if r = true then do let ok ← isTrue c (compEnv scope C env) (eval c (compEnv scope C env)); pure (ForInStep.yield ok) else pure (ForInStep.yield r))
          (fun ok s₃ => ok = pz a ∧ Keeps s₂ s₃) E' s₂)
    (g2 : ∀ C a v s₂ m₂ E', a ∈ signs y → ItemKind.str.is a v → pz a = true → s₂.heap.Ns (compEnv scope C env).locals m₂ → m₂ x = some v → s₁.toks ≤ s₂.toks → wpAny (model prog w) A (eval elt (compEnv scope C env)) (fun r s₃ => Carried r (d a) ∧ Keeps s₂ s₃) E' s₂)
    (g3 : ∀ D (ys : List Value) h' tk, Fr h₀ L h' m → News h₀ L h' news → h₀.get? D = none → h'.IsList D ys.toArray → NewPlain h' news D ys.toArray → CarriedAll ys (((signs y).filter pz).map d) → Q (.ref D) { s₁ with heap := h', toks := tk }) :
    wpAny (model prog w) A (pyIter (.str y t)) (CompPost prog w A env scope x ifs elt Q) E s₁ := by
  unfold CompPost
  refine wpAny_pyIter_str fun o St W hst => ?_
  have up : ∀ (h' : Heap), (∀ b o', b ∉ [s₁.heap.objs.size] → (s₁.heap.push o).get? b = some o' → h'.get? b = some o') → ∀ b o', s₁.heap.get? b = some o' → h'.get? b = some o' :=
    fun h' hk b o' e => hk b o' (old_not_new e) (Heap.get?_push_of_some _ e)
  have sg : ∀ {i : Nat} {c : Nat}, y.cps[i]? = some c → (⟨#[c]⟩ : Str) ∈ signs y := fun {i c} e => by
    unfold signs
    exact List.mem_map.mpr ⟨c, by rw [← Array.getElem?_toList] at e; exact List.mem_of_getElem? e, rfl⟩
  refine ⟨(ItemKind.str.within (· ∈ signs y)).lift pz, fun v r => ∃ a, (ItemKind.str.within (· ∈ signs y)).is a v ∧ Carried r (d a), s₁.heap.objs.size, [s₁.heap.objs.size], [s₁.heap.objs.size], y.cps.size, SignAt y, St, rfl, W A hh, hsz, hst, ?_, ⟨?_, ?_⟩, ?_⟩
  · intro b hb
    show b < (s₁.heap.push o).objs.size
    rw [Heap.size_push, List.mem_singleton.mp hb]
    exact Nat.lt_succ_self _
  · intro C i v s₃ m₃ E' hP hn hm _ htk
    obtain ⟨c, u, hc, rfl⟩ := hP
    have ha : (ItemKind.str.within (· ∈ signs y)).is ⟨#[c]⟩ (.str ⟨#[c]⟩ u) := ⟨⟨u, rfl⟩, sg hc⟩
    rw [ItemKind.lift_is ha]
    exact g1 C _ _ s₃ m₃ E' ha.2 ha.1 hn hm htk
  · intro C i v s₃ m₃ E' hP hp hn hm _ htk
    obtain ⟨c, u, hc, rfl⟩ := hP
    have ha : (ItemKind.str.within (· ∈ signs y)).is ⟨#[c]⟩ (.str ⟨#[c]⟩ u) := ⟨⟨u, rfl⟩, sg hc⟩
    rw [ItemKind.lift_is ha] at hp
    exact wpAny_mono (g2 C _ _ s₃ m₃ E' ha.2 ha.1 hp hn hm htk) (fun r s₄ h₄ => ⟨⟨_, ha, h₄.1⟩, h₄.2⟩) fun _ _ e => e
  · intro D h' tk ys vs hnew hlD hplD hlen hP hF hk
    refine g3 D ys.toList h' tk (F.keeps (up h' hk)) (N.grown (up h' hk)) ?_ (by rw [Array.toArray_toList]; exact hlD) ⟨by rw [Array.toArray_toList]; exact hplD, fun p hp e => by rw [← e, Heap.get?_push_of_some _ (N p hp).1] at hnew; cases hnew⟩ (((areOf_signs hlen hP).withinP fun _ h => h).paired pz d _ hF)
    cases e : h₀.get? D with
    | none => rfl
    | some o' => rw [Heap.get?_push_of_some _ (F.keep _ _ e)] at hnew; cases hnew
end
theorem sign_len {y a : Str} (h : a ∈ signs y) : a.length = 1 := sign_length_one y a h
noncomputable def plainC (c : Nat) : List Nat := if c = 42 ∨ c = 63 ∨ c = 91 then [91, c, 93] else [c]
noncomputable def plainF (x : List Nat) : List Nat := x.flatMap plainC

theorem join_toList : ∀ (l : List Str), (Txt.join (Str.ofString "") l).cps.toList = l.flatMap (fun x => x.cps.toList) := by
  intro l
  show (Builtin.Str.glued (Str.ofString "") l).cps.toList = _
  unfold Builtin.Str.glued
  cases l with
  | nil => rfl
  | cons x r =>
    show (List.foldl (fun acc p => acc ++ (Str.ofString "").cps ++ p.cps) x.cps r).toList = _
    have h0 : (Str.ofString "").cps = #[] := by decide
    have gen : ∀ (r : List Str) (a : Array Nat), (List.foldl (fun acc p => acc ++ (Str.ofString "").cps ++ p.cps) a r).toList = a.toList ++ r.flatMap (fun x => x.cps.toList) := by
      intro r
      induction r with
      | nil => intro a; simp
      | cons y r ih => intro a; rw [List.foldl_cons, ih, h0]; simp
    rw [gen]; simp
noncomputable def brk (a : Str) : Str := if (!List.isEmpty (Builtin.Str.occurrences (Str.ofString "*?[") a 0 (Str.length (Str.ofString "*?[")) 1)) = true then Str.ofString "[" ++ a ++ Str.ofString "]" else a
theorem brk_one (c : Nat) : (brk ⟨#[c]⟩).cps.toList = plainC c := by
  unfold brk plainC
  rw [StrLaws.found_one]
  have e : (Str.ofString "*?[").cps.toList = [42, 63, 91] := by decide
  rw [e]
  by_cases h : c ∈ [42, 63, 91]
  · rw [if_pos (decide_eq_true h)]
    rw [if_pos (by simpa using h)]
    have e1 : (Str.ofString "[").cps = #[91] := by decide
    have e2 : (Str.ofString "]").cps = #[93] := by decide
    show ((Str.ofString "[" ++ (⟨#[c]⟩ : Str)) ++ Str.ofString "]").cps.toList = _
    rw [Str.cps_append, Str.cps_append, e1, e2]
    rfl
  · rw [if_neg (by simpa using h), if_neg (by simpa using h)]
theorem plainC_len (c : Nat) : (plainC c).length ≤ 3 := by unfold plainC; split <;> simp
theorem brk_signs (y : Str) : ((signs y).map brk).flatMap (fun x => x.cps.toList) = plainF y.cps.toList := by
  unfold signs plainF
  generalize y.cps.toList = l
  induction l with
  | nil => rfl
  | cons c r ih => simp only [List.map_cons, List.flatMap_cons, ih, brk_one]
section
variable {prog : Program} {w : World} {A : Around} {E : Value → Shared → Prop} {s : Shared}
theorem join_plain {D : Addr} {ys : List Value} {y : Str} {t : Tok} {Q : Value → Shared → Prop} (hl : s.heap.IsList D ys.toArray)
    (hc : CarriedAll ys (List.map (fun a => if (!List.isEmpty (Builtin.Str.occurrences (Str.ofString "*?[") a 0 (Str.length (Str.ofString "*?[")) 1)) = true then PyData.str (Str.ofString "[" ++ a ++ Str.ofString "]") else PyData.str a) (List.filter (fun _ => true) (signs y))))
    (hy : y.length ≤ 100) (h : ∀ t' k, Q (.str ⟨(plainF y.cps.toList).toArray⟩ t') { s with toks := k }) :
    wpAny (model prog w) A (call (.builtin "str.join") [.str (Str.ofString "") t, .ref D]) Q E s := by
  have e : (List.map (fun a => if (!List.isEmpty (Builtin.Str.occurrences (Str.ofString "*?[") a 0 (Str.length (Str.ofString "*?[")) 1)) = true then PyData.str (Str.ofString "[" ++ a ++ Str.ofString "]") else PyData.str a) (List.filter (fun _ => true) (signs y))) = ((signs y).map brk).map PyData.str := by
    rw [filter_everyA, List.map_map]
    refine List.map_congr_left fun a _ => ?_
    show _ = PyData.str (brk a)
    unfold brk
    split <;> rfl
  rw [e] at hc
  have hi : StrsAre ys.toArray.toList ((signs y).map brk) := StrsAre.of_carried hc
  have hlen : ∀ a ∈ signs y, (brk a).length ≤ 3 := fun a ha => by
    unfold signs at ha
    obtain ⟨c, _, rfl⟩ := List.mem_map.mp ha
    show (brk ⟨#[c]⟩).cps.size ≤ 3
    rw [← Array.length_toList, brk_one]
    exact plainC_len c
  have hsum := sumLen_le_of_bound brk 3 (signs y) hlen
  rw [signs_length] at hsum
  refine join_list hl hi ?_ fun t' k => ?_
  · rw [List.length_map, signs_length]
    have h0 : (Str.ofString "").length = 0 := by decide
    rw [h0]
    omega
  · have ej : Txt.join (Str.ofString "") ((signs y).map brk) = ⟨(plainF y.cps.toList).toArray⟩ := by
      refine Str.ext' ?_
      rw [← brk_signs, ← join_toList]
    rw [ej]
    exact h t' k
end
local macro_rules | `(tactic| walk_at "pyIter str") => `(tactic| ((rename Fr _ _ _ _ => F'); (rename News _ _ _ _ => N'); (with_reducible apply srcC_signsW); (case hh => with_unfolding_all rfl); (case F => with_unfolding_all exact F'); (case N => with_unfolding_all exact N'); (case hsz => size_fits); (case' g3 => intros); (case' g2 => (intros; (rename _ ∈ signs _ => hsg'); (have hone' := sign_len hsg'); (rename ItemKind.is _ _ _ => i'); (obtain ⟨_, e'⟩ := ItemKind.str_is i'; subst e'); (try (with_reducible refine wpAny_leafK ?_)))); (case' g1 => (intros; (rename ItemKind.is _ _ _ => i'); (obtain ⟨_, e'⟩ := ItemKind.str_is i'; subst e'); (try (with_reducible refine wpAny_leafK ?_))))))
theorem rl_04_3 : True := by
  k_with "!call builtin:str.join" => ((with_reducible show wpAny _ _ (call (Value.builtin "str.join") [Value.str _ _, Value.ref _]) _ _ _); (with_reducible rename CarriedAll _ _ => hc'); refine join_plain (by assumption) hc' (by assumption) ?_; intro _ _)
  trivial
section
variable {prog : Program} {w : World} {loose : List Str} {mean : ExcName → Option Value} {mg mb : Str → Option Value} {p : Program}
  {dp un : Nat} {gd : Option (List Code)} {cn : Str} {cs : Scope} {a : Addr} {ccd : Value} {cl : List (Str × Addr)} {outer : List Env} {A₀ : Around} {base h₀ : Heap} {L : Addr} {m : Str → Option Value} {s : Shared} {Q E : Value → Shared → Prop} {news : List (Addr × Obj)}
theorem plain_c {x : List Nat} {tx : Tok} (B : Below A₀ base outer h₀) (F : Fr h₀ L s.heap m) (X : (frag.heap_1 w.params).In h₀) (N : News h₀ L s.heap news) (T : Top p loose mean mg mb h₀) (hk : cs.kind = .function)
    (hd' : dp + 2 < recursionLimit) (hu : un + 16 < cLine) (hx : x.length ≤ 100)
    (hret : ∀ (t : Tok) (h' : Heap) (tk' : Nat), Fr h₀ L h' m → News h₀ L h' news → Q (.str ⟨(plainF x).toArray⟩ t) { s with heap := h', toks := tk' }) :
    wpAny (model PySem.Challenge.rw_ij0200_01.prog w) (ktrTop dp un gd cn cs L a ccd cl outer) (call (.ref 95) [.str ⟨x.toArray⟩ tx]) Q E s := by
  revert X; k_fill; intro X
  generalize hy : (⟨x.toArray⟩ : Str) = y
  have hyl : y.length ≤ 100 := by rw [← hy]; simpa [PySem.Str.length] using hx
  refine wpAny_call ?_
  k_dflt cell_enter
  k_steps
  all_goals (subst hy; (rename News h₀ L _ _ => kN9); exact hret _ _ _ (by assumption) (fun p hp => kN9 p (List.mem_cons_of_mem _ hp)))
end

/-! a stop for the walk -/
noncomputable def Frozen (P : Prop) : Prop := P
theorem freeze {P : Prop} (h : Frozen P) : P := h
theorem thaw {P : Prop} (h : P) : Frozen P := h
theorem rl_05_4 : True := by
  k_with "!KswEnd" => (k_here; refine freeze ?_)
  k_with "!eval Name" => (k_here; k_dflt (refine' nameX_L (by k_asm) (by rfl) ?_ (by rfl) (by rfl); k_whole))
  trivial
noncomputable def mkS (x : List Nat) : Str := ⟨x.toArray⟩
/-! rules on lists of the ledger -/
section
variable {prog : Program} {w : World} {M : Model} {A : Around} {E : Value → Shared → Prop} {s : Shared} {h₀ : Heap} {L : Addr} {m : PySem.Str → Option Value} {news : List (Addr × Obj)} {l : Addr} {its : Array Value} {n : Nat} {Q : Value → Shared → Prop}
theorem list_led (N : News h₀ L s.heap news) (hm : (l, listOf its n) ∈ news) : s.heap.IsList l its := ⟨_, (N _ hm).1, rfl, n, rfl⟩
theorem len_led (N : News h₀ L s.heap news) (hm : (l, listOf its n) ∈ news) (hsz : its.size ≤ 100000) (h : ∀ t tk, Q (.int its.size t) { s with toks := tk }) : wpAny (model prog w) A (call (.builtin "len") [.ref l]) Q E s :=
  call_len_list (list_led N hm) (by omega) (h _ _)
theorem item_led {value slice : PySem.Expr} {k : Int} {u : Tok} {v : Value} (N : News h₀ L s.heap news) (hm : (l, listOf its n) ∈ news) (h0 : 0 ≤ k) (hhi : k < 2 ^ 63) (hx : its[k.toNat]? = some v) (h : Q v s)
    (hs : subscripted slice false (.ref l) (.int k u) = operate [.ref l, .int k u] (getItem (.ref l) (.int k u)) := by with_unfolding_all rfl) :
    wpAny (model prog w) A (subscriptTail value slice (.ref l) (.int k u)) Q E s := by
  have hl := list_led N hm
  exact tail_any hl.typeIs slot_list_getitem.lookup (wpAny_getItem_list hl h0 hhi hx h) hs
theorem join_led {x : Str} {t : Tok} {ys : List Str} (N : News h₀ L s.heap news) (hm : (l, listOf its n) ∈ news) (hi : StrsAre its.toList ys) (hok : (ys.map (·.length)).sum + ys.length * x.length ≤ 16777216)
    (h : ∀ t' k, Q (.str (Txt.join x ys) t') { s with toks := k }) : wpAny (model prog w) A (call (.builtin "str.join") [.str x t, .ref l]) Q E s := join_list (list_led N hm) hi hok h
theorem sum_mkS (ys : List (List Nat)) : ((ys.map mkS).map (·.length)).sum = ys.flatten.length := by
  rw [List.length_flatten, List.map_map]; rfl
theorem mkS_toList (x : List Nat) : (mkS x).cps.toList = x := rfl
theorem str_ext {a b : Str} (h : a.cps.toList = b.cps.toList) : a = b := by
  cases a; cases b
  congr 1
  exact Array.toList_inj.mp h
theorem join_mkS (ys : List (List Nat)) : Txt.join (Str.ofString "") (ys.map mkS) = mkS ys.flatten := by
  refine str_ext ?_
  rw [join_toList, List.flatMap_map]
  show ys.flatMap (fun x => x) = ys.flatten
  simp [List.flatMap_id']
theorem join_ledS {t : Tok} {ys : List (List Nat)} (N : News h₀ L s.heap news) (hm : (l, listOf its n) ∈ news) (hi : StrsAre its.toList (ys.map mkS)) (hok : ys.flatten.length ≤ 65536)
    (h : ∀ t' k, Q (.str (mkS ys.flatten) t') { s with toks := k }) : wpAny (model prog w) A (call (.builtin "str.join") [.str (Str.ofString "") t, .ref l]) Q E s := by
  refine join_led N hm hi (by rw [sum_mkS, show (Str.ofString "").length = 0 from rfl]; omega) ?_
  rw [join_mkS]; exact h
theorem mkS_len (x : List Nat) : (mkS x).length = x.length := List.size_toArray
theorem str_append (a b : Str) : (a ++ b).cps.toList = a.cps.toList ++ b.cps.toList := Array.toList_append
theorem len_app (a b : Str) : (a ++ b).length = a.length + b.length := Array.size_append
theorem len_E : Str.empty.length = 0 := rfl
theorem len_h : (Str.ofString "(?s:").length = 4 := by decide +kernel
theorem len_t : (Str.ofString ")\\Z").length = 3 := by decide +kernel
theorem joinR (x : List Nat) : Str.empty ++ Str.ofString "(?s:" ++ mkS x ++ Str.ofString ")\\Z" = mkS ([40, 63, 115, 58] ++ x ++ [41, 92, 90]) := by
  refine str_ext ?_
  rw [str_append, str_append, str_append, mkS_toList, mkS_toList, show (Str.ofString "(?s:").cps.toList = [40, 63, 115, 58] by decide +kernel, show (Str.ofString ")\\Z").cps.toList = [41, 92, 90] by decide +kernel]
  rfl
theorem join_e1 (TA : List (List Nat)) : [40, 63, 115, 58] ++ (TA ++ [[46, 42]]).flatten ++ [41, 92, 90] = [40, 63, 115, 58] ++ TA.flatten ++ [46, 42] ++ ([] : List (List Nat)).flatten ++ [41, 92, 90] := by simp
theorem join_e2 (TA TB : List (List Nat)) : [40, 63, 115, 58] ++ (TA ++ [[46, 42]] ++ [TB.flatten]).flatten ++ [41, 92, 90] = [40, 63, 115, 58] ++ TA.flatten ++ [46, 42] ++ TB.flatten ++ [41, 92, 90] := by simp
theorem isNot_str_ref {x : Str} {t : Tok} {a : Addr} (h : Q (.bool true) s) : wpAny M A (compareOp .IsNot (.str x t) (.ref a)) Q E s := by
  show wpAny M A (isSame (.str x t) (.ref a) >>= fun b => pure (Value.bool (!b))) Q E s
  refine wpAny_bind (wpAny_of_eq (a := false) (by rfl) (wpAny_pure h))
theorem is_str_ref {x : Str} {t : Tok} {a : Addr} (h : Q (.bool false) s) : wpAny M A (compareOp .Is (.str x t) (.ref a)) Q E s := by
  show wpAny M A (isSame (.str x t) (.ref a) >>= fun b => pure (Value.bool b)) Q E s
  refine wpAny_bind (wpAny_of_eq (a := false) (by rfl) (wpAny_pure h))
end
theorem ne_of_lt_all {news : List (Addr × Obj)} {d : Addr} (h : ∀ p ∈ news, p.1 < d) : ∀ p ∈ news, p.1 ≠ d := fun p hp => Nat.ne_of_lt (h p hp)
theorem lt_of_allLt {d : Addr} : ∀ {news : List (Addr × Obj)}, AllLt d news → ∀ p ∈ news, p.1 < d
  | [], _ => fun _ h => nomatch h
  | _ :: _, h => fun p hp => by
    rcases List.mem_cons.mp hp with rfl | hp
    · exact h.1
    · exact lt_of_allLt h.2 p hp
theorem peel {z x : Str} {v r : Option Value} {f : Str → Option Value} (h : z ≠ x) (k : f z = r) : (if z = x then v else f z) = r := by rw [if_neg h]; exact k
theorem not_stored {b : Bool} {x y : Option Value} (h : b = false) : (if b = true then x else y) = y := by rw [h]; rfl
theorem rl_05_5 : True := by
  k_with "!ksw_same" => (intro z h2 h3; (have g3 := h3); (simp only [List.forall_mem_cons, List.not_mem_nil, false_implies, implies_true, and_true, ne_eq] at h2); (try simp only [List.contains_cons, List.contains_nil, Bool.or_false, Bool.or_eq_false_iff, beq_eq_false_iff_ne, ne_eq] at h3); (try simp only [kstB]); (repeat (first | rw [if_neg h2] | rw [if_neg h2.1] | rw [if_neg h2.2] | rw [if_neg h2.2.1] | rw [if_neg h2.2.2] | rw [if_neg h2.2.2.1] | rw [if_neg h2.2.2.2] | rw [if_neg h2.2.2.2.1] | rw [if_neg h2.2.2.2.2] | rw [if_neg h3] | rw [if_neg h3.1] | rw [if_neg h3.2] | rw [if_neg h3.2.1] | rw [if_neg h3.2.2] | rw [if_neg h3.2.2.1] | rw [if_neg h3.2.2.2] | rw [if_neg h3.2.2.2.1] | rw [if_neg h3.2.2.2.2] | rw [if_neg h3.2.2.2.2.1] | rw [if_neg h3.2.2.2.2.2] | rw [not_stored g3])))
  k_with "!WhlIf" => (first | (refine WhlIf.yes (decide_eq_true (by omega)) ?_) | (refine WhlIf.no (decide_eq_false (by omega)) ?_))
  trivial
local macro_rules | `(tactic| k_mem) => `(tactic| assumption)
theorem rl_05_6 : True := by
  k_with "!formatField str" => (k_here; (with_reducible show wpAny _ _ (formatField (Value.str _ _) _) _ _ _); refine formatField_str ?_ (by rw [mkS_len]; unfold sizeLine; omega); intro _ _)
  k_with "!kt_le" => ((simp only [len_app, mkS_len, len_E, len_h, len_t]); (unfold sizeLine); omega)
  k_with "!And" => (k_here; refine And.intro (by kt_le) ?_)
  k_with "!joinParts" => (k_here; (first | (with_reducible show wpAny _ _ (joinParts _ []) _ _ _) | (with_reducible show wpAny _ _ (joinParts _ (evalEach [] _)) _ _ _)); k_dflt (refine joinParts_nil ?_ (by kt_le)))
  k_with "!ite" => (k_here; k_openite; first | (refine ite_pos (by first | omega | (simp only [decide_eq_true_eq, beq_iff_eq, bne_iff_ne, ne_eq]; omega)) ?_) | (refine ite_neg (by first | omega | (simp only [decide_eq_true_eq, beq_iff_eq, bne_iff_ne, ne_eq]; omega)) ?_))
  k_with "!k_all" => (first | assumption | exact ne_of_lt_all (by assumption) | exact ne_of_lt_all (lt_of_allLt (by assumption)))
  k_with "!subscriptTail Name Name ref int" => (k_here; (with_reducible show wpAny _ _ (subscriptTail _ _ (Value.ref _) (Value.int _ _)) _ _ _); k_dflt (refine' item_led (by k_asm) (by k_mem) (by omega) (by omega) (by assumption) ?_; k_whole))
  k_with "!getAttr ref" => (k_here; (with_reducible show wpAny _ _ (getAttr (Value.ref _) (PySem.Str.ofString "append") _) _ _ _); k_dflt (refine' getAttr_append_K (by k_asm) (by k_asm) (by k_mem) ?_; k_whole); intro _ _ _ _ l1; (try k_lt l1); (try (revert l1; intro _)); (try k_sweep))
  k_with "!callWith ref" => (k_here; k_dflt (refine' callWith_app (by k_asm) (by k_mem) ?_; k_whole))
  k_with "!StandsB" => (k_dflt (exact (News.get (by k_asm) (by k_mem))))
  k_with "!call ref" => (k_here; k_dflt (refine' call_app (by k_asm) (by k_asm) (by k_mem) (by k_upd) ?_ (by first | assumption | size_fits); k_whole); intro _ _ _; (try k_sweep))
  k_with "!call builtin:len" => (k_here; k_dflt (refine' len_led (by k_asm) (by k_mem) (by first | omega | assumption) ?_; k_whole); intro _ _)
  k_with "!compareOp IsNot str ref" => (k_here; refine isNot_str_ref ?_)
  k_with "!compareOp Is str ref" => (k_here; refine is_str_ref ?_)
  trivial
theorem StrsAre.push' {vs : List Value} {xs : List Str} {n : Str} {t : Tok} (hI : StrsAre vs xs) : StrsAre (vs.toArray.push (.str n t)).toList (xs ++ [n]) := by
  rw [Array.toList_push]
  exact StrsAre.append' hI (.cons n t .nil)
theorem StrsAre.pushA {vs : Array Value} {xs : List Str} {n : Str} {t : Tok} (hI : StrsAre vs.toList xs) : StrsAre (vs.push (.str n t)).toList (xs ++ [n]) := by
  rw [Array.toList_push]
  exact StrsAre.append' hI (.cons n t .nil)
theorem strs_len {vs : List Value} {xs : List (List Nat)} (h : StrsAre vs (xs.map mkS)) : vs.length = xs.length := by rw [StrsAre.length h, List.length_map]
section
variable {prog : Program} {w : World} {loose : List Str} {mean : ExcName → Option Value} {mg mb : Str → Option Value} {p : Program}
  {dp un : Nat} {gd : Option (List Code)} {cn : Str} {cs : Scope} {a : Addr} {ccd : Value} {cl : List (Str × Addr)} {outer : List Env} {A₀ : Around} {base h₀ : Heap} {L : Addr} {m : Str → Option Value} {s : Shared} {Q E : Value → Shared → Prop} {news : List (Addr × Obj)}
theorem join_star {li st : Addr} {VA VB : List Value} {TA TB : List (List Nat)} {k : Nat} (B : Below A₀ base outer h₀) (F : Fr h₀ L s.heap m) (X : (frag.heap_1 w.params).In h₀) (N : News h₀ L s.heap news) (T : Top p loose mean mg mb h₀) (hk : cs.kind = .function)
    (hd' : dp + 2 < recursionLimit) (hu : un + 16 < cLine) (hm : (li, listOf (VA ++ .ref st :: VB).toArray k) ∈ news) (hst : (st, plainObject) ∈ news) (hA : StrsAre VA (TA.map mkS)) (hB : StrsAre VB (TB.map mkS)) (hsA : TA.flatten.length ≤ 4096) (hsB : TB.flatten.length ≤ 4096) (hlA : TA.length ≤ 100) (hlB : TB.length ≤ 100) 
    (hret : ∀ (t : Tok) (h' : Heap) (tk' : Nat), Fr h₀ L h' m → News h₀ L h' news → Q (.str (mkS ([40, 63, 115, 58] ++ TA.flatten ++ [46, 42] ++ TB.flatten ++ [41, 92, 90])) t) { s with heap := h', toks := tk' }) :
    wpAny (model PySem.Challenge.rw_ij0200_01.prog w) (ktrTop dp un gd cn cs L a ccd cl outer) (call (.ref 83) [.ref li, .ref st]) Q E s := by
  revert X; k_fill; intro X
  have hsz : (VA ++ .ref st :: VB).toArray.size ≤ 100000 := by
    have h1 := strs_len hA
    have h2 := strs_len hB
    simp only [List.size_toArray, List.length_append, List.length_cons]
    omega
  k_with_none
  k_with "!wpq" => (first | (with_reducible first | refine wpAny_pure ?_ | refine wpAny_bind ?_ | refine wpAny_letGo ?_ | refine wpAny_attempt ?_ | refine wpAny_throw ?_ | refine wpAny_mkInt' ?_ | refine wpAny_mkStr' ?_ | refine wpAny_of_eq (by assumption) ?_ | refine wpAny_typeOf (by assumption) ?_ | refine wpAny_specialOf_val (by assumption) (by assumption) ?_ | refine wpAny_specialOf (by assumption) (by assumption) ?_ | refine wpAny_isInstance_val (by assumption) (by assumption) ?_ | refine wpAny_isInstance (by assumption) (by assumption) ?_) | wp_delta | wp_step)
  k_with "!getMethod str" => (with_reducible refine getMethod_translate ?_)
  k_with "!call builtin:str.translate" => (k_here; k_dflt (refine' translate_K (by k_asm) (by k_asm) (by k_asm) (by exact rfl) (by assumption) ?_; k_whole); intro _ _ _ _ _; (try dsimp only))
  k_with "!call builtin:str.join" => ((with_reducible show wpAny _ _ (call (Value.builtin "str.join") [Value.str _ _, Value.ref _]) _ _ _); (with_reducible rename CarriedAll _ _ => hc'); refine join_plain (by assumption) hc' (by assumption) ?_; intro _ _)
  k_with "!KswEnd" => (k_here; refine freeze ?_)
  k_with "!eval Name" => (k_here; k_dflt (refine' nameX_L (by k_asm) (by rfl) ?_ (by rfl) (by rfl); k_whole))
  k_with "!ksw_same" => (intro z h2 h3; (have g3 := h3); (simp only [List.forall_mem_cons, List.not_mem_nil, false_implies, implies_true, and_true, ne_eq] at h2); (try simp only [List.contains_cons, List.contains_nil, Bool.or_false, Bool.or_eq_false_iff, beq_eq_false_iff_ne, ne_eq] at h3); (try simp only [kstB]); (repeat (first | rw [if_neg h2] | rw [if_neg h2.1] | rw [if_neg h2.2] | rw [if_neg h2.2.1] | rw [if_neg h2.2.2] | rw [if_neg h2.2.2.1] | rw [if_neg h2.2.2.2] | rw [if_neg h2.2.2.2.1] | rw [if_neg h2.2.2.2.2] | rw [if_neg h3] | rw [if_neg h3.1] | rw [if_neg h3.2] | rw [if_neg h3.2.1] | rw [if_neg h3.2.2] | rw [if_neg h3.2.2.1] | rw [if_neg h3.2.2.2] | rw [if_neg h3.2.2.2.1] | rw [if_neg h3.2.2.2.2] | rw [if_neg h3.2.2.2.2.1] | rw [if_neg h3.2.2.2.2.2] | rw [not_stored g3])))
  k_with "!WhlIf" => (first | (refine WhlIf.yes (decide_eq_true (by omega)) ?_) | (refine WhlIf.no (decide_eq_false (by omega)) ?_))
  k_with "!formatField str" => (k_here; (with_reducible show wpAny _ _ (formatField (Value.str _ _) _) _ _ _); refine formatField_str ?_ (by rw [mkS_len]; unfold sizeLine; omega); intro _ _)
  k_with "!kt_le" => ((simp only [len_app, mkS_len, len_E, len_h, len_t]); (unfold sizeLine); omega)
  k_with "!And" => (k_here; refine And.intro (by kt_le) ?_)
  k_with "!joinParts" => (k_here; (first | (with_reducible show wpAny _ _ (joinParts _ []) _ _ _) | (with_reducible show wpAny _ _ (joinParts _ (evalEach [] _)) _ _ _)); k_dflt (refine joinParts_nil ?_ (by kt_le)))
  k_with "!ite" => (k_here; k_openite; first | (refine ite_pos (by first | omega | (simp only [decide_eq_true_eq, beq_iff_eq, bne_iff_ne, ne_eq]; omega)) ?_) | (refine ite_neg (by first | omega | (simp only [decide_eq_true_eq, beq_iff_eq, bne_iff_ne, ne_eq]; omega)) ?_))
  k_with "!k_all" => (first | assumption | exact ne_of_lt_all (by assumption) | exact ne_of_lt_all (lt_of_allLt (by assumption)))
  k_with "!subscriptTail Name Name ref int" => (k_here; (with_reducible show wpAny _ _ (subscriptTail _ _ (Value.ref _) (Value.int _ _)) _ _ _); k_dflt (refine' item_led (by k_asm) (by k_mem) (by omega) (by omega) (by assumption) ?_; k_whole))
  k_with "!getAttr ref" => (k_here; (with_reducible show wpAny _ _ (getAttr (Value.ref _) (PySem.Str.ofString "append") _) _ _ _); k_dflt (refine' getAttr_append_K (by k_asm) (by k_asm) (by k_mem) ?_; k_whole); intro _ _ _ _ l1; (try k_lt l1); (try (revert l1; intro _)); (try k_sweep))
  k_with "!callWith ref" => (k_here; k_dflt (refine' callWith_app (by k_asm) (by k_mem) ?_; k_whole))
  k_with "!StandsB" => (k_dflt (exact (News.get (by k_asm) (by k_mem))))
  k_with "!call ref" => (k_here; k_dflt (refine' call_app (by k_asm) (by k_asm) (by k_mem) (by k_upd) ?_ (by first | assumption | size_fits); k_whole); intro _ _ _; (try k_sweep))
  k_with "!call builtin:len" => (k_here; k_dflt (refine' len_led (by k_asm) (by k_mem) (by first | omega | assumption) ?_; k_whole); intro _ _)
  k_with "!compareOp IsNot str ref" => (k_here; refine isNot_str_ref ?_)
  k_with "!compareOp Is str ref" => (k_here; refine is_str_ref ?_)
  k_with "exec While BoolOp cons nil" => refine freeze ?_
  k_with "call builtin:str.join" => (k_here; refine freeze ?_)
  refine wpAny_call ?_
  k_dflt cell_enter
  k_steps
  rename_i l _ la _ tk0 q _ lb _ tn _ D _ lc _ _ hh F9 N9
  refine thaw ?_
  refine ksw_while (σ := Nat × Nat × Tok) (fun c => (q, boundApp l) :: (l, listOf (VA.take c.1).toArray c.2.1) :: news) (fun c => [(Str.ofString "i", .int (c.1 : Int) c.2.2)]) (fun _ => True) [] (fun c => c.1 ≤ TA.length) (fun c => TA.length - c.1) (0, 0, tk0 + 1 + 1) F9 (fun p hp => N9 p (List.mem_cons_of_mem _ hp)) trivial ?hk (Nat.zero_le _) ?turn
  case hk =>
    intro p hp
    cases List.mem_singleton.mp hp
    rfl
  case turn =>
    rintro ⟨i, ep, ti⟩ u h tkw _ hP Fc Nc
    dsimp only at hP Fc Nc ⊢
    by_cases hi : i < TA.length
    · obtain ⟨tx, hx0⟩ := hA.get i (mkS TA[i]) (by rw [List.getElem?_map, List.getElem?_eq_getElem hi]; rfl)
      have hx : ((VA ++ Value.ref st :: VB).toArray)[(i : Int).toNat]? = some (.str (mkS TA[i]) tx) := by
        have h1 := strs_len hA
        rw [List.getElem?_toArray, Int.toNat_natCast, List.getElem?_append_left (by omega), hx0]
      have hlt : (i : Int) < ((VA ++ Value.ref st :: VB).toArray.size : Nat) := by
        have h1 := strs_len hA
        simp only [List.size_toArray, List.length_append, List.length_cons]; omega
      k_steps
      refine thaw ?_
      rename News _ _ _ _ => NE
      have e : (List.toArray (VA.take i)).push (Value.str (mkS TA[i]) tx) = (VA.take (i + 1)).toArray := by
        simp [List.take_add_one, hx0]
      rw [e] at NE
      refine ksw_end (i + 1, ep + 1, _) (by assumption) NE (fun _ h => h) trivial (fun p hp => by cases List.mem_singleton.mp hp; rfl) ?hr (by show i + 1 ≤ TA.length; omega) (by show TA.length - (i + 1) < TA.length - i; omega)
      ksw_same
    · obtain rfl : i = TA.length := by omega
      have hlA2 := strs_len hA
      have hx : ((VA ++ Value.ref st :: VB).toArray)[(TA.length : Int).toNat]? = some (.ref st) := by
        rw [List.getElem?_toArray, Int.toNat_natCast, List.getElem?_append_right (by omega), hlA2, Nat.sub_self]; rfl
      have hlt : (TA.length : Int) < ((VA ++ Value.ref st :: VB).toArray.size : Nat) := by
        simp only [List.size_toArray, List.length_append, List.length_cons]; omega
      rw [← hlA2, List.take_length] at Nc
      cases TB with
      | nil =>
        have hVB := StrsAre.nil_inv hB
        subst hVB
        have hsz2 : (((VA ++ [Value.ref st]).toArray.size : Nat) : Int) = (TA.length : Int) + 1 := by
          simp only [List.size_toArray, List.length_append, List.length_cons, List.length_nil]; omega
        k_steps
        refine thaw ?_
        rename News _ _ _ _ => NF
        refine join_ledS (ys := TA ++ [[46, 42]]) NF (.tail _ (.head _)) (by rw [List.map_append]; exact StrsAre.push' hA) (by rw [List.flatten_append, List.length_append]; show _ + 2 ≤ _; omega) ?_
        have hLR : (TA ++ [[46, 42]]).flatten.length ≤ 5000 := by rw [List.flatten_append, List.length_append]; show _ + 2 ≤ _; omega
        intro t' k'
        k_steps
        rename Fr _ _ _ m => FZ
        rename News _ _ _ _ => NZ
        rw [joinR, join_e1]
        exact hret _ _ _ FZ fun p hp => NZ p (List.mem_cons_of_mem _ (List.mem_cons_of_mem _ hp))
      | cons b TB' =>
        obtain ⟨tb, VB', rfl, hB'⟩ := StrsAre.cons_inv hB
        have hlB2 := strs_len hB'
        have hlB' : TB'.length + 1 ≤ 100 := hlB
        have hsz2 : (((VA ++ Value.ref st :: Value.str (mkS b) tb :: VB').toArray.size : Nat) : Int) = (TA.length : Int) + 2 + (TB'.length : Int) := by
          simp only [List.size_toArray, List.length_append, List.length_cons]; omega
        have hx1 : ((VA ++ Value.ref st :: Value.str (mkS b) tb :: VB').toArray)[((TA.length : Int) + 1).toNat]? = some (.str (mkS b) tb) := by
          rw [List.getElem?_toArray, show ((TA.length : Int) + 1).toNat = TA.length + 1 by omega, List.getElem?_append_right (by omega), hlA2, Nat.add_sub_cancel_left]; rfl
        k_steps
        rename_i hA1 tkA lf hB1 l1f hC1 FI NI
        refine thaw ?_
        refine ksw_while (σ := Nat × Nat × Tok) (fun c => (lf, listOf ((Value.str (mkS b) tb :: VB').take c.1).toArray c.2.1) :: (q, boundApp l) :: (l, listOf VA.toArray ep) :: news) (fun c => [(Str.ofString "i", .int ((TA.length : Int) + 1 + (c.1 : Int)) c.2.2)]) (fun _ => True) [] (fun c => c.1 ≤ TB'.length + 1) (fun c => TB'.length + 1 - c.1) (0, 0, tkw + 1) FI NI trivial ?hk2 (Nat.zero_le _) ?turn2
        case hk2 =>
          intro p hp
          cases List.mem_singleton.mp hp
          show some (Value.int ((TA.length : Int) + 1) _) = some (Value.int ((TA.length : Int) + 1 + ((0 : Nat) : Int)) _)
          rw [Int.natCast_zero, Int.add_zero]
        case turn2 =>
          rintro ⟨j, eq, tj⟩ u2 h2 tk2 _ hP2 Fd Nd
          dsimp only at hP2 Fd Nd ⊢
          by_cases hj : j < TB'.length + 1
          · obtain ⟨ty, hy0⟩ := hB.get j (mkS ((b :: TB')[j]'hj)) (by rw [List.getElem?_map, List.getElem?_eq_getElem hj]; rfl)
            have hy : ((VA ++ Value.ref st :: Value.str (mkS b) tb :: VB').toArray)[((TA.length : Int) + 1 + (j : Int)).toNat]? = some (.str (mkS ((b :: TB')[j]'hj)) ty) := by
              rw [List.getElem?_toArray, show ((TA.length : Int) + 1 + (j : Int)).toNat = TA.length + (j + 1) by omega, List.getElem?_append_right (by omega), hlA2, Nat.add_sub_cancel_left, List.getElem?_cons_succ, hy0]
            k_steps
            refine thaw ?_
            rename News _ _ _ _ => NE
            have e : (List.toArray ((Value.str (mkS b) tb :: VB').take j)).push (Value.str (mkS ((b :: TB')[j]'hj)) ty) = ((Value.str (mkS b) tb :: VB').take (j + 1)).toArray := by
              rw [List.take_add_one, hy0]; simp
            rw [e] at NE
            refine ksw_end (j + 1, eq + 1, ?tok) (by assumption) NE (fun _ h => h) trivial ?hk3 ?hr2 (by show j + 1 ≤ TB'.length + 1; omega) (by show TB'.length + 1 - (j + 1) < TB'.length + 1 - j; omega)
            case hk3 =>
              intro p hp
              cases List.mem_singleton.mp hp
              show some (Value.int ((TA.length : Int) + 1 + (j : Int) + 1) _) = some (Value.int ((TA.length : Int) + 1 + ((j + 1 : Nat) : Int)) _)
              rw [show ((TA.length : Int) + 1 + (j : Int) + 1) = ((TA.length : Int) + 1 + ((j + 1 : Nat) : Int)) by omega]
            case hr2 => ksw_same
          · obtain rfl : j = TB'.length + 1 := by omega
            rw [show (Value.str (mkS b) tb :: VB').take (TB'.length + 1) = Value.str (mkS b) tb :: VB' from List.take_of_length_le (by rw [List.length_cons]; omega)] at Nd
            k_steps
            refine thaw ?_
            refine join_ledS (ys := b :: TB') Nd (.head _) (by exact hB) (by omega) ?_
            intro t' k'
            k_steps
            refine thaw ?_
            rename News _ _ _ _ => NF
            have hLR : (TA ++ [[46, 42]] ++ [(b :: TB').flatten]).flatten.length ≤ 9000 := by
              rw [List.flatten_append, List.flatten_append, List.length_append, List.length_append, List.flatten_cons (l := (b :: TB').flatten), List.flatten_nil, List.append_nil]; show _ + 2 + _ ≤ _; omega
            refine join_ledS (ys := TA ++ [[46, 42]] ++ [(b :: TB').flatten]) NF (.tail _ (.tail _ (.head _))) (by rw [List.map_append, List.map_append]; exact StrsAre.pushA (StrsAre.push' hA)) (by omega) ?_
            intro t'' k''
            k_steps
            rename Fr _ _ _ m => FZ
            rename News _ _ _ _ => NZ
            rw [joinR, join_e2]
            exact hret _ _ _ FZ fun p hp => NZ p (List.mem_cons_of_mem _ (List.mem_cons_of_mem _ (List.mem_cons_of_mem _ hp)))
theorem join_none {li st : Addr} {VA : List Value} {TA : List (List Nat)} {k : Nat} (B : Below A₀ base outer h₀) (F : Fr h₀ L s.heap m) (X : (frag.heap_1 w.params).In h₀) (N : News h₀ L s.heap news) (T : Top p loose mean mg mb h₀) (hk : cs.kind = .function)
    (hd' : dp + 2 < recursionLimit) (hu : un + 16 < cLine) (hm : (li, listOf VA.toArray k) ∈ news) (hA : StrsAre VA (TA.map mkS)) (hsA : TA.flatten.length ≤ 4096) (hlA : TA.length ≤ 100) 
    (hret : ∀ (t : Tok) (h' : Heap) (tk' : Nat), Fr h₀ L h' m → News h₀ L h' news → Q (.str (mkS ([40, 63, 115, 58] ++ TA.flatten ++ [41, 92, 90])) t) { s with heap := h', toks := tk' }) :
    wpAny (model PySem.Challenge.rw_ij0200_01.prog w) (ktrTop dp un gd cn cs L a ccd cl outer) (call (.ref 83) [.ref li, .ref st]) Q E s := by
  revert X; k_fill; intro X
  have hsz : VA.toArray.size ≤ 100000 := by
    have h1 := strs_len hA
    simp only [List.size_toArray]
    omega
  k_with_none
  k_with "!wpq" => (first | (with_reducible first | refine wpAny_pure ?_ | refine wpAny_bind ?_ | refine wpAny_letGo ?_ | refine wpAny_attempt ?_ | refine wpAny_throw ?_ | refine wpAny_mkInt' ?_ | refine wpAny_mkStr' ?_ | refine wpAny_of_eq (by assumption) ?_ | refine wpAny_typeOf (by assumption) ?_ | refine wpAny_specialOf_val (by assumption) (by assumption) ?_ | refine wpAny_specialOf (by assumption) (by assumption) ?_ | refine wpAny_isInstance_val (by assumption) (by assumption) ?_ | refine wpAny_isInstance (by assumption) (by assumption) ?_) | wp_delta | wp_step)
  k_with "!getMethod str" => (with_reducible refine getMethod_translate ?_)
  k_with "!call builtin:str.translate" => (k_here; k_dflt (refine' translate_K (by k_asm) (by k_asm) (by k_asm) (by exact rfl) (by assumption) ?_; k_whole); intro _ _ _ _ _; (try dsimp only))
  k_with "!call builtin:str.join" => ((with_reducible show wpAny _ _ (call (Value.builtin "str.join") [Value.str _ _, Value.ref _]) _ _ _); (with_reducible rename CarriedAll _ _ => hc'); refine join_plain (by assumption) hc' (by assumption) ?_; intro _ _)
  k_with "!KswEnd" => (k_here; refine freeze ?_)
  k_with "!eval Name" => (k_here; k_dflt (refine' nameX_L (by k_asm) (by rfl) ?_ (by rfl) (by rfl); k_whole))
  k_with "!ksw_same" => (intro z h2 h3; (have g3 := h3); (simp only [List.forall_mem_cons, List.not_mem_nil, false_implies, implies_true, and_true, ne_eq] at h2); (try simp only [List.contains_cons, List.contains_nil, Bool.or_false, Bool.or_eq_false_iff, beq_eq_false_iff_ne, ne_eq] at h3); (try simp only [kstB]); (repeat (first | rw [if_neg h2] | rw [if_neg h2.1] | rw [if_neg h2.2] | rw [if_neg h2.2.1] | rw [if_neg h2.2.2] | rw [if_neg h2.2.2.1] | rw [if_neg h2.2.2.2] | rw [if_neg h2.2.2.2.1] | rw [if_neg h2.2.2.2.2] | rw [if_neg h3] | rw [if_neg h3.1] | rw [if_neg h3.2] | rw [if_neg h3.2.1] | rw [if_neg h3.2.2] | rw [if_neg h3.2.2.1] | rw [if_neg h3.2.2.2] | rw [if_neg h3.2.2.2.1] | rw [if_neg h3.2.2.2.2] | rw [if_neg h3.2.2.2.2.1] | rw [if_neg h3.2.2.2.2.2] | rw [not_stored g3])))
  k_with "!WhlIf" => (first | (refine WhlIf.yes (decide_eq_true (by omega)) ?_) | (refine WhlIf.no (decide_eq_false (by omega)) ?_))
  k_with "!formatField str" => (k_here; (with_reducible show wpAny _ _ (formatField (Value.str _ _) _) _ _ _); refine formatField_str ?_ (by rw [mkS_len]; unfold sizeLine; omega); intro _ _)
  k_with "!kt_le" => ((simp only [len_app, mkS_len, len_E, len_h, len_t]); (unfold sizeLine); omega)
  k_with "!And" => (k_here; refine And.intro (by kt_le) ?_)
  k_with "!joinParts" => (k_here; (first | (with_reducible show wpAny _ _ (joinParts _ []) _ _ _) | (with_reducible show wpAny _ _ (joinParts _ (evalEach [] _)) _ _ _)); k_dflt (refine joinParts_nil ?_ (by kt_le)))
  k_with "!ite" => (k_here; k_openite; first | (refine ite_pos (by first | omega | (simp only [decide_eq_true_eq, beq_iff_eq, bne_iff_ne, ne_eq]; omega)) ?_) | (refine ite_neg (by first | omega | (simp only [decide_eq_true_eq, beq_iff_eq, bne_iff_ne, ne_eq]; omega)) ?_))
  k_with "!k_all" => (first | assumption | exact ne_of_lt_all (by assumption) | exact ne_of_lt_all (lt_of_allLt (by assumption)))
  k_with "!subscriptTail Name Name ref int" => (k_here; (with_reducible show wpAny _ _ (subscriptTail _ _ (Value.ref _) (Value.int _ _)) _ _ _); k_dflt (refine' item_led (by k_asm) (by k_mem) (by omega) (by omega) (by assumption) ?_; k_whole))
  k_with "!getAttr ref" => (k_here; (with_reducible show wpAny _ _ (getAttr (Value.ref _) (PySem.Str.ofString "append") _) _ _ _); k_dflt (refine' getAttr_append_K (by k_asm) (by k_asm) (by k_mem) ?_; k_whole); intro _ _ _ _ l1; (try k_lt l1); (try (revert l1; intro _)); (try k_sweep))
  k_with "!callWith ref" => (k_here; k_dflt (refine' callWith_app (by k_asm) (by k_mem) ?_; k_whole))
  k_with "!StandsB" => (k_dflt (exact (News.get (by k_asm) (by k_mem))))
  k_with "!call ref" => (k_here; k_dflt (refine' call_app (by k_asm) (by k_asm) (by k_mem) (by k_upd) ?_ (by first | assumption | size_fits); k_whole); intro _ _ _; (try k_sweep))
  k_with "!call builtin:len" => (k_here; k_dflt (refine' len_led (by k_asm) (by k_mem) (by first | omega | assumption) ?_; k_whole); intro _ _)
  k_with "!compareOp IsNot str ref" => (k_here; refine isNot_str_ref ?_)
  k_with "!compareOp Is str ref" => (k_here; refine is_str_ref ?_)
  k_with "exec While BoolOp cons nil" => refine freeze ?_
  k_with "call builtin:str.join" => (k_here; refine freeze ?_)
  refine wpAny_call ?_
  k_dflt cell_enter
  k_steps
  rename_i l _ la _ tk0 q _ lb _ tn _ D _ lc _ _ hh F9 N9
  refine thaw ?_
  refine ksw_while (σ := Nat × Nat × Tok) (fun c => (q, boundApp l) :: (l, listOf (VA.take c.1).toArray c.2.1) :: news) (fun c => [(Str.ofString "i", .int (c.1 : Int) c.2.2)]) (fun _ => True) [] (fun c => c.1 ≤ TA.length) (fun c => TA.length - c.1) (0, 0, tk0 + 1 + 1) F9 (fun p hp => N9 p (List.mem_cons_of_mem _ hp)) trivial ?hk (Nat.zero_le _) ?turn
  case hk =>
    intro p hp
    cases List.mem_singleton.mp hp
    rfl
  case turn =>
    rintro ⟨i, ep, ti⟩ u h tkw _ hP Fc Nc
    dsimp only at hP Fc Nc ⊢
    by_cases hi : i < TA.length
    · obtain ⟨tx, hx0⟩ := hA.get i (mkS TA[i]) (by rw [List.getElem?_map, List.getElem?_eq_getElem hi]; rfl)
      have hx : (VA.toArray)[(i : Int).toNat]? = some (.str (mkS TA[i]) tx) := by
        have h1 := strs_len hA
        rw [List.getElem?_toArray, Int.toNat_natCast, hx0]
      have hlt : (i : Int) < (VA.toArray.size : Nat) := by
        have h1 := strs_len hA
        simp only [List.size_toArray]; omega
      k_steps
      refine thaw ?_
      rename News _ _ _ _ => NE
      have e : (List.toArray (VA.take i)).push (Value.str (mkS TA[i]) tx) = (VA.take (i + 1)).toArray := by
        simp [List.take_add_one, hx0]
      rw [e] at NE
      refine ksw_end (i + 1, ep + 1, _) (by assumption) NE (fun _ h => h) trivial (fun p hp => by cases List.mem_singleton.mp hp; rfl) ?hr (by show i + 1 ≤ TA.length; omega) (by show TA.length - (i + 1) < TA.length - i; omega)
      ksw_same
    · obtain rfl : i = TA.length := by omega
      have hlA2 := strs_len hA
      rw [← hlA2, List.take_length] at Nc
      have hsz2 : (((VA.toArray).size : Nat) : Int) = (TA.length : Int) := by
        simp only [List.size_toArray]; omega
      k_steps
      refine thaw ?_
      rename News _ _ _ _ => NF
      refine join_ledS (ys := TA) NF (.tail _ (.head _)) hA (by omega) ?_
      intro t' k'
      k_steps
      rename Fr _ _ _ m => FZ
      rename News _ _ _ _ => NZ
      rw [joinR]
      exact hret _ _ _ FZ fun p hp => NZ p (List.mem_cons_of_mem _ (List.mem_cons_of_mem _ hp))
end

/-! _twin_re_1.sub of one sign that does not match -/
theorem slot_sub : Slot "re.Pattern" "sub" "re.Pattern.sub" :=
  .of (owner := "re.Pattern") (n := "sub") (by rw [typeLookup_type, builtinLookup_eq_fast]; kernel_rfl) (by decide +kernel) (by decide +kernel) (by decide +kernel)
    (by first | exact .inl (by decide +kernel) | exact .inr (by decide +kernel)) (by rw [isSubtype_type]; kernel_rfl)
theorem type_sub : typeOf (.builtin "re.Pattern.sub") = pure (.type "method_descriptor") := by show builtinType _ = _; rw [builtinType_eq_fast]; kernel_rfl
theorem entry_sub : entryFor table "re.Pattern.sub" = some Builtin.«re.Pattern.sub» := entryFor_of_tree (by kernel_rfl)
theorem entry_subLoop : entryFor table "re.Pattern.sub.loop" = some Builtin.«re.Pattern.sub.loop» := entryFor_of_tree (by kernel_rfl)
theorem args_sub (a b c : Value) : argsOk "re.Pattern.sub" ⟨[a, b, c], []⟩ := by unfold argsOk; kernel_rfl
theorem plainAttrs_re : PlainAttrs "re.Pattern" :=
  ⟨⟨"object.__getattribute__", by rw [typeLookup_type, builtinLookup_eq_fast]; kernel_rfl, by decide +kernel⟩, by rw [typeLookup_type, builtinLookup_eq_fast]; kernel_rfl⟩
noncomputable def fieldsAt (K : Frag) (a : Addr) : Array Value := match (objAt K a).data with | .fields vs => vs | _ => #[]
noncomputable def itemsAt (K : Frag) (a : Addr) : Array Value := match (objAt K a).data with | .seq vs _ => vs | _ => #[]
noncomputable def codeRe : Array Nat := #[14, 14, 4, 1, 1, 9, 0, 64, 0, 1342177280, 0, 0, 0, 0, 0, 17, 0, 13, 11, 9, 0, 64, 0, 1342177280, 0, 0, 0, 0, 0, 17, 1, 1]
theorem re_obj (P : Params) : (frag.heap_1 P).lookup 50 = some (objAt (frag.heap_1 P) 50) ∧ (objAt (frag.heap_1 P) 50).data = .fields (fieldsAt (frag.heap_1 P) 50) ∧ (objAt (frag.heap_1 P) 50).cls = .type "re.Pattern" ∧ (objAt (frag.heap_1 P) 50).dict = none := by
  exact ⟨by kernel_rfl, by kernel_rfl, by kernel_rfl, by kernel_rfl⟩
theorem re_fields (P : Params) : Builtin.Re.reRawNat ((fieldsAt (frag.heap_1 P) 50).getD 6 .none) = 0 ∧ Builtin.Re.reRawNat ((fieldsAt (frag.heap_1 P) 50).getD 2 .none) = 1 ∧ (fieldsAt (frag.heap_1 P) 50).getD 5 .none = .ref 49 := by
  exact ⟨by kernel_rfl, by kernel_rfl, by kernel_rfl⟩
theorem re_code (P : Params) : (frag.heap_1 P).lookup 49 = some (objAt (frag.heap_1 P) 49) ∧ (objAt (frag.heap_1 P) 49).data = .seq (itemsAt (frag.heap_1 P) 49) (match (objAt (frag.heap_1 P) 49).data with | .seq _ k => k | _ => 0) ∧ ((itemsAt (frag.heap_1 P) 49).map Builtin.Re.reRawOf).map (·.toNat) = codeRe := by
  exact ⟨by kernel_rfl, by kernel_rfl, by kernel_rfl⟩
noncomputable def endsFailed (m : PySem.Sre.M) : Bool := match (m.runFor 4).outcome with | some .failed => true | _ => false
theorem re_run : ([42, 63, 91].all fun c => endsFailed (PySem.Sre.forSearch codeRe #[c] 1 0 1 false)) = true := by decide +kernel
section
variable {prog : Program} {w : World} {M : Model} {A : Around} {E : Value → Shared → Prop} {s : Shared} {h₀ : Heap} {L : Addr} {m : PySem.Str → Option Value} {news : List (Addr × Obj)}
theorem reDrive_one {m : PySem.Sre.M} {Q : PySem.Sre.M → Shared → Prop} (h : (m.runFor 4).outcome.isSome = true) (hq : Q (m.runFor 4) s) : wpAny M A (Builtin.Re.reDrive (2 ^ 64) m) Q E s := by
  rw [show (2 : Nat) ^ 64 = (2 ^ 64 - 1) + 1 by decide +kernel]
  unfold Builtin.Re.reDrive
  show wpAny M A (if (m.runFor 4).outcome.isSome = true then pure (m.runFor 4) else _) Q E s
  rw [if_pos h]
  exact wpAny_pure hq
theorem reRun_none {m : PySem.Sre.M} {Q : Option PySem.Sre.M → Shared → Prop} (h : endsFailed m = true) (hq : Q none s) : wpAny M A (Builtin.Re.reRunToEnd m) Q E s := by
  unfold endsFailed at h
  split at h
  · rename_i ho
    unfold Builtin.Re.reRunToEnd
    refine wpAny_bind (reDrive_one (by rw [ho]; rfl) ?_)
    refine wpAny_bind (wpAny_mono (Q := fun _ s' => s' = s) (E := E) ?_ (fun _ s' e => ?_) fun _ _ e => e)
    · generalize List.range PySem.Sre.names.size = l
      induction l with
      | nil => exact wpAny_pure rfl
      | cons i l ih =>
        rw [List.forIn_cons]
        refine wpAny_bind ?_
        split
        · exact wpAny_bind (wpAny_rule (wpAny_pure ih))
        · exact wpAny_pure ih
    · subst e
      rw [ho]
      exact wpAny_pure hq
  · cases h
noncomputable def Halt (P : Prop) : Prop := P
theorem halt {P : Prop} (h : Halt P) : P := h
theorem unhalt {P : Prop} (h : P) : Halt P := h
theorem sub_K {c : Nat} {f : Addr} {t : Tok} {Q : Value → Shared → Prop} (F : Fr h₀ L s.heap m) (N : News h₀ L s.heap news) (X : (frag.heap_1 w.params).In h₀) (hf : s.TypeIs (.ref f) "function") (hc : c = 42 ∨ c = 63 ∨ c = 91)
    (h : ∀ h' tk t', Fr h₀ L h' m → News h₀ L h' news → Q (.str ⟨#[c]⟩ t') { s with heap := h', toks := tk }) : wpAny (model prog w) A (call (.builtin "re.Pattern.sub") [.ref 50, .ref f, .str ⟨#[c]⟩ t]) Q E s := by
  obtain ⟨a1, a2, a3, a4⟩ := re_obj w.params
  obtain ⟨b1, b2, b3⟩ := re_fields w.params
  obtain ⟨c1, c2, c3⟩ := re_code w.params
  have X' := X.keeps F.keep
  have o50 := X' _ _ a1
  have o49 := X' _ _ c1
  have hT : s.TypeIs (.ref 50) "re.Pattern" := ⟨_, o50, a3⟩
  have hn : Builtin.Re.reNamed "re.Pattern.sub" "sub" ["repl", "string", "count"] 2 [.ref f, .str ⟨#[c]⟩ t] [] = pure [some (.ref f), some (.str ⟨#[c]⟩ t), none] := by first | rfl | kernel_rfl
  have hcall : typeLookup (.type "function") "__call__" = pure (some (.builtin "function.__call__")) := by rw [typeLookup_type, builtinLookup_eq_fast]; kernel_rfl
  refine wpAny_call (codeAny_call_builtin slot_sub.plain entry_sub (slot_sub.check _ _ _ _ _ _ _ _ hT (args_sub _ _ _) ?_))
  show wpAny _ _ (Builtin.Re.reSubstitute "re.Pattern.sub" "sub" false _) _ _ _
  unfold Builtin.Re.reSubstitute
  dsimp only
  rw [hn]
  have g1 : isSubtype (.type "str") (.type "bytearray") = pure false := by rw [isSubtype_type]; kernel_rfl
  repeat (any_goals (first | assumption | wp_step))
  refine ⟨Code.quiet_builtin _ (by decide +kernel), codeAny_builtin entry_subLoop ?_⟩
  have o50' : ∀ o : Obj, (s.heap.push o).get? 50 = some (objAt (frag.heap_1 w.params) 50) := fun o => Heap.get?_push_of_some o o50
  unfold Builtin.«re.Pattern.sub.loop»
  have ee : (#[c] : Array Nat).extract 0 1 = #[c] := by rcases hc with rfl | rfl | rfl <;> decide
  repeat (any_goals (first | assumption | exact o50' _ | ((with_reducible show wpAny _ _ (call _ _) _ _ _); refine halt ?_) | ((with_reducible show wpAny _ _ (Builtin.Re.reNextFound _ _ _) _ _ _); refine reRun_none (by rcases hc with rfl | rfl | rfl <;> kernel_rfl) ?_) | wp_step))
  refine unhalt ?_
  show wpAny (model prog w) _ (call (.builtin "str.join") [.str ⟨(#[c] : Array Nat).extract 0 0⟩ _, .ref s.heap.objs.size]) _ _ _
  refine join_list (D := s.heap.objs.size) (items := #[Value.str ⟨(#[c] : Array Nat).extract 0 1⟩ s.toks]) (ys := [⟨(#[c] : Array Nat).extract 0 1⟩]) ⟨_, Heap.get?_update_self _ (Heap.get?_push_size _ rfl) rfl, rfl, 1, rfl⟩ (.cons _ _ .nil) (by simp [Str.length]) ?_
  intro t' k'
  have ej : Txt.join (⟨(#[c] : Array Nat).extract 0 0⟩ : Str) [⟨(#[c] : Array Nat).extract 0 1⟩] = ⟨#[c]⟩ := by rcases hc with rfl | rfl | rfl <;> decide +kernel
  rw [ej]
  refine wpAny_ite_false (by decide) (wpAny_pure ?_)
  have N1 := N.push F (o := listOf #[] 0)
  have z := N1 _ (.head _)
  refine h _ _ _ ((F.push (listOf #[] 0)).change (Heap.SameBut.update ..) z.2.1 z.2.2) fun p hp => ?_
  refine news_set (pre := []) N1 (fun _ hp => nomatch hp) (fun p hp => Nat.ne_of_lt (Heap.lt_size (N p hp).1)) (Heap.SameBut.update ..) (o' := listOf #[Value.str ⟨(#[c] : Array Nat).extract 0 1⟩ s.toks] 1) ?_ p (List.mem_cons_of_mem _ hp)
  exact Heap.get?_update_self _ (Heap.get?_push_size _ rfl) rfl
theorem sub_N {c : Nat} {f : Addr} {o : Obj} {t : Tok} {Q : Value → Shared → Prop} (F : Fr h₀ L s.heap m) (N : News h₀ L s.heap news) (X : (frag.heap_1 w.params).In h₀) (hf : (f, o) ∈ news) (ho : o.cls = .type "function") (hc : c = 42 ∨ c = 63 ∨ c = 91)
    (h : ∀ h' tk t', Fr h₀ L h' m → News h₀ L h' news → Q (.str ⟨#[c]⟩ t') { s with heap := h', toks := tk }) : wpAny (model prog w) A (call (.builtin "re.Pattern.sub") [.ref 50, .ref f, .str ⟨#[c]⟩ t]) Q E s :=
  sub_K F N X ⟨_, (N _ hf).1, ho⟩ hc h
theorem getMethod_sub {pl : Sem Bool} {Q : Value × List Value → Shared → Prop} (F : Fr h₀ L s.heap m) (X : (frag.heap_1 w.params).In h₀) (h : Q (.builtin "re.Pattern.sub", [.ref 50]) s) :
    wpAny M A (getMethod (.ref 50) "sub" pl) Q E s := by
  obtain ⟨a1, a2, a3, a4⟩ := re_obj w.params
  have o50 := (X.keeps F.keep) _ _ a1
  have hT : s.TypeIs (.ref 50) "re.Pattern" := ⟨_, o50, a3⟩
  with_reducible exact getMethod_builtin hT plainAttrs_re slot_sub type_sub (fun _ e => by cases e; exact ⟨_, o50, a4⟩) h
end

/-! slices of a text, as lists -/
theorem pick_range (x : List Nat) (lo : Nat) : ∀ m : Nat, ((List.range m).map fun k => lo + k).filterMap (fun i => x[i]?) = (x.drop lo).take m
  | 0 => by simp
  | m + 1 => by
    rw [List.range_succ, List.map_append, List.filterMap_append, pick_range x lo m, List.take_add_one, List.getElem?_drop]
    congr 1
noncomputable def clipS (v : Option Int) (d n : Int) : Int := match v with | none => d | some i => max 0 (min (if i < 0 then i + n else i) n)
theorem strSlice_eq (l u : Option Int) (n : Nat) : Builtin.Str.strSliceIndices l u 1 n = sliceRange (clipS l 0 n) (clipS u n n) 1 := by
  unfold Builtin.Str.strSliceIndices clipS
  cases l <;> cases u <;> rfl
theorem sliceRange_nat (lo hi : Nat) : sliceRange (lo : Int) (hi : Int) 1 = (List.range (hi - lo)).map fun k => lo + k := by
  unfold sliceRange
  have e : (if (1 : Int) > 0 then (if (lo : Int) < hi then ((hi : Int) - lo + 1 - 1) / 1 else 0) else (if (lo : Int) > hi then ((lo : Int) - hi - 1 - 1) / -1 else 0)).toNat = hi - lo := by
    rw [if_pos (by decide), Int.ediv_one]
    split <;> omega
  dsimp only
  rw [e]
  refine List.map_congr_left fun k _ => ?_
  omega
theorem slice_core {x : List Nat} {l u : Option Int} {lo hi : Nat} (h1 : clipS l 0 x.length = lo) (h2 : clipS u x.length x.length = hi) (h3 : hi ≤ x.length) : Txt.slice (mkS x) l u = mkS ((x.drop lo).take (hi - lo)) := by
  unfold Txt.slice
  rw [mkS_len, strSlice_eq, h1, h2, sliceRange_nat]
  split
  · rename_i h
    have e : hi - lo = x.length := by simpa using h
    rcases Nat.eq_zero_or_pos x.length with q | q
    · have : x = [] := List.length_eq_zero_iff.mp q
      subst this
      simp
    · have e0 : lo = 0 := by omega
      rw [e0, List.drop_zero, List.take_of_length_le (by omega)]
  · refine str_ext ?_
    rw [mkS_toList]
    show (List.filterMap (fun i => (mkS x).cps[i]?) _) = _
    have e : (fun i : Nat => (mkS x).cps[i]?) = fun i : Nat => x[i]? := by
      funext i
      rw [← Array.getElem?_toList, mkS_toList]
    rw [e, pick_range]
theorem slice_take {x : List Nat} {b : Nat} : Txt.slice (mkS x) none (some (b : Int)) = mkS (x.take b) := by
  rw [slice_core (lo := 0) (hi := min b x.length) rfl (by unfold clipS; dsimp only; split <;> omega) (by omega)]
  rw [List.drop_zero, Nat.sub_zero]
  rcases Nat.lt_or_ge b x.length with q | q
  · rw [Nat.min_eq_left (by omega)]
  · rw [Nat.min_eq_right q, List.take_of_length_le (Nat.le_refl _), List.take_of_length_le q]
theorem slice_drop {x : List Nat} {a : Nat} : Txt.slice (mkS x) (some (a : Int)) none = mkS (x.drop a) := by
  rw [slice_core (lo := min a x.length) (hi := x.length) (by unfold clipS; dsimp only; split <;> omega) rfl (by omega)]
  rw [List.take_of_length_le (by rw [List.length_drop]; omega)]
  rcases Nat.lt_or_ge a x.length with q | q
  · rw [Nat.min_eq_left (by omega)]
  · rw [Nat.min_eq_right q, List.drop_eq_nil_of_le (Nat.le_refl _), List.drop_eq_nil_of_le q]
theorem slice_last {x : List Nat} {a : Nat} (h : 0 < a) : Txt.slice (mkS x) (some (-(a : Int))) none = mkS (x.drop (x.length - a)) := by
  rw [slice_core (lo := x.length - a) (hi := x.length) (by unfold clipS; dsimp only; split <;> omega) rfl (by omega)]
  rw [List.take_of_length_le (by rw [List.length_drop]; omega)]
theorem slice_mid {x : List Nat} {a b : Nat} (h : b ≤ x.length) (ha : a ≤ b) : Txt.slice (mkS x) (some (a : Int)) (some (b : Int)) = mkS ((x.drop a).take (b - a)) :=
  slice_core (by unfold clipS; dsimp only; split <;> omega) (by unfold clipS; dsimp only; split <;> omega) h
theorem slice_one {x : List Nat} {c : Nat} {k : Int} (h : x[k.toNat]? = some c) (h0 : 0 ≤ k) : Txt.slice (mkS x) (some k) (some (k + 1)) = ⟨#[c]⟩ := by
  have hlt : k.toNat < x.length := by
    rcases Nat.lt_or_ge k.toNat x.length with q | q
    · exact q
    · rw [List.getElem?_eq_none q] at h; cases h
  obtain ⟨n, rfl⟩ := Int.eq_ofNat_of_zero_le h0
  rw [Int.toNat_natCast] at h hlt
  rw [show ((n : Int) + 1) = ((n + 1 : Nat) : Int) by omega, slice_mid (by omega) (by omega), show n + 1 - n = 1 by omega]
  have e : (x.drop n).take 1 = [c] := by
    rw [List.drop_eq_getElem_cons hlt]
    rw [List.getElem?_eq_getElem hlt] at h
    cases h
    rfl
  rw [e]
  rfl

/-! tokens -/
inductive Tk | star | any | lit (c : Nat)
deriving DecidableEq
noncomputable def litOut (c : Nat) : List Nat := if c = 42 then [91, 42, 93] else if c = 63 then [91, 63, 93] else if c = 91 then [91, 92, 91, 93] else (escF c).cps.toList
noncomputable def Tk.pat : Tk → List Nat
  | .star => [42]
  | .any => [63]
  | .lit c => plainC c
noncomputable def Tk.out : Tk → List Nat
  | .star => [46, 42]
  | .any => [46]
  | .lit c => litOut c
inductive Outs (st : Addr) : List Value → List Tk → Prop
  | nil : Outs st [] []
  | star {vs ts} : Outs st vs ts → Outs st (.ref st :: vs) (.star :: ts)
  | txt {vs ts} (t : Tk) (u : Tok) : t ≠ .star → Outs st vs ts → Outs st (.str (mkS t.out) u :: vs) (t :: ts)
theorem Outs.append {st : Addr} : ∀ {vs ts ws us}, Outs st vs ts → Outs st ws us → Outs st (vs ++ ws) (ts ++ us)
  | _, _, _, _, .nil, h => h
  | _, _, _, _, .star k, h => .star (k.append h)
  | _, _, _, _, .txt t u n k, h => .txt t u n (k.append h)
theorem Outs.txt' {st : Addr} {vs ts} (t : Tk) (u : Tok) {x : Str} (e : x = mkS t.out) (n : t ≠ .star) (k : Outs st vs ts) : Outs st (.str x u :: vs) (t :: ts) := by subst e; exact .txt t u n k
theorem Outs.length {st : Addr} : ∀ {vs ts}, Outs st vs ts → vs.length = ts.length
  | _, _, .nil => rfl
  | _, _, .star k => by rw [List.length_cons, List.length_cons, k.length]
  | _, _, .txt _ _ _ k => by rw [List.length_cons, List.length_cons, k.length]
theorem Outs.take_succ {st : Addr} {ts : List Tk} {V : List Value} {i : Nat} {v : Value} {t : Tk} (h : Outs st V (ts.take i)) (hi : ts[i]? = some t) (hv : Outs st [v] [t]) : Outs st (V ++ [v]) (ts.take (i + 1)) := by
  rw [List.take_add_one, hi]
  exact h.append hv
theorem Outs.lastTxt {st : Addr} {t : Tk} (hn : t ≠ .star) : ∀ {ts : List Tk} {V : List Value}, Outs st V (ts ++ [t]) → ∃ x u, V[ts.length]? = some (.str x u) := by
  intro ts
  induction ts with
  | nil =>
    intro V h
    generalize hT : ([] ++ [t] : List Tk) = T at h
    cases h with
    | nil => cases hT
    | star k => cases hT; exact absurd rfl hn
    | txt t' u n k => exact ⟨_, u, rfl⟩
  | cons t₀ ts ih =>
    intro V h
    generalize hT : (t₀ :: ts ++ [t] : List Tk) = T at h
    cases h with
    | nil => cases hT
    | star k =>
      cases hT
      obtain ⟨x, u, e⟩ := ih k
      exact ⟨x, u, e⟩
    | txt t' u n k =>
      cases hT
      obtain ⟨x, u, e⟩ := ih k
      exact ⟨x, u, e⟩
theorem Outs.before {st : Addr} {ts : List Tk} {V : List Value} {j : Nat} (h : Outs st V (ts.take (j + 1))) (hs : ∀ k, ts[k + 1]? = some .star → ts[k]? ≠ some .star) (hi : j + 1 < ts.length) (ht : ts[j + 1] = .star) : ∃ x u, V.length = j + 1 ∧ V[j]? = some (.str x u) := by
  have e : ts.take (j + 1) = ts.take j ++ [ts[j]] := by rw [List.take_add_one, List.getElem?_eq_getElem (by omega)]; rfl
  have hl : V.length = j + 1 := by rw [h.length, List.length_take]; omega
  have hn : ts[j] ≠ .star := by
    have q := hs j (by rw [List.getElem?_eq_getElem hi, ht])
    rw [List.getElem?_eq_getElem (by omega)] at q
    exact fun z => q (by rw [z])
  rw [e] at h
  obtain ⟨x, u, hx⟩ := h.lastTxt hn
  refine ⟨x, u, hl, ?_⟩
  rw [show j = (ts.take j).length by rw [List.length_take]; omega]
  exact hx
noncomputable def TF (l c : Nat) (ps : Array Value) : Prop := ps = #[] ∨ ∃ c', ps = #[rawInt l, rawInt c, .ref c']
noncomputable def pats (ts : List Tk) : List Nat := ts.flatMap Tk.pat
theorem one_ne {c k : Nat} {x : Str} (h : c ≠ k) (hx : x.cps = #[k]) : ((⟨#[c]⟩ : Str) == x) = false := by
  rw [beq_eq_false_iff_ne]
  rintro rfl
  have e : (#[c] : Array Nat) = #[k] := hx
  injection e with e
  injection e with e
  exact h e
noncomputable def offT (ts : List Tk) (k : Nat) : Nat := (pats (ts.take k)).length
theorem pats_split {ts : List Tk} {k : Nat} (h : k < ts.length) : pats ts = pats (ts.take k) ++ (ts[k].pat ++ pats (ts.drop (k + 1))) := by
  have e : ts = ts.take k ++ (ts[k] :: ts.drop (k + 1)) := by simp
  have e2 : pats ts = pats (ts.take k ++ (ts[k] :: ts.drop (k + 1))) := congrArg pats e
  rw [e2]
  unfold pats
  rw [List.flatMap_append, List.flatMap_cons]
theorem pat_at {ts : List Tk} {k j : Nat} {c : Nat} (h : k < ts.length) (hj : ts[k].pat[j]? = some c) : (pats ts)[offT ts k + j]? = some c := by
  have hl : j < ts[k].pat.length := by
    rcases Nat.lt_or_ge j ts[k].pat.length with q | q
    · exact q
    · rw [List.getElem?_eq_none q] at hj; cases hj
  rw [pats_split h, List.getElem?_append_right (by unfold offT; exact Nat.le_add_right _ _), show offT ts k + j - (pats (ts.take k)).length = j from Nat.add_sub_cancel_left .., List.getElem?_append_left hl, hj]
theorem off_succ {ts : List Tk} {k : Nat} (h : k < ts.length) : offT ts (k + 1) = offT ts k + ts[k].pat.length := by
  unfold offT pats
  rw [List.take_add_one, List.getElem?_eq_getElem h, List.flatMap_append, List.length_append]
  simp
theorem off_len (ts : List Tk) : offT ts ts.length = (pats ts).length := by unfold offT; rw [List.take_length]
theorem off_le {ts : List Tk} {k : Nat} (h : k < ts.length) : offT ts k + ts[k].pat.length ≤ (pats ts).length := by
  rw [pats_split h, List.length_append, List.length_append]; unfold offT; omega
theorem pat_len (t : Tk) : 1 ≤ t.pat.length ∧ t.pat.length ≤ 3 := by
  cases t with
  | star => exact ⟨by decide, by decide⟩
  | any => exact ⟨by decide, by decide⟩
  | lit c => show 1 ≤ (plainC c).length ∧ (plainC c).length ≤ 3; unfold plainC; split <;> exact ⟨by simp, by simp⟩
theorem pats_len (ts : List Tk) : (pats ts).length ≤ 3 * ts.length := by
  induction ts with
  | nil => exact Nat.le_refl _
  | cons t ts ih =>
    have h := (pat_len t).2
    show (t.pat ++ pats ts).length ≤ _
    rw [List.length_append, List.length_cons]; omega
section
variable {prog : Program} {w : World} {A : Around} {E : Value → Shared → Prop} {s : Shared} {Q : Value → Shared → Prop}
theorem slen {x : List Nat} {t : Tok} (hz : x.length ≤ 100000) (h : ∀ t' tk, Q (.int x.length t') { s with toks := tk }) : wpAny (model prog w) A (call (.builtin "len") [.str (mkS x) t]) Q E s :=
  P.len_str (by rw [mkS_len]; omega) (by rw [mkS_len]; exact h _ _)
theorem sitem {value slice : PySem.Expr} {x : List Nat} {t : Tok} {k : Int} {u : Tok} {c : Nat} (h0 : 0 ≤ k) (hz : x.length ≤ 100000) (hx : x[k.toNat]? = some c) (h : ∀ t' tk, Q (.str ⟨#[c]⟩ t') { s with toks := tk })
    (hs : subscripted slice false (.str (mkS x) t) (.int k u) = operate [.str (mkS x) t, .int k u] (getItem (.str (mkS x) t) (.int k u)) := by with_unfolding_all rfl) :
    wpAny (model prog w) A (subscriptTail value slice (.str (mkS x) t) (.int k u)) Q E s := by
  have hlt : k.toNat < x.length := by
    rcases Nat.lt_or_ge k.toNat x.length with q | q
    · exact q
    · rw [List.getElem?_eq_none q] at hx; cases hx
  refine tail_any (T := "str") rfl PySem.F.slot_str_getitem.lookup (P.getItem_str (c := c) ?_ ?_ (h _ _)) hs
  · rw [Bool.or_eq_false_iff]; exact ⟨decide_eq_false (by omega), decide_eq_false (by omega)⟩
  · have e : seqIndex? k (mkS x).length = some k.toNat := by
      unfold seqIndex?
      rw [mkS_len]
      simp only [show ¬ k < 0 by omega, if_false]
      rw [if_pos (by rw [Bool.and_eq_true, decide_eq_true_eq, decide_eq_true_eq]; omega)]
    rw [e]
    show (mkS x).cps[k.toNat]? = some c
    rw [← Array.getElem?_toList, mkS_toList]
    exact hx
end
theorem sslice_ss {prog : Program} {w : World} {A : Around} {E : Value → Shared → Prop} {s : Shared} {Q : Value → Shared → Prop} {h₀ : Heap} {L : Addr} {m : Str → Option Value} {news : List (Addr × Obj)} {value slice : PySem.Expr} {x : List Nat} {y : Str} {t : Tok} {i j : Int} {ui uj : Tok} (hF : Fr h₀ L s.heap m) (hN : News h₀ L s.heap news) (hz : x.length ≤ 100000) (hy : Txt.slice (mkS x) (some i) (some j) = y)
    (h : ∀ h' t' k, Fr h₀ L h' m → News h₀ L h' news → Q (.str y t') { s with heap := h', toks := k })
    (hs : subscripted slice false (.str (mkS x) t) (.ref s.heap.objs.size) = operate [.ref s.heap.objs.size, .str (mkS x) t] (getItem (.str (mkS x) t) (.ref s.heap.objs.size)) := by with_unfolding_all rfl)
    (ht : ∀ r, letTemporaryGo value (.str (mkS x) t) r = pure () := by intro _; with_unfolding_all rfl) :
    wpAny (model prog w) A (subscriptTail value slice (.str (mkS x) t) (.ref s.heap.objs.size)) Q E { s with heap := s.heap.push { cls := .type "slice", data := .fields #[.int i ui, .int j uj, .none] } } :=
  slice_strN_ss hF hN (fun h' t' k a b => by rw [hy]; exact h h' t' k a b) hs ht (by rw [mkS_len]; unfold sizeLine; omega)
theorem rl_07_7 : True := by
  k_with "!subscriptTail Name Slice str ref" => ((with_reducible show wpAny _ _ (subscriptTail _ (Expr.Slice (some _) (some _) none _) (Value.str (mkS _) _) _) _ _ _); (refine sslice_ss (s := ⟨_, _, _, _, _⟩) (by k_asm) (by k_asm) (by first | assumption | omega) (by assumption) ?_); intro _ _ _ _ _)
  trivial
theorem lam_TF {M : Model} {A : Around} {E : Value → Shared → Prop} {s : Shared} {Q : Value → Shared → Prop} {h₀ : Heap} {L a : Addr} {m mg mb : Str → Option Value} {cn : Str} {cs : Scope} {ccd : Value} {cl : List (Str × Addr)} {news : List (Addr × Obj)} {g : Obj → List (Addr × Obj)}
    {p : Program} {loose : List Str} {mean : ExcName → Option Value} {params : Arguments} {body : PySem.Expr} {scope : Scope} {ps : Array Value} {pos : Pos} {lc : Nat × Nat}
    (F : Fr h₀ L s.heap m) (N : News h₀ L s.heap news) (T : Top p loose mean mg mb h₀) (C : CodeHd h₀ 75 71) (hcd : ccd = .ref 75) (U : UpdF 71 (tabObj ps) news g) (ht : TF lc.1 lc.2 ps)
    (hpos : pos.line = lc.1 ∧ pos.col = lc.2) (hdef : defaultsOf params (envX cn cs L a ccd cl) = ([], [])) (hcl : closureFor scope (envX cn cs L a ccd cl) = pure [])
    (h : ∀ f o ps' h' tk, Fr h₀ L h' m → News h₀ L h' ((f, o) :: g (tabObj ps')) → o.cls = .type "function" → TF lc.1 lc.2 ps' → (∀ q ∈ news, q.1 < f) → Q (.ref f) { s with heap := h', toks := tk }) :
    wpAny M A (eval (.Lambda params body scope pos) (envX cn cs L a ccd cl)) Q E s := by
  obtain ⟨l, c⟩ := lc
  obtain ⟨e1, e2⟩ := hpos
  refine kla_eval hdef ?_
  obtain ⟨own, rest, hn, hgr, h1, h2⟩ := U.split
  rcases ht with rfl | ⟨c', rfl⟩
  · refine kla_nest F N T C hcd U trivial rfl hcl fun f c' oc vs t ctv h' tk F' N' _ _ hl hl2 => ?_
    refine h f (kla_obj "<lambda>" ((envX cn cs L a ccd cl).qual ++ Str.ofString "<lambda>") params body scope [] ((mg "__name__").getD .none) c' ctv) #[rawInt l, rawInt c, .ref c'] h' tk F' (fun q hq => ?_) rfl (.inr ⟨c', rfl⟩) (fun q hq => Nat.lt_trans (hl q hq) hl2)
    rcases List.mem_cons.mp hq with rfl | hq
    · exact N' _ (.head _)
    · refine N' q (.tail _ (.tail _ ?_))
      rw [e1, e2]
      exact hq
  · refine kla_hit (c' := c') F N T C hcd (by rw [hn]; exact List.mem_append_right _ (.head _)) (by exact True.intro) ?_ hcl fun f ctv h' tk F' N' hl => ?_
    · show (if (((l : Nat) : Int) == ((pos.line : Nat) : Int) && ((c : Nat) : Int) == ((pos.col : Nat) : Int)) = true then some (Value.ref c') else _) = some (Value.ref c')
      rw [e1, e2]
      simp
    · refine h f (kla_obj "<lambda>" ((envX cn cs L a ccd cl).qual ++ Str.ofString "<lambda>") params body scope [] ((mg "__name__").getD .none) c' ctv) #[rawInt l, rawInt c, .ref c'] h' tk F' ?_ rfl (.inr ⟨c', rfl⟩) hl
      rw [hgr, ← hn]
      exact N'
theorem rl_07_8 : True := by
  k_with "!eval Lambda" => (k_here; kn_here; k_dflt (refine' lam_TF (lc := (76, 39)) (by k_asm) (by k_asm) (by k_asm) (by kn_code) (by exact rfl) (by k_updF) (by assumption) (by exact ⟨rfl, rfl⟩) (by exact rfl) (by exact rfl) ?_; k_whole); intro _ _ _ _ _ _ N'; (try dsimp only at N'); revert N'; intro _ _ _ l1; (try k_lt l1); (try (revert l1; intro _)))
  trivial
theorem truthy_full {prog : Program} {w : World} {A : Around} {E : Value → Shared → Prop} {s : Shared} {h₀ : Heap} {L : Addr} {news : List (Addr × Obj)} {l : Addr} {its : Array Value} {n : Nat} {Q : Bool → Shared → Prop} (N : News h₀ L s.heap news) (hm : (l, listOf its n) ∈ news) (hne : its.size ≠ 0) (hz : its.size ≤ 100000)
    (h : ∀ tk, Q true { s with toks := tk }) : wpAny (model prog w) A (truthy (.ref l)) Q E s :=
  wpAny_truthy_list (list_led N hm) (by omega) (by rw [show its.isEmpty = false by unfold Array.isEmpty; exact decide_eq_false hne]; exact h _)
theorem item_last {prog : Program} {w : World} {A : Around} {E : Value → Shared → Prop} {s : Shared} {h₀ : Heap} {L : Addr} {news : List (Addr × Obj)} {l : Addr} {its : Array Value} {n : Nat} {Q : Value → Shared → Prop} {value slice : PySem.Expr} {u : Tok} {v : Value} {j : Nat} (N : News h₀ L s.heap news) (hm : (l, listOf its n) ∈ news) (hsz : its.size = j + 1) (hj : j ≤ 100000) (hx : its[j]? = some v) (h : Q v s)
    (hs : subscripted slice false (.ref l) (.int (-1) u) = operate [.ref l, .int (-1) u] (getItem (.ref l) (.int (-1) u)) := by with_unfolding_all rfl) :
    wpAny (model prog w) A (subscriptTail value slice (.ref l) (.int (-1) u)) Q E s := by
  have hl := list_led N hm
  refine tail_any hl.typeIs slot_list_getitem.lookup (wpAny_getItem_list_neg (x := v) hl (by omega) (by rw [hsz]; omega) (by omega) ?_ h) hs
  rw [hsz, show ((-1 : Int) + ((j + 1 : Nat) : Int)).toNat = j by omega]
  exact hx
theorem rl_07_9 : True := by
  k_with "!truthy ref" => (k_here; (with_reducible show wpAny _ _ (truthy (Value.ref _)) _ _ _); k_dflt (refine' truthy_full (by k_asm) (by k_mem) (by assumption) (by first | omega | assumption) ?_; k_whole); intro _)
  k_with "!subscriptTail Name UnaryOp ref int" => (k_here; k_dflt (refine' item_last (by k_asm) (by k_mem) (by assumption) (by omega) (by assumption) ?_; k_whole))
  trivial
theorem replace_none {prog : Program} {w : World} {A : Around} {E : Value → Shared → Prop} {s : Shared} {Q : Value → Shared → Prop} {x y z : Str} {t u v : Tok} (ho : (Builtin.Str.occurrences x y 0 x.length (x.length + 1)).isEmpty = true) (h : Q (.str x t) s) :
    wpAny (model prog w) A (call (.builtin "str.replace") [.str x t, .str y u, .str z v]) Q E s := by
  have g := gives_str_replace x y z t u v (fun hf => by rw [ho, Bool.true_or] at hf; cases hf)
  rw [ho, Bool.true_or, if_pos rfl] at g
  exact call_gives (T := "str") PySem.F.slot_str_replace rfl PySem.F.entry_str_replace (PySem.F.args_str_replace_3 _ _ _) g h
theorem rl_07_10 : True := by
  k_with "!call builtin:str.replace" => (k_here; refine replace_none (by decide +kernel) ?_)
  k_with "!ite" => (k_here; first | (refine ite_pos (by decide +kernel) ?_) | (refine ite_neg (by decide +kernel) ?_))
  k_with "!getMethod ref" => (k_here; (with_reducible show wpAny _ _ (getMethod (Value.ref 50) _ _) _ _ _); k_dflt (refine' getMethod_sub (by k_asm) (by k_asm) ?_; k_whole))
  k_with "!call builtin:re.Pattern.sub" => (k_here; k_dflt (refine' sub_N (by k_asm) (by k_asm) (by k_asm) (by k_mem) (by first | assumption | exact rfl) (by decide) ?_; k_whole); intro _ _ _ _ _; (try k_sweep))
  k_with "!call ref" => (k_here; (with_reducible show wpAny _ _ (call (Value.ref 69) _) _ _ _); k_dflt (refine' escape_c (by k_asm) (by k_asm) (by k_asm) (by k_asm) (by k_asm) (by first | exact rfl | assumption) (by ktr_room) (by ktr_units) (by assumption) ?_; k_whole); intro _ _ _ _ _; (try dsimp only); (try k_fold))
  k_with "!call builtin:len" => (k_here; (with_reducible show wpAny _ _ (call (Value.builtin "len") [Value.str (mkS _) _]) _ _ _); k_dflt (refine' slen (by first | omega | assumption) ?_; k_whole); intro _ _)
  k_with "!subscriptTail Name Name str int" => (k_here; (with_reducible show wpAny _ _ (subscriptTail _ _ (Value.str (mkS _) _) (Value.int _ _)) _ _ _); k_dflt (refine' sitem (by omega) (by first | omega | assumption) (by assumption) ?_; k_whole); intro _ _)
  trivial
section
variable {prog : Program} {w : World} {loose : List Str} {mean : ExcName → Option Value} {mg mb : Str → Option Value} {p : Program}
  {dp un : Nat} {gd : Option (List Code)} {cn : Str} {cs : Scope} {a : Addr} {ccd : Value} {cl : List (Str × Addr)} {outer : List Env} {A₀ : Around} {base h₀ : Heap} {L : Addr} {m : Str → Option Value} {s : Shared} {Q E : Value → Shared → Prop} {news : List (Addr × Obj)}
theorem trans_c {st : Addr} {ts : List Tk} {ps : Array Value} {u v : Tok} (B : Below A₀ base outer h₀) (F : Fr h₀ L s.heap m) (X : (frag.heap_1 w.params).In h₀) (N : News h₀ L s.heap ((71, tabObj ps) :: news)) (T : Top p loose mean mg mb h₀) (hk : cs.kind = .function)
    (hd' : dp + 3 < recursionLimit) (hu : un + 32 < cLine) (C71 : CodeHd h₀ 75 71) (hTF : TF 76 39 ps) (h71 : ∀ p ∈ news, p.1 ≠ 71) (hst : (st, plainObject) ∈ news) (hlen : ts.length ≤ 100) (hlit : ∀ c, Tk.lit c ∈ ts → c < 256) (hstar : ∀ k, ts[k + 1]? = some .star → ts[k]? ≠ some .star)
    (hret : ∀ (l : Addr) (V : List Value) (n : Nat) (ps' : Array Value) (h' : Heap) (tk' : Nat), Outs st V ts → TF 76 39 ps' → Fr h₀ L h' m → News h₀ L h' ((l, listOf V.toArray n) :: (71, tabObj ps') :: news) → (∀ p ∈ news, p.1 < l) → 71 < l → Q (.ref l) { s with heap := h', toks := tk' }) :
    wpAny (model PySem.Challenge.rw_ij0200_01.prog w) (ktrTop dp un gd cn cs L a ccd cl outer) (call (.ref 76) [.str (mkS (pats ts)) u, .ref st, .str (mkS [46]) v]) Q E s := by
  have hz : (pats ts).length ≤ 100000 := Nat.le_trans (pats_len ts) (by omega)
  revert X; k_fill; intro X
  k_with_none
  k_with "!wpq" => (first | (with_reducible first | refine wpAny_pure ?_ | refine wpAny_bind ?_ | refine wpAny_letGo ?_ | refine wpAny_attempt ?_ | refine wpAny_throw ?_ | refine wpAny_mkInt' ?_ | refine wpAny_mkStr' ?_ | refine wpAny_of_eq (by assumption) ?_ | refine wpAny_typeOf (by assumption) ?_ | refine wpAny_specialOf_val (by assumption) (by assumption) ?_ | refine wpAny_specialOf (by assumption) (by assumption) ?_ | refine wpAny_isInstance_val (by assumption) (by assumption) ?_ | refine wpAny_isInstance (by assumption) (by assumption) ?_) | wp_delta | wp_step)
  k_with "!getMethod str" => (with_reducible refine getMethod_translate ?_)
  k_with "!call builtin:str.translate" => (k_here; k_dflt (refine' translate_K (by k_asm) (by k_asm) (by k_asm) (by exact rfl) (by assumption) ?_; k_whole); intro _ _ _ _ _; (try dsimp only))
  k_with "!call builtin:str.join" => ((with_reducible show wpAny _ _ (call (Value.builtin "str.join") [Value.str _ _, Value.ref _]) _ _ _); (with_reducible rename CarriedAll _ _ => hc'); refine join_plain (by assumption) hc' (by assumption) ?_; intro _ _)
  k_with "!KswEnd" => (k_here; refine freeze ?_)
  k_with "!eval Name" => (k_here; k_dflt (refine' nameX_L (by k_asm) (by rfl) ?_ (by rfl) (by rfl); k_whole))
  k_with "!ksw_same" => (intro z h2 h3; (have g3 := h3); (simp only [List.forall_mem_cons, List.not_mem_nil, false_implies, implies_true, and_true, ne_eq] at h2); (try simp only [List.contains_cons, List.contains_nil, Bool.or_false, Bool.or_eq_false_iff, beq_eq_false_iff_ne, ne_eq] at h3); (try simp only [kstB]); (repeat (first | rw [if_neg h2] | rw [if_neg h2.1] | rw [if_neg h2.2] | rw [if_neg h2.2.1] | rw [if_neg h2.2.2] | rw [if_neg h2.2.2.1] | rw [if_neg h2.2.2.2] | rw [if_neg h2.2.2.2.1] | rw [if_neg h2.2.2.2.2] | rw [if_neg h3] | rw [if_neg h3.1] | rw [if_neg h3.2] | rw [if_neg h3.2.1] | rw [if_neg h3.2.2] | rw [if_neg h3.2.2.1] | rw [if_neg h3.2.2.2] | rw [if_neg h3.2.2.2.1] | rw [if_neg h3.2.2.2.2] | rw [if_neg h3.2.2.2.2.1] | rw [if_neg h3.2.2.2.2.2] | rw [not_stored g3])))
  k_with "!WhlIf" => (first | (refine WhlIf.yes (decide_eq_true (by omega)) ?_) | (refine WhlIf.no (decide_eq_false (by omega)) ?_))
  k_with "!formatField str" => (k_here; (with_reducible show wpAny _ _ (formatField (Value.str _ _) _) _ _ _); refine formatField_str ?_ (by rw [mkS_len]; unfold sizeLine; omega); intro _ _)
  k_with "!kt_le" => ((simp only [len_app, mkS_len, len_E, len_h, len_t]); (unfold sizeLine); omega)
  k_with "!And" => (k_here; refine And.intro (by kt_le) ?_)
  k_with "!joinParts" => (k_here; (first | (with_reducible show wpAny _ _ (joinParts _ []) _ _ _) | (with_reducible show wpAny _ _ (joinParts _ (evalEach [] _)) _ _ _)); k_dflt (refine joinParts_nil ?_ (by kt_le)))
  k_with "!ite" => (k_here; k_openite; first | (refine ite_pos (by first | omega | (simp only [decide_eq_true_eq, beq_iff_eq, bne_iff_ne, ne_eq]; omega)) ?_) | (refine ite_neg (by first | omega | (simp only [decide_eq_true_eq, beq_iff_eq, bne_iff_ne, ne_eq]; omega)) ?_))
  k_with "!k_all" => (first | assumption | exact ne_of_lt_all (by assumption) | exact ne_of_lt_all (lt_of_allLt (by assumption)))
  k_with "!subscriptTail Name Name ref int" => (k_here; (with_reducible show wpAny _ _ (subscriptTail _ _ (Value.ref _) (Value.int _ _)) _ _ _); k_dflt (refine' item_led (by k_asm) (by k_mem) (by omega) (by omega) (by assumption) ?_; k_whole))
  k_with "!getAttr ref" => (k_here; (with_reducible show wpAny _ _ (getAttr (Value.ref _) (PySem.Str.ofString "append") _) _ _ _); k_dflt (refine' getAttr_append_K (by k_asm) (by k_asm) (by k_mem) ?_; k_whole); intro _ _ _ _ l1; (try k_lt l1); (try (revert l1; intro _)); (try k_sweep))
  k_with "!callWith ref" => (k_here; k_dflt (refine' callWith_app (by k_asm) (by k_mem) ?_; k_whole))
  k_with "!StandsB" => (k_dflt (exact (News.get (by k_asm) (by k_mem))))
  k_with "!call ref" => (k_here; k_dflt (refine' call_app (by k_asm) (by k_asm) (by k_mem) (by k_upd) ?_ (by first | assumption | size_fits); k_whole); intro _ _ _; (try k_sweep))
  k_with "!call builtin:len" => (k_here; k_dflt (refine' len_led (by k_asm) (by k_mem) (by first | omega | assumption) ?_; k_whole); intro _ _)
  k_with "!compareOp IsNot str ref" => (k_here; refine isNot_str_ref ?_)
  k_with "!compareOp Is str ref" => (k_here; refine is_str_ref ?_)
  k_with "!subscriptTail Name Slice str ref" => ((with_reducible show wpAny _ _ (subscriptTail _ (Expr.Slice (some _) (some _) none _) (Value.str (mkS _) _) _) _ _ _); (refine sslice_ss (s := ⟨_, _, _, _, _⟩) (by k_asm) (by k_asm) (by first | assumption | omega) (by assumption) ?_); intro _ _ _ _ _)
  k_with "!eval Lambda" => (k_here; kn_here; k_dflt (refine' lam_TF (lc := (76, 39)) (by k_asm) (by k_asm) (by k_asm) (by kn_code) (by exact rfl) (by k_updF) (by assumption) (by exact ⟨rfl, rfl⟩) (by exact rfl) (by exact rfl) ?_; k_whole); intro _ _ _ _ _ _ N'; (try dsimp only at N'); revert N'; intro _ _ _ l1; (try k_lt l1); (try (revert l1; intro _)))
  k_with "!truthy ref" => (k_here; (with_reducible show wpAny _ _ (truthy (Value.ref _)) _ _ _); k_dflt (refine' truthy_full (by k_asm) (by k_mem) (by assumption) (by first | omega | assumption) ?_; k_whole); intro _)
  k_with "!subscriptTail Name UnaryOp ref int" => (k_here; k_dflt (refine' item_last (by k_asm) (by k_mem) (by assumption) (by omega) (by assumption) ?_; k_whole))
  k_with "!call builtin:str.replace" => (k_here; refine replace_none (by decide +kernel) ?_)
  k_with "!ite" => (k_here; first | (refine ite_pos (by decide +kernel) ?_) | (refine ite_neg (by decide +kernel) ?_))
  k_with "!getMethod ref" => (k_here; (with_reducible show wpAny _ _ (getMethod (Value.ref 50) _ _) _ _ _); k_dflt (refine' getMethod_sub (by k_asm) (by k_asm) ?_; k_whole))
  k_with "!call builtin:re.Pattern.sub" => (k_here; k_dflt (refine' sub_N (by k_asm) (by k_asm) (by k_asm) (by k_mem) (by first | assumption | exact rfl) (by decide) ?_; k_whole); intro _ _ _ _ _; (try k_sweep))
  k_with "!call ref" => (k_here; (with_reducible show wpAny _ _ (call (Value.ref 69) _) _ _ _); k_dflt (refine' escape_c (by k_asm) (by k_asm) (by k_asm) (by k_asm) (by k_asm) (by first | exact rfl | assumption) (by ktr_room) (by ktr_units) (by assumption) ?_; k_whole); intro _ _ _ _ _; (try dsimp only); (try k_fold))
  k_with "!call builtin:len" => (k_here; (with_reducible show wpAny _ _ (call (Value.builtin "len") [Value.str (mkS _) _]) _ _ _); k_dflt (refine' slen (by first | omega | assumption) ?_; k_whole); intro _ _)
  k_with "!subscriptTail Name Name str int" => (k_here; (with_reducible show wpAny _ _ (subscriptTail _ _ (Value.str (mkS _) _) (Value.int _ _)) _ _ _); k_dflt (refine' sitem (by omega) (by first | omega | assumption) (by assumption) ?_; k_whole); intro _ _)
  k_with "exec While Compare cons nil" => refine freeze ?_
  k_with "exec While BoolOp cons nil" => (k_here; k_dflt (refine whl_start 100 ?_))
  refine wpAny_call ?_
  k_dflt cell_enter
  k_steps
  have C71' := C71.keeps (Fr.keep ‹Fr h₀ L _ m›)
  rename_i tk0 l _ la _ _ q _ lb _ tn _ D _ lc _ _ hh F9 N9
  refine thaw ?_
  refine ksw_while (σ := Nat × List Value × Nat × Tok × Array Value) (fun c => (q, boundApp l) :: (l, listOf c.2.1.toArray c.2.2.1) :: (71, tabObj c.2.2.2.2) :: news) (fun c => [(Str.ofString "i", .int (offT ts c.1 : Int) c.2.2.2.1)]) (fun _ => True) [Str.ofString "c", Str.ofString "j", Str.ofString "stuff"] (fun c => c.1 ≤ ts.length ∧ Outs st c.2.1 (ts.take c.1) ∧ TF 76 39 c.2.2.2.2) (fun c => ts.length - c.1) (0, [], 0, ?tok, ps) F9 (fun p hp => N9 p (by first | exact hp | exact List.mem_cons_of_mem _ hp)) trivial ?hk ⟨Nat.zero_le _, .nil, hTF⟩ ?turn
  case hk =>
    intro p hp
    cases List.mem_singleton.mp hp
    rfl
  case turn =>
    rintro ⟨i, V, ep, ti, ps1⟩ u1 h tkw _ hP Fc Nc
    dsimp only at hP Fc Nc ⊢
    obtain ⟨hP1, hP2, hP3⟩ := hP
    have hVl : V.length ≤ 100 := by
      have q := hP2.length
      rw [List.length_take] at q
      omega
    have hV : V.toArray.size ≤ sizeLine := by rw [List.size_toArray]; unfold sizeLine; omega
    by_cases hi : i < ts.length
    · have o1 := off_succ hi
      have o2 := off_le hi
      cases ht : ts[i] with
      | star =>
        rw [ht] at o1 o2
        have o1 : offT ts (i + 1) = offT ts i + 1 := o1
        have o2 : offT ts i + 1 ≤ (pats ts).length := o2
        have hx : (pats ts)[((offT ts i : Nat) : Int).toNat]? = some 42 := pat_at hi (j := 0) (by rw [ht]; rfl)
        cases i with
        | zero =>
          obtain rfl : V = [] := by
            have q := hP2.length
            rw [List.take_zero] at q
            exact List.length_eq_zero_iff.mp q
          k_steps
          refine thaw ?_
          rename News _ _ _ _ => NE
          rw [List.push_toArray] at NE
          refine ksw_end (0 + 1, [] ++ [.ref st], ep + 1, ?toka, ps1) (by assumption) NE (fun _ h => h) trivial ?hka ?hra ⟨hi, hP2.take_succ (by rw [List.getElem?_eq_getElem hi, ht]) (.star .nil), hP3⟩ (by show ts.length - (0 + 1) < ts.length - 0; omega)
          case hka =>
            intro p hp
            cases List.mem_singleton.mp hp
            show some (Value.int ((offT ts 0 : Nat) + 1 : Int) _) = some (Value.int ((offT ts (0 + 1) : Nat) : Int) _)
            rw [o1]
            rfl
          case hra => ksw_same
        | succ j =>
          obtain ⟨tv, ut, hv0, hv⟩ := hP2.before hstar hi ht
          have hsz3 : V.toArray.size = j + 1 := by rw [List.size_toArray, hv0]
          have hne : V.toArray.size ≠ 0 := by rw [hsz3]; omega
          have hv3 : V.toArray[j]? = some (.str tv ut) := by rw [List.getElem?_toArray, hv]
          k_steps
          refine thaw ?_
          rename News _ _ _ _ => NE
          rw [List.push_toArray] at NE
          refine ksw_end (j + 1 + 1, V ++ [.ref st], ep + 1, ?tokb, ps1) (by assumption) NE (fun _ h => h) trivial ?hkb ?hrb ⟨hi, hP2.take_succ (by rw [List.getElem?_eq_getElem hi, ht]) (.star .nil), hP3⟩ (by show ts.length - (j + 1 + 1) < ts.length - (j + 1); omega)
          case hkb =>
            intro p hp
            cases List.mem_singleton.mp hp
            show some (Value.int ((offT ts (j + 1) : Nat) + 1 : Int) _) = some (Value.int ((offT ts (j + 1 + 1) : Nat) : Int) _)
            rw [o1]
            rfl
          case hrb => ksw_same
      | any =>
        rw [ht] at o1 o2
        have o1 : offT ts (i + 1) = offT ts i + 1 := o1
        have o2 : offT ts i + 1 ≤ (pats ts).length := o2
        have hx : (pats ts)[((offT ts i : Nat) : Int).toNat]? = some 63 := pat_at hi (j := 0) (by rw [ht]; rfl)
        k_steps
        refine thaw ?_
        rename News _ _ _ _ => NE
        rw [List.push_toArray] at NE
        refine ksw_end (i + 1, V ++ [.str (mkS [46]) v], ep + 1, ?tok2, ps1) (by assumption) NE (fun _ h => h) trivial ?hk2 ?hr2 ⟨hi, hP2.take_succ (by rw [List.getElem?_eq_getElem hi, ht]) (.txt .any v (by decide) .nil), hP3⟩ (by show ts.length - (i + 1) < ts.length - i; omega)
        case hk2 =>
          intro p hp
          cases List.mem_singleton.mp hp
          show some (Value.int ((offT ts i : Nat) + 1 : Int) _) = some (Value.int ((offT ts (i + 1) : Nat) : Int) _)
          rw [o1]
          rfl
        case hr2 => ksw_same
      | lit c =>
        have hc : c < 256 := hlit c (by rw [← ht]; exact List.getElem_mem hi)
        by_cases h42 : c = 42
        · subst h42
          rw [ht] at o1 o2
          have o1 : offT ts (i + 1) = offT ts i + 3 := o1
          have o2 : offT ts i + 3 ≤ (pats ts).length := o2
          have hx : (pats ts)[((offT ts i : Nat) : Int).toNat]? = some 91 := pat_at hi (j := 0) (by rw [ht]; rfl)
          have hx1 : (pats ts)[((offT ts i : Nat) + 1 : Int).toNat]? = some 42 := by rw [show ((offT ts i : Nat) + 1 : Int).toNat = offT ts i + 1 by omega]; exact pat_at hi (j := 1) (by rw [ht]; rfl)
          have hx2 : (pats ts)[((offT ts i : Nat) + 1 + 1 : Int).toNat]? = some 93 := by rw [show ((offT ts i : Nat) + 1 + 1 : Int).toNat = offT ts i + 2 by omega]; exact pat_at hi (j := 2) (by rw [ht]; rfl)
          have hs1 : Txt.slice (mkS (pats ts)) (some ((offT ts i : Nat) + 1 : Int)) (some ((offT ts i : Nat) + 1 + 1 : Int)) = ⟨#[42]⟩ := slice_one hx1 (by omega)
          k_steps
          refine thaw ?_
          rename News _ _ _ _ => NE
          rw [List.push_toArray] at NE
          refine ksw_end (i + 1, V ++ [.str _ _], ep + 1, ?tok42, _) (by assumption) (fun p hp => NE p (.tail _ (.tail _ hp))) (fun _ h => h) trivial ?hk42 ?hr42 ⟨hi, hP2.take_succ (by rw [List.getElem?_eq_getElem hi, ht]) (.txt' (.lit 42) _ (by decide +kernel) (by nofun) .nil), (by assumption)⟩ (by show ts.length - (i + 1) < ts.length - i; omega)
          case hk42 =>
            intro p hp
            cases List.mem_singleton.mp hp
            show some (Value.int ((offT ts i : Nat) + 1 + 1 + 1 : Int) _) = some (Value.int ((offT ts (i + 1) : Nat) : Int) _)
            rw [o1]
            rfl
          case hr42 => ksw_same
        by_cases h63 : c = 63
        · subst h63
          rw [ht] at o1 o2
          have o1 : offT ts (i + 1) = offT ts i + 3 := o1
          have o2 : offT ts i + 3 ≤ (pats ts).length := o2
          have hx : (pats ts)[((offT ts i : Nat) : Int).toNat]? = some 91 := pat_at hi (j := 0) (by rw [ht]; rfl)
          have hx1 : (pats ts)[((offT ts i : Nat) + 1 : Int).toNat]? = some 63 := by rw [show ((offT ts i : Nat) + 1 : Int).toNat = offT ts i + 1 by omega]; exact pat_at hi (j := 1) (by rw [ht]; rfl)
          have hx2 : (pats ts)[((offT ts i : Nat) + 1 + 1 : Int).toNat]? = some 93 := by rw [show ((offT ts i : Nat) + 1 + 1 : Int).toNat = offT ts i + 2 by omega]; exact pat_at hi (j := 2) (by rw [ht]; rfl)
          have hs1 : Txt.slice (mkS (pats ts)) (some ((offT ts i : Nat) + 1 : Int)) (some ((offT ts i : Nat) + 1 + 1 : Int)) = ⟨#[63]⟩ := slice_one hx1 (by omega)
          k_steps
          refine thaw ?_
          rename News _ _ _ _ => NE
          rw [List.push_toArray] at NE
          refine ksw_end (i + 1, V ++ [.str _ _], ep + 1, ?tok63, _) (by assumption) (fun p hp => NE p (.tail _ (.tail _ hp))) (fun _ h => h) trivial ?hk63 ?hr63 ⟨hi, hP2.take_succ (by rw [List.getElem?_eq_getElem hi, ht]) (.txt' (.lit 63) _ (by decide +kernel) (by nofun) .nil), (by assumption)⟩ (by show ts.length - (i + 1) < ts.length - i; omega)
          case hk63 =>
            intro p hp
            cases List.mem_singleton.mp hp
            show some (Value.int ((offT ts i : Nat) + 1 + 1 + 1 : Int) _) = some (Value.int ((offT ts (i + 1) : Nat) : Int) _)
            rw [o1]
            rfl
          case hr63 => ksw_same
        by_cases h91 : c = 91
        · subst h91
          rw [ht] at o1 o2
          have o1 : offT ts (i + 1) = offT ts i + 3 := o1
          have o2 : offT ts i + 3 ≤ (pats ts).length := o2
          have hx : (pats ts)[((offT ts i : Nat) : Int).toNat]? = some 91 := pat_at hi (j := 0) (by rw [ht]; rfl)
          have hx1 : (pats ts)[((offT ts i : Nat) + 1 : Int).toNat]? = some 91 := by rw [show ((offT ts i : Nat) + 1 : Int).toNat = offT ts i + 1 by omega]; exact pat_at hi (j := 1) (by rw [ht]; rfl)
          have hx2 : (pats ts)[((offT ts i : Nat) + 1 + 1 : Int).toNat]? = some 93 := by rw [show ((offT ts i : Nat) + 1 + 1 : Int).toNat = offT ts i + 2 by omega]; exact pat_at hi (j := 2) (by rw [ht]; rfl)
          have hs1 : Txt.slice (mkS (pats ts)) (some ((offT ts i : Nat) + 1 : Int)) (some ((offT ts i : Nat) + 1 + 1 : Int)) = ⟨#[91]⟩ := slice_one hx1 (by omega)
          k_steps
          refine thaw ?_
          rename News _ _ _ _ => NE
          rw [List.push_toArray] at NE
          refine ksw_end (i + 1, V ++ [.str _ _], ep + 1, ?tok91, _) (by assumption) (fun p hp => NE p (.tail _ (.tail _ hp))) (fun _ h => h) trivial ?hk91 ?hr91 ⟨hi, hP2.take_succ (by rw [List.getElem?_eq_getElem hi, ht]) (.txt' (.lit 91) _ (by decide +kernel) (by nofun) .nil), (by assumption)⟩ (by show ts.length - (i + 1) < ts.length - i; omega)
          case hk91 =>
            intro p hp
            cases List.mem_singleton.mp hp
            show some (Value.int ((offT ts i : Nat) + 1 + 1 + 1 : Int) _) = some (Value.int ((offT ts (i + 1) : Nat) : Int) _)
            rw [o1]
            rfl
          case hr91 => ksw_same
        have hp : Tk.pat (.lit c) = [c] := by show plainC c = _; unfold plainC; rw [if_neg (by omega)]
        have ho : litOut c = (escF c).cps.toList := by unfold litOut; rw [if_neg h42, if_neg h63, if_neg h91]
        rw [ht, hp] at o1 o2
        have o1 : offT ts (i + 1) = offT ts i + 1 := o1
        have o2 : offT ts i + 1 ≤ (pats ts).length := o2
        have hx : (pats ts)[((offT ts i : Nat) : Int).toNat]? = some c := pat_at hi (j := 0) (by rw [ht, hp]; rfl)
        have n1 := one_ne h42 (show (Str.ofString "*").cps = #[42] by decide +kernel)
        have n2 := one_ne h63 (show (Str.ofString "?").cps = #[63] by decide +kernel)
        have n3 := one_ne h91 (show (Str.ofString "[").cps = #[91] by decide +kernel)
        k_steps
        refine thaw ?_
        rename News _ _ _ _ => NE
        rw [List.push_toArray] at NE
        refine ksw_end (i + 1, V ++ [.str (escF c) _], ep + 1, ?tok3, ps1) (by assumption) NE (fun _ h => h) trivial ?hk3 ?hr3 ⟨hi, hP2.take_succ (by rw [List.getElem?_eq_getElem hi, ht]) (.txt' (.lit c) _ (by show escF c = mkS (litOut c); rw [ho]; rfl) (by nofun) .nil), hP3⟩ (by show ts.length - (i + 1) < ts.length - i; omega)
        case hk3 =>
          intro p hp
          cases List.mem_singleton.mp hp
          show some (Value.int ((offT ts i : Nat) + 1 : Int) _) = some (Value.int ((offT ts (i + 1) : Nat) : Int) _)
          rw [o1]
          rfl
        case hr3 => ksw_same
    · obtain rfl : i = ts.length := by omega
      have ol := off_len ts
      k_steps
      rw [List.take_length] at hP2
      exact hret l V ep ps1 _ _ hP2 hP3 (by assumption) (fun p hp => ‹News h₀ L h _› p (.tail _ hp)) (lt_of_allLt la.2) la.1
end

/-! translate -/
noncomputable def outsT (ts : List Tk) : List Nat := ts.flatMap Tk.out
noncomputable def plainT (ts : List Tk) : Prop := ∀ t ∈ ts, t ≠ .star
noncomputable def OneStar (ts : List Tk) : Prop := plainT ts ∨ ∃ tA tB, ts = tA ++ .star :: tB ∧ plainT tA ∧ plainT tB
theorem outs_strs {st : Addr} : ∀ {V ts}, Outs st V ts → plainT ts → StrsAre V ((ts.map Tk.out).map mkS)
  | _, _, .nil, _ => .nil
  | _, _, .star _, h => absurd rfl (h _ (.head _))
  | _, _, .txt t u _ k, h => .cons _ _ (outs_strs k fun t' ht => h t' (.tail _ ht))
theorem outs_split {st : Addr} {tB : List Tk} : ∀ {tA : List Tk} {V : List Value}, Outs st V (tA ++ .star :: tB) → plainT tA → plainT tB →
    ∃ VA VB, V = VA ++ .ref st :: VB ∧ StrsAre VA ((tA.map Tk.out).map mkS) ∧ StrsAre VB ((tB.map Tk.out).map mkS) := by
  intro tA
  induction tA with
  | nil =>
    intro V h _ hB
    generalize hT : ([] ++ .star :: tB : List Tk) = T at h
    cases h with
    | nil => cases hT
    | star k => cases hT; exact ⟨[], _, rfl, .nil, outs_strs k hB⟩
    | txt t u n k => cases hT; exact absurd rfl n
  | cons t₀ tA ih =>
    intro V h hA hB
    generalize hT : (t₀ :: tA ++ .star :: tB : List Tk) = T at h
    cases h with
    | nil => cases hT
    | star k => cases hT; exact absurd rfl (hA _ (.head _))
    | txt t u n k =>
      cases hT
      obtain ⟨VA, VB, e, h1, h2⟩ := ih k (fun t ht => hA t (.tail _ ht)) hB
      exact ⟨_ :: VA, VB, by rw [e]; rfl, .cons _ _ h1, h2⟩
theorem out_len (t : Tk) (h : ∀ c, t = .lit c → True) : t.out.length ≤ 4 := by
  cases t with
  | star => decide
  | any => decide
  | lit c =>
    show (litOut c).length ≤ 4
    unfold litOut
    split
    · decide
    · split
      · decide
      · split
        · decide
        · unfold escF
          split <;> simp
theorem outs_len (ts : List Tk) : (outsT ts).length ≤ 4 * ts.length := by
  induction ts with
  | nil => exact Nat.le_refl _
  | cons t ts ih =>
    have h := out_len t fun _ _ => trivial
    show (t.out ++ outsT ts).length ≤ _
    rw [List.length_append, List.length_cons]; omega
theorem flat_out (ts : List Tk) : (ts.map Tk.out).flatten = outsT ts := by unfold outsT; rw [List.flatMap_def]
theorem plain_star {ts : List Tk} (h : OneStar ts) : ∀ k : Nat, ts[k + 1]? = some .star → ts[k]? ≠ some .star := by
  intro k h1 h2
  rcases h with h | ⟨tA, tB, rfl, hA, hB⟩
  · exact h _ (List.mem_of_getElem? h1) rfl
  · rcases Nat.lt_or_ge k tA.length with q | q
    · rw [List.getElem?_append_left q] at h2
      exact hA _ (List.mem_of_getElem? h2) rfl
    · rw [List.getElem?_append_right (by omega), show k + 1 - tA.length = (k - tA.length) + 1 by omega, List.getElem?_cons_succ] at h1
      exact hB _ (List.mem_of_getElem? h1) rfl
theorem rl_08_11 : True := by
  k_with "!call type:object" => (k_here; k_dflt (refine' call_object_K (by k_asm) (by k_asm) ?_; k_whole); intro _ _ _ _ l1; (try k_lt l1); (try (revert l1; intro _)))
  trivial
section
variable {prog : Program} {w : World} {loose : List Str} {mean : ExcName → Option Value} {mg mb : Str → Option Value} {p : Program}
  {dp un : Nat} {gd : Option (List Code)} {cn : Str} {cs : Scope} {a : Addr} {ccd : Value} {cl : List (Str × Addr)} {outer : List Env} {A₀ : Around} {base h₀ : Heap} {L : Addr} {m : Str → Option Value} {s : Shared} {Q E : Value → Shared → Prop} {news : List (Addr × Obj)}
theorem join_c {li st : Addr} {V : List Value} {ts : List Tk} {k : Nat} (B : Below A₀ base outer h₀) (F : Fr h₀ L s.heap m) (X : (frag.heap_1 w.params).In h₀) (N : News h₀ L s.heap news) (T : Top p loose mean mg mb h₀) (hk : cs.kind = .function)
    (hd' : dp + 2 < recursionLimit) (hu : un + 16 < cLine) (hm : (li, listOf V.toArray k) ∈ news) (hst : (st, plainObject) ∈ news) (hO : Outs st V ts) (hone : OneStar ts) (hlen : ts.length ≤ 100)
    (hret : ∀ (t : Tok) (h' : Heap) (tk' : Nat), Fr h₀ L h' m → News h₀ L h' news → Q (.str (mkS ([40, 63, 115, 58] ++ outsT ts ++ [41, 92, 90])) t) { s with heap := h', toks := tk' }) :
    wpAny (model PySem.Challenge.rw_ij0200_01.prog w) (ktrTop dp un gd cn cs L a ccd cl outer) (call (.ref 83) [.ref li, .ref st]) Q E s := by
  have hl := outs_len ts
  rcases hone with hp | ⟨tA, tB, rfl, hA, hB⟩
  · have h1 := flat_out ts
    refine join_none (TA := ts.map Tk.out) B F X N T hk hd' hu hm (outs_strs hO hp) (by rw [h1]; omega) (by rw [List.length_map]; omega) ?_
    rw [h1]; exact hret
  · obtain ⟨VA, VB, rfl, h1, h2⟩ := outs_split hO hA hB
    have e1 := flat_out tA
    have e2 := flat_out tB
    have ea := outs_len tA
    have eb := outs_len tB
    rw [List.length_append, List.length_cons] at hlen
    refine join_star (TA := tA.map Tk.out) (TB := tB.map Tk.out) B F X N T hk hd' hu hm hst h1 h2 (by rw [e1]; omega) (by rw [e2]; omega) (by rw [List.length_map]; omega) (by rw [List.length_map]; omega) ?_
    rw [e1, e2]
    have e3 : [40, 63, 115, 58] ++ outsT (tA ++ .star :: tB) ++ [41, 92, 90] = [40, 63, 115, 58] ++ outsT tA ++ [46, 42] ++ outsT tB ++ [41, 92, 90] := by
      unfold outsT
      rw [List.flatMap_append, List.flatMap_cons]
      simp [Tk.out]
    rw [e3] at hret
    exact hret
theorem translate_c {ts : List Tk} {ps : Array Value} {u : Tok} (B : Below A₀ base outer h₀) (F : Fr h₀ L s.heap m) (X : (frag.heap_1 w.params).In h₀) (N : News h₀ L s.heap ((71, tabObj ps) :: news)) (T : Top p loose mean mg mb h₀) (hk : cs.kind = .function)
    (hd' : dp + 5 < recursionLimit) (hu : un + 64 < cLine) (C71 : CodeHd h₀ 75 71) (hTF : TF 76 39 ps) (h71 : ∀ p ∈ news, p.1 ≠ 71) (hlen : ts.length ≤ 100) (hlit : ∀ c, Tk.lit c ∈ ts → c < 256) (hone : OneStar ts)
    (hret : ∀ (t : Tok) (ps' : Array Value) (h' : Heap) (tk' : Nat), TF 76 39 ps' → Fr h₀ L h' m → News h₀ L h' ((71, tabObj ps') :: news) → Q (.str (mkS ([40, 63, 115, 58] ++ outsT ts ++ [41, 92, 90])) t) { s with heap := h', toks := tk' }) :
    wpAny (model PySem.Challenge.rw_ij0200_01.prog w) (ktrTop dp un gd cn cs L a ccd cl outer) (call (.ref 57) [.str (mkS (pats ts)) u]) Q E s := by
  revert X; k_fill; intro X
  k_with_none
  k_with "!wpq" => (first | (with_reducible first | refine wpAny_pure ?_ | refine wpAny_bind ?_ | refine wpAny_letGo ?_ | refine wpAny_attempt ?_ | refine wpAny_throw ?_ | refine wpAny_mkInt' ?_ | refine wpAny_mkStr' ?_ | refine wpAny_of_eq (by assumption) ?_ | refine wpAny_typeOf (by assumption) ?_ | refine wpAny_specialOf_val (by assumption) (by assumption) ?_ | refine wpAny_specialOf (by assumption) (by assumption) ?_ | refine wpAny_isInstance_val (by assumption) (by assumption) ?_ | refine wpAny_isInstance (by assumption) (by assumption) ?_) | wp_delta | wp_step)
  k_with "!getMethod str" => (with_reducible refine getMethod_translate ?_)
  k_with "!call builtin:str.translate" => (k_here; k_dflt (refine' translate_K (by k_asm) (by k_asm) (by k_asm) (by exact rfl) (by assumption) ?_; k_whole); intro _ _ _ _ _; (try dsimp only))
  k_with "!call builtin:str.join" => ((with_reducible show wpAny _ _ (call (Value.builtin "str.join") [Value.str _ _, Value.ref _]) _ _ _); (with_reducible rename CarriedAll _ _ => hc'); refine join_plain (by assumption) hc' (by assumption) ?_; intro _ _)
  k_with "!KswEnd" => (k_here; refine freeze ?_)
  k_with "!eval Name" => (k_here; k_dflt (refine' nameX_L (by k_asm) (by rfl) ?_ (by rfl) (by rfl); k_whole))
  k_with "!ksw_same" => (intro z h2 h3; (have g3 := h3); (simp only [List.forall_mem_cons, List.not_mem_nil, false_implies, implies_true, and_true, ne_eq] at h2); (try simp only [List.contains_cons, List.contains_nil, Bool.or_false, Bool.or_eq_false_iff, beq_eq_false_iff_ne, ne_eq] at h3); (try simp only [kstB]); (repeat (first | rw [if_neg h2] | rw [if_neg h2.1] | rw [if_neg h2.2] | rw [if_neg h2.2.1] | rw [if_neg h2.2.2] | rw [if_neg h2.2.2.1] | rw [if_neg h2.2.2.2] | rw [if_neg h2.2.2.2.1] | rw [if_neg h2.2.2.2.2] | rw [if_neg h3] | rw [if_neg h3.1] | rw [if_neg h3.2] | rw [if_neg h3.2.1] | rw [if_neg h3.2.2] | rw [if_neg h3.2.2.1] | rw [if_neg h3.2.2.2] | rw [if_neg h3.2.2.2.1] | rw [if_neg h3.2.2.2.2] | rw [if_neg h3.2.2.2.2.1] | rw [if_neg h3.2.2.2.2.2] | rw [not_stored g3])))
  k_with "!WhlIf" => (first | (refine WhlIf.yes (decide_eq_true (by omega)) ?_) | (refine WhlIf.no (decide_eq_false (by omega)) ?_))
  k_with "!formatField str" => (k_here; (with_reducible show wpAny _ _ (formatField (Value.str _ _) _) _ _ _); refine formatField_str ?_ (by rw [mkS_len]; unfold sizeLine; omega); intro _ _)
  k_with "!kt_le" => ((simp only [len_app, mkS_len, len_E, len_h, len_t]); (unfold sizeLine); omega)
  k_with "!And" => (k_here; refine And.intro (by kt_le) ?_)
  k_with "!joinParts" => (k_here; (first | (with_reducible show wpAny _ _ (joinParts _ []) _ _ _) | (with_reducible show wpAny _ _ (joinParts _ (evalEach [] _)) _ _ _)); k_dflt (refine joinParts_nil ?_ (by kt_le)))
  k_with "!ite" => (k_here; k_openite; first | (refine ite_pos (by first | omega | (simp only [decide_eq_true_eq, beq_iff_eq, bne_iff_ne, ne_eq]; omega)) ?_) | (refine ite_neg (by first | omega | (simp only [decide_eq_true_eq, beq_iff_eq, bne_iff_ne, ne_eq]; omega)) ?_))
  k_with "!k_all" => (first | assumption | exact ne_of_lt_all (by assumption) | exact ne_of_lt_all (lt_of_allLt (by assumption)))
  k_with "!subscriptTail Name Name ref int" => (k_here; (with_reducible show wpAny _ _ (subscriptTail _ _ (Value.ref _) (Value.int _ _)) _ _ _); k_dflt (refine' item_led (by k_asm) (by k_mem) (by omega) (by omega) (by assumption) ?_; k_whole))
  k_with "!getAttr ref" => (k_here; (with_reducible show wpAny _ _ (getAttr (Value.ref _) (PySem.Str.ofString "append") _) _ _ _); k_dflt (refine' getAttr_append_K (by k_asm) (by k_asm) (by k_mem) ?_; k_whole); intro _ _ _ _ l1; (try k_lt l1); (try (revert l1; intro _)); (try k_sweep))
  k_with "!callWith ref" => (k_here; k_dflt (refine' callWith_app (by k_asm) (by k_mem) ?_; k_whole))
  k_with "!StandsB" => (k_dflt (exact (News.get (by k_asm) (by k_mem))))
  k_with "!call ref" => (k_here; k_dflt (refine' call_app (by k_asm) (by k_asm) (by k_mem) (by k_upd) ?_ (by first | assumption | size_fits); k_whole); intro _ _ _; (try k_sweep))
  k_with "!call builtin:len" => (k_here; k_dflt (refine' len_led (by k_asm) (by k_mem) (by first | omega | assumption) ?_; k_whole); intro _ _)
  k_with "!compareOp IsNot str ref" => (k_here; refine isNot_str_ref ?_)
  k_with "!compareOp Is str ref" => (k_here; refine is_str_ref ?_)
  k_with "!subscriptTail Name Slice str ref" => ((with_reducible show wpAny _ _ (subscriptTail _ (Expr.Slice (some _) (some _) none _) (Value.str (mkS _) _) _) _ _ _); (refine sslice_ss (s := ⟨_, _, _, _, _⟩) (by k_asm) (by k_asm) (by first | assumption | omega) (by assumption) ?_); intro _ _ _ _ _)
  k_with "!eval Lambda" => (k_here; kn_here; k_dflt (refine' lam_TF (lc := (76, 39)) (by k_asm) (by k_asm) (by k_asm) (by kn_code) (by exact rfl) (by k_updF) (by assumption) (by exact ⟨rfl, rfl⟩) (by exact rfl) (by exact rfl) ?_; k_whole); intro _ _ _ _ _ _ N'; (try dsimp only at N'); revert N'; intro _ _ _ l1; (try k_lt l1); (try (revert l1; intro _)))
  k_with "!truthy ref" => (k_here; (with_reducible show wpAny _ _ (truthy (Value.ref _)) _ _ _); k_dflt (refine' truthy_full (by k_asm) (by k_mem) (by assumption) (by first | omega | assumption) ?_; k_whole); intro _)
  k_with "!subscriptTail Name UnaryOp ref int" => (k_here; k_dflt (refine' item_last (by k_asm) (by k_mem) (by assumption) (by omega) (by assumption) ?_; k_whole))
  k_with "!call builtin:str.replace" => (k_here; refine replace_none (by decide +kernel) ?_)
  k_with "!ite" => (k_here; first | (refine ite_pos (by decide +kernel) ?_) | (refine ite_neg (by decide +kernel) ?_))
  k_with "!getMethod ref" => (k_here; (with_reducible show wpAny _ _ (getMethod (Value.ref 50) _ _) _ _ _); k_dflt (refine' getMethod_sub (by k_asm) (by k_asm) ?_; k_whole))
  k_with "!call builtin:re.Pattern.sub" => (k_here; k_dflt (refine' sub_N (by k_asm) (by k_asm) (by k_asm) (by k_mem) (by first | assumption | exact rfl) (by decide) ?_; k_whole); intro _ _ _ _ _; (try k_sweep))
  k_with "!call ref" => (k_here; (with_reducible show wpAny _ _ (call (Value.ref 69) _) _ _ _); k_dflt (refine' escape_c (by k_asm) (by k_asm) (by k_asm) (by k_asm) (by k_asm) (by first | exact rfl | assumption) (by ktr_room) (by ktr_units) (by assumption) ?_; k_whole); intro _ _ _ _ _; (try dsimp only); (try k_fold))
  k_with "!call builtin:len" => (k_here; (with_reducible show wpAny _ _ (call (Value.builtin "len") [Value.str (mkS _) _]) _ _ _); k_dflt (refine' slen (by first | omega | assumption) ?_; k_whole); intro _ _)
  k_with "!subscriptTail Name Name str int" => (k_here; (with_reducible show wpAny _ _ (subscriptTail _ _ (Value.str (mkS _) _) (Value.int _ _)) _ _ _); k_dflt (refine' sitem (by omega) (by first | omega | assumption) (by assumption) ?_; k_whole); intro _ _)
  k_with "!call type:object" => (k_here; k_dflt (refine' call_object_K (by k_asm) (by k_asm) ?_; k_whole); intro _ _ _ _ l1; (try k_lt l1); (try (revert l1; intro _)))
  k_with "call ref" => (k_here; refine freeze ?_)
  refine wpAny_call ?_
  k_dflt cell_enter
  have C71' := C71.keeps (Fr.keep ‹Fr h₀ L _ m›)
  k_steps
  rename_i st _ lst _ FF NN
  rw [show (Str.ofString "." : Str) = mkS [46] by decide +kernel]
  refine thaw ?_
  refine trans_c (news := (st, plainObject) :: news) (ps := ps) (by assumption) FF (by assumption) (fun p hp => NN p ?_) (by assumption) rfl (by ktr_room) (by ktr_units) C71' hTF ?_ (.head _) hlen hlit (plain_star hone) ?_
  · rcases List.mem_cons.mp hp with rfl | hp
    · exact .tail _ (.head _)
    · rcases List.mem_cons.mp hp with rfl | hp
      · exact .head _
      · exact .tail _ (.tail _ hp)
  · intro p hp
    rcases List.mem_cons.mp hp with rfl | hp
    · exact Nat.ne_of_gt lst.1
    · exact h71 p hp
  intro l9 V9 n9 ps9 h9 tk9 O9 TF9 F9 N9 l1 l2
  have ls9 : st < l9 := l1 (st, plainObject) (.head _)
  have ln9 : ∀ p ∈ news, p.1 < l9 := fun p hp => l1 p (.tail _ hp)
  k_steps
  refine thaw ?_
  rename News _ _ _ _ => N9
  refine join_c (by assumption) (by assumption) (by assumption) N9 (by assumption) rfl (by ktr_room) (by ktr_units) (.head _) (.tail _ (.tail _ (.head _))) O9 hone hlen ?_
  intro t8 h8 tk8 F8 N8
  k_steps
  rename News _ _ _ _ => N8
  exact hret _ ps9 _ _ TF9 (by assumption) fun p hp => N8 p (.tail _ (by rcases List.mem_cons.mp hp with rfl | hp; exact .head _; exact .tail _ (.tail _ hp)))
end

/-! _law_takes -/
noncomputable def rowOf (ts : List Tk) : List (Option Nat) := ts.filterMap fun t => match t with | .star => none | .any => some none | .lit c => some (some c)
noncomputable def rowS : Option Nat → List Nat
  | none => []
  | some c => [c]
noncomputable def badAt (r : List (Option Nat)) (nm : List Nat) (k : Int) : Bool := match r[k.toNat]?, nm[k.toNat]? with | some (some a), some c => a != c | _, _ => false
noncomputable def fitsRow (r : List (Option Nat)) (nm : List Nat) : Bool := decide (nm.length = r.length) && (List.range r.length).all fun j => !badAt r nm (j : Int)
theorem fold_filter (p : Int → Bool) : ∀ (ks acc : List Int), ks.foldl (fun l k => if p k = true then l ++ [k] else l) acc = acc ++ ks.filter p
  | [], acc => by simp
  | k :: ks, acc => by
    rw [List.foldl_cons, fold_filter p ks]
    by_cases h : p k = true
    · rw [if_pos h, List.filter_cons_of_pos h]; simp
    · rw [if_neg h, List.filter_cons_of_neg h]
theorem fold_nil (p : Int → Bool) (n : Nat) : decide ((rangeKs 0 n).foldl (fun l k => if p k = true then l ++ [k] else l) [] = []) = (List.range n).all fun j => !p (j : Int) := by
  rw [fold_filter, List.nil_append, Bool.eq_iff_iff, decide_eq_true_eq, List.filter_eq_nil_iff, List.all_eq_true]
  unfold rangeKs
  constructor
  · intro h j hj
    have q := h (0 + (j : Int)) (List.mem_map.mpr ⟨j, hj, rfl⟩)
    rw [Int.zero_add] at q
    simpa using q
  · intro h k hk
    obtain ⟨j, hj, rfl⟩ := List.mem_map.mp hk
    have q := h j hj
    rw [Int.zero_add]
    simpa using q
theorem badAt_any {r : List (Option Nat)} {nm : List Nat} {k : Int} {o : Option Nat} {c : Nat} (hr : r[k.toNat]? = some o) (hc : nm[k.toNat]? = some c) : ([Str.ofString "", (⟨#[c]⟩ : Str)].any fun x => x == mkS (rowS o)) = !badAt r nm k := by
  unfold badAt
  rw [hr, hc]
  cases o with
  | none =>
    show ((Str.ofString "" == mkS []) || _) = true
    rw [show (Str.ofString "" == mkS []) = true by decide +kernel]; rfl
  | some a =>
    show ((Str.ofString "" == mkS [a]) || ((⟨#[c]⟩ : Str) == mkS [a] || false)) = !(a != c)
    rw [show (Str.ofString "" == mkS [a]) = false from beq_eq_false_iff_ne.mpr (fun e => absurd (show (0 : Nat) = 1 from congrArg Str.length e) (by decide)), Bool.or_false, Bool.false_or]
    by_cases h : a = c
    · subst h
      rw [show ((⟨#[a]⟩ : Str) == mkS [a]) = true from beq_iff_eq.mpr rfl]; simp
    · rw [show ((⟨#[c]⟩ : Str) == mkS [a]) = false from one_ne (fun e => h e.symm) rfl]; simp [h]
noncomputable def StarIs (T : List Tk) (z : Int) : Prop := (plainT T ∧ z = -1) ∨ ∃ tA tB, T = tA ++ .star :: tB ∧ plainT tA ∧ z = ((rowOf tA).length : Int)
theorem StarIs.snoc {T : List Tk} {z : Int} {t : Tk} (h : StarIs T z) (ht : t ≠ .star) : StarIs (T ++ [t]) z := by
  rcases h with ⟨h, e⟩ | ⟨tA, tB, rfl, h, e⟩
  · refine .inl ⟨fun x hx => ?_, e⟩
    rcases List.mem_append.mp hx with hx | hx
    · exact h x hx
    · rw [List.mem_singleton.mp hx]; exact ht
  · exact .inr ⟨tA, tB ++ [t], by simp, h, e⟩
theorem StarIs.new {T : List Tk} (h : plainT T) : StarIs (T ++ [.star]) ((rowOf T).length : Int) := .inr ⟨T, [], rfl, h, rfl⟩
theorem plain_before {ts : List Tk} {i : Nat} (h : OneStar ts) (hi : i < ts.length) (ht : ts[i] = .star) : plainT (ts.take i) := by
  rcases h with h | ⟨tA, tB, rfl, hA, hB⟩
  · exact fun t hx => h t (List.mem_of_mem_take hx)
  · rcases Nat.lt_trichotomy i tA.length with q | q | q
    · rw [List.getElem_append_left q] at ht
      exact absurd ht (hA _ (List.getElem_mem q))
    · rw [List.take_append_of_le_length (by omega), q, List.take_length]
      exact hA
    · have e : (tA ++ Tk.star :: tB)[i]? = some .star := by rw [List.getElem?_eq_getElem hi, ht]
      rw [List.getElem?_append_right (by omega), show i - tA.length = (i - tA.length - 1) + 1 by omega, List.getElem?_cons_succ] at e
      exact absurd rfl (hB _ (List.mem_of_getElem? e))
theorem rowOf_snoc (T : List Tk) (t : Tk) : rowOf (T ++ [t]) = rowOf T ++ rowOf [t] := by unfold rowOf; rw [List.filterMap_append]
theorem rowOf_len (T : List Tk) : (rowOf T).length ≤ T.length := List.length_filterMap_le _ _
theorem rows_snoc {V : List Value} {T : List Tk} {t : Tk} {r : Option Nat} {x : Str} {u : Tok} (h : StrsAre V (((rowOf T).map rowS).map mkS)) (hr : rowOf [t] = [r]) (hx : x = mkS (rowS r)) : StrsAre (V ++ [.str x u]) (((rowOf (T ++ [t])).map rowS).map mkS) := by
  rw [rowOf_snoc, hr, List.map_append, List.map_append]
  subst hx
  exact StrsAre.append' h (.cons _ _ .nil)
theorem not_in_special {c : Nat} (h : ¬ specials.contains c = true) : (!(Builtin.Str.occurrences (Str.ofString "()*+?{|^$") ⟨#[c]⟩ 0 (Str.ofString "()*+?{|^$").length 1).isEmpty) = false := by
  rw [PySem.StrLaws.found_one]
  refine decide_eq_false fun hm => ?_
  rw [show (Str.ofString "()*+?{|^$").cps.toList = [40, 41, 42, 43, 63, 123, 124, 94, 36] by decide +kernel] at hm
  refine h ?_
  simp only [List.mem_cons, List.not_mem_nil, or_false] at hm
  rcases hm with rfl | rfl | rfl | rfl | rfl | rfl | rfl | rfl | rfl <;> decide
/-- the text of translate -/
noncomputable def textT (ts : List Tk) : List Nat := [40, 63, 115, 58] ++ outsT ts ++ [41, 92, 90]
noncomputable def kkT (ts : List Tk) (i : Nat) : Nat := 4 + (outsT (ts.take i)).length
theorem outs_pos (t : Tk) : 1 ≤ t.out.length := by
  cases t with
  | star => decide
  | any => decide
  | lit c =>
    show 1 ≤ (litOut c).length
    unfold litOut
    split
    · decide
    · split
      · decide
      · split
        · decide
        · unfold escF
          split <;> simp
theorem outs_split' {ts : List Tk} {k : Nat} (h : k < ts.length) : outsT ts = outsT (ts.take k) ++ (ts[k].out ++ outsT (ts.drop (k + 1))) := by
  have e : ts = ts.take k ++ (ts[k] :: ts.drop (k + 1)) := by simp
  have e2 : outsT ts = outsT (ts.take k ++ (ts[k] :: ts.drop (k + 1))) := congrArg outsT e
  rw [e2]
  unfold outsT
  rw [List.flatMap_append, List.flatMap_cons]
theorem kk_succ {ts : List Tk} {k : Nat} (h : k < ts.length) : kkT ts (k + 1) = kkT ts k + ts[k].out.length := by
  unfold kkT outsT
  rw [List.take_add_one, List.getElem?_eq_getElem h, List.flatMap_append, List.length_append]
  simp
  omega
theorem kk_len (ts : List Tk) : kkT ts ts.length = 4 + (outsT ts).length := by unfold kkT; rw [List.take_length]
theorem kk_le {ts : List Tk} {k : Nat} (h : k < ts.length) : kkT ts k + ts[k].out.length ≤ 4 + (outsT ts).length := by
  rw [outs_split' h, List.length_append, List.length_append]; unfold kkT; omega
theorem text_len (ts : List Tk) : (textT ts).length = (outsT ts).length + 7 := by unfold textT; simp
theorem text_at {ts : List Tk} {k j : Nat} {c : Nat} (h : k < ts.length) (hj : ts[k].out[j]? = some c) : (textT ts)[kkT ts k + j]? = some c := by
  have hl : j < ts[k].out.length := by
    rcases Nat.lt_or_ge j ts[k].out.length with q | q
    · exact q
    · rw [List.getElem?_eq_none q] at hj; cases hj
  have hk := kk_le h
  unfold textT
  rw [List.append_assoc, List.getElem?_append_right (by unfold kkT; simp; omega), List.getElem?_append_left (by unfold kkT at *; simp; omega), outs_split' h,
    List.getElem?_append_right (by unfold kkT; simp; omega), List.getElem?_append_left (by unfold kkT; simp; omega)]
  rw [← hj]
  congr 1
  unfold kkT
  simp
  omega
theorem text_next {ts : List Tk} {k : Nat} (h : k < ts.length) : ∃ x, (textT ts)[kkT ts (k + 1)]? = some x ∧ x ≠ 42 := by
  rcases Nat.lt_or_ge (k + 1) ts.length with q | q
  · have : ∀ t : Tk, ∃ x, t.out[0]? = some x ∧ x ≠ 42 := by
      intro t
      cases t with
      | star => exact ⟨46, rfl, by decide⟩
      | any => exact ⟨46, rfl, by decide⟩
      | lit c =>
        show ∃ x, (litOut c)[0]? = some x ∧ x ≠ 42
        unfold litOut
        split
        · exact ⟨91, rfl, by decide⟩
        · split
          · exact ⟨91, rfl, by decide⟩
          · split
            · exact ⟨91, rfl, by decide⟩
            · unfold escF
              split
              · exact ⟨92, rfl, by decide⟩
              · exact ⟨c, rfl, by assumption⟩
    obtain ⟨x, e, hx⟩ := this ts[k + 1]
    exact ⟨x, text_at q (j := 0) e, hx⟩
  · have e : k + 1 = ts.length := by omega
    refine ⟨41, ?_, by decide⟩
    rw [e, kk_len]
    unfold textT
    rw [List.getElem?_append_right (by simp; omega), show 4 + (outsT ts).length - ([40, 63, 115, 58] ++ outsT ts : List Nat).length = 0 by (rw [List.length_append]; show 4 + (outsT ts).length - (4 + (outsT ts).length) = 0; omega)]
    rfl
theorem sslice_ns {prog : Program} {w : World} {A : Around} {E : Value → Shared → Prop} {s : Shared} {Q : Value → Shared → Prop} {h₀ : Heap} {L : Addr} {m : Str → Option Value} {news : List (Addr × Obj)} {value slice : PySem.Expr} {x : List Nat} {y : Str} {t : Tok} {j : Int} {uj : Tok} (hF : Fr h₀ L s.heap m) (hN : News h₀ L s.heap news) (hz : x.length ≤ 100000) (hy : Txt.slice (mkS x) none (some j) = y)
    (h : ∀ h' t' k, Fr h₀ L h' m → News h₀ L h' news → Q (.str y t') { s with heap := h', toks := k })
    (hs : subscripted slice false (.str (mkS x) t) (.ref s.heap.objs.size) = operate [.ref s.heap.objs.size, .str (mkS x) t] (getItem (.str (mkS x) t) (.ref s.heap.objs.size)) := by with_unfolding_all rfl)
    (ht : ∀ r, letTemporaryGo value (.str (mkS x) t) r = pure () := by intro _; with_unfolding_all rfl) :
    wpAny (model prog w) A (subscriptTail value slice (.str (mkS x) t) (.ref s.heap.objs.size)) Q E { s with heap := s.heap.push { cls := .type "slice", data := .fields #[.none, .int j uj, .none] } } :=
  slice_strN_ns hF hN (fun h' t' k a b => by rw [hy]; exact h h' t' k a b) hs ht (by rw [mkS_len]; unfold sizeLine; omega)
theorem sslice_sn {prog : Program} {w : World} {A : Around} {E : Value → Shared → Prop} {s : Shared} {Q : Value → Shared → Prop} {h₀ : Heap} {L : Addr} {m : Str → Option Value} {news : List (Addr × Obj)} {value slice : PySem.Expr} {x : List Nat} {y : Str} {t : Tok} {i : Int} {ui : Tok} (hF : Fr h₀ L s.heap m) (hN : News h₀ L s.heap news) (hz : x.length ≤ 100000) (hy : Txt.slice (mkS x) (some i) none = y)
    (h : ∀ h' t' k, Fr h₀ L h' m → News h₀ L h' news → Q (.str y t') { s with heap := h', toks := k })
    (hs : subscripted slice false (.str (mkS x) t) (.ref s.heap.objs.size) = operate [.ref s.heap.objs.size, .str (mkS x) t] (getItem (.str (mkS x) t) (.ref s.heap.objs.size)) := by with_unfolding_all rfl)
    (ht : ∀ r, letTemporaryGo value (.str (mkS x) t) r = pure () := by intro _; with_unfolding_all rfl) :
    wpAny (model prog w) A (subscriptTail value slice (.str (mkS x) t) (.ref s.heap.objs.size)) Q E { s with heap := s.heap.push { cls := .type "slice", data := .fields #[.int i ui, .none, .none] } } :=
  slice_strN_sn hF hN (fun h' t' k a b => by rw [hy]; exact h h' t' k a b) hs ht (by rw [mkS_len]; unfold sizeLine; omega)
theorem rl_09_12 : True := by
  k_with "!subscriptTail Name Slice str ref" => ((with_reducible show wpAny _ _ (subscriptTail _ (Expr.Slice none (some _) none _) (Value.str (mkS _) _) _) _ _ _); (refine sslice_ns (s := ⟨_, _, _, _, _⟩) (by k_asm) (by k_asm) (by first | assumption | omega) (by assumption) ?_); intro _ _ _ _ _)
  k_with "!subscriptTail Name Slice str ref" => ((with_reducible show wpAny _ _ (subscriptTail _ (Expr.Slice (some _) none none _) (Value.str (mkS _) _) _) _ _ _); (refine sslice_sn (s := ⟨_, _, _, _, _⟩) (by k_asm) (by k_asm) (by first | assumption | omega) (by assumption) ?_); intro _ _ _ _ _)
  k_with "!subscriptTail Name BinOp str int" => (k_here; (with_reducible show wpAny _ _ (subscriptTail _ _ (Value.str (mkS _) _) (Value.int _ _)) _ _ _); k_dflt (refine' sitem (by omega) (by first | omega | assumption) (by assumption) ?_; k_whole); intro _ _)
  trivial
theorem sadd {prog : Program} {w : World} {A : Around} {E : Value → Shared → Prop} {s : Shared} {Q : Value → Shared → Prop} {x y z : List Nat} {t u : Tok} (e : x ++ y = z) (hz : z.length ≤ 100000) (h : ∀ t' tk, Q (.str (mkS z) t') { s with toks := tk }) : wpAny (model prog w) A (binaryOp .Add (.str (mkS x) t) (.str (mkS y) u)) Q E s := by
  subst e
  have ea : mkS x ++ mkS y = mkS (x ++ y) := str_ext (by rw [str_append]; rfl)
  refine P.add_str ?_
  rw [ea, mkS_len, mkS_len]
  cases x with
  | nil => exact h u s.toks
  | cons a x =>
    cases y with
    | nil =>
      rw [List.append_nil] at h ⊢
      exact h t s.toks
    | cons b y => exact ⟨by rw [mkS_len]; unfold sizeLine; omega, h _ _⟩
theorem rl_09_13 : True := by
  k_with "!binaryOp Add str str" => (k_here; (with_reducible show wpAny _ _ (binaryOp Operator.Add (Value.str (mkS _) _) (Value.str (mkS _) _)) _ _ _); k_dflt (refine' sadd (by first | assumption | exact rfl) (by omega) ?_; k_whole); intro _ _)
  k_with "!CompSrcT" => (k_here; refine freeze ?_)
  k_with "!cell_enter" => (refine' code_defC (by k_asm) (by k_asm) (by k_asm) (by k_asm) (by k_asm) (by exact rfl) (by exact rfl) (by assumption) (by k_is) (by k_is) (by ktr_room) (by exact BindsTo.of_eq rfl) (by exact rfl) (by decide +kernel) ?_ (by exact rfl) (by exact rfl) (by exact rfl); k_whole; intro _ _ _ _ _ _ _ N' Y' B' _ _ l1; (try k_lt l1); (try (revert l1; intro _)); k_cells Y'; (try simp only [List.cons_append, List.nil_append] at N'); (try dsimp only); (try k_lift B'); (try k_fold))
  trivial
section
variable {prog : Program} {w : World} {loose : List Str} {mean : ExcName → Option Value} {mg mb : Str → Option Value} {p : Program}
  {dp un : Nat} {gd : Option (List Code)} {cn : Str} {cs : Scope} {a : Addr} {ccd : Value} {cl : List (Str × Addr)} {outer : List Env} {A₀ : Around} {base h₀ : Heap} {L : Addr} {m : Str → Option Value} {s : Shared} {Q E : Value → Shared → Prop} {news : List (Addr × Obj)}
theorem takes_c {ts : List Tk} {nm : List Nat} {ps : Array Value} {u v : Tok} (B : Below A₀ base outer h₀) (F : Fr h₀ L s.heap m) (X : (frag.heap_1 w.params).In h₀) (N : News h₀ L s.heap ((71, tabObj ps) :: news)) (T : Top p loose mean mg mb h₀) (hk : cs.kind = .function)
    (hd' : dp + 7 < recursionLimit) (hu : un + 96 < cLine) (C71 : CodeHd h₀ 75 71) (hTF : TF 76 39 ps) (h71 : ∀ p ∈ news, p.1 ≠ 71) (hlen : ts.length ≤ 100) (hlit : ∀ c, Tk.lit c ∈ ts → c < 256) (hone : OneStar ts) (hnm : nm.length ≤ 100) (R : Bool) (hR1 : plainT ts → R = fitsRow (rowOf ts) nm)
    (hR2 : ∀ tA tB, ts = tA ++ .star :: tB → plainT tA → R = (decide ((rowOf ts).length ≤ nm.length) && fitsRow (rowOf ts) (nm.take (rowOf tA).length ++ nm.drop (nm.length - (rowOf ts).length + (rowOf tA).length))))
    (hret : ∀ (ps' : Array Value) (h' : Heap) (tk' : Nat), TF 76 39 ps' → Fr h₀ L h' m → News h₀ L h' ((71, tabObj ps') :: news) → Q (.bool R) { s with heap := h', toks := tk' }) :
    wpAny (model PySem.Challenge.rw_ij0200_01.prog w) (ktrTop dp un gd cn cs L a ccd cl outer) (call (.ref 100) [.str (mkS (pats ts)) u, .str (mkS nm) v]) Q E s := by
  revert X; k_fill; intro X
  k_with_none
  k_with "!wpq" => (first | (with_reducible first | refine wpAny_pure ?_ | refine wpAny_bind ?_ | refine wpAny_letGo ?_ | refine wpAny_attempt ?_ | refine wpAny_throw ?_ | refine wpAny_mkInt' ?_ | refine wpAny_mkStr' ?_ | refine wpAny_of_eq (by assumption) ?_ | refine wpAny_typeOf (by assumption) ?_ | refine wpAny_specialOf_val (by assumption) (by assumption) ?_ | refine wpAny_specialOf (by assumption) (by assumption) ?_ | refine wpAny_isInstance_val (by assumption) (by assumption) ?_ | refine wpAny_isInstance (by assumption) (by assumption) ?_) | wp_delta | wp_step)
  k_with "!getMethod str" => (with_reducible refine getMethod_translate ?_)
  k_with "!call builtin:str.translate" => (k_here; k_dflt (refine' translate_K (by k_asm) (by k_asm) (by k_asm) (by exact rfl) (by assumption) ?_; k_whole); intro _ _ _ _ _; (try dsimp only))
  k_with "!call builtin:str.join" => ((with_reducible show wpAny _ _ (call (Value.builtin "str.join") [Value.str _ _, Value.ref _]) _ _ _); (with_reducible rename CarriedAll _ _ => hc'); refine join_plain (by assumption) hc' (by assumption) ?_; intro _ _)
  k_with "!KswEnd" => (k_here; refine freeze ?_)
  k_with "!eval Name" => (k_here; k_dflt (refine' nameX_L (by k_asm) (by rfl) ?_ (by rfl) (by rfl); k_whole))
  k_with "!ksw_same" => (intro z h2 h3; (have g3 := h3); (simp only [List.forall_mem_cons, List.not_mem_nil, false_implies, implies_true, and_true, ne_eq] at h2); (try simp only [List.contains_cons, List.contains_nil, Bool.or_false, Bool.or_eq_false_iff, beq_eq_false_iff_ne, ne_eq] at h3); (try simp only [kstB]); (repeat (first | rw [if_neg h2] | rw [if_neg h2.1] | rw [if_neg h2.2] | rw [if_neg h2.2.1] | rw [if_neg h2.2.2] | rw [if_neg h2.2.2.1] | rw [if_neg h2.2.2.2] | rw [if_neg h2.2.2.2.1] | rw [if_neg h2.2.2.2.2] | rw [if_neg h3] | rw [if_neg h3.1] | rw [if_neg h3.2] | rw [if_neg h3.2.1] | rw [if_neg h3.2.2] | rw [if_neg h3.2.2.1] | rw [if_neg h3.2.2.2] | rw [if_neg h3.2.2.2.1] | rw [if_neg h3.2.2.2.2] | rw [if_neg h3.2.2.2.2.1] | rw [if_neg h3.2.2.2.2.2] | rw [not_stored g3])))
  k_with "!WhlIf" => (first | (refine WhlIf.yes (decide_eq_true (by omega)) ?_) | (refine WhlIf.no (decide_eq_false (by omega)) ?_))
  k_with "!formatField str" => (k_here; (with_reducible show wpAny _ _ (formatField (Value.str _ _) _) _ _ _); refine formatField_str ?_ (by rw [mkS_len]; unfold sizeLine; omega); intro _ _)
  k_with "!kt_le" => ((simp only [len_app, mkS_len, len_E, len_h, len_t]); (unfold sizeLine); omega)
  k_with "!And" => (k_here; refine And.intro (by kt_le) ?_)
  k_with "!joinParts" => (k_here; (first | (with_reducible show wpAny _ _ (joinParts _ []) _ _ _) | (with_reducible show wpAny _ _ (joinParts _ (evalEach [] _)) _ _ _)); k_dflt (refine joinParts_nil ?_ (by kt_le)))
  k_with "!ite" => (k_here; k_openite; first | (refine ite_pos (by first | omega | (simp only [decide_eq_true_eq, beq_iff_eq, bne_iff_ne, ne_eq]; omega)) ?_) | (refine ite_neg (by first | omega | (simp only [decide_eq_true_eq, beq_iff_eq, bne_iff_ne, ne_eq]; omega)) ?_))
  k_with "!k_all" => (first | assumption | exact ne_of_lt_all (by assumption) | exact ne_of_lt_all (lt_of_allLt (by assumption)))
  k_with "!subscriptTail Name Name ref int" => (k_here; (with_reducible show wpAny _ _ (subscriptTail _ _ (Value.ref _) (Value.int _ _)) _ _ _); k_dflt (refine' item_led (by k_asm) (by k_mem) (by omega) (by omega) (by assumption) ?_; k_whole))
  k_with "!getAttr ref" => (k_here; (with_reducible show wpAny _ _ (getAttr (Value.ref _) (PySem.Str.ofString "append") _) _ _ _); k_dflt (refine' getAttr_append_K (by k_asm) (by k_asm) (by k_mem) ?_; k_whole); intro _ _ _ _ l1; (try k_lt l1); (try (revert l1; intro _)); (try k_sweep))
  k_with "!callWith ref" => (k_here; k_dflt (refine' callWith_app (by k_asm) (by k_mem) ?_; k_whole))
  k_with "!StandsB" => (k_dflt (exact (News.get (by k_asm) (by k_mem))))
  k_with "!call ref" => (k_here; k_dflt (refine' call_app (by k_asm) (by k_asm) (by k_mem) (by k_upd) ?_ (by first | assumption | size_fits); k_whole); intro _ _ _; (try k_sweep))
  k_with "!call builtin:len" => (k_here; k_dflt (refine' len_led (by k_asm) (by k_mem) (by first | omega | assumption) ?_; k_whole); intro _ _)
  k_with "!compareOp IsNot str ref" => (k_here; refine isNot_str_ref ?_)
  k_with "!compareOp Is str ref" => (k_here; refine is_str_ref ?_)
  k_with "!subscriptTail Name Slice str ref" => ((with_reducible show wpAny _ _ (subscriptTail _ (Expr.Slice (some _) (some _) none _) (Value.str (mkS _) _) _) _ _ _); (refine sslice_ss (s := ⟨_, _, _, _, _⟩) (by k_asm) (by k_asm) (by first | assumption | omega) (by assumption) ?_); intro _ _ _ _ _)
  k_with "!eval Lambda" => (k_here; kn_here; k_dflt (refine' lam_TF (lc := (76, 39)) (by k_asm) (by k_asm) (by k_asm) (by kn_code) (by exact rfl) (by k_updF) (by assumption) (by exact ⟨rfl, rfl⟩) (by exact rfl) (by exact rfl) ?_; k_whole); intro _ _ _ _ _ _ N'; (try dsimp only at N'); revert N'; intro _ _ _ l1; (try k_lt l1); (try (revert l1; intro _)))
  k_with "!truthy ref" => (k_here; (with_reducible show wpAny _ _ (truthy (Value.ref _)) _ _ _); k_dflt (refine' truthy_full (by k_asm) (by k_mem) (by assumption) (by first | omega | assumption) ?_; k_whole); intro _)
  k_with "!subscriptTail Name UnaryOp ref int" => (k_here; k_dflt (refine' item_last (by k_asm) (by k_mem) (by assumption) (by omega) (by assumption) ?_; k_whole))
  k_with "!call builtin:str.replace" => (k_here; refine replace_none (by decide +kernel) ?_)
  k_with "!ite" => (k_here; first | (refine ite_pos (by decide +kernel) ?_) | (refine ite_neg (by decide +kernel) ?_))
  k_with "!getMethod ref" => (k_here; (with_reducible show wpAny _ _ (getMethod (Value.ref 50) _ _) _ _ _); k_dflt (refine' getMethod_sub (by k_asm) (by k_asm) ?_; k_whole))
  k_with "!call builtin:re.Pattern.sub" => (k_here; k_dflt (refine' sub_N (by k_asm) (by k_asm) (by k_asm) (by k_mem) (by first | assumption | exact rfl) (by decide) ?_; k_whole); intro _ _ _ _ _; (try k_sweep))
  k_with "!call ref" => (k_here; (with_reducible show wpAny _ _ (call (Value.ref 69) _) _ _ _); k_dflt (refine' escape_c (by k_asm) (by k_asm) (by k_asm) (by k_asm) (by k_asm) (by first | exact rfl | assumption) (by ktr_room) (by ktr_units) (by assumption) ?_; k_whole); intro _ _ _ _ _; (try dsimp only); (try k_fold))
  k_with "!call builtin:len" => (k_here; (with_reducible show wpAny _ _ (call (Value.builtin "len") [Value.str (mkS _) _]) _ _ _); k_dflt (refine' slen (by first | omega | assumption) ?_; k_whole); intro _ _)
  k_with "!subscriptTail Name Name str int" => (k_here; (with_reducible show wpAny _ _ (subscriptTail _ _ (Value.str (mkS _) _) (Value.int _ _)) _ _ _); k_dflt (refine' sitem (by omega) (by first | omega | assumption) (by assumption) ?_; k_whole); intro _ _)
  k_with "!call type:object" => (k_here; k_dflt (refine' call_object_K (by k_asm) (by k_asm) ?_; k_whole); intro _ _ _ _ l1; (try k_lt l1); (try (revert l1; intro _)))
  k_with "!subscriptTail Name Slice str ref" => ((with_reducible show wpAny _ _ (subscriptTail _ (Expr.Slice none (some _) none _) (Value.str (mkS _) _) _) _ _ _); (refine sslice_ns (s := ⟨_, _, _, _, _⟩) (by k_asm) (by k_asm) (by first | assumption | omega) (by assumption) ?_); intro _ _ _ _ _)
  k_with "!subscriptTail Name Slice str ref" => ((with_reducible show wpAny _ _ (subscriptTail _ (Expr.Slice (some _) none none _) (Value.str (mkS _) _) _) _ _ _); (refine sslice_sn (s := ⟨_, _, _, _, _⟩) (by k_asm) (by k_asm) (by first | assumption | omega) (by assumption) ?_); intro _ _ _ _ _)
  k_with "!subscriptTail Name BinOp str int" => (k_here; (with_reducible show wpAny _ _ (subscriptTail _ _ (Value.str (mkS _) _) (Value.int _ _)) _ _ _); k_dflt (refine' sitem (by omega) (by first | omega | assumption) (by assumption) ?_; k_whole); intro _ _)
  k_with "!binaryOp Add str str" => (k_here; (with_reducible show wpAny _ _ (binaryOp Operator.Add (Value.str (mkS _) _) (Value.str (mkS _) _)) _ _ _); k_dflt (refine' sadd (by first | assumption | exact rfl) (by omega) ?_; k_whole); intro _ _)
  k_with "!CompSrcT" => (k_here; refine freeze ?_)
  k_with "!cell_enter" => (refine' code_defC (by k_asm) (by k_asm) (by k_asm) (by k_asm) (by k_asm) (by exact rfl) (by exact rfl) (by assumption) (by k_is) (by k_is) (by ktr_room) (by exact BindsTo.of_eq rfl) (by exact rfl) (by decide +kernel) ?_ (by exact rfl) (by exact rfl) (by exact rfl); k_whole; intro _ _ _ _ _ _ _ N' Y' B' _ _ l1; (try k_lt l1); (try (revert l1; intro _)); k_cells Y'; (try simp only [List.cons_append, List.nil_append] at N'); (try dsimp only); (try k_lift B'); (try k_fold))
  k_with "call ref" => (k_here; refine freeze ?_)
  k_with "exec While Compare cons nil" => refine freeze ?_
  refine wpAny_call ?_
  k_dflt cell_enter
  have C71' := C71.keeps (Fr.keep ‹Fr h₀ L _ m›)
  have htl := text_len ts
  have hol := outs_len ts
  have htz : (textT ts).length ≤ 100000 := by omega
  k_steps
  rename_i L1 h1 tkx FG1 F1 X1 T1 lL oR oN dR dN
  rename Below _ _ _ _ => B1
  rename News _ _ _ _ => NN
  have dR : oR.data = .cell none := dR
  have dN : oN.data = .cell (some (.str (mkS nm) v)) := dN
  have lnw := lt_of_allLt lL.2
  have hL2 : ∀ p ∈ ((L1 + 1, oN) :: news), p.1 ≠ L1 + 1 + 1 := by
    intro p hp
    rcases List.mem_cons.mp hp with rfl | hp
    · exact Nat.ne_of_lt (Nat.lt_succ_self _)
    · exact Nat.ne_of_lt (Nat.lt_trans (lnw p hp) (Nat.lt_trans (Nat.lt_succ_self _) (Nat.lt_succ_self _)))
  have hL1 : ∀ p ∈ news, p.1 ≠ L1 + 1 := fun p hp => Nat.ne_of_lt (Nat.lt_trans (lnw p hp) (Nat.lt_succ_self _))
  refine thaw ?_
  refine translate_c (news := (L1 + 1 + 1, oR) :: (L1 + 1, oN) :: news) (ps := ps) (by assumption) (by assumption) (by assumption) (fun p hp => NN p ?_) (by assumption) rfl (by ktr_room) (by ktr_units) C71' hTF ?_ hlen hlit hone ?_
  · rcases List.mem_cons.mp hp with rfl | hp
    · exact .tail _ (.tail _ (.head _))
    · rcases List.mem_cons.mp hp with rfl | hp
      · exact .head _
      · rcases List.mem_cons.mp hp with rfl | hp
        · exact .tail _ (.head _)
        · exact .tail _ (.tail _ (.tail _ hp))
  · intro p hp
    rcases List.mem_cons.mp hp with rfl | hp
    · exact Nat.ne_of_gt (Nat.lt_of_lt_of_le lL.1 (Nat.le_trans (Nat.le_succ _) (Nat.le_succ _)))
    · rcases List.mem_cons.mp hp with rfl | hp
      · exact Nat.ne_of_gt (Nat.lt_of_lt_of_le lL.1 (Nat.le_succ _))
      · exact h71 p hp
  intro t9 ps9 h9 tk9 TF9 F9 N9
  rw [show ([40, 63, 115, 58] ++ outsT ts ++ [41, 92, 90]) = textT ts from rfl]
  clear NN
  k_steps
  rename_i _ tkr l _ la D _ lb _ _ oR2 dR2 _ hh F8 N8
  refine thaw ?_
  refine ksw_while (σ := Nat × List Value × Nat × Tok × Int × Tok) (fun c => (l, listOf c.2.1.toArray c.2.2.1) :: (71, tabObj ps9) :: (L1 + 1 + 1, oR2) :: (L1 + 1, oN) :: news) (fun c => [(Str.ofString "k", .int (kkT ts c.1 : Int) c.2.2.2.1), (Str.ofString "star", .int c.2.2.2.2.1 c.2.2.2.2.2)]) (fun _ => True) [Str.ofString "part"] (fun c => c.1 ≤ ts.length ∧ StrsAre c.2.1 (((rowOf (ts.take c.1)).map rowS).map mkS) ∧ StarIs (ts.take c.1) c.2.2.2.2.1) (fun c => ts.length - c.1) (0, [], 0, ?tok, -1, ?tok') F8 (fun p hp => N8 p (.tail _ hp)) trivial ?hk ⟨Nat.zero_le _, .nil, .inl ⟨(fun _ h => nomatch h), rfl⟩⟩ ?turn
  case hk =>
    intro p hp
    rcases List.mem_cons.mp hp with rfl | hp
    · rfl
    · cases List.mem_singleton.mp hp
      rfl
  case turn =>
    rintro ⟨i, V, ep, ti, z, tz⟩ u1 h tkw _ hP Fc Nc
    dsimp only at hP Fc Nc ⊢
    obtain ⟨hP1, hP2, hP3⟩ := hP
    have hVl : V.length ≤ 100 := by
      have q := hP2.length
      have q2 := rowOf_len (ts.take i)
      rw [List.length_map, List.length_map] at q
      rw [List.length_take] at q2
      omega
    have hVr : V.length = (rowOf (ts.take i)).length := by
      have q := hP2.length
      rw [List.length_map, List.length_map] at q
      exact q
    have hV : V.toArray.size ≤ sizeLine := by rw [List.size_toArray]; unfold sizeLine; omega
    have hV2 : V.toArray.size ≤ 100000 := by rw [List.size_toArray]; omega
    by_cases hi : i < ts.length
    · have o1 := kk_succ hi
      have o2 := kk_le hi
      have htk : ts.take (i + 1) = ts.take i ++ [ts[i]] := by rw [List.take_add_one, List.getElem?_eq_getElem hi]; rfl
      cases ht : ts[i] with
      | star =>
        rw [ht] at o1 o2 htk
        have o1 : kkT ts (i + 1) = kkT ts i + 2 := o1
        have o2 : kkT ts i + 2 ≤ 4 + (outsT ts).length := o2
        have hx : (textT ts)[((kkT ts i : Nat) : Int).toNat]? = some 46 := text_at hi (j := 0) (by rw [ht]; rfl)
        have hx1 : (textT ts)[((kkT ts i : Nat) + 1 : Int).toNat]? = some 42 := by rw [show ((kkT ts i : Nat) + 1 : Int).toNat = kkT ts i + 1 by omega]; exact text_at hi (j := 1) (by rw [ht]; rfl)
        k_steps
        refine thaw ?_
        rename News _ _ _ _ => NE
        refine ksw_end (i + 1, V, ep, ?t1, (V.toArray.size : Int), ?t2) (by assumption) NE (fun _ h => h) trivial ?hk1 ?hr1 ⟨hi, ?p1, ?p2⟩ (by show ts.length - (i + 1) < ts.length - i; omega)
        case p1 =>
          show StrsAre V _
          rw [htk, rowOf_snoc, show rowOf [Tk.star] = [] from rfl, List.append_nil]; exact hP2
        case p2 =>
          show StarIs (ts.take (i + 1)) (V.length : Int)
          rw [htk, hVr]
          exact StarIs.new (plain_before hone hi ht)
        case hk1 =>
          intro p hp
          rcases List.mem_cons.mp hp with rfl | hp
          · show some (Value.int ((kkT ts i : Nat) + 1 + 1 : Int) _) = some (Value.int ((kkT ts (i + 1) : Nat) : Int) _)
            rw [o1]
            rfl
          · cases List.mem_singleton.mp hp
            rfl
        case hr1 => ksw_same
      | any =>
        rw [ht] at o1 o2 htk
        have o1 : kkT ts (i + 1) = kkT ts i + 1 := o1
        have o2 : kkT ts i + 1 ≤ 4 + (outsT ts).length := o2
        have hx : (textT ts)[((kkT ts i : Nat) : Int).toNat]? = some 46 := text_at hi (j := 0) (by rw [ht]; rfl)
        obtain ⟨x, hx1, hx42⟩ := text_next hi
        rw [o1] at hx1
        have hx1 : (textT ts)[((kkT ts i : Nat) + 1 : Int).toNat]? = some x := hx1
        have n1 := one_ne hx42 (show (Str.ofString "*").cps = #[42] by decide +kernel)
        k_steps
        refine thaw ?_
        rename News _ _ _ _ => NE
        rw [List.push_toArray] at NE
        refine ksw_end (i + 1, V ++ [.str _ _], ep + 1, ?ta, z, tz) (by assumption) NE (fun _ h => h) trivial ?hka ?hra ⟨hi, by rw [htk]; exact rows_snoc hP2 (r := none) rfl (by decide +kernel), by rw [htk]; exact hP3.snoc (by nofun)⟩ (by show ts.length - (i + 1) < ts.length - i; omega)
        case hka =>
          intro p hp
          rcases List.mem_cons.mp hp with rfl | hp
          · show some (Value.int ((kkT ts i : Nat) + 1 : Int) _) = some (Value.int ((kkT ts (i + 1) : Nat) : Int) _)
            rw [o1]
            rfl
          · cases List.mem_singleton.mp hp
            rfl
        case hra => ksw_same
      | lit c =>
        have hc : c < 256 := hlit c (by rw [← ht]; exact List.getElem_mem hi)
        by_cases h91 : c = 91
        · subst h91
          rw [ht] at o1 o2 htk
          have o1 : kkT ts (i + 1) = kkT ts i + 4 := o1
          have o2 : kkT ts i + 4 ≤ 4 + (outsT ts).length := o2
          have hx : (textT ts)[((kkT ts i : Nat) : Int).toNat]? = some 91 := text_at hi (j := 0) (by rw [ht]; rfl)
          have hx1 : (textT ts)[((kkT ts i : Nat) + 1 : Int).toNat]? = some 92 := by rw [show ((kkT ts i : Nat) + 1 : Int).toNat = kkT ts i + 1 by omega]; exact text_at hi (j := 1) (by rw [ht]; rfl)
          have hx2 : (textT ts)[((kkT ts i : Nat) + 1 + 1 : Int).toNat]? = some 91 := by rw [show ((kkT ts i : Nat) + 1 + 1 : Int).toNat = kkT ts i + 2 by omega]; exact text_at hi (j := 2) (by rw [ht]; rfl)
          have hx3 : (textT ts)[((kkT ts i : Nat) + 1 + 1 + 1 : Int).toNat]? = some 93 := by rw [show ((kkT ts i : Nat) + 1 + 1 + 1 : Int).toNat = kkT ts i + 3 by omega]; exact text_at hi (j := 3) (by rw [ht]; rfl)
          k_steps
          refine thaw ?_
          rename News _ _ _ _ => NE
          rw [List.push_toArray] at NE
          refine ksw_end (i + 1, V ++ [.str _ _], ep + 1, ?tb, z, tz) (by assumption) NE (fun _ h => h) trivial ?hkb ?hrb ⟨hi, by rw [htk]; exact rows_snoc hP2 (r := some 91) rfl (rfl), by rw [htk]; exact hP3.snoc (by nofun)⟩ (by show ts.length - (i + 1) < ts.length - i; omega)
          case hkb =>
            intro p hp
            rcases List.mem_cons.mp hp with rfl | hp
            · show some (Value.int ((kkT ts i : Nat) + 1 + 1 + 2 : Int) _) = some (Value.int ((kkT ts (i + 1) : Nat) : Int) _)
              rw [o1]
              rfl
            · cases List.mem_singleton.mp hp
              rfl
          case hrb => ksw_same
        by_cases h42 : c = 42 ∨ c = 63
        · have ho : Tk.out (.lit c) = [91, c, 93] := by rcases h42 with rfl | rfl <;> rfl
          rw [ht, ho] at o1 o2
          rw [ht] at htk
          have o1 : kkT ts (i + 1) = kkT ts i + 3 := o1
          have o2 : kkT ts i + 3 ≤ 4 + (outsT ts).length := o2
          have hx : (textT ts)[((kkT ts i : Nat) : Int).toNat]? = some 91 := text_at hi (j := 0) (by rw [ht, ho]; rfl)
          have hx1 : (textT ts)[((kkT ts i : Nat) + 1 : Int).toNat]? = some c := by rw [show ((kkT ts i : Nat) + 1 : Int).toNat = kkT ts i + 1 by omega]; exact text_at hi (j := 1) (by rw [ht, ho]; rfl)
          have hx1' : (textT ts)[((kkT ts i : Nat) + 1 + 0 : Int).toNat]? = some c := by rw [show ((kkT ts i : Nat) + 1 + 0 : Int).toNat = kkT ts i + 1 by omega]; exact text_at hi (j := 1) (by rw [ht, ho]; rfl)
          have hx2 : (textT ts)[((kkT ts i : Nat) + 1 + 0 + 1 : Int).toNat]? = some 93 := by rw [show ((kkT ts i : Nat) + 1 + 0 + 1 : Int).toNat = kkT ts i + 2 by omega]; exact text_at hi (j := 2) (by rw [ht, ho]; rfl)
          have n1 := one_ne (k := 92) (c := c) (by omega) (show (Str.ofString "\\").cps = #[92] by decide +kernel)
          k_steps
          refine thaw ?_
          rename News _ _ _ _ => NE
          rw [List.push_toArray] at NE
          refine ksw_end (i + 1, V ++ [.str _ _], ep + 1, ?tc, z, tz) (by assumption) NE (fun _ h => h) trivial ?hkc ?hrc ⟨hi, by rw [htk]; exact rows_snoc hP2 (r := some c) rfl (rfl), by rw [htk]; exact hP3.snoc (by nofun)⟩ (by show ts.length - (i + 1) < ts.length - i; omega)
          case hkc =>
            intro p hp
            rcases List.mem_cons.mp hp with rfl | hp
            · show some (Value.int ((kkT ts i : Nat) + 1 + 0 + 2 : Int) _) = some (Value.int ((kkT ts (i + 1) : Nat) : Int) _)
              rw [o1]
              rw [show ((kkT ts i : Nat) + 1 + 0 + 2 : Int) = ((kkT ts i + 3 : Nat) : Int) by omega]
            · cases List.mem_singleton.mp hp
              rfl
          case hrc => ksw_same
        by_cases hsp : specials.contains c = true
        · have ho : Tk.out (.lit c) = [92, c] := by show litOut c = _; unfold litOut; rw [if_neg (by omega), if_neg (by omega), if_neg h91]; unfold escF; rw [if_pos hsp]
          rw [ht, ho] at o1 o2
          rw [ht] at htk
          have o1 : kkT ts (i + 1) = kkT ts i + 2 := o1
          have o2 : kkT ts i + 2 ≤ 4 + (outsT ts).length := o2
          have hx : (textT ts)[((kkT ts i : Nat) : Int).toNat]? = some 92 := text_at hi (j := 0) (by rw [ht, ho]; rfl)
          have hx1 : (textT ts)[((kkT ts i : Nat) + 1 : Int).toNat]? = some c := by rw [show ((kkT ts i : Nat) + 1 : Int).toNat = kkT ts i + 1 by omega]; exact text_at hi (j := 1) (by rw [ht, ho]; rfl)
          k_steps
          refine thaw ?_
          rename News _ _ _ _ => NE
          rw [List.push_toArray] at NE
          refine ksw_end (i + 1, V ++ [.str _ _], ep + 1, ?td, z, tz) (by assumption) NE (fun _ h => h) trivial ?hkd ?hrd ⟨hi, by rw [htk]; exact rows_snoc hP2 (r := some c) rfl (rfl), by rw [htk]; exact hP3.snoc (by nofun)⟩ (by show ts.length - (i + 1) < ts.length - i; omega)
          case hkd =>
            intro p hp
            rcases List.mem_cons.mp hp with rfl | hp
            · show some (Value.int ((kkT ts i : Nat) + 1 + 1 : Int) _) = some (Value.int ((kkT ts (i + 1) : Nat) : Int) _)
              rw [o1]
              rfl
            · cases List.mem_singleton.mp hp
              rfl
          case hrd => ksw_same
        have ho : Tk.out (.lit c) = [c] := by show litOut c = _; unfold litOut; rw [if_neg (by omega), if_neg (by omega), if_neg h91]; unfold escF; rw [if_neg hsp]
        rw [ht, ho] at o1 o2
        rw [ht] at htk
        have o1 : kkT ts (i + 1) = kkT ts i + 1 := o1
        have o2 : kkT ts i + 1 ≤ 4 + (outsT ts).length := o2
        have hx : (textT ts)[((kkT ts i : Nat) : Int).toNat]? = some c := text_at hi (j := 0) (by rw [ht, ho]; rfl)
        have n1 := one_ne (k := 46) (c := c) (by rintro rfl; exact hsp (by decide)) (show (Str.ofString ".").cps = #[46] by decide +kernel)
        have n2 := one_ne (k := 91) (c := c) h91 (show (Str.ofString "[").cps = #[91] by decide +kernel)
        have n3 := one_ne (k := 92) (c := c) (by rintro rfl; exact hsp (by decide)) (show (Str.ofString "\\").cps = #[92] by decide +kernel)
        have n4 := not_in_special hsp
        k_steps
        refine thaw ?_
        rename News _ _ _ _ => NE
        rw [List.push_toArray] at NE
        refine ksw_end (i + 1, V ++ [.str _ _], ep + 1, ?te, z, tz) (by assumption) NE (fun _ h => h) trivial ?hke ?hre ⟨hi, by rw [htk]; exact rows_snoc hP2 (r := some c) rfl (rfl), by rw [htk]; exact hP3.snoc (by nofun)⟩ (by show ts.length - (i + 1) < ts.length - i; omega)
        case hke =>
          intro p hp
          rcases List.mem_cons.mp hp with rfl | hp
          · show some (Value.int ((kkT ts i : Nat) + 1 : Int) _) = some (Value.int ((kkT ts (i + 1) : Nat) : Int) _)
            rw [o1]
            rfl
          · cases List.mem_singleton.mp hp
            rfl
        case hre => ksw_same
    · obtain rfl : i = ts.length := by omega
      have okk := kk_len ts
      rw [List.take_length] at hP2 hP3 hVr
      have hs1 : Txt.slice (mkS (textT ts)) none (some (4 : Int)) = mkS [40, 63, 115, 58] := by
        rw [show (4 : Int) = ((4 : Nat) : Int) from rfl, slice_take]; rfl
      have hs2 : Txt.slice (mkS (textT ts)) (some (-3 : Int)) none = mkS [41, 92, 90] := by
        rw [show (-3 : Int) = -((3 : Nat) : Int) from rfl, slice_last (by decide), text_len, show (outsT ts).length + 7 - 3 = ([40, 63, 115, 58] ++ outsT ts).length by (rw [List.length_append]; show (outsT ts).length + 7 - 3 = 4 + (outsT ts).length; omega)]
        unfold textT
        rw [List.drop_left]
      rcases hP3 with ⟨hpl, rfl⟩ | ⟨tA, tB, hts, htA, rfl⟩
      · by_cases hnl : nm.length = V.toArray.size
        · k_steps
          refine thaw ?_
          refine LCt.CompSrcT.range (by rfl) (by k_asm) (by k_asm) (by assumption) (by first | decide | exact small_one (by omega) (by omega) (by omega) (by omega)) (by first | exact rangeSize_nat _ _ | rfl) (by first | (rw [PySem.sizeLine_eq]; omega) | size_fits) ?_
          intro g'
          refine' kci_range (fun l k => if badAt (rowOf ts) nm k = true then l ++ [k] else l) (fun k' t' I' oI' C' oC' D' m' ys' l' h' tk' E' hlo' hhi' hI' hC' hx' F' N' off' ne' => ?_) ?_ ?_
          · have off2 := off'
            simp only [LCg.Off3, and_true] at off'
            intro hMark'
            have hjl : k'.toNat < (rowOf ts).length := by rw [← hVr, ← List.size_toArray]; omega
            obtain ⟨ro, hro⟩ : ∃ ro, (rowOf ts)[k'.toNat]? = some ro := ⟨_, List.getElem?_eq_getElem hjl⟩
            obtain ⟨cj, hcj⟩ : ∃ cj, nm[k'.toNat]? = some cj := ⟨_, List.getElem?_eq_getElem (by rw [hnl, List.size_toArray, hVr]; exact hjl)⟩
            obtain ⟨uj, hvj⟩ := hP2.get k'.toNat (mkS (rowS ro)) (by rw [List.getElem?_map, List.getElem?_map, hro]; rfl)
            have hvj : V.toArray[k'.toNat]? = some (.str (mkS (rowS ro)) uj) := by rw [List.getElem?_toArray, hvj]
            have hba := badAt_any hro hcj
            k_steps
            · rename_i hany
              rename News _ _ _ _ => NE
              have hbb : badAt (rowOf ts) nm k' = false := by
                have q := hba.symm.trans hany
                cases hb : badAt (rowOf ts) nm k' with
                | false => rfl
                | true => rw [hb] at q; cases q
              exact LCg.CompEnd.intro (by assumption) NE _ (fun p hp => .tail _ hp) off2 trivial (kci_no (by rw [if_neg (by rw [hbb]; exact Bool.false_ne_true)]) rfl)
            · rename_i hany
              rename News _ _ _ _ => NE
              have hbb : badAt (rowOf ts) nm k' = true := by
                have q := hba.symm.trans hany
                cases hb : badAt (rowOf ts) nm k' with
                | true => rfl
                | false => rw [hb] at q; cases q
              exact LCg.CompEnd.intro (by assumption) NE _ (fun p hp => .tail _ hp) off2 trivial (kci_el (by rw [if_pos hbb]) rfl rfl)
          · k_steps
            rename Fr _ _ _ m => FZ
            rename News _ _ _ _ => NZ
            rw [show (Int.toNat ((V.toArray.size : Int) - 0)) = (rowOf ts).length by rw [List.size_toArray, hVr]; omega, fold_nil]
            have eR : R = (List.range (rowOf ts).length).all fun j => !badAt (rowOf ts) nm (j : Int) := by
              rw [hR1 hpl]
              unfold fitsRow
              rw [decide_eq_true (by rw [hnl, List.size_toArray, hVr]), Bool.true_and]
            rw [← eR]
            exact hret ps9 _ _ TF9 FZ fun p hp => NZ p (by rcases List.mem_cons.mp hp with rfl | hp; exact .tail _ (.tail _ (.tail _ (.head _))); exact .tail _ (.tail _ (.tail _ (.tail _ (.tail _ (.tail _ hp))))))
          · intro l k
            dsimp only
            split
            · rw [List.length_append]; exact Nat.le_refl _
            · exact Nat.le_succ _
        · k_steps
          rename Fr _ _ _ m => FZ
          rename News _ _ _ _ => NZ
          have eR : R = (((nm.length : Nat) : Int) == ((V.toArray.size : Nat) : Int)) := by
            rw [hR1 hpl]
            unfold fitsRow
            rw [decide_eq_false (by rw [← hVr, ← List.size_toArray]; exact hnl), Bool.false_and]
            exact (beq_eq_false_iff_ne.mpr (by omega)).symm
          rw [← eR]
          exact hret ps9 _ _ TF9 FZ fun p hp => NZ p (by rcases List.mem_cons.mp hp with rfl | hp; exact .tail _ (.head _); exact .tail _ (.tail _ (.tail _ (.tail _ hp))))
      · have hrow : (rowOf tA).length ≤ (rowOf ts).length := by rw [hts]; unfold rowOf; rw [List.filterMap_append, List.length_append]; exact Nat.le_add_right _ _
        have hRs := hR2 tA tB hts htA
        by_cases hlt2 : nm.length < V.toArray.size
        · k_steps
          rename Fr _ _ _ m => FZ
          rename News _ _ _ _ => NZ
          rw [decide_eq_false (by rw [← hVr, ← List.size_toArray]; omega), Bool.false_and] at hRs
          rw [hRs] at hret
          exact hret ps9 _ _ TF9 FZ fun p hp => NZ p (by rcases List.mem_cons.mp hp with rfl | hp; exact .tail _ (.head _); exact .tail _ (.tail _ (.tail _ (.tail _ hp))))
        · rw [decide_eq_true (by rw [← hVr, ← List.size_toArray]; omega), Bool.true_and] at hRs
          have hs3 : Txt.slice (mkS nm) none (some ((rowOf tA).length : Int)) = mkS (nm.take (rowOf tA).length) := slice_take
          have hs4 : Txt.slice (mkS nm) (some ((nm.length : Int) - (V.toArray.size : Int) + ((rowOf tA).length : Int))) none = mkS (nm.drop (nm.length - (rowOf ts).length + (rowOf tA).length)) := by
            rw [show ((nm.length : Int) - (V.toArray.size : Int) + ((rowOf tA).length : Int)) = ((nm.length - (rowOf ts).length + (rowOf tA).length : Nat) : Int) by rw [List.size_toArray, hVr] at *; omega]
            exact slice_drop
          generalize hnm2 : nm.take (rowOf tA).length ++ nm.drop (nm.length - (rowOf ts).length + (rowOf tA).length) = nm2 at hRs
          have hz2 : nm2.length ≤ 200 := by rw [← hnm2, List.length_append, List.length_take, List.length_drop]; omega
          by_cases hnl : nm2.length = V.toArray.size
          · k_steps
            refine thaw ?_
            refine LCt.CompSrcT.range (by rfl) (by k_asm) (by k_asm) (by assumption) (by first | decide | exact small_one (by omega) (by omega) (by omega) (by omega)) (by first | exact rangeSize_nat _ _ | rfl) (by first | (rw [PySem.sizeLine_eq]; omega) | size_fits) ?_
            intro g'
            refine' kci_range (fun l k => if badAt (rowOf ts) nm2 k = true then l ++ [k] else l) (fun k' t' I' oI' C' oC' D' m' ys' l' h' tk' E' hlo' hhi' hI' hC' hx' F' N' off' ne' => ?_) ?_ ?_
            · have off2 := off'
              simp only [LCg.Off3, and_true] at off'
              intro hMark'
              have hjl : k'.toNat < (rowOf ts).length := by rw [← hVr, ← List.size_toArray]; omega
              obtain ⟨ro, hro⟩ : ∃ ro, (rowOf ts)[k'.toNat]? = some ro := ⟨_, List.getElem?_eq_getElem hjl⟩
              obtain ⟨cj, hcj⟩ : ∃ cj, nm2[k'.toNat]? = some cj := ⟨_, List.getElem?_eq_getElem (by rw [hnl, List.size_toArray, hVr]; exact hjl)⟩
              obtain ⟨uj, hvj⟩ := hP2.get k'.toNat (mkS (rowS ro)) (by rw [List.getElem?_map, List.getElem?_map, hro]; rfl)
              have hvj : V.toArray[k'.toNat]? = some (.str (mkS (rowS ro)) uj) := by rw [List.getElem?_toArray, hvj]
              have hba := badAt_any hro hcj
              k_steps
              · rename_i hany
                rename News _ _ _ _ => NE
                have hbb : badAt (rowOf ts) nm2 k' = false := by
                  have q := hba.symm.trans hany
                  cases hb : badAt (rowOf ts) nm2 k' with
                  | false => rfl
                  | true => rw [hb] at q; cases q
                exact LCg.CompEnd.intro (by assumption) NE _ (fun p hp => .tail _ hp) off2 trivial (kci_no (by rw [if_neg (by rw [hbb]; exact Bool.false_ne_true)]) rfl)
              · rename_i hany
                rename News _ _ _ _ => NE
                have hbb : badAt (rowOf ts) nm2 k' = true := by
                  have q := hba.symm.trans hany
                  cases hb : badAt (rowOf ts) nm2 k' with
                  | true => rfl
                  | false => rw [hb] at q; cases q
                exact LCg.CompEnd.intro (by assumption) NE _ (fun p hp => .tail _ hp) off2 trivial (kci_el (by rw [if_pos hbb]) rfl rfl)
            · k_steps
              rename Fr _ _ _ m => FZ
              rename News _ _ _ _ => NZ
              rw [show (Int.toNat ((V.toArray.size : Int) - 0)) = (rowOf ts).length by rw [List.size_toArray, hVr]; omega, fold_nil]
              have eR : R = (List.range (rowOf ts).length).all fun j => !badAt (rowOf ts) nm2 (j : Int) := by
                rw [hRs]
                unfold fitsRow
                rw [decide_eq_true (by rw [hnl, List.size_toArray, hVr]), Bool.true_and]
              rw [← eR]
              exact hret ps9 _ _ TF9 FZ fun p hp => NZ p (by rcases List.mem_cons.mp hp with rfl | hp; exact .tail _ (.tail _ (.tail _ (.head _))); exact .tail _ (.tail _ (.tail _ (.tail _ (.tail _ (.tail _ hp))))))
            · intro l k
              dsimp only
              split
              · rw [List.length_append]; exact Nat.le_refl _
              · exact Nat.le_succ _
          · k_steps
            rename Fr _ _ _ m => FZ
            rename News _ _ _ _ => NZ
            have eR : R = (((nm2.length : Nat) : Int) == ((V.toArray.size : Nat) : Int)) := by
              rw [hRs]
              unfold fitsRow
              rw [decide_eq_false (by rw [← hVr, ← List.size_toArray]; exact hnl), Bool.false_and]
              exact (beq_eq_false_iff_ne.mpr (by omega)).symm
            rw [← eR]
            exact hret ps9 _ _ TF9 FZ fun p hp => NZ p (by rcases List.mem_cons.mp hp with rfl | hp; exact .tail _ (.head _); exact .tail _ (.tail _ (.tail _ (.tail _ hp))))
end

/-! an attribute of a function -/
theorem slot_fset : Slot "function" "__setattr__" "object.__setattr__" :=
  .of (owner := "object") (n := "__setattr__") (by rw [typeLookup_type, builtinLookup_eq_fast]; kernel_rfl) (by decide +kernel) (by decide +kernel) (by decide +kernel)
    (by first | exact .inl (by decide +kernel) | exact .inr (by decide +kernel)) (by rw [isSubtype_type]; kernel_rfl)
theorem entry_oset : entryFor table "object.__setattr__" = some Builtin.«object.__setattr__» := entryFor_of_tree (by kernel_rfl)
theorem args_oset (a b c : Value) : argsOk "object.__setattr__" ⟨[a, b, c], []⟩ := by unfold argsOk; kernel_rfl
section
variable {prog : Program} {w : World} {A : Around} {E : Value → Shared → Prop} {s : Shared} {h₀ : Heap} {L : Addr} {m : PySem.Str → Option Value} {news : List (Addr × Obj)}
theorem setAttr_fn {f : Addr} {fd : FuncData} {v : Value} {Q : Unit → Shared → Prop} (hx : s.heap.get? f = some { cls := .type "function", data := .func fd })
    (h : ∀ h' tk, Heap.SameBut s.heap.objs.size ((s.heap.push { cls := .type "dict", data := .dict #[] }).update f fun o => { o with dict := some s.heap.objs.size }) h' → h'.Ns s.heap.objs.size (fun x => if x = Str.ofString "read" then some v else none) → Q () { s with heap := h', toks := tk }) : wpAny (model prog w) A (setAttr (.ref f) "read" v) Q E s := by
  obtain ⟨hp, g, d, tk, os⟩ := s
  have hT : ∀ tk', (⟨hp, g, d, tk', os⟩ : Shared).TypeIs (.ref f) "function" := fun _ => ⟨_, hx, rfl⟩
  have f1 : typeLookup (.type "function") "__setattr__" = pure (some (.builtin "object.__setattr__")) := by rw [typeLookup_type, builtinLookup_eq_fast]; kernel_rfl
  have f2 : typeLookup (.type "function") "read" = pure none := by rw [typeLookup_type, builtinLookup_eq_fast]; kernel_rfl
  have f3 : typeOf (.builtin "object.__setattr__") = pure (.type "wrapper_descriptor") := by show builtinType _ = _; rw [builtinType_eq_fast]; kernel_rfl
  have f4 := slot_fset.bind (.ref f)
  unfold setAttr
  repeat (any_goals (first | assumption | exact hT _ | ((with_reducible show wpAny _ _ (call (Value.builtin "object.__setattr__") _ _) _ _ _); refine wpAny_call_entry slot_fset (hT _) entry_oset ?_ (args_oset _ _ _); unfold Builtin.«object.__setattr__») | ((with_reducible show wpAny _ _ (nsSet _ _ _) _ _ _); refine halt ?_) | wp_step))
  refine unhalt ?_
  refine wpAny_nsSet1 (m := fun _ => none) (Heap.Ns1.of_empty ⟨{ cls := .type "dict", data := .dict #[] }, #[], 0, (Heap.get?_update_other _ _ (Nat.ne_of_lt (Heap.lt_size hx))).trans (Heap.get?_push_size _ rfl), rfl, (fun _ h => absurd h (by simp)), fun _ => rfl⟩) ?_
  intro h' hns hsb
  obtain ⟨od, es, ep, e1, e2, e3, e4, e5⟩ := id hns
  have hsz : es.size ≤ sizeLine + 1 := by
    obtain ⟨o2, es2, ep2, c1, c2, c3⟩ := Heap.Ns1.count hns (Within.cons (Str.ofString "read") v Within.nil)
    rw [e1] at c1
    cases c1
    rw [e2] at c2
    cases c2
    have c4 : es.size ≤ 1 := by simpa using c3
    unfold sizeLine
    omega
  refine wpAny_bind (wpAny_lookBehind e1 (by rw [e2]; exact pastItsLine_dict hsz) ?_)
  refine wpAny_pure ⟨_, rfl, wpAny_pure (wpAny_pure ?_)⟩
  exact h _ _ hsb hns.ns
theorem setAttr_fn_K {f : Addr} {fd : FuncData} {v : Value} {g : Obj → List (Addr × Obj)} {Q : Unit → Shared → Prop} (F : Fr h₀ L s.heap m) (N : News h₀ L s.heap news) (U : UpdF f { cls := .type "function", data := .func fd } news g)
    (h : ∀ d od es ep h' tk, Fr h₀ L h' m → News h₀ L h' ((d, od) :: g { cls := .type "function", dict := some d, data := .func fd }) → od.data = .dict es ep → StrKeys es → (∀ name, nsFind es name = if name = Str.ofString "read" then some v else none) → (∀ p ∈ news, p.1 < d) → Q () { s with heap := h', toks := tk }) :
    wpAny (model prog w) A (setAttr (.ref f) "read" v) Q E s := by
  obtain ⟨pre, post, rfl, hg, a, b⟩ := U.split
  have z := N _ (List.mem_append_right pre (.head post))
  have hlt : ∀ p ∈ pre ++ (f, ({ cls := .type "function", data := .func fd } : Obj)) :: post, p.1 < s.heap.objs.size := fun p hp => Heap.lt_size (N p hp).1
  refine setAttr_fn z.1 fun h' tk hsb hns => ?_
  obtain ⟨od, es, ep, e1, e2, e3, e4⟩ := hns
  have F1 := F.push (({ cls := .type "dict", data := .dict #[] } : Obj))
  have N1 := N.push F (({ cls := .type "dict", data := .dict #[] } : Obj))
  have hne : s.heap.objs.size ≠ f := Nat.ne_of_gt (hlt _ (List.mem_append_right pre (.head post)))
  have F2 := F1.change (Heap.SameBut.update (s.heap.push ({ cls := .type "dict", data := .dict #[] } : Obj)) f fun o => { o with dict := some s.heap.objs.size }) z.2.1 z.2.2
  have N2 : News h₀ L _ (((s.heap.objs.size, ({ cls := .type "dict", data := .dict #[] } : Obj)) :: pre) ++ (f, { cls := .type "function", dict := some s.heap.objs.size, data := .func fd }) :: post) :=
    news_set (pre := (s.heap.objs.size, ({ cls := .type "dict", data := .dict #[] } : Obj)) :: pre) N1
      (fun p hp => by rcases List.mem_cons.mp hp with rfl | hp; exact hne; exact a p hp) b
      (Heap.SameBut.update (s.heap.push ({ cls := .type "dict", data := .dict #[] } : Obj)) f fun o => { o with dict := some s.heap.objs.size })
      (Heap.get?_update_self _ (Heap.get?_push_of_some _ z.1) rfl)
  have z2 := N2 _ (.head _)
  refine h s.heap.objs.size od es ep h' tk (F2.change hsb z2.2.1 z2.2.2) ?_ e2 e3 e4 hlt
  rw [hg]
  exact news_set (pre := []) N2 (fun _ hp => nomatch hp) (fun p hp => by
    rcases List.mem_append.mp hp with hp | hp
    · exact Nat.ne_of_lt (hlt p (List.mem_append_left _ hp))
    · rcases List.mem_cons.mp hp with rfl | hp
      · exact hne.symm
      · exact Nat.ne_of_lt (hlt p (List.mem_append_right pre (.tail _ hp)))) hsb e1
end

/-! bytes.decode('latin-1') -/
open Builtin in
theorem run_latin (id : String) : ∀ l : List UInt8, l.length ≤ 7 → _codecs.runDecoder id _codecs.latin1Decoder none true l.toArray 0 [] = pure ((l.map UInt8.toNat).toArray, l.length)
  | [], _ => by kernel_rfl
  | [_], _ => by kernel_rfl
  | [_, _], _ => by kernel_rfl
  | [_, _, _], _ => by kernel_rfl
  | [_, _, _, _], _ => by kernel_rfl
  | [_, _, _, _, _], _ => by kernel_rfl
  | [_, _, _, _, _, _], _ => by kernel_rfl
  | [_, _, _, _, _, _, _], _ => by kernel_rfl
  | _ :: _ :: _ :: _ :: _ :: _ :: _ :: _ :: _, h => absurd h (by simp)
open Builtin in
theorem road_latin (id : String) (b : Array UInt8) : _codecs.decodeRoad id b (Str.ofString "latin-1") none [] = (_codecs.runDecoder id _codecs.latin1Decoder none true b 0 [] >>= fun r => mkStr ⟨r.1⟩) := by kernel_rfl

section
variable {c : UInt8} {cs : List UInt8} {t : Tok}
open Builtin in
theorem latin_entry {u : Tok} : «bytes.decode» ⟨[.bytes (c :: cs).toArray t, .str (Str.ofString "latin-1") u], []⟩ = (mkStr (Str.ofString "utf-8") >>= fun _ => mkStr (Str.ofString "latin-1") >>= fun e => mkStr (Str.ofString "bytes.decode") >>= fun d =>
    call (.builtin "_codecs.decode.text") [.bytes (c :: cs).toArray t, e, .none, d] >>= fun v => ret v) := by kernel_rfl
open Builtin in
theorem latin_text {b : Array UInt8} {t1 t2 : Tok} {x d : Str} {n : Nat} (hd : ∀ id, _codecs.runDecoder id _codecs.latin1Decoder none true b 0 [] = pure (x.cps, n)) :
    Meets («_codecs.decode.text» ⟨[.bytes b t, .str (Str.ofString "latin-1") t1, .none, .str d t2], []⟩) (fun _ R s => x.length ≤ sizeLine ∧ R (.ok (.ret (.str x s.toks))) { s with toks := s.toks + 1 }) := by
  refine .of_wp fun prog w A R s hS => ?_
  obtain ⟨hsz, h⟩ := hS
  show wpAny _ _ (Bytes.bytesLike _ (.bytes b t) >>= fun r => _) _ _ s
  refine wpAny_bind (wpAny_of_eq KBd.like_eq ?_)
  refine wpAny_bind (wpAny_of_eq KBd.held_eq ?_)
  show wpAny _ _ (_codecs.decodeRoad _ b (Str.ofString "latin-1") none [] >>= fun v => _) _ _ s
  rw [road_latin, hd]
  refine wpAny_bind (wpAny_bind (wpAny_pure ?_))
  exact wpAny_mkStr (wpAny_pure ⟨_, rfl, h⟩) hsz
theorem latin_meets {u : Tok} {x : Str} {n : Nat} (hd : ∀ id, Builtin._codecs.runDecoder id Builtin._codecs.latin1Decoder none true (c :: cs).toArray 0 [] = pure (x.cps, n)) :
    Meets (Builtin.«bytes.decode» ⟨[.bytes (c :: cs).toArray t, .str (Str.ofString "latin-1") u], []⟩) (fun _ R s => x.length ≤ sizeLine ∧ ∀ t' k, R (.ok (.ret (.str x t'))) { s with toks := k }) := by
  refine .of_wp fun prog w A R s hS => ?_
  obtain ⟨hsz, h⟩ := hS
  rw [latin_entry]
  refine wpAny_bind (wpAny_mkStr ?_ (by decide))
  refine wpAny_bind (wpAny_mkStr ?_ (by decide))
  refine wpAny_bind (wpAny_mkStr ?_ (by decide))
  exact wpAny_bind (call_function_meets KBd.kind_text KBd.plain_text KBd.entry_text (KBd.args_text _ _ _ _) (latin_text hd) ⟨hsz, wpAny_pure ⟨_, rfl, h _ _⟩⟩)
theorem latin_args (a b : Value) : argsOk "bytes.decode" ⟨[a, b], []⟩ := by unfold argsOk; kernel_rfl
end
noncomputable def bys (x : List Nat) : Array UInt8 := (x.map Nat.toUInt8).toArray
theorem decode_bys {prog : Program} {w : World} {A : Around} {E : Value → Shared → Prop} {s : Shared} {x : List Nat} {t u : Tok} {Q : Value → Shared → Prop} (h0 : x ≠ []) (h7 : x.length ≤ 7) (hb : ∀ c ∈ x, c < 256) (h : ∀ t' k, Q (.str ⟨x.toArray⟩ t') { s with toks := k }) :
    wpAny (model prog w) A (call (.builtin "bytes.decode") [.bytes (bys x) t, .str (Str.ofString "latin-1") u]) Q E s := by
  have e : ((x.map Nat.toUInt8).map UInt8.toNat) = x := by
    rw [List.map_map]
    refine (List.map_congr_left (g := id) fun c hc => ?_).trans (List.map_id _)
    have q := hb c hc
    show (UInt8.ofNat c).toNat = c
    rw [UInt8.toNat_ofNat']; omega
  have hd : ∀ id, Builtin._codecs.runDecoder id Builtin._codecs.latin1Decoder none true (x.map Nat.toUInt8).toArray 0 [] = pure ((⟨x.toArray⟩ : Str).cps, (x.map Nat.toUInt8).length) := fun id => by
    rw [run_latin id _ (by rw [List.length_map]; exact h7), e]
  cases x with
  | nil => exact absurd rfl h0
  | cons c cs =>
    refine call_meets FB.slot_bytes_decode (typeIs_bytes _ _ _) FB.entry_bytes_decode (latin_args _ _) (latin_meets hd) ⟨?_, h⟩
    show (c :: cs).toArray.size ≤ sizeLine
    rw [List.size_toArray]
    unfold sizeLine
    omega
theorem bys_ints {x : List Nat} (hb : ∀ c ∈ x, c < 256) : KBw.bInts (bys x) = x.map (fun c : Nat => (c : Int)) := by
  rw [show bys x = (x.map Nat.toUInt8).toArray from rfl, KBw.ints_list, List.map_map]
  refine List.map_congr_left fun c hc => ?_
  have q := hb c hc
  show (((UInt8.ofNat c).toNat : Nat) : Int) = c
  rw [UInt8.toNat_ofNat']; omega
theorem bys_made {x : List Nat} : byteArr (x.map fun c : Nat => (c : Int)) = bys x := by
  show ((x.map fun c : Nat => (c : Int)).map fun n => n.toNat.toUInt8).toArray = _
  rw [List.map_map]
  rfl
/-! getting .read of a function with a dict -/
theorem slot_fget : Slot "function" "__getattribute__" "object.__getattribute__" :=
  .of (owner := "object") (n := "__getattribute__") (by rw [typeLookup_type, builtinLookup_eq_fast]; kernel_rfl) (by decide +kernel) (by decide +kernel) (by decide +kernel)
    (by first | exact .inl (by decide +kernel) | exact .inr (by decide +kernel)) (by rw [isSubtype_type]; kernel_rfl)
theorem entry_oget : entryFor table "object.__getattribute__" = some Builtin.«object.__getattribute__» := entryFor_of_tree (by kernel_rfl)
theorem args_oget (a b : Value) : argsOk "object.__getattribute__" ⟨[a, b], []⟩ := by unfold argsOk; kernel_rfl
section
variable {prog : Program} {w : World} {A : Around} {E : Value → Shared → Prop} {s : Shared} {h₀ : Heap} {L : Addr} {m : PySem.Str → Option Value} {news : List (Addr × Obj)}
theorem getMethod_fn {f d : Addr} {fd : FuncData} {sl : Array (Option Value)} {r : Addr} {pl : Sem Bool} {mm : Str → Option Value} {Q : Value × List Value → Shared → Prop} (hx : s.heap.get? f = some { cls := .type "function", dict := some d, data := .func fd, slots := sl }) (hn : s.heap.Ns d mm) (hv : mm (Str.ofString "read") = some (.ref r))
    (h : ∀ tk, Q (.ref r, []) { s with toks := tk }) : wpAny (model prog w) A (getMethod (.ref f) "read" pl) Q E s := by
  obtain ⟨hp, g, dr, tk, os⟩ := s
  have hT : ∀ tk', (⟨hp, g, dr, tk', os⟩ : Shared).TypeIs (.ref f) "function" := fun _ => ⟨_, hx, rfl⟩
  have f1 : typeLookup (.type "function") "__getattribute__" = pure (some (.builtin "object.__getattribute__")) := by rw [typeLookup_type, builtinLookup_eq_fast]; kernel_rfl
  have f2 : typeLookup (.type "function") "read" = pure none := by rw [typeLookup_type, builtinLookup_eq_fast]; kernel_rfl
  have f3 : typeOf (.builtin "object.__getattribute__") = pure (.type "wrapper_descriptor") := by show builtinType _ = _; rw [builtinType_eq_fast]; kernel_rfl
  have f4 := slot_fget.bind (.ref f)
  have f5 : typeLookup (.type "function") "__getattr__" = pure none := by rw [typeLookup_type, builtinLookup_eq_fast]; kernel_rfl
  unfold getMethod getAttr getAttrBy
  repeat (any_goals (first | assumption | exact hT _ | ((with_reducible show wpAny _ _ (call (Value.builtin "object.__getattribute__") _ _) _ _ _); refine wpAny_call_entry slot_fget (hT _) entry_oget ?_ (args_oget _ _); unfold Builtin.«object.__getattribute__») | ((with_reducible show wpAny _ _ (nsGet _ _) _ _ _); refine halt ?_) | wp_step))
  refine unhalt ?_
  refine wpAny_nsGet hn ?_
  rw [hv]
  dsimp only
  repeat (any_goals (first | assumption | exact hT _ | wp_step))
  exact ⟨_, rfl, wpAny_pure (wpAny_pure (h _))⟩
end

/-! _law_repeats -/
noncomputable def litsT (x : List Nat) : List Tk := x.map .lit
theorem pats_lits (x : List Nat) : pats (litsT x) = plainF x := by
  unfold pats litsT plainF
  rw [List.flatMap_map]; rfl
theorem pats_append (x y : List Tk) : pats (x ++ y) = pats x ++ pats y := List.flatMap_append
theorem plain_lits (x : List Nat) : plainT (litsT x) := fun t ht => by
  obtain ⟨c, _, rfl⟩ := List.mem_map.mp ht
  nofun
theorem row_lits (x : List Nat) : rowOf (litsT x) = x.map some := by
  unfold rowOf litsT
  rw [List.filterMap_map]
  induction x with
  | nil => rfl
  | cons a x ih => rw [List.filterMap_cons, List.map_cons, ← ih]; rfl
theorem pre_eq (x : List Nat) : plainF x ++ [42] = pats (litsT x ++ [.star]) := by rw [pats_append, pats_lits]; rfl
theorem suf_eq (x : List Nat) : [42] ++ plainF x = pats (.star :: litsT x) := by
  show [42] ++ plainF x = [42] ++ pats (litsT x)
  rw [pats_lits]
noncomputable def told1 (ahead behind : List Nat) (n : Nat) : List Nat := (behind.take (n - ahead.length) ++ ahead).drop ((behind.take (n - ahead.length) ++ ahead).length - n)
theorem lit_lits {x : List Nat} (h : ∀ c ∈ x, c < 256) : ∀ c, Tk.lit c ∈ litsT x → c < 256 := fun c hc => by
  obtain ⟨d, hd, e⟩ := List.mem_map.mp hc
  cases e
  exact h c hd
theorem lit_pre {x : List Nat} (h : ∀ c ∈ x, c < 256) : ∀ c, Tk.lit c ∈ litsT x ++ [.star] → c < 256 := fun c hc => by
  rcases List.mem_append.mp hc with hc | hc
  · exact lit_lits h c hc
  · cases List.mem_singleton.mp hc
theorem lit_suf {x : List Nat} (h : ∀ c ∈ x, c < 256) : ∀ c, Tk.lit c ∈ .star :: litsT x → c < 256 := fun c hc => by
  rcases List.mem_cons.mp hc with hc | hc
  · cases hc
  · exact lit_lits h c hc
/-- a row of letters fits exactly itself -/
theorem fits_some : ∀ (b nm : List Nat), fitsRow (b.map some) nm = decide (b = nm) := by
  intro b nm
  unfold fitsRow
  rw [Bool.eq_iff_iff, Bool.and_eq_true, decide_eq_true_eq, decide_eq_true_eq, List.all_eq_true, List.length_map]
  constructor
  · rintro ⟨h1, h2⟩
    refine List.ext_getElem? fun i => ?_
    rcases Nat.lt_or_ge i b.length with q | q
    · have z := h2 i (List.mem_range.mpr q)
      unfold badAt at z
      rw [Int.toNat_natCast, List.getElem?_map, List.getElem?_eq_getElem q, List.getElem?_eq_getElem (show i < nm.length by omega)] at z
      rw [List.getElem?_eq_getElem q, List.getElem?_eq_getElem (show i < nm.length by omega)]
      simpa using z
    · rw [List.getElem?_eq_none q, List.getElem?_eq_none (by omega)]
  · rintro rfl
    refine ⟨rfl, fun i hi => ?_⟩
    have q := List.mem_range.mp hi
    unfold badAt
    rw [Int.toNat_natCast, List.getElem?_map, List.getElem?_eq_getElem q]
    simp
theorem fits_any (n : Nat) (b nm : List Nat) : fitsRow (List.replicate n none ++ b.map some) nm = decide (nm.length = n + b.length ∧ nm.drop n = b) := by
  unfold fitsRow
  rw [Bool.eq_iff_iff, Bool.and_eq_true, decide_eq_true_eq, decide_eq_true_eq, List.all_eq_true, List.length_append, List.length_replicate, List.length_map]
  constructor
  · rintro ⟨h1, h2⟩
    refine ⟨h1, List.ext_getElem? fun i => ?_⟩
    rw [List.getElem?_drop]
    rcases Nat.lt_or_ge i b.length with q | q
    · have z := h2 (n + i) (List.mem_range.mpr (by omega))
      unfold badAt at z
      rw [Int.toNat_natCast, List.getElem?_append_right (by simp), List.length_replicate, Nat.add_sub_cancel_left, List.getElem?_map, List.getElem?_eq_getElem q, List.getElem?_eq_getElem (show n + i < nm.length by omega)] at z
      rw [List.getElem?_eq_getElem q, List.getElem?_eq_getElem (show n + i < nm.length by omega)]
      have z2 : b[i] = nm[n + i] := by simpa using z
      rw [z2]
    · rw [List.getElem?_eq_none q, List.getElem?_eq_none (by omega)]
  · rintro ⟨h1, rfl⟩
    refine ⟨h1, fun i hi => ?_⟩
    have q := List.mem_range.mp hi
    unfold badAt
    rw [Int.toNat_natCast]
    rcases Nat.lt_or_ge i n with q2 | q2
    · rw [List.getElem?_append_left (by simpa using q2), List.getElem?_replicate, if_pos q2]
      rfl
    · rw [List.getElem?_append_right (by simpa using q2), List.length_replicate, List.getElem?_map, List.getElem?_drop, show n + (i - n) = i by omega, List.getElem?_eq_getElem (show i < nm.length by omega)]
      simp
noncomputable def repF (ahead behind : List Nat) (n : Nat) : Bool :=
  if behind.length < n then decide (behind.length ≤ (told1 ahead behind n).length) && decide (behind = (told1 ahead behind n).take behind.length)
  else if ahead.length < n then decide (ahead.length ≤ (behind.take n).length) && decide (ahead = (behind.take n).drop ((behind.take n).length - ahead.length))
  else decide ((behind.take n).length ≤ ahead.length) && decide (behind.take n = ahead.drop (ahead.length - (behind.take n).length))
theorem row_pre (x : List Nat) : rowOf (litsT x ++ [.star]) = x.map some := by
  rw [rowOf_snoc, row_lits, show rowOf [Tk.star] = [] from rfl, List.append_nil]
theorem row_suf (x : List Nat) : rowOf (.star :: litsT x) = x.map some := by
  show rowOf (litsT x) = _
  exact row_lits x
theorem one_pre (x : List Nat) : OneStar (litsT x ++ [.star]) := .inr ⟨litsT x, [], rfl, plain_lits x, fun _ h => nomatch h⟩
theorem one_suf (x : List Nat) : OneStar (.star :: litsT x) := .inr ⟨[], litsT x, rfl, (fun _ h => nomatch h), plain_lits x⟩
theorem split_unique {tA tB sA sB : List Tk} (h : tA ++ Tk.star :: tB = sA ++ .star :: sB) (hA : plainT tA) (hS : plainT sA) : tA = sA := by
  induction tA generalizing sA with
  | nil =>
    cases sA with
    | nil => rfl
    | cons y sA =>
      rw [List.nil_append, List.cons_append] at h
      injection h with h1 h2
      exact absurd h1.symm (hS y (.head _))
  | cons x tA ih =>
    cases sA with
    | nil =>
      rw [List.nil_append, List.cons_append] at h
      injection h with h1 h2
      exact absurd h1 (hA x (.head _))
    | cons y sA =>
      rw [List.cons_append, List.cons_append] at h
      injection h with h1 h2
      rw [h1, ih h2 (fun t ht => hA t (.tail _ ht)) (fun t ht => hS t (.tail _ ht))]
theorem takes_pre (x nm : List Nat) : ∀ tA tB, litsT x ++ [Tk.star] = tA ++ .star :: tB → plainT tA → (decide (x.length ≤ nm.length) && decide (x = nm.take x.length)) = (decide ((rowOf (litsT x ++ [.star])).length ≤ nm.length) && fitsRow (rowOf (litsT x ++ [.star])) (nm.take (rowOf tA).length ++ nm.drop (nm.length - (rowOf (litsT x ++ [.star])).length + (rowOf tA).length))) := by
  intro tA tB h hA
  have e : litsT x = tA := split_unique h (plain_lits x) hA
  rw [← e, row_pre, row_lits, List.length_map, fits_some]
  by_cases q : x.length ≤ nm.length
  · rw [show nm.length - x.length + x.length = nm.length by omega, List.drop_length, List.append_nil]
  · rw [decide_eq_false q, Bool.false_and, Bool.false_and]
theorem takes_suf (x nm : List Nat) : ∀ tA tB, Tk.star :: litsT x = tA ++ .star :: tB → plainT tA → (decide (x.length ≤ nm.length) && decide (x = nm.drop (nm.length - x.length))) = (decide ((rowOf (.star :: litsT x)).length ≤ nm.length) && fitsRow (rowOf (.star :: litsT x)) (nm.take (rowOf tA).length ++ nm.drop (nm.length - (rowOf (.star :: litsT x)).length + (rowOf tA).length))) := by
  intro tA tB h hA
  have e : [] = tA := split_unique (tA := []) h (fun _ h => nomatch h) hA
  rw [← e, row_suf, List.length_map, fits_some, show (rowOf []).length = 0 from rfl, List.take_zero, List.nil_append, Nat.add_zero]
theorem not_plain_pre (x : List Nat) : ¬ plainT (litsT x ++ [.star]) := fun h => h .star (List.mem_append_right _ (.head _)) rfl
theorem not_plain_suf (x : List Nat) : ¬ plainT (.star :: litsT x) := fun h => h .star (.head _) rfl
theorem sadd_l {prog : Program} {w : World} {A : Around} {E : Value → Shared → Prop} {s : Shared} {Q : Value → Shared → Prop} {x y z : List Nat} {a b : Str} {t u : Tok} (ha : a = mkS x) (hb : b = mkS y) (e : x ++ y = z) (hz : z.length ≤ 100000) (h : ∀ t' tk, Q (.str (mkS z) t') { s with toks := tk }) : wpAny (model prog w) A (binaryOp .Add (.str a t) (.str b u)) Q E s := by
  subst ha hb
  exact sadd e hz h
section
variable {prog : Program} {w : World} {loose : List Str} {mean : ExcName → Option Value} {mg mb : Str → Option Value} {p : Program}
  {dp un : Nat} {gd : Option (List Code)} {cn : Str} {cs : Scope} {a : Addr} {ccd : Value} {cl : List (Str × Addr)} {outer : List Env} {A₀ : Around} {base h₀ : Heap} {L : Addr} {m : Str → Option Value} {s : Shared} {Q E : Value → Shared → Prop} {news : List (Addr × Obj)}
theorem plain_m {x : List Nat} {tx : Tok} (B : Below A₀ base outer h₀) (F : Fr h₀ L s.heap m) (X : (frag.heap_1 w.params).In h₀) (N : News h₀ L s.heap news) (T : Top p loose mean mg mb h₀) (hk : cs.kind = .function)
    (hd' : dp + 2 < recursionLimit) (hu : un + 16 < cLine) (hx : x.length ≤ 100)
    (hret : ∀ (t : Tok) (h' : Heap) (tk' : Nat), Fr h₀ L h' m → News h₀ L h' news → Q (.str (mkS (plainF x)) t) { s with heap := h', toks := tk' }) :
    wpAny (model PySem.Challenge.rw_ij0200_01.prog w) (ktrTop dp un gd cn cs L a ccd cl outer) (call (.ref 95) [.str (mkS x) tx]) Q E s :=
  plain_c B F X N T hk hd' hu hx hret
end
theorem rl_10_14 : True := by
  k_with "!cell_enter" => (refine' code_def (by k_asm) (by k_asm) (by k_asm) (by k_asm) (by k_asm) (by exact rfl) (by exact rfl) (by assumption) (by k_is) (by k_is) (by ktr_room) (by exact BindsTo.of_eq rfl) (by exact locs rfl) ?_ (by exact rfl) (by exact rfl) (by exact rfl) (by decide); k_whole; intro _ _ _ _ _ _ B' _ _; (try dsimp only); (try k_lift B'); (try k_fold))
  k_with "!call ref" => (k_here; (with_reducible show wpAny _ _ (call (Value.ref 95) _) _ _ _); k_dflt (refine' plain_m (by k_asm) (by k_asm) (by k_asm) (by k_asm) (by k_asm) (by first | exact rfl | assumption) (by ktr_room) (by ktr_units) (by first | assumption | omega) ?_; k_whole); intro _ _ _ _ _; (try dsimp only); (try k_fold))
  k_with "!subscriptTail BinOp Slice str ref" => ((with_reducible show wpAny _ _ (subscriptTail _ (Expr.Slice (some _) none none _) (Value.str (mkS _) _) _) _ _ _); (refine sslice_sn (s := ⟨_, _, _, _, _⟩) (by k_asm) (by k_asm) (by first | assumption | omega) (by assumption) ?_); intro _ _ _ _ _)
  k_with "!binaryOp Add str str" => (k_here; (with_reducible show wpAny _ _ (binaryOp Operator.Add (Value.str _ _) (Value.str _ _)) _ _ _); k_dflt (refine' sadd_l (by first | exact rfl | assumption) (by first | exact rfl | assumption) (by assumption) (by first | assumption | omega) ?_; k_whole); intro _ _)
  trivial
section
variable {prog : Program} {w : World} {loose : List Str} {mean : ExcName → Option Value} {mg mb : Str → Option Value} {p : Program}
  {dp un : Nat} {gd : Option (List Code)} {cn : Str} {cs : Scope} {a : Addr} {ccd : Value} {cl : List (Str × Addr)} {outer : List Env} {A₀ : Around} {base h₀ : Heap} {L : Addr} {m : Str → Option Value} {s : Shared} {Q E : Value → Shared → Prop} {news : List (Addr × Obj)}
theorem rep_c {ah be : List Nat} {n : Nat} {ps : Array Value} {u v t0 : Tok} (B : Below A₀ base outer h₀) (F : Fr h₀ L s.heap m) (X : (frag.heap_1 w.params).In h₀) (N : News h₀ L s.heap ((71, tabObj ps) :: news)) (T : Top p loose mean mg mb h₀) (hk : cs.kind = .function)
    (hd' : dp + 9 < recursionLimit) (hu : un + 128 < cLine) (C71 : CodeHd h₀ 75 71) (hTF : TF 76 39 ps) (h71 : ∀ p ∈ news, p.1 ≠ 71) (hla : ah.length ≤ 30) (hlb : be.length ≤ 30) (hca : ∀ c ∈ ah, c < 256) (hcb : ∀ c ∈ be, c < 256) (hn : 0 < n) (hn2 : n ≤ 30)
    (hret : ∀ (ps' : Array Value) (h' : Heap) (tk' : Nat), TF 76 39 ps' → Fr h₀ L h' m → News h₀ L h' ((71, tabObj ps') :: news) → Q (.bool (repF ah be n)) { s with heap := h', toks := tk' }) :
    wpAny (model PySem.Challenge.rw_ij0200_01.prog w) (ktrTop dp un gd cn cs L a ccd cl outer) (call (.ref 107) [.str (mkS ah) u, .str (mkS be) v, .int (n : Int) t0]) Q E s := by
  revert X; k_fill; intro X
  have hza : ah.length ≤ 100000 := by omega
  have hzb : be.length ≤ 100000 := by omega
  k_with_none
  k_with "!wpq" => (first | (with_reducible first | refine wpAny_pure ?_ | refine wpAny_bind ?_ | refine wpAny_letGo ?_ | refine wpAny_attempt ?_ | refine wpAny_throw ?_ | refine wpAny_mkInt' ?_ | refine wpAny_mkStr' ?_ | refine wpAny_of_eq (by assumption) ?_ | refine wpAny_typeOf (by assumption) ?_ | refine wpAny_specialOf_val (by assumption) (by assumption) ?_ | refine wpAny_specialOf (by assumption) (by assumption) ?_ | refine wpAny_isInstance_val (by assumption) (by assumption) ?_ | refine wpAny_isInstance (by assumption) (by assumption) ?_) | wp_delta | wp_step)
  k_with "!getMethod str" => (with_reducible refine getMethod_translate ?_)
  k_with "!call builtin:str.translate" => (k_here; k_dflt (refine' translate_K (by k_asm) (by k_asm) (by k_asm) (by exact rfl) (by assumption) ?_; k_whole); intro _ _ _ _ _; (try dsimp only))
  k_with "!call builtin:str.join" => ((with_reducible show wpAny _ _ (call (Value.builtin "str.join") [Value.str _ _, Value.ref _]) _ _ _); (with_reducible rename CarriedAll _ _ => hc'); refine join_plain (by assumption) hc' (by assumption) ?_; intro _ _)
  k_with "!KswEnd" => (k_here; refine freeze ?_)
  k_with "!eval Name" => (k_here; k_dflt (refine' nameX_L (by k_asm) (by rfl) ?_ (by rfl) (by rfl); k_whole))
  k_with "!ksw_same" => (intro z h2 h3; (have g3 := h3); (simp only [List.forall_mem_cons, List.not_mem_nil, false_implies, implies_true, and_true, ne_eq] at h2); (try simp only [List.contains_cons, List.contains_nil, Bool.or_false, Bool.or_eq_false_iff, beq_eq_false_iff_ne, ne_eq] at h3); (try simp only [kstB]); (repeat (first | rw [if_neg h2] | rw [if_neg h2.1] | rw [if_neg h2.2] | rw [if_neg h2.2.1] | rw [if_neg h2.2.2] | rw [if_neg h2.2.2.1] | rw [if_neg h2.2.2.2] | rw [if_neg h2.2.2.2.1] | rw [if_neg h2.2.2.2.2] | rw [if_neg h3] | rw [if_neg h3.1] | rw [if_neg h3.2] | rw [if_neg h3.2.1] | rw [if_neg h3.2.2] | rw [if_neg h3.2.2.1] | rw [if_neg h3.2.2.2] | rw [if_neg h3.2.2.2.1] | rw [if_neg h3.2.2.2.2] | rw [if_neg h3.2.2.2.2.1] | rw [if_neg h3.2.2.2.2.2] | rw [not_stored g3])))
  k_with "!WhlIf" => (first | (refine WhlIf.yes (decide_eq_true (by omega)) ?_) | (refine WhlIf.no (decide_eq_false (by omega)) ?_))
  k_with "!formatField str" => (k_here; (with_reducible show wpAny _ _ (formatField (Value.str _ _) _) _ _ _); refine formatField_str ?_ (by rw [mkS_len]; unfold sizeLine; omega); intro _ _)
  k_with "!kt_le" => ((simp only [len_app, mkS_len, len_E, len_h, len_t]); (unfold sizeLine); omega)
  k_with "!And" => (k_here; refine And.intro (by kt_le) ?_)
  k_with "!joinParts" => (k_here; (first | (with_reducible show wpAny _ _ (joinParts _ []) _ _ _) | (with_reducible show wpAny _ _ (joinParts _ (evalEach [] _)) _ _ _)); k_dflt (refine joinParts_nil ?_ (by kt_le)))
  k_with "!ite" => (k_here; k_openite; first | (refine ite_pos (by first | omega | (simp only [decide_eq_true_eq, beq_iff_eq, bne_iff_ne, ne_eq]; omega)) ?_) | (refine ite_neg (by first | omega | (simp only [decide_eq_true_eq, beq_iff_eq, bne_iff_ne, ne_eq]; omega)) ?_))
  k_with "!k_all" => (first | assumption | exact ne_of_lt_all (by assumption) | exact ne_of_lt_all (lt_of_allLt (by assumption)))
  k_with "!subscriptTail Name Name ref int" => (k_here; (with_reducible show wpAny _ _ (subscriptTail _ _ (Value.ref _) (Value.int _ _)) _ _ _); k_dflt (refine' item_led (by k_asm) (by k_mem) (by omega) (by omega) (by assumption) ?_; k_whole))
  k_with "!getAttr ref" => (k_here; (with_reducible show wpAny _ _ (getAttr (Value.ref _) (PySem.Str.ofString "append") _) _ _ _); k_dflt (refine' getAttr_append_K (by k_asm) (by k_asm) (by k_mem) ?_; k_whole); intro _ _ _ _ l1; (try k_lt l1); (try (revert l1; intro _)); (try k_sweep))
  k_with "!callWith ref" => (k_here; k_dflt (refine' callWith_app (by k_asm) (by k_mem) ?_; k_whole))
  k_with "!StandsB" => (k_dflt (exact (News.get (by k_asm) (by k_mem))))
  k_with "!call ref" => (k_here; k_dflt (refine' call_app (by k_asm) (by k_asm) (by k_mem) (by k_upd) ?_ (by first | assumption | size_fits); k_whole); intro _ _ _; (try k_sweep))
  k_with "!call builtin:len" => (k_here; k_dflt (refine' len_led (by k_asm) (by k_mem) (by first | omega | assumption) ?_; k_whole); intro _ _)
  k_with "!compareOp IsNot str ref" => (k_here; refine isNot_str_ref ?_)
  k_with "!compareOp Is str ref" => (k_here; refine is_str_ref ?_)
  k_with "!subscriptTail Name Slice str ref" => ((with_reducible show wpAny _ _ (subscriptTail _ (Expr.Slice (some _) (some _) none _) (Value.str (mkS _) _) _) _ _ _); (refine sslice_ss (s := ⟨_, _, _, _, _⟩) (by k_asm) (by k_asm) (by first | assumption | omega) (by assumption) ?_); intro _ _ _ _ _)
  k_with "!eval Lambda" => (k_here; kn_here; k_dflt (refine' lam_TF (lc := (76, 39)) (by k_asm) (by k_asm) (by k_asm) (by kn_code) (by exact rfl) (by k_updF) (by assumption) (by exact ⟨rfl, rfl⟩) (by exact rfl) (by exact rfl) ?_; k_whole); intro _ _ _ _ _ _ N'; (try dsimp only at N'); revert N'; intro _ _ _ l1; (try k_lt l1); (try (revert l1; intro _)))
  k_with "!truthy ref" => (k_here; (with_reducible show wpAny _ _ (truthy (Value.ref _)) _ _ _); k_dflt (refine' truthy_full (by k_asm) (by k_mem) (by assumption) (by first | omega | assumption) ?_; k_whole); intro _)
  k_with "!subscriptTail Name UnaryOp ref int" => (k_here; k_dflt (refine' item_last (by k_asm) (by k_mem) (by assumption) (by omega) (by assumption) ?_; k_whole))
  k_with "!call builtin:str.replace" => (k_here; refine replace_none (by decide +kernel) ?_)
  k_with "!ite" => (k_here; first | (refine ite_pos (by decide +kernel) ?_) | (refine ite_neg (by decide +kernel) ?_))
  k_with "!getMethod ref" => (k_here; (with_reducible show wpAny _ _ (getMethod (Value.ref 50) _ _) _ _ _); k_dflt (refine' getMethod_sub (by k_asm) (by k_asm) ?_; k_whole))
  k_with "!call builtin:re.Pattern.sub" => (k_here; k_dflt (refine' sub_N (by k_asm) (by k_asm) (by k_asm) (by k_mem) (by first | assumption | exact rfl) (by decide) ?_; k_whole); intro _ _ _ _ _; (try k_sweep))
  k_with "!call ref" => (k_here; (with_reducible show wpAny _ _ (call (Value.ref 69) _) _ _ _); k_dflt (refine' escape_c (by k_asm) (by k_asm) (by k_asm) (by k_asm) (by k_asm) (by first | exact rfl | assumption) (by ktr_room) (by ktr_units) (by assumption) ?_; k_whole); intro _ _ _ _ _; (try dsimp only); (try k_fold))
  k_with "!call builtin:len" => (k_here; (with_reducible show wpAny _ _ (call (Value.builtin "len") [Value.str (mkS _) _]) _ _ _); k_dflt (refine' slen (by first | omega | assumption) ?_; k_whole); intro _ _)
  k_with "!subscriptTail Name Name str int" => (k_here; (with_reducible show wpAny _ _ (subscriptTail _ _ (Value.str (mkS _) _) (Value.int _ _)) _ _ _); k_dflt (refine' sitem (by omega) (by first | omega | assumption) (by assumption) ?_; k_whole); intro _ _)
  k_with "!call type:object" => (k_here; k_dflt (refine' call_object_K (by k_asm) (by k_asm) ?_; k_whole); intro _ _ _ _ l1; (try k_lt l1); (try (revert l1; intro _)))
  k_with "!subscriptTail Name Slice str ref" => ((with_reducible show wpAny _ _ (subscriptTail _ (Expr.Slice none (some _) none _) (Value.str (mkS _) _) _) _ _ _); (refine sslice_ns (s := ⟨_, _, _, _, _⟩) (by k_asm) (by k_asm) (by first | assumption | omega) (by assumption) ?_); intro _ _ _ _ _)
  k_with "!subscriptTail Name Slice str ref" => ((with_reducible show wpAny _ _ (subscriptTail _ (Expr.Slice (some _) none none _) (Value.str (mkS _) _) _) _ _ _); (refine sslice_sn (s := ⟨_, _, _, _, _⟩) (by k_asm) (by k_asm) (by first | assumption | omega) (by assumption) ?_); intro _ _ _ _ _)
  k_with "!subscriptTail Name BinOp str int" => (k_here; (with_reducible show wpAny _ _ (subscriptTail _ _ (Value.str (mkS _) _) (Value.int _ _)) _ _ _); k_dflt (refine' sitem (by omega) (by first | omega | assumption) (by assumption) ?_; k_whole); intro _ _)
  k_with "!binaryOp Add str str" => (k_here; (with_reducible show wpAny _ _ (binaryOp Operator.Add (Value.str (mkS _) _) (Value.str (mkS _) _)) _ _ _); k_dflt (refine' sadd (by first | assumption | exact rfl) (by omega) ?_; k_whole); intro _ _)
  k_with "!CompSrcT" => (k_here; refine freeze ?_)
  k_with "!cell_enter" => (refine' code_defC (by k_asm) (by k_asm) (by k_asm) (by k_asm) (by k_asm) (by exact rfl) (by exact rfl) (by assumption) (by k_is) (by k_is) (by ktr_room) (by exact BindsTo.of_eq rfl) (by exact rfl) (by decide +kernel) ?_ (by exact rfl) (by exact rfl) (by exact rfl); k_whole; intro _ _ _ _ _ _ _ N' Y' B' _ _ l1; (try k_lt l1); (try (revert l1; intro _)); k_cells Y'; (try simp only [List.cons_append, List.nil_append] at N'); (try dsimp only); (try k_lift B'); (try k_fold))
  k_with "!cell_enter" => (refine' code_def (by k_asm) (by k_asm) (by k_asm) (by k_asm) (by k_asm) (by exact rfl) (by exact rfl) (by assumption) (by k_is) (by k_is) (by ktr_room) (by exact BindsTo.of_eq rfl) (by exact locs rfl) ?_ (by exact rfl) (by exact rfl) (by exact rfl) (by decide); k_whole; intro _ _ _ _ _ _ B' _ _; (try dsimp only); (try k_lift B'); (try k_fold))
  k_with "!call ref" => (k_here; (with_reducible show wpAny _ _ (call (Value.ref 95) _) _ _ _); k_dflt (refine' plain_m (by k_asm) (by k_asm) (by k_asm) (by k_asm) (by k_asm) (by first | exact rfl | assumption) (by ktr_room) (by ktr_units) (by first | assumption | omega) ?_; k_whole); intro _ _ _ _ _; (try dsimp only); (try k_fold))
  k_with "!subscriptTail BinOp Slice str ref" => ((with_reducible show wpAny _ _ (subscriptTail _ (Expr.Slice (some _) none none _) (Value.str (mkS _) _) _) _ _ _); (refine sslice_sn (s := ⟨_, _, _, _, _⟩) (by k_asm) (by k_asm) (by first | assumption | omega) (by assumption) ?_); intro _ _ _ _ _)
  k_with "!binaryOp Add str str" => (k_here; (with_reducible show wpAny _ _ (binaryOp Operator.Add (Value.str _ _) (Value.str _ _)) _ _ _); k_dflt (refine' sadd_l (by first | exact rfl | assumption) (by first | exact rfl | assumption) (by assumption) (by first | assumption | omega) ?_; k_whole); intro _ _)
  k_with "call ref" => (k_here; refine freeze ?_)
  refine wpAny_call ?_
  k_dflt cell_enter
  have C71' := C71.keeps (Fr.keep ‹Fr h₀ L _ m›)
  have hstr : Str.ofString "*" = mkS [42] := by decide +kernel
  by_cases h1 : be.length < n
  · have hs1 : Txt.slice (mkS be) none (some (if (n : Int) - (ah.length : Int) > 0 then (n : Int) - (ah.length : Int) else 0)) = mkS (be.take (n - ah.length)) := by
      rw [show (if (n : Int) - (ah.length : Int) > 0 then (n : Int) - (ah.length : Int) else 0) = ((n - ah.length : Nat) : Int) by split <;> omega, slice_take]
    obtain ⟨Y, hY⟩ : ∃ Y, be.take (n - ah.length) ++ ah = Y := ⟨_, rfl⟩
    have hYl : Y.length ≤ 100 := by rw [← hY, List.length_append, List.length_take]; omega
    have hs2 : Txt.slice (mkS Y) (some (-(n : Int))) none = mkS (told1 ah be n) := by
      rw [slice_last hn]
      unfold told1
      rw [hY]
    have hpre := pre_eq be
    have hpl : (plainF be ++ [42]).length ≤ 100000 := by
      rw [hpre]
      refine Nat.le_trans (pats_len _) ?_
      unfold litsT
      rw [List.length_append, List.length_map]
      show 3 * (be.length + 1) ≤ _
      omega
    rw [hpre] at hpl
    k_steps
    have eR : repF ah be n = (decide (be.length ≤ (told1 ah be n).length) && decide (be = (told1 ah be n).take be.length)) := by unfold repF; rw [if_pos h1]
    refine thaw ?_
    rename News _ _ _ _ => N9
    refine takes_c (news := news) (ps := ps) (by assumption) (by assumption) (by assumption) N9 (by assumption) rfl (by ktr_room) (by ktr_units) C71' hTF h71 (by simp [litsT]; omega) (lit_pre hcb) (one_pre be) (by unfold told1; rw [hY, List.length_drop]; omega) _ (fun h => absurd h (not_plain_pre be)) (takes_pre be (told1 ah be n)) ?_
    intro ps2 h2' tk2' TF2 F2 N2
    k_steps
    rename Fr _ _ _ m => FZ
    rename News _ _ _ _ => NZ
    rw [← eR]
    exact hret ps2 _ _ TF2 FZ NZ
  · have hs3 : Txt.slice (mkS be) none (some (n : Int)) = mkS (be.take n) := slice_take
    have htn : (be.take n).length ≤ 100 := by rw [List.length_take]; omega
    have htn2 : (be.take n).length = n := by rw [List.length_take]; omega
    by_cases h2 : ah.length < n
    · have hsuf := suf_eq ah
      have hpl : (pats (.star :: litsT ah)).length ≤ 100000 := by
        refine Nat.le_trans (pats_len _) ?_
        unfold litsT
        rw [List.length_cons, List.length_map]
        omega
      k_steps
      have eR : repF ah be n = (decide (ah.length ≤ (be.take n).length) && decide (ah = (be.take n).drop ((be.take n).length - ah.length))) := by unfold repF; rw [if_neg h1, if_pos h2]
      refine thaw ?_
      rename News _ _ _ _ => N9
      refine takes_c (news := news) (ps := ps) (by assumption) (by assumption) (by assumption) N9 (by assumption) rfl (by ktr_room) (by ktr_units) C71' hTF h71 (by simp [litsT]; omega) (lit_suf hca) (one_suf ah) htn _ (fun h => absurd h (not_plain_suf ah)) (takes_suf ah (be.take n)) ?_
      intro ps2 h2' tk2' TF2 F2 N2
      k_steps
      rename Fr _ _ _ m => FZ
      rename News _ _ _ _ => NZ
      rw [← eR]
      exact hret ps2 _ _ TF2 FZ NZ
    · have hsuf := suf_eq (be.take n)
      have hpl : (pats (.star :: litsT (be.take n))).length ≤ 100000 := by
        refine Nat.le_trans (pats_len _) ?_
        unfold litsT
        rw [List.length_cons, List.length_map]
        omega
      k_steps
      have eR : repF ah be n = (decide ((be.take n).length ≤ ah.length) && decide (be.take n = ah.drop (ah.length - (be.take n).length))) := by unfold repF; rw [if_neg h1, if_neg h2]
      refine thaw ?_
      rename News _ _ _ _ => N9
      refine takes_c (news := news) (ps := ps) (by assumption) (by assumption) (by assumption) N9 (by assumption) rfl (by ktr_room) (by ktr_units) C71' hTF h71 (by simp [litsT]; omega) (lit_suf (fun c hc => hcb c (List.mem_of_mem_take hc))) (one_suf (be.take n)) (by omega) _ (fun h => absurd h (not_plain_suf (be.take n))) (takes_suf (be.take n) ah) ?_
      intro ps2 h2' tk2' TF2 F2 N2
      k_steps
      rename Fr _ _ _ m => FZ
      rename News _ _ _ _ => NZ
      rw [← eR]
      exact hret ps2 _ _ TF2 FZ NZ
end

/-! streams -/
theorem ne_cons {x : Addr × Obj} {r : List (Addr × Obj)} {d : Addr} (h : x.1 ≠ d) (k : ∀ p ∈ r, p.1 ≠ d) : ∀ p ∈ x :: r, p.1 ≠ d := fun p hp => by
  rcases List.mem_cons.mp hp with rfl | hp
  · exact h
  · exact k p hp
theorem ne_lt2 {news : List (Addr × Obj)} {c d : Addr} (h : ∀ p ∈ news, p.1 < c) (k : c < d) : ∀ p ∈ news, p.1 ≠ d := fun p hp => Nat.ne_of_lt (Nat.lt_trans (h p hp) k)
/-- the table of the stream's nested code: empty, or with its two codes; the first one's object on the ledger -/
noncomputable def T2 (q : Str) (ps : Array Value) (cx : List (Addr × Obj)) : Prop :=
  (ps = #[] ∧ cx = []) ∨ ∃ a1 a2 oc vs t, ps = #[rawInt 123, rawInt 4, .ref a1, rawInt 126, rawInt 13, .ref a2] ∧ cx = [(a1, oc)] ∧ oc.data = .fields vs ∧ vs[1]? = some (.str q t) ∧ 85 < a1
noncomputable def T1 (a1 : Addr) (ps : Array Value) : Prop := ps = #[rawInt 123, rawInt 4, .ref a1] ∨ ∃ a2, ps = #[rawInt 123, rawInt 4, .ref a1, rawInt 126, rawInt 13, .ref a2]
section
variable {M : Model} {A : Around} {E : Value → Shared → Prop} {s : Shared} {Q : Value → Shared → Prop} {h₀ : Heap} {L a : Addr} {m mg mb : Str → Option Value} {cn : Str} {cs : Scope} {ccd : Value} {cl : List (Str × Addr)} {news : List (Addr × Obj)} {g : Obj → List (Addr × Obj)}
  {p : Program} {loose : List Str} {mean : ExcName → Option Value} {params : Arguments} {scope : Scope} {ps : Array Value} {pos : Pos}
theorem nest_TF {name qual q : Str} {body : List Stmt} {firstLine : Nat} {clos : List (Str × Addr)} {cx : List (Addr × Obj)}
    (F : Fr h₀ L s.heap m) (N : News h₀ L s.heap news) (T : Top p loose mean mg mb h₀) (C : CodeHd h₀ 89 85) (hcd : ccd = .ref 89) (U : UpdF 85 (tabObj ps) news g) (hcx : ∀ x ∈ cx, x ∈ news) (ht : T2 q ps cx)
    (hpos : pos.line = 123 ∧ pos.col = 4) (hq : qual = q) (hcl : closureFor scope (envX cn cs L a ccd cl) = pure clos)
    (h : ∀ f c' oc vs t ctv doc ps' h' tk, Fr h₀ L h' m → News h₀ L h' ((f, fnMade name qual params body scope clos doc ((mg "__name__").getD .none) c' ctv) :: (c', oc) :: g (tabObj ps')) → T1 c' ps' →
      oc.data = .fields vs → vs[1]? = some (.str qual t) → @LT.lt Nat _ 85 c' → ((∀ x ∈ news, x.1 < c') ∨ (c', oc) ∈ cx) → @LT.lt Nat _ c' f → (∀ x ∈ news, x.1 < f) → Q (.ref f) { s with heap := h', toks := tk }) :
    wpAny M A (makeFunction name qual params (.stmts body) scope (envX cn cs L a ccd cl) [] [] [] pos firstLine) Q E s := by
  obtain ⟨e1, e2⟩ := hpos
  subst hq
  have hmem : (85, tabObj ps) ∈ news := by
    obtain ⟨own, rest, hn, hgr, h1, h2⟩ := U.split
    rw [hn]
    exact List.mem_append_right _ (.head _)
  rcases ht with ⟨rfl, rfl⟩ | ⟨a1, a2, oc, vs, t, rfl, rfl, hd1, hd2, h85⟩
  · refine nest_K F N T C hcd U trivial rfl hcl fun f c' oc vs t ctv doc h' tk F' N' hd1 hd2 hl hl2 => ?_
    rw [e1, e2] at N'
    exact h f c' oc vs t ctv doc _ h' tk F' N' (.inl rfl) hd1 hd2 (hl _ hmem) (.inl hl) hl2 fun x hx => Nat.lt_trans (hl x hx) hl2
  · refine nestHit_K (c' := a1) F N T C hcd hmem (by simp [TriplesOk, rawInt]) ?_ hcl fun f ctv doc h' tk F' N' hl => ?_
    · show (if (((123 : Nat) : Int) == ((pos.line : Nat) : Int) && ((4 : Nat) : Int) == ((pos.col : Nat) : Int)) = true then some (Value.ref a1) else _) = some (Value.ref a1)
      rw [e1, e2]
      simp
    · have hmc : (a1, oc) ∈ news := hcx _ (.head _)
      refine h f a1 oc vs t ctv doc _ h' tk F' (fun x hx => ?_) (.inr ⟨a2, rfl⟩) hd1 hd2 h85 (.inr (.head _)) (hl _ hmc) hl
      obtain ⟨own, rest, hn, hgr, h1, h2⟩ := U.split
      rcases List.mem_cons.mp hx with rfl | hx
      · exact N' _ (.head _)
      · rcases List.mem_cons.mp hx with rfl | hx
        · exact N' _ (.tail _ hmc)
        · rw [hgr, ← hn] at hx
          exact N' _ (.tail _ hx)
theorem lam_T1 {body : PySem.Expr} {a1 : Addr} (F : Fr h₀ L s.heap m) (N : News h₀ L s.heap news) (T : Top p loose mean mg mb h₀) (C : CodeHd h₀ 89 85) (hcd : ccd = .ref 89) (U : UpdF 85 (tabObj ps) news g) (ht : T1 a1 ps)
    (hpos : pos.line = 126 ∧ pos.col = 13) (hdef : defaultsOf params (envX cn cs L a ccd cl) = ([], [])) (hcl : closureFor scope (envX cn cs L a ccd cl) = pure [])
    (h : ∀ f fd ps' a2 h' tk, Fr h₀ L h' m → News h₀ L h' ((f, { cls := .type "function", data := .func fd }) :: g (tabObj ps')) → ps' = #[rawInt 123, rawInt 4, .ref a1, rawInt 126, rawInt 13, .ref a2] → (∀ q ∈ news, q.1 < f) → Q (.ref f) { s with heap := h', toks := tk }) :
    wpAny M A (eval (.Lambda params body scope pos) (envX cn cs L a ccd cl)) Q E s := by
  obtain ⟨e1, e2⟩ := hpos
  refine kla_eval hdef ?_
  obtain ⟨own, rest, hn, hgr, h1, h2⟩ := U.split
  rcases ht with rfl | ⟨a2, rfl⟩
  · refine kla_nest F N T C hcd U (by simp [TriplesOk, rawInt]) ?_ hcl fun f c' oc vs t ctv h' tk F' N' _ _ hl hl2 => ?_
    · show (if (((123 : Nat) : Int) == ((pos.line : Nat) : Int) && ((4 : Nat) : Int) == ((pos.col : Nat) : Int)) = true then some (Value.ref a1) else none) = none
      rw [e1, e2]
      rfl
    · refine h f (kla_fn "<lambda>" ((envX cn cs L a ccd cl).qual ++ Str.ofString "<lambda>") params body scope [] ((mg "__name__").getD .none) (.ref c') ctv) _ c' h' tk F' (fun q hq => ?_) rfl (fun q hq => Nat.lt_trans (hl q hq) hl2)
      rcases List.mem_cons.mp hq with rfl | hq
      · exact N' _ (.head _)
      · refine N' q (.tail _ (.tail _ ?_))
        rw [e1, e2]
        exact hq
  · refine kla_hit (c' := a2) F N T C hcd (by rw [hn]; exact List.mem_append_right _ (.head _)) (by simp [TriplesOk, rawInt]) ?_ hcl fun f ctv h' tk F' N' hl => ?_
    · show (if (((123 : Nat) : Int) == ((pos.line : Nat) : Int) && ((4 : Nat) : Int) == ((pos.col : Nat) : Int)) = true then some (Value.ref a1) else if (((126 : Nat) : Int) == ((pos.line : Nat) : Int) && ((13 : Nat) : Int) == ((pos.col : Nat) : Int)) = true then some (Value.ref a2) else none) = some (Value.ref a2)
      rw [e1, e2]
      rfl
    · refine h f (kla_fn "<lambda>" ((envX cn cs L a ccd cl).qual ++ Str.ofString "<lambda>") params body scope [] ((mg "__name__").getD .none) (.ref a2) ctv) _ a2 h' tk F' ?_ rfl hl
      rw [hgr, ← hn]
      exact N'
end
theorem rl_11_15 : True := by
  k_with "!k_all" => (first | assumption | (refine ne_cons (by k_ne) ?_; k_all) | exact ne_lt2 (by assumption) (by omega))
  k_with "!setAttr ref" => (k_here; (with_reducible show wpAny _ _ (setAttr (Value.ref _) _ _) _ _ _); k_dflt (refine' setAttr_fn_K (by k_asm) (by k_asm) (by k_updF) ?_; k_whole); intro _ _ _ _ _ _ _ N'; (try dsimp only at N'); revert N'; intro _ _ _ _ l1; (try k_lt l1); (try (revert l1; intro _)))
  k_with "!cell_enter" => (refine' code_defC (by k_asm) (by k_asm) (by k_asm) (by k_asm) (by k_asm) (by exact rfl) (by exact rfl) (by assumption) (by k_is) (by k_is) (by ktr_room) (by exact BindsTo.of_eq rfl) (by exact rfl) (by decide +kernel) ?_ (by exact rfl) (by exact rfl) (by exact rfl); k_whole; intro _ _ _ _ _ _ _ N' Y' B' _ _ l1; (try k_lt l1); (try (revert l1; intro _)); k_cells Y'; (try simp only [List.cons_append, List.nil_append] at N'); (try dsimp only); (try k_lift B'); (try k_fold))
  k_with "!exec FunctionDef" => (k_here; kn_here; k_dflt (refine' nestDef_K (by exact rfl) (by exact rfl) (by exact rfl) ?_); k_dflt (refine' nest_TF (by k_asm) (by k_asm) (by k_asm) (by kn_code) (by exact rfl) (by k_updF) (by (intro x9 hx9; repeat (first | exact hcx x9 hx9 | refine List.Mem.tail _ ?_))) (by assumption) (by exact ⟨rfl, rfl⟩) (by exact rfl) (by exact rfl) ?_; k_whole); intro _ _ _ _ _ _ _ _ _ _ _ N'; (try dsimp only at N'); revert N'; intro _ _ _ _ _ _ _ l1; (try k_lt l1); (try (revert l1; intro _)))
  k_with "!eval Lambda" => (k_here; kn_here; k_dflt (refine' lam_T1 (by k_asm) (by k_asm) (by k_asm) (by kn_code) (by exact rfl) (by k_updF) (by assumption) (by exact ⟨rfl, rfl⟩) (by exact rfl) (by exact rfl) ?_; k_whole); intro _ _ _ _ _ _ _ N'; (try dsimp only at N'); revert N'; intro _ _ l1; (try k_lt l1); (try (revert l1; intro _)))
  trivial
theorem item0_led {prog : Program} {w : World} {A : Around} {E : Value → Shared → Prop} {s : Shared} {h₀ : Heap} {L l : Addr} {news : List (Addr × Obj)} {n : Nat} {Q : Value → Shared → Prop} {value slice : PySem.Expr} {u : Tok} {v : Value} (N : News h₀ L s.heap news) (hm : (l, listOf #[v] n) ∈ news) (h : Q v s)
    (hs : subscripted slice false (.ref l) (.int 0 u) = operate [.ref l, .int 0 u] (getItem (.ref l) (.int 0 u)) := by with_unfolding_all rfl) :
    wpAny (model prog w) A (subscriptTail value slice (.ref l) (.int 0 u)) Q E s := item_led N hm (by decide) (by decide) rfl h hs
theorem getItem0_led {prog : Program} {w : World} {A : Around} {E : Value → Shared → Prop} {s : Shared} {h₀ : Heap} {L l : Addr} {news : List (Addr × Obj)} {n : Nat} {Q : Value → Shared → Prop} {u : Tok} {v : Value} (N : News h₀ L s.heap news) (hm : (l, listOf #[v] n) ∈ news) (h : Q v s) :
    wpAny (model prog w) A (getItem (.ref l) (.int 0 u)) Q E s := wpAny_getItem_list (list_led N hm) (by decide) (by decide) rfl h
/-! what a made stream does -/
noncomputable def MethSpec (f r : Addr) (ext : List (Addr × Obj)) : Prop := ∀ {prog : Program} {w : World} {A : Around} {E : Value → Shared → Prop} {s : Shared} {h₀ : Heap} {L : Addr} {news : List (Addr × Obj)} {pl : Sem Bool} {Q : Value × List Value → Shared → Prop},
  News h₀ L s.heap news → (∀ x ∈ ext, x ∈ news) → (∀ tk, Q (.ref r, []) { s with toks := tk }) → wpAny (model prog w) A (getMethod (.ref f) "read" pl) Q E s
noncomputable def ReadSpec (w : World) (r la oc : Addr) (ext : List (Addr × Obj)) : Prop := ∀ {loose : List Str} {mean : ExcName → Option Value} {mg mb : Str → Option Value} {p : Program}
  {dp un : Nat} {gd : Option (List Code)} {cn : Str} {cs : Scope} {a : Addr} {ccd : Value} {cl : List (Str × Addr)} {outer : List Env} {A₀ : Around} {base h₀ : Heap} {L : Addr} {m : Str → Option Value} {s : Shared} {Q E : Value → Shared → Prop} {news : List (Addr × Obj)}
  {k n size nV : Nat} {tk tz : Tok} {V : List Value} {ns : List Nat},
  Below A₀ base outer h₀ → Fr h₀ L s.heap m → (frag.heap_1 w.params).In h₀ → News h₀ L s.heap ((la, listOf #[.int (k : Int) tk] n) :: news) → (∀ x ∈ ext, x ∈ news) → (∀ x ∈ news, x.1 ≠ la) → Top p loose mean mg mb h₀ → cs.kind = .function →
  dp + 2 < recursionLimit → un + 16 < cLine → (oc, listOf V.toArray nV) ∈ news → IntsAre V (ns.map fun c : Nat => (c : Int)) → (∀ c ∈ ns, c < 256) → k + size ≤ ns.length → ns.length ≤ 100 →
  (∀ t tk2 tk3 h', Fr h₀ L h' m → News h₀ L h' ((la, listOf #[.int ((k + size : Nat) : Int) tk2] n) :: news) → Q (.bytes (bys ((ns.drop k).take size)) t) { s with heap := h', toks := tk3 }) →
  wpAny (model PySem.Challenge.rw_ij0200_01.prog w) (ktrTop dp un gd cn cs L a ccd cl outer) (call (.ref r) [.int (size : Int) tz]) Q E s
noncomputable def StreamOn (w : World) (f la oc : Addr) (ext : List (Addr × Obj)) : Prop := ∃ r, MethSpec f r ext ∧ (∀ {h₀ h : Heap} {L : Addr} {news : List (Addr × Obj)}, News h₀ L h news → (∀ x ∈ ext, x ∈ news) → FnAt r h) ∧ ReadSpec w r la oc ext
theorem StreamOn.of {w : World} {f la oc r : Addr} {orr : Obj} {ext : List (Addr × Obj)} (_ : (r, orr) ∈ ext) (h1 : MethSpec f r ext) (h2 : ∀ {h₀ h : Heap} {L : Addr} {news : List (Addr × Obj)}, News h₀ L h news → (∀ x ∈ ext, x ∈ news) → FnAt r h) (h3 : ReadSpec w r la oc ext) : StreamOn w f la oc ext := ⟨r, h1, h2, h3⟩
theorem perm8 {h₀ h : Heap} {L : Addr} {x1 x2 x3 x4 xl x5 x6 x7 : Addr × Obj} {news : List (Addr × Obj)} (N : News h₀ L h (x1 :: x2 :: x3 :: x4 :: xl :: x5 :: x6 :: x7 :: news)) : News h₀ L h (xl :: ([x1, x2, x3, x4, x5, x6] ++ x7 :: news)) := fun p hp => by
  refine N p ?_
  simp only [List.mem_cons, List.mem_append, List.not_mem_nil, or_false] at hp ⊢
  rcases hp with h | (h | h | h | h | h | h) | h | h <;> simp [h]
theorem rl_11_16 : True := by
  k_with "!subscriptTail Name Constant ref int" => (k_here; (with_reducible show wpAny _ _ (subscriptTail _ _ (Value.ref _) (Value.int 0 _)) _ _ _); k_dflt (refine' item0_led (by k_asm) (by k_mem) ?_; k_whole))
  k_with "!getItem ref int" => (k_here; (with_reducible show wpAny _ _ (getItem (Value.ref _) (Value.int 0 _)) _ _ _); k_dflt (refine' getItem0_led (by k_asm) (by k_mem) ?_; k_whole))
  trivial
section
variable {prog : Program} {w : World} {loose : List Str} {mean : ExcName → Option Value} {mg mb : Str → Option Value} {p : Program}
  {dp un : Nat} {gd : Option (List Code)} {cn : Str} {cs : Scope} {a : Addr} {ccd : Value} {cl : List (Str × Addr)} {outer : List Env} {A₀ : Around} {base h₀ : Heap} {L : Addr} {m : Str → Option Value} {s : Shared} {Q E : Value → Shared → Prop} {news : List (Addr × Obj)}
theorem stream_c {oc : Addr} {V : List Value} {k : Nat} {ps : Array Value} {cx : List (Addr × Obj)} (B : Below A₀ base outer h₀) (F : Fr h₀ L s.heap m) (X : (frag.heap_1 w.params).In h₀) (N : News h₀ L s.heap ((85, tabObj ps) :: news)) (T : Top p loose mean mg mb h₀) (hk : cs.kind = .function)
    (hd' : dp + 9 < recursionLimit) (hu : un + 128 < cLine) (C85 : CodeHd h₀ 89 85) (hT2 : T2 (Str.ofString "_law_stream.<locals>._law_read") ps cx) (hcx : ∀ x ∈ cx, x ∈ news) (h85 : ∀ p ∈ news, p.1 ≠ 85) (hm : (oc, listOf V.toArray k) ∈ news)
    (hret : ∀ f la t0 n0 ext ps' cx' h' tk', T2 (Str.ofString "_law_stream.<locals>._law_read") ps' cx' → (∀ x ∈ cx', x ∈ ext) → (∀ x ∈ ext, (∀ y ∈ news, y.1 < x.1) ∨ x ∈ cx) → Fr h₀ L h' m → News h₀ L h' ((la, listOf #[.int ((0 : Nat) : Int) t0] n0) :: (ext ++ (85, tabObj ps') :: news)) →
      (∀ x ∈ ext ++ (85, tabObj ps') :: news, x.1 ≠ la) → StreamOn w f la oc ext → Q (.ref f) { s with heap := h', toks := tk' }) :
    wpAny (model PySem.Challenge.rw_ij0200_01.prog w) (ktrTop dp un gd cn cs L a ccd cl outer) (call (.ref 90) [.ref oc]) Q E s := by
  revert X; k_fill; intro X
  k_with_none
  k_with "!wpq" => (first | (with_reducible first | refine wpAny_pure ?_ | refine wpAny_bind ?_ | refine wpAny_letGo ?_ | refine wpAny_attempt ?_ | refine wpAny_throw ?_ | refine wpAny_mkInt' ?_ | refine wpAny_mkStr' ?_ | refine wpAny_of_eq (by assumption) ?_ | refine wpAny_typeOf (by assumption) ?_ | refine wpAny_specialOf_val (by assumption) (by assumption) ?_ | refine wpAny_specialOf (by assumption) (by assumption) ?_ | refine wpAny_isInstance_val (by assumption) (by assumption) ?_ | refine wpAny_isInstance (by assumption) (by assumption) ?_) | wp_delta | wp_step)
  k_with "!getMethod str" => (with_reducible refine getMethod_translate ?_)
  k_with "!call builtin:str.translate" => (k_here; k_dflt (refine' translate_K (by k_asm) (by k_asm) (by k_asm) (by exact rfl) (by assumption) ?_; k_whole); intro _ _ _ _ _; (try dsimp only))
  k_with "!call builtin:str.join" => ((with_reducible show wpAny _ _ (call (Value.builtin "str.join") [Value.str _ _, Value.ref _]) _ _ _); (with_reducible rename CarriedAll _ _ => hc'); refine join_plain (by assumption) hc' (by assumption) ?_; intro _ _)
  k_with "!KswEnd" => (k_here; refine freeze ?_)
  k_with "!eval Name" => (k_here; k_dflt (refine' nameX_L (by k_asm) (by rfl) ?_ (by rfl) (by rfl); k_whole))
  k_with "!ksw_same" => (intro z h2 h3; (have g3 := h3); (simp only [List.forall_mem_cons, List.not_mem_nil, false_implies, implies_true, and_true, ne_eq] at h2); (try simp only [List.contains_cons, List.contains_nil, Bool.or_false, Bool.or_eq_false_iff, beq_eq_false_iff_ne, ne_eq] at h3); (try simp only [kstB]); (repeat (first | rw [if_neg h2] | rw [if_neg h2.1] | rw [if_neg h2.2] | rw [if_neg h2.2.1] | rw [if_neg h2.2.2] | rw [if_neg h2.2.2.1] | rw [if_neg h2.2.2.2] | rw [if_neg h2.2.2.2.1] | rw [if_neg h2.2.2.2.2] | rw [if_neg h3] | rw [if_neg h3.1] | rw [if_neg h3.2] | rw [if_neg h3.2.1] | rw [if_neg h3.2.2] | rw [if_neg h3.2.2.1] | rw [if_neg h3.2.2.2] | rw [if_neg h3.2.2.2.1] | rw [if_neg h3.2.2.2.2] | rw [if_neg h3.2.2.2.2.1] | rw [if_neg h3.2.2.2.2.2] | rw [not_stored g3])))
  k_with "!WhlIf" => (first | (refine WhlIf.yes (decide_eq_true (by omega)) ?_) | (refine WhlIf.no (decide_eq_false (by omega)) ?_))
  k_with "!formatField str" => (k_here; (with_reducible show wpAny _ _ (formatField (Value.str _ _) _) _ _ _); refine formatField_str ?_ (by rw [mkS_len]; unfold sizeLine; omega); intro _ _)
  k_with "!kt_le" => ((simp only [len_app, mkS_len, len_E, len_h, len_t]); (unfold sizeLine); omega)
  k_with "!And" => (k_here; refine And.intro (by kt_le) ?_)
  k_with "!joinParts" => (k_here; (first | (with_reducible show wpAny _ _ (joinParts _ []) _ _ _) | (with_reducible show wpAny _ _ (joinParts _ (evalEach [] _)) _ _ _)); k_dflt (refine joinParts_nil ?_ (by kt_le)))
  k_with "!ite" => (k_here; k_openite; first | (refine ite_pos (by first | omega | (simp only [decide_eq_true_eq, beq_iff_eq, bne_iff_ne, ne_eq]; omega)) ?_) | (refine ite_neg (by first | omega | (simp only [decide_eq_true_eq, beq_iff_eq, bne_iff_ne, ne_eq]; omega)) ?_))
  k_with "!k_all" => (first | assumption | exact ne_of_lt_all (by assumption) | exact ne_of_lt_all (lt_of_allLt (by assumption)))
  k_with "!subscriptTail Name Name ref int" => (k_here; (with_reducible show wpAny _ _ (subscriptTail _ _ (Value.ref _) (Value.int _ _)) _ _ _); k_dflt (refine' item_led (by k_asm) (by k_mem) (by omega) (by omega) (by assumption) ?_; k_whole))
  k_with "!getAttr ref" => (k_here; (with_reducible show wpAny _ _ (getAttr (Value.ref _) (PySem.Str.ofString "append") _) _ _ _); k_dflt (refine' getAttr_append_K (by k_asm) (by k_asm) (by k_mem) ?_; k_whole); intro _ _ _ _ l1; (try k_lt l1); (try (revert l1; intro _)); (try k_sweep))
  k_with "!callWith ref" => (k_here; k_dflt (refine' callWith_app (by k_asm) (by k_mem) ?_; k_whole))
  k_with "!StandsB" => (k_dflt (exact (News.get (by k_asm) (by k_mem))))
  k_with "!call ref" => (k_here; k_dflt (refine' call_app (by k_asm) (by k_asm) (by k_mem) (by k_upd) ?_ (by first | assumption | size_fits); k_whole); intro _ _ _; (try k_sweep))
  k_with "!call builtin:len" => (k_here; k_dflt (refine' len_led (by k_asm) (by k_mem) (by first | omega | assumption) ?_; k_whole); intro _ _)
  k_with "!compareOp IsNot str ref" => (k_here; refine isNot_str_ref ?_)
  k_with "!compareOp Is str ref" => (k_here; refine is_str_ref ?_)
  k_with "!subscriptTail Name Slice str ref" => ((with_reducible show wpAny _ _ (subscriptTail _ (Expr.Slice (some _) (some _) none _) (Value.str (mkS _) _) _) _ _ _); (refine sslice_ss (s := ⟨_, _, _, _, _⟩) (by k_asm) (by k_asm) (by first | assumption | omega) (by assumption) ?_); intro _ _ _ _ _)
  k_with "!eval Lambda" => (k_here; kn_here; k_dflt (refine' lam_TF (lc := (76, 39)) (by k_asm) (by k_asm) (by k_asm) (by kn_code) (by exact rfl) (by k_updF) (by assumption) (by exact ⟨rfl, rfl⟩) (by exact rfl) (by exact rfl) ?_; k_whole); intro _ _ _ _ _ _ N'; (try dsimp only at N'); revert N'; intro _ _ _ l1; (try k_lt l1); (try (revert l1; intro _)))
  k_with "!truthy ref" => (k_here; (with_reducible show wpAny _ _ (truthy (Value.ref _)) _ _ _); k_dflt (refine' truthy_full (by k_asm) (by k_mem) (by assumption) (by first | omega | assumption) ?_; k_whole); intro _)
  k_with "!subscriptTail Name UnaryOp ref int" => (k_here; k_dflt (refine' item_last (by k_asm) (by k_mem) (by assumption) (by omega) (by assumption) ?_; k_whole))
  k_with "!call builtin:str.replace" => (k_here; refine replace_none (by decide +kernel) ?_)
  k_with "!ite" => (k_here; first | (refine ite_pos (by decide +kernel) ?_) | (refine ite_neg (by decide +kernel) ?_))
  k_with "!getMethod ref" => (k_here; (with_reducible show wpAny _ _ (getMethod (Value.ref 50) _ _) _ _ _); k_dflt (refine' getMethod_sub (by k_asm) (by k_asm) ?_; k_whole))
  k_with "!call builtin:re.Pattern.sub" => (k_here; k_dflt (refine' sub_N (by k_asm) (by k_asm) (by k_asm) (by k_mem) (by first | assumption | exact rfl) (by decide) ?_; k_whole); intro _ _ _ _ _; (try k_sweep))
  k_with "!call ref" => (k_here; (with_reducible show wpAny _ _ (call (Value.ref 69) _) _ _ _); k_dflt (refine' escape_c (by k_asm) (by k_asm) (by k_asm) (by k_asm) (by k_asm) (by first | exact rfl | assumption) (by ktr_room) (by ktr_units) (by assumption) ?_; k_whole); intro _ _ _ _ _; (try dsimp only); (try k_fold))
  k_with "!call builtin:len" => (k_here; (with_reducible show wpAny _ _ (call (Value.builtin "len") [Value.str (mkS _) _]) _ _ _); k_dflt (refine' slen (by first | omega | assumption) ?_; k_whole); intro _ _)
  k_with "!subscriptTail Name Name str int" => (k_here; (with_reducible show wpAny _ _ (subscriptTail _ _ (Value.str (mkS _) _) (Value.int _ _)) _ _ _); k_dflt (refine' sitem (by omega) (by first | omega | assumption) (by assumption) ?_; k_whole); intro _ _)
  k_with "!call type:object" => (k_here; k_dflt (refine' call_object_K (by k_asm) (by k_asm) ?_; k_whole); intro _ _ _ _ l1; (try k_lt l1); (try (revert l1; intro _)))
  k_with "!subscriptTail Name Slice str ref" => ((with_reducible show wpAny _ _ (subscriptTail _ (Expr.Slice none (some _) none _) (Value.str (mkS _) _) _) _ _ _); (refine sslice_ns (s := ⟨_, _, _, _, _⟩) (by k_asm) (by k_asm) (by first | assumption | omega) (by assumption) ?_); intro _ _ _ _ _)
  k_with "!subscriptTail Name Slice str ref" => ((with_reducible show wpAny _ _ (subscriptTail _ (Expr.Slice (some _) none none _) (Value.str (mkS _) _) _) _ _ _); (refine sslice_sn (s := ⟨_, _, _, _, _⟩) (by k_asm) (by k_asm) (by first | assumption | omega) (by assumption) ?_); intro _ _ _ _ _)
  k_with "!subscriptTail Name BinOp str int" => (k_here; (with_reducible show wpAny _ _ (subscriptTail _ _ (Value.str (mkS _) _) (Value.int _ _)) _ _ _); k_dflt (refine' sitem (by omega) (by first | omega | assumption) (by assumption) ?_; k_whole); intro _ _)
  k_with "!binaryOp Add str str" => (k_here; (with_reducible show wpAny _ _ (binaryOp Operator.Add (Value.str (mkS _) _) (Value.str (mkS _) _)) _ _ _); k_dflt (refine' sadd (by first | assumption | exact rfl) (by omega) ?_; k_whole); intro _ _)
  k_with "!CompSrcT" => (k_here; refine freeze ?_)
  k_with "!cell_enter" => (refine' code_defC (by k_asm) (by k_asm) (by k_asm) (by k_asm) (by k_asm) (by exact rfl) (by exact rfl) (by assumption) (by k_is) (by k_is) (by ktr_room) (by exact BindsTo.of_eq rfl) (by exact rfl) (by decide +kernel) ?_ (by exact rfl) (by exact rfl) (by exact rfl); k_whole; intro _ _ _ _ _ _ _ N' Y' B' _ _ l1; (try k_lt l1); (try (revert l1; intro _)); k_cells Y'; (try simp only [List.cons_append, List.nil_append] at N'); (try dsimp only); (try k_lift B'); (try k_fold))
  k_with "!cell_enter" => (refine' code_def (by k_asm) (by k_asm) (by k_asm) (by k_asm) (by k_asm) (by exact rfl) (by exact rfl) (by assumption) (by k_is) (by k_is) (by ktr_room) (by exact BindsTo.of_eq rfl) (by exact locs rfl) ?_ (by exact rfl) (by exact rfl) (by exact rfl) (by decide); k_whole; intro _ _ _ _ _ _ B' _ _; (try dsimp only); (try k_lift B'); (try k_fold))
  k_with "!call ref" => (k_here; (with_reducible show wpAny _ _ (call (Value.ref 95) _) _ _ _); k_dflt (refine' plain_m (by k_asm) (by k_asm) (by k_asm) (by k_asm) (by k_asm) (by first | exact rfl | assumption) (by ktr_room) (by ktr_units) (by first | assumption | omega) ?_; k_whole); intro _ _ _ _ _; (try dsimp only); (try k_fold))
  k_with "!subscriptTail BinOp Slice str ref" => ((with_reducible show wpAny _ _ (subscriptTail _ (Expr.Slice (some _) none none _) (Value.str (mkS _) _) _) _ _ _); (refine sslice_sn (s := ⟨_, _, _, _, _⟩) (by k_asm) (by k_asm) (by first | assumption | omega) (by assumption) ?_); intro _ _ _ _ _)
  k_with "!binaryOp Add str str" => (k_here; (with_reducible show wpAny _ _ (binaryOp Operator.Add (Value.str _ _) (Value.str _ _)) _ _ _); k_dflt (refine' sadd_l (by first | exact rfl | assumption) (by first | exact rfl | assumption) (by assumption) (by first | assumption | omega) ?_; k_whole); intro _ _)
  k_with "!k_all" => (first | assumption | (refine ne_cons (by k_ne) ?_; k_all) | exact ne_lt2 (by assumption) (by omega))
  k_with "!setAttr ref" => (k_here; (with_reducible show wpAny _ _ (setAttr (Value.ref _) _ _) _ _ _); k_dflt (refine' setAttr_fn_K (by k_asm) (by k_asm) (by k_updF) ?_; k_whole); intro _ _ _ _ _ _ _ N'; (try dsimp only at N'); revert N'; intro _ _ _ _ l1; (try k_lt l1); (try (revert l1; intro _)))
  k_with "!cell_enter" => (refine' code_defC (by k_asm) (by k_asm) (by k_asm) (by k_asm) (by k_asm) (by exact rfl) (by exact rfl) (by assumption) (by k_is) (by k_is) (by ktr_room) (by exact BindsTo.of_eq rfl) (by exact rfl) (by decide +kernel) ?_ (by exact rfl) (by exact rfl) (by exact rfl); k_whole; intro _ _ _ _ _ _ _ N' Y' B' _ _ l1; (try k_lt l1); (try (revert l1; intro _)); k_cells Y'; (try simp only [List.cons_append, List.nil_append] at N'); (try dsimp only); (try k_lift B'); (try k_fold))
  k_with "!exec FunctionDef" => (k_here; kn_here; k_dflt (refine' nestDef_K (by exact rfl) (by exact rfl) (by exact rfl) ?_); k_dflt (refine' nest_TF (by k_asm) (by k_asm) (by k_asm) (by kn_code) (by exact rfl) (by k_updF) (by (intro x9 hx9; repeat (first | exact hcx x9 hx9 | refine List.Mem.tail _ ?_))) (by assumption) (by exact ⟨rfl, rfl⟩) (by exact rfl) (by exact rfl) ?_; k_whole); intro _ _ _ _ _ _ _ _ _ _ _ N'; (try dsimp only at N'); revert N'; intro _ _ _ _ _ _ _ l1; (try k_lt l1); (try (revert l1; intro _)))
  k_with "!eval Lambda" => (k_here; kn_here; k_dflt (refine' lam_T1 (by k_asm) (by k_asm) (by k_asm) (by kn_code) (by exact rfl) (by k_updF) (by assumption) (by exact ⟨rfl, rfl⟩) (by exact rfl) (by exact rfl) ?_; k_whole); intro _ _ _ _ _ _ _ N'; (try dsimp only at N'); revert N'; intro _ _ l1; (try k_lt l1); (try (revert l1; intro _)))
  k_with "!subscriptTail Name Constant ref int" => (k_here; (with_reducible show wpAny _ _ (subscriptTail _ _ (Value.ref _) (Value.int 0 _)) _ _ _); k_dflt (refine' item0_led (by k_asm) (by k_mem) ?_; k_whole))
  k_with "!getItem ref int" => (k_here; (with_reducible show wpAny _ _ (getItem (Value.ref _) (Value.int 0 _)) _ _ _); k_dflt (refine' getItem0_led (by k_asm) (by k_mem) ?_; k_whole))
  refine wpAny_call ?_
  k_dflt cell_enter
  have C85' := C85.keeps (Fr.keep ‹Fr h₀ L _ m›)
  rename_i L1 h1 tkx FG1 F1 X1 T1 lL oA oO dA dO
  rename Below _ _ _ _ => B1
  rename News _ _ _ _ => NN
  have dA : oA.data = .cell none := dA
  have dO : oO.data = .cell (some (.ref oc)) := dO
  have lnw := lt_of_allLt lL.2
  have lnw2 : ∀ p ∈ news, p.1 < L1 := lnw
  have hL1 : ∀ p ∈ news, p.1 ≠ L1 + 1 := fun p hp => Nat.ne_of_lt (Nat.lt_trans (lnw p hp) (Nat.lt_succ_self _))
  have hL3 : ∀ p ∈ news, p.1 ≠ L1 + 1 + 1 := fun p hp => Nat.ne_of_lt (Nat.lt_trans (lnw p hp) (Nat.lt_trans (Nat.lt_succ_self _) (Nat.lt_succ_self _)))
  k_steps
  rename Fr h₀ L _ m => FZ
  rename News h₀ L _ _ => NZ
  rename_i la hq6 ll1 hq5 oA2 dA2 r c1 oc1 vs1 t1 ct1 dc1 ps1 hq4 tkq2 hT1 hd1 hd2 l85 lc l2 lr hq3 lam fdl ps2 a2 hq2 tkq1 eps ll hq1 Fq1 Nq1 dd odd ess epp hq tkq Fq Nq e1 e2 e3 ld Tc kX
  have hcla : c1 ≠ la := by
    rcases lc with h | h
    · exact Nat.ne_of_gt (h _ (.head _))
    · exact Nat.ne_of_lt (lt_of_allLt ll1.2.2.2 _ (hcx _ h))
  refine hret _ _ _ _ [_, _, _, _, _, _] _ _ _ _ (.inr ⟨_, _, _, _, _, (by assumption), rfl, (by assumption), (by assumption), (by assumption)⟩) ?sub ?cxn FZ (perm8 NZ) ?ne (StreamOn.of (.tail _ (.tail _ (.head _))) ?me ?fn ?re)
  case me =>
    intro prog w A E s h₀ L news pl Q hN hsub hq
    exact getMethod_fn (hN _ (hsub _ (.tail _ (.head _)))).1 ⟨_, _, _, (hN _ (hsub _ (.head _))).1, (by assumption), (by assumption), (by assumption)⟩ (if_pos rfl) hq
  case sub =>
    intro x hx
    cases List.mem_singleton.mp hx
    exact .tail _ (.tail _ (.tail _ (.head _)))
  case cxn =>
    intro x hx
    have hn : ∀ y ∈ news, y.1 < L1 := lt_of_allLt lL.2
    simp only [List.mem_cons, List.not_mem_nil, or_false] at hx
    rcases hx with rfl | rfl | rfl | rfl | rfl | rfl
    · exact .inl (lt_of_allLt ld.2.2.2.2.2.2.2)
    · exact .inl (lt_of_allLt ll.2.2.2.2.2.2)
    · exact .inl (lt_of_allLt lr.2.2.2.2)
    · rcases lc with h | h
      · exact .inl fun y hy => h y (.tail _ (.tail _ (.tail _ (.tail _ hy))))
      · exact .inr h
    · exact .inl fun y hy => Nat.lt_trans (hn y hy) (Nat.lt_trans (Nat.lt_succ_self _) (Nat.lt_succ_self _))
    · exact .inl fun y hy => Nat.lt_trans (hn y hy) (Nat.lt_succ_self _)
  case fn =>
    intro h₀ h L news hN hsub
    exact FnAt.of hN (hsub _ (.tail _ (.tail _ (.head _))))
  case ne =>
    intro x hx
    simp only [List.mem_cons, List.mem_append, List.not_mem_nil, or_false] at hx
    rcases hx with (rfl | rfl | rfl | rfl | rfl | rfl) | rfl | h
    · exact Nat.ne_of_gt ld.2.2.2.1
    · exact Nat.ne_of_gt ll.2.2.1
    · exact Nat.ne_of_gt lr.1
    · exact hcla
    · exact Nat.ne_of_lt ll1.1
    · exact Nat.ne_of_lt ll1.2.1
    · exact Nat.ne_of_lt ll1.2.2.1
    · exact Nat.ne_of_lt (lt_of_allLt ll1.2.2.2 _ h)
  case re =>
    clear hret FZ NZ Fq Nq Fq1 Nq1 F N FG1 B1 X1 T1 kX Tc B T X hcx h85 hL1 hL3 lnw lnw2 lL ld ll lr e1 e2 e3 eps hT1 hq hd' hu hk
    intro loose' mean' mg' mb' p' dp' un' gd' cn' cs' a' ccd' cl' outer' A₀' base' h₀' L' m' s' Q' E' news' k' n' size nV tk' tz V' ns B' F' X' N' hsub hne T' hk' hdp hun hoc hi hb hks hns hq'
    have m1 := hsub _ (.tail _ (.tail _ (.head _)))
    have m2 := hsub _ (.tail _ (.tail _ (.tail _ (.head _))))
    have m3 := hsub _ (.tail _ (.tail _ (.tail _ (.tail _ (.head _)))))
    have m4 := hsub _ (.tail _ (.tail _ (.tail _ (.tail _ (.tail _ (.head _))))))
    have n1 : @Ne Nat r la := hne _ m1
    have n2 : @Ne Nat c1 la := hne _ m2
    have n3 : @Ne Nat (L1 + 1 + 1) la := hne _ m3
    have n4 : @Ne Nat (L1 + 1) la := hne _ m4
    have n5 : @Ne Nat oc la := hne _ hoc
    have NE : News h₀' L' s'.heap ((la, listOf #[.int (k' : Int) tk'] n') :: _ :: _ :: _ :: _ :: _ :: news') := fun p hp => N' p (by
      rcases List.mem_cons.mp hp with rfl | hp
      · exact .head _
      · refine .tail _ ?_
        rcases List.mem_cons.mp hp with rfl | hp
        · exact m1
        · rcases List.mem_cons.mp hp with rfl | hp
          · exact m2
          · rcases List.mem_cons.mp hp with rfl | hp
            · exact m3
            · rcases List.mem_cons.mp hp with rfl | hp
              · exact m4
              · rcases List.mem_cons.mp hp with rfl | hp
                · exact hoc
                · exact hp)
    clear N' hsub
    revert X'; k_fill; intro X'
    refine wpAny_call ?_
    k_dflt (refine' code_nest ?k1 ?k2 ?k3 ?k4 ?k5 ?kA ?kF ?kK ?k6 ?k7 ?k8 ?k9 ?kB ?_ ?c2 ?c3 ?c4 ?c5; (case kA => exact rfl); (case kF => exact rfl); (case kK => exact hk'); (case k1 => k_asm); (case k2 => k_asm); (case k3 => k_asm); (case k4 => k_asm); (case k5 => k_asm); (case k6 => k_mem); (case k7 => exact codeRec_news (by k_asm) (by k_mem) (by assumption) (by assumption)); (case k8 => ktr_room); (case k9 => exact BindsTo.of_eq rfl); (case c5 => decide); (case kB => exact locs rfl); (case c2 => exact rfl); (case c3 => exact rfl); (case c4 => exact rfl); k_whole)
    intro g' L' h' FG' F' N' B' X' T'
    (try dsimp only); (try k_lift B'); (try k_fold)
    k_steps
    have eX : List.take (min (Int.toNat ((k' : Int) + (size : Int))) (List.length (List.map (fun c : Nat => (c : Int)) ns)) - Int.toNat ((k' : Int) + (size : Int) - (size : Int))) (List.drop (Int.toNat ((k' : Int) + (size : Int) - (size : Int))) (List.map (fun c : Nat => (c : Int)) ns)) = ((ns.drop k').take size).map fun c : Nat => (c : Int) := by
      rw [show Int.toNat ((k' : Int) + (size : Int)) = k' + size by omega, show Int.toNat ((k' : Int) + (size : Int) - (size : Int)) = k' by omega, List.length_map, ← List.map_drop, ← List.map_take, show min (k' + size) ns.length - k' = size by omega]
    rename IntsAre _ (List.take _ _) => hI9
    rename Fr g' L' _ _ => F9
    rename News g' L' _ _ => N9
    rw [eX] at hI9
    refine KBa.make_K F9 N9 rfl (list_led N9 (.head _)) hI9 ?in9 ?le9 ?_
    case in9 =>
      intro n hn
      obtain ⟨c, hc, rfl⟩ := List.mem_map.mp hn
      have := hb c (List.mem_of_mem_drop (List.mem_of_mem_take hc))
      exact ⟨by omega, by omega⟩
    case le9 =>
      rw [List.length_map, List.length_take, List.length_drop]
      omega
    intro h8 t8 k8 F8 N8 _
    rw [bys_made]
    k_steps
    rename Fr h₀' _ _ m' => FY
    rename News h₀' _ _ _ => NY
    exact hq' t8 _ _ _ FY fun p hp => NY p (by
      rcases List.mem_cons.mp hp with rfl | hp
      · exact .tail _ (.head _)
      · exact .tail _ (.tail _ (.tail _ (.tail _ (.tail _ (.tail _ (.tail _ hp)))))))
end

/-! read_uint1, read_string1 -/
theorem MethSpec.use {f r : Addr} {ext : List (Addr × Obj)} (h : MethSpec f r ext) {prog : Program} {w : World} {A : Around} {E : Value → Shared → Prop} {s : Shared} {h₀ : Heap} {L : Addr} {news : List (Addr × Obj)} {pl : Sem Bool} {Q : Value × List Value → Shared → Prop}
  (N : News h₀ L s.heap news) (hs : ∀ x ∈ ext, x ∈ news) (hq : ∀ tk, Q (.ref r, []) { s with toks := tk }) : wpAny (model prog w) A (getMethod (.ref f) "read" pl) Q E s := h N hs hq
section
variable {prog : Program} {w : World} {A : Around} {E : Value → Shared → Prop} {s : Shared} {x : List Nat} {t : Tok}
theorem truthy_bys {Q : Bool → Shared → Prop} (hb : ∀ c ∈ x, c < 256) (h0 : x ≠ []) (hl : x.length ≤ 100) (h : ∀ tk, Q true { s with toks := tk }) : wpAny (model prog w) A (truthy (.bytes (bys x) t)) Q E s := by
  refine KBw.truthy_K (bys_ints hb) (by rw [List.length_map]; omega) ?_
  rw [List.length_map, decide_eq_true (List.length_pos_iff.mpr h0)]
  exact h _
theorem len_bys {Q : Value → Shared → Prop} (hb : ∀ c ∈ x, c < 256) (hl : x.length ≤ 100) (h : ∀ t' tk, Q (.int (x.length : Nat) t') { s with toks := tk }) : wpAny (model prog w) A (call (.builtin "len") [.bytes (bys x) t]) Q E s := by
  refine KBw.len_K (bys_ints hb) (by rw [List.length_map]; omega) ?_
  rw [List.length_map]
  exact h _ _
theorem item0_bys {value slice : PySem.Expr} {c : Nat} {u : Tok} {Q : Value → Shared → Prop} (hc : c < 256) (h : ∀ t' tk, Q (.int (c : Int) t') { s with toks := tk })
    (hs : subscripted slice false (.bytes (bys [c]) t) (.int 0 u) = operate [.bytes (bys [c]) t, .int 0 u] (getItem (.bytes (bys [c]) t) (.int 0 u)) := by with_unfolding_all rfl)
    (ht : ∀ r, letTemporaryGo value (.bytes (bys [c]) t) r = pure () := by intro _; with_unfolding_all rfl) : wpAny (model prog w) A (subscriptTail value slice (.bytes (bys [c]) t) (.int 0 u)) Q E s :=
  KBw.item_K (ks := [(c : Int)]) (bys_ints fun d hd => by rw [List.mem_singleton.mp hd]; exact hc) (by simp) (by decide) (by simp) (fun t' k _ _ => h t' k) hs ht
end
noncomputable def FnSpec (r : Addr) (ext : List (Addr × Obj)) : Prop := ∀ {h₀ h : Heap} {L : Addr} {news : List (Addr × Obj)}, News h₀ L h news → (∀ x ∈ ext, x ∈ news) → FnAt r h
theorem FnSpec.use {r : Addr} {ext : List (Addr × Obj)} (h : FnSpec r ext) {h₀ h' : Heap} {L : Addr} {news : List (Addr × Obj)} (N : News h₀ L h' news) (hs : ∀ x ∈ ext, x ∈ news) : FnAt r h' := h N hs
theorem sub_tail {x : Addr × Obj} {ext news : List (Addr × Obj)} (h : ∀ y ∈ ext, y ∈ news) : ∀ y ∈ ext, y ∈ x :: news := fun y hy => .tail _ (h y hy)
theorem rl_12_17 : True := by
  k_with "!getMethod ref" => (k_here; (with_reducible show wpAny _ _ (getMethod (Value.ref _) _ _) _ _ _); (with_reducible rename MethSpec _ _ _ => hM9); k_dflt (refine' MethSpec.use (by assumption) (by k_asm) (by first | assumption | exact sub_tail (by assumption)) ?_; k_whole); intro _; (try dsimp only))
  k_with "!FnAt" => ((with_reducible rename FnSpec _ _ => hF9); k_dflt (refine' FnSpec.use (by assumption) (by k_asm) (by first | assumption | exact sub_tail (by assumption))))
  k_with "!callWith ref" => (k_here; (with_reducible rename FnSpec _ _ => hF9); k_dflt (refine' callWith_F (by refine' FnSpec.use (by assumption) (by k_asm) (by first | assumption | exact sub_tail (by assumption))) ?_; k_whole))
  k_with "!truthy bytes" => (k_here; k_dflt (refine' truthy_bys (by assumption) (by assumption) (by assumption) ?_; k_whole); intro _)
  k_with "!call builtin:len" => (k_here; (with_reducible show wpAny _ _ (call (Value.builtin "len") [Value.bytes (bys _) _]) _ _ _); k_dflt (refine' len_bys (by assumption) (by assumption) ?_; k_whole); intro _ _)
  k_with "!getMethod bytes" => (k_here; (with_reducible refine KBd.method ?_))
  k_with "!call builtin:bytes.decode" => (k_here; k_dflt (refine' decode_bys (by assumption) (by assumption) (by assumption) ?_; k_whole); intro _ _)
  k_with "!subscriptTail Name Constant bytes int" => (k_here; k_dflt (refine' item0_bys (by assumption) ?_; k_whole); intro _ _)
  trivial
section
variable {prog : Program} {w : World} {loose : List Str} {mean : ExcName → Option Value} {mg mb : Str → Option Value} {p : Program}
  {dp un : Nat} {gd : Option (List Code)} {cn : Str} {cs : Scope} {a : Addr} {ccd : Value} {cl : List (Str × Addr)} {outer : List Env} {A₀ : Around} {base h₀ : Heap} {L : Addr} {m : Str → Option Value} {s : Shared} {Q E : Value → Shared → Prop} {news : List (Addr × Obj)}
theorem readu_c {f la oc : Addr} {ext : List (Addr × Obj)} {k n nV c : Nat} {tk : Tok} {V : List Value} {ns : List Nat} (B : Below A₀ base outer h₀) (F : Fr h₀ L s.heap m) (X : (frag.heap_1 w.params).In h₀) (N : News h₀ L s.heap ((la, listOf #[.int (k : Int) tk] n) :: news)) (T : Top p loose mean mg mb h₀) (hk : cs.kind = .function)
    (hd' : dp + 4 < recursionLimit) (hu : un + 48 < cLine) (C85 : CodeHd h₀ 89 85) (hS : StreamOn w f la oc ext) (hsub : ∀ x ∈ ext, x ∈ news) (hne : ∀ x ∈ news, x.1 ≠ la) (hoc : (oc, listOf V.toArray nV) ∈ news) (hi : IntsAre V (ns.map fun c : Nat => (c : Int))) (hb : ∀ c ∈ ns, c < 256) (hns : ns.length ≤ 100) (hc : ns[k]? = some c)
    (hret : ∀ t tk2 tk3 h', Fr h₀ L h' m → News h₀ L h' ((la, listOf #[.int ((k + 1 : Nat) : Int) tk2] n) :: news) → Q (.int (c : Int) t) { s with heap := h', toks := tk3 }) :
    wpAny (model PySem.Challenge.rw_ij0200_01.prog w) (ktrTop dp un gd cn cs L a ccd cl outer) (call (.ref 38) [.ref f]) Q E s := by
  obtain ⟨r, hM, hFn, hR⟩ := hS
  revert X; k_fill; intro X
  have hFn : FnSpec r ext := @hFn
  k_with_none
  k_with "!wpq" => (first | (with_reducible first | refine wpAny_pure ?_ | refine wpAny_bind ?_ | refine wpAny_letGo ?_ | refine wpAny_attempt ?_ | refine wpAny_throw ?_ | refine wpAny_mkInt' ?_ | refine wpAny_mkStr' ?_ | refine wpAny_of_eq (by assumption) ?_ | refine wpAny_typeOf (by assumption) ?_ | refine wpAny_specialOf_val (by assumption) (by assumption) ?_ | refine wpAny_specialOf (by assumption) (by assumption) ?_ | refine wpAny_isInstance_val (by assumption) (by assumption) ?_ | refine wpAny_isInstance (by assumption) (by assumption) ?_) | wp_delta | wp_step)
  k_with "!getMethod str" => (with_reducible refine getMethod_translate ?_)
  k_with "!call builtin:str.translate" => (k_here; k_dflt (refine' translate_K (by k_asm) (by k_asm) (by k_asm) (by exact rfl) (by assumption) ?_; k_whole); intro _ _ _ _ _; (try dsimp only))
  k_with "!call builtin:str.join" => ((with_reducible show wpAny _ _ (call (Value.builtin "str.join") [Value.str _ _, Value.ref _]) _ _ _); (with_reducible rename CarriedAll _ _ => hc'); refine join_plain (by assumption) hc' (by assumption) ?_; intro _ _)
  k_with "!KswEnd" => (k_here; refine freeze ?_)
  k_with "!eval Name" => (k_here; k_dflt (refine' nameX_L (by k_asm) (by rfl) ?_ (by rfl) (by rfl); k_whole))
  k_with "!ksw_same" => (intro z h2 h3; (have g3 := h3); (simp only [List.forall_mem_cons, List.not_mem_nil, false_implies, implies_true, and_true, ne_eq] at h2); (try simp only [List.contains_cons, List.contains_nil, Bool.or_false, Bool.or_eq_false_iff, beq_eq_false_iff_ne, ne_eq] at h3); (try simp only [kstB]); (repeat (first | rw [if_neg h2] | rw [if_neg h2.1] | rw [if_neg h2.2] | rw [if_neg h2.2.1] | rw [if_neg h2.2.2] | rw [if_neg h2.2.2.1] | rw [if_neg h2.2.2.2] | rw [if_neg h2.2.2.2.1] | rw [if_neg h2.2.2.2.2] | rw [if_neg h3] | rw [if_neg h3.1] | rw [if_neg h3.2] | rw [if_neg h3.2.1] | rw [if_neg h3.2.2] | rw [if_neg h3.2.2.1] | rw [if_neg h3.2.2.2] | rw [if_neg h3.2.2.2.1] | rw [if_neg h3.2.2.2.2] | rw [if_neg h3.2.2.2.2.1] | rw [if_neg h3.2.2.2.2.2] | rw [not_stored g3])))
  k_with "!WhlIf" => (first | (refine WhlIf.yes (decide_eq_true (by omega)) ?_) | (refine WhlIf.no (decide_eq_false (by omega)) ?_))
  k_with "!formatField str" => (k_here; (with_reducible show wpAny _ _ (formatField (Value.str _ _) _) _ _ _); refine formatField_str ?_ (by rw [mkS_len]; unfold sizeLine; omega); intro _ _)
  k_with "!kt_le" => ((simp only [len_app, mkS_len, len_E, len_h, len_t]); (unfold sizeLine); omega)
  k_with "!And" => (k_here; refine And.intro (by kt_le) ?_)
  k_with "!joinParts" => (k_here; (first | (with_reducible show wpAny _ _ (joinParts _ []) _ _ _) | (with_reducible show wpAny _ _ (joinParts _ (evalEach [] _)) _ _ _)); k_dflt (refine joinParts_nil ?_ (by kt_le)))
  k_with "!ite" => (k_here; k_openite; first | (refine ite_pos (by first | omega | (simp only [decide_eq_true_eq, beq_iff_eq, bne_iff_ne, ne_eq]; omega)) ?_) | (refine ite_neg (by first | omega | (simp only [decide_eq_true_eq, beq_iff_eq, bne_iff_ne, ne_eq]; omega)) ?_))
  k_with "!k_all" => (first | assumption | exact ne_of_lt_all (by assumption) | exact ne_of_lt_all (lt_of_allLt (by assumption)))
  k_with "!subscriptTail Name Name ref int" => (k_here; (with_reducible show wpAny _ _ (subscriptTail _ _ (Value.ref _) (Value.int _ _)) _ _ _); k_dflt (refine' item_led (by k_asm) (by k_mem) (by omega) (by omega) (by assumption) ?_; k_whole))
  k_with "!getAttr ref" => (k_here; (with_reducible show wpAny _ _ (getAttr (Value.ref _) (PySem.Str.ofString "append") _) _ _ _); k_dflt (refine' getAttr_append_K (by k_asm) (by k_asm) (by k_mem) ?_; k_whole); intro _ _ _ _ l1; (try k_lt l1); (try (revert l1; intro _)); (try k_sweep))
  k_with "!callWith ref" => (k_here; k_dflt (refine' callWith_app (by k_asm) (by k_mem) ?_; k_whole))
  k_with "!StandsB" => (k_dflt (exact (News.get (by k_asm) (by k_mem))))
  k_with "!call ref" => (k_here; k_dflt (refine' call_app (by k_asm) (by k_asm) (by k_mem) (by k_upd) ?_ (by first | assumption | size_fits); k_whole); intro _ _ _; (try k_sweep))
  k_with "!call builtin:len" => (k_here; k_dflt (refine' len_led (by k_asm) (by k_mem) (by first | omega | assumption) ?_; k_whole); intro _ _)
  k_with "!compareOp IsNot str ref" => (k_here; refine isNot_str_ref ?_)
  k_with "!compareOp Is str ref" => (k_here; refine is_str_ref ?_)
  k_with "!subscriptTail Name Slice str ref" => ((with_reducible show wpAny _ _ (subscriptTail _ (Expr.Slice (some _) (some _) none _) (Value.str (mkS _) _) _) _ _ _); (refine sslice_ss (s := ⟨_, _, _, _, _⟩) (by k_asm) (by k_asm) (by first | assumption | omega) (by assumption) ?_); intro _ _ _ _ _)
  k_with "!eval Lambda" => (k_here; kn_here; k_dflt (refine' lam_TF (lc := (76, 39)) (by k_asm) (by k_asm) (by k_asm) (by kn_code) (by exact rfl) (by k_updF) (by assumption) (by exact ⟨rfl, rfl⟩) (by exact rfl) (by exact rfl) ?_; k_whole); intro _ _ _ _ _ _ N'; (try dsimp only at N'); revert N'; intro _ _ _ l1; (try k_lt l1); (try (revert l1; intro _)))
  k_with "!truthy ref" => (k_here; (with_reducible show wpAny _ _ (truthy (Value.ref _)) _ _ _); k_dflt (refine' truthy_full (by k_asm) (by k_mem) (by assumption) (by first | omega | assumption) ?_; k_whole); intro _)
  k_with "!subscriptTail Name UnaryOp ref int" => (k_here; k_dflt (refine' item_last (by k_asm) (by k_mem) (by assumption) (by omega) (by assumption) ?_; k_whole))
  k_with "!call builtin:str.replace" => (k_here; refine replace_none (by decide +kernel) ?_)
  k_with "!ite" => (k_here; first | (refine ite_pos (by decide +kernel) ?_) | (refine ite_neg (by decide +kernel) ?_))
  k_with "!getMethod ref" => (k_here; (with_reducible show wpAny _ _ (getMethod (Value.ref 50) _ _) _ _ _); k_dflt (refine' getMethod_sub (by k_asm) (by k_asm) ?_; k_whole))
  k_with "!call builtin:re.Pattern.sub" => (k_here; k_dflt (refine' sub_N (by k_asm) (by k_asm) (by k_asm) (by k_mem) (by first | assumption | exact rfl) (by decide) ?_; k_whole); intro _ _ _ _ _; (try k_sweep))
  k_with "!call ref" => (k_here; (with_reducible show wpAny _ _ (call (Value.ref 69) _) _ _ _); k_dflt (refine' escape_c (by k_asm) (by k_asm) (by k_asm) (by k_asm) (by k_asm) (by first | exact rfl | assumption) (by ktr_room) (by ktr_units) (by assumption) ?_; k_whole); intro _ _ _ _ _; (try dsimp only); (try k_fold))
  k_with "!call builtin:len" => (k_here; (with_reducible show wpAny _ _ (call (Value.builtin "len") [Value.str (mkS _) _]) _ _ _); k_dflt (refine' slen (by first | omega | assumption) ?_; k_whole); intro _ _)
  k_with "!subscriptTail Name Name str int" => (k_here; (with_reducible show wpAny _ _ (subscriptTail _ _ (Value.str (mkS _) _) (Value.int _ _)) _ _ _); k_dflt (refine' sitem (by omega) (by first | omega | assumption) (by assumption) ?_; k_whole); intro _ _)
  k_with "!call type:object" => (k_here; k_dflt (refine' call_object_K (by k_asm) (by k_asm) ?_; k_whole); intro _ _ _ _ l1; (try k_lt l1); (try (revert l1; intro _)))
  k_with "!subscriptTail Name Slice str ref" => ((with_reducible show wpAny _ _ (subscriptTail _ (Expr.Slice none (some _) none _) (Value.str (mkS _) _) _) _ _ _); (refine sslice_ns (s := ⟨_, _, _, _, _⟩) (by k_asm) (by k_asm) (by first | assumption | omega) (by assumption) ?_); intro _ _ _ _ _)
  k_with "!subscriptTail Name Slice str ref" => ((with_reducible show wpAny _ _ (subscriptTail _ (Expr.Slice (some _) none none _) (Value.str (mkS _) _) _) _ _ _); (refine sslice_sn (s := ⟨_, _, _, _, _⟩) (by k_asm) (by k_asm) (by first | assumption | omega) (by assumption) ?_); intro _ _ _ _ _)
  k_with "!subscriptTail Name BinOp str int" => (k_here; (with_reducible show wpAny _ _ (subscriptTail _ _ (Value.str (mkS _) _) (Value.int _ _)) _ _ _); k_dflt (refine' sitem (by omega) (by first | omega | assumption) (by assumption) ?_; k_whole); intro _ _)
  k_with "!binaryOp Add str str" => (k_here; (with_reducible show wpAny _ _ (binaryOp Operator.Add (Value.str (mkS _) _) (Value.str (mkS _) _)) _ _ _); k_dflt (refine' sadd (by first | assumption | exact rfl) (by omega) ?_; k_whole); intro _ _)
  k_with "!CompSrcT" => (k_here; refine freeze ?_)
  k_with "!cell_enter" => (refine' code_defC (by k_asm) (by k_asm) (by k_asm) (by k_asm) (by k_asm) (by exact rfl) (by exact rfl) (by assumption) (by k_is) (by k_is) (by ktr_room) (by exact BindsTo.of_eq rfl) (by exact rfl) (by decide +kernel) ?_ (by exact rfl) (by exact rfl) (by exact rfl); k_whole; intro _ _ _ _ _ _ _ N' Y' B' _ _ l1; (try k_lt l1); (try (revert l1; intro _)); k_cells Y'; (try simp only [List.cons_append, List.nil_append] at N'); (try dsimp only); (try k_lift B'); (try k_fold))
  k_with "!cell_enter" => (refine' code_def (by k_asm) (by k_asm) (by k_asm) (by k_asm) (by k_asm) (by exact rfl) (by exact rfl) (by assumption) (by k_is) (by k_is) (by ktr_room) (by exact BindsTo.of_eq rfl) (by exact locs rfl) ?_ (by exact rfl) (by exact rfl) (by exact rfl) (by decide); k_whole; intro _ _ _ _ _ _ B' _ _; (try dsimp only); (try k_lift B'); (try k_fold))
  k_with "!call ref" => (k_here; (with_reducible show wpAny _ _ (call (Value.ref 95) _) _ _ _); k_dflt (refine' plain_m (by k_asm) (by k_asm) (by k_asm) (by k_asm) (by k_asm) (by first | exact rfl | assumption) (by ktr_room) (by ktr_units) (by first | assumption | omega) ?_; k_whole); intro _ _ _ _ _; (try dsimp only); (try k_fold))
  k_with "!subscriptTail BinOp Slice str ref" => ((with_reducible show wpAny _ _ (subscriptTail _ (Expr.Slice (some _) none none _) (Value.str (mkS _) _) _) _ _ _); (refine sslice_sn (s := ⟨_, _, _, _, _⟩) (by k_asm) (by k_asm) (by first | assumption | omega) (by assumption) ?_); intro _ _ _ _ _)
  k_with "!binaryOp Add str str" => (k_here; (with_reducible show wpAny _ _ (binaryOp Operator.Add (Value.str _ _) (Value.str _ _)) _ _ _); k_dflt (refine' sadd_l (by first | exact rfl | assumption) (by first | exact rfl | assumption) (by assumption) (by first | assumption | omega) ?_; k_whole); intro _ _)
  k_with "!k_all" => (first | assumption | (refine ne_cons (by k_ne) ?_; k_all) | exact ne_lt2 (by assumption) (by omega))
  k_with "!setAttr ref" => (k_here; (with_reducible show wpAny _ _ (setAttr (Value.ref _) _ _) _ _ _); k_dflt (refine' setAttr_fn_K (by k_asm) (by k_asm) (by k_updF) ?_; k_whole); intro _ _ _ _ _ _ _ N'; (try dsimp only at N'); revert N'; intro _ _ _ _ l1; (try k_lt l1); (try (revert l1; intro _)))
  k_with "!cell_enter" => (refine' code_defC (by k_asm) (by k_asm) (by k_asm) (by k_asm) (by k_asm) (by exact rfl) (by exact rfl) (by assumption) (by k_is) (by k_is) (by ktr_room) (by exact BindsTo.of_eq rfl) (by exact rfl) (by decide +kernel) ?_ (by exact rfl) (by exact rfl) (by exact rfl); k_whole; intro _ _ _ _ _ _ _ N' Y' B' _ _ l1; (try k_lt l1); (try (revert l1; intro _)); k_cells Y'; (try simp only [List.cons_append, List.nil_append] at N'); (try dsimp only); (try k_lift B'); (try k_fold))
  k_with "!exec FunctionDef" => (k_here; kn_here; k_dflt (refine' nestDef_K (by exact rfl) (by exact rfl) (by exact rfl) ?_); k_dflt (refine' nest_TF (by k_asm) (by k_asm) (by k_asm) (by kn_code) (by exact rfl) (by k_updF) (by (intro x9 hx9; repeat (first | exact hcx x9 hx9 | refine List.Mem.tail _ ?_))) (by assumption) (by exact ⟨rfl, rfl⟩) (by exact rfl) (by exact rfl) ?_; k_whole); intro _ _ _ _ _ _ _ _ _ _ _ N'; (try dsimp only at N'); revert N'; intro _ _ _ _ _ _ _ l1; (try k_lt l1); (try (revert l1; intro _)))
  k_with "!eval Lambda" => (k_here; kn_here; k_dflt (refine' lam_T1 (by k_asm) (by k_asm) (by k_asm) (by kn_code) (by exact rfl) (by k_updF) (by assumption) (by exact ⟨rfl, rfl⟩) (by exact rfl) (by exact rfl) ?_; k_whole); intro _ _ _ _ _ _ _ N'; (try dsimp only at N'); revert N'; intro _ _ l1; (try k_lt l1); (try (revert l1; intro _)))
  k_with "!subscriptTail Name Constant ref int" => (k_here; (with_reducible show wpAny _ _ (subscriptTail _ _ (Value.ref _) (Value.int 0 _)) _ _ _); k_dflt (refine' item0_led (by k_asm) (by k_mem) ?_; k_whole))
  k_with "!getItem ref int" => (k_here; (with_reducible show wpAny _ _ (getItem (Value.ref _) (Value.int 0 _)) _ _ _); k_dflt (refine' getItem0_led (by k_asm) (by k_mem) ?_; k_whole))
  k_with "!getMethod ref" => (k_here; (with_reducible show wpAny _ _ (getMethod (Value.ref _) _ _) _ _ _); (with_reducible rename MethSpec _ _ _ => hM9); k_dflt (refine' MethSpec.use (by assumption) (by k_asm) (by first | assumption | exact sub_tail (by assumption)) ?_; k_whole); intro _; (try dsimp only))
  k_with "!FnAt" => ((with_reducible rename FnSpec _ _ => hF9); k_dflt (refine' FnSpec.use (by assumption) (by k_asm) (by first | assumption | exact sub_tail (by assumption))))
  k_with "!callWith ref" => (k_here; (with_reducible rename FnSpec _ _ => hF9); k_dflt (refine' callWith_F (by refine' FnSpec.use (by assumption) (by k_asm) (by first | assumption | exact sub_tail (by assumption))) ?_; k_whole))
  k_with "!truthy bytes" => (k_here; k_dflt (refine' truthy_bys (by assumption) (by assumption) (by assumption) ?_; k_whole); intro _)
  k_with "!call builtin:len" => (k_here; (with_reducible show wpAny _ _ (call (Value.builtin "len") [Value.bytes (bys _) _]) _ _ _); k_dflt (refine' len_bys (by assumption) (by assumption) ?_; k_whole); intro _ _)
  k_with "!getMethod bytes" => (k_here; (with_reducible refine KBd.method ?_))
  k_with "!call builtin:bytes.decode" => (k_here; k_dflt (refine' decode_bys (by assumption) (by assumption) (by assumption) ?_; k_whole); intro _ _)
  k_with "!subscriptTail Name Constant bytes int" => (k_here; k_dflt (refine' item0_bys (by assumption) ?_; k_whole); intro _ _)
  have hsub2 := sub_tail (x := (la, listOf #[.int (k : Int) tk] n)) hsub
  refine wpAny_call ?_
  k_dflt cell_enter
  have C85' := C85.keeps (Fr.keep ‹Fr h₀ L _ m›)
  k_steps
  unfold ReadSpec at hR
  have hlt : k < ns.length := by
    rcases Nat.lt_or_ge k ns.length with q | q
    · exact q
    · rw [List.getElem?_eq_none q] at hc; cases hc
  refine hR (size := 1) (by assumption) (by assumption) (by assumption) (by assumption) hsub hne (by assumption) rfl (by ktr_room) (by ktr_units) hoc hi hb (by omega) hns ?_
  intro t1 tk1 tk2 h1 F1 N1
  have e : (ns.drop k).take 1 = [c] := by
    rw [List.drop_eq_getElem_cons hlt]
    rw [List.getElem?_eq_getElem hlt] at hc
    cases hc
    rfl
  rw [e]
  have hc2 : c < 256 := hb c (List.mem_of_getElem? hc)
  have hx1 : ∀ d ∈ [c], d < 256 := fun d hd => by rw [List.mem_singleton.mp hd]; exact hc2
  have hx2 : [c] ≠ [] := by simp
  have hx3 : [c].length ≤ 100 := by simp
  k_steps
  rename News h₀ L _ _ => NY
  exact hret _ _ _ _ (by assumption) NY
end
theorem rl_12_18 : True := by
  k_with "!call ref" => (k_here; (with_reducible show wpAny _ _ (call (Value.ref 38) _) _ _ _); k_dflt (refine' readu_c (by k_asm) (by k_asm) (by k_asm) (by k_asm) (by k_asm) (by first | exact rfl | assumption) (by ktr_room) (by ktr_units) (by assumption) (by assumption) (by assumption) (by assumption) (by assumption) (by assumption) (by assumption) (by assumption) (by assumption) ?_; k_whole); intro _ _ _ _ _ _; (try dsimp only); (try k_fold))
  trivial
section
variable {prog : Program} {w : World} {loose : List Str} {mean : ExcName → Option Value} {mg mb : Str → Option Value} {p : Program}
  {dp un : Nat} {gd : Option (List Code)} {cn : Str} {cs : Scope} {a : Addr} {ccd : Value} {cl : List (Str × Addr)} {outer : List Env} {A₀ : Around} {base h₀ : Heap} {L : Addr} {m : Str → Option Value} {s : Shared} {Q E : Value → Shared → Prop} {news : List (Addr × Obj)}
theorem reads_c {f la oc : Addr} {ext : List (Addr × Obj)} {k n nV c : Nat} {tk : Tok} {V : List Value} {ns : List Nat} (B : Below A₀ base outer h₀) (F : Fr h₀ L s.heap m) (X : (frag.heap_1 w.params).In h₀) (N : News h₀ L s.heap ((la, listOf #[.int (k : Int) tk] n) :: news)) (T : Top p loose mean mg mb h₀) (hk : cs.kind = .function)
    (hd' : dp + 6 < recursionLimit) (hu : un + 80 < cLine) (C85 : CodeHd h₀ 89 85) (hS : StreamOn w f la oc ext) (hsub : ∀ x ∈ ext, x ∈ news) (hne : ∀ x ∈ news, x.1 ≠ la) (hoc : (oc, listOf V.toArray nV) ∈ news) (hi : IntsAre V (ns.map fun c : Nat => (c : Int))) (hb : ∀ c ∈ ns, c < 256) (hns : ns.length ≤ 100) (hc : ns[k]? = some c)
    (h0 : 0 < c) (h7 : c ≤ 7) (hkc : k + 1 + c ≤ ns.length)
    (hret : ∀ t tk2 tk3 h', Fr h₀ L h' m → News h₀ L h' ((la, listOf #[.int ((k + 1 + c : Nat) : Int) tk2] n) :: news) → Q (.str (mkS ((ns.drop (k + 1)).take c)) t) { s with heap := h', toks := tk3 }) :
    wpAny (model PySem.Challenge.rw_ij0200_01.prog w) (ktrTop dp un gd cn cs L a ccd cl outer) (call (.ref 45) [.ref f]) Q E s := by
  have hS' := hS
  obtain ⟨r, hM, hFn, hR⟩ := hS'
  revert X; k_fill; intro X
  have hFn : FnSpec r ext := @hFn
  k_with_none
  k_with "!wpq" => (first | (with_reducible first | refine wpAny_pure ?_ | refine wpAny_bind ?_ | refine wpAny_letGo ?_ | refine wpAny_attempt ?_ | refine wpAny_throw ?_ | refine wpAny_mkInt' ?_ | refine wpAny_mkStr' ?_ | refine wpAny_of_eq (by assumption) ?_ | refine wpAny_typeOf (by assumption) ?_ | refine wpAny_specialOf_val (by assumption) (by assumption) ?_ | refine wpAny_specialOf (by assumption) (by assumption) ?_ | refine wpAny_isInstance_val (by assumption) (by assumption) ?_ | refine wpAny_isInstance (by assumption) (by assumption) ?_) | wp_delta | wp_step)
  k_with "!getMethod str" => (with_reducible refine getMethod_translate ?_)
  k_with "!call builtin:str.translate" => (k_here; k_dflt (refine' translate_K (by k_asm) (by k_asm) (by k_asm) (by exact rfl) (by assumption) ?_; k_whole); intro _ _ _ _ _; (try dsimp only))
  k_with "!call builtin:str.join" => ((with_reducible show wpAny _ _ (call (Value.builtin "str.join") [Value.str _ _, Value.ref _]) _ _ _); (with_reducible rename CarriedAll _ _ => hc'); refine join_plain (by assumption) hc' (by assumption) ?_; intro _ _)
  k_with "!KswEnd" => (k_here; refine freeze ?_)
  k_with "!eval Name" => (k_here; k_dflt (refine' nameX_L (by k_asm) (by rfl) ?_ (by rfl) (by rfl); k_whole))
  k_with "!ksw_same" => (intro z h2 h3; (have g3 := h3); (simp only [List.forall_mem_cons, List.not_mem_nil, false_implies, implies_true, and_true, ne_eq] at h2); (try simp only [List.contains_cons, List.contains_nil, Bool.or_false, Bool.or_eq_false_iff, beq_eq_false_iff_ne, ne_eq] at h3); (try simp only [kstB]); (repeat (first | rw [if_neg h2] | rw [if_neg h2.1] | rw [if_neg h2.2] | rw [if_neg h2.2.1] | rw [if_neg h2.2.2] | rw [if_neg h2.2.2.1] | rw [if_neg h2.2.2.2] | rw [if_neg h2.2.2.2.1] | rw [if_neg h2.2.2.2.2] | rw [if_neg h3] | rw [if_neg h3.1] | rw [if_neg h3.2] | rw [if_neg h3.2.1] | rw [if_neg h3.2.2] | rw [if_neg h3.2.2.1] | rw [if_neg h3.2.2.2] | rw [if_neg h3.2.2.2.1] | rw [if_neg h3.2.2.2.2] | rw [if_neg h3.2.2.2.2.1] | rw [if_neg h3.2.2.2.2.2] | rw [not_stored g3])))
  k_with "!WhlIf" => (first | (refine WhlIf.yes (decide_eq_true (by omega)) ?_) | (refine WhlIf.no (decide_eq_false (by omega)) ?_))
  k_with "!formatField str" => (k_here; (with_reducible show wpAny _ _ (formatField (Value.str _ _) _) _ _ _); refine formatField_str ?_ (by rw [mkS_len]; unfold sizeLine; omega); intro _ _)
  k_with "!kt_le" => ((simp only [len_app, mkS_len, len_E, len_h, len_t]); (unfold sizeLine); omega)
  k_with "!And" => (k_here; refine And.intro (by kt_le) ?_)
  k_with "!joinParts" => (k_here; (first | (with_reducible show wpAny _ _ (joinParts _ []) _ _ _) | (with_reducible show wpAny _ _ (joinParts _ (evalEach [] _)) _ _ _)); k_dflt (refine joinParts_nil ?_ (by kt_le)))
  k_with "!ite" => (k_here; k_openite; first | (refine ite_pos (by first | omega | (simp only [decide_eq_true_eq, beq_iff_eq, bne_iff_ne, ne_eq]; omega)) ?_) | (refine ite_neg (by first | omega | (simp only [decide_eq_true_eq, beq_iff_eq, bne_iff_ne, ne_eq]; omega)) ?_))
  k_with "!k_all" => (first | assumption | exact ne_of_lt_all (by assumption) | exact ne_of_lt_all (lt_of_allLt (by assumption)))
  k_with "!subscriptTail Name Name ref int" => (k_here; (with_reducible show wpAny _ _ (subscriptTail _ _ (Value.ref _) (Value.int _ _)) _ _ _); k_dflt (refine' item_led (by k_asm) (by k_mem) (by omega) (by omega) (by assumption) ?_; k_whole))
  k_with "!getAttr ref" => (k_here; (with_reducible show wpAny _ _ (getAttr (Value.ref _) (PySem.Str.ofString "append") _) _ _ _); k_dflt (refine' getAttr_append_K (by k_asm) (by k_asm) (by k_mem) ?_; k_whole); intro _ _ _ _ l1; (try k_lt l1); (try (revert l1; intro _)); (try k_sweep))
  k_with "!callWith ref" => (k_here; k_dflt (refine' callWith_app (by k_asm) (by k_mem) ?_; k_whole))
  k_with "!StandsB" => (k_dflt (exact (News.get (by k_asm) (by k_mem))))
  k_with "!call ref" => (k_here; k_dflt (refine' call_app (by k_asm) (by k_asm) (by k_mem) (by k_upd) ?_ (by first | assumption | size_fits); k_whole); intro _ _ _; (try k_sweep))
  k_with "!call builtin:len" => (k_here; k_dflt (refine' len_led (by k_asm) (by k_mem) (by first | omega | assumption) ?_; k_whole); intro _ _)
  k_with "!compareOp IsNot str ref" => (k_here; refine isNot_str_ref ?_)
  k_with "!compareOp Is str ref" => (k_here; refine is_str_ref ?_)
  k_with "!subscriptTail Name Slice str ref" => ((with_reducible show wpAny _ _ (subscriptTail _ (Expr.Slice (some _) (some _) none _) (Value.str (mkS _) _) _) _ _ _); (refine sslice_ss (s := ⟨_, _, _, _, _⟩) (by k_asm) (by k_asm) (by first | assumption | omega) (by assumption) ?_); intro _ _ _ _ _)
  k_with "!eval Lambda" => (k_here; kn_here; k_dflt (refine' lam_TF (lc := (76, 39)) (by k_asm) (by k_asm) (by k_asm) (by kn_code) (by exact rfl) (by k_updF) (by assumption) (by exact ⟨rfl, rfl⟩) (by exact rfl) (by exact rfl) ?_; k_whole); intro _ _ _ _ _ _ N'; (try dsimp only at N'); revert N'; intro _ _ _ l1; (try k_lt l1); (try (revert l1; intro _)))
  k_with "!truthy ref" => (k_here; (with_reducible show wpAny _ _ (truthy (Value.ref _)) _ _ _); k_dflt (refine' truthy_full (by k_asm) (by k_mem) (by assumption) (by first | omega | assumption) ?_; k_whole); intro _)
  k_with "!subscriptTail Name UnaryOp ref int" => (k_here; k_dflt (refine' item_last (by k_asm) (by k_mem) (by assumption) (by omega) (by assumption) ?_; k_whole))
  k_with "!call builtin:str.replace" => (k_here; refine replace_none (by decide +kernel) ?_)
  k_with "!ite" => (k_here; first | (refine ite_pos (by decide +kernel) ?_) | (refine ite_neg (by decide +kernel) ?_))
  k_with "!getMethod ref" => (k_here; (with_reducible show wpAny _ _ (getMethod (Value.ref 50) _ _) _ _ _); k_dflt (refine' getMethod_sub (by k_asm) (by k_asm) ?_; k_whole))
  k_with "!call builtin:re.Pattern.sub" => (k_here; k_dflt (refine' sub_N (by k_asm) (by k_asm) (by k_asm) (by k_mem) (by first | assumption | exact rfl) (by decide) ?_; k_whole); intro _ _ _ _ _; (try k_sweep))
  k_with "!call ref" => (k_here; (with_reducible show wpAny _ _ (call (Value.ref 69) _) _ _ _); k_dflt (refine' escape_c (by k_asm) (by k_asm) (by k_asm) (by k_asm) (by k_asm) (by first | exact rfl | assumption) (by ktr_room) (by ktr_units) (by assumption) ?_; k_whole); intro _ _ _ _ _; (try dsimp only); (try k_fold))
  k_with "!call builtin:len" => (k_here; (with_reducible show wpAny _ _ (call (Value.builtin "len") [Value.str (mkS _) _]) _ _ _); k_dflt (refine' slen (by first | omega | assumption) ?_; k_whole); intro _ _)
  k_with "!subscriptTail Name Name str int" => (k_here; (with_reducible show wpAny _ _ (subscriptTail _ _ (Value.str (mkS _) _) (Value.int _ _)) _ _ _); k_dflt (refine' sitem (by omega) (by first | omega | assumption) (by assumption) ?_; k_whole); intro _ _)
  k_with "!call type:object" => (k_here; k_dflt (refine' call_object_K (by k_asm) (by k_asm) ?_; k_whole); intro _ _ _ _ l1; (try k_lt l1); (try (revert l1; intro _)))
  k_with "!subscriptTail Name Slice str ref" => ((with_reducible show wpAny _ _ (subscriptTail _ (Expr.Slice none (some _) none _) (Value.str (mkS _) _) _) _ _ _); (refine sslice_ns (s := ⟨_, _, _, _, _⟩) (by k_asm) (by k_asm) (by first | assumption | omega) (by assumption) ?_); intro _ _ _ _ _)
  k_with "!subscriptTail Name Slice str ref" => ((with_reducible show wpAny _ _ (subscriptTail _ (Expr.Slice (some _) none none _) (Value.str (mkS _) _) _) _ _ _); (refine sslice_sn (s := ⟨_, _, _, _, _⟩) (by k_asm) (by k_asm) (by first | assumption | omega) (by assumption) ?_); intro _ _ _ _ _)
  k_with "!subscriptTail Name BinOp str int" => (k_here; (with_reducible show wpAny _ _ (subscriptTail _ _ (Value.str (mkS _) _) (Value.int _ _)) _ _ _); k_dflt (refine' sitem (by omega) (by first | omega | assumption) (by assumption) ?_; k_whole); intro _ _)
  k_with "!binaryOp Add str str" => (k_here; (with_reducible show wpAny _ _ (binaryOp Operator.Add (Value.str (mkS _) _) (Value.str (mkS _) _)) _ _ _); k_dflt (refine' sadd (by first | assumption | exact rfl) (by omega) ?_; k_whole); intro _ _)
  k_with "!CompSrcT" => (k_here; refine freeze ?_)
  k_with "!cell_enter" => (refine' code_defC (by k_asm) (by k_asm) (by k_asm) (by k_asm) (by k_asm) (by exact rfl) (by exact rfl) (by assumption) (by k_is) (by k_is) (by ktr_room) (by exact BindsTo.of_eq rfl) (by exact rfl) (by decide +kernel) ?_ (by exact rfl) (by exact rfl) (by exact rfl); k_whole; intro _ _ _ _ _ _ _ N' Y' B' _ _ l1; (try k_lt l1); (try (revert l1; intro _)); k_cells Y'; (try simp only [List.cons_append, List.nil_append] at N'); (try dsimp only); (try k_lift B'); (try k_fold))
  k_with "!cell_enter" => (refine' code_def (by k_asm) (by k_asm) (by k_asm) (by k_asm) (by k_asm) (by exact rfl) (by exact rfl) (by assumption) (by k_is) (by k_is) (by ktr_room) (by exact BindsTo.of_eq rfl) (by exact locs rfl) ?_ (by exact rfl) (by exact rfl) (by exact rfl) (by decide); k_whole; intro _ _ _ _ _ _ B' _ _; (try dsimp only); (try k_lift B'); (try k_fold))
  k_with "!call ref" => (k_here; (with_reducible show wpAny _ _ (call (Value.ref 95) _) _ _ _); k_dflt (refine' plain_m (by k_asm) (by k_asm) (by k_asm) (by k_asm) (by k_asm) (by first | exact rfl | assumption) (by ktr_room) (by ktr_units) (by first | assumption | omega) ?_; k_whole); intro _ _ _ _ _; (try dsimp only); (try k_fold))
  k_with "!subscriptTail BinOp Slice str ref" => ((with_reducible show wpAny _ _ (subscriptTail _ (Expr.Slice (some _) none none _) (Value.str (mkS _) _) _) _ _ _); (refine sslice_sn (s := ⟨_, _, _, _, _⟩) (by k_asm) (by k_asm) (by first | assumption | omega) (by assumption) ?_); intro _ _ _ _ _)
  k_with "!binaryOp Add str str" => (k_here; (with_reducible show wpAny _ _ (binaryOp Operator.Add (Value.str _ _) (Value.str _ _)) _ _ _); k_dflt (refine' sadd_l (by first | exact rfl | assumption) (by first | exact rfl | assumption) (by assumption) (by first | assumption | omega) ?_; k_whole); intro _ _)
  k_with "!k_all" => (first | assumption | (refine ne_cons (by k_ne) ?_; k_all) | exact ne_lt2 (by assumption) (by omega))
  k_with "!setAttr ref" => (k_here; (with_reducible show wpAny _ _ (setAttr (Value.ref _) _ _) _ _ _); k_dflt (refine' setAttr_fn_K (by k_asm) (by k_asm) (by k_updF) ?_; k_whole); intro _ _ _ _ _ _ _ N'; (try dsimp only at N'); revert N'; intro _ _ _ _ l1; (try k_lt l1); (try (revert l1; intro _)))
  k_with "!cell_enter" => (refine' code_defC (by k_asm) (by k_asm) (by k_asm) (by k_asm) (by k_asm) (by exact rfl) (by exact rfl) (by assumption) (by k_is) (by k_is) (by ktr_room) (by exact BindsTo.of_eq rfl) (by exact rfl) (by decide +kernel) ?_ (by exact rfl) (by exact rfl) (by exact rfl); k_whole; intro _ _ _ _ _ _ _ N' Y' B' _ _ l1; (try k_lt l1); (try (revert l1; intro _)); k_cells Y'; (try simp only [List.cons_append, List.nil_append] at N'); (try dsimp only); (try k_lift B'); (try k_fold))
  k_with "!exec FunctionDef" => (k_here; kn_here; k_dflt (refine' nestDef_K (by exact rfl) (by exact rfl) (by exact rfl) ?_); k_dflt (refine' nest_TF (by k_asm) (by k_asm) (by k_asm) (by kn_code) (by exact rfl) (by k_updF) (by (intro x9 hx9; repeat (first | exact hcx x9 hx9 | refine List.Mem.tail _ ?_))) (by assumption) (by exact ⟨rfl, rfl⟩) (by exact rfl) (by exact rfl) ?_; k_whole); intro _ _ _ _ _ _ _ _ _ _ _ N'; (try dsimp only at N'); revert N'; intro _ _ _ _ _ _ _ l1; (try k_lt l1); (try (revert l1; intro _)))
  k_with "!eval Lambda" => (k_here; kn_here; k_dflt (refine' lam_T1 (by k_asm) (by k_asm) (by k_asm) (by kn_code) (by exact rfl) (by k_updF) (by assumption) (by exact ⟨rfl, rfl⟩) (by exact rfl) (by exact rfl) ?_; k_whole); intro _ _ _ _ _ _ _ N'; (try dsimp only at N'); revert N'; intro _ _ l1; (try k_lt l1); (try (revert l1; intro _)))
  k_with "!subscriptTail Name Constant ref int" => (k_here; (with_reducible show wpAny _ _ (subscriptTail _ _ (Value.ref _) (Value.int 0 _)) _ _ _); k_dflt (refine' item0_led (by k_asm) (by k_mem) ?_; k_whole))
  k_with "!getItem ref int" => (k_here; (with_reducible show wpAny _ _ (getItem (Value.ref _) (Value.int 0 _)) _ _ _); k_dflt (refine' getItem0_led (by k_asm) (by k_mem) ?_; k_whole))
  k_with "!getMethod ref" => (k_here; (with_reducible show wpAny _ _ (getMethod (Value.ref _) _ _) _ _ _); (with_reducible rename MethSpec _ _ _ => hM9); k_dflt (refine' MethSpec.use (by assumption) (by k_asm) (by first | assumption | exact sub_tail (by assumption)) ?_; k_whole); intro _; (try dsimp only))
  k_with "!FnAt" => ((with_reducible rename FnSpec _ _ => hF9); k_dflt (refine' FnSpec.use (by assumption) (by k_asm) (by first | assumption | exact sub_tail (by assumption))))
  k_with "!callWith ref" => (k_here; (with_reducible rename FnSpec _ _ => hF9); k_dflt (refine' callWith_F (by refine' FnSpec.use (by assumption) (by k_asm) (by first | assumption | exact sub_tail (by assumption))) ?_; k_whole))
  k_with "!truthy bytes" => (k_here; k_dflt (refine' truthy_bys (by assumption) (by assumption) (by assumption) ?_; k_whole); intro _)
  k_with "!call builtin:len" => (k_here; (with_reducible show wpAny _ _ (call (Value.builtin "len") [Value.bytes (bys _) _]) _ _ _); k_dflt (refine' len_bys (by assumption) (by assumption) ?_; k_whole); intro _ _)
  k_with "!getMethod bytes" => (k_here; (with_reducible refine KBd.method ?_))
  k_with "!call builtin:bytes.decode" => (k_here; k_dflt (refine' decode_bys (by assumption) (by assumption) (by assumption) ?_; k_whole); intro _ _)
  k_with "!subscriptTail Name Constant bytes int" => (k_here; k_dflt (refine' item0_bys (by assumption) ?_; k_whole); intro _ _)
  k_with "!call ref" => (k_here; (with_reducible show wpAny _ _ (call (Value.ref 38) _) _ _ _); k_dflt (refine' readu_c (by k_asm) (by k_asm) (by k_asm) (by k_asm) (by k_asm) (by first | exact rfl | assumption) (by ktr_room) (by ktr_units) (by assumption) (by assumption) (by assumption) (by assumption) (by assumption) (by assumption) (by assumption) (by assumption) (by assumption) ?_; k_whole); intro _ _ _ _ _ _; (try dsimp only); (try k_fold))
  have hsub2 := sub_tail (x := (la, listOf #[.int (k : Int) tk] n)) hsub
  refine wpAny_call ?_
  k_dflt cell_enter
  have C85' := C85.keeps (Fr.keep ‹Fr h₀ L _ m›)
  k_steps
  unfold ReadSpec at hR
  refine hR (size := c) (by assumption) (by assumption) (by assumption) (by assumption) hsub hne (by assumption) rfl (by ktr_room) (by ktr_units) hoc hi hb (by omega) hns ?_
  intro t1 tk1 tk2 h1 F1 N1
  obtain ⟨x, hx⟩ : ∃ x, (ns.drop (k + 1)).take c = x := ⟨_, rfl⟩
  rw [hx] at hret ⊢
  have hxl : x.length = c := by rw [← hx, List.length_take, List.length_drop]; omega
  have hx1 : ∀ d ∈ x, d < 256 := fun d hd => hb d (List.mem_of_mem_drop (List.mem_of_mem_take (by rw [hx]; exact hd)))
  have hx2 : x ≠ [] := by rintro rfl; simp at hxl; omega
  have hx3 : x.length ≤ 100 := by omega
  have hx7 : x.length ≤ 7 := by omega
  k_steps
  rename News h₀ L _ _ => NY
  exact hret _ _ _ _ (by assumption) NY
end

/-! the plain law -/
/-- a text repeats at the gap k -/
noncomputable def LocRep (w : List Nat) (k n : Nat) : Prop := ∀ i, i < k → k ≤ i + n → i + n < w.length → w[i]? = w[i + n]?
noncomputable def PerOf (w : List Nat) (n : Nat) : Prop := ∀ i, i + n < w.length → w[i]? = w[i + n]?
theorem perOf_iff (w : List Nat) (n : Nat) (hn : n ≤ w.length) : w.drop n = w.take (w.length - n) ↔ PerOf w n := by
  constructor
  · intro h i hi
    have e : (w.drop n)[i]? = (w.take (w.length - n))[i]? := by rw [h]
    rw [List.getElem?_drop, List.getElem?_take, if_pos (by omega), Nat.add_comm] at e
    exact e.symm
  · intro h
    refine List.ext_getElem? fun i => ?_
    rw [List.getElem?_drop, List.getElem?_take]
    by_cases hi : i < w.length - n
    · rw [if_pos hi, h i (by omega), Nat.add_comm]
    · rw [if_neg hi, List.getElem?_eq_none (by omega)]
theorem repF_iff {w : List Nat} {k n : Nat} (hk : k ≤ w.length) (h1 : 0 < n) (hn : n ≤ w.length) : repF (w.take k) (w.drop k) n = true ↔ LocRep w k n := by
  have la : (w.take k).length = k := by rw [List.length_take]; omega
  have lb : (w.drop k).length = w.length - k := List.length_drop
  unfold repF
  by_cases c1 : (w.drop k).length < n
  · rw [if_pos c1]
    have lt1 : (told1 (w.take k) (w.drop k) n).length = n := by
      unfold told1
      rw [List.length_drop, List.length_append, List.length_take, la, lb]
      omega
    rw [lt1, Bool.and_eq_true, decide_eq_true_eq, decide_eq_true_eq]
    have ti : ∀ j, j < n → n ≤ k + j → (told1 (w.take k) (w.drop k) n)[j]? = w[j + k - n]? := by
      intro j hj hj2
      have lc : ((w.drop k).take (n - k)).length = n - k := by rw [List.length_take, lb]; omega
      unfold told1
      rw [la, List.getElem?_drop, List.length_append, la, lc, List.getElem?_append_right (by rw [lc]; omega), lc, List.getElem?_take, if_pos (by omega)]
      congr 1
      omega
    have tj : ∀ j, k + j < n → (told1 (w.take k) (w.drop k) n)[j]? = w[k + j]? := by
      intro j hj
      have lc : ((w.drop k).take (n - k)).length = n - k := by rw [List.length_take, lb]; omega
      unfold told1
      rw [la, List.getElem?_drop, List.length_append, la, lc, List.getElem?_append_left (by rw [lc]; omega), List.getElem?_take, if_pos (by omega), List.getElem?_drop]
      congr 1
      omega
    constructor
    · rintro ⟨_, e⟩ i hi hi2 hi3
      have e2 : (w.drop k)[i + n - k]? = ((told1 (w.take k) (w.drop k) n).take (w.drop k).length)[i + n - k]? := by rw [← e]
      rw [List.getElem?_take, if_pos (by omega), ti _ (by omega) (by omega), List.getElem?_drop, show k + (i + n - k) = i + n by omega, show i + n - k + k - n = i by omega] at e2
      exact e2.symm
    · intro h
      refine ⟨by omega, List.ext_getElem? fun j => ?_⟩
      rw [List.getElem?_take, List.getElem?_drop]
      by_cases hj : j < (w.drop k).length
      · rw [if_pos hj]
        by_cases hj2 : n ≤ k + j
        · rw [ti j (by omega) hj2, h (j + k - n) (by omega) (by omega) (by omega)]
          congr 1
          omega
        · rw [tj j (by omega)]
      · rw [if_neg hj, List.getElem?_eq_none (by omega)]
  · rw [if_neg c1]
    have lbt : ((w.drop k).take n).length = n := by rw [List.length_take, lb]; omega
    by_cases c2 : (w.take k).length < n
    · rw [if_pos c2, lbt, la, Bool.and_eq_true, decide_eq_true_eq, decide_eq_true_eq]
      constructor
      · rintro ⟨_, e⟩ i hi hi2 hi3
        have e2 : (w.take k)[i]? = (((w.drop k).take n).drop (n - k))[i]? := by rw [← e]
        rw [List.getElem?_take, if_pos hi, List.getElem?_drop, List.getElem?_take, if_pos (by omega), List.getElem?_drop, show k + (n - k + i) = i + n by omega] at e2
        exact e2
      · intro h
        refine ⟨by omega, List.ext_getElem? fun i => ?_⟩
        rw [List.getElem?_take, List.getElem?_drop, List.getElem?_take, List.getElem?_drop]
        by_cases hi : i < k
        · rw [if_pos hi, if_pos (by omega), h i hi (by omega) (by omega)]
          congr 1
          omega
        · rw [if_neg hi, if_neg (by omega)]
    · rw [if_neg c2, lbt, la, Bool.and_eq_true, decide_eq_true_eq, decide_eq_true_eq]
      constructor
      · rintro ⟨_, e⟩ i hi hi2 hi3
        have e2 : ((w.drop k).take n)[i + n - k]? = ((w.take k).drop (k - n))[i + n - k]? := by rw [e]
        rw [List.getElem?_take, if_pos (by omega), List.getElem?_drop, List.getElem?_drop, List.getElem?_take, if_pos (by omega), show k + (i + n - k) = i + n by omega, show k - n + (i + n - k) = i by omega] at e2
        exact e2.symm
      · intro h
        refine ⟨by omega, List.ext_getElem? fun j => ?_⟩
        rw [List.getElem?_take, List.getElem?_drop, List.getElem?_drop, List.getElem?_take]
        by_cases hj : j < n
        · rw [if_pos hj, if_pos (by omega), h (k - n + j) (by omega) (by omega) (by omega)]
          congr 1
          omega
        · rw [if_neg hj, if_neg (by omega)]
/-- the order of lists, letters told by f -/
noncomputable def lexLt (f : Nat → Nat) : List Nat → List Nat → Bool
  | _, [] => false
  | [], _ :: _ => true
  | a :: x, b :: y => decide (f a < f b) || (decide (f a = f b) && lexLt f x y)
theorem lexLt_same (f : Nat → Nat) (y z : List Nat) : ∀ x : List Nat, lexLt f (x ++ y) (x ++ z) = lexLt f y z
  | [] => rfl
  | a :: x => by
    show (decide (f a < f a) || (decide (f a = f a) && lexLt f (x ++ y) (x ++ z))) = _
    rw [decide_eq_false (Nat.lt_irrefl _), decide_eq_true rfl, Bool.false_or, Bool.true_and]
    exact lexLt_same f y z x
theorem lexLt_len (f : Nat → Nat) : ∀ {x y : List Nat}, lexLt f x y = false → lexLt f y x = false → x.length = y.length
  | [], [], _, _ => rfl
  | [], _ :: _, h, _ => by cases h
  | _ :: _, [], _, h => by cases h
  | a :: x, b :: y, h, k => by
    have h : (decide (f a < f b) || (decide (f a = f b) && lexLt f x y)) = false := h
    have k : (decide (f b < f a) || (decide (f b = f a) && lexLt f y x)) = false := k
    rw [Bool.or_eq_false_iff, decide_eq_false_iff_not] at h k
    have e : f a = f b := by omega
    rw [decide_eq_true e, Bool.true_and] at h
    rw [decide_eq_true e.symm, Bool.true_and] at k
    rw [List.length_cons, List.length_cons, lexLt_len f h.2 k.2]
theorem lexLt_pre {f g : Nat → Nat} : ∀ {v z : List Nat}, (∀ a ∈ v, ∀ b ∈ z, f a < f b ∨ g a < g b ∨ a = b) → lexLt f v z = false → lexLt g v z = false → z = v.take z.length
  | _, [], _, _, _ => by rw [List.length_nil, List.take_zero]
  | [], _ :: _, _, h, _ => by cases h
  | a :: v, b :: z, hf, h, k => by
    have h : (decide (f a < f b) || (decide (f a = f b) && lexLt f v z)) = false := h
    have k : (decide (g a < g b) || (decide (g a = g b) && lexLt g v z)) = false := k
    rw [Bool.or_eq_false_iff, decide_eq_false_iff_not] at h k
    have e : a = b := by
      rcases hf a (.head _) b (.head _) with q | q | q
      · exact absurd q h.1
      · exact absurd q k.1
      · exact q
    subst e
    rw [decide_eq_true rfl, Bool.true_and] at h k
    rw [List.length_cons, List.take_succ_cons, ← lexLt_pre (fun a ha b hb => hf a (.tail _ ha) b (.tail _ hb)) h.2 k.2]
theorem lexLt_map (t : Nat → Nat) : ∀ x y : List Nat, lexLt id (x.map t) (y.map t) = lexLt t x y
  | [], [] => rfl
  | _ :: _, [] => rfl
  | [], _ :: _ => rfl
  | a :: x, b :: y => by
    show (decide (t a < t b) || (decide (t a = t b) && lexLt id (x.map t) (y.map t))) = _
    rw [lexLt_map t x y]
    rfl
/-- Cesari, Vincent; Crochemore, Perrin: the shorter greatest tail -/
theorem crit_core {f g : Nat → Nat} {w : List Nat} {k l n : Nat} (hfg : ∀ a ∈ w, ∀ b ∈ w, f a < f b ∨ g a < g b ∨ a = b) (hk : k < w.length) (hl : l ≤ k) (h1 : 0 < n)
    (hA : ∀ j, lexLt f (w.drop k) (w.drop j) = false) (hB : ∀ j, lexLt g (w.drop l) (w.drop j) = false) (hL : LocRep w k n) : PerOf w n := by
  by_cases c1 : n ≤ k
  · exfalso
    have q := hA (k - n)
    by_cases c2 : n ≤ w.length - k
    · have e : w.drop (k - n) = (w.drop k).take n ++ w.drop k := by
        refine List.ext_getElem? fun i => ?_
        rw [List.getElem?_drop]
        by_cases hi : i < n
        · rw [List.getElem?_append_left (by rw [List.length_take, List.length_drop]; omega), List.getElem?_take, if_pos hi, List.getElem?_drop, hL (k - n + i) (by omega) (by omega) (by omega)]
          congr 1; omega
        · rw [List.getElem?_append_right (by rw [List.length_take, List.length_drop]; omega), List.length_take, List.length_drop, List.getElem?_drop]
          congr 1; omega
      have e2 : w.drop k = (w.drop k).take n ++ w.drop (k + n) := by
        rw [← List.drop_drop, List.take_append_drop]
      have q2 : lexLt f (w.drop (k + n)) (w.drop k) = false := by
        rw [e] at q
        rw [← q]
        have e3 : lexLt f (w.drop k) ((w.drop k).take n ++ w.drop k) = lexLt f ((w.drop k).take n ++ w.drop (k + n)) ((w.drop k).take n ++ w.drop k) := by rw [← e2]
        rw [e3, lexLt_same]
      have q3 := lexLt_len f (hA (k + n)) q2
      rw [List.length_drop, List.length_drop] at q3
      omega
    · have e : w.drop (k - n) = w.drop k ++ w.drop (k - n + (w.length - k)) := by
        refine List.ext_getElem? fun i => ?_
        rw [List.getElem?_drop]
        by_cases hi : i < w.length - k
        · rw [List.getElem?_append_left (by rw [List.length_drop]; exact hi), List.getElem?_drop, hL (k - n + i) (by omega) (by omega) (by omega)]
          congr 1; omega
        · rw [List.getElem?_append_right (by rw [List.length_drop]; omega), List.length_drop, List.getElem?_drop]
          congr 1; omega
      rw [e] at q
      have e3 : lexLt f (w.drop k) (w.drop k ++ w.drop (k - n + (w.length - k))) = lexLt f (w.drop k ++ []) (w.drop k ++ w.drop (k - n + (w.length - k))) := by rw [List.append_nil]
      rw [e3, lexLt_same] at q
      have hl : (w.drop (k - n + (w.length - k))).length ≠ 0 := by rw [List.length_drop]; omega
      cases hc : w.drop (k - n + (w.length - k)) with
      | nil => rw [hc] at hl; exact hl rfl
      | cons a x => rw [hc] at q; cases q
  · by_cases c2 : n ≤ w.length - k
    · have e : w.drop (l + n) = (w.drop l).take (k - l) ++ w.drop (k + n) := by
        refine List.ext_getElem? fun i => ?_
        rw [List.getElem?_drop]
        by_cases hi : i < k - l
        · rw [List.getElem?_append_left (by rw [List.length_take, List.length_drop]; omega), List.getElem?_take, if_pos hi, List.getElem?_drop, hL (l + i) (by omega) (by omega) (by omega)]
          congr 1; omega
        · rw [List.getElem?_append_right (by rw [List.length_take, List.length_drop]; omega), List.length_take, List.length_drop, List.getElem?_drop]
          congr 1; omega
      have e2 : w.drop l = (w.drop l).take (k - l) ++ w.drop k := by
        have e4 : w.drop k = (w.drop l).drop (k - l) := by rw [List.drop_drop]; congr 1; omega
        rw [e4, List.take_append_drop]
      have q2 : lexLt g (w.drop k) (w.drop (k + n)) = false := by
        have q := hB (l + n)
        rw [e] at q
        rw [← q]
        have e3 : lexLt g (w.drop l) ((w.drop l).take (k - l) ++ w.drop (k + n)) = lexLt g ((w.drop l).take (k - l) ++ w.drop k) ((w.drop l).take (k - l) ++ w.drop (k + n)) := by rw [← e2]
        rw [e3, lexLt_same]
      have q3 := lexLt_pre (fun a ha b hb => hfg a (List.mem_of_mem_drop ha) b (List.mem_of_mem_drop hb)) (hA (k + n)) q2
      intro i hi
      by_cases hik : i < k
      · exact hL i hik (by omega) hi
      · have e5 : (w.drop (k + n))[i - k]? = ((w.drop k).take (w.drop (k + n)).length)[i - k]? := by rw [← q3]
        rw [List.getElem?_take, List.length_drop, if_pos (by omega), List.getElem?_drop, List.getElem?_drop, show k + n + (i - k) = i + n by omega, show k + (i - k) = i by omega] at e5
        exact e5.symm
    · intro i hi
      exact hL i (by omega) (by omega) hi
noncomputable def turn (c : Nat) : Nat := 255 - c
theorem crit {w : List Nat} {i j n : Nat} (hw : ∀ c ∈ w, c < 256) (hi : i < w.length) (hj : j < w.length) (h1 : 0 < n) (hn : n < w.length)
    (hA : ∀ m, lexLt id (w.drop i) (w.drop m) = false) (hB : ∀ m, lexLt id ((w.map turn).drop j) ((w.map turn).drop m) = false) (hL : LocRep w (max 1 (max i j)) n) : PerOf w n := by
  have hB' : ∀ m, lexLt turn (w.drop j) (w.drop m) = false := fun m => by
    rw [← lexLt_map, List.map_drop, List.map_drop]; exact hB m
  have hf : ∀ a ∈ w, ∀ b ∈ w, id a < id b ∨ turn a < turn b ∨ a = b := fun a ha b hb => by
    have q1 := hw a ha
    have q2 := hw b hb
    unfold turn id
    omega
  by_cases h0 : max i j = 0
  · have ei : i = 0 := by omega
    have ej : j = 0 := by omega
    subst ei ej
    have q := lexLt_pre (fun a ha b hb => hf a (List.mem_of_mem_drop ha) b (List.mem_of_mem_drop hb)) (hA n) (hB' n)
    rw [List.drop_zero, List.length_drop] at q
    exact (perOf_iff w n (by omega)).mp q
  · rw [show max 1 (max i j) = max i j by omega] at hL
    rcases Nat.le_total j i with q | q
    · rw [Nat.max_eq_left q] at hL
      exact crit_core hf hi q h1 hA hB' hL
    · rw [Nat.max_eq_right q] at hL
      exact crit_core (fun a ha b hb => by rcases hf a ha b hb with z | z | z; exact .inr (.inl z); exact .inl z; exact .inr (.inr z)) hj q h1 hB' hA hL
/-- what the law asks -/
theorem rep_period {w : List Nat} {p k : Nat} (hp : PerOf w p) (h0 : 0 < p) (hpl : p ≤ w.length) (hk : k ≤ w.length) : repF (w.take k) (w.drop k) p = true :=
  (repF_iff hk h0 hpl).mpr fun i _ _ hi => hp i hi
theorem rep_gap {w : List Nat} {i j n : Nat} (hw : ∀ c ∈ w, c < 256) (hi : i < w.length) (hj : j < w.length) (h1 : 0 < n) (hn : n < w.length) (hnp : ¬ PerOf w n) (h2 : 2 ≤ w.length)
    (hA : ∀ m, lexLt id (w.drop i) (w.drop m) = false) (hB : ∀ m, lexLt id ((w.map turn).drop j) ((w.map turn).drop m) = false) : repF (w.take (max 1 (max i j))) (w.drop (max 1 (max i j))) n = false := by
  cases e : repF (w.take (max 1 (max i j))) (w.drop (max 1 (max i j))) n with
  | false => rfl
  | true => exact absurd (crit hw hi hj h1 hn hA hB ((repF_iff (by omega) h1 (by omega)).mp e)) hnp

/-! the law -/
theorem numbers_ok (s : List Int) : ∃ ns : List Int, ns.length = 7 ∧ (∀ n ∈ ns, 0 ≤ n ∧ n < 1000000) ∧ List.map (fun x => Int.fmod x 1000000) (List.take 7 (List.take 7 s ++ [0, 2, 1, 0, 3, 1, 0])) = ns := by
  refine ⟨_, ?_, ?_, rfl⟩
  · rw [List.length_map, List.length_take, List.length_append]
    simp only [List.length_cons, List.length_nil]
    omega
  · intro n hn
    obtain ⟨x, _, rfl⟩ := List.mem_map.mp hn
    exact ⟨Int.fmod_nonneg_of_pos x (by decide), Int.fmod_lt_of_pos x (by decide)⟩
theorem pick_led {prog : Program} {w : World} {A : Around} {E : Value → Shared → Prop} {s : Shared} {h₀ : Heap} {L l : Addr} {news : List (Addr × Obj)} {its : List Value} {n : Nat} {Q : Value → Shared → Prop} {value slice : PySem.Expr} {k : Int} {u : Tok} (N : News h₀ L s.heap news) (hm : (l, listOf its.toArray n) ∈ news) (P : Value → Prop) (hall : ∀ v ∈ its, P v) (h0 : 0 ≤ k) (hk : k < (its.length : Int)) (hl : its.length ≤ 1000)
    (h : ∀ v, P v → Q v s) (hs : subscripted slice false (.ref l) (.int k u) = operate [.ref l, .int k u] (getItem (.ref l) (.int k u)) := by with_unfolding_all rfl) :
    wpAny (model prog w) A (subscriptTail value slice (.ref l) (.int k u)) Q E s := by
  have hlt : k.toNat < its.length := by omega
  have hx : its.toArray[k.toNat]? = some its[k.toNat] := by rw [List.getElem?_toArray, List.getElem?_eq_getElem hlt]
  exact item_led N hm h0 (by omega) hx (h _ (hall _ (List.getElem_mem hlt))) hs
noncomputable def TwoC (v : Value) : Prop := ∃ a b t, v = .str (mkS [a, b]) t ∧ a < 256 ∧ b < 256
theorem twoC {x : Str} {t : Tok} (a b : Nat) (h : x = mkS [a, b]) (ha : a < 256 := by decide) (hb : b < 256 := by decide) : TwoC (.str x t) := ⟨a, b, t, by rw [h], ha, hb⟩
theorem twoC_all {t1 t2 t3 t4 t5 t6 t7 t8 : Tok} : ∀ v ∈ [Value.str (Str.ofString "ab") t1, .str (Str.ofString "*?") t2, .str (Str.ofString "[]") t3, .str (Str.ofString "-\\") t4, .str (Str.ofString "!^") t5, .str (Str.ofString ".a") t6, .str (Str.ofString "\n&") t7, .str (Str.ofString "\x00ÿ") t8], TwoC v := by
  intro v hv
  simp only [List.mem_cons, List.not_mem_nil, or_false] at hv
  rcases hv with rfl | rfl | rfl | rfl | rfl | rfl | rfl | rfl
  · exact twoC 97 98 (by decide +kernel)
  · exact twoC 42 63 (by decide +kernel)
  · exact twoC 91 93 (by decide +kernel)
  · exact twoC 45 92 (by decide +kernel)
  · exact twoC 33 94 (by decide +kernel)
  · exact twoC 46 97 (by decide +kernel)
  · exact twoC 10 38 (by decide +kernel)
  · exact twoC 0 255 (by decide +kernel)
noncomputable def drawC (pa pb : Nat) (x : Int) : Nat := if Int.fdiv (Int.fmod x 5) 2 = 0 then pa else pb
noncomputable def drawG (pa pb : Nat) (x : Int) : Int := if Int.fmod x 5 < 4 then (drawC pa pb x : Int) else Int.fmod (Int.fdiv x 5) 256
theorem draw_at {pa pb : Nat} {x : Int} (h : Int.fmod x 5 < 4) : [pa, pb][(Int.fdiv (Int.fmod x 5) 2).toNat]? = some (drawC pa pb x) ∧ 0 ≤ Int.fdiv (Int.fmod x 5) 2 := by
  have h0 := Int.fmod_nonneg_of_pos x (b := 5) (by decide)
  unfold drawC
  generalize Int.fmod x 5 = y at *
  have : y = 0 ∨ y = 1 ∨ y = 2 ∨ y = 3 := by omega
  rcases this with rfl | rfl | rfl | rfl
  · exact ⟨rfl, by decide⟩
  · exact ⟨rfl, by decide⟩
  · exact ⟨rfl, by decide⟩
  · exact ⟨rfl, by decide⟩
theorem draw_in {pa pb : Nat} {x : Int} (ha : pa < 256) (hb : pb < 256) : 0 ≤ drawG pa pb x ∧ drawG pa pb x < 256 := by
  unfold drawG
  split
  · unfold drawC
    split <;> omega
  · exact ⟨Int.fmod_nonneg_of_pos _ (by decide), Int.fmod_lt_of_pos _ (by decide)⟩
theorem draw_yes {pa pb : Nat} {x : Int} (h : Int.fmod x 5 < 4) : drawG pa pb x = (drawC pa pb x : Int) := if_pos h
theorem draw_no {pa pb : Nat} {x : Int} (h : ¬ Int.fmod x 5 < 4) : drawG pa pb x = Int.fmod (Int.fdiv x 5) 256 := if_neg h
theorem drawn_ok {pa pb : Nat} {numbers : List Int} (h : numbers.length = 7) (ha : pa < 256) (hb : pb < 256) : ∃ ds : List Int, ds.length = 7 ∧ (∀ n ∈ ds, 0 ≤ n ∧ n < 256) ∧ numbers.map (drawG pa pb) = ds := by
  refine ⟨_, ?_, ?_, rfl⟩
  · rw [List.length_map, h]
  · intro n hn
    obtain ⟨x, _, rfl⟩ := List.mem_map.mp hn
    exact draw_in ha hb
theorem count_in {x : Int} (h0 : 0 ≤ x) (h1 : x < 7) : 1 ≤ [7, 3, 4, 2, 5, 1, 6].getD x.toNat (0 : Int) ∧ [7, 3, 4, 2, 5, 1, 6].getD x.toNat (0 : Int) ≤ 7 := by
  have : x = 0 ∨ x = 1 ∨ x = 2 ∨ x = 3 ∨ x = 4 ∨ x = 5 ∨ x = 6 := by omega
  rcases this with rfl | rfl | rfl | rfl | rfl | rfl | rfl <;> exact ⟨by decide, by decide⟩
theorem octets_ok {cnt : Int} {drawn : List Int} (h1 : 1 ≤ cnt) (hl : drawn.length = 7) (hb : ∀ n ∈ drawn, 0 ≤ n ∧ n < 256) : ∃ w : List Nat, w.length = 7 ∧ (∀ c ∈ w, c < 256) ∧ List.take 7 (List.flatten (List.replicate 7 (List.take (Int.toNat cnt) drawn))) = w.map fun c : Nat => (c : Int) := by
  have hX : ∀ n ∈ List.take 7 (List.flatten (List.replicate 7 (List.take (Int.toNat cnt) drawn))), 0 ≤ n ∧ n < 256 := by
    intro n hn
    obtain ⟨l, hl', hn'⟩ := List.mem_flatten.mp (List.mem_of_mem_take hn)
    rw [List.eq_of_mem_replicate hl'] at hn'
    exact hb n (List.mem_of_mem_take hn')
  have hlen : (List.take 7 (List.flatten (List.replicate 7 (List.take (Int.toNat cnt) drawn)))).length = 7 := by
    have h2 : 1 ≤ (List.take (Int.toNat cnt) drawn).length := by rw [List.length_take]; omega
    generalize List.take (Int.toNat cnt) drawn = l at h2
    rw [List.length_take, List.length_flatten]
    simp only [List.map_replicate, List.sum_replicate_nat]
    omega
  generalize List.take 7 (List.flatten (List.replicate 7 (List.take (Int.toNat cnt) drawn))) = X at hX hlen
  refine ⟨X.map Int.toNat, by rw [List.length_map, hlen], ?_, ?_⟩
  · intro c hc
    obtain ⟨n, hn, rfl⟩ := List.mem_map.mp hc
    have := hX n hn
    omega
  · rw [List.map_map]
    refine ((List.map_congr_left (g := id) fun n hn => ?_).trans (List.map_id _)).symm
    have := hX n hn
    show ((n.toNat : Nat) : Int) = n
    omega
theorem perm15 {h₀ h : Heap} {L : Addr} {x0 x1 x2 x3 x4 x5 x6 x7 x8 x9 xa xb xc xd xe : Addr × Obj} (N : News h₀ L h [x0, x1, x2, x3, x4, x5, x6, x7, x8, x9, xa, xb, xc, xd, xe]) : News h₀ L h (xe :: [x0, x2, x8, x9, xa, xb, xd]) := fun p hp => by
  refine N p ?_
  simp only [List.mem_cons, List.not_mem_nil, or_false] at hp ⊢
  rcases hp with h | h | h | h | h | h | h | h <;> simp [h]
section
variable {prog : Program} {w : World} {A : Around} {E : Value → Shared → Prop} {s : Shared} {env : Env} {h₀ : Heap} {x : Str} {body : List Stmt} {Q : Flow → Shared → Prop}
theorem range_inv {r : Addr} {a₀ b₀ : Int} {t₀ u₀ v₀ : Tok} {n : Nat} {m₀ : Str → Option Value} {news : List (Addr × Obj)} (Inv : Nat → (Str → Option Value) → List (Addr × Obj) → Prop)
    (hh : A.handled = none) (hr : IsRange s.heap r a₀ b₀ 1 t₀ u₀ v₀) (hsmall : Builtin.Range.small a₀ b₀ 1 = true) (hn : Builtin.Range.rangeSize a₀ b₀ 1 = (n : Int)) (F : Fr h₀ env.locals s.heap m₀) (N : News h₀ env.locals s.heap news) (h0 : Inv 0 m₀ news)
    (turn : ∀ I i m₁ news₁ t h tk, i < n → Inv i m₁ news₁ → (∀ p ∈ news₁, p.1 ≠ I) → Fr h₀ env.locals h (fun y => if y = x then some (.int (a₀ + (i : Int)) t) else m₁ y) →
      News h₀ env.locals h ((I, itR (a₀ + ((i + 1 : Nat) : Int)) ((n : Int) - ((i + 1 : Nat) : Int))) :: news₁) →
      wpAny (model prog w) A (execs body env) (UnrPost h₀ env.locals { s with heap := h, toks := tk } I (itR (a₀ + ((i + 1 : Nat) : Int)) ((n : Int) - ((i + 1 : Nat) : Int))) (Inv (i + 1)) Q) E { s with heap := h, toks := tk })
    (done : ∀ m₁ news₁ h tk, Inv n m₁ news₁ → Fr h₀ env.locals h m₁ → News h₀ env.locals h news₁ → Q .next { s with heap := h, toks := tk }) :
    wpAny (model prog w) A (pyIter (.ref r)) (fun it s₂ => LoopAtV prog w A h₀ env x body Q E it s₂) E s := by
  refine iter_rangeUnr hh hr hsmall hn F N fun I hI => ?_
  have key : ∀ (k i : Nat) (m₁ : Str → Option Value) (news₁ : List (Addr × Obj)), i + k = n → Inv i m₁ news₁ → (∀ p ∈ news₁, p.1 ≠ I) → RangeRest prog w A E h₀ env x body Q s I a₀ n k i m₁ news₁ := by
    intro k
    induction k with
    | zero =>
      intro i m₁ news₁ hi hv _
      obtain rfl : i = n := by omega
      exact RangeRest.zero fun h tk F' N' => done m₁ news₁ h tk hv F' N'
    | succ k ih =>
      intro i m₁ news₁ hi hv ho
      refine RangeRest.succ fun t h tk F' N' => ?_
      refine wpAny_mono (turn I i m₁ news₁ t h tk (by omega) hv ho F' N') (fun f s₂ p => ?_) fun _ _ e => e
      have fin : UnrEnd h₀ env.locals { s with heap := h, toks := tk } I (itR (a₀ + ((i + 1 : Nat) : Int)) ((n : Int) - ((i + 1 : Nat) : Int))) (Inv (i + 1)) s₂ →
          UnrEnd h₀ env.locals { s with heap := h, toks := tk } I (itR (a₀ + ((i + 1 : Nat) : Int)) ((n : Int) - ((i + 1 : Nat) : Int))) (RangeRest prog w A E h₀ env x body Q s I a₀ n k (i + 1)) s₂ := by
        rintro ⟨h', tk', m', news', e, F2, N2, off, r⟩
        exact ⟨h', tk', m', news', e, F2, N2, off, ih (i + 1) m' news' (by omega) r off⟩
      cases f with
      | ret v => exact p
      | brk => exact p
      | next => exact fin p
      | cont => exact fin p
  exact key n 0 m₀ news (by omega) h0 fun p hp => Nat.ne_of_lt (hI p hp)
end
theorem perm_s5 {h₀ h : Heap} {L : Addr} {xl x0 x1 x2 x3 x4 x5 x6 x7 : Addr × Obj} {ext cx : List (Addr × Obj)} (N : News h₀ L h (xl :: (ext ++ x0 :: [x1, x2, x3, x4, x5, x6, x7]))) (hc : ∀ x ∈ cx, x ∈ ext) : News h₀ L h (x7 :: x0 :: x2 :: x3 :: x4 :: x5 :: x6 :: cx) := fun p hp => by
  refine N p ?_
  simp only [List.mem_cons, List.mem_append, List.not_mem_nil, or_false] at hp ⊢
  rcases hp with h | h | h | h | h | h | h | h
  all_goals first | (simp [h]; done) | simp [hc p h]
theorem T2.above {q : Str} {ps : Array Value} {cx : List (Addr × Obj)} (h : T2 q ps cx) : ∀ x ∈ cx, 85 < x.1 := by
  rcases h with ⟨_, rfl⟩ | ⟨a1, a2, oc, vs, t, _, rfl, _, _, h⟩
  · exact fun _ hx => nomatch hx
  · intro x hx
    rw [List.mem_singleton.mp hx]
    exact h
/-! the first loop -/
theorem smul {prog : Program} {w : World} {A : Around} {E : Value → Shared → Prop} {s : Shared} {n : Nat} {t u : Tok} {Q : Value → Shared → Prop} (h1 : 0 < n) (hn : n ≤ 7) (h : ∀ t' k, Q (.str (mkS (List.replicate n 63)) t') { s with toks := k }) :
    wpAny (model prog w) A (binaryOp .Mult (.str (Str.ofString "?") t) (.int (n : Int) u)) Q E s := by
  have c : n = 1 ∨ n = 2 ∨ n = 3 ∨ n = 4 ∨ n = 5 ∨ n = 6 ∨ n = 7 := by omega
  have hm : ∀ k : Nat, (k = 1 ∨ k = 2 ∨ k = 3 ∨ k = 4 ∨ k = 5 ∨ k = 6 ∨ k = 7) → Txt.mul (Str.ofString "?") (k : Int) = mkS (List.replicate k 63) := by
    rintro k (rfl | rfl | rfl | rfl | rfl | rfl | rfl) <;> decide +kernel
  have ho : ∀ k : Nat, (k = 1 ∨ k = 2 ∨ k = 3 ∨ k = 4 ∨ k = 5 ∨ k = 6 ∨ k = 7) → MulOk (Str.ofString "?") (k : Int) := by
    rintro k (rfl | rfl | rfl | rfl | rfl | rfl | rfl) <;> (unfold MulOk; decide +kernel)
  refine SB.mul (ho n c) ?_
  rw [hm n c]
  exact h
noncomputable def FitsAt (wd : List Nat) (i : Nat) (V : List Value) : Prop :=
  (V = [] ∧ ∀ n, 0 < n → n ≤ i → ¬ PerOf wd n) ∨ ∃ (p : Nat) (t : Tok), V = [.int (p : Int) t] ∧ 0 < p ∧ p ≤ i ∧ PerOf wd p ∧ ∀ n, 0 < n → n < p → ¬ PerOf wd n
theorem pats_any (n : Nat) (x : List Nat) : List.replicate n 63 ++ plainF x = pats (List.replicate n .any ++ litsT x) := by
  rw [pats_append, pats_lits]
  congr 1
  induction n with
  | zero => rfl
  | succ n ih => rw [List.replicate_succ, List.replicate_succ, ih]; rfl
theorem row_any (n : Nat) (x : List Nat) : rowOf (List.replicate n .any ++ litsT x) = List.replicate n none ++ x.map some := by
  induction n with
  | zero => exact row_lits x
  | succ n ih =>
    rw [List.replicate_succ, List.replicate_succ, List.cons_append, List.cons_append, ← ih]
    rfl
theorem any_plain (n : Nat) (x : List Nat) : plainT (List.replicate n .any ++ litsT x) := fun t ht => by
  rcases List.mem_append.mp ht with h | h
  · rw [List.eq_of_mem_replicate h]; nofun
  · exact plain_lits x t h
theorem any_lit {n : Nat} {x : List Nat} (h : ∀ c ∈ x, c < 256) : ∀ c, Tk.lit c ∈ List.replicate n .any ++ litsT x → c < 256 := fun c hc => by
  rcases List.mem_append.mp hc with hc | hc
  · exact nomatch List.eq_of_mem_replicate hc
  · exact lit_lits h c hc
theorem fits_per {wd : List Nat} {n : Nat} (hn : n ≤ wd.length) : fitsRow (rowOf (List.replicate n .any ++ litsT (wd.take (wd.length - n)))) wd = decide (wd.drop n = wd.take (wd.length - n)) := by
  rw [row_any, fits_any]
  refine decide_eq_decide.mpr ⟨fun h => h.2, fun h => ⟨?_, h⟩⟩
  rw [List.length_take]
  omega
theorem star_plain {ts tA tB : List Tk} (h : plainT ts) (e : ts = tA ++ .star :: tB) : False := h .star (by rw [e]; exact List.mem_append_right _ (.head _)) rfl
theorem shadow {x : Str} {v u : Option Value} {f : Str → Option Value} : (fun y => if y = x then v else (if y = x then u else f y)) = fun y => if y = x then v else f y := by
  funext y
  by_cases h : y = x <;> simp [h]
theorem split_rest {h₀ h : Heap} {L : Addr} {x0 x1 : Addr × Obj} {r : List (Addr × Obj)} (N : News h₀ L h (x0 :: x1 :: r)) : ∃ rest, rest = r ∧ News h₀ L h (x0 :: x1 :: rest) := ⟨r, rfl, N⟩
theorem unshadow {x : Str} {f : Str → Option Value} : f = fun y => if y = x then f x else f y := by
  funext y
  by_cases h : y = x
  · rw [if_pos h, h]
  · rw [if_neg h]
theorem perm_71 {h₀ h : Heap} {L : Addr} {xI xl x7 : Addr × Obj} {r own : List (Addr × Obj)} (N : News h₀ L h (own ++ xI :: xl :: x7 :: r)) : News h₀ L h (x7 :: xI :: xl :: r) := fun p hp => by
  refine N p (List.mem_append_right _ ?_)
  simp only [List.mem_cons] at hp ⊢
  rcases hp with h | h | h | h <;> simp [h]
theorem sub_I {xI xl x7 : Addr × Obj} {r : List (Addr × Obj)} : ∀ p ∈ xI :: xl :: x7 :: r, p ∈ x7 :: xI :: xl :: r := fun p hp => by
  simp only [List.mem_cons] at hp ⊢
  rcases hp with h | h | h | h <;> simp [h]
theorem off_I {I : Addr} {xl x7 : Addr × Obj} {r : List (Addr × Obj)} (h1 : xl.1 ≠ I) (h2 : x7.1 ≠ I) (h3 : ∀ p ∈ r, p.1 ≠ I) : ∀ p ∈ xl :: x7 :: r, p.1 ≠ I := ne_cons h1 (ne_cons h2 h3)

/-! lists of ints compared; the greatest of a list of lists; its place -/
open PySem.MeetsSeq3 PySem.SeqAt in
theorem gt_loop (l b : Addr) (V W : List Value) (x y : List Nat) (hx : IntsAre V (x.map fun c : Nat => (c : Int))) (hy : IntsAre W (y.map fun c : Nat => (c : Int))) (n n2 : Nat) (dd dd2 : Option Addr) (sl sl2 : Array (Option Value)) (k : Nat) :
    ∀ i : Nat, x.length - i = k → i ≤ x.length → i ≤ y.length → Meets (Builtin.«list.__eq__.loop» ⟨[.ref l, .ref b, rawInt i, rawInt 4], []⟩)
      (fun _ R s => s.heap.get? l = some { cls := .type "list", dict := dd, data := .seq V.toArray n, slots := sl } ∧ s.heap.get? b = some { cls := .type "list", dict := dd2, data := .seq W.toArray n2, slots := sl2 } ∧
        R (.ok (.ret (.bool (lexLt id (y.drop i) (x.drop i))))) s) := by
  have hxl : V.length = x.length := by rw [hx.length, List.length_map]
  have hyl : W.length = y.length := by rw [hy.length, List.length_map]
  induction k with
  | zero =>
    intro i hk hi hj prog w A R s h
    obtain ⟨hp, g, d, tk, os⟩ := s
    obtain ⟨hl, hb, h⟩ := h
    have hix : i = x.length := by omega
    wp_walk using PySem.AutoSeq1.wpAny_loadPart' hl, PySem.AutoSeq1.wpAny_loadPart' hb
    have e1 : V.toArray[((i : Nat) : Int).toNat]? = none := by simp; omega
    rw [e1]
    wp_walk using PySem.AutoSeq1.wpAny_loadPart' hl, PySem.AutoSeq1.wpAny_loadPart' hb
    have hb2 : lexLt id (y.drop i) (x.drop i) = false := by
      rw [hix, List.drop_length]
      cases y.drop x.length <;> rfl
    rw [hb2] at h
    show R (.ok (.ret (.bool (decide (V.toArray.size > W.toArray.size))))) _
    rw [decide_eq_false (by rw [List.size_toArray, List.size_toArray]; omega)]
    exact h
  | succ k ih =>
    intro i hk hi hj prog w A R s h
    obtain ⟨hp, g, d, tk, os⟩ := s
    obtain ⟨hl, hb, h⟩ := h
    have hlt : i < x.length := by omega
    obtain ⟨tx, hvx⟩ := hx.get i (x[i] : Int) (by rw [List.getElem?_map, List.getElem?_eq_getElem hlt]; rfl)
    have e1 : V.toArray[((i : Nat) : Int).toNat]? = some (.int (x[i] : Int) tx) := by rw [Int.toNat_natCast, List.getElem?_toArray, hvx]
    by_cases hlt2 : i < y.length
    · obtain ⟨ty, hvy⟩ := hy.get i (y[i] : Int) (by rw [List.getElem?_map, List.getElem?_eq_getElem hlt2]; rfl)
      have e2 : W.toArray[((i : Nat) : Int).toNat]? = some (.int (y[i] : Int) ty) := by rw [Int.toNat_natCast, List.getElem?_toArray, hvy]
      wp_walk using PySem.AutoSeq1.wpAny_loadPart' hl, PySem.AutoSeq1.wpAny_loadPart' hb
      rw [e1, e2]
      refine wpAny_bind ((EqAt.int_int (x[i] : Int) tx (y[i] : Int) ty) prog w _ _ ?_)
      rw [List.drop_eq_getElem_cons hlt, List.drop_eq_getElem_cons hlt2] at h
      have hu : lexLt id (y[i] :: y.drop (i + 1)) (x[i] :: x.drop (i + 1)) = (decide (y[i] < x[i]) || (decide (y[i] = x[i]) && lexLt id (y.drop (i + 1)) (x.drop (i + 1)))) := rfl
      rw [hu] at h
      by_cases he : x[i] = y[i]
      · rw [he, decide_eq_false (Nat.lt_irrefl _), decide_eq_true rfl, Bool.false_or, Bool.true_and] at h
        rw [he, beq_self_eq_true, if_pos rfl, show ((i : Nat) : Int) + 1 = ((i + 1 : Nat) : Int) by omega]
        wp_walk
        exact ⟨plainId_quiet plain_eq_loop _, codeAny_builtin entry_eq_loop (by
          rw [Around.under_plainId plain_eq_loop _]
          exact ih (i + 1) (by omega) (by omega) (by omega) prog w A R _ ⟨hl, hb, h⟩)⟩
      · have hn : (((x[i] : Nat) : Int) == ((y[i] : Nat) : Int)) = false := beq_eq_false_iff_ne.mpr (by omega)
        rw [decide_eq_false (p := y[i] = x[i]) (fun q => he q.symm), Bool.false_and, Bool.or_false] at h
        rw [hn, if_neg (by decide)]
        wp_walk using PySem.AutoSeq1.wpAny_loadPart' hl, PySem.AutoSeq1.wpAny_loadPart' hb
        rw [e1, e2]
        dsimp only
        refine wpAny_bind (CmpOf.ints_gt (P := fun j v => ∃ t, v = .int (if j = 0 then (x[i] : Int) else (y[i] : Int)) t) (fun j => if j = 0 then (x[i] : Int) else (y[i] : Int)) (fun j v h => h) 0 1 _ _ _ _ _ ⟨tx, rfl⟩ ⟨ty, rfl⟩ ?_)
        refine wpAny_pure ?_
        have hd : decide ((x[i] : Int) > (y[i] : Int)) = decide (y[i] < x[i]) := decide_eq_decide.mpr (by omega)
        show R (.ok (.ret (.bool (decide ((x[i] : Int) > (y[i] : Int)))))) _
        rw [hd]
        exact h
    · wp_walk using PySem.AutoSeq1.wpAny_loadPart' hl, PySem.AutoSeq1.wpAny_loadPart' hb
      have e2 : W.toArray[((i : Nat) : Int).toNat]? = none := by simp; omega
      rw [e1, e2]
      wp_walk using PySem.AutoSeq1.wpAny_loadPart' hl, PySem.AutoSeq1.wpAny_loadPart' hb
      have hb2 : lexLt id (y.drop i) (x.drop i) = true := by
        rw [show i = y.length by omega, List.drop_length, List.drop_eq_getElem_cons (by omega)]
        rfl
      rw [hb2] at h
      show R (.ok (.ret (.bool (decide (V.toArray.size > W.toArray.size))))) _
      rw [decide_eq_true (by rw [List.size_toArray, List.size_toArray]; omega)]
      exact h
open PySem.MeetsSeq3 PySem.SeqAt in
theorem list_gt (l b : Addr) (V W : List Value) (x y : List Nat) (hx : IntsAre V (x.map fun c : Nat => (c : Int))) (hy : IntsAre W (y.map fun c : Nat => (c : Int))) (n n2 : Nat) (dd dd2 : Option Addr) (sl sl2 : Array (Option Value)) :
    Meets (Builtin.«list.__gt__» ⟨[.ref l, .ref b], []⟩)
      (fun _ R s => s.heap.get? l = some { cls := .type "list", dict := dd, data := .seq V.toArray n, slots := sl } ∧ s.heap.get? b = some { cls := .type "list", dict := dd2, data := .seq W.toArray n2, slots := sl2 } ∧
        R (.ok (.ret (.bool (lexLt id y x)))) s) := by
  intro prog w A R s h
  obtain ⟨hp, g, d, tk, os⟩ := s
  obtain ⟨hl, hb, h⟩ := h
  have f3 := PySem.AutoSeq1.sub_list_list
  wp_walk using PySem.AutoSeq1.wpAny_loadPart' hl, PySem.AutoSeq1.wpAny_loadPart' hb
  exact ⟨plainId_quiet plain_eq_loop _, codeAny_builtin entry_eq_loop (by
    rw [Around.under_plainId plain_eq_loop _]
    exact gt_loop l b V W x y hx hy n n2 dd dd2 sl sl2 _ 0 rfl (Nat.zero_le _) (Nat.zero_le _) prog w A R _ ⟨hl, hb, h⟩)⟩
theorem gt_lists {prog : Program} {w : World} {A : Around} {E : Value → Shared → Prop} {s : Shared} {l b : Addr} {V W : List Value} {x y : List Nat} {Q : Value → Shared → Prop} (hl : s.heap.IsList l V.toArray) (hb : s.heap.IsList b W.toArray) (hx : IntsAre V (x.map fun c : Nat => (c : Int))) (hy : IntsAre W (y.map fun c : Nat => (c : Int))) (hu : A.units < cLine)
    (h : Q (.bool (lexLt id y x)) s) : wpAny (model prog w) A (richCompare .Gt (.ref l) (.ref b)) Q E s := by
  obtain ⟨⟨cls, dd, data, sl⟩, ho, hc, n, hd⟩ := id hl
  obtain ⟨⟨cls2, dd2, data2, sl2⟩, ho2, hc2, n2, hd2⟩ := id hb
  simp only at hc hd hc2 hd2
  subst hc hd hc2 hd2
  exact richCompare_meets_room (op := .Gt) ⟨_, ho, rfl⟩ ⟨_, ho2, rfl⟩ F.slot_list_gt F.entry_list_gt (F.args_list_gt_2 _ _) (list_gt l b V W x y hx hy n n2 dd dd2 sl sl2)
    ⟨ho, ho2, show Value.bool (lexLt id y x) ≠ Value.notImplemented ∧ Q (.bool (lexLt id y x)) s from ⟨(fun x => nomatch x), h⟩⟩ hu
/-- all objects of a list stand in the heap -/
noncomputable def Stand (G : List (Addr × Obj)) (h : Heap) : Prop := ∀ q ∈ G, h.get? q.1 = some q.2
section
variable {prog : Program} {w : World} {A : Around}
/-- the place of the greatest, as max's loop finds it -/
noncomputable def topAt (bt : Nat → Nat → Bool) : Nat → Nat
  | 0 => 0
  | k + 1 => if bt (k + 1) (topAt bt k) then k + 1 else topAt bt k
theorem max_turns {R : Result → Shared → Prop} {I S l : Addr} {vs : List Value} {G : List (Addr × Obj)} {bt : Nat → Nat → Bool} (hh : A.handled = none) (hlI : l ≠ I) (hSI : S ≠ I) (hSl : S ≠ l) (hG : ∀ q ∈ G, q.1 ≠ I ∧ q.1 ≠ S)
    (cmp : ∀ (s : Shared) (i j : Nat) (vi vj : Value) (Q E : Value → Shared → Prop), Stand G s.heap → vs[i]? = some vi → vs[j]? = some vj → Q (.bool (bt i j)) s → wpAny (model prog w) A.in1 (richCompare .Gt vi vj) Q E s) :
    ∀ (k j : Nat) (s : Shared) (vb : Value) (c : Nat), vs.length - (j + 1) = k → j + 1 ≤ vs.length → s.heap.IsListIter I l (j + 1) → s.heap.IsList l vs.toArray → Stand G s.heap → vs[topAt bt j]? = some vb →
      s.heap.get? S = some { cls := .type "list", dict := none, data := .seq #[vb, vb] c, slots := #[] } →
      (∀ v h' tk, vs[topAt bt (vs.length - 1)]? = some v → (∀ b o, b ≠ I → b ≠ S → s.heap.get? b = some o → h'.get? b = some o) → R (.ok (.ret v)) { s with heap := h', toks := tk }) →
      codeAny (model prog w) A (.builtin "max.loop" ⟨[.ref I, .none, .ref S], []⟩) R s := by
  have hname : (toString "max" ++ toString ".loop" : String) = "max.loop" := by decide
  have W := Walks.list (prog := prog) (w := w) (A := A.in1) hh I l hlI vs.toArray
  have hsz : vs.toArray.size = vs.length := List.size_toArray
  intro k
  induction k with
  | zero =>
    intro j s vb c hk hj hit hl hst hvb hS hR
    refine codeAny_builtin PySem.F.entry_max_loop ?_
    rw [Around.under_plainId PySem.F.plain_max_loop _]
    show wpAny _ A.in1 (seqItems? (.ref S) >>= _) _ _ s
    refine wpAny_bind (wpAny_seqItems hS rfl ?_)
    show wpAny _ A.in1 (tryCatch (pyNext (.ref I)) _ >>= _) _ _ s
    refine wpAny_bind (wpAny_tryCatch (W.done s _ _ ⟨by rw [hsz, show vs.length = j + 1 by omega]; exact hit, hl⟩ fun h' tk hk' => ?_))
    have hS' := hk' S _ (by simpa using hSI) hS
    show wpAny _ A.in1 (updateSeq S (fun _ => #[]) >>= _) _ _ _
    refine wpAny_bind ?_
    refine wpAny_updateSeq hS' rfl (wpAny_bind (wpAny_letGo (wpAny_pure ?_)))
    exact hR vb _ tk (by rw [show vs.length - 1 = j by omega]; exact hvb) fun b o hbI hbS e => (Heap.get?_update_other _ _ (Ne.symm hbS)).trans (hk' b o (by simpa using hbI) e)
  | succ k ih =>
    intro j s vb c hk hj hit hl hst hvb hS hR
    have hlt : j + 1 < vs.length := by omega
    refine codeAny_builtin PySem.F.entry_max_loop ?_
    rw [Around.under_plainId PySem.F.plain_max_loop _]
    show wpAny _ A.in1 (seqItems? (.ref S) >>= _) _ _ s
    refine wpAny_bind (wpAny_seqItems hS rfl ?_)
    show wpAny _ A.in1 (tryCatch (pyNext (.ref I)) _ >>= _) _ _ s
    refine wpAny_bind (wpAny_tryCatch (W.item (j + 1) s _ _ (by rw [hsz]; exact hlt) ⟨hit, hl⟩ fun v h' tk hP hst' hk' => ?_))
    have hv : vs[j + 1]? = some v := by simpa using hP
    have hS' := hk' S _ (by simpa using hSI) hS
    have hG' : Stand G h' := fun q hq => hk' _ _ (by simpa using (hG q hq).1) (hst q hq)
    show wpAny _ A.in1 (tryCatch (holding [v, v] (richCompare .Gt v vb >>= _)) _ >>= _) _ _ _
    refine wpAny_bind (wpAny_tryCatch (wpAny_holding (wpAny_bind (cmp _ (j + 1) (topAt bt j) v vb _ _ hG' hv hvb ?_))))
    refine wpAny_bind (wpAny_holding (wpAny_truthy_bool ?_))
    refine wpAny_bind (wpAny_letGo (wpAny_pure ?_))
    cases hb : bt (j + 1) (topAt bt j) with
    | true =>
      simp only [if_true]
      refine wpAny_bind ?_
      refine wpAny_updateSeq hS' rfl (wpAny_bind (wpAny_letGo ?_))
      rw [hname]
      have up : ∀ b o, b ≠ S → h'.get? b = some o → (h'.update S (Obj.mapSeq fun _ => #[v, v])).get? b = some o := fun b o hbS e => (Heap.get?_update_other _ _ (Ne.symm hbS)).trans e
      refine wpAny_pure ⟨plainId_quiet PySem.F.plain_max_loop _, ih (j + 1) _ v _ (by omega) hlt ?_ ?_ ?_ (by simp only [topAt, hb, if_true]; exact hv) (Heap.get?_update_self _ hS' rfl) fun v' h'' tk'' hP' hk'' => ?_⟩
      · obtain ⟨o, e, r⟩ := hst'.1
        exact ⟨o, up _ _ hSI.symm e, r⟩
      · obtain ⟨o, e, r⟩ := hst'.2
        exact ⟨o, up _ _ hSl.symm e, r⟩
      · exact fun q hq => up _ _ (hG q hq).2 (hG' q hq)
      · exact hR v' h'' tk'' hP' fun b o hbI hbS e => hk'' b o hbI hbS (up _ _ hbS (hk' b o (by simpa using hbI) e))
    | false =>
      simp only [Bool.false_eq_true, if_false]
      refine wpAny_bind (wpAny_letGo ?_)
      rw [hname]
      refine wpAny_pure ⟨plainId_quiet PySem.F.plain_max_loop _, ih (j + 1) _ vb c (by omega) hlt hst'.1 hst'.2 hG' (by simp only [topAt, hb, Bool.false_eq_true, if_false]; exact hvb) hS' fun v' h'' tk'' hP' hk'' => ?_⟩
      exact hR v' h'' tk'' hP' fun b o hbI hbS e => hk'' b o hbI hbS (hk' b o (by simpa using hbI) e)
end
section
variable {prog : Program} {w : World} {A : Around} {E : Value → Shared → Prop} {s : Shared}
theorem max_lists {l : Addr} {vs : List Value} {G : List (Addr × Obj)} {bt : Nat → Nat → Bool} {Q : Value → Shared → Prop} (hh : A.handled = none) (hl : s.heap.IsList l vs.toArray) (hG : Stand G s.heap) (hne : 0 < vs.length)
    (cmp : ∀ (s : Shared) (i j : Nat) (vi vj : Value) (Q E : Value → Shared → Prop), Stand G s.heap → vs[i]? = some vi → vs[j]? = some vj → Q (.bool (bt i j)) s → wpAny (model prog w) A.in1 (richCompare .Gt vi vj) Q E s)
    (hQ : ∀ v h' tk, vs[topAt bt (vs.length - 1)]? = some v → (∀ b o, s.heap.get? b = some o → h'.get? b = some o) → Q v { s with heap := h', toks := tk }) : wpAny (model prog w) A (call (.builtin "max") [.ref l]) Q E s := by
  have hname : (toString "max" ++ toString ".loop" : String) = "max.loop" := by decide
  have hll : l < s.heap.objs.size := by
    obtain ⟨_, e, _⟩ := hl
    exact Heap.lt_size e
  have hsz : vs.toArray.size = vs.length := List.size_toArray
  refine call_function_tree PySem.F.kind_max PySem.F.plain_max PySem.F.entry_max (PySem.F.args_max1 _) ?_
  show wpAny _ A.in1 (Builtin.Builtins.bindParams "max" ["key", "default"] 0 ⟨[], []⟩ >>= _) _ _ s
  refine wpAny_bind (wpAny_of_eq (show Builtin.Builtins.bindParams "max" ["key", "default"] 0 ⟨[], []⟩ = pure [none, none] from rfl) ?_)
  refine wpAny_bind (wpAny_pure ?_)
  refine wpAny_bind (wpAny_pyIter_list hl ?_)
  refine wpAny_bind (wpAny_newObj_type ?_)
  rw [hname]
  have hS : (s.heap.push { cls := .type "list_iterator", data := .fields #[.ref l, .int 0 0] }).objs.size = s.heap.objs.size + 1 := Heap.size_push ..
  have up : ∀ b o, s.heap.get? b = some o → ((s.heap.push { cls := .type "list_iterator", data := .fields #[.ref l, .int 0 0] }).push { cls := .type "list", data := .seq #[] }).get? b = some o := fun b o e => Heap.get?_push_of_some _ (Heap.get?_push_of_some _ e)
  have hlI : l ≠ s.heap.objs.size := Nat.ne_of_lt hll
  generalize hSe : (s.heap.push { cls := .type "list_iterator", data := .fields #[.ref l, .int 0 0] }).objs.size = S at hS
  have hSI : S ≠ s.heap.objs.size := by rw [hS]; exact Nat.ne_of_gt (Nat.lt_succ_self _)
  have hSl : S ≠ l := by rw [hS]; exact Nat.ne_of_gt (Nat.lt_succ_of_lt hll)
  have hGa : ∀ q ∈ G, q.1 ≠ s.heap.objs.size ∧ q.1 ≠ S := fun q hq => by
    have := Heap.lt_size (hG q hq)
    rw [hS]
    exact ⟨Nat.ne_of_lt this, Nat.ne_of_lt (Nat.lt_succ_of_lt this)⟩
  have W := Walks.list (prog := prog) (w := w) (A := A.in1) hh s.heap.objs.size l hlI vs.toArray
  refine wpAny_pure ⟨plainId_quiet PySem.F.plain_max_loop _, ?_⟩
  refine codeAny_builtin PySem.F.entry_max_loop ?_
  rw [Around.under_plainId PySem.F.plain_max_loop _]
  have gS : ((s.heap.push { cls := .type "list_iterator", data := .fields #[.ref l, .int 0 0] }).push { cls := .type "list", data := .seq #[] }).get? S = some { cls := .type "list", data := .seq #[] } := by
    rw [← hSe]; exact Heap.get?_push_size _ rfl
  have gI : ((s.heap.push { cls := .type "list_iterator", data := .fields #[.ref l, .int 0 0] }).push { cls := .type "list", data := .seq #[] }).get? s.heap.objs.size = some { cls := .type "list_iterator", data := .fields #[.ref l, .int 0 0] } := Heap.get?_push_of_some _ (Heap.get?_push_size _ rfl)
  show wpAny _ A.in1 (seqItems? (.ref S) >>= _) _ _ _
  refine wpAny_bind (wpAny_seqItems gS rfl ?_)
  show wpAny _ A.in1 (tryCatch (pyNext (.ref s.heap.objs.size)) _ >>= _) _ _ _
  refine wpAny_bind (wpAny_tryCatch (W.item 0 _ _ _ (by rw [hsz]; exact hne) ⟨⟨_, gI, rfl, rfl⟩, ?_⟩ fun v h' tk hP hst' hk' => ?_))
  · obtain ⟨o, e, r⟩ := hl
    exact ⟨o, up _ _ e, r⟩
  have hv : vs[0]? = some v := by simpa using hP
  have hS' := hk' S _ (by simpa using hSI) gS
  show wpAny _ A.in1 (updateSeq S (fun _ => #[v, v]) >>= _) _ _ _
  refine wpAny_bind ?_
  refine wpAny_updateSeq hS' rfl ?_
  rw [hname]
  have up2 : ∀ b o, b ≠ S → h'.get? b = some o → (h'.update S (Obj.mapSeq fun _ => #[v, v])).get? b = some o := fun b o hbS e => (Heap.get?_update_other _ _ (Ne.symm hbS)).trans e
  refine wpAny_pure ⟨plainId_quiet PySem.F.plain_max_loop _, max_turns hh hlI hSI hSl hGa cmp _ 0 _ v _ rfl hne ?_ ?_ ?_ hv (Heap.get?_update_self _ hS' rfl) fun v' h'' tk'' hP' hk'' => ?_⟩
  · obtain ⟨o, e, r⟩ := hst'.1
    exact ⟨o, up2 _ _ hSI.symm e, r⟩
  · obtain ⟨o, e, r⟩ := hst'.2
    exact ⟨o, up2 _ _ hSl.symm e, r⟩
  · exact fun q hq => up2 _ _ (hGa q hq).2 (hk' _ _ (by simpa using (hGa q hq).1) (up _ _ (hG q hq)))
  · refine hQ v' h'' tk'' hP' fun b o e => ?_
    have hlt := Heap.lt_size e
    have hbI : b ≠ s.heap.objs.size := Nat.ne_of_lt hlt
    have hbS : b ≠ S := by rw [hS]; exact Nat.ne_of_lt (Nat.lt_succ_of_lt hlt)
    exact hk'' b o hbI hbS (up2 _ _ hbS (hk' b o (by simpa using hbI) (up _ _ e)))
end
theorem lexLt_trans (f : Nat → Nat) : ∀ {x y z : List Nat}, lexLt f x y = true → lexLt f y z = true → lexLt f x z = true
  | [], [], _, h, _ => by cases h
  | _ :: _, [], _, h, _ => by cases h
  | _, _ :: _, [], _, h => by cases h
  | [], _ :: _, _ :: _, _, _ => rfl
  | a :: x, b :: y, c :: z, h, k => by
    have h : (decide (f a < f b) || (decide (f a = f b) && lexLt f x y)) = true := h
    have k : (decide (f b < f c) || (decide (f b = f c) && lexLt f y z)) = true := k
    show (decide (f a < f c) || (decide (f a = f c) && lexLt f x z)) = true
    rw [Bool.or_eq_true, Bool.and_eq_true, decide_eq_true_eq, decide_eq_true_eq] at h k ⊢
    rcases h with h | ⟨h1, h2⟩
    · rcases k with k | ⟨k1, k2⟩
      · exact .inl (by omega)
      · exact .inl (by omega)
    · rcases k with k | ⟨k1, k2⟩
      · exact .inl (by omega)
      · exact .inr ⟨by omega, lexLt_trans f h2 k2⟩
theorem lexLt_irrefl (f : Nat → Nat) : ∀ x : List Nat, lexLt f x x = false
  | [] => rfl
  | a :: x => by
    show (decide (f a < f a) || (decide (f a = f a) && lexLt f x x)) = false
    rw [decide_eq_false (Nat.lt_irrefl _), lexLt_irrefl f x, Bool.and_false, Bool.or_false]
theorem lexLt_nil (f : Nat → Nat) (x : List Nat) : lexLt f x [] = false := by cases x <;> rfl
theorem topAt_le (bt : Nat → Nat → Bool) : ∀ k, topAt bt k ≤ k
  | 0 => Nat.le_refl _
  | k + 1 => by
    show (if bt (k + 1) (topAt bt k) then k + 1 else topAt bt k) ≤ k + 1
    have := topAt_le bt k
    split <;> omega
theorem topAt_max (T : Nat → List Nat) : ∀ k m, m ≤ k → lexLt id (T (topAt (fun i j => lexLt id (T j) (T i)) k)) (T m) = false
  | 0, m, h => by
    rw [Nat.le_zero.mp h]
    exact lexLt_irrefl _ _
  | k + 1, m, h => by
    have ih := topAt_max T k
    show lexLt id (T (if lexLt id (T (topAt (fun i j => lexLt id (T j) (T i)) k)) (T (k + 1)) then k + 1 else topAt (fun i j => lexLt id (T j) (T i)) k)) (T m) = false
    cases hb : lexLt id (T (topAt (fun i j => lexLt id (T j) (T i)) k)) (T (k + 1)) with
    | true =>
      rw [if_pos rfl]
      rcases Nat.lt_or_ge k m with q | q
      · rw [show m = k + 1 by omega]
        exact lexLt_irrefl _ _
      · cases hc : lexLt id (T (k + 1)) (T m) with
        | false => rfl
        | true =>
          have := ih m q
          rw [lexLt_trans id hb hc] at this
          cases this
    | false =>
      rw [if_neg (by decide)]
      rcases Nat.lt_or_ge k m with q | q
      · rw [show m = k + 1 by omega]
        exact hb
      · exact ih m q
/-- the place of the greatest tail -/
noncomputable def topOf (w : List Nat) : Nat := topAt (fun i j => lexLt id (w.drop j) (w.drop i)) 6
theorem topOf_lt (w : List Nat) : topOf w < 7 := Nat.lt_of_le_of_lt (topAt_le _ 6) (by decide)
theorem topOf_max {w : List Nat} (h : w.length = 7) (m : Nat) : lexLt id (w.drop (topOf w)) (w.drop m) = false := by
  rcases Nat.lt_or_ge 6 m with q | q
  · rw [List.drop_eq_nil_of_le (by omega : w.length ≤ m)]
    exact lexLt_nil _ _
  · exact topAt_max (fun i => w.drop i) 6 m q
noncomputable def TailsAt (w : List Nat) (i : Nat) (vs : List Value) (G : List (Addr × Obj)) : Prop := vs.length = i ∧ ∀ j, j < i → ∃ a V n, vs[j]? = some (.ref a) ∧ (a, listOf (List.toArray V) n) ∈ G ∧ IntsAre V ((w.drop j).map fun c : Nat => (c : Int))
section
variable {prog : Program} {w : World} {A : Around} {E : Value → Shared → Prop} {s : Shared} {h₀ : Heap} {L : Addr} {m : Str → Option Value} {news G : List (Addr × Obj)}
theorem max_tails {wd : List Nat} {l : Addr} {vs : List Value} {k : Nat} {Q : Value → Shared → Prop} (hh : A.handled = none) (hu : A.in1.units < cLine) (F : Fr h₀ L s.heap m) (N : News h₀ L s.heap news) (hl : (l, listOf vs.toArray k) ∈ news) (hT : TailsAt wd 7 vs G) (hG : ∀ x ∈ G, x ∈ news)
    (h : ∀ v h' tk, vs[topOf wd]? = some v → Fr h₀ L h' m → News h₀ L h' news → Q v { s with heap := h', toks := tk }) : wpAny (model prog w) A (call (.builtin "max") [.ref l]) Q E s := by
  obtain ⟨h7, hT⟩ := hT
  refine max_lists (G := G) (bt := fun i j => lexLt id (wd.drop j) (wd.drop i)) hh (list_led N hl) (fun q hq => (N q (hG q hq)).1) (by omega) (fun s' i j vi vj Q' E' hst hi hj hq => ?_) fun v h' tk hv hk => ?_
  · have li : i < 7 := by
      rcases Nat.lt_or_ge i vs.length with q | q
      · omega
      · rw [List.getElem?_eq_none q] at hi; cases hi
    have lj : j < 7 := by
      rcases Nat.lt_or_ge j vs.length with q | q
      · omega
      · rw [List.getElem?_eq_none q] at hj; cases hj
    obtain ⟨a, V, n, e1, m1, i1⟩ := hT i li
    obtain ⟨b, W, n2, e2, m2, i2⟩ := hT j lj
    rw [e1] at hi
    rw [e2] at hj
    cases hi
    cases hj
    exact gt_lists ⟨_, hst _ m1, rfl, n, rfl⟩ ⟨_, hst _ m2, rfl, n2, rfl⟩ i1 i2 hu hq
  · refine h v h' tk ?_ (F.keeps hk) (N.grown hk)
    rw [h7] at hv
    exact hv
open PySem.SeqAt in
theorem index_tails {wd : List Nat} {l : Addr} {vs : List Value} {k j : Nat} {v : Value} {Q : Value → Shared → Prop} (hw : wd.length = 7) (hu : A.in1.units < cLine) (N : News h₀ L s.heap news) (hl : (l, listOf vs.toArray k) ∈ news) (hT : TailsAt wd 7 vs G) (hG : ∀ x ∈ G, x ∈ news) (hj : j < 7) (hv : vs[j]? = some v)
    (h : ∀ t tk, Q (.int (j : Int) t) { s with toks := tk }) : wpAny (model prog w) A (call (.builtin "list.index") [.ref l, v]) Q E s := by
  obtain ⟨h7, hT⟩ := hT
  have z := (N _ hl).1
  have hjl : j < vs.toArray.size := by rw [List.size_toArray]; omega
  have ha : ∀ i (hi : i < 7), ∃ a V, vs[i]? = some (.ref a) ∧ s.heap.IsList a (List.toArray V) ∧ V.length = 7 - i := fun i hi => by
    obtain ⟨a, V, n, e1, m1, i1⟩ := hT i hi
    exact ⟨a, V, e1, list_led N (hG _ m1), by rw [i1.length, List.length_map, List.length_drop, hw]⟩
  have hne : ∀ i (hi : i < 7), i ≠ j → vs[i]? ≠ some v := fun i hi hij e => by
    obtain ⟨a, V, e1, l1, n1⟩ := ha i hi
    obtain ⟨b, W, e2, l2, n2⟩ := ha j hj
    rw [hv] at e2
    rw [e] at e1
    have e3 : v = .ref a := Option.some.inj e1
    have e4 : v = .ref b := Option.some.inj e2
    have e5 : a = b := by rw [e3] at e4; injection e4
    subst e5
    obtain ⟨o, g1, _, c1, d1⟩ := l1
    obtain ⟨o2, g2, _, c2, d2⟩ := l2
    rw [g1] at g2
    cases g2
    rw [d1] at d2
    injection d2 with d2 _
    have : V.length = W.length := by rw [← List.size_toArray, ← List.size_toArray, d2]
    omega
  have ev : v = vs.toArray[j] := by
    have : vs[j]? = some vs[j] := List.getElem?_eq_getElem (by omega)
    rw [hv] at this
    rw [List.getElem_toArray]
    exact Option.some.inj this
  refine call_meets PySem.F.slot_list_index ⟨_, z, rfl⟩ PySem.F.entry_list_index (PySem.F.args_list_index_2 _ _) (list_indexAt l vs.toArray k none #[] v (fun y => y == v) j hjl (by omega) (by rw [← ev]; exact beq_self_eq_true v) (fun i hi hij => ?_)) ⟨z, fun y hy => ?_, h _ _⟩
  · have hi7 : i < 7 := by omega
    refine beq_eq_false_iff_ne.mpr fun e => hne i hi7 (by omega) ?_
    rw [List.getElem_toArray] at e
    rw [List.getElem?_eq_getElem (by omega), e]
  · obtain ⟨i, hi, rfl⟩ := List.mem_iff_getElem.mp (Array.mem_def.mp hy)
    by_cases e : vs[i] = v
    · rw [e, beq_self_eq_true]
      exact EqAt.same v
    · rw [beq_eq_false_iff_ne.mpr e]
      have hi7 : i < 7 := by
        have : i < vs.length := hi
        omega
      obtain ⟨a, V, e1, l1, n1⟩ := ha i hi7
      obtain ⟨b, W, e2, l2, n2⟩ := ha j hj
      rw [List.getElem?_eq_getElem (by omega)] at e1
      have e3 : vs[i] = .ref a := Option.some.inj e1
      rw [hv] at e2
      have e4 : v = .ref b := Option.some.inj e2
      rw [e3, e4] at e ⊢
      have hij : i ≠ j := fun q => by
        subst q
        refine e ?_
        rw [← e3, ← e4]
        have := List.getElem?_eq_getElem (l := vs) (i := i) (by omega)
        rw [hv] at this
        exact (Option.some.inj this).symm
      exact EqAt.of_refs (fun q => e (by rw [q])) (RcAt.lists_lengths l1 l2 (by rw [List.size_toArray, List.size_toArray, n1, n2]; simp; omega) hu)
end
theorem per_full {wd : List Nat} (h : wd.length = 7) : PerOf wd 7 := fun i hi => by omega
theorem turned_ok {wd : List Nat} (hb : ∀ c ∈ wd, c < 256) : List.map (fun x : Int => 255 - x) (wd.map fun c : Nat => (c : Int)) = (wd.map turn).map fun c : Nat => (c : Int) := by
  rw [List.map_map, List.map_map]
  refine List.map_congr_left fun c hc => ?_
  have := hb c hc
  show (255 : Int) - (c : Int) = ((turn c : Nat) : Int)
  unfold turn
  omega

/-! the tails, a list of new lists -/
section
variable {prog : Program} {w : World} {A : Around} {h₀ : Heap} {L : Addr} {m : Str → Option Value} {env : Env} {elt : Expr} {x : Str} {scope : Scope} {cl : List (Str × Addr)} {s : Shared} {Fin : List Value → List (Addr × Obj) → Prop}
noncomputable def TailNew (wd : List Nat) (pre own : List (Addr × Obj)) (i : Nat) (y : Value) (news' : List (Addr × Obj)) : Prop := ∃ a V n, y = .ref a ∧ news' = pre ++ ((a, listOf (List.toArray V) n) :: own) ∧ IntsAre V ((wd.drop i).map fun c : Nat => (c : Int))
theorem tails_rest {wd : List Nat} {pre own0 : List (Addr × Obj)}
    (turn : ∀ (i : Nat) t I oI C oC D m₂ ys own h tk (E' : Value → Shared → Prop), i < 7 → (∀ p ∈ own0, p ∈ own) → LCg.NsObj oC m₂ → m₂ x = some (.int (i : Int) t) → Fr h₀ L h m → News h₀ L h ((I, oI) :: (C, oC) :: (D, LCg.lst ys) :: (pre ++ own)) → LCg.Off3 I C D (pre ++ own) → ((@Ne Nat I C) ∧ (@Ne Nat I D) ∧ (@Ne Nat C D)) →
      wpAny (model prog w) A (eval elt (compEnvC scope cl C env)) (LCg.CompEnd h₀ L m { s with heap := h, toks := tk } I oI C oC D (LCg.lst ys) (fun _ => True) (TailNew wd pre own i)) E' { s with heap := h, toks := tk })
    (fin : ∀ ys own, TailsAt wd 7 ys own → (∀ p ∈ own0, p ∈ own) → Fin ys (pre ++ own)) :
    LCg.CompRest prog w A h₀ L m env elt x scope cl s (fun _ => True) (fun i v => ∃ t, v = .int (0 + (i : Int)) t) Fin 7 0 [] (pre ++ own0) := by
  have key : ∀ (j i : Nat) (ys : List Value) (own : List (Addr × Obj)), i + j = 7 → TailsAt wd i ys own → (∀ p ∈ own0, p ∈ own) → LCg.CompRest prog w A h₀ L m env elt x scope cl s (fun _ => True) (fun i v => ∃ t, v = .int (0 + (i : Int)) t) Fin j i ys (pre ++ own) := by
    intro j
    induction j with
    | zero =>
      intro i ys own hi hT h0
      obtain rfl : i = 7 := by omega
      exact LCg.CompRest.zero (fin ys own hT h0)
    | succ j ih =>
      intro i ys own hi hT h0
      refine LCg.CompRest.succ ?_
      rintro v I oI C oC D m₂ h tk E' ⟨t, rfl⟩ hC hx F N off ne
      rw [Int.zero_add] at hx
      refine wpAny_mono (turn i t I oI C oC D m₂ ys own h tk E' (by omega) h0 hC hx F N off ne) (fun y s₂ hq => ?_) fun _ _ e => e
      obtain ⟨h', tk', nw, e, F', N', off', hS, a, V, n, rfl, rfl, hV⟩ := hq
      refine ⟨h', tk', _, e, F', N', off', hS, ih (i + 1) _ _ (by omega) ?_ fun p hp => .tail _ (h0 p hp)⟩
      obtain ⟨hl, hT⟩ := hT
      refine ⟨by rw [List.length_append, List.length_singleton, hl], fun k hk => ?_⟩
      rcases Nat.lt_or_ge k i with q | q
      · obtain ⟨b, W, c, e1, m1, i1⟩ := hT k q
        exact ⟨b, W, c, by rw [List.getElem?_append_left (by omega)]; exact e1, .tail _ m1, i1⟩
      · obtain rfl : k = i := by omega
        exact ⟨a, V, n, by rw [List.getElem?_append_right (by omega), hl, Nat.sub_self]; rfl, .head _, hV⟩
  exact key 7 0 [] own0 rfl ⟨rfl, fun j hj => absurd hj (by omega)⟩ fun p hp => hp
theorem tails_end {wd : List Nat} {pre own : List (Addr × Obj)} {I C D a : Addr} {oI oC oD : Obj} {V : List Value} {n i : Nat} {s₁ : Shared} {h' : Heap} {tk : Nat} (F : Fr h₀ L h' m) (N : News h₀ L h' ((a, listOf (List.toArray V) n) :: (I, oI) :: (C, oC) :: (D, oD) :: (pre ++ own))) (off : LCg.Off3 I C D (pre ++ own))
    (h1 : @LT.lt Nat _ I a) (h2 : @LT.lt Nat _ C a) (h3 : @LT.lt Nat _ D a) (hV : IntsAre V ((wd.drop i).map fun c : Nat => (c : Int))) : LCg.CompEnd h₀ L m s₁ I oI C oC D oD (fun _ => True) (TailNew wd pre own i) (.ref a) { s₁ with heap := h', toks := tk } := by
  refine LCg.CompEnd.intro F N (pre ++ ((a, listOf (List.toArray V) n) :: own)) (fun p hp => ?_) (LCg.Off3.of fun p hp => ?_) trivial ⟨a, V, n, rfl, rfl, hV⟩
  · simp only [List.mem_cons, List.mem_append] at hp ⊢
    rcases hp with h | h | h | h | h | h <;> simp [h]
  · rcases List.mem_append.mp hp with hp | hp
    · exact off.mem p (List.mem_append_left _ hp)
    · rcases List.mem_cons.mp hp with rfl | hp
      · exact ⟨Nat.ne_of_gt h1, Nat.ne_of_gt h2, Nat.ne_of_gt h3⟩
      · exact off.mem p (List.mem_append_right _ hp)
end
theorem in12 {a b c d e f g h i j k l : Addr × Obj} {r : List (Addr × Obj)} : ∀ x ∈ r, x ∈ a :: b :: c :: d :: e :: f :: g :: h :: i :: j :: k :: l :: r := fun _ hx => .tail _ (.tail _ (.tail _ (.tail _ (.tail _ (.tail _ (.tail _ (.tail _ (.tail _ (.tail _ (.tail _ (.tail _ hx)))))))))))
theorem max3_val {i j : Nat} {t u x : Tok} : ∃ t', (if ((i : Nat) : Int) > 1 then (if ((j : Nat) : Int) > ((i : Nat) : Int) then Value.int (j : Int) x else .int (i : Int) u) else (if ((j : Nat) : Int) > 1 then .int (j : Int) x else .int 1 t)) = .int ((max 1 (max i j) : Nat) : Int) t' := by
  by_cases h1 : ((i : Nat) : Int) > 1
  · by_cases h2 : ((j : Nat) : Int) > ((i : Nat) : Int)
    · exact ⟨x, by rw [if_pos h1, if_pos h2, show max 1 (max i j) = j by omega]⟩
    · exact ⟨u, by rw [if_pos h1, if_neg h2, show max 1 (max i j) = i by omega]⟩
  · by_cases h2 : ((j : Nat) : Int) > 1
    · exact ⟨x, by rw [if_neg h1, if_pos h2, show max 1 (max i j) = j by omega]⟩
    · exact ⟨t, by rw [if_neg h1, if_neg h2, show max 1 (max i j) = 1 by omega]; rfl⟩
theorem gap_ok {wd : List Nat} {p : Nat} (hwl : wd.length = 7) (hwb : ∀ c ∈ wd, c < 256) (hp7 : p ≤ 7) (hmin : ∀ n, 0 < n → n < p → ¬ PerOf wd n) : ∃ gap : Nat, max 1 (max (topOf wd) (topOf (wd.map turn))) = gap ∧ 0 < gap ∧ gap < 7 ∧ ∀ n, 0 < n → n < p → repF (wd.take gap) (wd.drop gap) n = false := by
  have h1 := topOf_lt wd
  have h2 := topOf_lt (wd.map turn)
  have hwt : (wd.map turn).length = 7 := by rw [List.length_map, hwl]
  refine ⟨_, rfl, by omega, by omega, fun n hn hnp => ?_⟩
  exact rep_gap hwb (by omega) (by omega) hn (by omega) (hmin n hn hnp) (by omega) (topOf_max hwl) (topOf_max hwt)
theorem perm_s95 {h₀ h : Heap} {L : Addr} {x0 x1 x2 x3 x4 x5 x6 x7 x8 x9 xa xb : Addr × Obj} {own cx : List (Addr × Obj)} (N : News h₀ L h (x0 :: x1 :: x2 :: x3 :: x4 :: x5 :: x6 :: x7 :: x8 :: x9 :: xa :: xb :: own)) (hc : ∀ x ∈ cx, x ∈ own) : News h₀ L h (x5 :: x6 :: x4 :: x7 :: x8 :: x9 :: xb :: cx) := fun p hp => by
  refine N p ?_
  simp only [List.mem_cons] at hp ⊢
  rcases hp with h | h | h | h | h | h | h | h
  all_goals first | (simp [h]; done) | simp [hc p h]

/-! the last loop -/
theorem fr_expose {h₀ h : Heap} {L : Addr} {f : Str → Option Value} {a b : Str} {va vb : Option Value} (F : Fr h₀ L h f) (ha : f a = va) (hb : f b = vb) : ∃ mC : Str → Option Value, Fr h₀ L h (fun y => if y = a then va else if y = b then vb else mC y) := by
  refine ⟨f, ?_⟩
  have e : f = fun y => if y = a then va else if y = b then vb else f y := by
    funext y
    by_cases h1 : y = a
    · rw [if_pos h1, h1, ha]
    · by_cases h2 : y = b
      · rw [if_neg h1, if_pos h2, h2, hb]
      · rw [if_neg h1, if_neg h2]
  rw [← e]
  exact F
noncomputable def cutNs (wd : List Nat) (c : Nat) : List Nat := c :: (wd.take c ++ (7 - c) :: wd.drop c)
section
variable {wd : List Nat} {c : Nat} (hw : wd.length = 7) (hc : c < 7)
include hw hc
theorem cutNs_len : (cutNs wd c).length = 9 := by
  unfold cutNs
  rw [List.length_cons, List.length_append, List.length_take, List.length_cons, List.length_drop]
  omega
theorem cutNs_in (hb : ∀ x ∈ wd, x < 256) : ∀ x ∈ cutNs wd c, x < 256 := by
  intro x hx
  unfold cutNs at hx
  rcases List.mem_cons.mp hx with rfl | hx
  · omega
  · rcases List.mem_append.mp hx with hx | hx
    · exact hb x (List.mem_of_mem_take hx)
    · rcases List.mem_cons.mp hx with rfl | hx
      · omega
      · exact hb x (List.mem_of_mem_drop hx)
theorem cutNs_one : ((cutNs wd c).drop (0 + 1)).take c = wd.take c := by
  show (wd.take c ++ (7 - c) :: wd.drop c).take c = wd.take c
  rw [List.take_append_of_le_length (by rw [List.length_take]; omega), List.take_take, Nat.min_self]
theorem cutNs_at : (cutNs wd c)[0 + 1 + c]? = some (7 - c) := by
  show (c :: (wd.take c ++ (7 - c) :: wd.drop c))[0 + 1 + c]? = _
  rw [show 0 + 1 + c = c + 1 by omega, List.getElem?_cons_succ, List.getElem?_append_right (by rw [List.length_take]; omega), List.length_take, show c - min c wd.length = 0 by omega]
  rfl
theorem cutNs_two : ((cutNs wd c).drop (0 + 1 + c + 1)).take (7 - c) = wd.drop c := by
  show ((c :: (wd.take c ++ (7 - c) :: wd.drop c)).drop (0 + 1 + c + 1)).take (7 - c) = _
  have e : (wd.take c ++ (7 - c) :: wd.drop c).drop (c + 1) = wd.drop c := by
    have hl : (wd.take c).length = c := by rw [List.length_take]; omega
    rw [List.drop_append, hl, List.drop_of_length_le (by omega), List.nil_append, show c + 1 - c = 1 by omega]
    rfl
  rw [show 0 + 1 + c + 1 = (c + 1) + 1 by omega, List.drop_succ_cons, e, List.take_of_length_le (by rw [List.length_drop]; omega)]
end
noncomputable def CutInv (q : Str) (D1 lf L : Addr) (lo lx oO : Obj) (mB : Str → Option Value) (m : Str → Option Value) (news : List (Addr × Obj)) : Prop :=
  ∃ ps71 ps85 cx oA oB vA vB u1 u2, TF 76 39 ps71 ∧ T2 q ps85 cx ∧ (∀ x ∈ cx, @LT.lt Nat _ D1 x.1) ∧ oB.data = .cell vB ∧ oA.data = .cell vA ∧
    news = (71, tabObj ps71) :: (85, tabObj ps85) :: (lf, lo) :: (D1, lx) :: (L + 1 + 1 + 1 + 1 + 1, oB) :: (L + 1 + 1 + 1 + 1, oA) :: (L + 1 + 1, oO) :: cx ∧
    m = fun y => if y = Str.ofString "cut" then u1 else if y = Str.ofString "stream" then u2 else mB y
theorem unshadow2 {x z : Str} {f : Str → Option Value} : f = fun y => if y = x then f x else if y = z then f z else f y := by
  funext y
  by_cases h : y = x
  · rw [if_pos h, h]
  · by_cases h2 : y = z
    · rw [if_neg h, if_pos h2, h2]
    · rw [if_neg h, if_neg h2]
/-- what stands behind a turn -/
theorem reshadow {x z : Str} (hxz : x ≠ z) {v u : Option Value} {w : Option Value} {f : Str → Option Value} : (fun y => if y = z then v else if y = x then u else (if y = z then w else f y)) = fun y => if y = x then u else if y = z then v else f y := by
  funext y
  by_cases h : y = x
  · have h2 : ¬ y = z := fun e => hxz (h.symm.trans e)
    rw [if_neg h2, if_pos h, if_pos h]
  · by_cases h2 : y = z
    · rw [if_pos h2, if_neg h, if_pos h2]
    · rw [if_neg h2, if_neg h, if_neg h2, if_neg h, if_neg h2]
theorem perm_cut1 {h₀ h : Heap} {L : Addr} {xI x1 x2 x3 x4 x5 x6 x7 : Addr × Obj} {own cx : List (Addr × Obj)} {xD : Addr × Obj} (N : News h₀ L h (xD :: (own ++ xI :: x1 :: x2 :: x3 :: x4 :: x5 :: x6 :: x7 :: cx))) : News h₀ L h (x2 :: xD :: xI :: x1 :: x3 :: x4 :: x5 :: x6 :: x7 :: cx) := fun p hp => by
  refine N p ?_
  simp only [List.mem_cons, List.mem_append] at hp ⊢
  rcases hp with h | h | h | h | h | h | h | h | h | h <;> simp [h]
theorem cut_list {wd : List Nat} {c : Nat} (hc : c < 7) : [(c : Int)] ++ List.take (Int.toNat (c : Int)) (List.map (fun x : Nat => (x : Int)) wd) ++ [7 - (c : Int)] ++ List.drop (Int.toNat (c : Int)) (List.map (fun x : Nat => (x : Int)) wd) = (cutNs wd c).map fun x : Nat => (x : Int) := by
  rw [Int.toNat_natCast, ← List.map_take, ← List.map_drop, show (7 : Int) - (c : Int) = ((7 - c : Nat) : Int) by omega]
  unfold cutNs
  simp
theorem perm_cut2 {h₀ h : Heap} {L : Addr} {xl x85 xD xI x1 x3 x4 x5 x6 x7 : Addr × Obj} {ext cx : List (Addr × Obj)} (N : News h₀ L h (xl :: (ext ++ x85 :: xD :: xI :: x1 :: x3 :: x4 :: x5 :: x6 :: x7 :: cx))) : News h₀ L h (xl :: xD :: xI :: x1 :: x85 :: x3 :: x4 :: x5 :: x6 :: x7 :: ext) := fun p hp => by
  refine N p ?_
  simp only [List.mem_cons, List.mem_append] at hp ⊢
  rcases hp with h | h | h | h | h | h | h | h | h | h | h <;> simp [h]
theorem in9 {a b c d e f g h i : Addr × Obj} {r : List (Addr × Obj)} : ∀ x ∈ r, x ∈ a :: b :: c :: d :: e :: f :: g :: h :: i :: r := fun _ hx => .tail _ (.tail _ (.tail _ (.tail _ (.tail _ (.tail _ (.tail _ (.tail _ (.tail _ hx))))))))
theorem off9 {la : Addr} {ext cx : List (Addr × Obj)} {x85 xD xI x1 x3 x4 x5 x6 x7 : Addr × Obj} (h : ∀ x ∈ ext ++ x85 :: xD :: xI :: x1 :: x3 :: x4 :: x5 :: x6 :: x7 :: cx, x.1 ≠ la) :
    x85.1 ≠ la ∧ xD.1 ≠ la ∧ xI.1 ≠ la ∧ x1.1 ≠ la ∧ x3.1 ≠ la ∧ x4.1 ≠ la ∧ x5.1 ≠ la ∧ x6.1 ≠ la ∧ x7.1 ≠ la ∧ ∀ x ∈ ext, x.1 ≠ la := by
  refine ⟨h _ ?_, h _ ?_, h _ ?_, h _ ?_, h _ ?_, h _ ?_, h _ ?_, h _ ?_, h _ ?_, fun x hx => h x (List.mem_append_left _ hx)⟩ <;> simp
theorem perm_cut3 {h₀ h : Heap} {L : Addr} {y1 y2 y3 xI x71 x85 x3 x4 x5 x6 x7 : Addr × Obj} {ext cx : List (Addr × Obj)} (N : News h₀ L h (y1 :: y2 :: y3 :: xI :: x71 :: x85 :: x3 :: x4 :: x5 :: x6 :: x7 :: ext)) (hc : ∀ x ∈ cx, x ∈ ext) : News h₀ L h (x71 :: xI :: x85 :: x3 :: x4 :: x5 :: x6 :: x7 :: cx) := fun p hp => by
  refine N p ?_
  simp only [List.mem_cons] at hp ⊢
  rcases hp with h | h | h | h | h | h | h | h | h
  all_goals first | (simp [h]; done) | simp [hc p h]

/-! a list made of a text's signs -/
noncomputable def SignSrc (prog : Program) (w : World) (A : Around) (h₀ : Heap) (L : Addr) (m : Str → Option Value) (env : Env) (elt : Expr) (x : Str) (scope : Scope) (cl : List (Str × Addr)) (Q : Value → Shared → Prop) (xv : Value) (s₁ : Shared) : Prop :=
  ∃ y t news, xv = .str y t ∧ A.handled = none ∧ Fr h₀ L s₁.heap m ∧ News h₀ L s₁.heap news ∧ y.cps.size ≤ sizeLine ∧
    ∀ s₂ : Shared, (∃ h, s₂ = { s₁ with heap := h }) → LCg.CompRest prog w A h₀ L m env elt x scope cl s₂ (fun _ => True) (SignAt y) (LCg.FinE h₀ L m s₂ Q) y.cps.size 0 [] news
theorem SignSrc.intro {prog : Program} {w : World} {A : Around} {h₀ : Heap} {L : Addr} {m : Str → Option Value} {env : Env} {elt : Expr} {x : Str} {scope : Scope} {cl : List (Str × Addr)} {Q : Value → Shared → Prop} {y : List Nat} {t : Tok} {news : List (Addr × Obj)} {s₁ : Shared}
    (hh : A.handled = none) (F : Fr h₀ L s₁.heap m) (N : News h₀ L s₁.heap news) (hz : y.length ≤ sizeLine) (h : ∀ g, LCg.CompRest prog w A h₀ L m env elt x scope cl { s₁ with heap := g } (fun _ => True) (SignAt (mkS y)) (LCg.FinE h₀ L m { s₁ with heap := g } Q) y.length 0 [] news) :
    SignSrc prog w A h₀ L m env elt x scope cl Q (.str (mkS y) t) s₁ := ⟨mkS y, t, news, rfl, hh, F, N, hz, fun _ ⟨g, e⟩ => e ▸ h g⟩
section
variable {prog : Program} {w : World} {A : Around} {E : Value → Shared → Prop} {s : Shared} {h₀ : Heap} {L : Addr} {m : Str → Option Value} {env : Env}
theorem strIter_keeps {h h' : Heap} {I : Addr} {T : String} {y : Str} {t : Tok} {i : Nat} {o : Obj} (x : h.IsStrIter I T y t i) (e : h.get? I = some o) (e' : h'.get? I = some o) : h'.IsStrIter I T y t i := by
  obtain ⟨o', q, r⟩ := x
  rw [e] at q
  cases q
  exact ⟨o, e', r⟩
theorem ListComp_S {elt iter : Expr} {x : Str} {px : Pos} {scope : Scope} {cl : List (Str × Addr)} {pos : Pos} {Q : Value → Shared → Prop} (_F : Fr h₀ L s.heap m)
    (hclos : closureFor scope env = pure cl) (hcell : ∀ y ∈ scope.names, y.2 ≠ .cell) (hkind : scope.kind = .function)
    (hnames : ∀ y ∈ scope.names, y.2 = .local → scope.names.lookup y.1 = some .local) (hx : scope.names.lookup x = some .local)
    (h : wpAny (model prog w) A (eval iter env) (SignSrc prog w A h₀ L m env elt x scope cl Q) E s)
    (hs : ∀ x, foldedSetIterable iter env x = pure x := by intro _; rfl) :
    wpAny (model prog w) A (eval (.ListComp elt [⟨.Name x px, iter, [], 0⟩] scope pos) env) Q E s := by
  rw [eval_ListComp]
  refine wpAny_comprehension_free (use := none) rfl hs hclos hkind hnames (wpAny_mono h (fun xv s₁ h₁ => ?_) fun _ _ e => e)
  obtain ⟨y, t, news, rfl, hh, F, N, hsz, R⟩ := h₁
  have up : ∀ (o' : Obj) b o, s₁.heap.get? b = some o → (s₁.heap.push o').get? b = some o := fun o' b o e => Heap.get?_push_of_some _ e
  have hlt : ∀ (o' : Obj) (b : Addr), b ∈ [s₁.heap.objs.size] → b < (s₁.heap.push o').objs.size := fun o' b hb => by
    rw [Heap.size_push, List.mem_singleton.mp hb]
    exact Nat.lt_succ_self _
  have fin : ∀ s₂ D C h tk m' (ys : List Value) news', Fr h₀ L h m → News h₀ L h ((D, LCg.lst ys) :: news') → LCg.Off1 D news' → h.Ns C m' → h₀.get? C = none → h₀.get? D = none → C ≠ L → D ≠ L → C ≠ D → (∀ p ∈ news', p.1 ≠ C) → LCg.FinE h₀ L m s₂ Q ys news' →
      ∃ m', h.Ns C m' ∧ ∀ h'', Heap.SameBut C h h'' → Q (.ref D) { s₂ with heap := h'', toks := tk } := by
    intro s₂ D C h tk m' ys news' F' N' o1 hn hC₀ hD₀ hCL hDL hCD offC fin
    refine ⟨m', hn, fun h'' hs'' => fin D h'' tk (F'.change hs'' hCL hC₀) (fun p hp => ?_) o1⟩
    refine ⟨hs''.extBut _ _ ?_ (N' p hp).1, (N' p hp).2⟩
    rcases List.mem_cons.mp hp with rfl | hp
    · exact Ne.symm hCD
    · exact offC p hp
  cases ha : y.cps.all (· < 128)
  · refine wpAny_pyIter_wide ha ?_
    refine LCg.block_U (Walks.strWide hh s₁.heap.objs.size y t) hsz (fun i h st => by obtain ⟨o, e, _⟩ := st; exact ⟨o, e⟩) (fun i h h' o nw st e e' _ _ _ => strIter_keeps st e e') hcell hkind hx ⟨_, Heap.get?_push_size _ rfl, rfl, rfl⟩ (hlt _)
      (F.keeps (up _)) (N.grown (up _)) (Nat.ne_of_lt F.ns.lt) (next_is_new F) (fun p hp => Nat.ne_of_lt (Heap.lt_size (N p hp).1)) trivial (R _ ⟨_, rfl⟩) (fin _)
  · refine wpAny_pyIter_ascii ha ?_
    refine LCg.block_U (Walks.strAscii hh s₁.heap.objs.size y t) hsz (fun i h st => by obtain ⟨o, e, _⟩ := st; exact ⟨o, e⟩) (fun i h h' o nw st e e' _ _ _ => strIter_keeps st e e') hcell hkind hx ⟨_, Heap.get?_push_size _ rfl, rfl, rfl⟩ (hlt _)
      (F.keeps (up _)) (N.grown (up _)) (Nat.ne_of_lt F.ns.lt) (next_is_new F) (fun p hp => Nat.ne_of_lt (Heap.lt_size (N p hp).1)) trivial (R _ ⟨_, rfl⟩) (fin _)
theorem sign_rest {elt : Expr} {nm : Str} {scope : Scope} {cl : List (Str × Addr)} {x : List Nat} {S : List (Addr × Obj) → Prop} {Fin : List Value → List (Addr × Obj) → Prop} {news : List (Addr × Obj)}
    (turn : ∀ (c : Nat) u I oI C oC D m₂ ys h tk (E' : Value → Shared → Prop), c ∈ x → LCg.NsObj oC m₂ → m₂ nm = some (.str ⟨#[c]⟩ u) → Fr h₀ L h m → News h₀ L h ((I, oI) :: (C, oC) :: (D, LCg.lst ys) :: news) → LCg.Off3 I C D news → ((@Ne Nat I C) ∧ (@Ne Nat I D) ∧ (@Ne Nat C D)) →
      wpAny (model prog w) A (eval elt (compEnvC scope cl C env)) (LCg.CompEnd h₀ L m { s with heap := h, toks := tk } I oI C oC D (LCg.lst ys) S (fun y news' => KCfEl news (c : Int) y news')) E' { s with heap := h, toks := tk })
    (fin : ∀ ys, IntsAre ys (x.map fun c : Nat => (c : Int)) → Fin ys news) : LCg.CompRest prog w A h₀ L m env elt nm scope cl s S (SignAt (mkS x)) Fin x.length 0 [] news := by
  have key : ∀ (j i : Nat) (ys : List Value), i + j = x.length → IntsAre ys ((x.take i).map fun c : Nat => (c : Int)) → LCg.CompRest prog w A h₀ L m env elt nm scope cl s S (SignAt (mkS x)) Fin j i ys news := by
    intro j
    induction j with
    | zero =>
      intro i ys hi hy
      rw [show i = x.length by omega, List.take_length] at hy
      exact LCg.CompRest.zero (fin ys hy)
    | succ j ih =>
      intro i ys hi hy
      refine LCg.CompRest.succ ?_
      rintro v I oI C oC D m₂ h tk E' ⟨c, u, hc, rfl⟩ hC hx F N off ne
      have hc' : x[i]? = some c := by
        rw [← hc]
        show x[i]? = x.toArray[i]?
        rw [List.getElem?_toArray]
      refine wpAny_mono (turn c u I oI C oC D m₂ ys h tk E' (List.mem_of_getElem? hc') hC hx F N off ne) (fun y s₂ hq => ?_) fun _ _ e => e
      obtain ⟨h', tk', nw, e, F', N', off', hS, hn, t, hy'⟩ := hq
      rw [hn] at N' off' hS
      refine ⟨h', tk', news, e, F', N', off', hS, ?_⟩
      rw [hy']
      refine ih (i + 1) _ (by omega) ?_
      rw [List.take_add_one, hc']
      simpa using IntsAre.append hy (.cons (c : Int) t .nil)
  exact key x.length 0 [] (by omega) (by simp only [List.take_zero, List.map_nil]; exact .nil)
end

/-! the comprehension at the gap: its list stays empty, the table of `_translate` may change -/
section
variable {prog : Program} {w : World} {A : Around} {h₀ : Heap} {L : Addr} {m : Str → Option Value} {env : Env} {ct elt : Expr} {x : Str} {scope : Scope} {cl : List (Str × Addr)} {s : Shared} {Fin : List Value → List (Addr × Obj) → Prop}
noncomputable def GapNew (rest : List (Addr × Obj)) (_y : Value) (news' : List (Addr × Obj)) : Prop := ∃ ps, TF 76 39 ps ∧ news' = (71, tabObj ps) :: rest
theorem gap_rest {n : Nat} {rest : List (Addr × Obj)} {ps0 : Array Value} (h0 : TF 76 39 ps0)
    (turn : ∀ (i : Nat) t I oI C oC D m₂ ps h tk (E' : Value → Shared → Prop), i < n → TF 76 39 ps → LCg.NsObj oC m₂ → m₂ x = some (.int ((i + 1 : Nat) : Int) t) → Fr h₀ L h m → News h₀ L h ((I, oI) :: (C, oC) :: (D, LCg.lst []) :: (71, tabObj ps) :: rest) → LCg.Off3 I C D ((71, tabObj ps) :: rest) → ((@Ne Nat I C) ∧ (@Ne Nat I D) ∧ (@Ne Nat C D)) →
      wpAny (model prog w) A (isTrue ct (compEnvC scope cl C env) (eval ct (compEnvC scope cl C env))) (fun b s' => if b = true then wpAny (model prog w) A (eval elt (compEnvC scope cl C env)) (fun _ _ => False) E' s' else LCg.CompEnd h₀ L m { s with heap := h, toks := tk } I oI C oC D (LCg.lst []) (fun _ => True) (GapNew rest) Value.none s') E' { s with heap := h, toks := tk })
    (fin : ∀ ps, TF 76 39 ps → Fin [] ((71, tabObj ps) :: rest)) :
    LCt.CompRestT prog w A h₀ L m env ct elt x scope cl s (fun _ => True) (fun i v => ∃ t, v = .int (1 + (i : Int)) t) Fin n 0 [] ((71, tabObj ps0) :: rest) := by
  have key : ∀ (j i : Nat) (ps : Array Value), i + j = n → TF 76 39 ps → LCt.CompRestT prog w A h₀ L m env ct elt x scope cl s (fun _ => True) (fun i v => ∃ t, v = .int (1 + (i : Int)) t) Fin j i [] ((71, tabObj ps) :: rest) := by
    intro j
    induction j with
    | zero => exact fun i ps _ hT => LCt.CompRestT.zero (fin ps hT)
    | succ j ih =>
      intro i ps hi hT
      refine LCt.CompRestT.succ ?_
      rintro v I oI C oC D m₂ h tk E' ⟨t, rfl⟩ hC hx F N off ne
      rw [show (1 : Int) + (i : Int) = ((i + 1 : Nat) : Int) by omega] at hx
      refine wpAny_mono (turn i t I oI C oC D m₂ ps h tk E' (by omega) hT hC hx F N off ne) (fun b s₂ hq => ?_) fun _ _ e => e
      cases b with
      | true =>
        simp only [if_true] at hq ⊢
        exact wpAny_mono hq (fun y s₃ hr => hr.elim) fun _ _ e => e
      | false =>
        simp only [Bool.false_eq_true, if_false] at hq ⊢
        obtain ⟨h', tk', nw, e, F', N', off', hS, ps', hT', rfl⟩ := hq
        exact ⟨h', tk', _, e, F', N', off', hS, ih (i + 1) ps' (by omega) hT'⟩
  exact key n 0 ps0 (by omega) h0
end
theorem perm_gap {h₀ h : Heap} {L : Addr} {xI xC xD x7 : Addr × Obj} {r own : List (Addr × Obj)} (N : News h₀ L h (own ++ xI :: xC :: xD :: x7 :: r)) : News h₀ L h (x7 :: xI :: xC :: xD :: r) := fun p hp => by
  refine N p (List.mem_append_right _ ?_)
  simp only [List.mem_cons] at hp ⊢
  rcases hp with h | h | h | h | h <;> simp [h]
theorem sub_gap {xI xC xD x7 : Addr × Obj} {r own : List (Addr × Obj)} : ∀ p ∈ xI :: xC :: xD :: x7 :: r, p ∈ own ++ x7 :: xI :: xC :: xD :: r := fun p hp => by
  refine List.mem_append_right _ ?_
  simp only [List.mem_cons] at hp ⊢
  rcases hp with h | h | h | h | h <;> simp [h]
theorem sub_cut {xI x7 : Addr × Obj} {r own : List (Addr × Obj)} : ∀ p ∈ xI :: x7 :: r, p ∈ own ++ x7 :: xI :: r := fun p hp => by
  refine List.mem_append_right _ ?_
  simp only [List.mem_cons] at hp ⊢
  rcases hp with h | h | h <;> simp [h]
theorem rng_small {p : Nat} (h : p ≤ 30) : Builtin.Range.small 1 (p : Int) 1 = true := small_one (by omega) (by omega) (by omega) (by omega)
theorem rng_size {p : Nat} : Builtin.Range.rangeSize 1 (p : Int) 1 = ((p - 1 : Nat) : Int) := by
  rw [rangeSize_nat, show ((p : Int) - 1).toNat = p - 1 by omega]
theorem rng_line {p : Nat} (h : p ≤ 30) : p - 1 ≤ sizeLine := by rw [PySem.sizeLine_eq]; omega

theorem rl_30_19 : True := by
  k_with "!subscriptTail BinOp Subscript Add List Slice ref ref" => (k_here; k_dflt (refine kba_turn (value' := PySem.Expr.Name (PySem.Str.ofString "_") ⟨0, 0, 0, 0⟩) (fun _ => rfl) ?_))
  k_with "!subscriptTail BinOp Subscript Mult Constant Slice ref ref" => (k_here; k_dflt (refine kba_turn (value' := PySem.Expr.Name (PySem.Str.ofString "_") ⟨0, 0, 0, 0⟩) (fun _ => rfl) ?_))
  k_with "!exec Assign cons ListComp" => (k_here; k_dflt (refine LCg.Assign_ListComp_U (F₀ := by k_asm) (by rfl) (by with_unfolding_all rfl) (by with_unfolding_all rfl) (by decide) (by rfl) (by decide) (by rfl) (by rfl) (by rfl) ?_))
  k_with "!eval ListComp" => (k_here; (fail_if_success (with_reducible show wpAny _ _ (eval (Expr.ListComp _ [⟨_, Expr.BinOp _ _ _ _, _, _⟩] _ _) _) _ _ _)); k_dflt (refine LCg.ListComp_U (F₀ := by k_asm) (by with_unfolding_all rfl) (by decide) (by rfl) (by decide) (by rfl) ?_))
  k_with "!CompSrc" => (k_here; refine freeze ?_)
  k_with "!subscriptTail" => (k_here; (with_reducible show wpAny _ _ (subscriptTail (Expr.List _ _) _ (Value.ref _) (Value.int _ _)) _ _ _); refine freeze ?_)
  k_with "!subscriptTail" => (k_here; (with_reducible show wpAny _ _ (subscriptTail (Expr.Name _ _) _ (Value.str (mkS _) _) (Value.int _ _)) _ _ _); k_dflt (refine' sitem (by first | assumption | omega) (by first | omega | assumption) (by assumption) ?_; k_whole); intro _ _)
  k_with "!subscriptTail Tuple cons BinOp ref int" => (k_here; refine freeze ?_)
  k_with "!call ref" => (k_here; refine freeze ?_)
  k_with "!exec For Name Call cons nil" => (k_here; refine freeze ?_)
  k_with "!pyIter ref" => (k_here; refine freeze ?_)
  k_with "!UnrEnd" => (k_here; refine freeze ?_)
  k_with "!binaryOp Mult str int" => (k_here; (with_reducible show wpAny _ _ (binaryOp Operator.Mult (Value.str (Str.ofString "?") _) (Value.int _ _)) _ _ _); k_dflt (refine' smul (by omega) (by omega) ?_; k_whole); intro _ _)
  k_with "!subscriptTail Name Slice ref ref" => (k_here; (with_reducible show wpAny _ _ (subscriptTail _ (PySem.Expr.Slice _ _ none _) (Value.ref _) (Value.ref _)) _ _ _); k_dflt (refine' kmk_slice_ints (by k_asm) (by k_asm) (by exact News.isList (by k_asm) (by k_mem)) (by kmk_part) (by kmk_part) (by with_reducible assumption) (by first | exact kmk_upto (by with_reducible assumption) (Int.natCast_nonneg _) | exact kmk_from (by with_reducible assumption) (Int.natCast_nonneg _)) (by kmk_len) ?_ (by with_unfolding_all rfl) (by kmk_pure) (by with_reducible assumption)); intro _ _ _ _ _ l1; (try k_lt l1); (try (revert l1; intro _)); intro _ _ _; (try k_sweep))
  k_with "!callWith ref" => (k_here; k_dflt (refine' callWith_K (by k_asm) (by k_is) ?_; k_whole))
  k_with "!eval ListComp" => (k_here; (with_reducible show wpAny _ _ (eval (Expr.ListComp _ [⟨_, Expr.BinOp _ _ _ _, _, _⟩] _ _) _) _ _ _); k_dflt (refine ListComp_S (by k_asm) (by with_unfolding_all rfl) (by decide) (by rfl) (by decide) (by rfl) ?_))
  k_with "!eval ListComp" => (k_here; (with_reducible show wpAny _ _ (eval (Expr.ListComp _ [⟨_, _, [_], _⟩] _ _) _) _ _ _); k_dflt (refine LCt.ListComp_T (F₀ := by k_asm) (by with_unfolding_all rfl) (by decide) (by rfl) (by decide) (by rfl) ?_))
  trivial
theorem law_holds : PySem.Challenge.rw_ij0200_01.Holds := by
  w_on
  o_law
  refine holds_open (q := view) (loose := looseL) (Xt := extra) (XP := XL view []) (Yf := Hook.obs hk) (Ya := Hook.val hk) (YP := Hook.says hk) (N := 3562) left_all (Hook.of hk) (Hook.keeps hk) (fun s e => xl_of s (Bool.and_eq_true_iff.mp e).1) XL.keeps (by rfl) (by rfl) (by rfl) (fun s e => recFacts_of (Bool.and_eq_true_iff.mp e).2) (by rfl) (by first | assumption | decide +kernel) (by decide +kernel) ⟨rfl, rfl, rfl, rfl, rfl, by decide +kernel⟩ ?hw ?hc
  case hw => w_witness2
  rename OpenRow.wellSaid _ = true => said
  clear said
  have hfr : frag.heap_1 = frag.heap_1 := rfl
  revert hfr
  k_fill
  intro hfr
  clear hfr
  k_go0
  all_goals try k_fold
  k_with_none
  k_with "!wpq" => (first | (with_reducible first | refine wpAny_pure ?_ | refine wpAny_bind ?_ | refine wpAny_letGo ?_ | refine wpAny_attempt ?_ | refine wpAny_throw ?_ | refine wpAny_mkInt' ?_ | refine wpAny_mkStr' ?_ | refine wpAny_of_eq (by assumption) ?_ | refine wpAny_typeOf (by assumption) ?_ | refine wpAny_specialOf_val (by assumption) (by assumption) ?_ | refine wpAny_specialOf (by assumption) (by assumption) ?_ | refine wpAny_isInstance_val (by assumption) (by assumption) ?_ | refine wpAny_isInstance (by assumption) (by assumption) ?_) | wp_delta | wp_step)
  k_with "!getMethod str" => (with_reducible refine getMethod_translate ?_)
  k_with "!call builtin:str.translate" => (k_here; k_dflt (refine' translate_K (by k_asm) (by k_asm) (by k_asm) (by exact rfl) (by assumption) ?_; k_whole); intro _ _ _ _ _; (try dsimp only))
  k_with "!call builtin:str.join" => ((with_reducible show wpAny _ _ (call (Value.builtin "str.join") [Value.str _ _, Value.ref _]) _ _ _); (with_reducible rename CarriedAll _ _ => hc'); refine join_plain (by assumption) hc' (by assumption) ?_; intro _ _)
  k_with "!KswEnd" => (k_here; refine freeze ?_)
  k_with "!eval Name" => (k_here; k_dflt (refine' nameX_L (by k_asm) (by rfl) ?_ (by rfl) (by rfl); k_whole))
  k_with "!ksw_same" => (intro z h2 h3; (have g3 := h3); (simp only [List.forall_mem_cons, List.not_mem_nil, false_implies, implies_true, and_true, ne_eq] at h2); (try simp only [List.contains_cons, List.contains_nil, Bool.or_false, Bool.or_eq_false_iff, beq_eq_false_iff_ne, ne_eq] at h3); (try simp only [kstB]); (repeat (first | rw [if_neg h2] | rw [if_neg h2.1] | rw [if_neg h2.2] | rw [if_neg h2.2.1] | rw [if_neg h2.2.2] | rw [if_neg h2.2.2.1] | rw [if_neg h2.2.2.2] | rw [if_neg h2.2.2.2.1] | rw [if_neg h2.2.2.2.2] | rw [if_neg h3] | rw [if_neg h3.1] | rw [if_neg h3.2] | rw [if_neg h3.2.1] | rw [if_neg h3.2.2] | rw [if_neg h3.2.2.1] | rw [if_neg h3.2.2.2] | rw [if_neg h3.2.2.2.1] | rw [if_neg h3.2.2.2.2] | rw [if_neg h3.2.2.2.2.1] | rw [if_neg h3.2.2.2.2.2] | rw [not_stored g3])))
  k_with "!WhlIf" => (first | (refine WhlIf.yes (decide_eq_true (by omega)) ?_) | (refine WhlIf.no (decide_eq_false (by omega)) ?_))
  k_with "!formatField str" => (k_here; (with_reducible show wpAny _ _ (formatField (Value.str _ _) _) _ _ _); refine formatField_str ?_ (by rw [mkS_len]; unfold sizeLine; omega); intro _ _)
  k_with "!kt_le" => ((simp only [len_app, mkS_len, len_E, len_h, len_t]); (unfold sizeLine); omega)
  k_with "!And" => (k_here; refine And.intro (by kt_le) ?_)
  k_with "!joinParts" => (k_here; (first | (with_reducible show wpAny _ _ (joinParts _ []) _ _ _) | (with_reducible show wpAny _ _ (joinParts _ (evalEach [] _)) _ _ _)); k_dflt (refine joinParts_nil ?_ (by kt_le)))
  k_with "!ite" => (k_here; k_openite; first | (refine ite_pos (by first | omega | (simp only [decide_eq_true_eq, beq_iff_eq, bne_iff_ne, ne_eq]; omega)) ?_) | (refine ite_neg (by first | omega | (simp only [decide_eq_true_eq, beq_iff_eq, bne_iff_ne, ne_eq]; omega)) ?_))
  k_with "!k_all" => (first | assumption | exact ne_of_lt_all (by assumption) | exact ne_of_lt_all (lt_of_allLt (by assumption)))
  k_with "!subscriptTail Name Name ref int" => (k_here; (with_reducible show wpAny _ _ (subscriptTail _ _ (Value.ref _) (Value.int _ _)) _ _ _); k_dflt (refine' item_led (by k_asm) (by k_mem) (by omega) (by omega) (by assumption) ?_; k_whole))
  k_with "!getAttr ref" => (k_here; (with_reducible show wpAny _ _ (getAttr (Value.ref _) (PySem.Str.ofString "append") _) _ _ _); k_dflt (refine' getAttr_append_K (by k_asm) (by k_asm) (by k_mem) ?_; k_whole); intro _ _ _ _ l1; (try k_lt l1); (try (revert l1; intro _)); (try k_sweep))
  k_with "!callWith ref" => (k_here; k_dflt (refine' callWith_app (by k_asm) (by k_mem) ?_; k_whole))
  k_with "!StandsB" => (k_dflt (exact (News.get (by k_asm) (by k_mem))))
  k_with "!call ref" => (k_here; k_dflt (refine' call_app (by k_asm) (by k_asm) (by k_mem) (by k_upd) ?_ (by first | assumption | size_fits); k_whole); intro _ _ _; (try k_sweep))
  k_with "!call builtin:len" => (k_here; k_dflt (refine' len_led (by k_asm) (by k_mem) (by first | omega | assumption) ?_; k_whole); intro _ _)
  k_with "!compareOp IsNot str ref" => (k_here; refine isNot_str_ref ?_)
  k_with "!compareOp Is str ref" => (k_here; refine is_str_ref ?_)
  k_with "!subscriptTail Name Slice str ref" => ((with_reducible show wpAny _ _ (subscriptTail _ (Expr.Slice (some _) (some _) none _) (Value.str (mkS _) _) _) _ _ _); (refine sslice_ss (s := ⟨_, _, _, _, _⟩) (by k_asm) (by k_asm) (by first | assumption | omega) (by assumption) ?_); intro _ _ _ _ _)
  k_with "!eval Lambda" => (k_here; kn_here; k_dflt (refine' lam_TF (lc := (76, 39)) (by k_asm) (by k_asm) (by k_asm) (by kn_code) (by exact rfl) (by k_updF) (by assumption) (by exact ⟨rfl, rfl⟩) (by exact rfl) (by exact rfl) ?_; k_whole); intro _ _ _ _ _ _ N'; (try dsimp only at N'); revert N'; intro _ _ _ l1; (try k_lt l1); (try (revert l1; intro _)))
  k_with "!truthy ref" => (k_here; (with_reducible show wpAny _ _ (truthy (Value.ref _)) _ _ _); k_dflt (refine' truthy_full (by k_asm) (by k_mem) (by assumption) (by first | omega | assumption) ?_; k_whole); intro _)
  k_with "!subscriptTail Name UnaryOp ref int" => (k_here; k_dflt (refine' item_last (by k_asm) (by k_mem) (by assumption) (by omega) (by assumption) ?_; k_whole))
  k_with "!call builtin:str.replace" => (k_here; refine replace_none (by decide +kernel) ?_)
  k_with "!ite" => (k_here; first | (refine ite_pos (by decide +kernel) ?_) | (refine ite_neg (by decide +kernel) ?_))
  k_with "!getMethod ref" => (k_here; (with_reducible show wpAny _ _ (getMethod (Value.ref 50) _ _) _ _ _); k_dflt (refine' getMethod_sub (by k_asm) (by k_asm) ?_; k_whole))
  k_with "!call builtin:re.Pattern.sub" => (k_here; k_dflt (refine' sub_N (by k_asm) (by k_asm) (by k_asm) (by k_mem) (by first | assumption | exact rfl) (by decide) ?_; k_whole); intro _ _ _ _ _; (try k_sweep))
  k_with "!call ref" => (k_here; (with_reducible show wpAny _ _ (call (Value.ref 69) _) _ _ _); k_dflt (refine' escape_c (by k_asm) (by k_asm) (by k_asm) (by k_asm) (by k_asm) (by first | exact rfl | assumption) (by ktr_room) (by ktr_units) (by assumption) ?_; k_whole); intro _ _ _ _ _; (try dsimp only); (try k_fold))
  k_with "!call builtin:len" => (k_here; (with_reducible show wpAny _ _ (call (Value.builtin "len") [Value.str (mkS _) _]) _ _ _); k_dflt (refine' slen (by first | omega | assumption) ?_; k_whole); intro _ _)
  k_with "!subscriptTail Name Name str int" => (k_here; (with_reducible show wpAny _ _ (subscriptTail _ _ (Value.str (mkS _) _) (Value.int _ _)) _ _ _); k_dflt (refine' sitem (by omega) (by first | omega | assumption) (by assumption) ?_; k_whole); intro _ _)
  k_with "!call type:object" => (k_here; k_dflt (refine' call_object_K (by k_asm) (by k_asm) ?_; k_whole); intro _ _ _ _ l1; (try k_lt l1); (try (revert l1; intro _)))
  k_with "!subscriptTail Name Slice str ref" => ((with_reducible show wpAny _ _ (subscriptTail _ (Expr.Slice none (some _) none _) (Value.str (mkS _) _) _) _ _ _); (refine sslice_ns (s := ⟨_, _, _, _, _⟩) (by k_asm) (by k_asm) (by first | assumption | omega) (by assumption) ?_); intro _ _ _ _ _)
  k_with "!subscriptTail Name Slice str ref" => ((with_reducible show wpAny _ _ (subscriptTail _ (Expr.Slice (some _) none none _) (Value.str (mkS _) _) _) _ _ _); (refine sslice_sn (s := ⟨_, _, _, _, _⟩) (by k_asm) (by k_asm) (by first | assumption | omega) (by assumption) ?_); intro _ _ _ _ _)
  k_with "!subscriptTail Name BinOp str int" => (k_here; (with_reducible show wpAny _ _ (subscriptTail _ _ (Value.str (mkS _) _) (Value.int _ _)) _ _ _); k_dflt (refine' sitem (by omega) (by first | omega | assumption) (by assumption) ?_; k_whole); intro _ _)
  k_with "!binaryOp Add str str" => (k_here; (with_reducible show wpAny _ _ (binaryOp Operator.Add (Value.str (mkS _) _) (Value.str (mkS _) _)) _ _ _); k_dflt (refine' sadd (by first | assumption | exact rfl) (by omega) ?_; k_whole); intro _ _)
  k_with "!CompSrcT" => (k_here; refine freeze ?_)
  k_with "!cell_enter" => (refine' code_defC (by k_asm) (by k_asm) (by k_asm) (by k_asm) (by k_asm) (by exact rfl) (by exact rfl) (by assumption) (by k_is) (by k_is) (by ktr_room) (by exact BindsTo.of_eq rfl) (by exact rfl) (by decide +kernel) ?_ (by exact rfl) (by exact rfl) (by exact rfl); k_whole; intro _ _ _ _ _ _ _ N' Y' B' _ _ l1; (try k_lt l1); (try (revert l1; intro _)); k_cells Y'; (try simp only [List.cons_append, List.nil_append] at N'); (try dsimp only); (try k_lift B'); (try k_fold))
  k_with "!cell_enter" => (refine' code_def (by k_asm) (by k_asm) (by k_asm) (by k_asm) (by k_asm) (by exact rfl) (by exact rfl) (by assumption) (by k_is) (by k_is) (by ktr_room) (by exact BindsTo.of_eq rfl) (by exact locs rfl) ?_ (by exact rfl) (by exact rfl) (by exact rfl) (by decide); k_whole; intro _ _ _ _ _ _ B' _ _; (try dsimp only); (try k_lift B'); (try k_fold))
  k_with "!call ref" => (k_here; (with_reducible show wpAny _ _ (call (Value.ref 95) _) _ _ _); k_dflt (refine' plain_m (by k_asm) (by k_asm) (by k_asm) (by k_asm) (by k_asm) (by first | exact rfl | assumption) (by ktr_room) (by ktr_units) (by first | assumption | omega) ?_; k_whole); intro _ _ _ _ _; (try dsimp only); (try k_fold))
  k_with "!subscriptTail BinOp Slice str ref" => ((with_reducible show wpAny _ _ (subscriptTail _ (Expr.Slice (some _) none none _) (Value.str (mkS _) _) _) _ _ _); (refine sslice_sn (s := ⟨_, _, _, _, _⟩) (by k_asm) (by k_asm) (by first | assumption | omega) (by assumption) ?_); intro _ _ _ _ _)
  k_with "!binaryOp Add str str" => (k_here; (with_reducible show wpAny _ _ (binaryOp Operator.Add (Value.str _ _) (Value.str _ _)) _ _ _); k_dflt (refine' sadd_l (by first | exact rfl | assumption) (by first | exact rfl | assumption) (by assumption) (by first | assumption | omega) ?_; k_whole); intro _ _)
  k_with "!k_all" => (first | assumption | (refine ne_cons (by k_ne) ?_; k_all) | exact ne_lt2 (by assumption) (by omega))
  k_with "!setAttr ref" => (k_here; (with_reducible show wpAny _ _ (setAttr (Value.ref _) _ _) _ _ _); k_dflt (refine' setAttr_fn_K (by k_asm) (by k_asm) (by k_updF) ?_; k_whole); intro _ _ _ _ _ _ _ N'; (try dsimp only at N'); revert N'; intro _ _ _ _ l1; (try k_lt l1); (try (revert l1; intro _)))
  k_with "!cell_enter" => (refine' code_defC (by k_asm) (by k_asm) (by k_asm) (by k_asm) (by k_asm) (by exact rfl) (by exact rfl) (by assumption) (by k_is) (by k_is) (by ktr_room) (by exact BindsTo.of_eq rfl) (by exact rfl) (by decide +kernel) ?_ (by exact rfl) (by exact rfl) (by exact rfl); k_whole; intro _ _ _ _ _ _ _ N' Y' B' _ _ l1; (try k_lt l1); (try (revert l1; intro _)); k_cells Y'; (try simp only [List.cons_append, List.nil_append] at N'); (try dsimp only); (try k_lift B'); (try k_fold))
  k_with "!exec FunctionDef" => (k_here; kn_here; k_dflt (refine' nestDef_K (by exact rfl) (by exact rfl) (by exact rfl) ?_); k_dflt (refine' nest_TF (by k_asm) (by k_asm) (by k_asm) (by kn_code) (by exact rfl) (by k_updF) (by (intro x9 hx9; repeat (first | exact hcx x9 hx9 | refine List.Mem.tail _ ?_))) (by assumption) (by exact ⟨rfl, rfl⟩) (by exact rfl) (by exact rfl) ?_; k_whole); intro _ _ _ _ _ _ _ _ _ _ _ N'; (try dsimp only at N'); revert N'; intro _ _ _ _ _ _ _ l1; (try k_lt l1); (try (revert l1; intro _)))
  k_with "!eval Lambda" => (k_here; kn_here; k_dflt (refine' lam_T1 (by k_asm) (by k_asm) (by k_asm) (by kn_code) (by exact rfl) (by k_updF) (by assumption) (by exact ⟨rfl, rfl⟩) (by exact rfl) (by exact rfl) ?_; k_whole); intro _ _ _ _ _ _ _ N'; (try dsimp only at N'); revert N'; intro _ _ l1; (try k_lt l1); (try (revert l1; intro _)))
  k_with "!subscriptTail Name Constant ref int" => (k_here; (with_reducible show wpAny _ _ (subscriptTail _ _ (Value.ref _) (Value.int 0 _)) _ _ _); k_dflt (refine' item0_led (by k_asm) (by k_mem) ?_; k_whole))
  k_with "!getItem ref int" => (k_here; (with_reducible show wpAny _ _ (getItem (Value.ref _) (Value.int 0 _)) _ _ _); k_dflt (refine' getItem0_led (by k_asm) (by k_mem) ?_; k_whole))
  k_with "!getMethod ref" => (k_here; (with_reducible show wpAny _ _ (getMethod (Value.ref _) _ _) _ _ _); (with_reducible rename MethSpec _ _ _ => hM9); k_dflt (refine' MethSpec.use (by assumption) (by k_asm) (by first | assumption | exact sub_tail (by assumption)) ?_; k_whole); intro _; (try dsimp only))
  k_with "!FnAt" => ((with_reducible rename FnSpec _ _ => hF9); k_dflt (refine' FnSpec.use (by assumption) (by k_asm) (by first | assumption | exact sub_tail (by assumption))))
  k_with "!callWith ref" => (k_here; (with_reducible rename FnSpec _ _ => hF9); k_dflt (refine' callWith_F (by refine' FnSpec.use (by assumption) (by k_asm) (by first | assumption | exact sub_tail (by assumption))) ?_; k_whole))
  k_with "!truthy bytes" => (k_here; k_dflt (refine' truthy_bys (by assumption) (by assumption) (by assumption) ?_; k_whole); intro _)
  k_with "!call builtin:len" => (k_here; (with_reducible show wpAny _ _ (call (Value.builtin "len") [Value.bytes (bys _) _]) _ _ _); k_dflt (refine' len_bys (by assumption) (by assumption) ?_; k_whole); intro _ _)
  k_with "!getMethod bytes" => (k_here; (with_reducible refine KBd.method ?_))
  k_with "!call builtin:bytes.decode" => (k_here; k_dflt (refine' decode_bys (by assumption) (by assumption) (by assumption) ?_; k_whole); intro _ _)
  k_with "!subscriptTail Name Constant bytes int" => (k_here; k_dflt (refine' item0_bys (by assumption) ?_; k_whole); intro _ _)
  k_with "!call ref" => (k_here; (with_reducible show wpAny _ _ (call (Value.ref 38) _) _ _ _); k_dflt (refine' readu_c (by k_asm) (by k_asm) (by k_asm) (by k_asm) (by k_asm) (by first | exact rfl | assumption) (by ktr_room) (by ktr_units) (by assumption) (by assumption) (by assumption) (by assumption) (by assumption) (by assumption) (by assumption) (by assumption) (by assumption) ?_; k_whole); intro _ _ _ _ _ _; (try dsimp only); (try k_fold))
  k_with "!subscriptTail BinOp Subscript Add List Slice ref ref" => (k_here; k_dflt (refine kba_turn (value' := PySem.Expr.Name (PySem.Str.ofString "_") ⟨0, 0, 0, 0⟩) (fun _ => rfl) ?_))
  k_with "!subscriptTail BinOp Subscript Mult Constant Slice ref ref" => (k_here; k_dflt (refine kba_turn (value' := PySem.Expr.Name (PySem.Str.ofString "_") ⟨0, 0, 0, 0⟩) (fun _ => rfl) ?_))
  k_with "!exec Assign cons ListComp" => (k_here; k_dflt (refine LCg.Assign_ListComp_U (F₀ := by k_asm) (by rfl) (by with_unfolding_all rfl) (by with_unfolding_all rfl) (by decide) (by rfl) (by decide) (by rfl) (by rfl) (by rfl) ?_))
  k_with "!eval ListComp" => (k_here; (fail_if_success (with_reducible show wpAny _ _ (eval (Expr.ListComp _ [⟨_, Expr.BinOp _ _ _ _, _, _⟩] _ _) _) _ _ _)); k_dflt (refine LCg.ListComp_U (F₀ := by k_asm) (by with_unfolding_all rfl) (by decide) (by rfl) (by decide) (by rfl) ?_))
  k_with "!CompSrc" => (k_here; refine freeze ?_)
  k_with "!subscriptTail" => (k_here; (with_reducible show wpAny _ _ (subscriptTail (Expr.List _ _) _ (Value.ref _) (Value.int _ _)) _ _ _); refine freeze ?_)
  k_with "!subscriptTail" => (k_here; (with_reducible show wpAny _ _ (subscriptTail (Expr.Name _ _) _ (Value.str (mkS _) _) (Value.int _ _)) _ _ _); k_dflt (refine' sitem (by first | assumption | omega) (by first | omega | assumption) (by assumption) ?_; k_whole); intro _ _)
  k_with "!subscriptTail Tuple cons BinOp ref int" => (k_here; refine freeze ?_)
  k_with "!call ref" => (k_here; refine freeze ?_)
  k_with "!exec For Name Call cons nil" => (k_here; refine freeze ?_)
  k_with "!pyIter ref" => (k_here; refine freeze ?_)
  k_with "!UnrEnd" => (k_here; refine freeze ?_)
  k_with "!binaryOp Mult str int" => (k_here; (with_reducible show wpAny _ _ (binaryOp Operator.Mult (Value.str (Str.ofString "?") _) (Value.int _ _)) _ _ _); k_dflt (refine' smul (by omega) (by omega) ?_; k_whole); intro _ _)
  k_with "!subscriptTail Name Slice ref ref" => (k_here; (with_reducible show wpAny _ _ (subscriptTail _ (PySem.Expr.Slice _ _ none _) (Value.ref _) (Value.ref _)) _ _ _); k_dflt (refine' kmk_slice_ints (by k_asm) (by k_asm) (by exact News.isList (by k_asm) (by k_mem)) (by kmk_part) (by kmk_part) (by with_reducible assumption) (by first | exact kmk_upto (by with_reducible assumption) (Int.natCast_nonneg _) | exact kmk_from (by with_reducible assumption) (Int.natCast_nonneg _)) (by kmk_len) ?_ (by with_unfolding_all rfl) (by kmk_pure) (by with_reducible assumption)); intro _ _ _ _ _ l1; (try k_lt l1); (try (revert l1; intro _)); intro _ _ _; (try k_sweep))
  k_with "!callWith ref" => (k_here; k_dflt (refine' callWith_K (by k_asm) (by k_is) ?_; k_whole))
  k_with "!eval ListComp" => (k_here; (with_reducible show wpAny _ _ (eval (Expr.ListComp _ [⟨_, Expr.BinOp _ _ _ _, _, _⟩] _ _) _) _ _ _); k_dflt (refine ListComp_S (by k_asm) (by with_unfolding_all rfl) (by decide) (by rfl) (by decide) (by rfl) ?_))
  k_with "!eval ListComp" => (k_here; (with_reducible show wpAny _ _ (eval (Expr.ListComp _ [⟨_, _, [_], _⟩] _ _) _) _ _ _); k_dflt (refine LCt.ListComp_T (F₀ := by k_asm) (by with_unfolding_all rfl) (by decide) (by rfl) (by decide) (by rfl) ?_))
  k_with "CompEnd" => refine freeze ?_
  k_steps
  refine thaw ?_
  rename News _ _ _ _ => N1
  rename Fr _ _ _ _ => F1
  rename IntsAre _ (List.take 7 (List.take 7 _ ++ _)) => I1
  refine LCg.CompSrc.ledger (by rfl) F1 N1 (by k_mem) ?_ ?_
  · have q := I1.length
    rw [List.size_toArray, q]
    have q2 := List.length_take_le 7 (List.take 7 ‹List Int› ++ [0, 2, 1, 0, 3, 1, 0])
    exact Nat.le_trans q2 (by decide)
  intro g'
  refine' kcf_list (fun x => Int.fmod x 1000000) I1 (fun k' t' I' oI' C' oC' D' m' ys' h' tk' E' hk' hC' hx' F' N' off' ne' hMark' => ?_) ?_
  · have off2 := off'
    simp only [LCg.Off3, and_true] at off'
    k_steps
    refine thaw ?_
    exact LCg.CompEnd.intro (by assumption) (by assumption) _ (fun p hp => hp) off2 (by lcg_src) (kcf_el rfl rfl rfl)
  intro ys hys
  obtain ⟨numbers, hnl, hnb, hne⟩ := numbers_ok ‹List Int›
  rw [hne] at hys
  clear I1 hne N1 F1
  k_with "CompEnd" => refine freeze ?_
  k_steps
  refine thaw ?_
  rename News _ _ _ _ => N1
  rename Fr _ _ _ _ => F1
  refine LCg.CompSrc.ledger (by rfl) F1 N1 (.head _) ?_ ?_
  · rw [List.size_toArray, hys.length, hnl]
    decide
  intro g'
  refine' kcf_list (fun x => Int.fdiv x 1280) hys (fun k' t' I' oI' C' oC' D' m' ys' h' tk' E' hk' hC' hx' F' N' off' ne' hMark' => ?_) ?_
  · have off2 := off'
    simp only [LCg.Off3, and_true] at off'
    have hkb := hnb _ hk'
    k_steps
    refine thaw ?_
    exact LCg.CompEnd.intro (by assumption) (by assumption) _ (fun p hp => hp) off2 (by lcg_src) (kcf_el rfl rfl rfl)
  intro zs hzs
  clear N1 F1
  k_steps
  refine thaw ?_
  rename News _ _ _ _ => N2
  refine pick_led N2 (.head _) TwoC twoC_all (Int.fmod_nonneg_of_pos _ (by decide)) (Int.fmod_lt_of_pos _ (by decide)) (Nat.le_of_ble_eq_true rfl) ?_
  rintro v ⟨pa, pb, tpair, rfl, hpa, hpb⟩
  k_steps
  k_with "CompEnd" => refine freeze ?_
  refine thaw ?_
  rename News _ _ _ _ => N3
  rename Fr _ _ _ _ => F3
  replace N3 : News _ _ _ (_ :: _ :: _ :: _ :: _ :: _ :: _ :: _ :: []) := fun p hp => N3 p (List.Mem.tail _ (List.Mem.tail _ (by
    rcases List.mem_cons.mp hp with rfl | hp
    · exact .head _
    · exact .tail _ (.tail _ (.tail _ (.tail _ (.tail _ hp)))))))
  refine LCg.CompSrc.ledger (by rfl) F3 N3 (.head _) ?_ ?_
  · rw [List.size_toArray, hys.length, hnl]
    decide
  intro g'
  refine' kcf_list (drawG pa pb) hys (fun k' t' I' oI' C' oC' D' m' ys' h' tk' E' hk' hC' hx' F' N' off' ne' hMark' => ?_) ?_
  · have off2 := off'
    simp only [LCg.Off3, and_true] at off'
    have hkb := hnb _ hk'
    by_cases h4 : Int.fmod k' 5 < 4
    · have ⟨hx1, hx2⟩ := draw_at (pa := pa) (pb := pb) h4
      have hx3 : [pa, pb].length ≤ 100000 := Nat.le_of_ble_eq_true rfl
      k_steps
      refine thaw ?_
      exact LCg.CompEnd.intro (by assumption) (by assumption) _ (fun p hp => hp) off2 (by lcg_src) (kcf_el (draw_yes h4) rfl rfl)
    · k_steps
      refine thaw ?_
      exact LCg.CompEnd.intro (by assumption) (by assumption) _ (fun p hp => hp) off2 (by lcg_src) (kcf_el (draw_no h4) rfl rfl)
  intro ds hds
  clear N3 F3
  obtain ⟨drawn, hdl, hdb, hde⟩ := drawn_ok (pa := pa) (pb := pb) hnl hpa hpb
  rw [hde] at hds
  clear hde
  k_with "CompEnd" => refine freeze ?_
  k_steps
  refine thaw ?_
  rename News _ _ _ _ => N4
  have hf0 := Int.fmod_nonneg_of_pos (List.sum (List.map (fun x => Int.fdiv x 1280) numbers)) (b := 7) (by decide)
  have hf1 := Int.fmod_lt_of_pos (List.sum (List.map (fun x => Int.fdiv x 1280) numbers)) (b := 7) (by decide)
  refine item_anyT (ns := [7, 3, 4, 2, 5, 1, 6]) (News.isTup N4 (.head _)) (.cons _ _ (.cons _ _ (.cons _ _ (.cons _ _ (.cons _ _ (.cons _ _ (.cons _ _ .nil))))))) hf0 hf1 (Int.lt_trans hf1 (by decide)) ?_
  intro tcount
  obtain ⟨hc1, hc7⟩ := count_in hf0 hf1
  generalize hcnt : [7, 3, 4, 2, 5, 1, 6].getD (Int.fmod (List.sum (List.map (fun x => Int.fdiv x 1280) numbers)) 7).toNat (0 : Int) = cnt at hc1 hc7 ⊢
  clear hcnt hf0 hf1
  k_steps
  refine thaw ?_
  rename News _ _ _ _ => N5
  rename Fr _ _ _ _ => F5
  rename IntsAre _ ([7] ++ _) => I5
  rename IntsAre _ (List.take 7 (List.flatten _)) => I6
  rename (71 < _ ∧ 85 < _) => l0
  rename_i D1 ws1 hq3 hC1 hL1 lD1 hq2 oO dO lq hq1 lq1 Dq ws0 hq0 lq0
  have h71 := l0.1
  have h85 := l0.2
  have hD1 : @LT.lt Nat _ (Array.size (Shared.heap ‹Shared›).objs + 1 + 1 + 1 + 1 + 1) D1 := lD1.2.2.2.2.2.1
  have hDq : @LT.lt Nat _ D1 Dq := lq0.2.1
  clear lq0 lq1 hC1 hL1
  obtain ⟨m5, F5⟩ : ∃ m5, Fr _ (Array.size (Shared.heap ‹Shared›).objs) hq0 m5 := ⟨_, F5⟩
  obtain ⟨wd, hwl, hwb, hwe⟩ := octets_ok hc1 hdl hdb
  rw [hwe] at I5 I6
  have I5 : IntsAre ws0 ((7 :: wd).map fun c : Nat => (c : Int)) := I5
  clear hwe hc1 hc7 hdl hdb hds hnl hnb hys hzs hpa hpb
  have N6 := perm15 N5
  clear N5
  refine stream_c (ps := #[]) (cx := []) (by assumption) F5 (by assumption) N6 (by assumption) rfl (by ktr_room) (by ktr_units) (by assumption) (.inl ⟨rfl, rfl⟩) (fun x hx => nomatch hx) ?_ (.head _) ?_
  · k_all
  intro f la t0 n0 ext ps5 cx h5 tk5 hT5 hcx5 hcxn F6 N7 hne5 hS5
  k_steps
  refine thaw ?_
  refine reads_c (k := 0) (c := 7) (ns := 7 :: wd) (by assumption) (by assumption) (by assumption) N7 (by assumption) rfl (by ktr_room) (by ktr_units) (by assumption) hS5 (fun x hx => List.mem_append_left _ hx) hne5 (List.mem_append_right _ (.tail _ (.head _))) I5 (fun c hc => by rcases List.mem_cons.mp hc with rfl | hc; exact (by decide); exact hwb c hc) (by rw [List.length_cons, hwl]; decide) rfl (by decide) (by decide) (by rw [List.length_cons, hwl]; decide) ?_
  intro tw tk6 tk7 h6 F8 N8
  have hwd : ((7 :: wd).drop (0 + 1)).take 7 = wd := by
    show wd.take 7 = wd
    rw [← hwl, List.take_length]
  rw [hwd]
  clear hwd
  have hcxD : ∀ x ∈ cx, @LT.lt Nat _ D1 x.1 := fun x hx => by
    rcases hcxn x (hcx5 x hx) with h | h
    · exact h _ (.tail _ (.head _))
    · exact nomatch h
  have N9 := perm_s5 N8 hcx5
  have hcx85 := hT5.above
  have hcx71 : ∀ x ∈ cx, x.1 ≠ 71 := fun x hx => Nat.ne_of_gt (Nat.lt_trans (by decide) (hcx85 x hx))
  have hcx85' : ∀ x ∈ cx, x.1 ≠ 85 := fun x hx => Nat.ne_of_gt (hcx85 x hx)
  clear N8 N7 N6 F6 F5 hcx5 hcxn hne5 hS5 hcx85 I5
  refine (fun h => h) ?_
  k_steps
  rename_i hq9 lf hq8 llf hq7 F9 N9
  refine thaw ?_
  refine For_invVF F9 (by with_unfolding_all rfl) (by with_unfolding_all rfl) ?_
  k_steps
  refine thaw ?_
  rename Fr _ _ _ _ => F10
  rename News _ _ _ _ => N10
  rename IsRange _ _ 1 8 1 _ _ _ => R10
  obtain ⟨rest, hrest, N10⟩ := split_rest N10
  have hr71 : ∀ p ∈ rest, p.1 ≠ 71 := by subst hrest; k_all
  have hrlf : ∀ p ∈ rest, p.1 ≠ lf := by subst hrest; k_all
  have hlf : @LT.lt Nat _ 85 lf := llf.2.1
  have hwz : wd.length ≤ 100000 := by omega
  refine range_inv (n := 7) (fun i m news => ∃ V k ps1 u, FitsAt wd i V ∧ TF 76 39 ps1 ∧ news = (lf, listOf V.toArray k) :: (71, tabObj ps1) :: rest ∧ m = fun y => if y = Str.ofString "size" then u else (if y = Str.ofString "fits" then some (.ref lf) else if y = Str.ofString "word" then some (.str (mkS wd) tw) else m5 y)) rfl R10 (by decide) (by decide) F10 N10
    ⟨[], 0, #[], _, .inl ⟨rfl, fun n h1 h2 => absurd h1 (by omega)⟩, .inl rfl, rfl, unshadow⟩ ?_ ?_
  · rintro I i m₁ news₁ t h tk hi ⟨V, k, ps1, u, hV, hTF, rfl, rfl⟩ hoI F11 N11
    rw [shadow, show (1 : Int) + (i : Int) = ((i + 1 : Nat) : Int) by omega] at F11
    have hIlf : @Ne Nat I lf := (hoI _ (.head _)).symm
    have h71lf : @Ne Nat 71 lf := Nat.ne_of_lt (Nat.lt_trans (by decide) hlf)
    have hoR : ∀ p ∈ rest, p.1 ≠ I := fun p hp => hoI p (.tail _ (.tail _ hp))
    have hI71 : @Ne Nat I 71 := (hoI _ (.tail _ (.head _))).symm
    rcases hV with ⟨rfl, hno⟩ | ⟨p, tp, rfl, hp0, hpi, hper, hmin⟩
    · have hs1 : Txt.slice (mkS wd) none (some (7 - ((i + 1 : Nat) : Int))) = mkS (wd.take (7 - (i + 1))) := by
        rw [show (7 : Int) - ((i + 1 : Nat) : Int) = ((7 - (i + 1) : Nat) : Int) by omega, slice_take]
      k_steps
      refine thaw ?_
      rename Fr _ _ _ _ => F12
      rename News _ _ _ _ => N12
      refine plain_m (x := wd.take (7 - (i + 1))) (by assumption) F12 (by assumption) N12 (by assumption) rfl (by ktr_room) (by ktr_units) (by rw [List.length_take]; omega) ?_
      intro t13 h13 tk13 F13 N13
      clear F12 N12
      have hcat := pats_any (i + 1) (wd.take (7 - (i + 1)))
      have hlts : (List.replicate (i + 1) Tk.any ++ litsT (wd.take (7 - (i + 1)))).length ≤ 100 := by
        unfold litsT
        rw [List.length_append, List.length_replicate, List.length_map, List.length_take]; omega
      have hcz : (pats (List.replicate (i + 1) Tk.any ++ litsT (wd.take (7 - (i + 1))))).length ≤ 100000 := by
        have := pats_len (List.replicate (i + 1) Tk.any ++ litsT (wd.take (7 - (i + 1))))
        omega
      k_steps
      refine thaw ?_
      rename Fr _ _ _ _ => F14
      rename News _ _ _ _ => N14
      have N15 := perm_71 (own := [_]) N14
      obtain ⟨R, hR⟩ : ∃ R, R = decide (wd.drop (i + 1) = wd.take (7 - (i + 1))) := ⟨_, rfl⟩
      have h71 : ∀ p ∈ [(I, itR (1 + ((i + 1 : Nat) : Int)) (((7 : Nat) : Int) - ((i + 1 : Nat) : Int))), (lf, listOf #[] k)] ++ rest, p.1 ≠ 71 := by
        intro p hp
        rcases List.mem_cons.mp hp with rfl | hp
        · exact (hoI _ (.tail _ (.head _))).symm
        · rcases List.mem_cons.mp hp with rfl | hp
          · exact Nat.ne_of_gt (Nat.lt_trans (by decide) hlf)
          · exact hr71 p hp
      have hr1 : R = fitsRow (rowOf (List.replicate (i + 1) Tk.any ++ litsT (wd.take (7 - (i + 1))))) wd := by
        have := fits_per (wd := wd) (n := i + 1) (by omega)
        rw [hwl] at this
        rw [this, hR]
      have hwd100 : wd.length ≤ 100 := by omega
      refine takes_c (by assumption) F14 (by assumption) N15 (by assumption) rfl (by ktr_room) (by ktr_units) (by assumption) hTF h71 hlts (any_lit fun c hc => hwb c (List.mem_of_mem_take hc)) (.inl (any_plain _ _)) hwd100 R (fun _ => hr1) (fun tA tB e _ => (star_plain (any_plain _ _) e).elim) ?_
      intro ps16 h16 tk16 TF16 F16 N16
      clear F14 N14 N15
      by_cases hper : wd.drop (i + 1) = wd.take (7 - (i + 1))
      · rw [hR, decide_eq_true hper]
        have hpp : PerOf wd (i + 1) := (perOf_iff wd (i + 1) (by omega)).mp (by rw [hwl]; exact hper)
        k_steps
        first
          | refine thaw ?_
            rename Fr _ _ _ _ => F19
            rename News _ _ _ _ => N19
            rw [List.push_toArray] at N19
            exact UnrEnd.intro F19 N19 _ sub_I (off_I hIlf.symm hI71.symm hoR) ⟨_, _, _, _, .inr ⟨i + 1, t, rfl, by omega, Nat.le_refl _, hpp, fun n h1 h2 => hno n h1 (by omega)⟩, TF16, rfl, rfl⟩
          | rename Fr _ _ _ _ => F17
            rename News _ _ _ _ => N17
            dsimp only
            refine append_K F17 N17 (.tail h71lf (.tail hIlf (.head hrlf))) ?_ (Nat.zero_le _)
            intro h18 F18 N18
            rw [List.push_toArray] at N18
            clear F17 N17
            k_steps
            refine thaw ?_
            rename Fr _ _ _ _ => F19
            rename News _ _ _ _ => N19
            exact UnrEnd.intro F19 N19 _ sub_I (off_I hIlf.symm hI71.symm hoR) ⟨_, _, _, _, .inr ⟨i + 1, t, rfl, by omega, Nat.le_refl _, hpp, fun n h1 h2 => hno n h1 (by omega)⟩, TF16, rfl, rfl⟩
      · rw [hR, decide_eq_false hper]
        have hpp : ¬ PerOf wd (i + 1) := fun h => hper (by have := (perOf_iff wd (i + 1) (by omega)).mpr h; rw [hwl] at this; exact this)
        k_steps
        refine thaw ?_
        rename Fr _ _ _ _ => F17
        rename News _ _ _ _ => N17
        exact UnrEnd.intro F17 N17 _ sub_I (off_I hIlf.symm hI71.symm hoR) ⟨_, _, _, _, .inl ⟨rfl, fun n h1 h2 => by
          rcases Nat.lt_or_ge i n with q | q
          · rw [show n = i + 1 by omega]; exact hpp
          · exact hno n h1 q⟩, TF16, rfl, rfl⟩
    · have hdn : decide ([(p : Int)] = []) = false := by simp
      k_steps
      refine thaw ?_
      rename Fr _ _ _ _ => F12
      rename News _ _ _ _ => N12
      exact UnrEnd.intro F12 N12 _ (fun p hp => .tail _ hp) hoI ⟨_, _, _, _, .inr ⟨p, tp, rfl, hp0, by omega, hper, hmin⟩, hTF, rfl, rfl⟩
  rintro m₁ news₁ h9 tk9 ⟨V9, k9, ps9, u9, hV9, hTF9, rfl, rfl⟩ F9 N9
  rcases hV9 with ⟨_, hno⟩ | ⟨p, tp, rfl, hp0, hp7, hper, hmin⟩
  · exact absurd (per_full hwl) (hno 7 (by decide) (by decide))
  subst hrest
  clear F10 N10 R10
  have hdn : decide ([(p : Int)] = []) = false := by simp
  k_with "CompEnd" => refine freeze ?_
  k_steps
  k_with "CompEnd" => refine freeze ?_
  refine thaw ?_
  rename Fr _ _ _ _ => F10
  rename News _ _ _ _ => N10
  refine LCg.CompSrc.ledger (by rfl) F10 N10 (by k_mem) ?_ ?_
  · rw [List.size_toArray, I6.length, List.length_map, hwl]
    decide
  intro g'
  refine' kcf_list (fun x => 255 - x) I6 (fun k' t' I' oI' C' oC' D' m' ys' h' tk' E' hk' hC' hx' F' N' off' ne' hMark' => ?_) ?_
  · have off2 := off'
    have hkb : 0 ≤ k' ∧ k' < 256 := by
      obtain ⟨c, hc, rfl⟩ := List.mem_map.mp hk'
      have := hwb c hc
      exact ⟨by omega, by omega⟩
    k_steps
    refine thaw ?_
    exact LCg.CompEnd.intro (by assumption) (by assumption) _ (fun p hp => hp) off2 (by lcg_src) (kcf_el rfl rfl rfl)
  intro ts hts
  rw [turned_ok hwb] at hts
  clear F10 N10
  have hcx3 : ∀ x ∈ cx, x.1 ≠ Array.size (Shared.heap ‹Shared›).objs + 1 + 1 + 1 := fun x hx => Nat.ne_of_gt (Nat.lt_trans (by omega) (hcxD x hx))
  have hcx4 : ∀ x ∈ cx, x.1 ≠ Array.size (Shared.heap ‹Shared›).objs + 1 + 1 + 1 + 1 := fun x hx => Nat.ne_of_gt (Nat.lt_trans (by omega) (hcxD x hx))
  have hcx5 : ∀ x ∈ cx, x.1 ≠ Array.size (Shared.heap ‹Shared›).objs + 1 + 1 + 1 + 1 + 1 := fun x hx => Nat.ne_of_gt (Nat.lt_trans (by omega) (hcxD x hx))
  k_steps
  k_with "CompEnd" => refine freeze ?_
  refine thaw ?_
  rename Fr _ _ _ _ => F10
  rename News _ _ _ _ => N10
  rename IsRange _ _ 0 7 1 _ _ _ => R10
  refine LCg.CompSrc.range (n := 7) (by rfl) F10 N10 R10 (by decide) (by decide) (by decide) ?_
  intro g'
  refine tails_rest (wd := wd) (pre := [_, _, _, _, _, _, _, _, _, _]) (own0 := cx) (fun i t I oI C oC D m₂ ys own h tk E' hi7 hsub hC hx F11 N11 off ne => ?_) ?_
  · simp only [List.cons_append, List.nil_append] at N11
    have off2 := off
    have hz6 : ws1.toArray.size ≤ sizeLine := by rw [List.size_toArray, I6.length, List.length_map, hwl]; decide
    k_steps
    refine thaw ?_
    rename IntsAre _ (List.drop _ (List.map _ _)) => hI9
    rw [Int.toNat_natCast, ← List.map_drop] at hI9
    exact tails_end (by assumption) (by assumption) off2 (by omega) (by omega) (by omega) hI9
  intro tls own hT hown
  clear F10 N10 R10
  k_steps
  k_with "CompEnd" => refine freeze ?_
  refine thaw ?_
  rename Fr _ _ _ _ => F10
  rename News _ _ _ _ => N10
  rename IsRange _ _ 0 7 1 _ _ _ => R10
  refine LCg.CompSrc.range (n := 7) (by rfl) F10 N10 R10 (by decide) (by decide) (by decide) ?_
  intro g'
  refine tails_rest (wd := wd.map turn) (pre := [_, _, _, _, _, _, _, _, _, _, _]) (own0 := own) (fun i t I oI C oC D m₂ ys own9 h tk E' hi7 hsub hC hx F11 N11 off ne => ?_) ?_
  · simp only [List.cons_append, List.nil_append] at N11
    have off2 := off
    rename IntsAre ts _ => hts
    have hz7 : ts.toArray.size ≤ sizeLine := by rw [List.size_toArray, hts.length, List.length_map, List.length_map, hwl]; decide
    k_steps
    refine thaw ?_
    rename IntsAre _ (List.drop _ (List.map _ _)) => hI9
    rw [Int.toNat_natCast, ← List.map_drop] at hI9
    exact tails_end (by assumption) (by assumption) off2 (by omega) (by omega) (by omega) hI9
  intro oth own2 hT2 hown2
  clear F10 N10 R10
  k_with "call builtin:max" => refine freeze ?_
  k_steps
  k_with "call builtin:max" => refine freeze ?_
  k_with "call builtin:list.index" => refine freeze ?_
  refine thaw ?_
  rename Fr _ _ _ _ => F10
  rename News _ _ _ _ => N10
  have hwt : (wd.map turn).length = 7 := by rw [List.length_map, hwl]
  refine max_tails (wd := wd) (G := own) (by rfl) (by ktr_units) F10 N10 (.tail _ (.head _)) hT (fun x hx => in12 x (hown2 x hx)) ?_
  intro v h11 tk11 hv F11 N11
  clear F10 N10
  k_steps
  refine thaw ?_
  rename News _ _ _ _ => N12
  refine index_tails (wd := wd) (G := own) hwl (by ktr_units) N12 (.tail _ (.head _)) hT (fun x hx => in12 x (hown2 x hx)) (topOf_lt wd) hv ?_
  intro t12 tk12
  k_steps
  refine thaw ?_
  rename Fr _ _ _ _ => F13
  rename News _ _ _ _ => N13
  refine max_tails (wd := wd.map turn) (G := own2) (by rfl) (by ktr_units) F13 N13 (.head _) hT2 in12 ?_
  intro v2 h14 tk14 hv2 F14 N14
  k_steps
  refine thaw ?_
  rename News _ _ _ _ => N15
  refine index_tails (wd := wd.map turn) (G := own2) hwt (by ktr_units) N15 (.head _) hT2 in12 (topOf_lt _) hv2 ?_
  intro t16 tk16
  k_steps
  refine thaw ?_
  refine max_three_ints (by rfl) fun h16 tk17 hk16 => ?_
  obtain ⟨tg, hmx⟩ := max3_val (i := topOf wd) (j := topOf (wd.map turn)) (t := _) (u := t12) (x := t16)
  rw [hmx]
  obtain ⟨gap, hge, hg0, hg7, hgap⟩ := gap_ok hwl hwb hp7 hmin
  rw [hge]
  have F16 := F14.keeps hk16
  have N16 := perm_s95 (cx := cx) (N15.grown hk16) (fun x hx => hown2 x (hown x hx))
  clear F13 N13 F14 N15 hmx hk16 hT hT2 hown hown2 hv hv2 hge
  refine (fun h => h) ?_
  k_steps
  rename Fr _ _ _ _ => F17
  refine thaw ?_
  refine For_invVF F17 (by with_unfolding_all rfl) (by with_unfolding_all rfl) ?_
  k_steps
  refine thaw ?_
  rename Fr _ _ _ _ => F18
  rename News _ _ _ _ => N18
  rename IsRange _ _ 1 7 1 _ _ _ => R18
  obtain ⟨mC, F18⟩ := fr_expose (a := Str.ofString "gap") (b := Str.ofString "fits") (va := some (Value.int (gap : Int) tg)) (vb := some (Value.ref lf)) F18 (by with_unfolding_all rfl) (by with_unfolding_all rfl)
  generalize hmB : (fun y => if y = Str.ofString "gap" then some (Value.int (gap : Int) tg) else if y = Str.ofString "fits" then some (Value.ref lf) else mC y) = mB at F18
  refine range_inv (n := 6) (fun _ => CutInv (Str.ofString "_law_stream.<locals>._law_read") D1 lf _ (listOf [Value.int (p : Int) tp].toArray k9) (listOf ws1.toArray 0) oO mB) (by rfl) R18 (by decide) (by decide) F18 N18
    ⟨_, _, _, _, _, _, _, _, _, hTF9, hT5, hcxD, (by assumption), (by assumption), rfl, unshadow2⟩ ?trn ?dne
  case dne =>
    rintro m₁ news₁ h tk ⟨ps71, ps85, cx', oA, oB, vA, vB, u1, u2, hTF, hT2', hcxD', hB, hA, rfl, rfl⟩ F19 N19
    clear F18 N18
    k_steps
  case' trn =>
    rintro I i m₁ news₁ t h tk hi ⟨ps71, ps85, cx', oA, oB, vA, vB, u1, u2, hTF, hT2', hcxD', hB, hA, rfl, rfl⟩ hoI F19 N19
    rw [shadow, show (1 : Int) + (i : Int) = ((i + 1 : Nat) : Int) by omega] at F19
  subst hmB
  obtain ⟨c, hce⟩ : ∃ c, c = i + 1 := ⟨_, rfl⟩
  rw [← hce] at F19
  have hc0 : 0 < c := by omega
  have hc7 : c < 7 := by omega
  clear F18 N18
  repeat (rename (_ ≠ _ ∧ _) => hz9; clear hz9)
  repeat (rename LCg.Off1 _ _ => hz9; clear hz9)
  have hz6 : ws1.toArray.size ≤ sizeLine := by rw [List.size_toArray, I6.length, List.length_map, hwl]; decide
  k_steps
  refine thaw ?_
  rename Fr _ _ _ _ => F20
  rename News _ _ _ _ => N20
  rename IntsAre _ ([(c : Int)] ++ _ ++ _ ++ _) => I20
  rw [cut_list hc7] at I20
  have N21 := perm_cut1 (own := [_, _, _, _, _, _]) N20
  have hcx85 := hT2'.above
  have hcx85' : ∀ x ∈ cx', x.1 ≠ 85 := fun x hx => Nat.ne_of_gt (hcx85 x hx)
  have hI85 : @Ne Nat I 85 := (hoI _ (.tail _ (.head _))).symm
  refine stream_c (ps := ps85) (cx := cx') (by assumption) F20 (by assumption) N21 (by assumption) rfl (by ktr_room) (by ktr_units) (by assumption) hT2' (fun x hx => .tail _ (.tail _ (.tail _ (.tail _ (.tail _ (.tail _ (.tail _ (.tail _ hx)))))))) ?_ (.head _) ?_
  · k_all
  intro f la t0 n0 ext ps5' cx5 h5 tk5 hT5' hcx5' hcxn F21 N22 hne5 hS5
  have hextD : ∀ x ∈ ext, @LT.lt Nat _ D1 x.1 := fun x hx => by
    rcases hcxn x hx with h | h
    · exact h _ (.tail _ (.tail _ (.tail _ (.tail _ (.head _)))))
    · exact hcxD' x h
  have hextI : ∀ x ∈ ext, @Ne Nat x.1 I := fun x hx => by
    rcases hcxn x hx with h | h
    · exact Nat.ne_of_gt (h _ (.tail _ (.head _)))
    · exact hoI _ (.tail _ (.tail _ (.tail _ (.tail _ (.tail _ (.tail _ (.tail _ h)))))))
  have N23 := perm_cut2 N22
  have hext4 : ∀ x ∈ ext, x.1 ≠ Array.size (Shared.heap ‹Shared›).objs + 1 + 1 + 1 + 1 := fun x hx => Nat.ne_of_gt (Nat.lt_trans (by omega) (hextD x hx))
  have hext5 : ∀ x ∈ ext, x.1 ≠ Array.size (Shared.heap ‹Shared›).objs + 1 + 1 + 1 + 1 + 1 := fun x hx => Nat.ne_of_gt (Nat.lt_trans (by omega) (hextD x hx))
  obtain ⟨ha85, haD, haI, ha71, half, haD1, ha5, ha4, ha2, haX⟩ := off9 hne5
  have ha4' : @Ne Nat (Array.size (Shared.heap ‹Shared›).objs + 1 + 1 + 1 + 1) la := ha4
  have ha5' : @Ne Nat (Array.size (Shared.heap ‹Shared›).objs + 1 + 1 + 1 + 1 + 1) la := ha5
  have hI4 : @Ne Nat (Array.size (Shared.heap ‹Shared›).objs + 1 + 1 + 1 + 1) I := hoI _ (.tail _ (.tail _ (.tail _ (.tail _ (.tail _ (.head _))))))
  have hI5 : @Ne Nat (Array.size (Shared.heap ‹Shared›).objs + 1 + 1 + 1 + 1 + 1) I := hoI _ (.tail _ (.tail _ (.tail _ (.tail _ (.head _)))))
  clear N20 N21 N22 F20 hne5 hcxn
  k_steps
  refine thaw ?_
  rename News _ _ _ _ => N24
  refine reads_c (k := 0) (c := c) (ns := cutNs wd c) (by assumption) (by assumption) (by assumption) N24 (by assumption) rfl (by ktr_room) (by ktr_units) (by assumption) hS5 in9 (ne_cons haD (ne_cons haI (ne_cons ha71 (ne_cons ha85 (ne_cons half (ne_cons haD1 (ne_cons ha5 (ne_cons ha4 (ne_cons ha2 haX))))))))) (.head _) I20 (cutNs_in hwl hc7 hwb) (by rw [cutNs_len hwl hc7]; decide) rfl hc0 (by omega) (by rw [cutNs_len hwl hc7]; omega) ?_
  intro ta tk25 tk26 h25 F25 N25
  rw [cutNs_one hwl hc7]
  k_steps
  refine thaw ?_
  rename News _ _ _ _ => N26
  refine reads_c (k := 0 + 1 + c) (c := 7 - c) (ns := cutNs wd c) (by assumption) (by assumption) (by assumption) N26 (by assumption) rfl (by ktr_room) (by ktr_units) (by assumption) hS5 in9 (ne_cons haD (ne_cons haI (ne_cons ha71 (ne_cons ha85 (ne_cons half (ne_cons haD1 (ne_cons ha5 (ne_cons ha4 (ne_cons ha2 haX))))))))) (.head _) I20 (cutNs_in hwl hc7 hwb) (by rw [cutNs_len hwl hc7]; decide) (cutNs_at hwl hc7) (by omega) (by omega) (by rw [cutNs_len hwl hc7]; omega) ?_
  intro tb tk27 tk28 h27 F27 N27
  rw [cutNs_two hwl hc7]
  have hcat : wd.take c ++ wd.drop c = wd := List.take_append_drop c wd
  k_steps
  k_with "CompEnd" => refine freeze ?_
  rename Fr _ _ _ _ => F28
  rename News _ _ _ _ => N28
  refine SignSrc.intro (by rfl) F28 N28 (by rw [hwl]; decide) fun g9 => ?_
  refine sign_rest (fun cs us I2 oI2 C2 oC2 D2 m₂ ys2 h2 tk2 E2 hcs hC2 hx2 F29 N29 off2 ne2 => ?_) ?_
  · have off3 := off2
    have hone : (⟨#[cs]⟩ : Str).length = 1 := rfl
    k_steps
    exact ⟨rfl, _, rfl⟩
  intro zs hzs
  k_steps
  refine thaw ?_
  rename Fr _ _ _ _ => F30
  rename News _ _ _ _ => N30
  have N31 := perm_cut3 N30 hcx5'
  have hcx71' : ∀ x ∈ cx5, x.1 ≠ 71 := fun x hx => Nat.ne_of_gt (Nat.lt_trans (by decide) (hT5'.above x hx))
  have hcxD5 : ∀ x ∈ cx5, @LT.lt Nat _ D1 x.1 := fun x hx => hextD x (hcx5' x hx)
  have hI71 : @Ne Nat I 71 := (hoI _ (.head _)).symm
  have hlal : (wd.take c).length ≤ 30 := by rw [List.length_take]; omega
  have hlbl : (wd.drop c).length ≤ 30 := by rw [List.length_drop]; omega
  have hca : ∀ x ∈ wd.take c, x < 256 := fun x hx => hwb x (List.mem_of_mem_take hx)
  have hcb : ∀ x ∈ wd.drop c, x < 256 := fun x hx => hwb x (List.mem_of_mem_drop hx)
  have hp30 : p ≤ 30 := by omega
  have h71n : @Ne Nat 85 71 := by decide
  have hlf71 : @Ne Nat lf 71 := Nat.ne_of_gt (Nat.lt_trans (by decide) hlf)
  have hD171 : @Ne Nat D1 71 := by omega
  have hL571 : @Ne Nat (Array.size (Shared.heap ‹Shared›).objs + 1 + 1 + 1 + 1 + 1) 71 := by omega
  have hL471 : @Ne Nat (Array.size (Shared.heap ‹Shared›).objs + 1 + 1 + 1 + 1) 71 := by omega
  have hL271 : @Ne Nat (Array.size (Shared.heap ‹Shared›).objs + 1 + 1) 71 := by omega
  refine rep_c (by assumption) F30 (by assumption) N31 (by assumption) rfl (by ktr_room) (by ktr_units) (by assumption) hTF (ne_cons hI71 (ne_cons h71n (ne_cons hlf71 (ne_cons hD171 (ne_cons hL571 (ne_cons hL471 (ne_cons hL271 hcx71'))))))) hlal hlbl hca hcb hp0 hp30 ?_
  intro ps32 h32 tk32 TF32 F32 N32
  rw [rep_period hper hp0 (by omega) (by omega)]
  clear N30 N31 F30
  rename (Obj.data _ = Data.cell (some (Value.str (mkS (List.drop _ _)) _))) => dB
  rename (Obj.data _ = Data.cell (some (Value.str (mkS (List.take _ _)) _))) => dA
  have hlI : @Ne Nat lf I := hoI _ (.tail _ (.tail _ (.head _)))
  have hDI : @Ne Nat D1 I := hoI _ (.tail _ (.tail _ (.tail _ (.head _))))
  have hI2 : @Ne Nat (Array.size (Shared.heap ‹Shared›).objs + 1 + 1) I := hoI _ (.tail _ (.tail _ (.tail _ (.tail _ (.tail _ (.tail _ (.head _)))))))
  have hcxI5 : ∀ x ∈ cx5, @Ne Nat x.1 I := fun x hx => hextI x (hcx5' x hx)
  have hcs : Str.ofString "cut" ≠ Str.ofString "stream" := by decide +kernel
  by_cases hcg : c = gap
  rotate_left
  · k_steps
    refine thaw ?_
    rename Fr _ _ _ _ => F33
    rename News _ _ _ _ => N33
    exact UnrEnd.intro F33 N33 _ (sub_cut (own := [])) (ne_cons hI71.symm (ne_cons hI85.symm (ne_cons hlI (ne_cons hDI (ne_cons hI5 (ne_cons hI4 (ne_cons hI2 hcxI5))))))) ⟨ps32, ps5', cx5, _, _, _, _, _, _, TF32, hT5', hcxD5, dB, dA, rfl, reshadow hcs⟩
  subst hcg
  k_steps
  any_goals first | exact absurd rfl ‹((c : Nat) : Int) ≠ ((c : Nat) : Int)› | skip
  refine thaw ?_
  rename Fr _ _ _ _ => F33
  rename News _ _ _ _ => N33
  rename IsRange _ _ 1 _ 1 _ _ _ => R33
  refine LCt.CompSrcT.range (by rfl) F33 N33 R33 (rng_small hp30) rng_size (rng_line hp30) ?_
  intro g'
  refine gap_rest TF32 (fun i5 t5 I5 oI5 C5 oC5 D5 m₂ ps5 h5 tk5 E5 hi5 hTF5 hC5 hx5 F5 N5 off5 ne5 => ?_) fun ps6 hTF6 => ?_
  · have off6 := off5
    simp only [LCg.Off3, and_true] at off5
    have hi6 : i5 + 1 < p := Nat.add_lt_of_lt_sub hi5
    k_steps
    refine thaw ?_
    refine rep_c (by assumption) F5 (by assumption) (perm_gap (own := []) N5) (by assumption) rfl (by ktr_room) (by ktr_units) (by assumption) hTF5 (ne_cons (Ne.symm off5.1.1) (ne_cons (Ne.symm off5.1.2.1) (ne_cons (Ne.symm off5.1.2.2) (ne_cons hI71 (ne_cons h71n (ne_cons hlf71 (ne_cons hD171 (ne_cons hL571 (ne_cons hL471 (ne_cons hL271 hcx71')))))))))) hlal hlbl hca hcb (Nat.succ_pos _) (Nat.le_of_lt (Nat.lt_of_lt_of_le hi6 hp30)) ?_
    intro ps41 h41 tk41 TF41 F41 N41
    rw [hgap (i5 + 1) (Nat.succ_pos _) hi6]
    k_steps
    exact LCg.CompEnd.intro F41 N41 ((71, tabObj ps41) :: _) (sub_gap (own := [])) off6 trivial ⟨ps41, TF41, rfl⟩
  have hnil : IntsAre [] [] := .nil
  k_steps
  refine thaw ?_
  rename Fr _ _ _ _ => F34
  rename News _ _ _ _ => N34
  exact UnrEnd.intro F34 N34 _ (sub_cut (own := [_, _])) (ne_cons hI71.symm (ne_cons hI85.symm (ne_cons hlI (ne_cons hDI (ne_cons hI5 (ne_cons hI4 (ne_cons hI2 hcxI5))))))) ⟨ps6, ps5', cx5, _, _, _, _, _, _, hTF6, hT5', hcxD5, dB, dA, rfl, reshadow hcs⟩

end Mine
theorem PySem.Challenge.cw_ij0200_01_holds : PySem.Challenge.rw_ij0200_01.Holds := by
  exact Mine.law_holds
