import PyProof.Rows.All
import Wide.All
import OpenK.AllK
import Wide.FinOn
import Lean
import PySem.Challenge.RW_ik0116_01
set_option Elab.async false
set_option maxRecDepth 100000
set_option maxHeartbeats 8000000
set_option linter.all false
section
open PySem PySem.W PyProof.Rows
namespace Mine
/-- the program less the statements that the walk does not look at -/
noncomputable def view : Program := match PySem.Challenge.pw_ik0116_01.main.body with
  | [a0, a1, _, a3, a4, _, a6, a7, _, a9, a10, _, a12, a13, _, a15, a16, _, a18, a19, a20, a21, a22] => { PySem.Challenge.pw_ik0116_01 with main := { PySem.Challenge.pw_ik0116_01.main with body := [a0, a1, a3, a4, a6, a7, a9, a10, a12, a13, a15, a16, a18, a19, a20, a21, a22] } }
  | _ => PySem.Challenge.pw_ik0116_01
noncomputable abbrev looseL : List Str := [Str.ofString "_Accumulator", Str.ofString "_twin_re_1", Str.ofString "_special_chars_map"]
noncomputable abbrev rowW (w : World) (a b : Bool) : World := (w.withFollow "special-get-raises" b).withFollow "comprehension-iter-twice" a
noncomputable abbrev LeftAt (p q : Program) (loose : List Str) (Xt : Shared → Bool) {α : Type} (Yf : Shared → α) (Ya : World → α) (N : Nat) (a b : Bool) : Prop :=
  ∀ w, (openEnds treeTable p (rowW w a b) N).map (fun s => (openSeen q loose (importedModules p.main.body) Xt true s, Yf s)) = some (openGood q loose, Ya (rowW w a b))
theorem left4 {p q : Program} {loose : List Str} {Xt : Shared → Bool} {α : Type} {Yf : Shared → α} {Ya : World → α} {N : Nat} (h1 : LeftAt p q loose Xt Yf Ya N false false) (h2 : LeftAt p q loose Xt Yf Ya N false true) (h3 : LeftAt p q loose Xt Yf Ya N true false) (h4 : LeftAt p q loose Xt Yf Ya N true true) : LeftO p q loose Xt Yf Ya N :=
  byRow2 "comprehension-iter-twice" (P := fun w => (openEnds treeTable p w N).map (fun s => (openSeen q loose (importedModules p.main.body) Xt true s, Yf s)) = some (openGood q loose, Ya w))
    (byRow2 "special-get-raises" (P := fun w => (openEnds treeTable p (w.withFollow "comprehension-iter-twice" false) N).map (fun s => (openSeen q loose (importedModules p.main.body) Xt true s, Yf s)) = some (openGood q loose, Ya (w.withFollow "comprehension-iter-twice" false))) h1 h2)
    (byRow2 "special-get-raises" (P := fun w => (openEnds treeTable p (w.withFollow "comprehension-iter-twice" true) N).map (fun s => (openSeen q loose (importedModules p.main.body) Xt true s, Yf s)) = some (openGood q loose, Ya (w.withFollow "comprehension-iter-twice" true))) h3 h4)
theorem curry3 {a b c d : Prop} (f : a → b → c → d) (hb : b) (h : a ∧ c) : d := f h.1 hb h.2
section
open PySem.W.Fast
noncomputable abbrev stT := tw10156331382660048174 (tw11892475500146522536 tw14364793385576792824)
theorem stT_eq : stepT (denote treeTable) = stT := by
  rw [te10156331382660048174, te11892475500146522536, te14364793385576792824]
noncomputable def runT (p : Program) (w : World) (n₀ : Nat) (ann : Option Value) : Nat → SharedT → Thread → Option SharedT
  | 0, _, _ => none
  | n + 1, s, t => match through t with
    | true => some s
    | false => match tw6613529449190102663 n₀ ann t with
      | false => none
      | true => match stT p w s t with
        | some (s', t') => runT p w n₀ ann n s' t'
        | none => none
theorem runT_spec {p : Program} {w : World} {n₀ : Nat} {ann : Option Value} : ∀ {n : Nat} {s s' : SharedT} {t : Thread}, runT p w n₀ ann n s t = some s' → topRun treeTable p w n₀ ann n s.abs t = some s'.abs
  | 0, _, _, _, h => by cases h
  | n + 1, s, s', t, h => by
    unfold runT at h
    unfold topRun
    rw [← te6613529449190102663, ← stT_eq] at h
    cases ht : through t with
    | true => rw [ht] at h; cases h; rfl
    | false =>
      rw [ht] at h
      cases hk : stepOk n₀ ann t with
      | false => rw [hk] at h; cases h
      | true =>
        rw [hk] at h
        cases hs : stepT (denote treeTable) p w s t with
        | none => rw [hs] at h; cases h
        | some r => obtain ⟨s₂, t₂⟩ := r; rw [hs] at h; rw [stepT_spec hs]; exact runT_spec h
noncomputable def impT (p : Program) (w : World) : Nat → SharedT → Thread → Option SharedT
  | 0, _, _ => none
  | n + 1, s, t => match t.atExitBegin with
    | some [] => some s
    | some (_ :: _) => none
    | none => match stT p w s t with
      | some (s', t') => impT p w n s' t'
      | none => none
theorem impT_spec {p : Program} {w : World} : ∀ {n : Nat} {s s' : SharedT} {t : Thread}, impT p w n s t = some s' → importEnds treeTable p w n s.abs t = some s'.abs
  | 0, _, _, _, h => by cases h
  | n + 1, s, s', t, h => by
    unfold impT at h
    unfold importEnds
    rw [← stT_eq] at h
    cases ht : t.atExitBegin with
    | some l => cases l with
      | nil => rw [ht] at h; cases h; rfl
      | cons => rw [ht] at h; cases h
    | none =>
      rw [ht] at h
      cases hs : stepT (denote treeTable) p w s t with
      | none => rw [hs] at h; cases h
      | some r => obtain ⟨s₂, t₂⟩ := r; rw [hs] at h; dsimp only; rw [stepT_spec hs]; exact impT_spec h
noncomputable def treeFrom? : List Obj → Nat → BT → Option BT
  | [], _, t => some t
  | o :: l, n, t => match ((t.ins n o).get n).isSome with
     | true => treeFrom? l (n + 1) (t.ins n o)
     | false => none
theorem treeFrom_spec {life : Life} : ∀ {l : List Obj} {n : Nat} {t t' : BT}, treeFrom? l n t = some t' → absHeap t' (n + l.length) life = ⟨(absHeap t n life).objs ++ l.toArray, life⟩
  | [], n, t, t', h => by
    cases h
    show absHeap t n life = Heap.mk ((absHeap t n life).objs ++ #[]) life
    rw [Array.append_empty]
    rfl
  | o :: l, n, t, t', h => by
    unfold treeFrom? at h
    cases hs : ((t.ins n o).get n).isSome with
    | false => rw [hs] at h; cases h
    | true =>
      rw [hs] at h
      have := treeFrom_spec (life := life) h
      rw [List.length_cons, show n + (l.length + 1) = n + 1 + l.length by omega, this, absHeap_ins hs]
      show Heap.mk ((absHeap t n life).objs.push o ++ l.toArray) life = _
      congr 1
      simp
noncomputable def toT? (s : Shared) : Option SharedT := (treeFrom? s.heap.objs.toList 0 .nil).map fun t => ⟨t, s.heap.objs.size, s.heap.life, s.gens, s.drawn, s.toks, s.os⟩
theorem toT_spec {s : Shared} {z : SharedT} (h : toT? s = some z) : z.abs = s := by
  obtain ⟨t, h1, rfl⟩ := Option.map_eq_some_iff.mp h
  obtain ⟨⟨⟨objs⟩, life⟩, gens, drawn, toks, os⟩ := s
  have := treeFrom_spec (life := life) h1
  rw [Nat.zero_add] at this
  show Shared.mk (absHeap t objs.length life) gens drawn toks os = _
  rw [this]
  show Shared.mk ⟨#[] ++ objs.toArray, life⟩ gens drawn toks os = _
  rw [Array.empty_append]
noncomputable def openT (p : Program) (w : World) (N : Nat) : Option Shared := ((impT (opening p) w N ⟨.nil, 0, {}, #[], {}, 1, (start (opening p)).1.os⟩ (start (opening p)).2).bind fun s => fenceModules? p s.abs)
theorem openT_spec {p : Program} {w : World} {N : Nat} {s : Shared} (h : openT p w N = some s) : fencedOpening treeTable p w N = some s := by
  obtain ⟨z, h1, h2⟩ := Option.bind_eq_some_iff.mp h
  exact Option.bind_eq_some_iff.mpr ⟨z.abs, impT_spec h1, h2⟩
noncomputable def endsT (p : Program) (w : World) (N : Nat) : Option Shared := (openT p w N).bind fun s => match s.heap.isNs mainGlobals && s.gens.size == 0 with
  | true => (toT? s).bind fun z => (runT p w s.heap.objs.size (s.heap.nsMap mainGlobals "__annotations__") N z (topStub p)).bind fun y => match staticsOk (importedModules p.main.body) s.heap y.abs.heap && namesBound p y.abs.heap && gensDone y.abs && laidKept s.heap y.abs.heap with
    | true => some y.abs
    | false => none
  | false => none
theorem endsT_spec {p : Program} {w : World} {N : Nat} {r : Shared} (h : endsT p w N = some r) : openEnds treeTable p w N = some r := by
  obtain ⟨s, h1, h2⟩ := Option.bind_eq_some_iff.mp h
  refine Option.bind_eq_some_iff.mpr ⟨s, openT_spec h1, ?_⟩
  unfold topFrom
  cases hg : (s.heap.isNs mainGlobals && s.gens.size == 0) with
  | false => rw [hg] at h2; cases h2
  | true =>
    rw [hg] at h2
    obtain ⟨z, h3, h4⟩ := Option.bind_eq_some_iff.mp h2
    obtain ⟨y, h5, h6⟩ := Option.bind_eq_some_iff.mp h4
    have := runT_spec h5
    rw [toT_spec h3] at this
    exact Option.bind_eq_some_iff.mpr ⟨y.abs, this, h6⟩
theorem left_of {p q : Program} {loose : List Str} {Xt : Shared → Bool} {α : Type} {Yf : Shared → α} {Ya : World → α} {N : Nat} {a b : Bool} (h : ∀ w, (endsT p (rowW w a b) N).map (fun s => (tw4187177175401517315 q loose (importedModules p.main.body) Xt true s, Yf s)) = some (openGood q loose, Ya (rowW w a b))) : LeftAt p q loose Xt Yf Ya N a b := fun w => by
  have e := h w
  rw [← te4187177175401517315] at e
  obtain ⟨s, h1, h2⟩ := Option.map_eq_some_iff.mp e
  exact Option.map_eq_some_iff.mpr ⟨s, endsT_spec h1, h2⟩
end
end Mine
local macro_rules | `(tactic| o_head (kmHook $K $as $e $_ts)) => `(tactic| (
    refine Mine.curry3 (fun h1 h2 h3 => holds_open (q := Mine.view) (loose := Mine.looseL) (Xt := fun s => xlAt Mine.view [] s && recOk (RowW.records (OpenRow.toRowW (OpenLaw.row PySem.Challenge.rw_ik0116_01))) s) (XP := XL Mine.view []) (Yf := Hook.obs (kmHook $K $as $e (162 :: 101 :: []))) (Ya := Hook.val (kmHook $K $as $e (162 :: 101 :: []))) (YP := Hook.says (kmHook $K $as $e (162 :: 101 :: []))) (N := 4676) h1 (Hook.of (kmHook $K $as $e (162 :: 101 :: []))) (Hook.keeps (kmHook $K $as $e (162 :: 101 :: []))) (fun s e => xl_of s (Bool.and_eq_true_iff.mp e).1) XL.keeps (by rfl) (by rfl) (by rfl) (fun s e => recFacts_of (Bool.and_eq_true_iff.mp e).2) (by rfl) (by clear h1 h2 h3; first | assumption | decide +kernel) (by decide +kernel) ⟨rfl, rfl, rfl, rfl, rfl, by decide +kernel⟩ h2 h3) ?hw ?hc))
namespace Mine
open_top hd for PySem.Challenge.rw_ik0116_01
end Mine
namespace Mine
noncomputable def seen : List Addr := [2, 3, 32, 34, 35, 37, 38, 39, 41, 42, 44, 45, 46, 48, 49, 51, 52, 53, 56, 61, 62, 63, 65, 66, 68, 69, 70, 72, 73, 75, 76, 77, 78, 80, 81, 83, 84, 85, 86, 88, 89, 91, 92, 93, 95, 96, 98, 99, 100, 102, 103, 105, 106, 107, 108, 110, 111, 113, 114, 115, 117, 118, 120, 121, 122, 123, 125, 126, 128, 129, 130, 131, 132, 133, 134, 140, 141, 142, 144, 145, 147, 148, 150, 154, 156, 157, 159, 160, 161, 163, 164, 166, 167, 168, 170, 171, 173, 174, 175, 177, 178, 180, 181, 182, 184, 185, 187, 188, 189, 191, 192, 194, 195, 196, 199, 200, 201, 204, 205]
noncomputable abbrev obsK (s : Shared) : List (Option Obj) × List (Option Obj) := (seen.map s.heap.get?, [162, 101].map s.heap.get?)
noncomputable abbrev valK (w : World) : List (Option Obj) × List (Option Obj) := ((Mine.hd.heap_39 w.params).map fun p => some p.2, [162, 101].map fun _ => some (tabObj #[]))
noncomputable abbrev LeftK (a b : Bool) : Prop := LeftAt PySem.Challenge.pw_ik0116_01 view looseL (fun s => xlAt view [] s && recOk (RowW.records (OpenRow.toRowW (OpenLaw.row PySem.Challenge.rw_ik0116_01))) s) obsK valK 4676 a b
theorem left_false_false : LeftK false false := by
  refine left_of fun w => ?_
  kernel_rfl
theorem left_false_true : LeftK false true := by
  refine left_of fun w => ?_
  kernel_rfl
theorem left_true_false : LeftK true false := by
  refine left_of fun w => ?_
  kernel_rfl
theorem left_true_true : LeftK true true := by
  refine left_of fun w => ?_
  kernel_rfl
theorem left_all : LeftO PySem.Challenge.pw_ik0116_01 view looseL (fun s => xlAt view [] s && recOk (RowW.records (OpenRow.toRowW (OpenLaw.row PySem.Challenge.rw_ik0116_01))) s) obsK valK 4676 := left4 left_false_false left_false_true left_true_false left_true_true
end Mine
end
section
open PySem PySem.W PyProof.Rows
theorem Mine.top_off : True := by
  w_top off
  exact True.intro
end
section
open PySem PySem.W PyProof.Rows PySem.Spec PySem.Calls
namespace Mine
noncomputable abbrev accObj (d : Addr) (items : Array Value) (n : Nat) : Obj := { cls := .ref 132, dict := some d, data := .seq items n }
theorem acc_inst {h₀ h : Heap} {L x dx : Addr} {news : List (Addr × Obj)} {od : Obj} {items : Array Value} {n : Nat} (N : News h₀ L h news) (h1 : (x, accObj dx items n) ∈ news) (h2 : (dx, od) ∈ news) :
    InstAt h x (accObj dx items n) 132 (some od) := ⟨(N _ h1).1, rfl, rfl, (N _ h2).1⟩
end Mine
end
section
open PySem PySem.W PyProof.Rows PySem.Spec PySem.Calls
namespace Mine
section
variable {prog : Program} {w : World} {A : Around} {E : Value → Shared → Prop} {s : Shared} {K : Frag} {x C so D : Addr} {ox : Obj} {od : Option Obj} {Q : Fin → Shared → Prop}
theorem own_pop : ".".intercalate ("list.pop".cutAt '.').dropLast = "list" := by decide +kernel
theorem own_len : ".".intercalate ("list.__len__".cutAt '.').dropLast = "list" := by decide +kernel
theorem own_init : ".".intercalate ("list.__init__".cutAt '.').dropLast = "list" := by decide +kernel
theorem md_get (X : K.In s.heap) (I : InstAt s.heap x ox C od) (e : mroIn K C (.type "list") = some true)
    (h : Q (.done (.ret (.ref s.heap.objs.size))) { s with heap := s.heap.push { cls := .type "builtin_function_or_method", data := .fields #[.builtin "list.pop", .ref x] } }) :
    wpAny (model prog w) A (Builtin.«method_descriptor.__get__» ⟨[.builtin "list.pop", .ref x, .ref C], []⟩) Q E s := by
  have L := looks_mroIn (M := model prog w) X e
  have L0 := I.at_
  have Lc := I.cls
  obtain ⟨hp, g, d, t, os⟩ := s
  unfold Builtin.«method_descriptor.__get__»
  repeat (first | (rw [own_pop, Lc]; with_reducible refine Looks.at L ?_) | (with_reducible refine wpAny_loadPart_at L0 ?_) | (with_reducible refine wpAny_newObj_type ?_ (by size_fits)) | wp_step)
  all_goals exact h
theorem wd_get {id : String} (hid : id = "list.__len__" ∨ id = "list.__init__") (X : K.In s.heap) (I : InstAt s.heap x ox C od) (e : mroIn K C (.type "list") = some true)
    (h : Q (.done (.ret (.ref s.heap.objs.size))) { s with heap := s.heap.push { cls := .type "method-wrapper", data := .fields #[.builtin id, .ref x] } }) :
    wpAny (model prog w) A (Builtin.«wrapper_descriptor.__get__» ⟨[.builtin id, .ref x, .ref C], []⟩) Q E s := by
  have L := looks_mroIn (M := model prog w) X e
  have L0 := I.at_
  have Lc := I.cls
  obtain ⟨hp, g, d, t, os⟩ := s
  rcases hid with rfl | rfl
  · unfold Builtin.«wrapper_descriptor.__get__»
    repeat (first | (rw [own_len, Lc]; with_reducible refine Looks.at L ?_) | (with_reducible refine wpAny_loadPart_at L0 ?_) | (with_reducible refine wpAny_newObj_type ?_ (by size_fits)) | wp_step)
    all_goals exact h
  · unfold Builtin.«wrapper_descriptor.__get__»
    repeat (first | (rw [own_init, Lc]; with_reducible refine Looks.at L ?_) | (with_reducible refine wpAny_loadPart_at L0 ?_) | (with_reducible refine wpAny_newObj_type ?_ (by size_fits)) | wp_step)
    all_goals exact h
end
end Mine
end
section
open PySem PySem.W PyProof.Rows PySem.Spec PySem.Calls
namespace Mine
theorem slot_md_get : Slot "method_descriptor" "__get__" "method_descriptor.__get__" :=
  .of (owner := "method_descriptor") (n := "__get__") (by rw [typeLookup_type, builtinLookup_eq_fast]; kernel_rfl) (by decide +kernel) (by decide +kernel) (by decide +kernel)
    (by first | exact .inl (by decide +kernel) | exact .inr (by decide +kernel)) (by rw [isSubtype_type]; kernel_rfl)
theorem slot_wd_get : Slot "wrapper_descriptor" "__get__" "wrapper_descriptor.__get__" :=
  .of (owner := "wrapper_descriptor") (n := "__get__") (by rw [typeLookup_type, builtinLookup_eq_fast]; kernel_rfl) (by decide +kernel) (by decide +kernel) (by decide +kernel)
    (by first | exact .inl (by decide +kernel) | exact .inr (by decide +kernel)) (by rw [isSubtype_type]; kernel_rfl)
theorem entry_md_get : entryFor table "method_descriptor.__get__" = some Builtin.«method_descriptor.__get__» := entryFor_of_tree (by kernel_rfl)
theorem entry_wd_get : entryFor table "wrapper_descriptor.__get__" = some Builtin.«wrapper_descriptor.__get__» := entryFor_of_tree (by kernel_rfl)
theorem args_md_get (a b c : Value) : argsOk "method_descriptor.__get__" ⟨[a, b, c], []⟩ := by unfold argsOk; kernel_rfl
theorem args_wd_get (a b c : Value) : argsOk "wrapper_descriptor.__get__" ⟨[a, b, c], []⟩ := by unfold argsOk; kernel_rfl
theorem type_pop : typeOf (.builtin "list.pop") = pure (.type "method_descriptor") := by show builtinType _ = _; rw [builtinType_eq_fast]; kernel_rfl
theorem type_len : typeOf (.builtin "list.__len__") = pure (.type "wrapper_descriptor") := by show builtinType _ = _; rw [builtinType_eq_fast]; kernel_rfl
theorem type_init : typeOf (.builtin "list.__init__") = pure (.type "wrapper_descriptor") := by show builtinType _ = _; rw [builtinType_eq_fast]; kernel_rfl

/-- what binding a built-in of list to an object makes -/
noncomputable def boundObj (id : String) (x : Addr) : Obj := { cls := .type (if id = "list.pop" then "builtin_function_or_method" else "method-wrapper"), data := .fields #[.builtin id, .ref x] }

theorem bind_call {id : String} (hid : id = "list.pop" ∨ id = "list.__len__" ∨ id = "list.__init__") : ∃ T gid, typeOf (.builtin id) = pure (.type T) ∧ typeLookup (.type T) "__get__" = pure (some (.builtin gid)) ∧
    ∀ {prog : Program} {w : World} {A : Around} {E : Value → Shared → Prop} {s : Shared} {K : Frag} {x C : Addr} {ox : Obj} {od : Option Obj} {Q : Value → Shared → Prop}, K.In s.heap → InstAt s.heap x ox C od → mroIn K C (.type "list") = some true →
      Q (.ref s.heap.objs.size) { s with heap := s.heap.push (boundObj id x) } → wpAny (model prog w) A (call (.builtin gid) [.builtin id, .ref x, .ref C]) Q E s := by
  rcases hid with rfl | rfl | rfl
  · exact ⟨_, _, type_pop, slot_md_get.lookup, fun X I e h => wpAny_call_entry slot_md_get type_pop entry_md_get (md_get X I e ⟨_, rfl, h⟩) (args_md_get _ _ _)⟩
  · exact ⟨_, _, type_len, slot_wd_get.lookup, fun X I e h => wpAny_call_entry slot_wd_get type_len entry_wd_get (wd_get (.inl rfl) X I e ⟨_, rfl, h⟩) (args_wd_get _ _ _)⟩
  · exact ⟨_, _, type_init, slot_wd_get.lookup, fun X I e h => wpAny_call_entry slot_wd_get type_init entry_wd_get (wd_get (.inr rfl) X I e ⟨_, rfl, h⟩) (args_wd_get _ _ _)⟩
section
variable {prog : Program} {w : World} {M : Model} {A : Around} {E : Value → Shared → Prop} {h : Heap} {g : Array GenState} {d : Drawn} {t : Nat} {os : OsState} {K : Frag} {x C so D : Addr} {ox : Obj} {od : Option Obj}
theorem sup_ga {l₀ l : List Value} {name : Str} {id : String} {tk : Tok} {Q : Fin → Shared → Prop} (hid : id = "list.pop" ∨ id = "list.__len__" ∨ id = "list.__init__")
    (hso : h.get? so = some (ks_superObj D x C)) (hno : Looks (model prog w) h (opaqueClassAbove (.ref C)) none)
    (hC : Looks (model prog w) h (mroOf (.ref C)) l₀) (hl : (l₀.dropWhile (· != .ref D)).drop 1 = l) (X : K.In h)
    (hf : alongIn K name l = some (some (.builtin id))) (I : InstAt h x ox C od) (e : mroIn K C (.type "list") = some true) (hxC : x ≠ C) (hn : (name == ("__class__" : Str)) = false)
    (hq : Q (.done (.ret (.ref h.objs.size))) ⟨h.push (boundObj id x), g, d, t, os⟩) :
    wpAny (model prog w) A (Builtin.«super.__getattribute__» ⟨[.ref so, .str name tk], []⟩) Q E ⟨h, g, d, t, os⟩ := by
  have hne : (Value.ref x == Value.ref C) = false := by simp [hxC]
  have hdt : (ks_superObj D x C).data = .fields #[.ref D, .ref x, .ref C] := rfl
  have f0 : (#[.ref D, .ref x, .ref C] : Array Value)[0]? = some (.ref D) := rfl
  have f1 : (#[.ref D, .ref x, .ref C] : Array Value)[1]? = some (.ref x) := rfl
  have f2 : (#[.ref D, .ref x, .ref C] : Array Value)[2]? = some (.ref C) := rfl
  obtain ⟨T, gid, hty, hlk, hb⟩ := bind_call hid
  unfold Builtin.«super.__getattribute__»
  repeat (first
    | (with_reducible refine wpAny_field hso hdt f0 ?_) | (with_reducible refine wpAny_field hso hdt f1 ?_) | (with_reducible refine wpAny_field hso hdt f2 ?_)
    | (with_reducible refine ks_wpAny_notOpaque hno ?_)
    | (with_reducible refine Looks.at hC ?_; rw [hl])
    | (refine ks_forIn_along X (fun _ _ => rfl) rfl ?_ hf)
    | (with_reducible refine hb X I e ?_)
    | (simp only [hn, hne, Bool.or_false, Bool.false_eq_true, if_false])
    | wp_step
    | dsimp only)
  all_goals exact hq
end
end Mine
end
section
open PySem PySem.W PyProof.Rows PySem.Spec PySem.Calls
namespace Mine
section
variable {prog : Program} {w : World} {M : Model} {A : Around} {E : Value → Shared → Prop} {h : Heap} {g : Array GenState} {d : Drawn} {t : Nat} {os : OsState} {K : Frag} {x C so D : Addr} {ox : Obj} {od : Option Obj}
theorem sup_getMethod {l₀ l : List Value} {name : Str} {id : String} {pl : Sem Bool} {Q : Value × List Value → Shared → Prop} (hid : id = "list.pop" ∨ id = "list.__len__" ∨ id = "list.__init__")
    (hso : h.get? so = some (ks_superObj D x C)) (hno : Looks (model prog w) h (opaqueClassAbove (.ref C)) none)
    (hC : Looks (model prog w) h (mroOf (.ref C)) l₀) (hl : (l₀.dropWhile (· != .ref D)).drop 1 = l) (X : K.In h)
    (hf : alongIn K name l = some (some (.builtin id))) (I : InstAt h x ox C od) (e : mroIn K C (.type "list") = some true) (hxC : x ≠ C) (hn : (name == ("__class__" : Str)) = false)
    (hq : Q (.ref h.objs.size, []) ⟨h.push (boundObj id x), g, d, t + 1, os⟩) :
    wpAny (model prog w) A (getMethod (.ref so) name pl) Q E ⟨h, g, d, t, os⟩ := by
  have hlk := F.ks_slot_super_ga.lookup
  have hT : ∀ t', (⟨h, g, d, t', os⟩ : Shared).TypeIs (.ref so) "super" := fun _ => ⟨_, hso, rfl⟩
  have hno2 : (if onTheHeap (.type "super") then typeLookup (.type "super") "__getattr__" else pure none) = (pure none : Sem (Option Value)) := rfl
  have hbd := F.ks_slot_super_ga.bind (.ref so)
  unfold getMethod
  refine wpAny_bind (wpAny_specialOf (hT _) hlk ?_)
  show wpAny _ _ (if (Manifest.canonical "super.__getattribute__" != "object.__getattribute__") = true then _ else _) _ _ _
  rw [if_pos F.ks_canon_super_ga]
  unfold getAttr getAttrBy
  refine wpAny_bind (wpAny_bind (wpAny_mkText (wpAny_holding (wpAny_bind (wpAny_typeOf (hT _) (wpAny_bind (wpAny_of_eq hlk ?_)))))))
  show wpAny _ _ (getAttrByItsOwn (.ref so) (.str name t) (.type "super") (.builtin "super.__getattribute__") true false) _ _ _
  unfold getAttrByItsOwn hookBefore callGetattribute boundAndCalled
  refine wpAny_bind (wpAny_of_eq hno2 (wpAny_bind (wpAny_attempt (wpAny_holding ?_))))
  show wpAny _ _ (bindSpecial (.builtin "super.__getattribute__") (.ref so) >>= _) _ _ _
  refine wpAny_bind (wpAny_of_eq hbd ?_)
  refine wpAny_mono (Q := fun v s' => v = .ref h.objs.size ∧ s' = ⟨h.push (boundObj id x), g, d, t + 1, os⟩) (E := fun _ _ => False)
    (wpAny_call_entry F.ks_slot_super_ga (hT _) F.ks_entry_super_ga (sup_ga hid hso hno hC hl X hf I e hxC hn ⟨_, rfl, rfl, rfl⟩) (F.ks_gaArgs_super _ _)) (fun v s' hv => ?_) fun _ _ z => z.elim
  obtain ⟨rfl, rfl⟩ := hv
  exact wpAny_pure (wpAny_pure hq)
end
section
variable {prog : Program} {w : World} {A : Around} {E : Value → Shared → Prop} {s : Shared} {h₀ : Heap} {L : Addr} {m : Str → Option Value} {news news' : List (Addr × Obj)} {K : Frag} {x C D so q : Addr} {ox : Obj} {od : Option Obj}
theorem sup_method {name : Str} {id : String} {pl : Sem Bool} {Q : Value × List Value → Shared → Prop} (F : Fr h₀ L s.heap m) (X₀ : K.In h₀) (N : News h₀ L s.heap news) (hso : (so, ks_superObj D x C) ∈ news) (I : InstAt s.heap x ox C od) (ho : nsIn K cStatics "thirdparty.any" = some none)
    (hm : ks_superIn K C D name = some (some (.builtin id))) (hid : id = "list.pop" ∨ id = "list.__len__" ∨ id = "list.__init__") (e : mroIn K C (.type "list") = some true) (hn : (name == ("__class__" : Str)) = false)
    (h : ∀ q h', Fr h₀ L h' m → News h₀ L h' ((q, boundObj id x) :: news) → (∀ p ∈ news, p.1 < q) → Q (.ref q, []) { s with heap := h', toks := s.toks + 1 }) : wpAny (model prog w) A (getMethod (.ref so) name pl) Q E s := by
  have X : K.In s.heap := X₀.keeps F.keep
  obtain ⟨hh, g, d, t, os⟩ := s
  cases hc : clsIn K C with
  | none => unfold ks_superIn at hm; rw [hc] at hm; cases hm
  | some cd =>
    unfold ks_superIn at hm
    rw [hc] at hm
    refine sup_getMethod hid (N _ hso).1 (looks_opaque X ho) (l₀ := cd.mro) ?_ rfl X hm I e (ks_ne X I hc) hn ?_
    · exact fun A Q E s k q => wpAny_bind ((looks_clsIn X hc) A _ E s k (wpAny_pure q))
    · obtain ⟨F', N', l'⟩ := ks_newsPush (s := ⟨hh, g, d, t, os⟩) (o := boundObj id x) F N rfl (Heap.get?_push_at rfl rfl) (fun b o e => Heap.get?_push_of_some _ e)
      exact h _ _ F' N' l'

theorem entry_len : entryFor table "list.__len__" = some Builtin.«list.__len__» := entryFor_of_tree (by kernel_rfl)
theorem entry_pop : entryFor table "list.pop" = some Builtin.«list.pop» := entryFor_of_tree (by kernel_rfl)
theorem entry_init : entryFor table "list.__init__" = some Builtin.«list.__init__» := entryFor_of_tree (by kernel_rfl)
theorem check_len : checkBoundCall "list.__len__" ⟨[.ref x], []⟩ = pure () := by kernel_rfl
theorem check_init : checkBoundCall "list.__init__" ⟨[.ref x], []⟩ = pure () := by kernel_rfl
theorem bound_len {its : Array Value} {n : Nat} {dx : Addr} {Q : Value → Shared → Prop} (N : News h₀ L s.heap news) (hq : (q, boundObj "list.__len__" x) ∈ news) (hx : (x, accObj dx its n) ∈ news)
    (h : Q (.int its.size s.toks) { s with toks := s.toks + 1 }) : wpAny (model prog w) A (call (.ref q) []) Q E s := by
  have e1 := (N _ hq).1
  have e2 := (N _ hx).1
  have hc := check_len (x := x)
  have hg : (boundObj "list.__len__" x).data = .fields #[.builtin "list.__len__", .ref x] := rfl
  refine wpAny_call (codeAny_of_tree ?_)
  show wpAny _ A.in1 (callAny (.ref q) ⟨[], []⟩) _ _ s
  unfold callAny
  refine wpAny_bind (wpAny_load e1 ?_)
  rw [hg]
  show wpAny _ _ (do checkBoundCall "list.__len__" ⟨[.ref x], []⟩; again (.builtin "list.__len__" ⟨[.ref x], []⟩)) _ _ _
  refine wpAny_bind (wpAny_of_eq hc (wpAny_pure ⟨Code.quiet_builtin _ (by decide +kernel), codeAny_builtin entry_len ?_⟩))
  unfold Builtin.«list.__len__»
  obtain ⟨hp, g, d, t, os⟩ := s
  repeat (first | (with_reducible refine wpAny_loadPart_at e2 ?_) | wp_step)
  all_goals exact h
end
end Mine
end
section
open PySem PySem.W PyProof.Rows PySem.Spec PySem.Calls
namespace Mine
section
variable {prog : Program} {w : World} {A : Around} {E : Value → Shared → Prop} {s : Shared} {h₀ : Heap} {L : Addr} {m : Str → Option Value} {news news' : List (Addr × Obj)} {K : Frag} {x C D so q : Addr} {ox : Obj} {od : Option Obj}
theorem mapSeq_acc {dx : Addr} {its its' : Array Value} {n : Nat} (f : Array Value → Array Value) (he : f its = its') (hs : its'.size ≠ its.size) : Obj.mapSeq f (accObj dx its n) = accObj dx its' (n + 1) := by
  subst he
  unfold Obj.mapSeq
  simp only [accObj]
  rw [if_neg (by simpa using hs)]
noncomputable abbrev sigPop : Manifest.Signature := { machinery := .positional, full := "list.pop", short := "pop", receiver := .self, params := [{ name := "index", kind := .posOnly, required := false }] }
theorem check_pop : Bind.checkArgs "list.pop" { sigPop with full := s!"{(Str.ofString "_Accumulator").toString}.{Bind.lastOf "list.pop"}" } ⟨[.ref x], []⟩ = pure () := by kernel_rfl
theorem bound_pop {its : List Value} {v : Value} {n : Nat} {dx : Addr} {cd : ClassData} {Q : Value → Shared → Prop} (F : Fr h₀ L s.heap m) (X₀ : K.In h₀) (N : News h₀ L s.heap news) (hq : (q, boundObj "list.pop" x) ∈ news)
    (U : Upd x (accObj dx (its ++ [v]).toArray n) (accObj dx its.toArray (n + 1)) news news') (hm : mroIn K 132 (.type "module") = some false) (hc : clsIn K 132 = some cd) (hqn : cd.qualname = Str.ofString "_Accumulator") (ht : typeIn K (.ref 132) = some (.type "type")) (hz : its.length < sizeLine)
    (h : ∀ h', Fr h₀ L h' m → News h₀ L h' news' → Q v { s with heap := h' }) : wpAny (model prog w) A (call (.ref q) []) Q E s := by
  have e1 := (N _ hq).1
  obtain ⟨pre, post, rfl, rfl, a, b⟩ := U.split
  have z := N (x, accObj dx (its ++ [v]).toArray n) (List.mem_append.mpr (.inr (.head _)))
  have e2 := z.1
  have X := X₀.keeps F.keep
  have hg : (boundObj "list.pop" x).data = .fields #[.builtin "list.pop", .ref x] := rfl
  refine wpAny_call (codeAny_of_tree ?_)
  show wpAny _ A.in1 (callAny (.ref q) ⟨[], []⟩) _ _ s
  unfold callAny
  refine wpAny_bind (wpAny_load e1 ?_)
  rw [hg]
  show wpAny _ _ (do checkBoundCall "list.pop" ⟨[.ref x], []⟩; again (.builtin "list.pop" ⟨[.ref x], []⟩)) _ _ _
  have L1 := looks_mroIn (M := model prog w) X hm
  have L2 := looks_clsIn (M := model prog w) X hc
  have L3 := looks_typeIn (M := model prog w) X ht
  unfold checkBoundCall
  obtain ⟨hp, g, d, t, os⟩ := s
  have hck := check_pop (x := x)
  repeat (first | ((try simp only [hqn]); refine wpAny_of_eq hck ?_) | (with_reducible refine wpAny_loadPart_at e2 ?_) | (with_reducible refine Looks.at L1 ?_) | (with_reducible refine Looks.at L2 ?_) | (with_reducible refine Looks.at L3 ?_) | wp_step)
  refine ⟨Code.quiet_builtin _ (by decide +kernel), codeAny_builtin entry_pop ?_⟩
  have hem : (its ++ [v]).toArray.isEmpty = false := by simp
  unfold Builtin.«list.pop»
  repeat (first | (with_reducible refine wpAny_loadPart_at e2 ?_) | (rw [hem]) | wp_step)
  have hix : ((seqIndex? (-1) (its ++ [v]).toArray.size).bind fun k => Option.map (fun x => (k, x)) (its ++ [v]).toArray[k]?) = some (its.length, v) := by
    have e : seqIndex? (-1) (its ++ [v]).toArray.size = some its.length := by
      unfold seqIndex?
      simp
      omega
    rw [e]; simp
  rw [hix]
  dsimp only
  have her : ((its ++ [v]).toArray).eraseIdxIfInBounds its.length = its.toArray := by simpa using kl_erase its [] v
  refine wpAny_bind ?_
  show wpAny _ _ (updateSeq x _) _ _ _
  refine wpAny_updateSeq e2 rfl (wpAny_pure ?_) (by simp; omega) (by rw [her]; simp; omega)
  refine h _ (F.change (Heap.SameBut.update ..) z.2.1 z.2.2) (news_set N a b (Heap.SameBut.update ..) ?_)
  have em := mapSeq_acc (dx := dx) (n := n) (its := (its ++ [v]).toArray) (its' := its.toArray) (fun x => x.eraseIdxIfInBounds its.length) her (by simp)
  rw [Heap.get?_update_self _ e2 (by rw [em]; rfl), em]
theorem bound_init {n : Nat} {dx : Addr} {Q : Value → Shared → Prop} (F : Fr h₀ L s.heap m) (N : News h₀ L s.heap news) (hq : (q, boundObj "list.__init__" x) ∈ news)
    (U : Upd x (accObj dx #[] n) (accObj dx #[] n) news news')
    (h : ∀ h', Fr h₀ L h' m → News h₀ L h' news' → Q .none { s with heap := h' }) : wpAny (model prog w) A (call (.ref q) []) Q E s := by
  have e1 := (N _ hq).1
  obtain ⟨pre, post, rfl, rfl, a, b⟩ := U.split
  have z := N (x, accObj dx #[] n) (List.mem_append.mpr (.inr (.head _)))
  have e2 := z.1
  have hc := check_init (x := x)
  have hg : (boundObj "list.__init__" x).data = .fields #[.builtin "list.__init__", .ref x] := rfl
  refine wpAny_call (codeAny_of_tree ?_)
  show wpAny _ A.in1 (callAny (.ref q) ⟨[], []⟩) _ _ s
  unfold callAny
  refine wpAny_bind (wpAny_load e1 ?_)
  rw [hg]
  show wpAny _ _ (do checkBoundCall "list.__init__" ⟨[.ref x], []⟩; again (.builtin "list.__init__" ⟨[.ref x], []⟩)) _ _ _
  refine wpAny_bind (wpAny_of_eq hc (wpAny_pure ⟨Code.quiet_builtin _ (by decide +kernel), codeAny_builtin entry_init ?_⟩))
  unfold Builtin.«list.__init__»
  obtain ⟨hp, g, d, t, os⟩ := s
  have em : Obj.mapSeq (fun _ => #[]) (accObj dx #[] n) = accObj dx #[] n := rfl
  repeat (first | (with_reducible refine wpAny_loadPart_at e2 ?_) | ((with_reducible show wpAny _ _ (updateSeq _ _) _ _ _); refine wpAny_updateSeq e2 rfl ?_ (by simp) (by simp)) | wp_step)
  refine h _ (F.change (Heap.SameBut.update ..) z.2.1 z.2.2) (news_set N a b (Heap.SameBut.update ..) ?_)
  have hu := Heap.get?_update_self (Obj.mapSeq fun _ => #[]) e2 (by rw [em]; rfl)
  rw [em] at hu
  exact hu
end
end Mine
end
section
open PySem PySem.W PyProof.Rows PySem.Spec PySem.Calls
namespace Mine
section
variable {prog : Program} {w : World} {A : Around} {E : Value → Shared → Prop} {s : Shared} {h₀ : Heap} {L : Addr} {m : Str → Option Value} {news news' : List (Addr × Obj)} {K : Frag} {x C D so q : Addr} {ox : Obj} {od : Option Obj} {es : List DictEntry} {n : Nat}
theorem canon_list_ga : Manifest.canonical "list.__getattribute__" = "object.__getattribute__" := by decide +kernel
theorem acc_method {name : Str} {pl : Sem Bool} {f : Value} {T : String} {Q : Value × List Value → Shared → Prop} (F : Fr h₀ L s.heap m) (X₀ : K.In h₀) (I : InstAt s.heap x ox C (some (dictOf es n)))
    (hga : findIn K (.ref C) "__getattribute__" = some (some (.builtin "list.__getattribute__"))) (hk : findIn K (.ref C) "__getattr__" = some none)
    (hf : findIn K (.ref C) name = some (some f)) (ht : typeIn K f = some (.type T)) (hT : T = "function" ∨ T = "method_descriptor") (hl : getL name es = some none) (h : Q (f, [.ref x]) s) :
    wpAny (model prog w) A (getMethod (.ref x) name pl) Q E s := by
  have X := X₀.keeps F.keep
  have hs : shadowIn (some (dictOf es n)) name = some false := by show (lookIn name (dictOf es n)).map _ = _; rw [lookIn_dict, hl]; rfl
  have hcan := canon_list_ga
  unfold getMethod specialOf
  refine wpAny_bind (wpAny_bind (I.type.here ((looks_findIn X hga).here ?_)))
  dsimp only
  rw [hcan, if_neg (by decide)]
  refine wpAny_bind (wpAny_bind (I.type.here ((looks_findIn X hk).here ?_)))
  refine wpAny_bind (wpAny_bind (I.type.here ((looks_findIn X hf).here (wpAny_bind ((looks_typeIn X ht).here ?_)))))
  rw [if_neg (by rcases hT with rfl | rfl <;> decide +kernel)]
  refine wpAny_bind (wpAny_loadPart I.at_ ?_)
  have hd := I.dict
  cases e : ox.dict with
  | none => exact wpAny_bind (wpAny_rule (wpAny_pure h))
  | some dx =>
    rw [e] at hd
    obtain ⟨r, a, b⟩ := Option.map_eq_some_iff.mp hs
    refine wpAny_bind (wpAny_bind (wpAny_loadPart hd ?_))
    rw [nsLook_of a]
    refine wpAny_pure ?_
    rw [b]
    exact wpAny_bind (wpAny_rule (wpAny_pure h))
theorem acc_append {its : List Value} {v : Value} {n : Nat} {dx : Addr} {Q : Value → Shared → Prop} (F : Fr h₀ L s.heap m) (X₀ : K.In h₀) (N : News h₀ L s.heap news)
    (U : Upd x (accObj dx its.toArray n) (accObj dx (its ++ [v]).toArray (n + 1)) news news') (hm : mroIn K 132 (.type "list") = some true) (hz : its.length < sizeLine)
    (h : ∀ h', Fr h₀ L h' m → News h₀ L h' news' → Q .none { s with heap := h' }) : wpAny (model prog w) A (call (.builtin "list.append") [.ref x, v]) Q E s := by
  obtain ⟨pre, post, rfl, rfl, a, b⟩ := U.split
  have z := N (x, accObj dx its.toArray n) (List.mem_append.mpr (.inr (.head _)))
  have e2 := z.1
  have X := X₀.keeps F.keep
  have L1 := looks_mroIn (M := model prog w) X hm
  refine wpAny_call (codeAny_of_tree ?_)
  show wpAny _ A.in1 (do checkBuiltinCall "list.append" ⟨[.ref x, v], []⟩; again (.builtin "list.append" ⟨[.ref x, v], []⟩)) _ _ s
  unfold checkBuiltinCall
  obtain ⟨hp, g, d, t, os⟩ := s
  repeat (first | (with_reducible refine wpAny_loadPart_at e2 ?_) | ((with_reducible show wpAny _ _ (isSubtype _ _) _ _ _); refine Looks.at L1 ?_) | wp_step)
  refine ⟨Code.quiet_builtin _ (by decide +kernel), codeAny_builtin PySem.F.entry_list_append ?_⟩
  show wpAny _ _ (updateSeq x (·.push v) >>= fun _ => ret .none) _ _ _
  have hp' : its.toArray.push v = (its ++ [v]).toArray := by simp
  have em := mapSeq_acc (dx := dx) (n := n) (its := its.toArray) (its' := (its ++ [v]).toArray) (fun a => a.push v) hp' (by simp)
  refine wpAny_bind (wpAny_updateSeq e2 rfl (wpAny_pure ?_) (by simp; omega) (by simp; omega))
  refine h _ (F.change (Heap.SameBut.update ..) z.2.1 z.2.2) (news_set N a b (Heap.SameBut.update ..) ?_)
  have hu := Heap.get?_update_self (Obj.mapSeq fun a => a.push v) e2 (by rw [em]; rfl)
  rw [em] at hu
  exact hu
theorem keeps_B {M : Model} {id : String} (h : Heap) (e : h.get? q = some (boundObj id x)) : ∃ k, (k = Keeper.frame ∨ k = Keeper.machine ∨ k = Keeper.boundFrame) ∧ Looks M h (keeperOf (.ref q)) k := by
  refine ⟨.machine, .inr (.inl rfl), ?_⟩
  intro A Q E s k z
  unfold keeperOf
  refine wpAny_bind (wpAny_load (k _ _ e) ?_)
  by_cases c : id = "list.pop"
  · subst c; exact wpAny_pure z
  · have c1 : (boundObj id x).cls = .type "method-wrapper" := by simp [boundObj, c]
    show wpAny _ _ (if (boundObj id x).cls != .type "method" then _ else _) _ _ _
    rw [c1, if_pos (by decide)]
    exact wpAny_pure z
theorem callWith_B0 {M : Model} {id : String} {env : Env} {pos : Pos} {Q : Value → Shared → Prop} {E : Value → Shared → Prop} (N : News h₀ L s.heap news) (hq : (q, boundObj id x) ∈ news) (h : wpAny M A (call (.ref q) []) Q E s) :
    wpAny M A (callWith pos (.ref q) [] (backTo pos (starEach [] env)) []) Q E s :=
  callWith_of (P := fun h => h.get? q = some (boundObj id x)) rfl keeps_B (evalArgs_nil3 ⟨(N _ hq).1, h⟩)
end
end Mine
end
section
open PySem PySem.W PyProof.Rows PySem.Spec PySem.Calls
local macro_rules | `(tactic| ks_enter) => `(tactic| (refine' ks_code_super ?k1 ?k2 ?k3 ?k4 ?k5 ?kA ?kF ?kK ?k6 ?k7 ?k8 ?k9 ?kB ?_ ?c1 ?c2 ?c3 ?c4; (case kA => exact rfl); (case kF => exact rfl); (case kK => first | exact rfl | assumption); (case k1 => k_asm); (case k2 => k_asm); (case k3 => k_asm); (case k4 => k_asm); (case k5 => k_asm); (case k6 => k_is); (case k7 => k_is); (case k8 => first | k_room | ktr_room); (case k9 => first | exact BindsTo.of_eq rfl | exact binds_K (by k_in) rfl (by k_is) rfl rfl rfl); (case kB => exact locs rfl); (case c1 => decide); (case c2 => exact rfl); (case c3 => exact rfl); (case c4 => exact rfl); intro g' L' h' FG' F' N' B' X' T' l1; (try k_lt l1); (try dsimp only); (try k_lift B')))
local macro_rules | `(tactic| k_inst) => `(tactic| (refine' Mine.acc_inst ?N ?h1 ?h2; (case N => k_asm); (case h1 => k_mem); (case h2 => k_mem)))
local macro_rules | `(tactic| k_room) => `(tactic| ktr_room)
local macro_rules | `(tactic| k_units) => `(tactic| ktr_units)
local macro_rules | `(tactic| walk_at "wpAt") => `(tactic| (ks_step "eval Call"; k_dflt (refine ks_wpAt_MethodCall ?_)))
local macro_rules | `(tactic| walk_at "wpAt") => `(tactic| (ks_step "execs cons"; k_dflt (refine ks_wpAt_execs_cons ?_)))
local macro_rules | `(tactic| walk_at "wpAt") => `(tactic| (ks_step "exec Expr"; k_dflt (refine ks_wpAt_Expr_any ?_)))
local macro_rules | `(tactic| walk_at "wpAt") => `(tactic| (ks_step "exec Return"; k_dflt (refine ks_wpAt_Return_some ?_)))
local macro_rules | `(tactic| walk_at "wpAt") => `(tactic| (ks_step "exec Assign"; k_dflt (first | refine ks_wpAt_Assign_Name ?_ | refine ks_wpAt_Assign_Attr ?_)))
local macro_rules | `(tactic| walk_at "wpAt") => `(tactic| ((fail_if_success (first | ks_step "execs cons" | ks_step "execs nil" | ks_step "exec If" | ks_step "exec Expr" | ks_step "exec Return" | ks_step "exec Assign" | ks_step "eval Call" | ks_step "eval BinOp" | ks_step "attributeBase Call" | ks_step "eval Attribute" | ks_step "eval Name" | ks_step "eval Constant" | ks_step "isTrue Compare" | ks_step "eval Tuple")); dsimp only))
local macro_rules | `(tactic| walk_at "getMethod ref") => `(tactic| (k_here; ks_any; k_dflt (refine' Mine.sup_method ?k1 ?k2 ?k3 ?k4 ?k5 ?k6 ?k7 ?k8 ?k9 ?k10 ?_; (case k1 => k_asm); (case k2 => k_asm); (case k3 => k_asm); (case k4 => k_mem); (case k5 => k_inst); (case k6 => k_is); (case k7 => ks_is); (case k8 => first | exact .inl rfl | exact .inr (.inl rfl) | exact .inr (.inr rfl)); (case k9 => k_is); (case k10 => decide); intro q' h' F' N' l1; (try k_lt l1))))
local macro_rules | `(tactic| walk_at "getMethod ref") => `(tactic| (k_here; k_dflt (refine' Mine.acc_method ?k1 ?k2 ?k3 ?k4 ?k5 ?k6 ?k7 ?k8 ?k9 ?_; (case k1 => k_asm); (case k2 => k_asm); (case k3 => k_inst); (case k4 => k_is); (case k5 => k_is); (case k6 => k_is); (case k7 => k_is); (case k8 => first | exact .inl rfl | exact .inr rfl); (case k9 => k_get); k_whole)))
local macro_rules | `(tactic| walk_at "call ref") => `(tactic| (k_here; k_dflt (first
  | (refine' Mine.bound_len ?k1 ?k2 ?k3 ?_; (case k1 => k_asm); (case k2 => k_mem); (case k3 => k_mem); (try simp only [List.size_toArray]); k_whole)
  | (refine' Mine.bound_pop ?k1 ?k2 ?k3 ?k4 ?k5 ?k6 ?k7 ?k7b ?k8 ?k9 ?_; (case k1 => k_asm); (case k2 => k_asm); (case k3 => k_asm); (case k4 => k_mem); (case k5 => k_upd); (case k6 => k_is); (case k7 => k_is); (case k7b => rfl); (case k8 => k_is); (case k9 => (rw [sizeLine_eq]; omega)); k_whole; intro h' F' N'; (try k_sweep))
  | (refine' Mine.bound_init ?k1 ?k2 ?k3 ?k4 ?_; (case k1 => k_asm); (case k2 => k_asm); (case k3 => k_mem); (case k4 => k_upd); k_whole; intro h' F' N'; (try k_sweep)))))
local macro_rules | `(tactic| walk_at "call builtin:list.append") => `(tactic| (k_here; (with_reducible show wpAny _ _ (call (Value.builtin _) [Value.ref _, _]) _ _ _); k_dflt (refine' Mine.acc_append ?k1 ?k2 ?k3 ?k4 ?k5 ?k6 ?_; (case k1 => k_asm); (case k2 => k_asm); (case k3 => k_asm); (case k4 => k_upd); (case k5 => k_is); (case k6 => (rw [sizeLine_eq]; omega)); k_whole); intro h' F' N'; (try k_sweep)))
local macro_rules | `(tactic| walk_at "callWith ref") => `(tactic| (k_here; k_dflt (refine' Mine.callWith_B0 ?k1 ?k2 ?_; (case k1 => k_asm); (case k2 => k_mem); k_whole)))
local macro_rules | `(tactic| k_all) => `(tactic| assumption)
section
namespace Mine
noncomputable abbrev pairObj (f : Str) (tf : Tok) (k : Str) (tk : Tok) (n : Nat) : Obj := { cls := .type "tuple", data := .seq #[.str f tf, .str k tk] n }
noncomputable abbrev accDict (hv : Int) (dk : Tok) (iv : Value) (k : Nat) : Obj := dictOf [⟨hv, .str (Str.ofString "_initial_size") dk, iv⟩] k
theorem news_pick {h₀ h : Heap} {L : Addr} {a1 a2 a3 a4 a5 a6 a7 a8 : Addr × Obj} {rest : List (Addr × Obj)} (N : News h₀ L h (a1 :: a2 :: a3 :: a4 :: a5 :: a6 :: a7 :: a8 :: rest)) : News h₀ L h (a6 :: a7 :: a1 :: rest) :=
  cb_drop N fun p hp => by
    simp only [List.mem_cons] at hp ⊢
    rcases hp with h | h | h | h <;> simp [h]
/-- what a call's walk stands on -/
noncomputable abbrev Cx (w : World) (p : Program) (loose : List Str) (mean : ExcName → Option Value) (mg mb : Str → Option Value) (dp un : Nat) (cs : Scope) (outer : List Env) (A₀ : Around) (base h₀ : Heap) (L : Addr) (m : Str → Option Value) (h : Heap) : Prop :=
  Below A₀ base outer h₀ ∧ Fr h₀ L h m ∧ (Mine.hd.heap_39 w.params).In h₀ ∧ Top p loose mean mg mb h₀ ∧ cs.kind = .function ∧ dp + 10 < recursionLimit ∧ un + 100 < cLine
end Mine
section
variable (w : World) (p : Program) (loose : List Str) (mean : ExcName → Option Value) (mg mb : Str → Option Value) (rest : List (Addr × Obj)) (x d tp : Addr) (its : List Value) (n nt : Nat) (hv : Int) (dk : Tok) (iv : Value) (k : Nat) (f kd : Str) (tf tk : Tok)
  (dp un : Nat) (gd : Option (List Code)) (cn : Str) (cs : Scope) (a : Addr) (ccd : Value) (cl : List (Str × Addr)) (outer : List Env) (A₀ : Around) (base h₀ : Heap) (L : Addr) (m : Str → Option Value) (s : Shared) (Q E : Value → Shared → Prop)
theorem Mine.c_last (hr : ∀ p ∈ rest, p.1 ≠ x) (hdx : d ≠ x) (ht : tp ≠ x) (hs : its.length < 100) (hk : kd ≠ Str.ofString "")
    (C : Mine.Cx w p loose mean mg mb dp un cs outer A₀ base h₀ L m s.heap) (N : News h₀ L s.heap ((x, Mine.accObj d (its ++ [Value.ref tp]).toArray n) :: (d, Mine.accDict hv dk iv k) :: (tp, Mine.pairObj f tf kd tk nt) :: rest))
    (hret : ∀ (t : Tok) (h' : Heap) (tk' : Nat) (tp' : Addr) (n' : Nat) (tf' tk2 : Tok), AllLt tp' rest → Fr h₀ L h' m → News h₀ L h' ((x, Mine.accObj d (its ++ [Value.ref tp']).toArray n') :: (d, Mine.accDict hv dk iv k) :: (tp', Mine.pairObj f tf' kd tk2 0) :: rest) → Q (.str kd t) { s with heap := h', toks := tk' }) :
    wpAny (model PySem.Challenge.rw_ik0116_01.row.prog w) (ktrTop dp un gd cn cs L a ccd cl outer) (call (.ref 181) [.ref x]) Q E s := by
  have hln : (its ++ [Value.ref tp]).length = its.length + 1 := by simp
  obtain ⟨B, F, X, T, hkd, hdp, hun⟩ := C
  revert X; k_fill; intro X
  refine wpAny_call ?_; k_dflt cell_enter
  k_steps
  · exfalso; omega
  · rename_i kF kN _ _
    refine hret _ _ _ _ _ _ _ ?_ kF (Mine.news_pick kN)
    first | exact (show AllLt _ _ from by assumption) | exact (show _ ∧ AllLt _ _ from by assumption).2 | exact (show _ ∧ _ ∧ AllLt _ _ from by assumption).2.2 | exact (show _ ∧ _ ∧ _ ∧ AllLt _ _ from by assumption).2.2.2 | exact (show _ ∧ _ ∧ _ ∧ _ ∧ AllLt _ _ from by assumption).2.2.2.2 | exact (show _ ∧ _ ∧ _ ∧ _ ∧ _ ∧ AllLt _ _ from by assumption).2.2.2.2.2 | exact (show _ ∧ _ ∧ _ ∧ _ ∧ _ ∧ _ ∧ AllLt _ _ from by assumption).2.2.2.2.2.2 | exact (show _ ∧ _ ∧ _ ∧ _ ∧ _ ∧ _ ∧ _ ∧ AllLt _ _ from by assumption).2.2.2.2.2.2.2 | exact (show _ ∧ _ ∧ _ ∧ _ ∧ _ ∧ _ ∧ _ ∧ _ ∧ AllLt _ _ from by assumption).2.2.2.2.2.2.2.2 | exact (show _ ∧ _ ∧ _ ∧ _ ∧ _ ∧ _ ∧ _ ∧ _ ∧ _ ∧ AllLt _ _ from by assumption).2.2.2.2.2.2.2.2.2
  · exfalso; simp_all
theorem Mine.c_last0 (hr : ∀ p ∈ rest, p.1 ≠ x) (hdx : d ≠ x)
    (C : Mine.Cx w p loose mean mg mb dp un cs outer A₀ base h₀ L m s.heap) (N : News h₀ L s.heap ((x, Mine.accObj d ([] : List Value).toArray n) :: (d, Mine.accDict hv dk iv k) :: rest))
    (hret : ∀ (t : Tok) (h' : Heap) (tk' : Nat), Fr h₀ L h' m → News h₀ L h' ((x, Mine.accObj d ([] : List Value).toArray n) :: (d, Mine.accDict hv dk iv k) :: rest) → Q (.str (Str.ofString "") t) { s with heap := h', toks := tk' }) :
    wpAny (model PySem.Challenge.rw_ik0116_01.row.prog w) (ktrTop dp un gd cn cs L a ccd cl outer) (call (.ref 181) [.ref x]) Q E s := by
  obtain ⟨B, F, X, T, hkd, hdp, hun⟩ := C
  revert X; k_fill; intro X
  refine wpAny_call ?_; k_dflt cell_enter
  k_steps
  rename_i kF kN _ _
  exact hret _ _ _ kF (cb_drop kN (fun q hq => .tail _ (.tail _ (.tail _ hq))))
end
end
section
namespace Mine
/-- the items of the siding: the first of the list stands last on it -/
noncomputable def its : List (Addr × Obj) → List Value
  | [] => []
  | p :: ts => its ts ++ [Value.ref p.1]
theorem its_cons (p : Addr × Obj) (ts : List (Addr × Obj)) : its (p :: ts) = its ts ++ [Value.ref p.1] := rfl
theorem its_length (ts : List (Addr × Obj)) : (its ts).length = ts.length := by induction ts with
  | nil => rfl
  | cons p ts ih => simp [its, ih]
noncomputable abbrev ch (c : Nat) : Str := ⟨#[c]⟩
inductive Sid : List (Addr × Obj) → List Nat → Prop
  | nil : Sid [] []
  | cons {tp : Addr} {tf tk : Tok} {c nt : Nat} {ts : List (Addr × Obj)} {ks : List Nat} : Sid ts ks → Sid ((tp, pairObj (Str.ofString "") tf (ch c) tk nt) :: ts) (c :: ks)
theorem Sid.length {ts : List (Addr × Obj)} {ks : List Nat} (h : Sid ts ks) : ts.length = ks.length := by induction h <;> simp [*]
noncomputable def topS : List Nat → Str
  | [] => Str.ofString ""
  | c :: _ => ch c
theorem ch_ne (c : Nat) : ch c ≠ Str.ofString "" := by
  intro h
  have := congrArg (fun s : Str => s.cps.size) h
  simp [ch] at this
  revert this
  decide +kernel
noncomputable abbrev ledS (x d : Addr) (n : Nat) (hv : Int) (dk : Tok) (iv : Value) (k : Nat) (ts rest : List (Addr × Obj)) : List (Addr × Obj) := (x, accObj d (its ts).toArray n) :: (d, accDict hv dk iv k) :: (ts ++ rest)
theorem news_ne {h₀ h : Heap} {L a b : Addr} {oa ob : Obj} {news : List (Addr × Obj)} (N : News h₀ L h news) (ha : (a, oa) ∈ news) (hb : (b, ob) ∈ news) (hne : oa.cls ≠ ob.cls) : a ≠ b := by
  rintro rfl
  have e1 := (N _ ha).1
  have e2 := (N _ hb).1
  rw [e1] at e2
  cases e2
  exact hne rfl
theorem Sid.cls {ts : List (Addr × Obj)} {ks : List Nat} (h : Sid ts ks) : ∀ p ∈ ts, p.2.cls = .type "tuple" := by
  induction h with
  | nil => intro p hp; cases hp
  | cons _ ih =>
    intro p hp
    rcases List.mem_cons.mp hp with rfl | hp
    · rfl
    · exact ih p hp
section
variable {w : World} {p : Program} {loose : List Str} {mean : ExcName → Option Value} {mg mb : Str → Option Value} {ts rest : List (Addr × Obj)} {ks : List Nat} {x d : Addr} {n : Nat} {hv : Int} {dk : Tok} {iv : Value} {k : Nat}
  {dp un : Nat} {gd : Option (List Code)} {cn : Str} {cs : Scope} {a : Addr} {ccd : Value} {cl : List (Str × Addr)} {outer : List Env} {A₀ : Around} {base h₀ : Heap} {L : Addr} {m : Str → Option Value} {s : Shared} {Q E : Value → Shared → Prop}
theorem allLt_mem {d : Addr} {l : List (Addr × Obj)} (h : AllLt d l) : ∀ p ∈ l, p.1 < d := by
  induction l with
  | nil => intro p hp; cases hp
  | cons q r ih =>
    intro p hp
    rcases List.mem_cons.mp hp with e | hp
    · rw [e]; exact h.1
    · exact ih h.2 p hp
theorem c_lastS (C : Cx w p loose mean mg mb dp un cs outer A₀ base h₀ L m s.heap) (hS : Sid ts ks) (hl : ks.length < 100) (hrx : ∀ q ∈ rest, q.1 ≠ x) (N : News h₀ L s.heap (ledS x d n hv dk iv k ts rest))
    (hret : ∀ (t : Tok) (h' : Heap) (tk' : Nat) (ts' : List (Addr × Obj)) (n' : Nat), Sid ts' ks → (∀ p ∈ ts' ++ rest, p.1 ≠ x) → (its ts').length = ks.length → (∀ I it, (I, it) ∈ rest → (∀ p ∈ ts, p.1 ≠ I) → ∀ p ∈ ts', p.1 ≠ I) → Fr h₀ L h' m → News h₀ L h' (ledS x d n' hv dk iv k ts' rest) → Q (.str (topS ks) t) { s with heap := h', toks := tk' }) :
    wpAny (model PySem.Challenge.rw_ik0116_01.row.prog w) (ktrTop dp un gd cn cs L a ccd cl outer) (call (.ref 181) [.ref x]) Q E s := by
  have hdx : d ≠ x := news_ne N (.tail _ (.head _)) (.head _) (by intro h; exact Value.noConfusion h)
  cases hS with
  | nil =>
    exact c_last0 w p loose mean mg mb rest x d n hv dk iv k dp un gd cn cs a ccd cl outer A₀ base h₀ L m s Q E hrx hdx C N fun t h' tk' F' N' => hret t h' tk' [] n .nil hrx rfl (fun _ _ _ _ p hp => nomatch hp) F' N'
  | @cons tp tf tk c nt ts ks hS =>
    have hcl := hS.cls
    have htx : tp ≠ x := news_ne N (.tail _ (.tail _ (.head _))) (.head _) (by intro h; exact Value.noConfusion h)
    have hlen : (its ts).length < 100 := by rw [its_length, hS.length]; simp at hl; omega
    have hrx' : ∀ q ∈ ts ++ rest, q.1 ≠ x := fun q hq => by
      rcases List.mem_append.mp hq with h1 | h1
      · exact news_ne N (.tail _ (.tail _ (.tail _ (List.mem_append_left _ (show (q.1, q.2) ∈ ts from h1))))) (.head _) (by rw [hcl q h1]; intro h; exact Value.noConfusion h)
      · exact hrx q h1
    rw [ledS, its_cons] at N
    refine c_last w p loose mean mg mb (ts ++ rest) x d tp (its ts) n nt hv dk iv k (Str.ofString "") (ch c) tf tk dp un gd cn cs a ccd cl outer A₀ base h₀ L m s Q E hrx' hdx htx hlen (ch_ne c) C N fun t h' tk' tp' n' tf' tk2 hA F' N' => ?_
    refine hret t h' tk' _ n' (Sid.cons (tp := tp') (tf := tf') (tk := tk2) (nt := 0) hS) ?_ (by simp [its_length, hS.length]) (fun I it hI ho p hp => ?_) F' ?_
    · intro p hp
      rcases List.mem_cons.mp hp with rfl | hp
      · exact news_ne N' (.tail _ (.tail _ (.head _))) (.head _) (by intro h; exact Value.noConfusion h)
      · exact hrx' p hp
    · rcases List.mem_cons.mp hp with rfl | hp
      · exact (Nat.ne_of_lt (allLt_mem hA _ (List.mem_append_right _ hI))).symm
      · exact ho p (.tail _ hp)
    · rw [ledS, its_cons]
      exact N'
theorem Sid.inv {ts : List (Addr × Obj)} {c : Nat} {ks : List Nat} (h : Sid ts (c :: ks)) : ∃ tp tf tk nt ts', ts = (tp, pairObj (Str.ofString "") tf (ch c) tk nt) :: ts' ∧ Sid ts' ks := by
  cases h with
  | cons h => exact ⟨_, _, _, _, _, rfl, h⟩
theorem c_lastC {c : Nat} (C : Cx w p loose mean mg mb dp un cs outer A₀ base h₀ L m s.heap) (hS : Sid ts (c :: ks)) (hl : (c :: ks).length < 100) (hrx : ∀ q ∈ rest, q.1 ≠ x) (N : News h₀ L s.heap (ledS x d n hv dk iv k ts rest))
    (hret : ∀ (t : Tok) (h' : Heap) (tk' : Nat) (tp : Addr) (tf tk : Tok) (nt : Nat) (ts' : List (Addr × Obj)) (n' : Nat), Sid ts' ks → Sid ((tp, pairObj (Str.ofString "") tf (ch c) tk nt) :: ts') (c :: ks) → (∀ p ∈ ts' ++ rest, p.1 ≠ x) → tp ≠ x → (its ts').length = ks.length → (its ts' ++ [Value.ref tp]).length = ks.length + 1 → (∀ I it, (I, it) ∈ rest → (∀ p ∈ ts, p.1 ≠ I) → ∀ p ∈ (tp, pairObj (Str.ofString "") tf (ch c) tk nt) :: ts', p.1 ≠ I) → Fr h₀ L h' m →
      News h₀ L h' ((x, accObj d (its ts' ++ [Value.ref tp]).toArray n') :: (d, accDict hv dk iv k) :: (tp, pairObj (Str.ofString "") tf (ch c) tk nt) :: (ts' ++ rest)) → Q (.str (ch c) t) { s with heap := h', toks := tk' }) :
    wpAny (model PySem.Challenge.rw_ik0116_01.row.prog w) (ktrTop dp un gd cn cs L a ccd cl outer) (call (.ref 181) [.ref x]) Q E s :=
  c_lastS C hS hl hrx N fun t h' tk' ts' n' hS' hne' _ hno F' N' => by
    obtain ⟨tp, tf, tk, nt, ts'', rfl, hS''⟩ := hS'.inv
    exact hret t h' tk' tp tf tk nt ts'' n' hS'' hS' (fun p hp => hne' p (.tail _ hp)) (hne' _ (.head _)) (by rw [its_length, hS''.length]) (by rw [List.length_append, its_length, hS''.length]; rfl) hno F' N'
noncomputable def cmp3 (x y : Str) : Int := b2i (decide (y.cps.toList < x.cps.toList)) - b2i (decide (x.cps.toList < y.cps.toList))
theorem c_cmp {x y : Str} {tx ty : Tok} {news : List (Addr × Obj)} (C : Cx w p loose mean mg mb dp un cs outer A₀ base h₀ L m s.heap) (N : News h₀ L s.heap news)
    (hret : ∀ (t : Tok) (h' : Heap) (tk' : Nat), Fr h₀ L h' m → News h₀ L h' news → Q (.int (cmp3 x y) t) { s with heap := h', toks := tk' }) :
    wpAny (model PySem.Challenge.rw_ik0116_01.row.prog w) (ktrTop dp un gd cn cs L a ccd cl outer) (call (.ref 52) [.str x tx, .str y ty]) Q E s := by
  obtain ⟨B, F, X, T, hkd, hdp, hun⟩ := C
  revert X; k_fill; intro X
  refine wpAny_call ?_; k_dflt cell_enter
  k_steps
  exact hret _ _ _ (by assumption) (by assumption)
end
end Mine
end
section
namespace Mine
noncomputable def lmakesIn (K : Frag) (C : Addr) : Bool := match K.lookup C with
  | some ⟨_, _, .cls cd, sl⟩ => !cd.abstract && !cd.hasDel && (sl.toList[4]?).join == some (.builtin "list.__new__") && !cd.mro.isEmpty && cd.mro.contains (.ref C) && cd.mro.contains (.type "list") &&
      specialIn K (.ref C) "__call__" == some (some (.builtin "type.__call__")) && instIn K (.ref C) (.type "type") == some true
  | _ => false
structure LMakes (M : Model) (h : Heap) (C : Addr) : Prop where
  obj : ∃ oc od cd sl, h.get? C = some ⟨oc, od, .cls cd, sl⟩ ∧ cd.hasDel = false ∧ cd.mro.isEmpty = false
  made : Looks M h (Bind.madeBy (.ref C)) (some "list.__new__")
  base : Looks M h (Bind.staticBase (.ref C)) (.ref C)
  self : Looks M h (isSubtype (.ref C) (.ref C)) true
  top : Looks M h (isSubtype (.ref C) (.type "list")) true
  call : Looks M h (specialOf (.ref C) "__call__") (some (.builtin "type.__call__"))
  typ : Looks M h (isInstance (.ref C) (.type "type")) true
theorem lmakes_of {K : Frag} {M : Model} {h : Heap} (X : K.In h) {C : Addr} (e : lmakesIn K C = true) : LMakes M h C := by
  unfold lmakesIn at e
  split at e
  · rename_i oc od cd sl ho
    simp only [Bool.and_eq_true, Bool.not_eq_true', beq_iff_eq] at e
    obtain ⟨⟨⟨⟨⟨⟨⟨_, e2⟩, e3⟩, e4⟩, e5⟩, e6⟩, e7⟩, e8⟩ := e
    have hc : clsIn K C = some cd := by unfold clsIn; rw [ho]
    have hm : Looks M h (mroOf (.ref C)) cd.mro := (looks_clsIn X hc).andThen .now
    obtain ⟨c, l, hl⟩ : ∃ c l, cd.mro = c :: l := by cases q : cd.mro with | nil => rw [q] at e4; cases e4 | cons c l => exact ⟨c, l, rfl⟩
    have made : Looks M h (Bind.madeBy (.ref C)) (some "list.__new__") := by
      intro A Q E s k q
      unfold Bind.madeBy
      refine wpAny_bind (hm A _ E s k ?_)
      rw [hl, List.forIn_cons]
      refine wpAny_bind (wpAny_bind (wpAny_bind (wpAny_bind (wpAny_loadPart (k _ _ (X _ _ ho)) (wpAny_pure ?_)))))
      dsimp only
      rw [← Array.getElem?_toList, e3]
      exact wpAny_pure (wpAny_pure (wpAny_pure q))
    refine ⟨⟨oc, od, cd, sl, X _ _ ho, e2, e4⟩, made, ?_, looks_mroIn X ?_, looks_mroIn X ?_, looks_specialIn X e7, looks_instIn X e8⟩
    · intro A Q E s k q
      unfold Bind.staticBase
      refine wpAny_bind (hm A _ E s k ?_)
      rw [hl, List.forIn_cons]
      exact wpAny_bind (wpAny_bind (wpAny_bind (made A _ E s k (wpAny_pure (wpAny_pure (wpAny_pure q))))))
    · unfold mroIn; rw [hc, Option.bind_some, if_neg (by rw [e4]; decide), e5]
    · unfold mroIn; rw [hc, Option.bind_some, if_neg (by rw [e4]; decide), e6]
  · cases e
noncomputable abbrev accNew (C dx : Addr) : Obj := { cls := .ref C, dict := some dx, data := .seq #[] }
section
variable {prog : Program} {w : World} {A : Around} {K : Frag} {C : Addr} {R : Result → Shared → Prop} {h : Heap} {g : Array GenState} {d : Drawn} {t : Nat} {os : OsState}
theorem lnew (Y : LMakes (model prog w) h C)
    (hq : R (.ok (.ret (.ref (h.objs.size + 1)))) ⟨(h.push emptyDict).push (accNew C h.objs.size), g, d, t, os⟩) :
    codeAny (model prog w) A (.call (.builtin "list.__new__") ⟨[.ref C], []⟩) R ⟨h, g, d, t, os⟩ := by
  obtain ⟨⟨oc, od, cd, sl, hC, e2, e4⟩, made, base, self, top, call, typ⟩ := Y
  have hown := owner_list_new
  refine codeAny_of_tree ?_
  show wpAny _ A.in1 (do checkBuiltinCall "list.__new__" ⟨[.ref C], []⟩; again (.builtin "list.__new__" ⟨[.ref C], []⟩)) _ _ _
  refine wpAny_bind ?_
  have hk : builtinKind "list.__new__" = some .builtinFn := by decide +kernel
  have hsp : splitId "list.__new__" = some ("list", "__new__") := by decide +kernel
  simp only [checkBuiltinCall, hk, hsp]
  repeat (first | (with_reducible refine Looks.at made ?_) | (with_reducible refine Looks.at base ?_) | (with_reducible refine Looks.at top ?_)  | wp_step)
  refine ⟨plainId_quiet PySem.F.plain_list_new _, codeAny_builtin_stack PySem.F.entry_list_new rfl fun p st => ?_⟩
  rw [Around.under_plainId PySem.F.plain_list_new _]
  simp only [hown]
  have hC' := Heap.get?_push_of_some (accNew C h.objs.size) (Heap.get?_push_of_some emptyDict hC)
  repeat (first | (with_reducible refine Looks.at top ?_) | (with_reducible refine wpAny_loadPart_at hC' ?_) | wp_step)
  show R _ _
  rw [Heap.size_push]
  exact hq
theorem lmake {init : Value} (Y : LMakes (model prog w) h C) (hi : Looks (model prog w) h (typeLookup (.ref C) "__init__") (some init))
    (hb : ∀ self, Looks (model prog w) h (bindSpecial init self) (init, [self]))
    (hq : codeAny (model prog w) (A.under (.builtin "type.__call__" ⟨[.ref C], []⟩)) (.call init ⟨[.ref (h.objs.size + 1)], []⟩) (InitBack (h.objs.size + 1) R) ⟨(h.push emptyDict).push (accNew C h.objs.size), g, d, t, os⟩) :
    codeAny (model prog w) A (.call (.ref C) ⟨[], []⟩) R ⟨h, g, d, t, os⟩ := by
  have Y' := Y
  obtain ⟨⟨oc, od, cd, sl, hC, e2, e4⟩, made, base, self, top, call, typ⟩ := Y
  refine codeAny_of_tree ?_
  show wpAny _ _ (callAny (.ref C) _) _ _ _
  refine nd_load hC ?_
  show wpAny _ _ (callAny.viaDunder (.ref C) _) _ _ _
  unfold callAny.viaDunder
  refine wpAny_bind (call.at ?_)
  dsimp only
  rw [tc_bind]
  refine wpAny_bind (wpAny_pure (wpAny_bind (wpAny_pure ?_)))
  refine wpAny_pure (a := Fin.again (.call (.builtin "type.__call__") ⟨[.ref C], []⟩)) (And.intro rfl ?_)
  refine codeAny_call_builtin_at (Code.quiet_builtin _ (by decide +kernel)) entry_typeCall (check_slot tc_kind tc_split typ (tc_args _ _ _) ?_)
  unfold Builtin.«type.__call__»
  have hm : Looks (model prog w) h (mroOf (.ref C)) cd.mro := ((Looks.ld (part := none) hC).andThen .now).andThen .now
  repeat (first | simp only [e4, Bool.false_eq_true, if_false] | with_reducible refine wpAny_call ?_ | lk)
  refine lnew Y' ?_
  have k : ∀ b o, h.get? b = some o → ((h.push emptyDict).push (accNew C h.objs.size)).get? b = some o := fun b o e => Heap.get?_push_of_some _ (Heap.get?_push_of_some _ e)
  have hx : ((h.push emptyDict).push (accNew C h.objs.size)).get? (h.objs.size + 1) = some (accNew C h.objs.size) := by heap_get
  have t1 : Looks (model prog w) ((h.push emptyDict).push (accNew C h.objs.size)) (typeOf (.ref (h.objs.size + 1))) (.ref C) := (Looks.ld hx).andThen .now
  have s1 := self.keeps k
  have i1 := hi.keeps k
  have b1 := (hb (.ref (h.objs.size + 1))).keeps k
  unfold isInstance callSpecial? specialOf
  repeat (first | with_reducible refine wpAny_call ?_ | lk)
  refine codeAny_mono hq fun r s' z => ?_
  rcases r with e | (v | _ | _ | _) <;> first | exact z | exact z.elim | skip
  obtain ⟨rfl, z⟩ := z
  exact wpAny_pure (wpAny_pure z)
end
section
variable {prog : Program} {w : World} {A : Around} {K : Frag} {C x : Addr} {s : Shared} {h₀ : Heap} {L : Addr} {m : Str → Option Value} {news : List (Addr × Obj)} {Q E : Value → Shared → Prop}
theorem lcall_cls {fI : Addr} (F : Fr h₀ L s.heap m) (X₀ : K.In h₀) (N : News h₀ L s.heap news) (hm : lmakesIn K C = true) (hi : findIn K (.ref C) "__init__" = some (some (.ref fI))) (hf : isFn K (.ref fI) = true)
    (h : ∀ x dx h', Fr h₀ L h' m → News h₀ L h' ((x, accNew C dx) :: (dx, dictOf [] 0) :: news) → (∀ p ∈ news, p.1 < dx) → dx < x →
      codeAny (model prog w) (A.under (.builtin "type.__call__" ⟨[.ref C], []⟩)) (.call (.ref fI) ⟨[.ref x], []⟩) (InitBack x fun r s' => match r with | .ok (.ret v) => Q v s' | .ok _ => False | .error e => E e s') { s with heap := h' }) :
    wpAny (model prog w) A (call (.ref C) [] []) Q E s := by
  have X := X₀.keeps F.keep
  obtain ⟨hh, g, d, t, os⟩ := s
  refine wpAny_call (lmake (lmakes_of X hm) (looks_findIn X hi) (fun self => bind_fn X self (beq_iff_eq.mp hf)) (h _ hh.objs.size _ ((F.push _).push _) ?_ (fun p hp => Heap.lt_size (N p hp).1) (Nat.lt_succ_self _)))
  have := (N.push F emptyDict).push (F.push _) (accNew C hh.objs.size)
  rwa [Heap.size_push] at this
end
end Mine
end
section
namespace Mine
open Builtin Builtin.ObjectAttr
theorem refuse_list (self : Value) : refuseLoop self "__setattr__" [.type "list", .type "object"] = pure () := by kernel_rfl
section
variable {prog : Program} {w : World} {A : Around} {K : Frag} {C x L : Addr} {s : Shared} {h₀ : Heap} {m : Str → Option Value} {news news' : List (Addr × Obj)} {R : Result → Shared → Prop} {E : Value → Shared → Prop}
theorem acc_osa {ox od od' : Obj} {dx : Addr} {name : Str} {tk : Tok} {v : Value} {pre post : List (Addr × Obj)} {es : List DictEntry} {n : Nat} (F : Fr h₀ L s.heap m) (N : News h₀ L s.heap (pre ++ (dx, od) :: post)) (X : K.In s.heap)
    (I : InstAt s.heap x ox C (some od)) (hd : ox.dict = some dx) {cd : ClassData} (hc : clsIn K C = some cd) (hm : cd.mro = [.ref C, .type "list", .type "object"]) (ht : takerIn K C name = some none) (hd' : cd.hasDict = true)
    (hl : (lookIn name od).isSome = true) (h1 : ∀ p ∈ pre, p.1 ≠ dx) (h2 : ∀ p ∈ post, p.1 ≠ dx)
    (e : Obj.putName name (PyData.keyHash w.params name) (.str name s.toks) v od = od') (e' : od'.data = .dict es.toArray n) (hz : es.length ≤ 1000)
    (h : ∀ h', Fr h₀ L h' m → News h₀ L h' (pre ++ (dx, od') :: post) → R (.ok (.ret .none)) { s with heap := h', toks := s.toks + 1 }) :
    codeAny (model prog w) A (.call (.builtin "object.__setattr__") ⟨[.ref x, .str name tk, v], []⟩) R s := by
  have SF := PySem.F.store_object
  have ne : cd.mro.isEmpty = false := by rw [hm]; rfl
  have sub : Looks (model prog w) s.heap (isInstance (.ref x) (.type "object")) true := I.type.andThen (looks_mroIn X (by unfold mroIn; rw [hc, Option.bind_some, if_neg (by rw [ne]; decide), hm]; simp))
  refine codeAny_call_builtin SF.slot.plain SF.entry (@check_slot (model prog w) _ _ s "object.__setattr__" "object" "__setattr__" (.ref x) [.str name tk, v] [] _ SF.kind SF.split sub (SF.args (.ref x) (.str name tk) v) ?_)
  obtain ⟨attr, ha, hr⟩ := Option.bind_eq_some_iff.mp ht
  have hmr : Looks (model prog w) s.heap (mroOf (.ref C)) cd.mro := (looks_clsIn X hc).andThen .now
  have L3 : Looks (model prog w) s.heap (storeTaker? attr) none := by
    cases attr with
    | none => cases hr; exact .now
    | some a =>
      obtain ⟨b, hb, hr⟩ := Option.map_eq_some_iff.mp hr
      refine (looks_takesIn X hb).andThen ?_
      cases b
      · exact .now
      · cases hr
  rw [osa_eq, refuse_eq]
  refine wpAny_bind (wpAny_bind (I.type.here (wpAny_bind (hmr.here ?_))))
  rw [hm, refuseLoop_ref, refuse_list]
  refine wpAny_pure (wpAny_bind (I.type.here (wpAny_bind ((looks_findIn X ha).here (wpAny_bind (L3.here ?_))))))
  obtain ⟨U1, U2⟩ := news_upd (f := Obj.putName name (PyData.keyHash w.params name) (.str name s.toks) v) F N h1 h2 e (by obtain ⟨_, _, dd, _⟩ := od'; cases e'; rfl)
  have D := (N (dx, od) (by simp)).1
  have D' := (U2 (dx, od') (by simp)).1
  obtain ⟨hx, hcl, hn, -⟩ := I
  obtain ⟨oc, odi, oda, osl⟩ := ox
  dsimp only at hcl hd
  subst hcl hd
  refine wpAny_bind (wpAny_pure (wpAny_bind (wpAny_bind (wpAny_loadPart hx (wpAny_bind ((looks_clsIn X hc).here ?_))))))
  rw [hd']
  refine wpAny_pure (a := some dx) (wpAny_bind (wpAny_pure (wpAny_bind ?_)))
  unfold nsSet
  refine wpAny_bind (wpAny_bind (wpAny_askSetting (wpAny_pure (wpAny_bind (wpAny_mkText (wpAny_bind (wpAny_loadPart D ?_)))))))
  unfold lookIn at hl
  split at hl
  · rename_i es₀ n₀ q
    rw [q]
    dsimp only
    have c : (!es₀.any (·.key.isStr name) && es₀.any (·.refKey)) = false := by
      rw [← Array.any_toList, ← Array.any_toList]
      split at hl
      · rename_i en he
        rw [List.any_eq_true.mpr ⟨en, List.mem_of_find?_eq_some he, List.find?_some he⟩]; rfl
      · split at hl
        · cases hl
        · rename_i z; rw [Bool.not_eq_true] at z; rw [z, Bool.and_false]
    rw [aRefKeyMayBeTheName_at, c]
    refine wpAny_updatePart D ?_
    refine wpAny_bind (wpAny_lookBehind D' (by rw [e']; exact pastItsLine_dict (by rw [List.size_toArray, sizeLine_eq]; omega)) ?_)
    exact wpAny_pure (h _ U1 U2)
  · cases hl
theorem acc_set {ox : Obj} {dx : Addr} {name : Str} {v : Value} {es es' : List DictEntry} {n n' : Nat} {Q : Unit → Shared → Prop} {cd : ClassData} (F : Fr h₀ L s.heap m) (X₀ : K.In h₀) (N : News h₀ L s.heap news) (I : InstAt s.heap x ox C (some (dictOf es n))) (hd : ox.dict = some dx)
    (hs : findIn K (.ref C) "__setattr__" = some (some (.builtin "object.__setattr__"))) (hc : clsIn K C = some cd) (hm : cd.mro = [.ref C, .type "list", .type "object"]) (ht : takerIn K C name = some none) (hd' : cd.hasDict = true) (hl : (getL name es).isSome = true)
    (e : (putL name (PyData.keyHash w.params name) (.str name (s.toks + 1)) v es, putN name es n) = (es', n')) (U : Upd dx (dictOf es n) (dictOf es' n') news news') (hz : es'.length ≤ 1000)
    (h : ∀ h', Fr h₀ L h' m → News h₀ L h' news' → Q () { s with heap := h', toks := s.toks + 2 }) :
    wpAny (model prog w) A (setAttr (.ref x) name v) Q E s := by
  obtain ⟨pre, post, rfl, rfl, a, b⟩ := U.split
  obtain ⟨e1, e2⟩ := Prod.mk.inj e
  refine set_plain (X₀.keeps F.keep) I hs (acc_osa (s := { s with toks := s.toks + 1 }) F N (X₀.keeps F.keep) I hd hc hm ht hd' ?_ a b (by rw [putName_dict, e1, e2]) rfl hz fun h' F' N' => h h' F' N')
  rw [lookIn_dict]; exact hl
theorem lcall_acc {Q E : Value → Shared → Prop} {fI : Addr} (F : Fr h₀ L s.heap m) (X₀ : K.In h₀) (N : News h₀ L s.heap news) (hm : lmakesIn K 132 = true) (hi : findIn K (.ref 132) "__init__" = some (some (.ref fI))) (hf : isFn K (.ref fI) = true)
    (h : ∀ x dx h', Fr h₀ L h' m → News h₀ L h' ((x, accObj dx #[] 0) :: (dx, dictOf [] 0) :: news) → (∀ p ∈ news, p.1 < dx) → dx < x → (∀ p ∈ news, p.1 ≠ dx) → (∀ p ∈ news, p.1 ≠ x) →
      codeAny (model prog w) (A.under (.builtin "type.__call__" ⟨[.ref 132], []⟩)) (.call (.ref fI) ⟨[.ref x], []⟩) (InitBack x fun r s' => match r with | .ok (.ret v) => Q v s' | .ok _ => False | .error e => E e s') { s with heap := h' }) :
    wpAny (model prog w) A (call (.ref 132) [] []) Q E s :=
  lcall_cls F X₀ N hm hi hf fun x dx h' F' N' l1 l2 => h x dx h' F' N' l1 l2 (fun p hp => Nat.ne_of_lt (l1 p hp)) (fun p hp => Nat.ne_of_lt (Nat.lt_trans (l1 p hp) l2))
end
end Mine
end
section
namespace Mine
/-- keeps a goal away from the walker -/
noncomputable def Held (P : Prop) : Prop := P
/-- the same, with room for calls that call -/
noncomputable abbrev Cy (w : World) (p : Program) (loose : List Str) (mean : ExcName → Option Value) (mg mb : Str → Option Value) (dp un : Nat) (cs : Scope) (outer : List Env) (A₀ : Around) (base h₀ : Heap) (L : Addr) (m : Str → Option Value) (h : Heap) : Prop :=
  Below A₀ base outer h₀ ∧ Fr h₀ L h m ∧ (Mine.hd.heap_39 w.params).In h₀ ∧ Top p loose mean mg mb h₀ ∧ cs.kind = .function ∧ dp + 20 < recursionLimit ∧ un + 300 < cLine
noncomputable def tS (l : List Nat) : Str := ⟨l.toArray⟩
noncomputable def below : List Nat → Nat → Bool
  | [], _ => true
  | t :: _, k => decide (t < k)
noncomputable def feed (k : Nat) : List Nat → List Nat → Option (List Nat × List Nat)
  | sid, [] => if below sid k then none else some (sid, [])
  | sid, c :: r => if below sid k then feed k (c :: sid) r else some (sid, c :: r)
noncomputable def shunt : List Nat → List Nat → List Nat → List Nat → Option (List Nat × List Nat × List Nat)
  | [], g, sid, com => some (g, sid, com)
  | k :: r, g, sid, com => match feed k sid com with
    | some (t :: sid', com') => if k < t then some (g, t :: sid', com') else shunt r (g ++ [t]) sid' com'
    | _ => none
theorem topS_lt (sid : List Nat) (k : Nat) : ((topS sid).cps.toList < (ch k).cps.toList) ↔ below sid k = true := by
  cases sid with
  | nil => simp [topS, ch, below]; exact List.nil_lt_cons _ _
  | cons t r => simp [topS, ch, below, List.cons_lt_cons_iff]
theorem lt_topS (sid : List Nat) (k : Nat) : ((ch k).cps.toList < (topS sid).cps.toList) ↔ ∃ t r, sid = t :: r ∧ k < t := by
  cases sid with
  | nil => simp [topS, ch, show (Str.ofString "").cps = #[] from by decide +kernel]
  | cons t r => simp [topS, ch, List.cons_lt_cons_iff]
theorem cmp3_below {sid : List Nat} {k : Nat} (h : below sid k = true) : cmp3 (topS sid) (ch k) = -1 := by
  have h1 := (topS_lt sid k).mpr h
  have h2 : ¬ ((ch k).cps.toList < (topS sid).cps.toList) := by
    rw [lt_topS]; rintro ⟨t, r, rfl, h3⟩; simp [below] at h; omega
  simp [cmp3, h1, h2, b2i]
theorem cmp3_above {t k : Nat} {sid : List Nat} (h : k < t) : cmp3 (topS (t :: sid)) (ch k) = 1 := by
  have h1 := (lt_topS (t :: sid) k).mpr ⟨t, sid, rfl, h⟩
  have h2 : ¬ ((topS (t :: sid)).cps.toList < (ch k).cps.toList) := by
    rw [topS_lt]; simp [below]; omega
  simp [cmp3, h1, h2, b2i]
theorem cmp3_same {k : Nat} {sid : List Nat} : cmp3 (topS (k :: sid)) (ch k) = 0 := by
  have h1 : ¬ ((ch k).cps.toList < (topS (k :: sid)).cps.toList) := by
    rw [lt_topS]; rintro ⟨t, r, h, h3⟩; cases h; omega
  have h2 : ¬ ((topS (k :: sid)).cps.toList < (ch k).cps.toList) := by
    rw [topS_lt]; simp [below]
  simp [cmp3, h1, h2, b2i]
noncomputable abbrev mS (x : Addr) (g : Str) (tg : Tok) (c : Str) (tc : Tok) (b : Str → Option Value) : Str → Option Value := fun z =>
  if z = Str.ofString "gone" then some (.str g tg) else if z = Str.ofString "coming" then some (.str c tc) else if z = Str.ofString "siding" then some (.ref x) else b z
theorem mS_of {x : Addr} {g c : Str} {tg tc : Tok} {b : Str → Option Value} (h1 : b (Str.ofString "gone") = some (.str g tg)) (h2 : b (Str.ofString "coming") = some (.str c tc)) (h3 : b (Str.ofString "siding") = some (.ref x)) : b = mS x g tg c tc b := by
  funext z
  simp only [mS]
  split
  · rename_i h; rw [h, h1]
  · split
    · rename_i h; rw [h, h2]
    · split
      · rename_i h; rw [h, h3]
      · rfl
noncomputable abbrev mK (x : Addr) (g : Str) (tg : Tok) (c : Str) (tc : Tok) (kd : Str) (uk : Tok) (b : Str → Option Value) : Str → Option Value := fun z =>
  if z = Str.ofString "kind" then some (.str kd uk) else if z = Str.ofString "gone" then some (.str g tg) else if z = Str.ofString "coming" then some (.str c tc) else if z = Str.ofString "siding" then some (.ref x) else b z
theorem mK_of {x : Addr} {g c kd : Str} {tg tc uk : Tok} {b : Str → Option Value} (h1 : b (Str.ofString "gone") = some (.str g tg)) (h2 : b (Str.ofString "coming") = some (.str c tc)) (h3 : b (Str.ofString "siding") = some (.ref x)) (h4 : b (Str.ofString "kind") = some (.str kd uk)) : b = mK x g tg c tc kd uk b := by
  funext z
  simp only [mK]
  split
  · rename_i h; rw [h, h4]
  · split
    · rename_i h; rw [h, h1]
    · split
      · rename_i h; rw [h, h2]
      · split
        · rename_i h; rw [h, h3]
        · rfl
/-- one state of the shunting loop -/
noncomputable def Rd (x d : Addr) (hv : Int) (dk : Tok) (iv : Value) (k : Nat) (rest : List (Addr × Obj)) (g sid com : List Nat) (ts : List (Addr × Obj)) (n : Nat) (m : Str → Option Value) (nw : List (Addr × Obj)) : Prop :=
  Sid ts sid ∧ (∃ tg, m (Str.ofString "gone") = some (.str (tS g) tg)) ∧ (∃ tc, m (Str.ofString "coming") = some (.str (tS com) tc)) ∧ m (Str.ofString "siding") = some (.ref x) ∧ (∀ p ∈ ledS x d n hv dk iv k ts rest, p ∈ nw)
noncomputable def Jsh (x d : Addr) (hv : Int) (dk : Tok) (iv : Value) (k : Nat) (rest : List (Addr × Obj)) (R : List Nat × List Nat × List Nat) (r : List Nat) (m : Str → Option Value) (nw : List (Addr × Obj)) : Prop :=
  ∃ g sid com ts n, shunt r g sid com = some R ∧ g.length + sid.length + com.length ≤ 50 ∧ Rd x d hv dk iv k rest g sid com ts n m nw
noncomputable def Fsh (x d : Addr) (hv : Int) (dk : Tok) (iv : Value) (k : Nat) (rest : List (Addr × Obj)) (R : List Nat × List Nat × List Nat) (m : Str → Option Value) (nw : List (Addr × Obj)) : Prop :=
  ∃ ts n, R.2.1.length ≤ 50 ∧ Rd x d hv dk iv k rest R.1 R.2.1 R.2.2 ts n m nw
section
variable {prog : Program} {w : World} {A : Around} {E : Value → Shared → Prop} {s : Shared} {env : Env} {h₀ : Heap} {x : Str} {body : List Stmt} {Q : Flow → Shared → Prop}
noncomputable def TurnPost (h₀ : Heap) (L : Addr) (s₁ : Shared) (I : Addr) (it : Obj) (J Fin : (Str → Option Value) → List (Addr × Obj) → Prop) (f : Flow) (s₂ : Shared) : Prop :=
  match f with
  | .ret _ => False
  | .brk => ∃ h' tk m' news', s₂ = { s₁ with heap := h', toks := tk } ∧ Fr h₀ L h' m' ∧ News h₀ L h' news' ∧ Fin m' news'
  | _ => UnrEnd h₀ L s₁ I it J s₂
theorem strRest_ind {I : Addr} (J : List Nat → (Str → Option Value) → List (Addr × Obj) → Prop) (Fin : (Str → Option Value) → List (Addr × Obj) → Prop)
    (fin : ∀ m news h tk, Fin m news → Fr h₀ env.locals h m → News h₀ env.locals h news → Q .next { s with heap := h, toks := tk })
    (h0 : ∀ m news, J [] m news → Fin m news)
    (h1 : ∀ c r m news u it h tk, J (c :: r) m news → (∀ p ∈ news, p.1 ≠ I) → Fr h₀ env.locals h (fun y => if y = x then some (.str (ch c) u) else m y) → News h₀ env.locals h ((I, it) :: news) →
      wpAny (model prog w) A (execs body env) (TurnPost h₀ env.locals { s with heap := h, toks := tk } I it (J r) Fin) E { s with heap := h, toks := tk }) :
    ∀ (wl : List Nat) (m : Str → Option Value) (news : List (Addr × Obj)), J wl m news → (∀ p ∈ news, p.1 ≠ I) → StrRest prog w A E h₀ env x body Q s I (wl.map ch) m news := by
  intro wl
  induction wl with
  | nil => intro m news hJ _ h tk F N; exact fin _ _ _ _ (h0 _ _ hJ) F N
  | cons c r ih =>
    intro m news hJ hI u it h tk F N
    refine wpAny_mono (h1 c r m news u it h tk hJ hI F N) (fun f s₂ q => ?_) fun _ _ e => e
    have fin' : UnrEnd h₀ env.locals { s with heap := h, toks := tk } I it (J r) s₂ → UnrEnd h₀ env.locals { s with heap := h, toks := tk } I it (StrRest prog w A E h₀ env x body Q s I (r.map ch)) s₂ := by
      rintro ⟨h', tk', m', news', e, F', N', o', j'⟩
      exact ⟨h', tk', m', news', e, F', N', o', ih m' news' j' o'⟩
    cases f with
    | ret v => exact q.elim
    | brk =>
      obtain ⟨h', tk', m', news', rfl, F', N', j'⟩ := q
      exact fin m' news' h' tk' j' F' N'
    | next => exact fin' q
    | cont => exact fin' q
theorem sh_loop {I q so X d : Addr} {oq oso : Obj} {hv : Int} {dk : Tok} {iv : Value} {k : Nat} {rest : List (Addr × Obj)} {R : List Nat × List Nat × List Nat} {wl com : List Nat} {m : Str → Option Value} {hh : Heap}
    (N : News h₀ env.locals hh ((q, oq) :: (so, oso) :: (X, accObj d #[] 0) :: (d, accDict hv dk iv k) :: rest)) (hI : ∀ p ∈ (q, oq) :: (so, oso) :: (X, accObj d #[] 0) :: (d, accDict hv dk iv k) :: rest, p.1 ≠ I)
    (hR : shunt wl [] [] com = some R) (hlen : com.length ≤ 50) (hg : ∃ tg, m (Str.ofString "gone") = some (.str (tS []) tg)) (hc : ∃ tc, m (Str.ofString "coming") = some (.str (tS com) tc)) (hs : m (Str.ofString "siding") = some (.ref X))
    (h1 : Held (∀ hv dk iv k c r m news u it h tk, Jsh X d hv dk iv k rest R (c :: r) m news → (∀ p ∈ news, p.1 ≠ I) → Fr h₀ env.locals h (fun y => if y = x then some (.str (ch c) u) else m y) → News h₀ env.locals h ((I, it) :: news) →
      wpAny (model prog w) A (execs body env) (TurnPost h₀ env.locals { s with heap := h, toks := tk } I it (Jsh X d hv dk iv k rest R r) (Fsh X d hv dk iv k rest R)) E { s with heap := h, toks := tk }))
    (fin : Held (∀ hv dk iv k m news h tk, Fsh X d hv dk iv k rest R m news → Fr h₀ env.locals h m → News h₀ env.locals h news → Q .next { s with heap := h, toks := tk })) :
    StrRest prog w A E h₀ env x body Q s I (wl.map ch) m ((q, oq) :: (so, oso) :: (X, accObj d #[] 0) :: (d, accDict hv dk iv k) :: rest) := by
  refine strRest_ind (Jsh X d hv dk iv k rest R) (Fsh X d hv dk iv k rest R) (fin hv dk iv k) ?_ (h1 hv dk iv k) wl _ _ ?_ hI
  · rintro m news ⟨g, sid, com', ts, n, h, hz, r⟩
    cases h
    exact ⟨ts, n, by simp; omega, r⟩
  · exact ⟨[], [], com, [], 0, hR, by simpa using hlen, .nil, hg, hc, hs, fun p hp => .tail _ (.tail _ hp)⟩
theorem led_own {x d : Addr} {n : Nat} {hv : Int} {dk : Tok} {iv : Value} {k : Nat} {ts rest nw : List (Addr × Obj)} {q : Addr × Obj} (h : ∀ p ∈ ledS x d n hv dk iv k ts rest, p ∈ nw) : ∀ p ∈ ledS x d n hv dk iv k ts (q :: rest), p ∈ q :: nw := by
  intro p hp
  simp only [ledS, List.mem_cons, List.mem_append] at hp
  rcases hp with hp | hp | hp | hp | hp
  · exact .tail _ (h p (by simp [ledS, hp]))
  · exact .tail _ (h p (by simp [ledS, hp]))
  · exact .tail _ (h p (by simp [ledS, hp]))
  · rw [hp]; exact .head _
  · exact .tail _ (h p (by simp [ledS, hp]))
theorem led_ne {h₀ hh : Heap} {L x d I : Addr} {it : Obj} {n : Nat} {hv : Int} {dk : Tok} {iv : Value} {k : Nat} {ts rest nw : List (Addr × Obj)} {sid : List Nat} (hS : Sid ts sid) (N : News h₀ L hh nw) (h : ∀ p ∈ ledS x d n hv dk iv k ts rest, p ∈ nw) (hI : ∀ p ∈ nw, p.1 ≠ I) (hr : ∀ p ∈ rest, p.1 ≠ x) :
    ∀ p ∈ ts ++ (I, it) :: rest, p.1 ≠ x := by
  intro p hp
  have hx := h _ (.head _)
  simp only [List.mem_cons, List.mem_append] at hp
  rcases hp with hp | rfl | hp
  · exact news_ne N (h (p.1, p.2) (.tail _ (.tail _ (List.mem_append_left _ hp)))) hx (by rw [hS.cls p hp]; intro h; exact Value.noConfusion h)
  · exact fun e => hI _ hx e.symm
  · exact hr p hp
noncomputable def Wsh (x d : Addr) (hv : Int) (dk : Tok) (iv : Value) (k : Nat) (rest : List (Addr × Obj)) (g : List Nat) (c : Nat) (R2 : List Nat × List Nat) (n : Nat) (m : Str → Option Value) (nw : List (Addr × Obj)) : Prop :=
  ∃ sid com ts nn, n = com.length ∧ feed c sid com = some R2 ∧ g.length + sid.length + com.length ≤ 50 ∧ Rd x d hv dk iv k rest g sid com ts nn m nw ∧ (∃ u, m (Str.ofString "kind") = some (.str (ch c) u)) ∧ (∀ p ∈ ts ++ rest, p.1 ≠ x) ∧ (∀ q ∈ rest.head?, ∀ p ∈ ts, p.1 ≠ q.1)
theorem wh_loop {x d : Addr} {hv : Int} {dk : Tok} {iv : Value} {k : Nat} {rest : List (Addr × Obj)} {g : List Nat} {c : Nat} {R2 : List Nat × List Nat} {n : Nat} {test : Expr} {pos : Pos} {m : Str → Option Value} {news : List (Addr × Obj)}
    (F : Fr h₀ env.locals s.heap m) (N : News h₀ env.locals s.heap news) (hJ : Wsh x d hv dk iv k rest g c R2 n m news)
    (turn : Held (∀ n m₁ news₁ h₁ tk₁, Fr h₀ env.locals h₁ m₁ → News h₀ env.locals h₁ news₁ → Wsh x d hv dk iv k rest g c R2 n m₁ news₁ →
      wpAny (model prog w) A (isTrue test env (eval test env)) (fun b s₂ =>
        if b = true then wpAny (model prog w) A (execs body env) (WhileStep2 h₀ env.locals s (Wsh x d hv dk iv k rest g c R2) Q n) E s₂ else Q .next s₂) E { s with heap := h₁, toks := tk₁ }))
    (hE : PassesOwn (model prog w) A env E := by passes_own) : wpAny (model prog w) A (exec (.While test body [] pos) env) Q E s :=
  While_inv2 (Wsh x d hv dk iv k rest g c R2) F N hJ turn hE
theorem wsh_start {x d : Addr} {hv : Int} {dk : Tok} {iv : Value} {k n : Nat} {ts rest : List (Addr × Obj)} {g sid com : List Nat} {c : Nat} {R2 : List Nat × List Nat} {m : Str → Option Value} (u : Tok) {hh h₀ : Heap} {L : Addr} (_N : News h₀ L hh (ledS x d n hv dk iv k ts rest)) (hf : feed c sid com = some R2) (hz : g.length + sid.length + com.length ≤ 50) (hS : Sid ts sid)
    (hg : ∃ tg, m (Str.ofString "gone") = some (.str (tS g) tg)) (hc : ∃ tc, m (Str.ofString "coming") = some (.str (tS com) tc)) (hs : m (Str.ofString "siding") = some (.ref x)) (hlx : ∀ p ∈ ts ++ rest, p.1 ≠ x) (hoff : ∀ q ∈ rest.head?, ∀ p ∈ ts, p.1 ≠ q.1) :
    Wsh x d hv dk iv k rest g c R2 com.length (fun y => if y = Str.ofString "kind" then some (.str (ch c) u) else m y) (ledS x d n hv dk iv k ts rest) :=
  ⟨sid, com, ts, n, rfl, hf, hz, ⟨hS, hg, hc, hs, fun _ h => h⟩, ⟨u, rfl⟩, hlx, hoff⟩
end
section
variable {w : World} {p : Program} {loose : List Str} {mean : ExcName → Option Value} {mg mb : Str → Option Value}
  {dp un : Nat} {gd : Option (List Code)} {cn : Str} {cs : Scope} {a : Addr} {ccd : Value} {cl : List (Str × Addr)} {outer : List Env} {A₀ : Around} {base h₀ : Heap} {L : Addr} {m : Str → Option Value} {s : Shared} {Q E : Value → Shared → Prop}
theorem c_cmpv {x y : Str} {tx ty : Tok} {v : Int} {news : List (Addr × Obj)} (hv : cmp3 x y = v) (C : Cx w p loose mean mg mb dp un cs outer A₀ base h₀ L m s.heap) (N : News h₀ L s.heap news)
    (hret : ∀ (t : Tok) (h' : Heap) (tk' : Nat), Fr h₀ L h' m → News h₀ L h' news → Q (.int v t) { s with heap := h', toks := tk' }) :
    wpAny (model PySem.Challenge.rw_ik0116_01.row.prog w) (ktrTop dp un gd cn cs L a ccd cl outer) (call (.ref 52) [.str x tx, .str y ty]) Q E s := by
  subst hv; exact c_cmp C N hret
end
theorem len_tS (l : List Nat) : (tS l).length = l.length := by simp [tS, Str.length]
theorem item_tS (c : Nat) (l : List Nat) : Txt.item (tS (c :: l)) 0 = ch c := by
  have h : Txt.charAt (tS (c :: l)) 0 = some c := by
    unfold Txt.charAt seqIndex?
    have hl := len_tS (c :: l)
    simp [tS, Str.length]
  rw [Txt.item, h]; rfl
theorem slice_tS (c : Nat) (l : List Nat) : Txt.slice (tS (c :: l)) (some 1) none = tS l := by
  have hl := len_tS (c :: l)
  rw [slice_from_eq (b := ((l.length + 1 : Nat) : Int)) (by decide) (by rw [hl]; simp; omega) (by rw [hl]; simp)]
  simp [tS]
theorem feed_stop {c : Nat} {sid com : List Nat} (h : below sid c = false) : feed c sid com = some (sid, com) := by
  cases com <;> simp [feed, h]
section
variable {s s₃ : Shared} {h₀ h' : Heap} {L x d D I : Addr} {it : Obj} {hv : Int} {dk : Tok} {iv : Value} {k n tk : Nat} {ts rest : List (Addr × Obj)} {g sid com : List Nat} {c c₁ : Nat} {R2 : List Nat × List Nat} {R : List Nat × List Nat × List Nat} {m : Str → Option Value} {Q : Flow → Shared → Prop} {n₁ : Nat} {tf tkk : Tok} {nt : Nat} {r : List Nat}
theorem wsh_next (F : Fr h₀ L h' m) (N : News h₀ L h' ((D, pairObj (Str.ofString "") tf (ch c₁) tkk nt) :: (x, accObj d (its ts ++ [Value.ref D]).toArray n) :: (d, accDict hv dk iv k) :: (ts ++ rest))) (hS : Sid ts sid)
    (hf : feed c (c₁ :: sid) com = some R2) (hz : g.length + sid.length + (c₁ :: com).length ≤ 50) (hne : ∀ p ∈ ts ++ rest, p.1 ≠ x) (hn : n₁ = (c₁ :: com).length)
    (hg : ∃ tg, m (Str.ofString "gone") = some (.str (tS g) tg)) (hc : ∃ tc, m (Str.ofString "coming") = some (.str (tS com) tc)) (hs : m (Str.ofString "siding") = some (.ref x)) (hk : ∃ u, m (Str.ofString "kind") = some (.str (ch c) u)) (hoff : ∀ q ∈ rest.head?, ∀ p ∈ ts, p.1 ≠ q.1) (hA : AllLt D (ts ++ rest))
    (e : s₃ = { s with heap := h', toks := tk }) : WhileStep2 h₀ L s (Wsh x d hv dk iv k rest g c R2) Q n₁ .next s₃ := by
  refine ⟨h', tk, m, _, com.length, e, F, N, by rw [hn]; simp, c₁ :: sid, com, (D, pairObj (Str.ofString "") tf (ch c₁) tkk nt) :: ts, n, rfl, hf, by simp at hz ⊢; omega, ⟨.cons hS, hg, hc, hs, ?_⟩, hk, ?_, ?_⟩
  · intro p hp
    simp only [ledS, List.mem_cons, List.cons_append] at hp ⊢
    rcases hp with h | h | h | h <;> simp [h]
    exact .inl rfl
  · intro p hp
    rcases List.mem_cons.mp hp with rfl | hp
    · exact news_ne N (.head _) (.tail _ (.head _)) (by intro h; exact Value.noConfusion h)
    · exact hne p hp
  · intro q hq p hp
    rcases List.mem_cons.mp hp with rfl | hp
    · exact (Nat.ne_of_lt (allLt_mem hA q (List.mem_append_right _ (List.mem_of_mem_head? hq)))).symm
    · exact hoff q hq p hp
theorem led_out {q : Addr × Obj} : ∀ p ∈ ledS x d n hv dk iv k ts rest, p ∈ ledS x d n hv dk iv k ts (q :: rest) := by
  intro p hp
  simp only [ledS, List.mem_cons, List.mem_append] at hp ⊢
  rcases hp with h | h | h | h <;> simp [h]
theorem tp_brk {Jn : (Str → Option Value) → List (Addr × Obj) → Prop} (F : Fr h₀ L h' m) (N : News h₀ L h' (ledS x d n hv dk iv k ts ((I, it) :: rest))) (hS : Sid ts R.2.1) (hz : R.2.1.length ≤ 50)
    (hg : ∃ tg, m (Str.ofString "gone") = some (.str (tS R.1) tg)) (hc : ∃ tc, m (Str.ofString "coming") = some (.str (tS R.2.2) tc)) (hs : m (Str.ofString "siding") = some (.ref x))
    (e : s₃ = { s with heap := h', toks := tk }) : TurnPost h₀ L s I it Jn (Fsh x d hv dk iv k rest R) .brk s₃ :=
  ⟨h', tk, m, _, e, F, N, ts, n, hz, hS, hg, hc, hs, led_out⟩
theorem tp_next {Fin : (Str → Option Value) → List (Addr × Obj) → Prop} (F : Fr h₀ L h' m) (N : News h₀ L h' (ledS x d n hv dk iv k ts ((I, it) :: rest))) (hS : Sid ts sid) (hI : ∀ p ∈ ledS x d n hv dk iv k ts rest, p.1 ≠ I)
    (hsh : shunt r g sid com = some R) (hz : g.length + sid.length + com.length ≤ 50)
    (hg : ∃ tg, m (Str.ofString "gone") = some (.str (tS g) tg)) (hc : ∃ tc, m (Str.ofString "coming") = some (.str (tS com) tc)) (hs : m (Str.ofString "siding") = some (.ref x))
    (e : s₃ = { s with heap := h', toks := tk }) : TurnPost h₀ L s I it (Jsh x d hv dk iv k rest R r) Fin .next s₃ :=
  ⟨h', tk, m, ledS x d n hv dk iv k ts rest, e, F, fun p hp => by
    rcases List.mem_cons.mp hp with rfl | hp
    · exact N _ (by simp [ledS])
    · exact N _ (led_out p hp), hI, g, sid, com, ts, n, hsh, hz, hS, hg, hc, hs, fun _ h => h⟩
end
section
variable {h₀ hh : Heap} {L x d I : Addr} {it : Obj} {hv : Int} {dk : Tok} {iv : Value} {k n : Nat} {ts rest nw : List (Addr × Obj)}
theorem off_start (_N : News h₀ L hh (ledS x d n hv dk iv k ts ((I, it) :: rest))) (hsub : ∀ p ∈ ledS x d n hv dk iv k ts rest, p ∈ nw) (hI : ∀ p ∈ nw, p.1 ≠ I) : ∀ q ∈ ((I, it) :: rest).head?, ∀ p ∈ ts, p.1 ≠ q.1 := by
  intro q hq p hp
  cases hq
  exact hI p (hsub p (.tail _ (.tail _ (List.mem_append_left _ hp))))
theorem in_nw (hsub : ∀ p ∈ ledS x d n hv dk iv k ts rest, p ∈ nw) (hI : ∀ p ∈ nw, p.1 ≠ I) : ∀ (n' : Nat) (ts' : List (Addr × Obj)), (∀ p ∈ ts', p.1 ≠ I) → ∀ p ∈ ledS x d n' hv dk iv k ts' rest, p.1 ≠ I := fun n' ts' ho p hp => by
  simp only [ledS, List.mem_cons, List.mem_append] at hp
  rcases hp with rfl | rfl | hp | hp
  · exact hI (x, accObj d (its ts).toArray n) (hsub _ (.head _))
  · exact hI (d, accDict hv dk iv k) (hsub _ (.tail _ (.head _)))
  · exact ho p hp
  · exact hI p (hsub p (.tail _ (.tail _ (List.mem_append_right _ hp))))
end
theorem off_next {q : Addr × Obj} {ts ts' rest : List (Addr × Obj)} (hno : ∀ (I : Addr) (it : Obj), (I, it) ∈ q :: rest → (∀ p ∈ ts, p.1 ≠ I) → ∀ p ∈ ts', p.1 ≠ I) (hoff : ∀ q' ∈ (q :: rest).head?, ∀ p ∈ ts, p.1 ≠ q'.1) : ∀ q' ∈ (q :: rest).head?, ∀ p ∈ ts', p.1 ≠ q'.1 := by
  intro q' h p hp
  cases h
  exact hno q.1 q.2 (.head _) (fun p hp => hoff _ rfl p hp) p hp
theorem off_fin {I : Addr} {it : Obj} {a : Addr × Obj} {ts ts1 ts2 rest : List (Addr × Obj)} (h2 : ∀ (J : Addr) (jt : Obj), (J, jt) ∈ (I, it) :: rest → (∀ p ∈ ts1, p.1 ≠ J) → ∀ p ∈ a :: ts2, p.1 ≠ J) (h1 : ∀ (J : Addr) (jt : Obj), (J, jt) ∈ (I, it) :: rest → (∀ p ∈ ts, p.1 ≠ J) → ∀ p ∈ ts1, p.1 ≠ J)
    (hoff : ∀ q' ∈ ((I, it) :: rest).head?, ∀ p ∈ ts, p.1 ≠ q'.1) : ∀ p ∈ ts2, p.1 ≠ I := fun p hp =>
  h2 I it (.head _) (h1 I it (.head _) (fun p hp => hoff _ rfl p hp)) p (.tail _ hp)
theorem led_pop {h₀ hh : Heap} {L x d I : Addr} {it : Obj} {hv : Int} {dk : Tok} {iv : Value} {k n : Nat} {ts rest : List (Addr × Obj)} {a1 a2 a3 a4 a7 : Addr × Obj}
    (N : News h₀ L hh (a1 :: a2 :: a3 :: a4 :: (x, accObj d (its ts).toArray n) :: (d, accDict hv dk iv k) :: a7 :: (ts ++ (I, it) :: rest))) : News h₀ L hh (ledS x d n hv dk iv k ts ((I, it) :: rest)) :=
  cb_drop N fun p hp => by
    simp only [ledS, List.mem_cons] at hp ⊢
    rcases hp with h | h | h <;> simp [h]
theorem tS_snoc (g : List Nat) (t : Nat) : (tS g ++ ch t : Str) = tS (g ++ [t]) := by
  show Str.mk _ = Str.mk _
  simp [tS, ch]
theorem fin_ne {h₀ hh : Heap} {L x d : Addr} {hv : Int} {dk : Tok} {iv : Value} {k n : Nat} {ts rest : List (Addr × Obj)} {sid : List Nat} (hS : Sid ts sid) (N : News h₀ L hh (ledS x d n hv dk iv k ts rest)) (hr : ∀ p ∈ rest, p.1 ≠ x) : ∀ p ∈ ts ++ rest, p.1 ≠ x := by
  intro p hp
  rcases List.mem_append.mp hp with h | h
  · exact news_ne N (.tail _ (.tail _ (List.mem_append_left _ (show (p.1, p.2) ∈ ts from h)))) (.head _) (by rw [hS.cls p h]; intro h; exact Value.noConfusion h)
  · exact hr p h
end Mine
end
section
namespace Mine
section
variable {prog : Program} {w : World} {A : Around} {E : Value → Shared → Prop} {s : Shared}
theorem step_item {it l : Addr} {i nl : Nat} {items : Array Value} {x : Value} {ol : Obj} {Q : Option Value → Shared → Prop} (hit : s.heap.IsListIter it l i) (hol : s.heap.get? l = some ol) (hdl : ol.data = .seq items nl) (hx : items[i]? = some x)
    (hQ : ∀ h', h'.IsListIter it l (i + 1) → Heap.SameBut it s.heap h' → Q (some x) { s with heap := h' }) : wpAny (model prog w) A (pyNext (.ref it)) Q E s := by
  obtain ⟨o, ho, hc, hd⟩ := id hit
  unfold pyNext
  refine wpAny_bind (wpAny_attempt (wpAny_callSpecial?_slot (name := Str.ofString "__next__") hit.typeIs slot_listiter_next (wpAny_call_entry slot_listiter_next hit.typeIs entry_listiter_next ?_ (args_listiter_next _))))
  show wpAny _ _ (field (.ref it) 0 >>= _) _ _ s
  refine wpAny_bind (wpAny_field ho hd (x := .ref l) rfl ?_)
  show wpAny _ _ (if (Value.ref l == Value.none) = true then _ else _) _ _ s
  rw [if_neg (show ¬ ((Value.ref l == Value.none) = true) from Bool.false_ne_true)]
  show wpAny _ _ (field (.ref it) 1 >>= _) _ _ s
  refine wpAny_bind (wpAny_field ho hd (x := .int i 0) rfl ?_)
  show wpAny _ _ (seqItems? (.ref l) >>= _) _ _ s
  refine wpAny_bind (wpAny_seqItems hol hdl ?_)
  simp only [Int.toNat_natCast, hx]
  refine wpAny_bind (wpAny_setField ho hd (by simp) (wpAny_pure ⟨x, rfl, wpAny_pure (hQ _ ?_ (Heap.SameBut.update ..))⟩))
  exact ⟨_, Heap.get?_update_self _ ho (Obj.isFreed_of_fields (Obj.data_mapFields hd _)), (Obj.cls_mapFields ..).trans hc, by rw [Obj.data_mapFields hd]; simp [rawInt]⟩
theorem step_end {it l : Addr} {i nl : Nat} {items : Array Value} {ol : Obj} {Q : Option Value → Shared → Prop} (hh : A.handled = none) (hit : s.heap.IsListIter it l i) (hol : s.heap.get? l = some ol) (hdl : ol.data = .seq items nl) (hx : items[i]? = none)
    (hQ : ∀ h', Heap.ExtBut it s.heap h' → Q none { s with heap := h' }) : wpAny (model prog w) A (pyNext (.ref it)) Q E s := by
  obtain ⟨o, ho, hc, hd⟩ := id hit
  unfold pyNext
  refine wpAny_bind (wpAny_attempt (wpAny_callSpecial?_slot (name := Str.ofString "__next__") hit.typeIs slot_listiter_next (wpAny_call_entry slot_listiter_next hit.typeIs entry_listiter_next ?_ (args_listiter_next _))))
  show wpAny _ _ (field (.ref it) 0 >>= _) _ _ s
  refine wpAny_bind (wpAny_field ho hd (x := .ref l) rfl ?_)
  show wpAny _ _ (if (Value.ref l == Value.none) = true then _ else _) _ _ s
  rw [if_neg (show ¬ ((Value.ref l == Value.none) = true) from Bool.false_ne_true)]
  show wpAny _ _ (field (.ref it) 1 >>= _) _ _ s
  refine wpAny_bind (wpAny_field ho hd (x := .int i 0) rfl ?_)
  show wpAny _ _ (seqItems? (.ref l) >>= _) _ _ s
  refine wpAny_bind (wpAny_seqItems hol hdl ?_)
  simp only [Int.toNat_natCast, hx]
  refine wpAny_bind (wpAny_rule (wpAny_bind (wpAny_setField ho hd (by simp) ?_)))
  show wpAny _ _ (newExc (.type "StopIteration") [] >>= _) _ _ _
  refine wpAny_bind ?_
  simp only [newExc, newTuple]
  refine wpAny_bind (wpAny_newObj_type ?_ (by size_fits))
  refine wpAny_bind (m := firstArgMember _ _) (wpAny_of_eq (a := Value.none) (by first | rfl | (simp only [firstArgMember]; rfl)) ?_)
  refine wpAny_newObj_type ?_ (by size_fits)
  simp only [raiseNew]
  refine wpAny_bind (wpAny_handled ?_)
  rw [show A.in1.handled = none from hh]
  refine wpAny_bind (wpAny_pure (wpAny_throw ?_))
  refine wpAny_bind (wpAny_isInstance (T := "StopIteration") (b := true) ⟨_, Heap.get?_push_size _ rfl, rfl⟩ isSubtype_stop ?_)
  exact wpAny_pure (hQ _ (((Heap.SameBut.update ..).extBut.push _).push _))
theorem acc_iter {K : Frag} {x : Addr} {ox : Obj} {od : Option Obj} {Q : Value → Shared → Prop} (X : K.In s.heap) (I : InstAt s.heap x ox 132 od) (hf : findIn K (.ref 132) "__iter__" = some (some (.builtin "list.__iter__"))) (hm : mroIn K 132 (.type "list") = some true)
    (hQ : Q (.ref s.heap.objs.size) { s with heap := s.heap.push { cls := .type "list_iterator", data := .fields #[.ref x, .int 0 0] } }) : wpAny (model prog w) A (pyIter (.ref x)) Q E s := by
  have hsp : Looks (model prog w) s.heap (specialOf (.ref x) "__iter__") (some (.builtin "list.__iter__")) := I.type.andThen (looks_findIn X hf)
  have sub : Looks (model prog w) s.heap (isInstance (.ref x) (.type "list")) true := I.type.andThen (looks_mroIn X hm)
  have hk : builtinKind "list.__iter__" = some .slot := by decide +kernel
  have hs : splitId "list.__iter__" = some ("list", "__iter__") := by decide +kernel
  unfold pyIter
  refine wpAny_bind (hsp.at ?_)
  dsimp only
  refine wpAny_bind ?_
  simp only [callSpecialIfBoundUnlessNone?, bindSpecialIfBound?]
  refine wpAny_holding (wpAny_bind (wpAny_bind (hsp.at ?_)))
  simp only [slot_list_iter.bind]
  refine wpAny_bind (wpAny_askSetting (wpAny_ite ?_))
  have go : ∀ {Q : Value → Shared → Prop}, Q (.ref s.heap.objs.size) { s with heap := s.heap.push { cls := .type "list_iterator", data := .fields #[.ref x, .int 0 0] } } → wpAny (model prog w) A (call (.builtin "list.__iter__") [.ref x]) Q E s := fun {Q} hQ => by
    refine wpAny_call (codeAny_call_builtin slot_list_iter.plain entry_list_iter (@check_slot (model prog w) _ _ s "list.__iter__" "list" "__iter__" (.ref x) [] [] _ hk hs sub (args_list_iter _) ?_))
    show wpAny _ _ (do ret (← newFields "list_iterator" [.ref x, rawInt 0])) _ _ s
    exact wpAny_bind (wpAny_newObj_type (wpAny_pure hQ))
  have nx : Looks (model prog w) (s.heap.push { cls := .type "list_iterator", data := .fields #[.ref x, .int 0 0] }) (specialOf (.ref s.heap.objs.size) "__next__") (some (.builtin "list_iterator.__next__")) := by
    intro A' Q' E' s' k q
    refine wpAny_specialOf (T := "list_iterator") ⟨_, k _ _ (Heap.get?_push_size _ rfl), rfl⟩ slot_listiter_next.lookup q
  have fin : wpAny (model prog w) A (if (Value.builtin "list.__iter__" == Value.none) = true then ((do rule "iter.none"; raiseError "TypeError" s!"'{← typeNameOf (.ref x)}' object is not iterable") >>= fun v => pure (some v)) else (call (.builtin "list.__iter__") [.ref x] >>= fun v => pure (some v)))
      (fun r s' => r = some (.ref s.heap.objs.size) ∧ s' = { s with heap := s.heap.push { cls := .type "list_iterator", data := .fields #[.ref x, .int 0 0] } }) E s := by
    simp only [builtin_beq_none, Bool.false_eq_true, if_false]
    exact wpAny_bind (go (wpAny_pure ⟨rfl, rfl⟩))
  have last : ∀ r s', r = some (Value.ref s.heap.objs.size) ∧ s' = { s with heap := s.heap.push { cls := .type "list_iterator", data := .fields #[.ref x, .int 0 0] } } → wpAny (model prog w) A (match r with
      | some it => do
        match ← specialOf it "__next__" with
        | none => do rule "iter.non-iterator"; raiseError "TypeError" s!"iter() returned non-iterator of type '{← typeNameOf it}'"
        | some _ => pure it
      | none => do
        match ← bindSpecialIfBound? (.ref x) "__getitem__" with
        | none => do rule "iter.not-iterable"; raiseError "TypeError" s!"'{← typeNameOf (.ref x)}' object is not iterable"
        | some _ => do rule "iter.getitem-fallback"; newFields "iterator" [.ref x, ← mkInt 0]) Q E s' := by
    rintro r s' ⟨rfl, rfl⟩
    refine wpAny_bind (nx.at ?_)
    exact wpAny_pure hQ
  split
  · exact wpAny_bind (wpAny_pure (wpAny_pure (wpAny_mono fin last fun _ _ e => e)))
  · exact wpAny_tryCatch (wpAny_bind (wpAny_pure (wpAny_pure (wpAny_mono fin last fun _ _ e => e))))
end
theorem its_get (ts : List (Addr × Obj)) : its ts = ts.reverse.map fun p => Value.ref p.1 := by
  induction ts with
  | nil => rfl
  | cons p ts ih => simp [its, ih]
/-- the pieces that stand, from the closed end on -/
theorem Sid.at {ts : List (Addr × Obj)} {ks : List Nat} (h : Sid ts ks) : ∀ (i : Nat) (c : Nat), ks.reverse[i]? = some c → ∃ tp tf tk nt, (its ts)[i]? = some (.ref tp) ∧ (tp, pairObj (Str.ofString "") tf (ch c) tk nt) ∈ ts := by
  induction h with
  | nil => intro i c h; simp at h
  | @cons tp tf tk c' nt ts ks hS ih =>
    intro i c hc
    rw [List.reverse_cons] at hc
    have hl : (its ts).length = ks.reverse.length := by rw [its_length, hS.length, List.length_reverse]
    rw [its]
    by_cases hi : i < ks.reverse.length
    · rw [List.getElem?_append_left hi] at hc
      obtain ⟨tp', tf', tk', nt', h1, h2⟩ := ih i c hc
      exact ⟨tp', tf', tk', nt', by rw [List.getElem?_append_left (by omega)]; exact h1, .tail _ h2⟩
    · rw [List.getElem?_append_right (by omega)] at hc
      have hi0 : i - ks.reverse.length = 0 := by
        cases h0 : i - ks.reverse.length with
        | zero => rfl
        | succ k => rw [h0] at hc; simp at hc
      rw [hi0] at hc
      simp at hc
      subst hc
      exact ⟨tp, tf, tk, nt, by rw [List.getElem?_append_right (by omega), hl, hi0]; rfl, .head _⟩
noncomputable def sidSt (I x d : Addr) (n : Nat) (ts : List (Addr × Obj)) (i : Nat) (h : Heap) : Prop := h.IsListIter I x i ∧ h.get? x = some (accObj d (its ts).toArray n) ∧ ∀ p ∈ ts, h.get? p.1 = some p.2
noncomputable def sidPt (ks : List Nat) (i : Nat) (vals : Array Value) : Prop := ∃ c tf tk, ks.reverse[i]? = some c ∧ vals = #[.str (Str.ofString "") tf, .str (ch c) tk]
section
variable {prog : Program} {w : World} {A : Around}
theorem sidWalks {I x d : Addr} {n : Nat} {ts : List (Addr × Obj)} {ks : List Nat} (hh : A.handled = none) (hS : Sid ts ks) (hx : x ≠ I) (hI : ∀ p ∈ ts, p.1 ≠ I) :
    WalksU prog w A I (I :: x :: ts.map (·.1)) [I] ks.length (sidPt ks) (sidSt I x d n ts) (fun i T h => sidSt I x d n ts (i + 1) h ∧ ∃ o, h.get? T = some o ∧ o.cls = .type "tuple") where
  sub := fun b hb => by simp at hb; simp [hb]
  frame := fun i h h' st hk => ⟨st.1.at fun o e => hk I (by simp) o e, hk x (by simp) _ st.2.1, fun p hp => hk p.1 (by simp; exact .inr (.inr ⟨p.2, hp⟩)) _ (st.2.2 p hp)⟩
  item := fun i s Q E hi st hQ => by
    have hc : ks.reverse[i]? = some (ks.reverse[i]'(by simpa using hi)) := List.getElem?_eq_getElem _
    obtain ⟨tp, tf, tk, nt, h1, h2⟩ := hS.at i _ hc
    refine step_item st.1 st.2.1 rfl (x := .ref tp) (by simpa using h1) fun h' hit hsb => ?_
    have hk : ∀ b o, b ≠ I → s.heap.get? b = some o → h'.get? b = some o := fun b o hb e => hsb.extBut b o hb e
    have ht : h'.get? tp = some (pairObj (Str.ofString "") tf (ch _) tk nt) := hk _ _ (hI _ h2) (st.2.2 _ h2)
    exact hQ tp #[.str (Str.ofString "") tf, .str (ch _) tk] h' s.toks ⟨_, tf, tk, hc, rfl⟩ ⟨_, ht, rfl, nt, rfl⟩ ⟨⟨hit, hk _ _ hx st.2.1, fun p hp => hk _ _ (hI p hp) (st.2.2 p hp)⟩, _, ht, rfl⟩ fun b o hb e => hk b o (fun h => hb (by simp [h])) e
  go := fun elts k pos i T s Q E mid hQ => wpAny_letOwnedTupleGo_listiter mid.1.1 (hQ s.heap mid.1 fun b o hb e => e)
  apart := fun i T h mid hT => by
    simp at hT
    subst hT
    obtain ⟨⟨⟨o, ho, hc, _⟩, _⟩, o', ho', hc'⟩ := mid
    rw [ho] at ho'
    cases ho'
    rw [hc] at hc'
    exact absurd hc' (by decide)
  done := fun s Q E st hQ => by
    refine step_end hh st.1 st.2.1 rfl ?_ fun h' he => hQ h' s.toks fun b o hb e => he b o (fun h => hb (by simp [h])) e
    have : (its ts).length = ks.length := by rw [its_length, hS.length]
    simp [this]
  self := fun i s Q E st hQ => wpAny_pyIter_listiter st.1 hQ
end
end Mine
end
section
namespace Mine
noncomputable abbrev gScope : Scope := { kind := .function, names := [(Str.ofString ".0", .local), (Str.ofString "fws", .local), (Str.ofString "part", .local), (Str.ofString "EMPTYSTRING", .globalImplicit)], isGenerator := true, isCoroutine := false }
noncomputable abbrev gElt : Expr := ((Expr.Name (Str.ofString "EMPTYSTRING") { line := 40, col := 33, endLine := 40, endCol := 44 }).Attribute (Str.ofString "join") { line := 40, col := 33, endLine := 40, endCol := 49 }).Call
  [Expr.Tuple [Expr.Name (Str.ofString "fws") { line := 40, col := 51, endLine := 40, endCol := 54 }, Expr.Name (Str.ofString "part") { line := 40, col := 56, endLine := 40, endCol := 60 }] 0 { line := 40, col := 50, endLine := 40, endCol := 61 }]
  [] { line := 40, col := 33, endLine := 40, endCol := 62 }
section
variable {prog : Program} {w : World} {A : Around} {E : Value → Shared → Prop} {s : Shared}
theorem eltE {cenv : Env} {m₂ : Str → Option Value} {c : Nat} {tf tk t0 : Tok} (hsc : cenv.scope = gScope) (hn : s.heap.Ns cenv.locals m₂) (h1 : m₂ (Str.ofString "fws") = some (.str (Str.ofString "") tf)) (h2 : m₂ (Str.ofString "part") = some (.str (ch c) tk))
    (hG : ∀ (pos : Pos) (Q : Value → Shared → Prop), Q (.str (Str.ofString "") t0) s → wpAny (model prog w) A (eval (.Name (Str.ofString "EMPTYSTRING") pos) cenv) Q E s) :
    wpAny (model prog w) A (eval gElt cenv) (fun y s₃ => (∃ u, y = .str (ch c) u) ∧ Keeps s s₃) E s := by
  refine MethodCall_ ?_
  refine hG _ _ ?_
  repeat (first | (refine ldG hn (by assumption) ?_ (by rw [hsc]) (by rw [hsc]; rfl)) | walk1)
  refine wpAny_newTuple ?_ (by rw [sizeLine_eq]; exact Nat.le_of_ble_eq_true rfl)
  repeat walk1
  refine join_tuple (ys := [Str.ofString "", ch c]) ⟨_, Heap.get?_push_size _ rfl, rfl, _, rfl⟩ (.cons _ _ (.cons _ _ .nil)) (Nat.le_of_ble_eq_true (by rfl)) fun t' k => ⟨⟨t', ?_⟩, _, _, rfl, fun b o e => Heap.get?_push_of_some _ e⟩
  have : Txt.join (Str.ofString "") [Str.ofString "", ch c] = ch c := by rfl
  rw [this]
end
end Mine
end
section
namespace Mine
noncomputable abbrev gPos : Pos := { line := 40, col := 32, endLine := 40, endCol := 85 }
noncomputable abbrev gGen : Expr := gElt.GeneratorExp [{ target := Expr.Tuple [Expr.Name (Str.ofString "fws") { line := 40, col := 67, endLine := 40, endCol := 70 }, Expr.Name (Str.ofString "part") { line := 40, col := 72, endLine := 40, endCol := 76 }] 0 { line := 40, col := 67, endLine := 40, endCol := 76 }, iter := Expr.Name (Str.ofString "self") { line := 40, col := 80, endLine := 40, endCol := 84 }, ifs := [], is_async := 0 }] gScope gPos
noncomputable abbrev sScope : Scope := { kind := .function, names := [(Str.ofString "self", .local), (Str.ofString "EMPTYSTRING", .globalImplicit)], isGenerator := false, isCoroutine := false }
section
variable {w : World} {p : Program} {loose : List Str} {mean : ExcName → Option Value} {mg mb : Str → Option Value} {A : Around} {E Q : Value → Shared → Prop} {s : Shared} {h₀ : Heap} {L x d : Addr} {n : Nat} {hv : Int} {dk : Tok} {iv : Value} {k : Nat} {ts rest : List (Addr × Obj)} {sid : List Nat} {m : Str → Option Value} {t : Tok}
theorem ch_joinOk {l : List Nat} (h : l.length ≤ 100) : JoinOk (Str.ofString "") (l.reverse.map ch) = true := by
  refine joinOk_of ?_
  have e : ∀ l : List Nat, ((l.map ch).map (·.length)).sum = l.length := by
    intro l
    induction l with
    | nil => rfl
    | cons c l ih => simp only [List.map_cons, List.sum_cons, ih, List.length_cons]; show 1 + _ = _; omega
  rw [e, List.length_map, List.length_reverse]
  have : (Str.ofString "").length = 0 := rfl
  rw [this]
  omega
theorem ch_join (l : List Nat) : Txt.join (Str.ofString "") (l.map ch) = tS l := by
  have e0 : Str.ofString "" = ⟨#[]⟩ := by decide +kernel
  rw [e0]
  show Builtin.Str.glued ⟨#[]⟩ (l.map ch) = tS l
  rw [StrLaws.glued_eq_join]
  induction l with
  | nil => rfl
  | cons c r ih =>
    rw [List.map_cons, join_nil_cons, ih]
    show Str.mk _ = Str.mk _
    simp [tS, ch]
theorem str_gen (hh : A.handled = none) (hroom : A.depth < recursionLimit) (F : Fr h₀ L s.heap m) (hself : m (Str.ofString "self") = some (.ref x)) (X : (Mine.hd.heap_39 w.params).In h₀) (T : Top p loose mean mg mb h₀)
    (hS : Sid ts sid) (hz : sid.length ≤ 100) (N : News h₀ L s.heap (ledS x d n hv dk iv k ts ((101, tabObj #[]) :: rest))) (hr : ∀ p ∈ rest, p.1 ≠ 101) (hG : AllBare s.gens)
    (hQ : ∀ s' t' ps, Fr h₀ L s'.heap m → News h₀ L s'.heap (ledS x d n hv dk iv k ts ((101, tabObj ps) :: rest)) → AllBare s'.gens → s'.os = s.os → s'.drawn = s.drawn → Q (.str (tS sid.reverse) t') s') :
    wpAny (model PySem.Challenge.rw_ik0116_01.row.prog w) A (eval gGen (envOf (Str.ofString "_Accumulator.__str__") sScope L 106 (.ref 105)))
      (fun g s₁ => wpAny (model PySem.Challenge.rw_ik0116_01.row.prog w) A (call (.builtin "str.join") [.str (Str.ofString "") t, g]) Q E s₁) E s := by
  revert X; k_fill; intro X
  have hx := N _ (.head _)
  have hdd := N _ (.tail _ (.head _))
  have h101 := N (101, tabObj #[]) (.tail _ (.tail _ (List.mem_append_right _ (.head _))))
  have hts : ∀ q ∈ ts, s.heap.get? q.1 = some q.2 := fun q hq => (N q (.tail _ (.tail _ (List.mem_append_left _ hq)))).1
  have x101 : x ≠ 101 := news_ne N (.head _) (.tail _ (.tail _ (List.mem_append_right _ (.head _)))) (by intro h; exact Value.noConfusion h)
  have d101 : d ≠ 101 := news_ne N (.tail _ (.head _)) (.tail _ (.tail _ (List.mem_append_right _ (.head _)))) (by intro h; exact Value.noConfusion h)
  have ts101 : ∀ q ∈ ts, q.1 ≠ 101 := fun q hq => news_ne N (.tail _ (.tail _ (List.mem_append_left _ (show (q.1, q.2) ∈ ts from hq)))) (.tail _ (.tail _ (List.mem_append_right _ (.head _)))) (by rw [hS.cls q hq]; intro h; exact Value.noConfusion h)
  refine wpAny_GeneratorExp_walksQT (cl := []) hh rfl rfl (by decide) rfl rfl rfl (by decide) rfl hroom ?_ (fun _ => rfl)
  refine ld F hself ?_
  refine acc_iter (od := some (accDict hv dk iv k)) (X.keeps F.keep) ⟨hx.1, rfl, rfl, hdd.1⟩ (by kernel_rfl!) (by kernel_rfl!) ?_
  obtain ⟨bm, ob, b1, b2, b3, b4, b5, b6⟩ := T.bmain
  have hI101 : s.heap.objs.size ≠ 101 := fun e => by
    have := Heap.lt_size h101.1
    rw [e] at this
    exact Nat.lt_irrefl _ this
  have k1 : ∀ b o, s.heap.get? b = some o → (s.heap.push { cls := .type "list_iterator", data := .fields #[.ref x, .int 0 0] }).get? b = some o := fun b o e => Heap.get?_push_of_some _ e
  have C₀ : CodeHd h₀ 105 101 := codeHd_of_K (c := 105) (P := 101) X (by kernel_rfl!)
  have C₂ := C₀.keeps fun b o e => k1 b o (F.keep b o e)
  refine ⟨(T.nolimit.keeps F.keep).keeps k1, wpAny_genexprCodeX rfl (C₂.code (k1 _ _ h101.1) trivial) (C₂.tab (k1 _ _ h101.1)) rfl fun c' h₃ tk₃ hx₃ hge hlt hcode₃ _ htab₃ _ => ?_⟩
  have h101n : h₀.get? 101 = none := h101.2.2
  have k3 : ∀ b o, h₀.get? b = some o → h₃.get? b = some o := fun b o e => hx₃ b o (by rintro rfl; rw [h101n] at e; cases e) (k1 _ _ (F.keep b o e))
  have k4 : ∀ b o, b ≠ 101 → s.heap.get? b = some o → h₃.get? b = some o := fun b o hb e => hx₃ b o hb (k1 _ _ e)
  refine wpAny_builtinsFor (T.g.keeps k3) b1 b2 (k3 _ _ b3) b4 b5 b6 ?_
  have hxI : x ≠ s.heap.objs.size := Nat.ne_of_lt (Heap.lt_size hx.1)
  have htsI : ∀ q ∈ ts, q.1 ≠ s.heap.objs.size := fun q hq => Nat.ne_of_lt (Heap.lt_size (hts q hq))
  have hsz : s.heap.objs.size < h₃.objs.size := by
    have h1 : (s.heap.push { cls := .type "list_iterator", data := .fields #[.ref x, .int 0 0] }).objs.size = s.heap.objs.size + 1 := Heap.size_push ..
    have h2 : (s.heap.push { cls := .type "list_iterator", data := .fields #[.ref x, .int 0 0] }).objs.size ≤ c' := hge
    omega
  have hL : L < s.heap.objs.size := F.ns.lt
  have nl : h₃.NoLimit := T.nolimit.keeps k3
  have hcs : cStatics < s.heap.objs.size := let ⟨_, hn, _⟩ := T.nolimit.keeps F.keep; hn.lt
  refine ⟨s.heap.objs.size, _, _, sid.length, sidPt sid, sidSt s.heap.objs.size x d n ts, _, fun _ => true, fun i y => ∃ c u, sid.reverse[i]? = some c ∧ y = .str (ch c) u, rfl, fun A' hA => sidWalks hA hS hxI htsI, ?pt, ?st, ?fp, nl, ?cs, ?q, ?fin⟩
  case pt => rintro i vals ⟨c, tf, tk, _, rfl⟩; exact ⟨_, _, rfl⟩
  case st => exact ⟨⟨_, hx₃ _ _ hI101 (Heap.get?_push_size _ rfl), rfl, rfl⟩, k4 _ _ x101 hx.1, fun q hq => k4 _ _ (ts101 q hq) (hts q hq)⟩
  case fp =>
    intro b hb
    simp only [List.mem_cons, List.mem_map] at hb
    show b < h₃.objs.size
    rcases hb with rfl | rfl | ⟨q, hq, rfl⟩
    · exact hsz
    · exact Nat.lt_trans (Heap.lt_size hx.1) hsz
    · exact Nat.lt_trans (Heap.lt_size (hts q hq)) hsz
  case cs => intro hm; exact absurd (List.mem_singleton.mp hm) (Nat.ne_of_lt hcs)
  case q =>
    intro href hk
    constructor
    · intro A' E' i va vb s₂ m₂ _ _ _ _ _ _
      exact wpAny_pure ⟨rfl, _, _, rfl, fun _ _ e => e⟩
    · rintro A' E' i va vb s₂ m₂ hA ⟨c, tf, tk, hc, hv⟩ _ hn h1 h2 hkeep
      injection hv with hv
      injection hv with e1 hv
      injection hv with e2 _
      subst e1 e2
      have ks : ∀ b o, h₀.get? b = some o → s₂.heap.get? b = some o := fun b o e => by
        have hlt : b < s.heap.objs.size := Heap.lt_size (F.keep b o e)
        exact hkeep b (List.mem_range.mpr (Nat.lt_trans hlt hsz)) (fun hm => Nat.ne_of_lt hlt (List.mem_singleton.mp hm)) o (hk _ _ (k3 b o e))
      refine wpAny_mono (eltE (c := c) rfl hn h1 h2 (fun pos Q' q' => Name_function_global rfl rfl (loadGlobal_global (env := genEnv gScope [] h₃.objs.size (.ref c') builtinsNs (envOf (Str.ofString "_Accumulator.__str__") sScope L 106 (.ref 105))) (T.g.keeps ks) (mg_of X T.g (by k_is)) q') (by decide))) (fun y s₃ ⟨⟨u, hu⟩, hk⟩ => ⟨⟨c, u, hc, hu⟩, hk⟩) fun _ _ e => e
  case fin =>
    intro a h₅ tk gs hgb hag hsz₅ hk₅ W hat
    have k5 : ∀ b o, b ≠ 101 → s.heap.get? b = some o → h₅.get? b = some o := fun b o hb e => hk₅ _ _ (k4 b o hb e)
    have F₅ : Fr h₀ L h₅ m := by
      obtain ⟨oL, a1, a2, hL', a3⟩ := F.ns
      exact ⟨⟨oL, a1, a2, k5 _ _ (Ne.symm h101.2.1) hL', a3⟩, fun b o e => hk₅ _ _ (k3 b o e), F.above⟩
    have hps : passing (fun _ => true) sid.length 0 = List.range sid.length := by simp [passing]
    refine SC.joinGen W.in4_2 (fun i s' st => st.1.typeIs) hat ?hfp List.mem_cons_self (fun j v ⟨i, hi, c, u, hc, e⟩ => ⟨_, u, e⟩) ?hq ?hsz
    case hfp =>
      intro b hb
      show b < h₅.objs.size
      rw [hsz₅]
      rcases List.mem_cons.mp hb with rfl | hb
      · exact Nat.lt_succ_self _
      · rcases List.mem_cons.mp hb with rfl | hb
        · exact Nat.lt_succ_of_lt hag
        · exact Nat.lt_succ_of_lt (Nat.lt_trans (List.mem_range.mp hb) hag)
    case hsz => rw [hps, List.length_range, sizeLine_eq]; omega
    case hq =>
      intro s' lt hm hacc
      rw [hps] at hacc
      have hl : lt.map (·.1) = sid.reverse.map ch := by
        apply List.ext_getElem?
        intro j
        have hsz : lt.length = sid.length := by simpa [strValues] using hacc.1
        by_cases hj : j < sid.length
        · have hj' : j < lt.length := hsz ▸ hj
          obtain ⟨i, hi, c, u, hc, hv⟩ := hacc.2 j (.str lt[j].1 lt[j].2) (by simp [strValues, List.getElem?_eq_getElem hj'])
          have hij : i = j := by
            rw [List.getElem?_range hj] at hi
            exact (Option.some.inj hi).symm
          subst hij
          injection hv with h1 _
          rw [List.getElem?_map, List.getElem?_map, hc, List.getElem?_eq_getElem hj']
          simp [h1]
        · rw [List.getElem?_eq_none (by simpa [hsz] using Nat.le_of_not_lt hj), List.getElem?_eq_none (by simpa using Nat.le_of_not_lt hj)]
      rw [hl]
      have hw : ∀ b ∈ [h₃.objs.size, s.heap.objs.size], L < b := by
        intro b hb
        simp only [List.mem_cons, List.not_mem_nil, or_false] at hb
        rcases hb with rfl | rfl
        · exact Nat.lt_trans hL hsz
        · exact hL
      have keep' : ∀ b o, b < s.heap.objs.size → h₅.get? b = some o → s'.heap.get? b = some o := fun b o hb e => hm.heap b o (by
        intro hmem
        simp only [List.mem_cons, List.not_mem_nil, or_false] at hmem
        rcases hmem with rfl | rfl
        · exact absurd (Nat.lt_trans hb hsz) (Nat.lt_irrefl _)
        · exact Nat.lt_irrefl _ hb) e
      refine ⟨ch_joinOk hz, fun t' k9 => ?_⟩
      rw [ch_join]
      have Fm : Fr h₀ L s'.heap m := F₅.moved hm hw
      have Gm : AllBare s'.gens := AllBare.moved (hG.push hgb) hm.gens
      refine hQ { s' with toks := k9 } t' (#[] ++ #[rawInt gPos.line, rawInt gPos.col, Value.ref c']) Fm ?_ Gm hm.os hm.drawn
      intro q hq
      simp only [ledS, List.mem_cons, List.mem_append] at hq
      have old : ∀ q ∈ ledS x d n hv dk iv k ts ((101, tabObj #[]) :: rest), q.1 ≠ 101 → s'.heap.get? q.1 = some q.2 ∧ q.1 ≠ L ∧ h₀.get? q.1 = none := fun q hq h => ⟨keep' _ _ (Heap.lt_size (N q hq).1) (k5 _ _ h (N q hq).1), (N q hq).2⟩
      rcases hq with rfl | rfl | hq | rfl | hq
      · exact old _ (.head _) x101
      · exact old _ (.tail _ (.head _)) d101
      · exact old _ (.tail _ (.tail _ (List.mem_append_left _ hq))) (ts101 q hq)
      · exact ⟨keep' _ _ (Heap.lt_size h101.1) (hk₅ _ _ htab₃.2), h101.2⟩
      · exact old _ (.tail _ (.tail _ (List.mem_append_right _ (.tail _ hq)))) (hr q hq)
end
end Mine
namespace Mine
section
variable {w : World} {p : Program} {loose : List Str} {mean : ExcName → Option Value} {mg mb : Str → Option Value} {A : Around} {E Q : Value → Shared → Prop} {s : Shared} {h₀ : Heap} {L x d : Addr} {n : Nat} {hv : Int} {dk : Tok} {iv : Value} {k : Nat} {ts rest : List (Addr × Obj)} {sid : List Nat} {m : Str → Option Value} {t : Tok}
theorem str_genK {env : Env} {pos : Pos} (X : (Mine.hd.heap_39 w.params).In h₀) (T : Top p loose mean mg mb h₀) (F : Fr h₀ L s.heap m) (hself : m (Str.ofString "self") = some (.ref x)) 
    (hS : Sid ts sid) (hz : sid.length ≤ 100) (N : News h₀ L s.heap (ledS x d n hv dk iv k ts ((101, tabObj #[]) :: rest))) (hr : ∀ p ∈ rest, p.1 ≠ 101) (hG : AllBare s.gens) (hh : A.handled = none) (hroom : A.depth < recursionLimit)
    (hQ : ∀ s' t' ps, Fr h₀ L s'.heap m → News h₀ L s'.heap (ledS x d n hv dk iv k ts ((101, tabObj ps) :: rest)) → AllBare s'.gens → s'.os = s.os → s'.drawn = s.drawn → Q (.str (tS sid.reverse) t') s') :
    wpAny (model PySem.Challenge.rw_ik0116_01.row.prog w) A (eval gGen (envOf (Str.ofString "_Accumulator.__str__") sScope L 106 (.ref 105)))
      (fun v s₁ => wpAny (model PySem.Challenge.rw_ik0116_01.row.prog w) A (spliced (backTo pos (starEach [] env)))
        (fun vs s₂ => wpAny (model PySem.Challenge.rw_ik0116_01.row.prog w) A (call (.builtin "str.join") ((Value.builtin "str.join", [Value.str (Str.ofString "") t]).2 ++ v :: vs)) Q E s₂) E s₁) E s :=
  wpAny_mono (str_gen hh hroom F hself X T hS hz N hr hG hQ) (fun _ _ h => spliced_none h) fun _ _ e => e
end
end Mine
end
section
namespace Mine
/-- sorted, least first -/
noncomputable abbrev Up (l : List Nat) : Prop := l.Pairwise (· ≤ ·)
theorem feed_to {k : Nat} : ∀ (com sid : List Nat), Up (sid.reverse ++ com) → below sid k = true → k ∈ com →
    ∃ sid' com', feed k sid com = some (k :: sid', com') ∧ (k :: sid').reverse ++ com' = sid.reverse ++ com ∧ (∀ a ∈ sid', a < k) := by
  intro com
  induction com with
  | nil => intro sid _ _ h; cases h
  | cons c r ih =>
    intro sid hs hb hk
    have hlt : ∀ a ∈ sid, a < k := by
      cases sid with
      | nil => intro a h; cases h
      | cons t s =>
        simp [below] at hb
        intro a ha
        rcases List.mem_cons.mp ha with rfl | ha
        · exact hb
        · have := (List.pairwise_append.mp hs).1
          rw [List.pairwise_reverse] at this
          have := List.rel_of_pairwise_cons this ha
          omega
    have hck : c ≤ k := by
      rcases List.mem_cons.mp hk with h | h
      · omega
      · exact List.rel_of_pairwise_cons (List.pairwise_append.mp hs).2.1 h
    rw [feed, if_pos hb]
    have e : (c :: sid).reverse ++ r = sid.reverse ++ c :: r := by simp
    by_cases h : c = k
    · subst h
      have hb' : below (c :: sid) c = false := by simp [below]
      exact ⟨sid, r, feed_stop hb', e, hlt⟩
    · have hb' : below (c :: sid) k = true := by simp [below]; omega
      have hk' : k ∈ r := by
        rcases List.mem_cons.mp hk with h' | h'
        · exact absurd h'.symm h
        · exact h'
      obtain ⟨sid', com', h1, h2, h3⟩ := ih (c :: sid) (by rw [e]; exact hs) hb' hk'
      exact ⟨sid', com', h1, by rw [h2, e], h3⟩
/-- the greatest -/
noncomputable def top (l : List Nat) : Nat := l.foldl max 0
theorem foldl_max (l : List Nat) : ∀ a, l.foldl max a = max a (top l) := by
  induction l with
  | nil => intro a; simp [top]
  | cons b l ih => intro a; rw [List.foldl_cons, ih, show top (b :: l) = l.foldl max (max 0 b) from rfl, ih]; omega
theorem top_snoc (l : List Nat) (k : Nat) : top (l ++ [k]) = max (top l) k := by
  simp [top, List.foldl_append]
theorem top_cons (l : List Nat) (k : Nat) : top (k :: l) = max k (top l) := by
  rw [top, List.foldl_cons, foldl_max]; omega
theorem le_top {l : List Nat} : ∀ a ∈ l, a ≤ top l := by
  induction l with
  | nil => intro a h; cases h
  | cons b l ih =>
    intro a h
    rw [top_cons]
    rcases List.mem_cons.mp h with rfl | h
    · omega
    · have := ih a h; omega
theorem top_mem {l : List Nat} (h : top l ≠ 0) : top l ∈ l := by
  induction l with
  | nil => exact absurd rfl h
  | cons b l ih =>
    rw [top_cons] at h ⊢
    by_cases c : top l ≤ b
    · rw [Nat.max_eq_left c]; exact .head _
    · rw [Nat.max_eq_right (by omega)]; exact .tail _ (ih (by omega))
/-- the wagon at this place cannot go -/
noncomputable def Bad (w : List Nat) (i : Nat) : Prop := ∃ j i' x y z, j < i ∧ i < i' ∧ w[j]? = some z ∧ w[i]? = some x ∧ w[i']? = some y ∧ x < y ∧ y < z
theorem bad_iff {g r : List Nat} {k : Nat} : Bad (g ++ k :: r) g.length ↔ ∃ y ∈ r, k < y ∧ y < top g := by
  constructor
  · rintro ⟨j, i', x, y, z, h1, h2, h3, h4, h5, h6, h7⟩
    rw [List.getElem?_append_left h1] at h3
    rw [List.getElem?_append_right (Nat.le_refl _), Nat.sub_self] at h4
    rw [List.getElem?_append_right (by omega)] at h5
    obtain ⟨d, hd⟩ : ∃ d, i' - g.length = d + 1 := ⟨i' - g.length - 1, by omega⟩
    rw [hd] at h5
    simp at h4 h5
    subst h4
    have := le_top z (List.mem_of_getElem? h3)
    exact ⟨y, List.mem_of_getElem? h5, h6, by omega⟩
  · rintro ⟨y, hy, h1, h2⟩
    obtain ⟨d, hd⟩ := List.mem_iff_getElem?.mp hy
    obtain ⟨j, hj⟩ := List.mem_iff_getElem?.mp (top_mem (l := g) (by omega))
    have hjl : j < g.length := (List.getElem?_eq_some_iff.mp hj).1
    refine ⟨j, g.length + (d + 1), k, y, top g, hjl, by omega, ?_, ?_, ?_, h1, h2⟩
    · rw [List.getElem?_append_left hjl, hj]
    · rw [List.getElem?_append_right (Nat.le_refl _), Nat.sub_self]; rfl
    · rw [List.getElem?_append_right (by omega), show g.length + (d + 1) - g.length = d + 1 by omega]
      simpa using hd
/-- how the shunting ends -/
structure Ended (w : List Nat) (g sid com : List Nat) : Prop where
  pre : ∃ r, w = g ++ r ∧ (sid ++ com).Perm r
  up : Up (sid.reverse ++ com)
  low : ∀ a ∈ sid, a < top g
  high : ∀ a ∈ com, top g ≤ a
  good : ∀ i < g.length, ¬ Bad w i
  stop : g.length = w.length ∨ Bad w g.length
theorem shunt_ends (w : List Nat) : ∀ (r g sid com : List Nat), w = g ++ r → (sid ++ com).Perm r → Up (sid.reverse ++ com) → (∀ a ∈ sid, a < top g) → (∀ a ∈ com, top g ≤ a) → (∀ i < g.length, ¬ Bad w i) →
    ∃ g' sid' com', shunt r g sid com = some (g', sid', com') ∧ Ended w g' sid' com' ∧ g.length ≤ g'.length ∧ (r ≠ [] → g = [] → g' ≠ []) := by
  intro r
  induction r with
  | nil =>
    intro g sid com hw hp hu hl hh hg
    exact ⟨g, sid, com, rfl, ⟨⟨[], hw, hp⟩, hu, hl, hh, hg, .inl (by rw [hw]; simp)⟩, Nat.le_refl _, fun h => absurd rfl h⟩
  | cons k r ih =>
    intro g sid com hw hp hu hl hh hg
    have hk : k ∈ sid ++ com := hp.symm.subset (.head _)
    have hus := (List.pairwise_append.mp hu).1
    rw [List.pairwise_reverse] at hus
    -- the step when the wagon goes
    have go : ∀ sid' com', feed k sid com = some (k :: sid', com') → (k :: sid').reverse ++ com' = sid.reverse ++ com → (∀ a ∈ sid', a < max (top g) k) → (∀ a ∈ com', max (top g) k ≤ a) → ¬ Bad w g.length →
        ∃ g' sid'' com'', shunt (k :: r) g sid com = some (g', sid'', com'') ∧ Ended w g' sid'' com'' ∧ g.length ≤ g'.length ∧ (k :: r ≠ [] → g = [] → g' ≠ []) := by
      intro sid' com' hf he h1 h2 hb
      have hu' : Up ((k :: sid').reverse ++ com') := by rw [he]; exact hu
      have hsub : (sid'.reverse ++ com').Sublist ((k :: sid').reverse ++ com') := by
        simp only [List.reverse_cons, List.append_assoc]
        exact List.Sublist.append_left (List.sublist_append_right _ _) _
      have hp' : (sid' ++ com').Perm r := by
        have h3 : ((k :: sid') ++ com').Perm (sid ++ com) := by
          refine List.Perm.trans (List.Perm.append_right _ (List.reverse_perm _).symm) ?_
          rw [he]
          exact List.Perm.append_right _ (List.reverse_perm _)
        exact (List.perm_cons k).mp (h3.trans hp)
      obtain ⟨g', s'', c'', e1, e2, e3, _⟩ := ih (g ++ [k]) sid' com' (by rw [hw]; simp) hp' (hu'.sublist hsub) (by rw [top_snoc]; exact h1) (by rw [top_snoc]; exact h2) (by
        intro i hi
        rw [List.length_append, List.length_singleton] at hi
        rcases Nat.lt_succ_iff_lt_or_eq.mp hi with h | h
        · exact hg i h
        · rw [h]; exact hb)
      refine ⟨g', s'', c'', ?_, e2, by rw [List.length_append] at e3; omega, fun _ _ hn => ?_⟩
      · rw [shunt, hf]; simp only [Nat.lt_irrefl, if_false]; exact e1
      · rw [hn] at e3; simp at e3
    cases hb : below sid k with
    | true =>
      have hlt : ∀ a ∈ sid, a < k := by
        cases sid with
        | nil => intro a h; cases h
        | cons t s =>
          simp [below] at hb
          intro a ha
          rcases List.mem_cons.mp ha with rfl | ha
          · exact hb
          · have := List.rel_of_pairwise_cons hus ha
            omega
      have hkc : k ∈ com := by
        rcases List.mem_append.mp hk with h | h
        · exact absurd (hlt k h) (Nat.lt_irrefl _)
        · exact h
      have hkm := hh k hkc
      obtain ⟨sid', com', h1, h2, h3⟩ := feed_to com sid hu hb hkc
      have hm : max (top g) k = k := by omega
      refine go sid' com' h1 h2 (by rw [hm]; exact h3) (by
        rw [hm]
        intro a ha
        have hu' : Up ((k :: sid').reverse ++ com') := by rw [h2]; exact hu
        exact (List.pairwise_append.mp hu').2.2 k (by simp) a ha) ?_
      rw [hw, bad_iff]
      rintro ⟨y, _, h4, h5⟩
      omega
    | false =>
      cases sid with
      | nil => simp [below] at hb
      | cons t s =>
        simp [below] at hb
        have hf : feed k (t :: s) com = some (t :: s, com) := feed_stop (by simp [below]; exact hb)
        by_cases h : t = k
        · subst h
          have ht := hl t (.head _)
          have hm : max (top g) t = top g := by omega
          refine go s com hf rfl (by rw [hm]; exact fun a ha => hl a (.tail _ ha)) (by rw [hm]; exact hh) ?_
          rw [hw, bad_iff]
          rintro ⟨y, hy, h4, h5⟩
          have hy' : y ∈ (t :: s) ++ com := hp.symm.subset (.tail _ hy)
          rcases List.mem_append.mp hy' with h6 | h6
          · rcases List.mem_cons.mp h6 with h6 | h6
            · omega
            · have := List.rel_of_pairwise_cons hus h6; omega
          · have := hh y h6; omega
        · have hlt : k < t := by omega
          refine ⟨g, t :: s, com, by rw [shunt, hf]; simp [hlt], ⟨⟨k :: r, hw, hp⟩, hu, hl, hh, hg, .inr ?_⟩, Nat.le_refl _, fun _ hg0 => ?_⟩
          · rw [hw, bad_iff]
            have ht : t ∈ k :: r := hp.subset (List.mem_append_left _ (.head _))
            rcases List.mem_cons.mp ht with h6 | h6
            · omega
            · exact ⟨t, h6, hlt, hl t (.head _)⟩
          · have := hl t (.head _)
            rw [hg0] at this
            simp [top] at this
/-- the first place of a letter from a place on -/
noncomputable def findFrom (c : Nat) (w : List Nat) (b : Nat) : Option Nat := (List.range w.length).find? fun i => decide (b ≤ i) && w[i]? == some c
theorem findFrom_some {c : Nat} {w : List Nat} {b i : Nat} (h : findFrom c w b = some i) : b ≤ i ∧ w[i]? = some c ∧ ∀ j, b ≤ j → w[j]? = some c → i ≤ j := by
  unfold findFrom at h
  have h1 := List.find?_some h
  simp at h1
  refine ⟨h1.1, h1.2, fun j hj hc => ?_⟩
  have hjl : j < w.length := (List.getElem?_eq_some_iff.mp hc).1
  rw [List.find?_range_eq_some] at h
  rcases Nat.lt_or_ge j i with hlt | hge
  · have := h.2.2 j hlt
    simp [hj, hc] at this
  · exact hge
theorem findFrom_none {c : Nat} {w : List Nat} {b : Nat} (h : findFrom c w b = none) : ∀ j, b ≤ j → w[j]? ≠ some c := by
  intro j hj hc
  have hjl : j < w.length := (List.getElem?_eq_some_iff.mp hc).1
  unfold findFrom at h
  rw [List.find?_eq_none] at h
  have := h j (List.mem_range.mpr hjl)
  simp [hj, hc] at this
/-- the second place that the pattern *z*x*y* finds -/
noncomputable def second (w : List Nat) (t : Nat × Nat × Nat) : Option Nat :=
  match findFrom t.2.2 w 0 with
  | none => none
  | some pz => match findFrom t.1 w (pz + 1) with
    | none => none
    | some px => match findFrom t.2.1 w (px + 1) with
      | none => none
      | some _ => some px
theorem second_bad {w : List Nat} {x y z px : Nat} (hxy : x < y) (hyz : y < z) (h : second w (x, y, z) = some px) : Bad w px := by
  unfold second at h
  cases hz : findFrom z w 0 with
  | none => simp [hz] at h
  | some pz =>
    cases hx : findFrom x w (pz + 1) with
    | none => simp [hz, hx] at h
    | some p =>
      cases hy : findFrom y w (p + 1) with
      | none => simp [hz, hx, hy] at h
      | some py =>
        simp [hz, hx, hy] at h
        subst h
        obtain ⟨a1, a2, _⟩ := findFrom_some hz
        obtain ⟨b1, b2, _⟩ := findFrom_some hx
        obtain ⟨c1, c2, _⟩ := findFrom_some hy
        exact ⟨pz, py, x, y, z, by omega, by omega, a2, b2, c2, hxy, hyz⟩
theorem bad_second {w : List Nat} {i : Nat} (h : Bad w i) : ∃ x y z px, x ∈ w ∧ z ∈ w ∧ x < y ∧ y < z ∧ second w (x, y, z) = some px ∧ px ≤ i := by
  obtain ⟨j, i', x, y, z, h1, h2, h3, h4, h5, h6, h7⟩ := h
  refine ⟨x, y, z, ?_⟩
  cases hz : findFrom z w 0 with
  | none => exact absurd h3 (findFrom_none hz j (Nat.zero_le _))
  | some pz =>
    obtain ⟨a1, a2, a3⟩ := findFrom_some hz
    have := a3 j (Nat.zero_le _) h3
    cases hx : findFrom x w (pz + 1) with
    | none => exact absurd h4 (findFrom_none hx i (by omega))
    | some px =>
      obtain ⟨b1, b2, b3⟩ := findFrom_some hx
      have := b3 i (by omega) h4
      cases hy : findFrom y w (px + 1) with
      | none => exact absurd h5 (findFrom_none hy i' (by omega))
      | some py => exact ⟨px, List.mem_of_getElem? h4, List.mem_of_getElem? h3, h6, h7, by unfold second; simp only [hz, hx, hy], by omega⟩
/-- the three kinds, in the order of the law's list -/
noncomputable def threes : List (Nat × Nat × Nat) := [(97, 98, 99), (97, 98, 100), (97, 99, 100), (98, 99, 100), (97, 98, 101), (97, 99, 101), (98, 99, 101), (97, 100, 101), (98, 100, 101), (99, 100, 101)]
theorem threes_lt : ∀ t ∈ threes, t.1 < t.2.1 ∧ t.2.1 < t.2.2 := by decide
theorem threes_all {x y z : Nat} (hx : 97 ≤ x) (h1 : x < y) (h2 : y < z) (hz : z ≤ 101) : (x, y, z) ∈ threes := by
  have : x = 97 ∨ x = 98 ∨ x = 99 := by omega
  have : y = 98 ∨ y = 99 ∨ y = 100 := by omega
  have : z = 99 ∨ z = 100 ∨ z = 101 := by omega
  rcases ‹x = _ ∨ _› with rfl | rfl | rfl <;> rcases ‹y = _ ∨ _› with rfl | rfl | rfl <;> rcases ‹z = _ ∨ _› with rfl | rfl | rfl <;> first | omega | decide
noncomputable def endsOf (w : List Nat) (ts : List (Nat × Nat × Nat)) : List Nat := w.length :: ts.filterMap (second w)
/-- where the row ends -/
theorem end_is {w g sid com : List Nat} (hl : ∀ a ∈ w, 97 ≤ a ∧ a ≤ 101) (h : Ended w g sid com) {e : Nat} (he : e ∈ endsOf w threes) (hm : ∀ a ∈ endsOf w threes, e ≤ a) : g = w.take e := by
  obtain ⟨r, hr, _⟩ := h.pre
  have hgl : g.length ≤ w.length := by rw [hr, List.length_append]; omega
  have h1 : g.length ≤ e := by
    rcases List.mem_cons.mp he with rfl | h'
    · exact hgl
    · obtain ⟨t, ht, hs⟩ := List.mem_filterMap.mp h'
      obtain ⟨a, b⟩ := threes_lt t ht
      have hb : Bad w e := second_bad a b hs
      rcases Nat.lt_or_ge e g.length with hlt | hge
      · exact absurd hb (h.good e hlt)
      · exact hge
  have h2 : e ≤ g.length := by
    rcases h.stop with hs | hs
    · rw [hs]; exact hm _ (.head _)
    · obtain ⟨x, y, z, px, a, b, c, d, e1, e2⟩ := bad_second hs
      have := hm px (.tail _ (List.mem_filterMap.mpr ⟨(x, y, z), threes_all (hl x a).1 c d (hl z b).2, e1⟩))
      omega
  have : e = g.length := by omega
  rw [this, hr, List.take_left']
  rfl
/-- what the list difference leaves: the rows are taken from behind -/
noncomputable def diff : List Nat → List Nat → List Nat × List Nat
  | [], act => ([], act)
  | x :: r, act => if x ∈ act then diff r (act.erase x) else (x :: (diff r act).1, (diff r act).2)
theorem diff_count (c : Nat) : ∀ (ex act : List Nat), ((diff ex act).1.count c + act.count c = ex.count c + (diff ex act).2.count c) ∧ (diff ex act).2.count c = act.count c - ex.count c := by
  intro ex
  induction ex with
  | nil => intro act; simp [diff]
  | cons x r ih =>
    intro act
    rw [diff]
    split
    · rename_i h
      obtain ⟨h1, h2⟩ := ih (act.erase x)
      rw [List.count_erase] at h1 h2
      rw [List.count_cons]
      by_cases hc : x = c
      · subst hc
        have : 0 < act.count x := List.count_pos_iff.mpr h
        simp at h1 h2 ⊢
        omega
      · have hb : (x == c) = false := by simp [hc]
        simp [hb] at h1 h2 ⊢
        omega
    · rename_i h
      obtain ⟨h1, h2⟩ := ih act
      rw [List.count_cons, List.count_cons]
      by_cases hc : x = c
      · subst hc
        have : act.count x = 0 := List.count_eq_zero.mpr h
        simp
        omega
      · have hb : (x == c) = false := by simp [hc]
        simp [hb]
        omega
theorem diff_sub : ∀ (ex act : List Nat), (diff ex act).1.Sublist ex := by
  intro ex
  induction ex with
  | nil => intro act; exact .slnil
  | cons x r ih =>
    intro act
    rw [diff]
    split
    · exact (ih _).cons _
    · exact (ih _).cons_cons _
/-- the law's last words -/
theorem diff_is {w g sid com all : List Nat} (h : Ended w g sid com) (hp : all.Perm w) (hu : Up all) : (diff all.reverse g).2 = [] ∧ (diff all.reverse g).1.reverse = sid.reverse ++ com := by
  obtain ⟨r, hr, hq⟩ := h.pre
  have hc : ∀ c, all.reverse.count c = g.count c + r.count c := fun c => by
    rw [List.count_reverse, hp.count_eq, hr, List.count_append]
  constructor
  · rw [List.eq_nil_iff_forall_not_mem]
    intro c hm
    have h0 : 0 < (diff all.reverse g).2.count c := List.count_pos_iff.mpr hm
    rw [(diff_count c _ _).2, hc] at h0
    omega
  · refine List.Perm.eq_of_pairwise (le := (· ≤ ·)) (fun a b _ _ => Nat.le_antisymm) ?_ h.up ?_
    · rw [List.pairwise_reverse]
      refine List.Pairwise.sublist (diff_sub _ _) ?_
      rw [List.pairwise_reverse]
      exact hu
    · refine List.perm_iff_count.mpr fun c => ?_
      have h1 := (diff_count c all.reverse g).1
      have h2 := (diff_count c all.reverse g).2
      rw [hc] at h1 h2
      have h3 := hq.count_eq c
      rw [List.count_append] at h3
      rw [List.count_reverse, List.count_append, List.count_reverse]
      omega
theorem low_is {w g sid com : List Nat} (h : Ended w g sid com) : (sid.reverse ++ com).filter (fun a => decide (a < top g)) = sid.reverse := by
  rw [List.filter_append]
  rw [List.filter_eq_self.mpr (fun a ha => by simpa using h.low a (by simpa using ha)), List.filter_eq_nil_iff.mpr (fun a ha => by simpa using h.high a ha)]
  simp
theorem high_is {w g sid com : List Nat} (h : Ended w g sid com) : (sid.reverse ++ com).filter (fun a => decide (top g ≤ a)) = com := by
  rw [List.filter_append]
  rw [List.filter_eq_nil_iff.mpr (fun a ha => by simpa using h.low a (by simpa using ha)), List.filter_eq_self.mpr (fun a ha => by simpa using h.high a ha)]
  simp
/-- the shunting of a whole row -/
theorem shunt_row {w all : List Nat} (hne : w ≠ []) (hp : all.Perm w) (hu : Up all) : ∃ g sid com, shunt w [] [] all = some (g, sid, com) ∧ Ended w g sid com ∧ g ≠ [] := by
  obtain ⟨g, sid, com, h1, h2, _, h3⟩ := shunt_ends w w [] [] all rfl (by simpa using hp) (by simpa using hu) (fun a h => nomatch h) (fun a _ => by simp [top]) (fun i h => nomatch h)
  exact ⟨g, sid, com, h1, h2, h3 hne rfl⟩
end Mine
end
section
namespace Mine
/-- one held group of the pattern's text, for each letter -/
noncomputable def grp (cs : List Nat) : List Nat := cs.flatMap fun c => [40, 63, 62, 46, 42, 63, c, 41]
noncomputable def patL (cs : List Nat) : List Nat := [40, 63, 115, 58] ++ (grp cs ++ [46, 42, 41, 92, 90])
noncomputable def places (w : List Nat) : List Nat → Nat → Option (List Nat)
  | [], _ => some []
  | c :: cs, b => match findFrom c w b with
    | none => none
    | some i => (places w cs (i + 1)).map (i :: ·)
theorem places_second (w : List Nat) (x y z : Nat) : (((places w [z, x, y] 0).getD []).drop 1).take 1 = (second w (x, y, z)).toList := by
  unfold second
  simp only [places]
  cases findFrom z w 0 with
  | none => rfl
  | some pz =>
    dsimp only
    cases findFrom x w (pz + 1) with
    | none => rfl
    | some px =>
      dsimp only
      cases findFrom y w (px + 1) with
      | none => rfl
      | some py => rfl
theorem slice_nat (l : List Nat) {a b : Nat} (hab : a ≤ b) (hb : b ≤ l.length) : Txt.slice (tS l) (some (a : Int)) (some (b : Int)) = tS ((l.drop a).take (b - a)) := by
  have h := StrLaws.sliceText_nat (tS l) hab (by rw [len_tS]; exact hb)
  exact h
theorem slice_neg {x : Str} {i : Option Int} {k : Nat} (h0 : 0 < k) (hk : k ≤ x.length) : Txt.slice x i (some (-(k : Int))) = Txt.slice x i (some ((x.length - k : Nat) : Int)) := by
  have e : Builtin.Str.strSliceIndices i (some (-(k : Int))) 1 x.length = Builtin.Str.strSliceIndices i (some ((x.length - k : Nat) : Int)) 1 x.length := by
    have h1 : (-(k : Int)) < 0 := by omega
    have h2 : ¬ (((x.length - k : Nat) : Int) < 0) := by omega
    have h3 : -(k : Int) + (x.length : Int) = ((x.length - k : Nat) : Int) := by omega
    unfold Builtin.Str.strSliceIndices
    simp only [h1, if_true, h2, if_false, h3]
  unfold Txt.slice
  rw [e]
theorem slice_to {x : Str} {u : Int} : Txt.slice x none (some u) = Txt.slice x (some 0) (some u) := by
  have e := StrLaws.sliceIdx_none_lo (some u) x.length
  unfold Txt.slice
  rw [e]
theorem slice_pat (cs : List Nat) : Txt.slice (tS (patL cs)) (some 4) (some (-5)) = tS (grp cs) := by
  have hl : (tS (patL cs)).length = (grp cs).length + 9 := by rw [len_tS]; simp [patL]
  have h := slice_neg (x := tS (patL cs)) (i := some 4) (k := 5) (by decide) (by omega)
  have h2 := slice_nat (patL cs) (a := 4) (b := (tS (patL cs)).length - 5) (by omega) (by rw [len_tS] at hl ⊢; omega)
  refine h.trans (h2.trans ?_)
  rw [hl]
  simp [patL]
theorem grp_cons (c : Nat) (cs : List Nat) : grp (c :: cs) = 40 :: 63 :: 62 :: 46 :: 42 :: 63 :: c :: 41 :: grp cs := rfl
theorem grp_head (c : Nat) (cs : List Nat) : Txt.slice (tS (grp (c :: cs))) none (some 6) = tS [40, 63, 62, 46, 42, 63] := by
  rw [slice_to]
  exact (slice_nat (grp (c :: cs)) (a := 0) (b := 6) (by decide) (by rw [grp_cons]; simp)).trans rfl
theorem grp_tail (c : Nat) (cs : List Nat) : Txt.slice (tS (grp (c :: cs))) (some 7) (some 8) = tS [41] :=
  (slice_nat (grp (c :: cs)) (a := 7) (b := 8) (by decide) (by rw [grp_cons]; simp)).trans rfl
theorem grp_rest (c : Nat) (cs : List Nat) : Txt.slice (tS (grp (c :: cs))) (some 8) none = tS (grp cs) := by
  rw [slice_from_eq (b := (((grp (c :: cs)).length : Nat) : Int)) (by decide) (by rw [len_tS, grp_cons]; simp; omega) (by rw [len_tS])]
  rw [List.take_of_length_le (by simp [tS]; omega)]
  rfl
theorem item_at {l : List Nat} {k : Nat} {c : Nat} (h : l[k]? = some c) : Txt.item (tS l) (k : Int) = ch c := by
  have hk : k < l.length := (List.getElem?_eq_some_iff.mp h).1
  have hc : Txt.charAt (tS l) (k : Int) = some c := by
    unfold Txt.charAt
    rw [StrLaws.seqIndex_nonneg (by omega) (by rw [len_tS]; omega)]
    simpa [tS] using h
  rw [Txt.item, hc]; rfl
theorem grp_item (c : Nat) (cs : List Nat) : Txt.item (tS (grp (c :: cs))) 6 = ch c := item_at (k := 6) (by rw [grp_cons]; rfl)
theorem grp_word : (tS [40, 63, 62, 46, 42, 63] ++ tS [41] : Str) = Str.ofString "(?>.*?)" := by decide +kernel
theorem grp_none : tS (grp []) = Str.ofString "" := by decide +kernel
theorem grp_some (c : Nat) (cs : List Nat) : tS (grp (c :: cs)) ≠ Str.ofString "" := by
  intro h
  have := congrArg (fun s : Str => s.cps.size) h
  rw [show (Str.ofString "").cps.size = 0 by decide +kernel] at this
  simp [tS, grp_cons] at this
theorem fromIndex_nat {n b : Nat} : fromIndex n (b : Int) = b := by
  unfold fromIndex
  rw [if_neg (by omega)]
  omega
end Mine
namespace Mine
theorem find_some {w : List Nat} {c b i : Nat} (h : findFrom c w b = some i) : Txt.find3 (tS w) (ch c) (b : Int) = (i : Int) := by
  obtain ⟨h1, h2, h3⟩ := findFrom_some h
  have hl := len_tS w
  have hi : i < w.length := (List.getElem?_eq_some_iff.mp h2).1
  have hg : ∀ k, k < w.length → ((tS w).cps.getD k 0 = c ↔ w[k]? = some c) := fun k hk => by
    simp [tS, hk]
  rcases StrLaws.find3_spec (tS w) c (b : Int) with ⟨e, hn⟩ | ⟨k, e, k1, k2, k3, k4⟩
  · exact absurd ((hg i hi).mpr h2) (hn i (by rw [fromIndex_nat]; exact h1) (by omega))
  · rw [fromIndex_nat] at k1 k4
    rw [hl] at k2
    have a1 := h3 k k1 ((hg k k2).mp k3)
    have a2 : ¬ i < k := fun hlt => k4 i h1 hlt ((hg i hi).mpr h2)
    rw [e]
    have : k = i := by omega
    rw [this]
theorem find_none {w : List Nat} {c b : Nat} (h : findFrom c w b = none) : Txt.find3 (tS w) (ch c) (b : Int) = -1 := by
  have hl := len_tS w
  have hg : ∀ k, k < w.length → ((tS w).cps.getD k 0 = c ↔ w[k]? = some c) := fun k hk => by
    simp [tS, hk]
  rcases StrLaws.find3_spec (tS w) c (b : Int) with ⟨e, hn⟩ | ⟨k, e, k1, k2, k3, k4⟩
  · exact e
  · rw [fromIndex_nat] at k1
    rw [hl] at k2
    exact absurd ((hg k k2).mp k3) (findFrom_none h k k1)
end Mine
namespace Mine
theorem len_grp (cs : List Nat) : (grp cs).length = 8 * cs.length := by
  induction cs with
  | nil => rfl
  | cons c cs ih => rw [grp_cons]; simp only [List.length_cons, ih]; omega
theorem len_patL (cs : List Nat) : (patL cs).length = 8 * cs.length + 9 := by
  simp [patL, len_grp]
end Mine
namespace Mine
noncomputable abbrev tup3 (a : Str) (ta : Tok) (b : Str) (tb : Tok) (c : Str) (tc : Tok) : Obj := { cls := .type "tuple", data := .seq [Value.str a ta, Value.str b tb, Value.str c tc].toArray }
end Mine
end
section
namespace Mine
theorem ints_snoc {vs : List Value} {l : List Int} {k : Int} {t : Tok} (h : IntsAre vs l) : IntsAre (vs ++ [.int k t]) (l ++ [k]) := by
  induction h with
  | nil => exact .cons _ _ .nil
  | cons n t _ ih => exact .cons _ _ ih
noncomputable abbrev mP (D : Addr) (t : Str) (tt : Tok) (r : Str) (tr : Tok) (b : Int) (tb : Tok) (g : Str) (tg : Tok) (bm : Str → Option Value) : Str → Option Value := fun z =>
  if z = Str.ofString "groups" then some (.str g tg) else if z = Str.ofString "behind" then some (.int b tb) else if z = Str.ofString "places" then some (.ref D) else if z = Str.ofString "row" then some (.str r tr) else if z = Str.ofString "text" then some (.str t tt) else bm z
theorem mP_of {D : Addr} {t r g : Str} {tt tr tb tg : Tok} {b : Int} {bm : Str → Option Value} (h0 : bm (Str.ofString "text") = some (.str t tt)) (h1 : bm (Str.ofString "row") = some (.str r tr)) (h2 : bm (Str.ofString "places") = some (.ref D)) (h3 : bm (Str.ofString "behind") = some (.int b tb)) (h4 : bm (Str.ofString "groups") = some (.str g tg)) :
    bm = mP D t tt r tr b tb g tg bm := by
  funext z
  simp only [mP]
  split
  · rename_i h; rw [h, h4]
  · split
    · rename_i h; rw [h, h3]
    · split
      · rename_i h; rw [h, h2]
      · split
        · rename_i h; rw [h, h1]
        · split
          · rename_i h; rw [h, h0]
          · rfl
noncomputable abbrev asInts (l : List Nat) : List Int := l.map fun (i : Nat) => (i : Int)
noncomputable def PlJ (row : List Nat) (D : Addr) (rest : List (Addr × Obj)) (all : Option (List Nat)) (n : Nat) (m : Str → Option Value) (nw : List (Addr × Obj)) : Prop :=
  ∃ cs b acc vs nn t, n = cs.length ∧ b ≤ row.length ∧ acc.length + cs.length ≤ 10 ∧ all = (places row cs b).map (acc ++ ·) ∧ IntsAre vs (asInts acc) ∧
    (∃ u, m (Str.ofString "text") = some (.str t u)) ∧ (∃ u, m (Str.ofString "row") = some (.str (tS row) u)) ∧ m (Str.ofString "places") = some (.ref D) ∧ (∃ u, m (Str.ofString "behind") = some (.int b u)) ∧ (∃ u, m (Str.ofString "groups") = some (.str (tS (grp cs)) u)) ∧
    nw = (D, listOf vs.toArray nn) :: rest
section
variable {prog : Program} {w : World} {A : Around} {E : Value → Shared → Prop} {Q : Flow → Shared → Prop} {s : Shared} {env : Env} {h₀ : Heap}
theorem pl_loop {row cs : List Nat} {D : Addr} {rest : List (Addr × Obj)} {nn : Nat} {test : Expr} {body : List Stmt} {pos : Pos} {m : Str → Option Value} {t : Str}
    (F : Fr h₀ env.locals s.heap m) (N : News h₀ env.locals s.heap ((D, listOf #[] nn) :: rest)) (hcs : cs.length ≤ 10)
    (h0 : ∃ u, m (Str.ofString "text") = some (.str t u)) (h1 : ∃ u, m (Str.ofString "row") = some (.str (tS row) u)) (h2 : m (Str.ofString "places") = some (.ref D)) (h3 : ∃ u, m (Str.ofString "behind") = some (.int 0 u)) (h4 : ∃ u, m (Str.ofString "groups") = some (.str (tS (grp cs)) u))
    (turn : Held (∀ n m₁ news₁ h₁ tk₁, Fr h₀ env.locals h₁ m₁ → News h₀ env.locals h₁ news₁ → PlJ row D rest (places row cs 0) n m₁ news₁ →
      wpAny (model prog w) A (isTrue test env (eval test env)) (fun b s₂ =>
        if b = true then wpAny (model prog w) A (execs body env) (WhileStep2 h₀ env.locals s (PlJ row D rest (places row cs 0)) Q n) E s₂ else Q .next s₂) E { s with heap := h₁, toks := tk₁ }))
    (hE : PassesOwn (model prog w) A env E := by passes_own) : wpAny (model prog w) A (exec (.While test body [] pos) env) Q E s :=
  While_inv2 (PlJ row D rest (places row cs 0)) F N ⟨cs, 0, [], [], nn, t, rfl, Nat.zero_le _, by simpa using hcs, by simp, .nil, h0, h1, h2, h3, h4, rfl⟩ turn hE
theorem pl_next {s₃ : Shared} {h' : Heap} {L D : Addr} {row cs acc : List Nat} {b c i tk nn n : Nat} {vs : List Value} {u : Tok} {rest : List (Addr × Obj)} {m : Str → Option Value} {all : Option (List Nat)} {t : Str}
    (F : Fr h₀ L h' m) (N : News h₀ L h' ((D, listOf (vs.toArray.push (Value.int ((i : Int) + 1 - 1) u)) nn) :: rest)) (hn : n = (c :: cs).length) (hi : i + 1 ≤ row.length) (hz : acc.length + (c :: cs).length ≤ 10) (hall : all = (places row (c :: cs) b).map (acc ++ ·)) (hf : findFrom c row b = some i) (hv : IntsAre vs (asInts acc))
    (h0 : ∃ u, m (Str.ofString "text") = some (.str t u)) (h1 : ∃ u, m (Str.ofString "row") = some (.str (tS row) u)) (h2 : m (Str.ofString "places") = some (.ref D)) (h3 : ∃ u, m (Str.ofString "behind") = some (.int ((i : Int) + 1) u)) (h4 : ∃ u, m (Str.ofString "groups") = some (.str (tS (grp cs)) u))
    (e : s₃ = { s with heap := h', toks := tk }) : WhileStep2 h₀ L s (PlJ row D rest all) Q n .next s₃ := by
  have e1 : (i : Int) + 1 - 1 = (i : Int) := by omega
  have e2 : (vs.toArray.push (Value.int ((i : Int) + 1 - 1) u)) = (vs ++ [Value.int (i : Int) u]).toArray := by rw [e1]; simp
  rw [e2] at N
  refine ⟨h', tk, m, _, cs.length, e, F, N, by rw [hn]; simp, cs, i + 1, acc ++ [i], vs ++ [Value.int (i : Int) u], nn, t, rfl, hi, by simp at hz ⊢; omega, ?_, ?_, h0, h1, h2, h3, h4, rfl⟩
  · rw [hall, places, hf]
    dsimp only
    rw [Option.map_map]
    congr 1
    funext l
    simp
  · have := ints_snoc (k := (i : Int)) (t := u) hv
    simpa [asInts] using this
end
end Mine
local macro_rules | `(tactic| walk_at "storeName") => `(tactic| (k_here; rw [Mine.slice_pat]))
local macro_rules | `(tactic| walk_at "storeName") => `(tactic| (k_here; rw [Mine.grp_rest]))
local macro_rules | `(tactic| walk_at "binaryOp Add int int") => `(tactic| (k_here; (rename Txt.find3 _ _ _ = _ => hfd9); rw [Mine.grp_item, hfd9]))
local macro_rules | `(tactic| walk_at "compareOp NotEq str str") => `(tactic| (k_here; rw [Mine.grp_head, Mine.grp_tail, Mine.grp_word]))
local macro_rules | `(tactic| walk_at "exec While") => `(tactic| (k_here; (rename Fr _ _ _ _ => lF'); (rename News _ _ _ _ => lN'); (with_unfolding_all refine Mine.pl_loop lF' lN' (by assumption) ⟨_, rfl⟩ ⟨_, rfl⟩ rfl ⟨_, rfl⟩ ⟨_, rfl⟩ ?_); clear lF' lN'))
namespace Mine
section
variable {w : World} {p : Program} {loose : List Str} {mean : ExcName → Option Value} {mg mb : Str → Option Value}
  {dp un : Nat} {gd : Option (List Code)} {cn : Str} {cs : Scope} {a : Addr} {ccd : Value} {cl : List (Str × Addr)} {outer : List Env} {A₀ : Around} {base h₀ : Heap} {L : Addr} {m : Str → Option Value} {s : Shared} {Q E : Value → Shared → Prop}
theorem c_places {kd : List Nat} {row : List Nat} {tx ty : Tok} {news : List (Addr × Obj)} (C : Cx w p loose mean mg mb dp un cs outer A₀ base h₀ L m s.heap) (N : News h₀ L s.heap news) (hcs : kd.length ≤ 10) (hrow : row.length ≤ 50)
    (hret : ∀ (D : Addr) (vs : List Value) (nn : Nat) (h' : Heap) (tk' : Nat), IntsAre vs (asInts ((places row kd 0).getD [])) → vs.length ≤ 10 → (∀ p ∈ news, p.1 < D) → Fr h₀ L h' m → News h₀ L h' ((D, listOf vs.toArray nn) :: news) → Q (.ref D) { s with heap := h', toks := tk' }) :
    wpAny (model PySem.Challenge.rw_ik0116_01.row.prog w) (ktrTop dp un gd cn cs L a ccd cl outer) (call (.ref 195) [.str (tS (patL kd)) tx, .str (tS row) ty]) Q E s := by
  obtain ⟨B, F, X, T, hkd, hdp, hun⟩ := C
  have hsz : (tS (patL kd)).length ≤ 200 := by rw [len_tS, len_patL]; omega
  revert X; k_fill; intro X
  refine wpAny_call ?_; k_dflt cell_enter
  k_steps
  unfold Held
  intro n m₁ nw₁ h₁ tk₁ F N hJ
  dsimp only [envOf] at F N
  obtain ⟨cs₁, b, acc, vs, nn, t, hn, hb, hz, hall, hv, ⟨u0, h0⟩, ⟨u1, h1⟩, h2, ⟨u3, h3⟩, ⟨u4, h4⟩, rfl⟩ := hJ
  rw [mP_of h0 h1 h2 h3 h4] at F
  clear h0 h1 h2 h3 h4
  have hsz1 : (tS (grp cs₁)).length ≤ 200 := by rw [len_tS, len_grp]; omega
  have hsr : (tS row).length ≤ 50 := by rw [len_tS]; exact hrow
  have hlv : vs.toArray.size ≤ 10 := by
    have := hv.length
    simp [asInts] at this ⊢
    omega
  cases cs₁ with
  | nil =>
    rw [grp_none] at F
    k_steps
    rename_i kF kN _ _
    refine hret _ vs nn _ _ ?_ (by simpa using hlv) (by assumption) kF kN
    rw [hall]
    simpa [places] using hv
  | cons c cs₁ =>
    have hne := grp_some c cs₁
    have hl8 : (tS (grp (c :: cs₁))).length = 8 * cs₁.length + 8 := by rw [len_tS, len_grp]; rfl
    cases hf : findFrom c row b with
    | none =>
      have hfd := find_none hf
      k_steps
      · unfold WhileStep2
        dsimp only
        k_steps
        rename_i kF kN _ _
        refine hret _ [] 0 _ _ ?_ (by simp) ?_ kF (cb_drop kN ?_)
        · rw [hall, places, hf]; exact .nil
        · exact fun p hp => allLt_mem (show _ ∧ AllLt _ _ from by assumption).2 p hp
        · intro p hp
          rcases List.mem_cons.mp hp with rfl | hp
          · exact .head _
          · exact .tail _ (.tail _ hp)
      · exfalso; simp_all
    | some i =>
      have hfd := find_some hf
      have hi := (List.getElem?_eq_some_iff.mp (findFrom_some hf).2.1).1
      k_steps
      · exfalso; omega
      · (rename Fr _ _ _ _ => lF)
        (rename News _ _ _ _ => lN)
        exact pl_next lF lN hn (by omega) hz hall hf hv ⟨_, rfl⟩ ⟨_, rfl⟩ rfl ⟨_, rfl⟩ ⟨_, rfl⟩ rfl
      · exfalso; simp_all
end
end Mine
end
section
namespace Mine
noncomputable abbrev tPos (a b : Nat) : Pos := { line := 183, col := a, endLine := 183, endCol := b }
noncomputable abbrev tScope : Scope := { kind := .function, names := [(Str.ofString ".0", .local), (Str.ofString "high", .local), (Str.ofString "middle", .local), (Str.ofString "low", .local)], isGenerator := false, isCoroutine := false }
noncomputable abbrev tElt : Expr := Expr.Tuple [Expr.Name (Str.ofString "low") (tPos 13 16), Expr.Name (Str.ofString "middle") (tPos 18 24), Expr.Name (Str.ofString "high") (tPos 26 30)] 0 (tPos 12 31)
noncomputable abbrev tM : Expr := Expr.Compare (Expr.Name (Str.ofString "middle") (tPos 73 79)) [CmpOp.Lt] [Expr.Name (Str.ofString "high") (tPos 82 86)] (tPos 73 86)
noncomputable abbrev tL : Expr := Expr.Compare (Expr.Name (Str.ofString "low") (tPos 107 110)) [CmpOp.Lt] [Expr.Name (Str.ofString "middle") (tPos 113 119)] (tPos 107 119)
noncomputable abbrev tC (n : String) (a b c d : Nat) (x : String) (k : Nat) (ifs : List Expr) : Comprehension := { target := Expr.Name (Str.ofString n) (tPos a b), iter := Expr.Constant (Const.str (Str.ofString x)) k (tPos c d), ifs := ifs, is_async := 0 }
noncomputable abbrev e3 (k1 k2 k3 : Nat) : Expr := Expr.ListComp tElt [tC "high" 36 40 44 49 "cde" k1 [], tC "middle" 54 60 64 69 "bcd" k2 [tM], tC "low" 91 94 98 103 "abc" k3 [tL]] tScope (tPos 11 120)
inductive Trips : List (Addr × Obj) → List (Nat × Nat × Nat) → Prop
  | nil : Trips [] []
  | cons {T : Addr} {a b c : Nat} {ta tb tc : Tok} {ts : List (Addr × Obj)} {l : List (Nat × Nat × Nat)} : Trips ts l → Trips ((T, tup3 (ch a) ta (ch b) tb (ch c) tc) :: ts) ((a, b, c) :: l)
theorem Trips.append {ts ts' : List (Addr × Obj)} {l l' : List (Nat × Nat × Nat)} (h : Trips ts l) (h' : Trips ts' l') : Trips (ts ++ ts') (l ++ l') := by
  induction h with
  | nil => exact h'
  | cons _ ih => exact .cons ih
theorem Trips.length {ts : List (Addr × Obj)} {l : List (Nat × Nat × Nat)} (h : Trips ts l) : ts.length = l.length := by
  induction h with
  | nil => rfl
  | cons _ ih => simp [ih]
theorem Trips.cls {ts : List (Addr × Obj)} {l : List (Nat × Nat × Nat)} (h : Trips ts l) : ∀ p ∈ ts, p.2.cls = .type "tuple" := by
  induction h with
  | nil => intro p hp; cases hp
  | cons _ ih =>
    intro p hp
    rcases List.mem_cons.mp hp with rfl | hp
    · rfl
    · exact ih p hp
structure Ex (C D : Addr) (xs : List Str) (h : Heap) (m : Str → Option Value) (ys : List Value) (h' : Heap) (m' : Str → Option Value) (ys' : List Value) (add : List (Nat × Nat × Nat)) : Prop where
  keep : ∀ b o, b ≠ C → b ≠ D → h.get? b = some o → h'.get? b = some o
  ns : h'.Ns C m'
  nm : ∀ x ∈ xs, m' x = m x
  dd : ∃ n, h'.get? D = some (listOf ys'.toArray n)
  tr : ∃ ts : List (Addr × Obj), ys' = ys ++ ts.map (fun p => Value.ref p.1) ∧ Trips ts add ∧ ∀ p ∈ ts, h'.get? p.1 = some p.2 ∧ p.1 ≠ C ∧ p.1 ≠ D ∧ h.get? p.1 = none
theorem Ex.trans {C D : Addr} {xs : List Str} {h h₁ h₂ : Heap} {m m₁ m₂ : Str → Option Value} {ys ys₁ ys₂ : List Value} {a b : List (Nat × Nat × Nat)} (x : Ex C D xs h m ys h₁ m₁ ys₁ a) (y : Ex C D xs h₁ m₁ ys₁ h₂ m₂ ys₂ b) : Ex C D xs h m ys h₂ m₂ ys₂ (a ++ b) := by
  obtain ⟨ts, e, t, r⟩ := x.tr
  obtain ⟨ts', e', t', r'⟩ := y.tr
  refine ⟨fun c o hc hd e => y.keep c o hc hd (x.keep c o hc hd e), y.ns, fun z hz => (y.nm z hz).trans (x.nm z hz), y.dd, ts ++ ts', by rw [e', e]; simp, t.append t', fun p hp => ?_⟩
  rcases List.mem_append.mp hp with hp | hp
  · obtain ⟨r1, r2, r3, r4⟩ := r p hp
    exact ⟨y.keep _ _ r2 r3 r1, r2, r3, r4⟩
  · obtain ⟨r1, r2, r3, r4⟩ := r' p hp
    refine ⟨r1, r2, r3, ?_⟩
    cases e : h.get? p.1 with
    | none => rfl
    | some o => rw [x.keep _ _ r2 r3 e] at r4; cases r4
theorem Ex.sub {C D : Addr} {xs xs' : List Str} {h h₁ : Heap} {m m₁ : Str → Option Value} {ys ys₁ : List Value} {a : List (Nat × Nat × Nat)} (x : Ex C D xs h m ys h₁ m₁ ys₁ a) (hs : ∀ z ∈ xs', z ∈ xs) : Ex C D xs' h m ys h₁ m₁ ys₁ a :=
  ⟨x.keep, x.ns, fun z hz => x.nm z (hs z hz), x.dd, x.tr⟩
section
variable {prog : Program} {w : World} {A : Around} {R : Result → Shared → Prop} {s : Shared}
theorem lvl {e : Expr} {d : Nat} {cenv : Env} {I C D : Addr} {acc : Value} {ip : Pos} {l : List Nat} {t : Tok} {T : String} {xs : List Str} {hb : Heap} {m₀ m : Str → Option Value} {ys₀ ys : List Value} (rest : Value → Sem Fin) (f : Nat → List (Nat × Nat × Nat))
    (hgen : (Code.compLoop e d (.ref I) acc cenv).quiet = true) (hA : ∀ (Q : Fin → Shared → Prop) (E : Value → Shared → Prop) (s : Shared), wpAny (model prog w) A (compTurn e d (.ref I) acc cenv) Q (notedBy (model prog w) A cenv E) s → wpAny (model prog w) (A.under (.compLoop e d (.ref I) acc cenv)) ((model prog w).den (.compLoop e d (.ref I) acc cenv)) Q E s)
    (heq : compTurn e d (.ref I) acc cenv = (standAt ip >>= fun _ => pyNext (.ref I) >>= fun r => match r with | none => pure (.done .next) | some v => rest v))
    (W : Walks prog w A I [I] [I] l.length (SignAt (tS l)) (fun i h => h.IsStrIter I T (tS l) t i)) (hT : T ≠ "tuple")
    (hIC : I ≠ C) (hID : I ≠ D) (hI : hb.get? I = none)
    (hbody : ∀ c ∈ l, ∀ (u : Tok) (h : Heap) (tk : Nat) (m : Str → Option Value) (ys : List Value) (Q : Fin → Shared → Prop) (E : Value → Shared → Prop), h.Ns C m → (∀ x ∈ xs, m x = m₀ x) → (∃ n, h.get? D = some (listOf ys.toArray n)) → (∀ b o, b ≠ C → b ≠ D → hb.get? b = some o → h.get? b = some o) → ys.length ≤ 20 + ys₀.length →
      (∀ h' tk' m' ys', Ex C D xs h m ys h' m' ys' (f c) → Q (.again (.compLoop e d (.ref I) acc cenv)) { s with heap := h', toks := tk' }) → wpAny (model prog w) A (rest (.str (ch c) u)) Q E { s with heap := h, toks := tk })
    (hst : s.heap.IsStrIter I T (tS l) t 0) (hE : Ex C D xs hb m₀ ys₀ s.heap m ys []) (hz : ∀ i, ((l.take i).flatMap f).length ≤ 20)
    (hR : ∀ h' tk m' ys', Ex C D xs hb m₀ ys₀ h' m' ys' (l.flatMap f) → R (.ok .next) { s with heap := h', toks := tk }) :
    codeAny (model prog w) A (.compLoop e d (.ref I) acc cenv) R s := by
  refine codeAny_loop hgen (fun k s' => ∃ i h tk m ys, s' = { s with heap := h, toks := tk } ∧ k = l.length - i ∧ i ≤ l.length ∧ h.IsStrIter I T (tS l) t i ∧ Ex C D xs hb m₀ ys₀ h m ys ((l.take i).flatMap f)) ?_ l.length
    ⟨0, s.heap, s.toks, m, ys, rfl, rfl, Nat.zero_le _, hst, by simpa using hE⟩
  rintro k s' ⟨i, h, tk, m₁, ys₁, rfl, rfl, hi, hst₁, hE₁⟩
  refine hA _ _ _ ?_
  rw [heq]
  have move : ∀ h₂ : Heap, (∀ b o, b ∉ [I] → h.get? b = some o → h₂.get? b = some o) → Ex C D xs hb m₀ ys₀ h₂ m₁ ys₁ ((l.take i).flatMap f) := fun h₂ hk => by
    obtain ⟨o, ho, hc, hd⟩ := hst₁
    obtain ⟨ts, e, t, r⟩ := hE₁.tr
    obtain ⟨n, hD⟩ := hE₁.dd
    refine ⟨fun b o hb' hd e => hk b o (fun hm => by rw [List.mem_singleton.mp hm, hI] at e; cases e) (hE₁.keep b o hb' hd e), hE₁.ns.at' fun o e => hk C o (by simpa using Ne.symm hIC) e, hE₁.nm, ⟨n, hk D _ (by simpa using Ne.symm hID) hD⟩, ts, e, t, fun p hp => ?_⟩
    obtain ⟨r1, r2⟩ := r p hp
    refine ⟨hk _ _ (fun hm => ?_) r1, r2⟩
    have hp' := t.cls p hp
    rw [List.mem_singleton.mp hm, ho] at r1
    rw [← Option.some.inj r1, hc] at hp'
    exact hT (Value.type.inj hp')
  refine wpAny_bind (wpAny_standAt (wpAny_bind ?_))
  by_cases hlt : i < l.length
  · refine W.item i _ _ _ hlt hst₁ fun v h₂ tk₂ hv hst₂ hk₂ => ?_
    obtain ⟨c, u, hc, rfl⟩ := hv
    have hc' : l[i]? = some c := by simpa [tS] using hc
    have E₂ := move h₂ hk₂
    have hlen : ys₁.length ≤ 20 + ys₀.length := by
      obtain ⟨ts, e, t, _⟩ := hE₁.tr
      have := t.length
      have := hz i
      rw [e, List.length_append, List.length_map]
      omega
    refine hbody c (List.mem_of_getElem? hc') u h₂ tk₂ m₁ ys₁ _ _ E₂.ns E₂.nm E₂.dd E₂.keep hlen fun h' tk' m' ys' E' => ?_
    refine ⟨rfl, l.length - (i + 1), by omega, i + 1, h', tk', m', ys', rfl, rfl, hlt, ?_, ?_⟩
    · obtain ⟨o, ho, r⟩ := hst₂
      exact ⟨o, E'.keep _ _ hIC hID ho, r⟩
    · have e : (l.take (i + 1)).flatMap f = (l.take i).flatMap f ++ f c := by
        rw [List.take_add_one, hc', List.flatMap_append]
        simp
      rw [e]
      exact E₂.trans E'
  · have hin : i = l.length := by omega
    rw [hin] at hst₁ hE₁ move
    refine W.done _ _ _ hst₁ fun h₂ tk₂ hk₂ => ?_
    have E₂ := move h₂ hk₂
    rw [List.take_length] at E₂
    exact wpAny_pure (hR h₂ tk₂ m₁ ys₁ E₂)
end
end Mine
namespace Mine
section
variable {prog : Program} {w : World} {A : Around} {R : Result → Shared → Prop} {s : Shared} {k1 k2 k3 : Nat}
theorem turn2 (it acc : Value) (env : Env) : compTurn (e3 k1 k2 k3) 2 it acc env = (standAt (tPos 98 103) >>= fun _ => pyNext it >>= fun r => match r with
    | none => pure (.done .next)
    | some v => (do
        assign (.Name (Str.ofString "low") (tPos 91 94)) env v
        let mut ok := true
        for c in [tL] do
          if ok then ok ← isTrue c env (eval c env)
        if ok then
          (do let _ ← call (.builtin "list.append") [acc, ← eval tElt env])
        again (.compLoop (e3 k1 k2 k3) 2 it acc env))) := by rfl
theorem turn1 (it acc : Value) (env : Env) : compTurn (e3 k1 k2 k3) 1 it acc env = (standAt (tPos 64 69) >>= fun _ => pyNext it >>= fun r => match r with
    | none => pure (.done .next)
    | some v => (do
        assign (.Name (Str.ofString "middle") (tPos 54 60)) env v
        let mut ok := true
        for c in [tM] do
          if ok then ok ← isTrue c env (eval c env)
        if ok then
          let x ← eval (Expr.Constant (Const.str (Str.ofString "abc")) k3 (tPos 98 103)) env
          standAt (tPos 98 103)
          let _ ← runOwn (.compStart (e3 k1 k2 k3) 2 (← holding [x] (pyIter x)) acc env) env
        again (.compLoop (e3 k1 k2 k3) 1 it acc env))) := by rfl
theorem turn0 (it acc : Value) (env : Env) : compTurn (e3 k1 k2 k3) 0 it acc env = (standAt (tPos 44 49) >>= fun _ => pyNext it >>= fun r => match r with
    | none => pure (.done .next)
    | some v => (do
        assign (.Name (Str.ofString "high") (tPos 36 40)) env v
        let x ← eval (Expr.Constant (Const.str (Str.ofString "bcd")) k2 (tPos 64 69)) env
        standAt (tPos 64 69)
        let _ ← runOwn (.compStart (e3 k1 k2 k3) 1 (← holding [x] (pyIter x)) acc env) env
        again (.compLoop (e3 k1 k2 k3) 0 it acc env))) := by rfl
end
end Mine
end
section
namespace Mine
section
variable {prog : Program} {w : World} {A : Around} {R : Result → Shared → Prop} {s : Shared} {k1 k2 k3 : Nat}
theorem ch_lt (a b : Nat) : decide ((ch a).cps.toList < (ch b).cps.toList) = decide (a < b) := by
  simp [ch, List.cons_lt_cons_iff]
theorem cst2 {I D : Addr} {cenv : Env} {T : String} {x : Str} {t : Tok} {n : Nat} (W : Walks prog w A I [I] [I] n (SignAt x) (fun i h => h.IsStrIter I T x t i)) (hst : s.heap.IsStrIter I T x t 0)
    (h0 : codeAny (model prog w) A (.compLoop (e3 k1 k2 k3) 2 (.ref I) (.ref D) cenv) R s) : codeAny (model prog w) A (.compStart (e3 k1 k2 k3) 2 (.ref I) (.ref D) cenv) R s := by
  refine codeAny_of_tree ?_
  show wpAny _ _ ((compStart (e3 k1 k2 k3) 2 (.ref I) (.ref D) cenv).onRaise (fun x => do noteFrame x cenv; standAt theWindowsPlace)) _ _ s
  refine wpAny_notedAt ?_
  unfold compStart
  show wpAny _ _ (ask >>= _) _ _ s
  refine wpAny_bind (wpAny_askSetting (wpAny_ite ?_))
  split
  · exact wpAny_pure (And.intro rfl h0)
  · refine wpAny_bind (wpAny_rule ?_)
    show wpAny _ _ (standAt (tPos 98 103) >>= _) _ _ s
    exact wpAny_bind (wpAny_standAt (wpAny_bind (W.self 0 s _ _ hst (wpAny_pure (And.intro rfl h0)))))
theorem cst1 {I D : Addr} {cenv : Env} {T : String} {x : Str} {t : Tok} {n : Nat} (W : Walks prog w A I [I] [I] n (SignAt x) (fun i h => h.IsStrIter I T x t i)) (hst : s.heap.IsStrIter I T x t 0)
    (h0 : codeAny (model prog w) A (.compLoop (e3 k1 k2 k3) 1 (.ref I) (.ref D) cenv) R s) : codeAny (model prog w) A (.compStart (e3 k1 k2 k3) 1 (.ref I) (.ref D) cenv) R s := by
  refine codeAny_of_tree ?_
  show wpAny _ _ ((compStart (e3 k1 k2 k3) 1 (.ref I) (.ref D) cenv).onRaise (fun x => do noteFrame x cenv; standAt theWindowsPlace)) _ _ s
  refine wpAny_notedAt ?_
  unfold compStart
  show wpAny _ _ (ask >>= _) _ _ s
  refine wpAny_bind (wpAny_askSetting (wpAny_ite ?_))
  split
  · exact wpAny_pure (And.intro rfl h0)
  · refine wpAny_bind (wpAny_rule ?_)
    show wpAny _ _ (standAt (tPos 64 69) >>= _) _ _ s
    exact wpAny_bind (wpAny_standAt (wpAny_bind (W.self 0 s _ _ hst (wpAny_pure (And.intro rfl h0)))))
noncomputable def f2 (y z c : Nat) : List (Nat × Nat × Nat) := if c < y then [(c, y, z)] else []
theorem body2 {cenv : Env} {D : Addr} {it : Value} {c y z : Nat} {u uy uz : Tok} {m : Str → Option Value} {ys : List Value} {Q : PySem.Fin → Shared → Prop} {E : Value → Shared → Prop} (hsc : cenv.scope = tScope) (hCD : cenv.locals ≠ D)
    (hn : s.heap.Ns cenv.locals m) (hy : m (Str.ofString "middle") = some (.str (ch y) uy)) (hzz : m (Str.ofString "high") = some (.str (ch z) uz)) (hD : ∃ n, s.heap.get? D = some (listOf ys.toArray n)) (hlen : ys.length ≤ 1000)
    (hQ : ∀ h' tk' m' ys', Ex cenv.locals D [Str.ofString "middle", Str.ofString "high"] s.heap m ys h' m' ys' (f2 y z c) → Q (.again (.compLoop (e3 k1 k2 k3) 2 it (.ref D) cenv)) { s with heap := h', toks := tk' }) :
    wpAny (model prog w) A (do
        assign (.Name (Str.ofString "low") (tPos 91 94)) cenv (.str (ch c) u)
        let mut ok := true
        for c in [tL] do
          if ok then ok ← isTrue c cenv (eval c cenv)
        if ok then
          (do let _ ← call (.builtin "list.append") [.ref D, ← eval tElt cenv])
        again (.compLoop (e3 k1 k2 k3) 2 it (.ref D) cenv)) Q E s := by
  obtain ⟨n, hD⟩ := hD
  have hk : cenv.kindOf (Str.ofString "low") = some .local := by unfold Env.kindOf; rw [hsc]; rfl
  refine wpAny_bind (wpAny_assign_Name (wpAny_storeName_local hk hn (fun h₁ hn₁ hs₁ => ?_) (by rw [hsc]; rfl)))
  have hL : (fun x => if x = Str.ofString "low" then some (Value.str (ch c) u) else m x) (Str.ofString "low") = some (.str (ch c) u) := by simp
  have hM : (fun x => if x = Str.ofString "low" then some (Value.str (ch c) u) else m x) (Str.ofString "middle") = some (.str (ch y) uy) := by
    rw [← hy]; exact if_neg (by decide)
  have hH : (fun x => if x = Str.ofString "low" then some (Value.str (ch c) u) else m x) (Str.ofString "high") = some (.str (ch z) uz) := by
    rw [← hzz]; exact if_neg (by decide)
  have hD₁ : h₁.get? D = some (listOf ys.toArray n) := hs₁.extBut _ _ (Ne.symm hCD) hD
  generalize hm₁ : (fun x => if x = Str.ofString "low" then some (Value.str (ch c) u) else m x) = m₁ at hn₁ hL hM hH
  dsimp only
  refine wpAny_bind (wpAny_tests_one (wpAny_isTrue_Compare1 ?_))
  refine ldG hn₁ hL ?_ (by rw [hsc]) (by rw [hsc]; rfl)
  refine ldG hn₁ hM ?_ (by rw [hsc]) (by rw [hsc]; rfl)
  refine lt_str ?_
  refine wpAny_truthy_bool ?_
  rw [ch_lt c y]
  by_cases hcy : c < y
  · rw [if_pos (by simpa using hcy)]
    refine wpAny_bind (wpAny_bind ?_)
    unfold tElt
    refine Tuple_ (spliced_more ?_)
    refine ldG hn₁ hL ?_ (by rw [hsc]) (by rw [hsc]; rfl)
    refine spliced_more ?_
    refine ldG hn₁ hM ?_ (by rw [hsc]) (by rw [hsc]; rfl)
    refine spliced_more ?_
    refine ldG hn₁ hH ?_ (by rw [hsc]) (by rw [hsc]; rfl)
    refine spliced_none ?_
    refine wpAny_newTuple ?_ (by rw [sizeLine_eq]; exact Nat.le_of_ble_eq_true rfl)
    have hDT : D ≠ h₁.objs.size := fun e => Nat.lt_irrefl _ (e ▸ Heap.lt_size hD₁)
    have hCT : cenv.locals ≠ h₁.objs.size := fun e => by
      have := hn₁.lt
      rw [e] at this
      exact Nat.lt_irrefl _ this
    refine wpAny_bind (append_at (Heap.get?_push_of_some _ hD₁) (fun h₂ hs₂ hD₂ => ?_) (by rw [sizeLine_eq]; simp; omega))
    refine wpAny_pure (wpAny_pure (hQ h₂ _ m₁ (ys ++ [Value.ref h₁.objs.size]) ?_))
    have up : ∀ b o, b ≠ D → h₁.get? b = some o → h₂.get? b = some o := fun b o hb e => hs₂.extBut _ _ hb (Heap.get?_push_of_some _ e)
    refine ⟨fun b o hC hDb e => up b o hDb (hs₁.extBut _ _ hC e), hn₁.at' fun o e => up _ _ hCD e, ?_, ⟨n + 1, by rw [hD₂]; simp⟩, [(h₁.objs.size, tup3 (ch c) u (ch y) uy (ch z) uz)], by simp, ?_, ?_⟩
    · intro x hx
      subst hm₁
      simp only [List.mem_cons, List.not_mem_nil, or_false] at hx
      rcases hx with rfl | rfl <;> exact if_neg (by decide)
    · unfold f2
      rw [if_pos hcy]
      exact .cons .nil
    · intro p hp
      rw [List.mem_singleton.mp hp]
      refine ⟨hs₂.extBut _ _ (Ne.symm hDT) (Heap.get?_push_size _ rfl), Ne.symm hCT, Ne.symm hDT, ?_⟩
      cases e : s.heap.get? h₁.objs.size with
      | none => rfl
      | some o => exact absurd (Heap.lt_size (hs₁.extBut _ _ (Ne.symm hCT) e)) (Nat.lt_irrefl _)
  · rw [if_neg (by simpa using hcy)]
    refine wpAny_pure (hQ h₁ _ m₁ ys ?_)
    refine ⟨fun b o hC hDb e => hs₁.extBut _ _ hC e, hn₁, ?_, ⟨_, hD₁⟩, [], by simp, ?_, fun p hp => nomatch hp⟩
    · intro x hx
      subst hm₁
      simp only [List.mem_cons, List.not_mem_nil, or_false] at hx
      rcases hx with rfl | rfl <;> exact if_neg (by decide)
    · unfold f2
      rw [if_neg hcy]
      exact .nil
theorem text_abc : Str.ofString "abc" = tS [97, 98, 99] := by decide +kernel
theorem text_bcd : Str.ofString "bcd" = tS [98, 99, 100] := by decide +kernel
theorem text_cde : Str.ofString "cde" = tS [99, 100, 101] := by decide +kernel
theorem hA3 {d : Nat} {I : Addr} {acc : Value} {cenv : Env} (Q : PySem.Fin → Shared → Prop) (E : Value → Shared → Prop) (s : Shared) (h : wpAny (model prog w) A (compTurn (e3 k1 k2 k3) d (.ref I) acc cenv) Q (notedBy (model prog w) A cenv E) s) :
    wpAny (model prog w) (A.under (.compLoop (e3 k1 k2 k3) d (.ref I) acc cenv)) ((model prog w).den (.compLoop (e3 k1 k2 k3) d (.ref I) acc cenv)) Q E s := by
  show wpAny _ A ((compTurn (e3 k1 k2 k3) d (.ref I) acc cenv).onRaise (fun x => do noteFrame x cenv; theTreesLotGoes x)) _ _ s
  exact wpAny_noted h
/-- the innermost loop -/
theorem run2 {cenv : Env} {D : Addr} {t : Tok} {y z : Nat} {uy uz : Tok} {m : Str → Option Value} {ys : List Value} {Q : Flow → Shared → Prop} {E : Value → Shared → Prop} (hh : A.handled = none) (hsc : cenv.scope = tScope) (hCD : cenv.locals ≠ D)
    (hn : s.heap.Ns cenv.locals m) (hy : m (Str.ofString "middle") = some (.str (ch y) uy)) (hzz : m (Str.ofString "high") = some (.str (ch z) uz)) (hD : ∃ n, s.heap.get? D = some (listOf ys.toArray n)) (hlen : ys.length ≤ 900)
    (hQ : ∀ h' tk' m' ys', Ex cenv.locals D [Str.ofString "middle", Str.ofString "high"] s.heap m ys h' m' ys' ([97, 98, 99].flatMap (f2 y z)) → Q .next { s with heap := h', toks := tk' }) :
    wpAny (model prog w) A (holding [Value.str (Str.ofString "abc") t] (pyIter (.str (Str.ofString "abc") t))) (fun it s' => wpAny (model prog w) A (runOwn (.compStart (e3 k1 k2 k3) 2 it (.ref D) cenv) cenv) Q E s') E s := by
  obtain ⟨nD, hD⟩ := hD
  rw [text_abc]
  refine wpAny_holding (wpAny_pyIter_ascii (by decide +kernel) ?_)
  have hDI : D ≠ s.heap.objs.size := Nat.ne_of_lt (Heap.lt_size hD)
  have hCI : cenv.locals ≠ s.heap.objs.size := Nat.ne_of_lt hn.lt
  have W : ∀ A' : Around, A'.handled = none → Walks prog w A' s.heap.objs.size [s.heap.objs.size] [s.heap.objs.size] [97, 98, 99].length (SignAt (tS [97, 98, 99])) (fun i h => h.IsStrIter s.heap.objs.size "str_ascii_iterator" (tS [97, 98, 99]) t i) := fun A' hA => Walks.strAscii hA s.heap.objs.size (tS [97, 98, 99]) t
  have hst : (s.heap.push { cls := .type "str_ascii_iterator", data := .fields #[.str (tS [97, 98, 99]) t, .int 0 0] }).IsStrIter s.heap.objs.size "str_ascii_iterator" (tS [97, 98, 99]) t 0 := ⟨_, Heap.get?_push_size _ rfl, rfl, rfl⟩
  have hI : s.heap.get? s.heap.objs.size = none := by
    cases e : s.heap.get? s.heap.objs.size with
    | none => rfl
    | some o => exact absurd (Heap.lt_size e) (Nat.lt_irrefl _)
  refine wpAny_runOwn (cst2 (W _ hh) hst ?_)
  refine lvl (C := cenv.locals) (D := D) (hb := s.heap) (m₀ := m) (m := m) (ys₀ := ys) (ys := ys) (xs := [Str.ofString "middle", Str.ofString "high"]) (l := [97, 98, 99]) _ (f2 y z) rfl (fun Q E s h => hA3 Q E s h) (turn2 _ _ _) (W _ hh) (by decide) (Ne.symm hCI) (Ne.symm hDI) hI ?_ hst
    ⟨fun b o _ _ e => Heap.get?_push_of_some _ e, hn.push _, fun _ _ => rfl, ⟨nD, Heap.get?_push_of_some _ hD⟩, [], by simp, .nil, fun p hp => nomatch hp⟩ ?_ ?_
  · intro c _ u h tk m' ys' Q' E' hn' hm' hD' _ hl' hQ'
    exact body2 (s := { s with heap := h, toks := tk }) hsc hCD hn' ((hm' _ (by simp)).trans hy) ((hm' _ (by simp)).trans hzz) hD' (by omega) hQ'
  · intro i
    refine Nat.le_trans (m := 3) ?_ (by decide)
    have h1 : ∀ c, (f2 y z c).length ≤ 1 := fun c => by unfold f2; split <;> simp
    have a := h1 97
    have b := h1 98
    have c := h1 99
    match i with
    | 0 => simp
    | 1 => simp; omega
    | 2 => simp; omega
    | i + 3 => simp; omega
  · intro h' tk m' ys' hE
    exact hQ h' tk m' ys' hE
end
end Mine
namespace Mine
section
variable {prog : Program} {w : World} {A : Around} {R : Result → Shared → Prop} {s : Shared} {k1 k2 k3 : Nat}
noncomputable def f1 (z y : Nat) : List (Nat × Nat × Nat) := if y < z then [97, 98, 99].flatMap (f2 y z) else []
theorem f2_le (y z c : Nat) : (f2 y z c).length ≤ 1 := by unfold f2; split <;> simp
theorem f1_le (z y : Nat) : (f1 z y).length ≤ 3 := by
  unfold f1
  have a := f2_le y z 97
  have b := f2_le y z 98
  have c := f2_le y z 99
  split
  · simp; omega
  · simp
theorem body1 {cenv : Env} {D : Addr} {it : Value} {y z : Nat} {u uz : Tok} {m : Str → Option Value} {ys : List Value} {Q : PySem.Fin → Shared → Prop} {E : Value → Shared → Prop} (hh : A.handled = none) (hsc : cenv.scope = tScope) (hCD : cenv.locals ≠ D)
    (hn : s.heap.Ns cenv.locals m) (hzz : m (Str.ofString "high") = some (.str (ch z) uz)) (hD : ∃ n, s.heap.get? D = some (listOf ys.toArray n)) (hlen : ys.length ≤ 900)
    (hQ : ∀ h' tk' m' ys', Ex cenv.locals D [Str.ofString "high"] s.heap m ys h' m' ys' (f1 z y) → Q (.again (.compLoop (e3 k1 k2 k3) 1 it (.ref D) cenv)) { s with heap := h', toks := tk' }) :
    wpAny (model prog w) A (do
        assign (.Name (Str.ofString "middle") (tPos 54 60)) cenv (.str (ch y) u)
        let mut ok := true
        for c in [tM] do
          if ok then ok ← isTrue c cenv (eval c cenv)
        if ok then
          let x ← eval (Expr.Constant (Const.str (Str.ofString "abc")) k3 (tPos 98 103)) cenv
          standAt (tPos 98 103)
          let _ ← runOwn (.compStart (e3 k1 k2 k3) 2 (← holding [x] (pyIter x)) (.ref D) cenv) cenv
        again (.compLoop (e3 k1 k2 k3) 1 it (.ref D) cenv)) Q E s := by
  obtain ⟨n, hD⟩ := hD
  have hk : cenv.kindOf (Str.ofString "middle") = some .local := by unfold Env.kindOf; rw [hsc]; rfl
  refine wpAny_bind (wpAny_assign_Name (wpAny_storeName_local hk hn (fun h₁ hn₁ hs₁ => ?_) (by rw [hsc]; rfl)))
  have hM : (fun x => if x = Str.ofString "middle" then some (Value.str (ch y) u) else m x) (Str.ofString "middle") = some (.str (ch y) u) := by simp
  have hHm : (fun x => if x = Str.ofString "middle" then some (Value.str (ch y) u) else m x) (Str.ofString "high") = m (Str.ofString "high") := if_neg (by decide)
  have hH := hHm.trans hzz
  have hD₁ : h₁.get? D = some (listOf ys.toArray n) := hs₁.extBut _ _ (Ne.symm hCD) hD
  generalize hm₁ : (fun x => if x = Str.ofString "middle" then some (Value.str (ch y) u) else m x) = m₁ at hn₁ hM hH hHm
  have E₁ : Ex cenv.locals D [Str.ofString "high"] s.heap m ys h₁ m₁ ys [] :=
    ⟨fun b o hC hDb e => hs₁.extBut _ _ hC e, hn₁, fun x hx => by rw [List.mem_singleton.mp hx]; exact hHm, ⟨n, hD₁⟩, [], by simp, .nil, fun p hp => nomatch hp⟩
  dsimp only
  refine wpAny_bind (wpAny_tests_one (wpAny_isTrue_Compare1 ?_))
  refine ldG hn₁ hM ?_ (by rw [hsc]) (by rw [hsc]; rfl)
  refine ldG hn₁ hH ?_ (by rw [hsc]) (by rw [hsc]; rfl)
  refine lt_str ?_
  refine wpAny_truthy_bool ?_
  rw [ch_lt y z]
  by_cases hcy : y < z
  · rw [if_pos (by simpa using hcy)]
    refine wpAny_bind (wpAny_Constant_str (wpAny_bind (wpAny_standAt (wpAny_bind ?_))))
    refine wpAny_mono (run2 (m := m₁) (ys := ys) (Q := fun _ s' => wpAny (model prog w) A (again (.compLoop (e3 k1 k2 k3) 1 it (.ref D) cenv)) Q E s') hh hsc hCD hn₁ hM hH ⟨n, hD₁⟩ hlen fun h' tk' m' ys' hE => ?_) (fun _ _ h => wpAny_bind h) fun _ _ e => e
    have := E₁.trans (hE.sub (xs' := [Str.ofString "high"]) (fun z hz => by rw [List.mem_singleton.mp hz]; simp))
    refine wpAny_pure (hQ h' tk' m' ys' ?_)
    unfold f1
    rw [if_pos hcy]
    simpa using this
  · rw [if_neg (by simpa using hcy)]
    refine wpAny_pure (hQ h₁ _ m₁ ys ?_)
    unfold f1
    rw [if_neg hcy]
    exact E₁
theorem run1 {cenv : Env} {D : Addr} {t : Tok} {z : Nat} {uz : Tok} {m : Str → Option Value} {ys : List Value} {Q : Flow → Shared → Prop} {E : Value → Shared → Prop} (hh : A.handled = none) (hsc : cenv.scope = tScope) (hCD : cenv.locals ≠ D)
    (hn : s.heap.Ns cenv.locals m) (hzz : m (Str.ofString "high") = some (.str (ch z) uz)) (hD : ∃ n, s.heap.get? D = some (listOf ys.toArray n)) (hlen : ys.length ≤ 800)
    (hQ : ∀ h' tk' m' ys', Ex cenv.locals D [Str.ofString "high"] s.heap m ys h' m' ys' ([98, 99, 100].flatMap (f1 z)) → Q .next { s with heap := h', toks := tk' }) :
    wpAny (model prog w) A (holding [Value.str (Str.ofString "bcd") t] (pyIter (.str (Str.ofString "bcd") t))) (fun it s' => wpAny (model prog w) A (runOwn (.compStart (e3 k1 k2 k3) 1 it (.ref D) cenv) cenv) Q E s') E s := by
  obtain ⟨nD, hD⟩ := hD
  rw [text_bcd]
  refine wpAny_holding (wpAny_pyIter_ascii (by decide +kernel) ?_)
  have hDI : D ≠ s.heap.objs.size := Nat.ne_of_lt (Heap.lt_size hD)
  have hCI : cenv.locals ≠ s.heap.objs.size := Nat.ne_of_lt hn.lt
  have W : ∀ A' : Around, A'.handled = none → Walks prog w A' s.heap.objs.size [s.heap.objs.size] [s.heap.objs.size] [98, 99, 100].length (SignAt (tS [98, 99, 100])) (fun i h => h.IsStrIter s.heap.objs.size "str_ascii_iterator" (tS [98, 99, 100]) t i) := fun A' hA => Walks.strAscii hA s.heap.objs.size (tS [98, 99, 100]) t
  have hst : (s.heap.push { cls := .type "str_ascii_iterator", data := .fields #[.str (tS [98, 99, 100]) t, .int 0 0] }).IsStrIter s.heap.objs.size "str_ascii_iterator" (tS [98, 99, 100]) t 0 := ⟨_, Heap.get?_push_size _ rfl, rfl, rfl⟩
  have hI : s.heap.get? s.heap.objs.size = none := by
    cases e : s.heap.get? s.heap.objs.size with
    | none => rfl
    | some o => exact absurd (Heap.lt_size e) (Nat.lt_irrefl _)
  refine wpAny_runOwn (cst1 (W _ hh) hst ?_)
  refine lvl (C := cenv.locals) (D := D) (hb := s.heap) (m₀ := m) (m := m) (ys₀ := ys) (ys := ys) (xs := [Str.ofString "high"]) (l := [98, 99, 100]) _ (f1 z) rfl (fun Q E s h => hA3 Q E s h) (turn1 _ _ _) (W _ hh) (by decide) (Ne.symm hCI) (Ne.symm hDI) hI ?_ hst
    ⟨fun b o _ _ e => Heap.get?_push_of_some _ e, hn.push _, fun _ _ => rfl, ⟨nD, Heap.get?_push_of_some _ hD⟩, [], by simp, .nil, fun p hp => nomatch hp⟩ ?_ ?_
  · intro c _ u h tk m' ys' Q' E' hn' hm' hD' _ hl' hQ'
    exact body1 (s := { s with heap := h, toks := tk }) hh hsc hCD hn' ((hm' _ (by simp)).trans hzz) hD' (by omega) hQ'
  · intro i
    have a := f1_le z 98
    have b := f1_le z 99
    have c := f1_le z 100
    match i with
    | 0 => simp
    | 1 => simp; omega
    | 2 => simp; omega
    | i + 3 => simp; omega
  · intro h' tk m' ys' hE
    exact hQ h' tk m' ys' hE
theorem body0 {cenv : Env} {D : Addr} {it : Value} {z : Nat} {u : Tok} {m : Str → Option Value} {ys : List Value} {Q : PySem.Fin → Shared → Prop} {E : Value → Shared → Prop} (hh : A.handled = none) (hsc : cenv.scope = tScope) (hCD : cenv.locals ≠ D)
    (hn : s.heap.Ns cenv.locals m) (hD : ∃ n, s.heap.get? D = some (listOf ys.toArray n)) (hlen : ys.length ≤ 800)
    (hQ : ∀ h' tk' m' ys', Ex cenv.locals D [] s.heap m ys h' m' ys' ([98, 99, 100].flatMap (f1 z)) → Q (.again (.compLoop (e3 k1 k2 k3) 0 it (.ref D) cenv)) { s with heap := h', toks := tk' }) :
    wpAny (model prog w) A (do
        assign (.Name (Str.ofString "high") (tPos 36 40)) cenv (.str (ch z) u)
        let x ← eval (Expr.Constant (Const.str (Str.ofString "bcd")) k2 (tPos 64 69)) cenv
        standAt (tPos 64 69)
        let _ ← runOwn (.compStart (e3 k1 k2 k3) 1 (← holding [x] (pyIter x)) (.ref D) cenv) cenv
        again (.compLoop (e3 k1 k2 k3) 0 it (.ref D) cenv)) Q E s := by
  obtain ⟨n, hD⟩ := hD
  have hk : cenv.kindOf (Str.ofString "high") = some .local := by unfold Env.kindOf; rw [hsc]; rfl
  refine wpAny_bind (wpAny_assign_Name (wpAny_storeName_local hk hn (fun h₁ hn₁ hs₁ => ?_) (by rw [hsc]; rfl)))
  have hH : (fun x => if x = Str.ofString "high" then some (Value.str (ch z) u) else m x) (Str.ofString "high") = some (.str (ch z) u) := by simp
  have hD₁ : h₁.get? D = some (listOf ys.toArray n) := hs₁.extBut _ _ (Ne.symm hCD) hD
  generalize hm₁ : (fun x => if x = Str.ofString "high" then some (Value.str (ch z) u) else m x) = m₁ at hn₁ hH
  have E₁ : Ex cenv.locals D [] s.heap m ys h₁ m₁ ys [] :=
    ⟨fun b o hC hDb e => hs₁.extBut _ _ hC e, hn₁, fun x hx => absurd hx List.not_mem_nil, ⟨n, hD₁⟩, [], by simp, .nil, fun p hp => nomatch hp⟩
  refine wpAny_bind (wpAny_Constant_str (wpAny_bind (wpAny_standAt (wpAny_bind ?_))))
  refine wpAny_mono (run1 (m := m₁) (ys := ys) (Q := fun _ s' => wpAny (model prog w) A (again (.compLoop (e3 k1 k2 k3) 0 it (.ref D) cenv)) Q E s') hh hsc hCD hn₁ hH ⟨n, hD₁⟩ hlen fun h' tk' m' ys' hE => ?_) (fun _ _ h => wpAny_bind h) fun _ _ e => e
  have := E₁.trans (hE.sub (xs' := []) (fun z hz => nomatch hz))
  refine wpAny_pure (hQ h' tk' m' ys' ?_)
  simpa using this
theorem threes_are : [99, 100, 101].flatMap (fun z => [98, 99, 100].flatMap (f1 z)) = threes := by decide
end
end Mine
namespace Mine
section
variable {prog : Program} {w : World} {A : Around} {s : Shared} {k1 k2 k3 : Nat}
theorem pyIter_word {x : Str} {l : List Nat} {t : Tok} {Q : Value → Shared → Prop} {E : Value → Shared → Prop} (h : x = tS l) (ha : (tS l).cps.all (· < 128) = true)
    (hQ : Q (.ref s.heap.objs.size) { s with heap := s.heap.push { cls := .type "str_ascii_iterator", data := .fields #[.str (tS l) t, .int 0 0] } }) : wpAny (model prog w) A (pyIter (.str x t)) Q E s := by
  subst h; exact wpAny_pyIter_ascii ha hQ
theorem threes_eval {j1 j2 j3 : Nat} {env : Env} {h₀ : Heap} {L : Addr} {m : Str → Option Value} {news : List (Addr × Obj)} {Q E : Value → Shared → Prop} (F : Fr h₀ L s.heap m) (N : News h₀ L s.heap news) (hh : A.handled = none)
    (hQ : ∀ (D : Addr) (ts : List (Addr × Obj)) (n : Nat) (h' : Heap) (tk : Nat), Trips ts threes → (∀ p ∈ news, p.1 < D) → (∀ q ∈ ts, ∀ p ∈ news, p.1 ≠ q.1) → Fr h₀ L h' m → News h₀ L h' ((D, listOf (ts.map (fun p => Value.ref p.1)).toArray n) :: (ts ++ news)) → Q (.ref D) { s with heap := h', toks := tk }) :
    wpAny (model prog w) A (eval (e3 j1 j2 j3) env) Q E s := by
  refine wpAny_ListComp (by decide) rfl (by decide) ?_
  refine wpAny_Constant_str ?_
  refine pyIter_word text_cde (by decide +kernel) ?_
  refine wpAny_newObj_type (wpAny_newFunctionEnv (by decide) (by intro y hy; simp at hy) (fun h₁ hns₁ hsb₁ => ?_) rfl)
  dsimp only at hns₁ hsb₁ ⊢
  generalize hH1 : s.heap.push { cls := .type "str_ascii_iterator", data := .fields #[.str (tS [99, 100, 101]) s.toks, .int 0 0] } = H1 at hns₁ hsb₁ ⊢
  generalize hH2 : H1.push { cls := .type "list", data := .seq ([] : List Value).toArray } = H2 at hns₁ hsb₁ ⊢
  have hD : H1.objs.size = s.heap.objs.size + 1 := by rw [← hH1, Heap.size_push]
  have hC : H2.objs.size = s.heap.objs.size + 2 := by rw [← hH2, Heap.size_push, hD]
  have k1 : ∀ b o, s.heap.get? b = some o → H1.get? b = some o := fun b o e => by rw [← hH1]; exact Heap.get?_push_of_some _ e
  have k2 : ∀ b o, H1.get? b = some o → H2.get? b = some o := fun b o e => by rw [← hH2]; exact Heap.get?_push_of_some _ e
  have k3 : ∀ b o, H2.get? b = some o → h₁.get? b = some o := fun b o e => hsb₁.extBut b o (Nat.ne_of_lt (Heap.lt_size e)) (Heap.get?_push_of_some _ e)
  have hDI : H1.objs.size ≠ s.heap.objs.size := by rw [hD]; exact Nat.ne_of_gt (Nat.lt_succ_self _)
  have hCI : H2.objs.size ≠ s.heap.objs.size := by rw [hC]; exact Nat.ne_of_gt (Nat.lt_succ_of_lt (Nat.lt_succ_self _))
  have hCD : H2.objs.size ≠ H1.objs.size := by rw [hC, hD]; exact Nat.ne_of_gt (Nat.lt_succ_self _)
  have none_at : ∀ a, s.heap.objs.size ≤ a → s.heap.get? a = none := fun a ha => by
    cases e : s.heap.get? a with
    | none => rfl
    | some o => exact absurd (Heap.lt_size e) (Nat.not_lt.mpr ha)
  have none_0 : ∀ a, s.heap.get? a = none → h₀.get? a = none := fun a ha => by
    cases e : h₀.get? a with
    | none => rfl
    | some o => rw [F.keep a o e] at ha; cases ha
  have hI1 : H1.get? s.heap.objs.size = some { cls := .type "str_ascii_iterator", data := .fields #[.str (tS [99, 100, 101]) s.toks, .int 0 0] } := by rw [← hH1]; exact Heap.get?_push_size _ rfl
  have hD2 : H2.get? H1.objs.size = some { cls := .type "list", data := .seq ([] : List Value).toArray } := by rw [← hH2]; exact Heap.get?_push_size _ rfl
  have hst : h₁.IsStrIter s.heap.objs.size "str_ascii_iterator" (tS [99, 100, 101]) s.toks 0 := ⟨_, k3 _ _ (k2 _ _ hI1), rfl, rfl⟩
  have W : ∀ A' : Around, A'.handled = none → Walks prog w A' s.heap.objs.size [s.heap.objs.size] [s.heap.objs.size] [99, 100, 101].length (SignAt (tS [99, 100, 101])) (fun i h => h.IsStrIter s.heap.objs.size "str_ascii_iterator" (tS [99, 100, 101]) s.toks i) := fun A' hA => Walks.strAscii hA s.heap.objs.size (tS [99, 100, 101]) s.toks
  have hLs : L < s.heap.objs.size := F.ns.lt
  have loop : ∀ (cenv : Env) (s₁ : Shared), s₁.heap = h₁ → s₁ = { s with heap := h₁, toks := s₁.toks } → cenv.scope = tScope → cenv.locals = H2.objs.size →
      codeAny (model prog w) A (.compLoop (e3 j1 j2 j3) 0 (.ref s.heap.objs.size) (.ref H1.objs.size) cenv) (fun r s' => ∃ m, s'.heap.Ns cenv.locals m ∧ ∀ h', Heap.SameBut cenv.locals s'.heap h' →
          match r with | .ok _ => Q (.ref H1.objs.size) { s' with heap := h' } | .error x => wpAny (model prog w) A (passOn "comprehension.variables-let-go" x cenv) Q E { s' with heap := h' }) s₁ := by
    rintro cenv s₁ hs1 hs2 hsc hloc
    refine lvl (C := cenv.locals) (D := H1.objs.size) (hb := s.heap) (m₀ := fun _ => none) (m := fun x => List.lookup x ([] : List (Str × Value)).reverse) (ys₀ := []) (ys := []) (xs := []) (l := [99, 100, 101]) _ (fun z => [98, 99, 100].flatMap (f1 z)) rfl (fun Q E s h => hA3 Q E s h) (turn0 _ _ _) (W _ hh) (by decide) (by rw [hloc]; exact Ne.symm hCI) (Ne.symm hDI) (none_at _ (Nat.le_refl _)) ?_ (by rw [hs1]; exact hst)
      ⟨fun b o _ _ e => by rw [hs1]; exact k3 _ _ (k2 _ _ (k1 _ _ e)), by rw [hs1, hloc]; exact hns₁, fun x hx => absurd hx List.not_mem_nil, ⟨0, by rw [hs1]; exact k3 _ _ hD2⟩, [], by simp, .nil, fun p hp => nomatch hp⟩ ?_ ?_
    · intro c _ u h tk m' ys' Q' E' hn' hm' hD' _ hl' hQ'
      exact body0 (s := { s₁ with heap := h, toks := tk }) hh hsc (by rw [hloc]; exact hCD) hn' hD' (by simp at hl'; omega) hQ'
    · intro i
      match i with
      | 0 => decide
      | 1 => decide
      | 2 => decide
      | i + 3 => rw [List.take_of_length_le (by simp)]; decide
    · intro h' tk m' ys' hE
      rw [threes_are] at hE
      obtain ⟨ts, e, t, r⟩ := hE.tr
      obtain ⟨n, hd⟩ := hE.dd
      refine ⟨m', hE.ns, fun h'' hs'' => ?_⟩
      rw [hs2]
      rw [hloc] at hs''
      have ksb : ∀ b o, b ≠ H2.objs.size → h'.get? b = some o → h''.get? b = some o := fun b o hb e => hs''.extBut b o hb e
      have keep : ∀ b o, s.heap.get? b = some o → h''.get? b = some o := fun b o e => by
        have hlt := Heap.lt_size e
        have h1 : b ≠ H2.objs.size := by rw [hC]; exact Nat.ne_of_lt (Nat.lt_succ_of_lt (Nat.lt_succ_of_lt hlt))
        have h2 : b ≠ H1.objs.size := by rw [hD]; exact Nat.ne_of_lt (Nat.lt_succ_of_lt hlt)
        exact ksb b o h1 (hE.keep b o (by rw [hloc]; exact h1) h2 e)
      have off : ∀ q ∈ ts, ∀ b o, s.heap.get? b = some o → b ≠ q.1 := fun q hq b o e hb => by
        have := (r q hq).2.2.2
        rw [← hb, e] at this
        cases this
      refine hQ H1.objs.size ts n h'' _ t (fun p hp => ?_) (fun q hq p hp => off q hq _ _ (N p hp).1) (F.keeps keep) fun p hp => ?_
      · rw [hD]; exact Nat.lt_succ_of_lt (Heap.lt_size (N p hp).1)
      · rcases List.mem_cons.mp hp with rfl | hp
        · refine ⟨ksb _ _ (Ne.symm hCD) (by rw [hd, e]; simp), by rw [hD]; exact Nat.ne_of_gt (Nat.lt_succ_of_lt hLs), none_0 _ (none_at _ (by rw [hD]; exact Nat.le_succ _))⟩
        · rcases List.mem_append.mp hp with hp | hp
          · obtain ⟨r1, r2, r3, r4⟩ := r p hp
            rw [hloc] at r2
            refine ⟨ksb _ _ r2 r1, ?_, none_0 _ r4⟩
            obtain ⟨oL, a1, a2, hL', a3⟩ := F.ns
            exact fun e => off p hp _ _ hL' e.symm
          · exact ⟨keep _ _ (N p hp).1, (N p hp).2⟩
  refine codeAny_compStart_list (loop _ _ rfl rfl rfl rfl) ?_
  refine (W _ hh).self 0 _ _ _ hst (loop _ _ rfl rfl rfl rfl)
end
end Mine
end
section
local macro_rules | `(tactic| walk_at "eval ListComp") => `(tactic| (k_here; k_dflt (refine' Mine.threes_eval ?F ?N ?h ?_; (case F => k_asm); (case N => k_asm); (case h => exact rfl)); intro D' ts' n' h' tk' T' l1 ne' F' N'))
namespace Mine
section
variable {w : World} {p : Program} {loose : List Str} {mean : ExcName → Option Value} {mg mb : Str → Option Value}
  {dp un : Nat} {gd : Option (List Code)} {cn : Str} {cs : Scope} {a : Addr} {ccd : Value} {cl : List (Str × Addr)} {outer : List Env} {A₀ : Around} {base h₀ : Heap} {L : Addr} {m : Str → Option Value} {s : Shared} {Q E : Value → Shared → Prop}
theorem c_threes {news : List (Addr × Obj)} (C : Cx w p loose mean mg mb dp un cs outer A₀ base h₀ L m s.heap) (N : News h₀ L s.heap news)
    (hret : ∀ (D : Addr) (ts : List (Addr × Obj)) (n : Nat) (h' : Heap) (tk : Nat), Trips ts threes → (∀ p ∈ news, p.1 < D) → (∀ q ∈ ts, ∀ p ∈ news, p.1 ≠ q.1) → Fr h₀ L h' m → News h₀ L h' ((D, listOf (ts.map (fun p => Value.ref p.1)).toArray n) :: (ts ++ news)) → Q (.ref D) { s with heap := h', toks := tk }) :
    wpAny (model PySem.Challenge.rw_ik0116_01.row.prog w) (ktrTop dp un gd cn cs L a ccd cl outer) (call (.ref 200) []) Q E s := by
  obtain ⟨B, F, X, T, hkd, hdp, hun⟩ := C
  revert X; k_fill; intro X
  refine wpAny_call ?_; k_dflt cell_enter
  k_steps
  rename_i kF kN _ _
  exact hret _ _ _ _ _ (by assumption) (by assumption) (by assumption) kF kN
end
end Mine
end
section
namespace Mine
theorem mro_object : mroOf (.type "object") = pure [.type "object"] := by rw [mroOf_type]; kernel_rfl
theorem lookup_object_new : typeLookup (.type "object") "__new__" = pure (some (.builtin "object.__new__")) := by rw [typeLookup_type, builtinLookup_eq_fast]; kernel_rfl
theorem slot_object_init : Slot "object" "__init__" "object.__init__" :=
  .of (owner := "object") (n := "__init__") (by rw [typeLookup_type, builtinLookup_eq_fast]; kernel_rfl) (by decide +kernel) (by decide +kernel) (by decide +kernel)
    (by first | exact .inl (by decide +kernel) | exact .inr (by decide +kernel)) (by rw [isSubtype_type]; kernel_rfl)
theorem made_object : Bind.madeBy (.type "object") = pure (some "object.__new__") := madeBy_type mro_object lookup_object_new (by decide +kernel)
theorem called_object : TypeCalled "object" "object.__new__" "object.__init__" :=
  ⟨by decide +kernel, by decide +kernel, ⟨_, _, mro_object⟩, made_object, by decide +kernel, by rw [isSubtype_type]; kernel_rfl, slot_object_init⟩
theorem typeCall_object : checkTypeCall "object" ⟨[], []⟩ = pure () := by kernel_rfl
theorem newCall_object : checkBuiltinCall "object.__new__" ⟨[.type "object"], []⟩ = pure () := by kernel_rfl
theorem entry_object_init : entryFor table "object.__init__" = some Builtin.«object.__init__» := entryFor_of_tree (by kernel_rfl)
theorem args_object_init (a : Value) : argsOk "object.__init__" ⟨[a], []⟩ := by unfold argsOk; kernel_rfl
noncomputable abbrev plainObj : Obj := { cls := .type "object", data := .plain }
section
variable {prog : Program} {w : World} {A : Around} {E : Value → Shared → Prop} {s : Shared}
theorem code_object_new {Q₁ : Value → Shared → Prop} (h : Q₁ (.ref s.heap.objs.size) { s with heap := s.heap.push plainObj }) :
    codeAny (model prog w) A (.call (.builtin "object.__new__") ⟨[.type "object"], []⟩) (wants Q₁ E) s := by
  refine codeAny_of_tree ?_
  show wpAny _ A.in1 (do checkBuiltinCall "object.__new__" ⟨[.type "object"], []⟩; again (.builtin "object.__new__" ⟨[.type "object"], []⟩)) _ _ s
  refine wpAny_bind (wpAny_of_eq newCall_object (wpAny_pure ⟨Code.quiet_builtin _ (by decide +kernel), codeAny_builtin PySem.F.entry_object_new ?_⟩))
  unfold Builtin.«object.__new__»
  have h1 := made_object
  have h2 : Bind.madeHere "object.__new__" (.type "object") = pure () := by kernel_rfl
  obtain ⟨hp, g, d, tk, os⟩ := s
  repeat (first | (refine wpAny_bind (wpAny_of_eq h2 ?_)) | wp_step)
  all_goals exact h
theorem call_object {Q : Value → Shared → Prop} (h : Q (.ref s.heap.objs.size) { s with heap := s.heap.push plainObj }) : wpAny (model prog w) A (call (.type "object") []) Q E s := by
  refine callType_codes (Q₁ := fun obj s₁ => obj = .ref s.heap.objs.size ∧ s₁ = { s with heap := s.heap.push plainObj }) called_object typeCall_object entry_object_init (code_object_new ⟨rfl, rfl⟩) ?_
  rintro obj s₁ ⟨rfl, rfl⟩
  refine ⟨⟨_, Heap.get?_push_size _ rfl, rfl⟩, args_object_init _, ?_⟩
  exact wpAny_pure ⟨rfl, h⟩
theorem call_objectK {h₀ : Heap} {L : Addr} {m : Str → Option Value} {news : List (Addr × Obj)} {Q : Value → Shared → Prop} (F : Fr h₀ L s.heap m) (N : News h₀ L s.heap news)
    (h : ∀ q h', Fr h₀ L h' m → News h₀ L h' ((q, plainObj) :: news) → (∀ p ∈ news, p.1 < q) → Q (.ref q) { s with heap := h' }) : wpAny (model prog w) A (call (.type "object") []) Q E s := by
  refine call_object ?_
  obtain ⟨F', N', l'⟩ := ks_newsPush (o := plainObj) F N rfl (Heap.get?_push_at rfl rfl) (fun b o e => Heap.get?_push_of_some _ e)
  exact h _ _ F' N' l'
end
end Mine
end
section
namespace Mine
section
variable {prog : Program} {w : World} {A : Around} {E : Value → Shared → Prop} {s : Shared} {h₀ : Heap} {L : Addr} {m : Str → Option Value} {news : List (Addr × Obj)}
theorem sub_KeyError : isSubtype (.type "KeyError") (.type "LookupError") = pure true := by rw [isSubtype_type]; kernel_rfl
theorem trans_letter {c : Nat} {d : Addr} {t : Tok} {Q : Value → Shared → Prop} (hA : A.handled = none) (F : Fr h₀ L s.heap m) (N : News h₀ L s.heap news) (hd : (d == sysModules) = false) {f : Int → Option Value} (T : s.heap.MapOf (intKind prog w) d f) (hl : f (c : Int) = none) (hc : c < 128)
    (h : ∀ h' tk t', Fr h₀ L h' m → News h₀ L h' news → Q (.str (ch c) t') { s with heap := h', toks := tk }) : wpAny (model prog w) A (call (.builtin "str.translate") [.str (ch c) t, .ref d]) Q E s := by
  refine wpAny_call_entry PySem.F.slot_str_translate (typeIs_str _ _ _) PySem.F.entry_str_translate ?_ (PySem.F.args_str_translate_2 _ _)
  unfold Builtin.«str.translate»
  have key : ∀ (A' : Around) (Q' : Builtin.Str.Mapped → Shared → Prop) (E' : Value → Shared → Prop), A'.handled = none → (∀ h' tk, (∀ b o, s.heap.get? b = some o → h'.get? b = some o) → Q' .keep { s with heap := h', toks := tk }) → wpAny (model prog w) A' (Builtin.Str.tableLookup (.ref d) c) Q' E' s := by
    intro A' Q' E' hA' hq
    unfold Builtin.Str.tableLookup
    refine wpAny_bind (wpAny_attempt ?_)
    refine wpAny_bind (wpAny_mkInt ?_)
    refine wpAny_getItem_missing_of (knd := intKind prog w) (intKind_is _ _ _ _) hd hA' T hl fun h' e x => ?_
    dsimp only
    obtain ⟨ob, tt, x1, x2, x3⟩ := x.there
    refine wpAny_bind (wpAny_isInstance (T := "KeyError") (b := true) ⟨ob, x1, x2⟩ sub_KeyError ?_)
    exact wpAny_bind (wpAny_rule (wpAny_pure (hq h' _ x.keeps)))
  have e1 : ((ch c).length == 0) = false := rfl
  have e2 : ((ch c).cps.all (· < 128)) = true := by simp [ch]; exact hc
  have e3 : ((ch c).cps.all fun x => decide (x < 128)) = true := e2
  obtain ⟨hp, g, dr, tk, os⟩ := s
  repeat (first | (with_reducible rw [e3]) | ((with_reducible show wpAny _ _ (Builtin.Str.tableLookup _ _) _ _ _); refine key _ _ _ hA fun h' tk' hk => ?_) | wp_step)
  exact ⟨_, rfl, h h' _ _ (F.keeps hk) (fun p hp => ⟨hk _ _ (N p hp).1, (N p hp).2⟩)⟩
end
end Mine
namespace Mine
noncomputable def keyOk (e : DictEntry) : Bool := match e.key with
  | .int k _ => decide (e.hash = hashInt k)
  | _ => false
noncomputable def missIn (K : Frag) (d : Addr) : Bool := match K.lookup d with
  | some ⟨.type "dict", none, .dict es _, sl⟩ => decide (sl = #[]) && es.toList.all keyOk && [97, 98, 99, 100, 101].all (fun c => (findBy Value.isInt es c).isNone)
  | _ => false
theorem miss_of {prog : Program} {w : World} {K : Frag} {h : Heap} {d : Addr} {c : Nat} (X : K.In h) (e : missIn K d = true) (hc : 97 ≤ c ∧ c ≤ 101) : ∃ f, h.MapOf (intKind prog w) d f ∧ f (c : Int) = none := by
  unfold missIn at e
  split at e
  · rename_i es n sl ho
    simp only [Bool.and_eq_true, decide_eq_true_eq] at e
    obtain ⟨⟨e1, e2⟩, e3⟩ := e
    refine ⟨fun k => findBy Value.isInt es k, ⟨_, es, n, X _ _ ho, ?_, rfl, ?_, fun _ => rfl⟩, ?_⟩
    · subst e1
      exact ⟨rfl, rfl, rfl⟩
    · intro x hx
      have := List.all_eq_true.mp e2 x (by simpa using hx)
      unfold keyOk at this
      split at this
      · rename_i k t hk
        exact ⟨k, by show Value.isInt k x.key = true; rw [hk]; simp [Value.isInt], of_decide_eq_true this⟩
      · cases this
    · have h5 : c = 97 ∨ c = 98 ∨ c = 99 ∨ c = 100 ∨ c = 101 := by omega
      rw [List.all_eq_true] at e3
      rcases h5 with rfl | rfl | rfl | rfl | rfl <;> exact Option.isNone_iff_eq_none.mp (e3 _ (by simp))
  · cases e
end Mine
namespace Mine
section
variable {prog : Program} {w : World} {A : Around} {E : Value → Shared → Prop} {s : Shared} {h₀ : Heap} {L : Addr} {m : Str → Option Value} {news : List (Addr × Obj)} {K : Frag}
theorem trans_letterK {c : Nat} {d : Addr} {t : Tok} {Q : Value → Shared → Prop} (hA : A.handled = none) (F : Fr h₀ L s.heap m) (N : News h₀ L s.heap news) (X₀ : K.In h₀) (e : missIn K d = true) (hd : (d == sysModules) = false) (hc : 97 ≤ c ∧ c ≤ 101)
    (h : ∀ h' tk t', Fr h₀ L h' m → News h₀ L h' news → Q (.str (ch c) t') { s with heap := h', toks := tk }) : wpAny (model prog w) A (call (.builtin "str.translate") [.str (ch c) t, .ref d]) Q E s := by
  obtain ⟨f, T, hl⟩ := miss_of (prog := prog) (w := w) (X₀.keeps F.keep) e hc
  exact trans_letter hA F N hd T hl (by omega) h
end
end Mine
namespace Mine
theorem gm_translate {M : Model} {A : Around} {E : Value → Shared → Prop} {s : Shared} {x : Str} {t : Tok} {pl : Sem Bool} {Q : Value × List Value → Shared → Prop} (h : Q (.builtin "str.translate", [.str x t]) s) :
    wpAny M A (getMethod (.str x t) "translate" pl) Q E s := by
  with_reducible exact getMethod_builtin (typeIs_str _ _ _) PySem.F.plainAttrs_str PySem.F.slot_str_translate PySem.F.type_str_translate (fun _ e => nomatch e) h
end Mine
end
section
local macro_rules | `(tactic| walk_at "getMethod str") => `(tactic| (k_here; with_reducible refine Mine.gm_translate ?_))
local macro_rules | `(tactic| walk_at "call builtin:str.translate") => `(tactic| (k_here; k_dflt (refine' Mine.trans_letterK ?h ?F ?N ?X ?e ?d ?c ?_; (case h => exact rfl); (case F => k_asm); (case N => k_asm); (case X => assumption); (case c => assumption); (case e => kernel_rfl!); (case d => decide)); intro h' tk' t' F' N'))
namespace Mine
section
variable {w : World} {p : Program} {loose : List Str} {mean : ExcName → Option Value} {mg mb : Str → Option Value}
  {dp un : Nat} {gd : Option (List Code)} {cn : Str} {cs : Scope} {a : Addr} {ccd : Value} {cl : List (Str × Addr)} {outer : List Env} {A₀ : Around} {base h₀ : Heap} {L : Addr} {m : Str → Option Value} {s : Shared} {Q E : Value → Shared → Prop}
theorem c_escape {c : Nat} {tx : Tok} {news : List (Addr × Obj)} (C : Cx w p loose mean mg mb dp un cs outer A₀ base h₀ L m s.heap) (N : News h₀ L s.heap news) (hc : 97 ≤ c ∧ c ≤ 101)
    (hret : ∀ (t : Tok) (h' : Heap) (tk : Nat), Fr h₀ L h' m → News h₀ L h' news → Q (.str (ch c) t) { s with heap := h', toks := tk }) :
    wpAny (model PySem.Challenge.rw_ik0116_01.row.prog w) (ktrTop dp un gd cn cs L a ccd cl outer) (call (.ref 160) [.str (ch c) tx]) Q E s := by
  obtain ⟨B, F, X, T, hkd, hdp, hun⟩ := C
  revert X; k_fill; intro X
  refine wpAny_call ?_; k_dflt cell_enter
  k_steps
  rename_i kF kN _ _
  exact hret _ _ _ kF kN
end
end Mine
end
section
namespace Mine
noncomputable abbrev bndObj (l : Addr) : Obj := { cls := .type "builtin_function_or_method", data := .fields #[.builtin "list.append", .ref l] }
theorem own_append : ".".intercalate ("list.append".cutAt '.').dropLast = "list" := by decide +kernel
theorem sub_list_list : isSubtype (.type "list") (.type "list") = pure true := by rw [isSubtype_type]; kernel_rfl
theorem type_append : typeOf (.builtin "list.append") = pure (.type "method_descriptor") := by show builtinType _ = _; rw [builtinType_eq_fast]; kernel_rfl
theorem lk_list_append : typeLookup (.type "list") "append" = pure (some (.builtin "list.append")) := PySem.F.slot_list_append.lookup
theorem lk_md_set : typeLookup (.type "method_descriptor") "__set__" = pure none := by rw [typeLookup_type, builtinLookup_eq_fast]; kernel_rfl
theorem lk_md_del : typeLookup (.type "method_descriptor") "__delete__" = pure none := by rw [typeLookup_type, builtinLookup_eq_fast]; kernel_rfl
section
variable {prog : Program} {w : World} {A : Around} {E : Value → Shared → Prop} {s : Shared} {h : Heap} {g : Array GenState} {d : Drawn} {t : Nat} {os : OsState} {l : Addr} {its : Array Value} {n : Nat}
theorem md_append {Q : PySem.Fin → Shared → Prop} (hl : h.get? l = some (listOf its n))
    (hq : Q (.done (.ret (.ref h.objs.size))) ⟨h.push (bndObj l), g, d, t, os⟩) :
    wpAny (model prog w) A (Builtin.«method_descriptor.__get__» ⟨[.builtin "list.append", .ref l, .type "list"], []⟩) Q E ⟨h, g, d, t, os⟩ := by
  have hT : (⟨h, g, d, t, os⟩ : Shared).TypeIs (.ref l) "list" := ⟨_, hl, rfl⟩
  have f1 := sub_list_list
  unfold Builtin.«method_descriptor.__get__»
  repeat (first | ((with_reducible show wpAny _ _ (isSubtype _ _) _ _ _); rw [own_append]; with_reducible refine wpAny_of_eq f1 ?_) | (with_reducible refine wpAny_newObj_type ?_ (by size_fits)) | (with_reducible refine wpAny_typeOf hT ?_) | wp_step)
  all_goals exact hq
theorem ga_append {tk : Tok} {Q : PySem.Fin → Shared → Prop} (hl : h.get? l = some (listOf its n))
    (hq : Q (.done (.ret (.ref h.objs.size))) ⟨h.push (bndObj l), g, d, t, os⟩) :
    wpAny (model prog w) A (Builtin.«object.__getattribute__» ⟨[.ref l, .str "append" tk], []⟩) Q E ⟨h, g, d, t, os⟩ := by
  have hT : (⟨h, g, d, t, os⟩ : Shared).TypeIs (.ref l) "list" := ⟨_, hl, rfl⟩
  have hT5 : (⟨h, g, d, t, os⟩ : Shared).TypeIs (.builtin "list.append") "method_descriptor" := type_append
  have f4 := lk_list_append
  have f5 := type_append
  have f6 := slot_md_get.lookup
  have f7 := lk_md_set
  have f8 := lk_md_del
  repeat (any_goals (first | assumption | ((with_reducible show wpAny _ _ (call (Value.builtin "method_descriptor.__get__") _) _ _ _); refine wpAny_call_entry slot_md_get type_append entry_md_get (md_append hl ?_) (args_md_get _ _ _)) | wp_step))
  all_goals exact ⟨_, rfl, wpAny_pure hq⟩
theorem getAttr_append {Q : Value → Shared → Prop} (hl : h.get? l = some (listOf its n))
    (hq : Q (.ref h.objs.size) ⟨h.push (bndObj l), g, d, t + 1, os⟩) : wpAny (model prog w) A (getAttr (.ref l) "append" true) Q E ⟨h, g, d, t, os⟩ := by
  have hT : ∀ tk', (⟨h, g, d, tk', os⟩ : Shared).TypeIs (.ref l) "list" := fun _ => ⟨_, hl, rfl⟩
  have f3 := PySem.F.slot_list_getattribute.lookup
  have f4 := PySem.F.slot_list_getattribute.bind (.ref l)
  have f5 := am_list_getattr_none
  unfold getAttr getAttrBy
  repeat (any_goals (first | assumption | exact hT _ | ((with_reducible show wpAny _ _ (call (Value.builtin "list.__getattribute__") _ _) _ _ _); refine wpAny_call_entry PySem.F.slot_list_getattribute (hT _) am_entry_list_getattribute (ga_append hl ?_) (PySem.F.args_list_getattribute_2 _ _)) | wp_step))
  all_goals (refine ⟨_, rfl, ?_⟩; show wpAny _ _ (handedOut _) _ _ _; rw [handedOut_of rfl]; exact wpAny_pure hq)
end
end Mine
end
section
namespace Mine
section
variable {prog : Program} {w : World} {A : Around} {E : Value → Shared → Prop} {s : Shared} {h₀ : Heap} {L : Addr} {m : Str → Option Value} {news news' : List (Addr × Obj)} {l q : Addr} {its : Array Value} {n : Nat}
noncomputable abbrev sigAppend : Manifest.Signature := { machinery := .positional, full := "list.append", short := "append", receiver := .self, params := [{ name := "object", kind := .posOnly, required := true }] }
theorem sub_list_module : isSubtype (.type "list") (.type "module") = pure false := by rw [isSubtype_type]; kernel_rfl
theorem check_append (v : Value) : Bind.checkArgs "list.append" { sigAppend with full := s!"{Bind.lastOf "list"}.{Bind.lastOf "list.append"}" } ⟨[.ref l, v], []⟩ = pure () := by kernel_rfl
theorem attr_appendK {Q : Value → Shared → Prop} (F : Fr h₀ L s.heap m) (N : News h₀ L s.heap news) (hl : (l, listOf its n) ∈ news)
    (h : ∀ q h', Fr h₀ L h' m → News h₀ L h' ((q, bndObj l) :: news) → (∀ p ∈ news, p.1 < q) → Q (.ref q) { s with heap := h', toks := s.toks + 1 }) : wpAny (model prog w) A (getAttr (.ref l) "append" true) Q E s := by
  obtain ⟨hp, g, d, t, os⟩ := s
  refine getAttr_append (N _ hl).1 ?_
  obtain ⟨F', N', l'⟩ := ks_newsPush (s := ⟨hp, g, d, t, os⟩) (o := bndObj l) F N rfl (Heap.get?_push_at rfl rfl) (fun b o e => Heap.get?_push_of_some _ e)
  exact h _ _ F' N' l'
theorem bound_append {v : Value} {Q : Value → Shared → Prop} (F : Fr h₀ L s.heap m) (N : News h₀ L s.heap news) (hq : (q, bndObj l) ∈ news)
    (U : Upd l (listOf its n) (listOf (its.push v) (n + 1)) news news') (hz : its.size ≤ sizeLine)
    (h : ∀ h', Fr h₀ L h' m → News h₀ L h' news' → Q .none { s with heap := h' }) : wpAny (model prog w) A (call (.ref q) [v]) Q E s := by
  have e1 := (N _ hq).1
  obtain ⟨pre, post, rfl, rfl, a, b⟩ := U.split
  have z := N (l, listOf its n) (List.mem_append.mpr (.inr (.head _)))
  have e2 := z.1
  have hg : (bndObj l).data = .fields #[.builtin "list.append", .ref l] := rfl
  have f1 := sub_list_module
  have hck := check_append (l := l) v
  have hT : s.TypeIs (.ref l) "list" := ⟨_, e2, rfl⟩
  refine wpAny_call (codeAny_of_tree ?_)
  show wpAny _ A.in1 (callAny (.ref q) ⟨[v], []⟩) _ _ s
  unfold callAny
  refine wpAny_bind (wpAny_load e1 ?_)
  rw [hg]
  show wpAny _ _ (do checkBoundCall "list.append" ⟨[.ref l, v], []⟩; again (.builtin "list.append" ⟨[.ref l, v], []⟩)) _ _ _
  unfold checkBoundCall
  obtain ⟨hp, g, d, t, os⟩ := s
  repeat (first | (with_reducible refine wpAny_of_eq hck ?_) | (with_reducible refine wpAny_loadPart_at e2 ?_) | (with_reducible refine wpAny_of_eq f1 ?_) | wp_step)
  refine ⟨Code.quiet_builtin _ (by decide +kernel), codeAny_builtin PySem.F.entry_list_append ?_⟩
  show wpAny _ _ (updateSeq l (·.push v) >>= fun _ => ret .none) _ _ _
  have em : Obj.mapSeq (fun a => a.push v) (listOf its n) = listOf (its.push v) (n + 1) := by
    unfold Obj.mapSeq
    simp only [W.listOf]
    rw [if_neg (by simp)]
  refine wpAny_bind (wpAny_updateSeq e2 rfl (wpAny_pure ?_) hz (by simp; exact hz))
  refine h _ (F.change (Heap.SameBut.update ..) z.2.1 z.2.2) (news_set N a b (Heap.SameBut.update ..) ?_)
  have hu := Heap.get?_update_self (Obj.mapSeq fun a => a.push v) e2 (by rw [em]; rfl)
  rw [em] at hu
  exact hu
end
end Mine
namespace Mine
noncomputable def BndAt (q l : Addr) (h : Heap) : Prop := h.get? q = some (bndObj l)
theorem BndAt.of {h₀ h : Heap} {L q l : Addr} {news : List (Addr × Obj)} (N : News h₀ L h news) (hm : (q, bndObj l) ∈ news) : BndAt q l h := (N _ hm).1
section
variable {M : Model} {A : Around} {E : Value → Shared → Prop} {s : Shared} {env : Env} {pos : Pos} {first : List Value} {Q : Value → Shared → Prop} {q l : Addr}
theorem keeps_bnd (h : Heap) (e : BndAt q l h) : ∃ k, (k = Keeper.frame ∨ k = Keeper.machine ∨ k = Keeper.boundFrame) ∧ Looks M h (keeperOf (.ref q)) k := by
  refine ⟨.machine, .inr (.inl rfl), ?_⟩
  intro A Q E s k z
  unfold keeperOf
  refine wpAny_bind (wpAny_load (k _ _ e) ?_)
  exact wpAny_pure z
theorem callWith_bnd {e : Expr} {rest : List Expr} {h₀ : Heap} {L : Addr} {news : List (Addr × Obj)} (_N : News h₀ L s.heap news) (_hm : (q, bndObj l) ∈ news) (h : wpAny M A (spliced (backTo pos (starEach (e :: rest) env))) (fun vs s₁ => BndAt q l s₁.heap ∧ wpAny M A (call (.ref q) (first ++ vs)) Q E s₁) E s)
    (he : starEach (e :: rest) env = (false, eval e env) :: starEach rest env := by rfl) (hplain : (backTo pos (starEach rest env)).any (·.1) = false := by rfl) :
    wpAny M A (callWith pos (.ref q) first (backTo pos (starEach (e :: rest) env)) []) Q E s := by
  rw [he] at h ⊢
  exact callWith_of (P := BndAt q l) (by show ((false || (backTo pos (starEach rest env)).any (·.1)) || false) = false; rw [hplain]; rfl) keeps_bnd (evalArgs_plain h)
end
end Mine
end
section
namespace Mine
theorem len7 (a b c d e f g : Nat) : (((tS [a, b, c, d, e, f, g]).length : Nat) : Int) = 7 := rfl
noncomputable abbrev pat7 (x y z : Nat) : List Nat := [42, z, 42, x, 42, y, 42]
noncomputable abbrev Let5 (c : Nat) : Prop := 97 ≤ c ∧ c ≤ 101
theorem star_is : ch 42 = Str.ofString "*" := by decide +kernel
theorem it0 (a b c d e f g : Nat) : Txt.item (tS [a, b, c, d, e, f, g]) 0 = ch a := rfl
theorem it1 (a b c d e f g : Nat) : Txt.item (tS [a, b, c, d, e, f, g]) 1 = ch b := rfl
theorem it2 (a b c d e f g : Nat) : Txt.item (tS [a, b, c, d, e, f, g]) 2 = ch c := rfl
theorem it3 (a b c d e f g : Nat) : Txt.item (tS [a, b, c, d, e, f, g]) 3 = ch d := rfl
theorem it4 (a b c d e f g : Nat) : Txt.item (tS [a, b, c, d, e, f, g]) 4 = ch e := rfl
theorem it5 (a b c d e f g : Nat) : Txt.item (tS [a, b, c, d, e, f, g]) 5 = ch f := rfl
theorem it6 (a b c d e f g : Nat) : Txt.item (tS [a, b, c, d, e, f, g]) 6 = ch g := rfl
theorem n01 : (0 : Int) + 1 = 1 := rfl
theorem n12 : (1 : Int) + 1 = 2 := rfl
theorem n23 : (2 : Int) + 1 = 3 := rfl
theorem n34 : (3 : Int) + 1 = 4 := rfl
theorem n45 : (4 : Int) + 1 = 5 := rfl
theorem n56 : (5 : Int) + 1 = 6 := rfl
theorem n67 : (6 : Int) + 1 = 7 := rfl
theorem let_ne {c k : Nat} {y : Str} (hc : Let5 c) (hk : y = ch k) (h : k < 97) : ch c ≠ y := by
  subst hk
  intro e
  have := congrArg (fun s : Str => s.cps) e
  simp [ch] at this
  omega
theorem eq_ne {prog : Program} {w : World} {A : Around} {E Q : Value → Shared → Prop} {s : Shared} {x y : Str} {t u : Tok} (h : x ≠ y) (q : Q (.bool false) s) : wpAny (model prog w) A (compareOp .Eq (.str x t) (.str y u)) Q E s := by
  refine eq_str ?_
  rw [show (x == y) = false from beq_false_of_ne h]
  exact q
end Mine
local macro_rules | `(tactic| walk_at "getAttr ref") => `(tactic| (k_here; (with_reducible show wpAny _ _ (getAttr (Value.ref _) (PySem.Str.ofString "append") true) _ _ _); k_dflt (refine' Mine.attr_appendK ?F ?N ?l ?_; (case F => k_asm); (case N => k_asm); (case l => k_mem)); intro q' h' F' N' l1; (try k_lt l1)))
local macro_rules | `(tactic| walk_at "callWith ref") => `(tactic| (k_here; k_dflt (refine' Mine.callWith_bnd ?k1 ?k2 ?_; (case k1 => k_asm); (case k2 => k_mem); k_whole)))
local macro_rules | `(tactic| walk_at "BndAt") => `(tactic| (k_dflt (exact Mine.BndAt.of (by k_asm) (by k_mem))))
local macro_rules | `(tactic| walk_at "call ref") => `(tactic| (k_here; k_dflt (refine' Mine.bound_append ?F ?N ?q ?U ?z ?_; (case F => k_asm); (case N => k_asm); (case q => k_mem); (case U => k_upd); (case z => (rw [sizeLine_eq]; simp)); k_whole); intro h' F' N'; (try k_sweep); (try simp only [List.push_toArray, List.nil_append, List.cons_append] at N')))
local macro_rules | `(tactic| walk_at "call ref") => `(tactic| (k_here; (with_reducible show wpAny _ _ (call (Value.ref _) [Value.str _ _]) _ _ _); k_dflt (refine' Mine.c_escape ?kC ?kN ?kc ?_; (case kC => exact ⟨by k_asm, by k_asm, by k_asm, by k_asm, by first | exact rfl | assumption, by ktr_room, by ktr_units⟩); (case kN => k_asm); (case kc => assumption)); intro t' h' tk' F' N'; (try k_sweep)))
local macro_rules | `(tactic| walk_at "storeName") => `(tactic| (k_here; rw [Mine.len7]))
local macro_rules | `(tactic| walk_at "storeName") => `(tactic| (k_here; (first | rw [Mine.it0] | rw [Mine.it1] | rw [Mine.it2] | rw [Mine.it3] | rw [Mine.it4] | rw [Mine.it5] | rw [Mine.it6]); (try rw [Mine.star_is])))
local macro_rules | `(tactic| walk_at "storeName") => `(tactic| (k_here; (first | rw [Mine.n01] | rw [Mine.n12] | rw [Mine.n23] | rw [Mine.n34] | rw [Mine.n45] | rw [Mine.n56] | rw [Mine.n67])))
local macro_rules | `(tactic| walk_at "truthy ref") => `(tactic| (k_here; (with_reducible show wpAny _ _ (truthy (Value.ref _)) _ _ _); k_dflt (refine' kgr_truthy ?N ?m ?c ?d ?z ?_; (case N => k_asm); (case m => k_mem); (case c => exact rfl); (case d => exact rfl); (case z => (simp only [List.length_cons, List.length_nil]; omega)); k_whole); (try simp only [List.isEmpty_cons, List.isEmpty_nil, Bool.not_false, Bool.not_true])))
local macro_rules | `(tactic| walk_at "compareOp IsNot str ref") => `(tactic| (k_here; k_dflt (refine wpAny_isNot_other (by rfl) (by intro x; cases x) ?_)))
local macro_rules | `(tactic| walk_at "compareOp Eq str str") => `(tactic| (k_here; with_reducible refine Mine.eq_ne (by assumption) ?_))
namespace Mine
section
variable {w : World} {p : Program} {loose : List Str} {mean : ExcName → Option Value} {mg mb : Str → Option Value}
  {dp un : Nat} {gd : Option (List Code)} {cn : Str} {cs : Scope} {a : Addr} {ccd : Value} {cl : List (Str × Addr)} {outer : List Env} {A₀ : Around} {base h₀ : Heap} {L : Addr} {m : Str → Option Value} {s : Shared} {Q E : Value → Shared → Prop}
theorem c_trl {x y z : Nat} {S : Addr} {tx td : Tok} {news : List (Addr × Obj)} (C : Cy w p loose mean mg mb dp un cs outer A₀ base h₀ L m s.heap) (N : News h₀ L s.heap ((S, plainObj) :: news)) (hx : Let5 x) (hy : Let5 y) (hz : Let5 z)
    (hret : ∀ (D : Addr) (t1 t2 t3 : Tok) (n : Nat) (h' : Heap) (tk' : Nat), (∀ p ∈ (S, plainObj) :: news, p.1 < D) → Fr h₀ L h' m → News h₀ L h' ((D, listOf [.ref S, .str (ch z) t1, .ref S, .str (ch x) t2, .ref S, .str (ch y) t3, .ref S].toArray n) :: (S, plainObj) :: news) → Q (.ref D) { s with heap := h', toks := tk' }) :
    wpAny (model PySem.Challenge.rw_ik0116_01.row.prog w) (ktrTop dp un gd cn cs L a ccd cl outer) (call (.ref 167) [.str (tS (pat7 x y z)) tx, .ref S, .str (Str.ofString ".") td]) Q E s := by
  have hlen : (tS (pat7 x y z)).length = 7 := rfl
  have e1 : ∀ c, Let5 c → ch c ≠ Str.ofString "*" := fun c h => let_ne (k := 42) h (by decide +kernel) (by decide)
  have e2 : ∀ c, Let5 c → ch c ≠ Str.ofString "?" := fun c h => let_ne (k := 63) h (by decide +kernel) (by decide)
  have e3 : ∀ c, Let5 c → ch c ≠ Str.ofString "[" := fun c h => let_ne (k := 91) h (by decide +kernel) (by decide)
  have x1 := e1 x hx
  have x2 := e2 x hx
  have x3 := e3 x hx
  have y1 := e1 y hy
  have y2 := e2 y hy
  have y3 := e3 y hy
  have z1 := e1 z hz
  have z2 := e2 z hz
  have z3 := e3 z hz
  clear e1 e2 e3
  obtain ⟨B, F, X, T, hkd, hdp, hun⟩ := C
  revert X; k_fill; intro X
  refine wpAny_call ?_; k_dflt cell_enter
  k_steps
  (rename Fr _ _ _ _ => lF)
  (rename News _ _ _ _ => lN)
  have l9 := (show S < _ ∧ AllLt _ news from by assumption)
  exact hret _ _ _ _ _ _ _ (fun p hp => by
    rcases List.mem_cons.mp hp with rfl | hp
    · exact l9.1
    · exact allLt_mem l9.2 p hp) lF (cb_drop lN fun p hp => .tail _ (.tail _ hp))
end
end Mine
end
section
namespace Mine
section
variable {prog : Program} {w : World} {A : Around} {E : Value → Shared → Prop} {s : Shared} {env : Env} {h₀ : Heap} {m : Str → Option Value} {Q : Value → Shared → Prop}
theorem fstr3 {a b y nm : Str} {ty : Tok} {k1 k3 : Nat} {p1 p2 p3 pn pos : Pos} (F : Fr h₀ env.locals s.heap m) (hm : m nm = some (.str y ty)) (hz : a.length + y.length + b.length ≤ 1000)
    (hk : env.scope.kind = .function) (hl : env.scope.names.lookup nm = some .local) (hd : (nm == ("__debug__" : Str)) = false)
    (h : ∀ t' k, Q (.str (a ++ (y ++ b)) t') { s with toks := k }) :
    wpAny (model prog w) A (eval (.JoinedStr [.Constant (.str a) k1 p1, .FormattedValue (.Name nm pn) (-1) none p2, .Constant (.str b) k3 p3] pos) env) Q E s := by
  have l1 : ∀ x y : Str, (x ++ y).length = x.length + y.length := fun x y => by
    show (x.cps ++ y.cps).size = _
    rw [Array.size_append]; rfl
  have e0 : ∀ x : Str, Str.empty ++ x = x := fun x => by
    show Str.mk (#[] ++ x.cps) = x
    simp
  have e1 : ∀ x y z : Str, x ++ y ++ z = x ++ (y ++ z) := fun x y z => by
    show Str.mk (x.cps ++ y.cps ++ z.cps) = Str.mk (x.cps ++ (y.cps ++ z.cps))
    rw [Array.append_assoc]
  have hz' : 1000 ≤ sizeLine := by rw [sizeLine_eq]; omega
  refine JoinedStr_many (joinParts_cons (wpAny_Constant_str ⟨by rw [e0]; omega, ?_⟩))
  refine joinParts_cons (FormattedValue_plain ?_)
  refine ldG (s := { s with toks := s.toks + 1 }) F.ns hm ?_ hk hl hd
  refine formatField_str ?_
  intro t' k
  refine ⟨by rw [e0, l1]; omega, ?_⟩
  refine joinParts_cons (wpAny_Constant_str ⟨by rw [e0, l1, l1]; omega, ?_⟩)
  refine joinParts_nil ?_ (by rw [e0, l1, l1]; omega)
  rw [e0, e1]
  exact h _ _
end
end Mine
namespace Mine
theorem tS_append (l l' : List Nat) : (tS l ++ tS l' : Str) = tS (l ++ l') := by
  show Str.mk _ = Str.mk _
  simp [tS]
noncomputable abbrev g1 (c : Nat) : List Nat := [40, 63, 62, 46, 42, 63, c, 41]
theorem w_open : Str.ofString "(?>.*?" = tS [40, 63, 62, 46, 42, 63] := by decide +kernel
theorem w_shut : Str.ofString ")" = tS [41] := by decide +kernel
theorem w_any : Str.ofString ".*" = tS [46, 42] := by decide +kernel
theorem w_first : Str.ofString "(?s:" = tS [40, 63, 115, 58] := by decide +kernel
theorem w_last : Str.ofString ")\\Z" = tS [41, 92, 90] := by decide +kernel
section
variable {prog : Program} {w : World} {A : Around} {E : Value → Shared → Prop} {s : Shared} {env : Env} {h₀ : Heap} {m : Str → Option Value} {Q : Value → Shared → Prop} {L D : Addr} {news : List (Addr × Obj)} {n : Nat}
theorem fstr_g {c : Nat} {nm : Str} {ty : Tok} {k1 k3 : Nat} {p1 p2 p3 pn pos : Pos} (F : Fr h₀ env.locals s.heap m) (hm : m nm = some (.str (ch c) ty))
    (hk : env.scope.kind = .function) (hl : env.scope.names.lookup nm = some .local) (hd : (nm == ("__debug__" : Str)) = false)
    (h : ∀ t' k, Q (.str (tS (g1 c)) t') { s with toks := k }) :
    wpAny (model prog w) A (eval (.JoinedStr [.Constant (.str (Str.ofString "(?>.*?")) k1 p1, .FormattedValue (.Name nm pn) (-1) none p2, .Constant (.str (Str.ofString ")")) k3 p3] pos) env) Q E s := by
  refine fstr3 F hm (Nat.le_of_ble_eq_true rfl) hk hl hd fun t' k => ?_
  have e : (Str.ofString "(?>.*?" ++ (ch c ++ Str.ofString ")") : Str) = tS (g1 c) := by
    rw [w_open, w_shut, show ch c = tS [c] from rfl, tS_append, tS_append]; rfl
  rw [e]
  exact h t' k
theorem fstr_p {l : List Nat} {nm : Str} {ty : Tok} {k1 k3 : Nat} {p1 p2 p3 pn pos : Pos} (F : Fr h₀ env.locals s.heap m) (hm : m nm = some (.str (tS l) ty)) (hz : l.length ≤ 900)
    (hk : env.scope.kind = .function) (hl : env.scope.names.lookup nm = some .local) (hd : (nm == ("__debug__" : Str)) = false)
    (h : ∀ t' k, Q (.str (tS ([40, 63, 115, 58] ++ (l ++ [41, 92, 90]))) t') { s with toks := k }) :
    wpAny (model prog w) A (eval (.JoinedStr [.Constant (.str (Str.ofString "(?s:")) k1 p1, .FormattedValue (.Name nm pn) (-1) none p2, .Constant (.str (Str.ofString ")\\Z")) k3 p3] pos) env) Q E s := by
  have z1 : (Str.ofString "(?s:").length = 4 := by decide +kernel
  have z2 : (Str.ofString ")\\Z").length = 3 := by decide +kernel
  refine fstr3 F hm (by rw [z1, z2, len_tS]; omega) hk hl hd fun t' k => ?_
  have e : (Str.ofString "(?s:" ++ (tS l ++ Str.ofString ")\\Z") : Str) = tS ([40, 63, 115, 58] ++ (l ++ [41, 92, 90])) := by
    rw [w_first, w_last, tS_append, tS_append]
  rw [e]
  exact h t' k
theorem join_led1 {x : Str} {t t0 : Tok} (N : News h₀ L s.heap news) (hm : (D, W.listOf [.str x t0].toArray n) ∈ news) (hz : x.length ≤ 1000) (h : ∀ t' k, Q (.str x t') { s with toks := k }) : wpAny (model prog w) A (call (.builtin "str.join") [.str (Str.ofString "") t, .ref D]) Q E s := by
  refine join_list (ys := [x]) (items := [Value.str x t0].toArray) ⟨_, (N _ hm).1, rfl, n, rfl⟩ (.cons _ _ .nil) ?_ fun t' k => ?_
  · have : (Str.ofString "").length = 0 := rfl
    simp [this]; omega
  · exact h t' k
theorem join_led4 {a b c : Nat} {t ta tb tc td : Tok} (N : News h₀ L s.heap news) (hm : (D, W.listOf [.str (tS (g1 a)) ta, .str (tS (g1 b)) tb, .str (tS (g1 c)) tc, .str (Str.ofString ".*") td].toArray n) ∈ news) (h : ∀ t' k, Q (.str (tS (grp [a, b, c] ++ [46, 42])) t') { s with toks := k }) :
    wpAny (model prog w) A (call (.builtin "str.join") [.str (Str.ofString "") t, .ref D]) Q E s := by
  refine join_list (ys := [tS (g1 a), tS (g1 b), tS (g1 c), Str.ofString ".*"]) (items := [Value.str (tS (g1 a)) ta, .str (tS (g1 b)) tb, .str (tS (g1 c)) tc, .str (Str.ofString ".*") td].toArray) ⟨_, (N _ hm).1, rfl, n, rfl⟩ (.cons _ _ (.cons _ _ (.cons _ _ (.cons _ _ .nil)))) ?_ fun t' k => ?_
  · exact Nat.le_of_ble_eq_true rfl
  · have e0 : Str.ofString "" = ⟨#[]⟩ := by decide +kernel
    have e : Txt.join (Str.ofString "") [tS (g1 a), tS (g1 b), tS (g1 c), Str.ofString ".*"] = tS (grp [a, b, c] ++ [46, 42]) := by
      rw [e0, w_any]
      show Builtin.Str.glued ⟨#[]⟩ _ = _
      rw [StrLaws.glued_eq_join, join_nil_cons, join_nil_cons, join_nil_cons]
      show (tS (g1 a) ++ (tS (g1 b) ++ (tS (g1 c) ++ tS [46, 42])) : Str) = _
      rw [tS_append, tS_append, tS_append]
      rfl
    rw [e]
    exact h t' k
end
end Mine
namespace Mine
section
variable {prog : Program} {w : World} {A : Around} {E : Value → Shared → Prop} {s : Shared} {h₀ : Heap} {Q : Value → Shared → Prop} {L D : Addr} {news : List (Addr × Obj)} {n : Nat}
theorem item_led {value slice : Expr} {vs : List Value} {k : Int} {u : Tok} {v : Value} (N : News h₀ L s.heap news) (hm : (D, W.listOf vs.toArray n) ∈ news) (h0 : 0 ≤ k) (hhi : k < 2 ^ 63) (hx : vs[k.toNat]? = some v) (h : Q v s)
    (hs : subscripted slice false (.ref D) (.int k u) = operate [.ref D, .int k u] (getItem (.ref D) (.int k u)) := by with_unfolding_all rfl) :
    wpAny (model prog w) A (subscriptTail value slice (.ref D) (.int k u)) Q E s := by
  have hl : s.heap.IsList D vs.toArray := ⟨_, (N _ hm).1, rfl, n, rfl⟩
  exact tail_any hl.typeIs slot_list_getitem.lookup (wpAny_getItem_list hl h0 hhi (by simpa using hx) h) hs
end
end Mine
end
section
local macro_rules | `(tactic| walk_at "ite") => `(tactic| (k_here; with_reducible refine ite_ff ?_))
local macro_rules | `(tactic| walk_at "subscriptTail Name Name ref int") => `(tactic| (k_here; k_dflt (refine' Mine.item_led ?N ?m ?a ?b ?x ?_ ?s; (case N => k_asm); (case m => k_mem); (case a => decide); (case b => decide); (case x => exact rfl); (case s => with_unfolding_all rfl); k_whole)))
local macro_rules | `(tactic| walk_at "getAttr ref") => `(tactic| (k_here; (with_reducible show wpAny _ _ (getAttr (Value.ref _) (PySem.Str.ofString "append") true) _ _ _); k_dflt (refine' Mine.attr_appendK ?F ?N ?l ?_; (case F => k_asm); (case N => k_asm); (case l => k_mem)); intro q' h' F' N' l1; (try k_lt l1)))
local macro_rules | `(tactic| walk_at "callWith ref") => `(tactic| (k_here; k_dflt (refine' Mine.callWith_bnd ?k1 ?k2 ?_; (case k1 => k_asm); (case k2 => k_mem); k_whole)))
local macro_rules | `(tactic| walk_at "BndAt") => `(tactic| (k_dflt (exact Mine.BndAt.of (by k_asm) (by k_mem))))
local macro_rules | `(tactic| walk_at "call ref") => `(tactic| (k_here; k_dflt (refine' Mine.bound_append ?F ?N ?q ?U ?z ?_; (case F => k_asm); (case N => k_asm); (case q => k_mem); (case U => k_upd); (case z => (rw [sizeLine_eq]; simp)); k_whole); intro h' F' N'; (try k_sweep); (try simp only [List.push_toArray, List.nil_append, List.cons_append] at N')))
local macro_rules | `(tactic| walk_at "call ref") => `(tactic| (k_here; (with_reducible show wpAny _ _ (call (Value.ref _) [Value.str _ _]) _ _ _); k_dflt (refine' Mine.c_escape ?kC ?kN ?kc ?_; (case kC => exact ⟨by k_asm, by k_asm, by k_asm, by k_asm, by first | exact rfl | assumption, by ktr_room, by ktr_units⟩); (case kN => k_asm); (case kc => assumption)); intro t' h' tk' F' N'; (try k_sweep)))
local macro_rules | `(tactic| walk_at "storeName") => `(tactic| (k_here; rw [Mine.len7]))
local macro_rules | `(tactic| walk_at "storeName") => `(tactic| (k_here; (first | rw [Mine.it0] | rw [Mine.it1] | rw [Mine.it2] | rw [Mine.it3] | rw [Mine.it4] | rw [Mine.it5] | rw [Mine.it6]); (try rw [Mine.star_is])))
local macro_rules | `(tactic| walk_at "storeName") => `(tactic| (k_here; (first | rw [Mine.n01] | rw [Mine.n12] | rw [Mine.n23] | rw [Mine.n34] | rw [Mine.n45] | rw [Mine.n56] | rw [Mine.n67])))
local macro_rules | `(tactic| walk_at "truthy ref") => `(tactic| (k_here; (with_reducible show wpAny _ _ (truthy (Value.ref _)) _ _ _); k_dflt (refine' kgr_truthy ?N ?m ?c ?d ?z ?_; (case N => k_asm); (case m => k_mem); (case c => exact rfl); (case d => exact rfl); (case z => (simp only [List.length_cons, List.length_nil]; omega)); k_whole); (try simp only [List.isEmpty_cons, List.isEmpty_nil, Bool.not_false, Bool.not_true])))
local macro_rules | `(tactic| walk_at "compareOp IsNot str ref") => `(tactic| (k_here; k_dflt (refine wpAny_isNot_other (by rfl) (by intro x; cases x) ?_)))
local macro_rules | `(tactic| walk_at "compareOp Eq str str") => `(tactic| (k_here; with_reducible refine Mine.eq_ne (by assumption) ?_))
local macro_rules | `(tactic| walk_at "exec While") => `(tactic| (k_here; k_dflt (refine whl_start 100 ?_)))
local macro_rules | `(tactic| walk_at "call builtin:str.join") => `(tactic| (k_here; (with_reducible show wpAny _ _ (call (Value.builtin _) [Value.str _ _, Value.ref _]) _ _ _); k_dflt (first | (refine' Mine.join_led1 ?N ?m ?z ?_; (case N => k_asm); (case m => k_mem); (case z => exact Nat.le_of_ble_eq_true rfl); k_whole) | (refine' Mine.join_led4 ?N ?m ?_; (case N => k_asm); (case m => k_mem); k_whole)); intro t' k'))
local macro_rules | `(tactic| walk_at "eval JoinedStr") => `(tactic| (k_here; (rename Fr _ _ _ _ => lF'); k_dflt (first | (refine' Mine.fstr_g lF' ?m ?k ?l ?d ?_; (case m => exact rfl); (case k => exact rfl); (case l => exact rfl); (case d => decide); k_whole) | (refine' Mine.fstr_p lF' ?m ?z ?k ?l ?d ?_; (case m => exact rfl); (case z => exact Nat.le_of_ble_eq_true rfl); (case k => exact rfl); (case l => exact rfl); (case d => decide); k_whole)); intro t' k'))
namespace Mine
section
variable {w : World} {p : Program} {loose : List Str} {mean : ExcName → Option Value} {mg mb : Str → Option Value}
  {dp un : Nat} {gd : Option (List Code)} {cn : Str} {cs : Scope} {a : Addr} {ccd : Value} {cl : List (Str × Addr)} {outer : List Env} {A₀ : Around} {base h₀ : Heap} {L : Addr} {m : Str → Option Value} {s : Shared} {Q E : Value → Shared → Prop}
theorem c_jtp {x y z : Nat} {S D : Addr} {t1 t2 t3 : Tok} {n : Nat} {news : List (Addr × Obj)} (C : Cy w p loose mean mg mb dp un cs outer A₀ base h₀ L m s.heap) (N : News h₀ L s.heap ((D, W.listOf [.ref S, .str (ch z) t1, .ref S, .str (ch x) t2, .ref S, .str (ch y) t3, .ref S].toArray n) :: (S, plainObj) :: news))
    (hret : ∀ (t : Tok) (h' : Heap) (tk' : Nat), Fr h₀ L h' m → News h₀ L h' ((S, plainObj) :: news) → Q (.str (tS (patL [z, x, y])) t) { s with heap := h', toks := tk' }) :
    wpAny (model PySem.Challenge.rw_ik0116_01.row.prog w) (ktrTop dp un gd cn cs L a ccd cl outer) (call (.ref 174) [.ref D, .ref S]) Q E s := by
  obtain ⟨B, F, X, T, hkd, hdp, hun⟩ := C
  revert X; k_fill; intro X
  refine wpAny_call ?_; k_dflt cell_enter
  k_steps
  (rename Fr _ _ _ _ => lF)
  (rename News _ _ _ _ => lN)
  have e9 : [40, 63, 115, 58] ++ ((grp [z, x, y] ++ [46, 42]) ++ [41, 92, 90]) = patL [z, x, y] := by simp [patL]
  rw [e9]
  exact hret _ _ _ lF (cb_drop lN fun p hp => by simp only [List.mem_cons] at hp ⊢; rcases hp with h | h <;> simp [h])
end
end Mine
end
section
local macro_rules | `(tactic| walk_at "call type:object") => `(tactic| (k_here; k_dflt (refine' Mine.call_objectK ?F ?N ?_; (case F => k_asm); (case N => k_asm)); intro q' h' F' N' l1; (try k_lt l1)))
local macro_rules | `(tactic| walk_at "call ref") => `(tactic| (k_here; (with_reducible show wpAny _ _ (call (Value.ref _) [Value.str _ _, Value.ref _, Value.str _ _]) _ _ _); k_dflt (refine' Mine.c_trl ?kC ?kN ?kx ?ky ?kz ?_; (case kC => exact ⟨by k_asm, by k_asm, by k_asm, by k_asm, by first | exact rfl | assumption, by ktr_room, by ktr_units⟩); (case kN => k_asm); (case kx => assumption); (case ky => assumption); (case kz => assumption)); intro D' t1' t2' t3' n' h' tk' l1 F' N'; (try k_lt l1)))
local macro_rules | `(tactic| walk_at "call ref") => `(tactic| (k_here; (with_reducible show wpAny _ _ (call (Value.ref _) [Value.ref _, Value.ref _]) _ _ _); k_dflt (refine' Mine.c_jtp ?kC ?kN ?_; (case kC => exact ⟨by k_asm, by k_asm, by k_asm, by k_asm, by first | exact rfl | assumption, by ktr_room, by ktr_units⟩); (case kN => k_asm)); intro t' h' tk' F' N'))
namespace Mine
noncomputable abbrev Cz (w : World) (p : Program) (loose : List Str) (mean : ExcName → Option Value) (mg mb : Str → Option Value) (dp un : Nat) (cs : Scope) (outer : List Env) (A₀ : Around) (base h₀ : Heap) (L : Addr) (m : Str → Option Value) (h : Heap) : Prop :=
  Below A₀ base outer h₀ ∧ Fr h₀ L h m ∧ (Mine.hd.heap_39 w.params).In h₀ ∧ Top p loose mean mg mb h₀ ∧ cs.kind = .function ∧ dp + 30 < recursionLimit ∧ un + 500 < cLine
section
variable {w : World} {p : Program} {loose : List Str} {mean : ExcName → Option Value} {mg mb : Str → Option Value}
  {dp un : Nat} {gd : Option (List Code)} {cn : Str} {cs : Scope} {a : Addr} {ccd : Value} {cl : List (Str × Addr)} {outer : List Env} {A₀ : Around} {base h₀ : Heap} {L : Addr} {m : Str → Option Value} {s : Shared} {Q E : Value → Shared → Prop}
theorem c_translate {x y z : Nat} {tx : Tok} {news : List (Addr × Obj)} (C : Cz w p loose mean mg mb dp un cs outer A₀ base h₀ L m s.heap) (N : News h₀ L s.heap news) (hx : Let5 x) (hy : Let5 y) (hz : Let5 z)
    (hret : ∀ (t : Tok) (h' : Heap) (tk' : Nat), Fr h₀ L h' m → News h₀ L h' news → Q (.str (tS (patL [z, x, y])) t) { s with heap := h', toks := tk' }) :
    wpAny (model PySem.Challenge.rw_ik0116_01.row.prog w) (ktrTop dp un gd cn cs L a ccd cl outer) (call (.ref 148) [.str (tS (pat7 x y z)) tx]) Q E s := by
  obtain ⟨B, F, X, T, hkd, hdp, hun⟩ := C
  revert X; k_fill; intro X
  refine wpAny_call ?_; k_dflt cell_enter
  k_steps
  (rename Fr _ _ _ _ => lF)
  (rename News _ _ _ _ => lN)
  exact hret _ _ _ lF (cb_drop lN fun p hp => .tail _ hp)
end
end Mine
end
section
namespace Mine
/-- a list's letters -/
inductive Chs : List Value → List Nat → Prop
  | nil : Chs [] []
  | cons {c : Nat} {t : Tok} {vs : List Value} {l : List Nat} : Chs vs l → Chs (.str (ch c) t :: vs) (c :: l)
theorem Chs.length {vs : List Value} {l : List Nat} (h : Chs vs l) : vs.length = l.length := by
  induction h with
  | nil => rfl
  | cons _ ih => simp [ih]
theorem Chs.strs {vs : List Value} {l : List Nat} (h : Chs vs l) : StrsAre vs (l.map ch) := by
  induction h with
  | nil => exact .nil
  | cons _ ih => exact .cons _ _ ih
theorem Chs.of {vs : List Value} : ∀ {l : List Nat}, StrsAre vs (l.map ch) → Chs vs l := by
  induction vs with
  | nil => intro l h; cases l with | nil => exact .nil | cons c l => cases h
  | cons v vs ih =>
    intro l h
    cases l with
    | nil => cases h
    | cons c l => cases h with | cons _ _ h => exact .cons (ih h)
theorem Chs.append {vs vs' : List Value} {l l' : List Nat} (h : Chs vs l) (h' : Chs vs' l') : Chs (vs ++ vs') (l ++ l') := by
  induction h with
  | nil => exact h'
  | cons _ ih => exact .cons ih
theorem Chs.one {c : Nat} {t : Tok} : Chs [.str (ch c) t] [c] := .cons .nil
theorem Chs.snoc_inv {vs : List Value} : ∀ {l : List Nat} {c : Nat}, Chs vs (l ++ [c]) → ∃ vs' t, vs = vs' ++ [Value.str (ch c) t] ∧ Chs vs' l := by
  induction vs with
  | nil => intro l c h; cases l <;> cases h
  | cons v vs ih =>
    intro l c h
    cases l with
    | nil => cases h with | cons h => cases h; exact ⟨[], _, rfl, .nil⟩
    | cons d l =>
      cases h with
      | cons h =>
        obtain ⟨vs', t, rfl, h'⟩ := ih h
        exact ⟨_ :: vs', t, rfl, .cons h'⟩
theorem Chs.eraseIdx {vs : List Value} {l : List Nat} (h : Chs vs l) : ∀ j, Chs (vs.eraseIdx j) (l.eraseIdx j) := by
  induction h with
  | nil => intro j; exact .nil
  | cons h ih =>
    intro j
    cases j with
    | zero => exact h
    | succ j => exact .cons (ih j)
theorem Chs.get {vs : List Value} {l : List Nat} (h : Chs vs l) : ∀ (j : Nat) (hj : j < vs.length), ∃ c t, l[j]? = some c ∧ vs[j] = .str (ch c) t := by
  induction h with
  | nil => intro j hj; exact absurd hj (Nat.not_lt_zero _)
  | cons h ih =>
    intro j hj
    cases j with
    | zero => exact ⟨_, _, rfl, rfl⟩
    | succ j => exact ih j (Nat.lt_of_succ_lt_succ hj)
noncomputable def isCh (c : Nat) : Value → Bool
  | .str x _ => x == ch c
  | _ => false
theorem isCh_eq (c d : Nat) (t : Tok) : isCh c (.str (ch d) t) = decide (d = c) := by
  show (ch d == ch c) = _
  by_cases h : d = c
  · subst h; simp
  · have : ch d ≠ ch c := fun e => h (by simpa [ch] using congrArg (fun s : Str => s.cps) e)
    rw [beq_false_of_ne this]; simp [h]
theorem chs_eq {vs : List Value} {l : List Nat} {c : Nat} {t : Tok} (h : Chs vs l) : ∀ y ∈ vs, MeetsSeq.EqGives y (.str (ch c) t) (isCh c y) := by
  induction h with
  | nil => intro y hy; cases hy
  | cons h ih =>
    intro y hy
    rcases List.mem_cons.mp hy with rfl | hy
    · exact eqGives_str _ _ _ _
    · exact ih y hy
section
variable {prog : Program} {w : World} {A : Around} {E : Value → Shared → Prop} {s : Shared} {h₀ : Heap} {L D : Addr} {m : Str → Option Value} {news news' : List (Addr × Obj)} {n : Nat} {Q : Value → Shared → Prop}
theorem pop_ch {vs : List Value} {c : Nat} {t : Tok} (F : Fr h₀ L s.heap m) (N : News h₀ L s.heap news) (U : Upd D (W.listOf (vs ++ [Value.str (ch c) t]).toArray n) (W.listOf vs.toArray (n + 1)) news news') (hz : vs.length ≤ 100)
    (h : ∀ h', Fr h₀ L h' m → News h₀ L h' news' → Q (.str (ch c) t) { s with heap := h' }) : wpAny (model prog w) A (call (.builtin "list.pop") [.ref D]) Q E s :=
  kl_pop F N (p := vs) (y := .str (ch c) t) (by simpa using kpa_last (.str (ch c) t) vs) U (by rw [sizeLine_eq]; simp; omega) fun h' F' N' => h h' F' N'
theorem rem_in {vs : List Value} {l : List Nat} {c : Nat} {t : Tok} (_hm : (D, W.listOf vs.toArray n) ∈ news) (hv : Chs vs l) (hc : c ∈ l) (F : Fr h₀ L s.heap m) (N : News h₀ L s.heap news) (U : Upd D (W.listOf vs.toArray n) (W.listOf (vs.eraseIdx (l.idxOf c)).toArray (n + 1)) news news') (hz : l.length ≤ 100)
    (h : ∀ h', Fr h₀ L h' m → News h₀ L h' news' → Chs (vs.eraseIdx (l.idxOf c)) (l.erase c) → Q .none { s with heap := h' }) : wpAny (model prog w) A (call (.builtin "list.remove") [.ref D, .str (ch c) t]) Q E s := by
  obtain ⟨pre, post, rfl, rfl, a', b'⟩ := U.split
  have z := N (D, W.listOf vs.toArray n) (List.mem_append.mpr (.inr (.head _)))
  have hl := hv.length
  have hj : l.idxOf c < l.length := List.idxOf_lt_length_of_mem hc
  have hs : vs.toArray.size = l.length := by simp [hl]
  refine call_meets PySem.F.slot_list_remove ⟨_, z.1, rfl⟩ PySem.F.entry_list_remove (PySem.F.args_list_remove_2 _ _)
    (MeetsSeq.list_remove D vs.toArray n (.str (ch c) t) (isCh c) (fun y hy => chs_eq hv y (by simpa using hy)) (l.idxOf c) (by omega) ?_ (fun i hi hlt => ?_) (by rw [sizeLine_eq]; omega))
    ⟨z.1, h _ (F.change (Heap.SameBut.update ..) z.2.1 z.2.2) (ki_turn _ N a' b' ?_ ?_) (by rw [List.erase_eq_eraseIdx_of_idxOf rfl]; exact hv.eraseIdx _)⟩
  · obtain ⟨d, u, h1, h2⟩ := hv.get (l.idxOf c) (by omega)
    simp only [List.getElem_toArray]
    rw [h2, isCh_eq]
    rw [List.getElem?_eq_getElem hj, List.getElem_idxOf] at h1
    simp at h1
    simp [h1]
  · obtain ⟨d, u, h1, h2⟩ := hv.get i (by simpa using hi)
    simp only [List.getElem_toArray]
    rw [h2, isCh_eq]
    have hd : d ≠ c := fun e => by
      subst e
      have hil : i < l.length := by omega
      rw [List.getElem?_eq_getElem hil] at h1
      have := List.not_of_lt_findIdx (p := (· == d)) (xs := l) (i := i) hlt
      simp at h1 this
      exact this h1
    simp [hd]
  · show vs.toArray.eraseIdxIfInBounds (l.idxOf c) = (vs.eraseIdx (l.idxOf c)).toArray
    apply Array.toList_inj.mp
    simp [Array.toList_eraseIdxIfInBounds]
  · have hq : (vs.eraseIdx (l.idxOf c)).toArray.size ≠ vs.toArray.size := by
      rw [List.size_toArray, List.size_toArray, List.length_eraseIdx]
      rw [if_pos (by omega)]
      omega
    rw [if_neg (by simpa using hq)]
theorem rem_out {vs : List Value} {l : List Nat} {c : Nat} {t : Tok} (hA : A.handled = none) (hv : Chs vs l) (hc : c ∉ l) (N : News h₀ L s.heap news) (hm : (D, W.listOf vs.toArray n) ∈ news)
    (hE : ∀ h' tk e, Heap.NewExc s.heap h' e "ValueError" → E (.ref e) { s with heap := h', toks := tk }) : wpAny (model prog w) A (call (.builtin "list.remove") [.ref D, .str (ch c) t]) Q E s := by
  refine call_meets PySem.F.slot_list_remove ⟨_, (N _ hm).1, rfl⟩ PySem.F.entry_list_remove (PySem.F.args_list_remove_2 _ _)
    (MeetsSeq.list_remove_none D vs.toArray n (.str (ch c) t) (isCh c) (fun y hy => chs_eq hv y (by simpa using hy)) (fun i hi => ?_)) ⟨(N _ hm).1, hA, fun h' tk e x => hE h' tk e x⟩
  obtain ⟨d, u, h1, h2⟩ := hv.get i (by simpa using hi)
  simp only [List.getElem_toArray]
  rw [h2, isCh_eq]
  have : d ≠ c := fun e => hc (e ▸ List.mem_of_getElem? h1)
  simp [this]
end
end Mine
end
section
namespace Mine
noncomputable abbrev mU (X Y M : Addr) (bm : Str → Option Value) : Str → Option Value := fun z =>
  if z = Str.ofString "missing" then some (.ref M) else if z = Str.ofString "actual" then some (.ref Y) else if z = Str.ofString "expected" then some (.ref X) else bm z
theorem mU_of {X Y M : Addr} {bm : Str → Option Value} (h1 : bm (Str.ofString "expected") = some (.ref X)) (h2 : bm (Str.ofString "actual") = some (.ref Y)) (h3 : bm (Str.ofString "missing") = some (.ref M)) : bm = mU X Y M bm := by
  funext z
  simp only [mU]
  split
  · rename_i h; rw [h, h3]
  · split
    · rename_i h; rw [h, h2]
    · split
      · rename_i h; rw [h, h1]
      · rfl
section
open PyProof.Rows.TI PyProof.Rows.TLg
theorem enter_try {prog : Program} {w : World} {A : Around} {s : Shared} {h₀ : Heap} {L : Addr} {m : Str → Option Value} {env : Env} {news : List (Addr × Obj)} {K : Frag} {p : Program} {loose : List Str} {mean : ExcName → Option Value} {mg mb : Str → Option Value}
    {R : Result → Shared → Prop} {name qual : Str} {params : Arguments} {body : List Stmt} {scope : Scope} {dV kV doc pm cdv ct oc : Value} {an od : Option Addr} {osl : Array (Option Value)} {f : Addr} {args : Args} {binds : List (Str × Value)}
    (F : Fr h₀ L s.heap m) (X₀ : K.In h₀) (N : News h₀ L s.heap news) (T : Top p loose mean mg mb h₀) (hkind : env.scope.kind ≠ .module) (hfL : env.frame = some L)
    (ho : K.lookup f = some ⟨oc, od, .func (fnOf name qual params body scope dV kV doc pm an cdv ct), osl⟩) (hcd : codeIn K cdv qual = true) (hroom : A.depth < recursionLimit)
    (hbind : BindsTo s (fnOf name qual params body scope dV kV doc pm an cdv ct) args binds) (hloc : ∀ y ∈ binds, scope.names.lookup y.1 = some .local)
    (h : ∀ oL L' h₁, Caller h₀ L m oL → Frs [env] [(L, oL)] → Fr h₀ L' h₁ (fun y => binds.reverse.lookup y) → News h₀ L' h₁ (news ++ [(L, oL)]) →
      wpAny (model prog w) (A.deeper (envOf qual scope L' f cdv)) (execs body (envOf qual scope L' f cdv))
        (fun fl s' => LeaveI s' (R (.ok (.ret (match fl with | .ret v => v | _ => .none))) s'))
        (fun e s' => wpAny (model prog w) (A.deeper (envOf qual scope L' f cdv)) (leaving (envOf qual scope L' f cdv) e) (fun _ s'' => LeaveX (R (.error e) s'')) (fun e' s'' => LeaveX (R (.error e') s'')) s')
        { s with heap := h₁, toks := s.toks + binds.length })
    (hco : scope.isCoroutine = false := by rfl) (hgen : scope.isGenerator = false := by rfl) (hk : scope.kind = .function := by rfl)
    (hcell : ∀ x ∈ scope.names, x.2 ≠ .cell := by decide) : codeAny (model prog w) A (.call (.ref f) args) R s := by
  have X := X₀.keeps F.keep
  obtain ⟨oL, es, ep, hL, hLd, hLk, hLf⟩ := F.ns
  have hLt := Heap.lt_size hL
  refine codeAny_call_def (fd := fnOf name qual params body scope dV kV doc pm an cdv ct) (body := body) (binds := binds) hroom (X _ _ ho) rfl (T.nolimit.keeps F.keep) (codeRec_of X hcd) rfl hbind hcell hloc (fun h₁ hns up => ?_) hco hgen hk
  refine wpAny_mono (h oL s.heap.objs.size h₁ ⟨fun h' sl e => ⟨_, es, ep, e, hLd, hLk, hLf⟩, ⟨es, ep, hLd⟩, F.above⟩ ⟨hkind, hfL, ⟨es, ep, hLd⟩, trivial⟩
    ⟨hns, fun b o e => up b o (F.keep b o e), Nat.le_trans F.above (Nat.le_of_lt hLt)⟩ (fun p hp => ?_)) (fun _ _ x => x) fun _ _ x => wpAny_mono x (fun _ _ y => y) fun _ _ y => y
  rcases List.mem_append.mp hp with hp | hp
  · obtain ⟨h1, h2, h3⟩ := N p hp
    exact ⟨up _ _ h1, Nat.ne_of_lt (Heap.lt_size h1), h3⟩
  · rw [List.mem_singleton.mp hp]
    exact ⟨up _ _ hL, Nat.ne_of_lt hLt, Heap.get?_none_of_le F.above⟩
theorem noted_u {prog : Program} {w : World} {A₀ : Around} {E : Value → Shared → Prop} {s' : Shared} {h h₀ : Heap} {a e L L' : Addr} {oL : Obj} {m : Str → Option Value} {name : Str} {scope : Scope} {cd : Value} {Q : Unit → Shared → Prop} {X : String} {env : Env} {p1 p2 p3 : Addr × Obj} {news : List (Addr × Obj)}
    (hfr : A₀.frames = some [env]) (Fs : Frs [env] [(L, oL)]) (hx : Heap.NewExc h s'.heap e X) (F : Fr h₀ L' h m) (N : News h₀ L' h (p1 :: p2 :: p3 :: (news ++ [(L, oL)]))) (h1 : p1.1 ≠ L) (h2 : p2.1 ≠ L) (h3 : p3.1 ≠ L) (hne : ∀ p ∈ news, p.1 ≠ L) (hM : ∀ p ∈ news ++ [(L, oL)], p.1 ≠ p1.1)
    (k : ∀ h' sl, (∀ p ∈ news ++ [(L, { oL with slots := sl })], p.1 ≠ p1.1) → Frs [env] [(L, { oL with slots := sl })] → TT.HeldN h₀ L' h' m e X (p1 :: p2 :: p3 :: (news ++ [(L, { oL with slots := sl })])) → Q () { s' with heap := h' }) (hk : scope.kind = .function := by rfl) :
    wpAny (model prog w) (A₀.deeper (envOf name scope L' a cd)) (noteFrame (.ref e) (envOf name scope L' a cd)) Q E s' := by
  refine noted_newA (new := p1 :: p2 :: p3 :: news) hfr Fs hx F N (fun p hp hm => ?_) (fun h' frs' SU Fs' H => ?_) hk
  · rcases List.mem_cons.mp hm with q | hm
    · exact (N p (List.mem_append_left [(L, oL)] hp)).2.1 q
    · have q : p.1 = L := List.mem_singleton.mp hm
      rcases List.mem_cons.mp hp with rfl | hp
      · exact h1 q
      · rcases List.mem_cons.mp hp with rfl | hp
        · exact h2 q
        · rcases List.mem_cons.mp hp with rfl | hp
          · exact h3 q
          · exact hne p hp q
  · obtain ⟨sl, rfl⟩ := one_up SU
    exact k h' sl (fun p hp => by
      rcases List.mem_append.mp hp with hp | hp
      · exact hM p (List.mem_append_left _ hp)
      · rw [List.mem_singleton.mp hp]; exact hM (L, oL) (by simp)) Fs' H
theorem clause_hitM {prog : Program} {w : World} {A₀ : Around} {E : Value → Shared → Prop} {s' : Shared} {h₀ : Heap} {L a e : Addr} {m : Str → Option Value} {name : Str} {scope : Scope} {cd : Value} {news : List (Addr × Obj)} {K : Frag}
    {b₀ : Stmt} {suite : List Stmt} {pos np : Pos} {rest : List ExceptHandler} {Q : Flow → Shared → Prop} {p : Program} {loose : List Str} {mean : ExcName → Option Value} {mg mb : Str → Option Value} {fl : Value}
    (H : TT.HeldNA h₀ L s'.heap m e "ValueError" news fl) (T : Top p loose mean mg mb h₀) (XK : K.In h₀) (e1 : nsIn K mainGlobals (Str.ofString "ValueError") = some none)
    (k : ∀ h', Fr h₀ L h' m → News h₀ L h' news → wpAny (model prog w) ((A₀.deeper (envOf name scope L a cd)).mark (some (.ref e))) (execs (b₀ :: suite) (envOf name scope L a cd)) Q E { s' with heap := h' })
    (hk : scope.kind = .function := by rfl) (hxk : (envOf name scope L a cd).kindOf (Str.ofString "ValueError") = some .globalImplicit := by rfl)
    (hE : PassesOwnAt (model prog w) ((A₀.deeper (envOf name scope L a cd)).mark (some (.ref e))) (A₀.deeper (envOf name scope L a cd)) (envOf name scope L a cd) E := by passes_own) :
    wpAny (model prog w) (A₀.deeper (envOf name scope L a cd)) (handleBy (.ref e) (envOf name scope L a cd) (.ExceptHandler (some (.Name (Str.ofString "ValueError") np)) none (b₀ :: suite) pos :: rest)) Q E s' := by
  have T' := T.keeps H.held.fr.keep
  refine wpAny_handleBy_builtin (X := "ValueError") (T := "ValueError") (b := true) (isSubtype_of_subB (by decide +kernel)) (isSubtype_of_subB (by decide +kernel)) (isSubtype_of_subB (by decide +kernel)) (wpAny_passesOwnAt hE
    (Name_function_global hk hxk (loadGlobal_builtin (env := envOf name scope L a cd) T'.g (mg_none_of XK T.g e1) T'.b ((T.builtins _ (by decide)).trans (by boot_by_name)) ⟨rfl, H.isA, ?_⟩) (by decide)))
  rw [if_pos rfl]
  exact H.lands fun h' F' N' => wpAny_passesOwnAt hE (k h' F' N')
theorem leave_u {P : Prop} {s' : Shared} {h₀ : Heap} {L L' : Addr} {m m' : Str → Option Value} {oL : Obj} {new nw : List (Addr × Obj)} {sl : Array (Option Value)} (C : Caller h₀ L m oL) (F' : Fr h₀ L' s'.heap m') (N' : News h₀ L' s'.heap nw) (hL : (L, { oL with slots := sl }) ∈ nw) (hs : ∀ p ∈ new, p ∈ nw) (hne : ∀ p ∈ new, p.1 ≠ L)
    (k : Fr h₀ L s'.heap m → News h₀ L s'.heap new → P) : LeaveI s' P :=
  k ⟨C.ns _ sl (N' _ hL).1, F'.keep, C.above⟩ fun p hp => ⟨(N' p (hs p hp)).1, hne p hp, (N' p (hs p hp)).2.2⟩
end
noncomputable abbrev ledU (X Y M : Addr) (vsX vsY vsM : List Value) (nX nY nM : Nat) (rest : List (Addr × Obj)) : List (Addr × Obj) := (M, W.listOf vsM.toArray nM) :: (Y, W.listOf vsY.toArray nY) :: (X, W.listOf vsX.toArray nX) :: rest
noncomputable abbrev restL (L : Addr) (oL : Obj) (sl : Array (Option Value)) (news : List (Addr × Obj)) : List (Addr × Obj) := news ++ [(L, { oL with slots := sl })]
noncomputable def UJ (X Y M L : Addr) (oL : Obj) (fe : Env) (news : List (Addr × Obj)) (R : List Nat × List Nat) (n : Nat) (m : Str → Option Value) (nw : List (Addr × Obj)) : Prop :=
  ∃ ex act mis vsX vsY vsM nX nY nM sl, n = ex.length ∧ mis.length + ex.length ≤ 50 ∧ act.length ≤ 50 ∧ R = (mis ++ (diff ex.reverse act).1, (diff ex.reverse act).2) ∧ Chs vsX ex ∧ Chs vsY act ∧ Chs vsM mis ∧
    m (Str.ofString "expected") = some (.ref X) ∧ m (Str.ofString "actual") = some (.ref Y) ∧ m (Str.ofString "missing") = some (.ref M) ∧ PyProof.Rows.TI.Frs [fe] [(L, { oL with slots := sl })] ∧ nw = ledU X Y M vsX vsY vsM nX nY nM (restL L oL sl news)
theorem truthy_snoc {prog : Program} {w : World} {A : Around} {E : Value → Shared → Prop} {s : Shared} {h₀ : Heap} {L a : Addr} {news : List (Addr × Obj)} {vs : List Value} {v : Value} {n : Nat} {Q : Bool → Shared → Prop} (N : News h₀ L s.heap news) (hm : (a, W.listOf (vs ++ [v]).toArray n) ∈ news) (hz : vs.length ≤ 1000)
    (h : Q true { s with toks := s.toks + 1 + 1 }) : wpAny (model prog w) A (truthy (.ref a)) Q E s :=
  kgr_truthy N hm rfl rfl (by simp; omega) (by rw [show (!(vs ++ [v]).isEmpty) = true by simp]; exact h)
section
variable {prog : Program} {w : World} {A : Around} {E : Value → Shared → Prop} {Q : Flow → Shared → Prop} {s : Shared} {env fe : Env} {h₀ : Heap}
theorem u_loop {X Y M L : Addr} {oL : Obj} {ex act : List Nat} {vsX vsY : List Value} {nX nY nM : Nat} {news : List (Addr × Obj)} {test : Expr} {body : List Stmt} {pos : Pos} {m : Str → Option Value}
    (F : Fr h₀ env.locals s.heap m) (N : News h₀ env.locals s.heap ((M, W.listOf #[] nM) :: (Y, W.listOf vsY.toArray nY) :: (X, W.listOf vsX.toArray nX) :: (news ++ [(L, oL)]))) (hX : Chs vsX ex) (hY : Chs vsY act) (hz : ex.length ≤ 50) (hz2 : act.length ≤ 50) (Fs : PyProof.Rows.TI.Frs [fe] [(L, oL)])
    (h0 : m (Str.ofString "expected") = some (.ref X)) (h1 : m (Str.ofString "actual") = some (.ref Y)) (h2 : m (Str.ofString "missing") = some (.ref M))
    (turn : Held (∀ n m₁ news₁ h₁ tk₁, Fr h₀ env.locals h₁ m₁ → News h₀ env.locals h₁ news₁ → UJ X Y M L oL fe news (diff ex.reverse act) n m₁ news₁ →
      wpAny (model prog w) A (isTrue test env (eval test env)) (fun b s₂ =>
        if b = true then wpAny (model prog w) A (execs body env) (WhileStep2 h₀ env.locals s (UJ X Y M L oL fe news (diff ex.reverse act)) Q n) E s₂ else Q .next s₂) E { s with heap := h₁, toks := tk₁ }))
    (hE : PassesOwn (model prog w) A env E := by passes_own) : wpAny (model prog w) A (exec (.While test body [] pos) env) Q E s :=
  While_inv2 (UJ X Y M L oL fe news (diff ex.reverse act)) F N ⟨ex, act, [], vsX, vsY, [], nX, nY, nM, oL.slots, rfl, by simpa using hz, hz2, by simp, hX, hY, .nil, h0, h1, h2, Fs, rfl⟩ turn hE
theorem u_next {s₃ : Shared} {h' : Heap} {L' X Y M L : Addr} {oL : Obj} {ex act mis : List Nat} {vsX vsY vsM : List Value} {nX nY nM tk n : Nat} {news : List (Addr × Obj)} {R : List Nat × List Nat} {m : Str → Option Value} {sl : Array (Option Value)}
    (F : Fr h₀ L' h' m) (N : News h₀ L' h' (ledU X Y M vsX vsY vsM nX nY nM (restL L oL sl news))) (hn : ex.length < n) (hz : mis.length + ex.length ≤ 50) (hz2 : act.length ≤ 50) (hR : R = (mis ++ (diff ex.reverse act).1, (diff ex.reverse act).2)) (hX : Chs vsX ex) (hY : Chs vsY act) (hM : Chs vsM mis)
    (h0 : m (Str.ofString "expected") = some (.ref X)) (h1 : m (Str.ofString "actual") = some (.ref Y)) (h2 : m (Str.ofString "missing") = some (.ref M)) (Fs : PyProof.Rows.TI.Frs [fe] [(L, { oL with slots := sl })])
    (e : s₃ = { s with heap := h', toks := tk }) : WhileStep2 h₀ L' s (UJ X Y M L oL fe news R) Q n .next s₃ :=
  ⟨h', tk, m, _, ex.length, e, F, N, hn, ex, act, mis, vsX, vsY, vsM, nX, nY, nM, sl, rfl, hz, hz2, hR, hX, hY, hM, h0, h1, h2, Fs, rfl⟩
end
end Mine
local macro_rules | `(tactic| walk_at "truthy ref") => `(tactic| (k_here; (with_reducible show wpAny _ _ (truthy (Value.ref _)) _ _ _); k_dflt (refine' kgr_truthy ?N ?m ?c ?d ?z ?_; (case N => k_asm); (case m => k_mem); (case c => exact rfl); (case d => exact rfl); (case z => first | exact Nat.le_of_ble_eq_true rfl | (simp only [List.length_append, List.length_cons, List.length_nil]; omega)); k_whole); (try simp only [List.isEmpty_append, Bool.and_false, List.isEmpty_cons, List.isEmpty_nil, Bool.not_false, Bool.not_true])))
local macro_rules | `(tactic| walk_at "truthy ref") => `(tactic| (k_here; (with_reducible show wpAny _ _ (truthy (Value.ref _)) _ _ _); k_dflt (refine' Mine.truthy_snoc ?N ?m ?z ?_; (case N => k_asm); (case m => k_mem); (case z => omega); k_whole)))
local macro_rules | `(tactic| walk_at "call builtin:list.pop") => `(tactic| (k_here; (with_reducible show wpAny _ _ (call (Value.builtin _) [Value.ref _]) _ _ _); k_dflt (refine' Mine.pop_ch ?F ?N ?U ?z ?_; (case F => k_asm); (case N => k_asm); (case U => k_upd); (case z => omega); k_whole); intro h' F' N'))
local macro_rules | `(tactic| walk_at "call builtin:list.remove") => `(tactic| (k_here; (with_reducible show wpAny _ _ (call (Value.builtin _) [Value.ref _, Value.str _ _]) _ _ _); k_dflt (first
  | (refine' Mine.rem_in ?m ?v ?c ?F ?N ?U ?z ?_; (case F => k_asm); (case N => k_asm); (case m => k_mem); (case v => assumption); (case c => assumption); (case U => k_upd); (case z => omega); k_whole; intro h' F' N' hc9')
  | (refine' Mine.rem_out ?h ?v ?c ?N ?m ?_; (case h => exact rfl); (case N => k_asm); (case m => k_mem); (case v => assumption); (case c => assumption); k_whole; intro h' tk' e' x'))))
local macro_rules | `(tactic| walk_at "exec While") => `(tactic| (k_here; (rename Fr _ _ _ _ => lF'); (rename News _ _ _ _ => lN'); (with_unfolding_all refine Mine.u_loop lF' lN' (by assumption) (by assumption) (by assumption) (by assumption) (by assumption) rfl rfl rfl ?_); clear lF' lN'))
local macro_rules | `(tactic| walk_at "noteFrame ref") => `(tactic| (k_here; k_dflt (refine' Mine.noted_u ?r ?Fs ?x ?F ?N ?a ?b ?c ?d ?e ?_; (case r => exact rfl); (case x => assumption); (case F => k_asm); (case N => assumption); (case Fs => assumption); (case a => assumption); (case b => assumption); (case c => assumption); (case d => assumption); (case e => assumption)); intro h' sl' hM9' Fs' tiH'; have tiHH' := PyProof.Rows.TT.HeldNA.held tiH'))
local macro_rules | `(tactic| walk_at "handleBy ref") => `(tactic| (k_here; (with_reducible rename PyProof.Rows.TT.HeldNA _ _ _ _ _ _ _ _ => ttN9); k_dflt (refine' Mine.clause_hitM ttN9 ?T ?X ?e ?_; (case T => assumption); (case X => assumption); (case e => k_is); k_whole); clear ttN9; intro h' F' N'))
namespace Mine
section
variable {w : World} {p : Program} {loose : List Str} {mean : ExcName → Option Value} {mg mb : Str → Option Value}
  {dp un : Nat} {gd : Option (List Code)} {cn : Str} {cs : Scope} {a : Addr} {ccd : Value} {cl : List (Str × Addr)} {outer : List Env} {A₀ : Around} {base h₀ : Heap} {L : Addr} {m : Str → Option Value} {s : Shared} {Q E : Value → Shared → Prop}
theorem c_uld {X Y : Addr} {ex act : List Nat} {vsX vsY : List Value} {nX nY : Nat} {news : List (Addr × Obj)} (C : Cx w p loose mean mg mb dp un cs [] A₀ base h₀ L m s.heap) (N : News h₀ L s.heap ((Y, W.listOf vsY.toArray nY) :: (X, W.listOf vsX.toArray nX) :: news)) (hX : Chs vsX ex) (hY : Chs vsY act) (hz : ex.length ≤ 50) (hz2 : act.length ≤ 50)
    (hXY : X < Y) (h1 : ∀ p ∈ news, p.1 ≠ X) (h2 : ∀ p ∈ news, p.1 ≠ Y)
    (hret : ∀ (T M : Addr) (vsM vsZ : List Value) (nM nZ nX' : Nat) (h' : Heap) (tk' : Nat), Chs vsM (diff ex.reverse act).1 → Chs vsZ (diff ex.reverse act).2 → Y < M → M < T → (∀ p ∈ news, p.1 < M) → Fr h₀ L h' m →
      News h₀ L h' ((T, { cls := .type "tuple", data := .seq [Value.ref M, Value.ref Y].toArray }) :: (M, W.listOf vsM.toArray nM) :: (Y, W.listOf vsZ.toArray nZ) :: (X, W.listOf ([] : List Value).toArray nX') :: news) → Q (.ref T) { s with heap := h', toks := tk' }) :
    wpAny (model PySem.Challenge.rw_ik0116_01.row.prog w) (ktrTop dp un gd cn cs L a ccd cl []) (call (.ref 45) [.ref X, .ref Y]) Q E s := by
  have hXY' : @LT.lt Nat _ X Y := hXY
  obtain ⟨B, F, X₀, T, hkd, hdp, hun⟩ := C
  have yL : Y ≠ L := (N _ (.head _)).2.1
  have xL : X ≠ L := (N _ (.tail _ (.head _))).2.1
  have nL : ∀ p ∈ news, p.1 ≠ L := fun p hp => (N _ (.tail _ (.tail _ hp))).2.1
  revert X₀; k_fill; intro X₀
  refine wpAny_call ?_
  refine Mine.enter_try (env := envX cn cs L a ccd cl) F X₀ N T ?hk rfl (by k_is) (by k_is) (by ktr_room) (BindsTo.of_eq rfl) (locs rfl) ?_
  case hk => show cs.kind ≠ _; rw [hkd]; decide
  intro oL L' h₁ C' Fs F' N'
  dsimp only [List.cons_append] at N'
  k_steps
  unfold Held
  intro n m₁ nw₁ h₁ tk₁ F N hJ
  dsimp only [envOf] at F N
  obtain ⟨ex₁, act₁, mis, wX, wY, wM, kX, kY, kM, sl, hn, hz₁, hz₂, hR, cX, cY, cM, e0, e1, e2, Fs₁, rfl⟩ := hJ
  rw [mU_of e0 e1 e2] at F
  clear e0 e1 e2
  have l9 := (show Y < _ ∧ X < _ ∧ AllLt _ (news ++ [(L, oL)]) from by assumption)
  have hlt := allLt_mem l9.2.2
  have mL := (Nat.ne_of_lt (hlt (L, oL) (by simp))).symm
  have hrX : ∀ p ∈ restL L oL sl news, p.1 ≠ X := fun p hp => by
    rcases List.mem_append.mp hp with hp | hp
    · exact h1 p hp
    · rw [List.mem_singleton.mp hp]; exact Ne.symm xL
  have hrY : ∀ p ∈ restL L oL sl news, p.1 ≠ Y := fun p hp => by
    rcases List.mem_append.mp hp with hp | hp
    · exact h2 p hp
    · rw [List.mem_singleton.mp hp]; exact Ne.symm yL
  have hrM := fun p (hp : p ∈ restL L oL sl news) => (show p.1 ≠ _ from by
    rcases List.mem_append.mp hp with hp | hp
    · exact Nat.ne_of_lt (hlt p (List.mem_append_left _ hp))
    · rw [List.mem_singleton.mp hp]; exact Ne.symm mL)
  have hlM : wM.toArray.size ≤ 50 := by
    have := cM.length
    simp
    omega
  rcases List.eq_nil_or_concat ex₁ with rfl | ⟨ex₂, c, he⟩
  · cases cX
    k_steps
    (rename Fr _ _ _ _ => lF)
    (rename News _ _ _ _ => lN)
    rename_i l8
    have h8 := (show _ < _ ∧ Y < _ ∧ X < _ ∧ AllLt _ (restL L oL sl news) from l8)
    have hD := (Nat.ne_of_lt (allLt_mem h8.2.2.2 (L, { oL with slots := sl }) (by simp [restL]))).symm
    refine leave_u C' lF lN (sl := sl) ?_ ?_ ?_ (fun F9 N9 => hret _ _ wM wY kM kY kX _ _ ?_ ?_ l9.1 h8.1 (fun p hp => hlt p (List.mem_append_left _ hp)) F9 N9)
    · simp [restL]
    · intro p hp
      simp only [List.mem_cons, List.mem_append] at hp ⊢
      rcases hp with h | h | h | h | h <;> simp [h]
    · intro p hp
      rcases List.mem_cons.mp hp with rfl | hp
      · exact hD
      · rcases List.mem_cons.mp hp with rfl | hp
        · exact mL
        · rcases List.mem_cons.mp hp with rfl | hp
          · exact yL
          · rcases List.mem_cons.mp hp with rfl | hp
            · exact xL
            · exact nL p hp
    · rw [hR]; simpa [diff] using cM
    · rw [hR]; simpa [diff] using cY
  · rw [List.concat_eq_append] at he
    subst he
    obtain ⟨wX', t, rfl, cX'⟩ := cX.snoc_inv
    have hlX := cX'.length
    rw [List.length_append, List.length_singleton] at hz₁
    by_cases hc : c ∈ act₁
    · k_steps
      (rename Fr _ _ _ _ => lF)
      (rename News _ _ _ _ => lN)
      have hd : diff (ex₂ ++ [c]).reverse act₁ = diff ex₂.reverse (act₁.erase c) := by rw [List.reverse_append]; simp [diff, hc]
      exact u_next lF lN (by rw [hn]; simp) (by omega) (Nat.le_trans List.length_erase_le hz₂) (by rw [hR, hd]) cX' (by assumption) cM rfl rfl rfl Fs₁ rfl
    · k_steps
      (rename Fr _ _ _ _ => lF)
      (rename News _ _ _ _ => lN)
      have hd : diff (ex₂ ++ [c]).reverse act₁ = (c :: (diff ex₂.reverse act₁).1, (diff ex₂.reverse act₁).2) := by rw [List.reverse_append]; simp [diff, hc]
      simp only [List.push_toArray] at lN
      exact u_next lF lN (by rw [hn]; simp) (by rw [List.length_append, List.length_singleton]; omega) hz₂ (by rw [hR, hd]; simp) cX' cY (cM.append .one) rfl rfl rfl (by assumption) rfl
end
end Mine
end
section
local macro_rules | `(tactic| walk_at "call ref") => `(tactic| (k_here; (with_reducible show wpAny _ _ (call (Value.ref _) [Value.str _ _, Value.str _ _]) _ _ _); k_dflt (refine' Mine.c_cmp ?kC ?kN ?_; (case kC => exact ⟨by k_asm, by k_asm, by k_asm, by k_asm, by first | exact rfl | assumption, by ktr_room, by ktr_units⟩); (case kN => k_asm)); intro t' h' tk' F' N'; (try k_sweep)))
local macro_rules | `(tactic| walk_at "call ref") => `(tactic| (k_here; (with_reducible show wpAny _ _ (call (Value.ref _) [Value.ref _]) _ _ _); k_dflt (refine' Mine.c_lastS ?kC ?kS ?kl ?kr ?kN ?_; (case kC => exact ⟨by k_asm, by k_asm, by k_asm, by k_asm, by first | exact rfl | assumption, by ktr_room, by ktr_units⟩); (case kS => assumption); (case kl => assumption); (case kN => first | k_asm | (refine' cb_drop ?kN1 ?kN2; (case kN1 => assumption); (case kN2 => kstt_sub))); (case kr => assumption)); intro t' h' tk' ts' n' hS' hne' hln' hno' F' N'; (try k_sweep)))
local macro_rules | `(tactic| walk_at "call ref") => `(tactic| (k_here; (with_reducible show wpAny _ _ (call (Value.ref _) _) _ _ _); k_dflt (refine' Mine.lcall_acc ?k1 ?k2 ?k3 ?k4 ?k5 ?k6 ?_; (case k1 => k_asm); (case k2 => k_asm); (case k3 => k_asm); (case k4 => kernel_rfl!); (case k5 => k_is); (case k6 => k_is); intro x' d' h' F' N' l1 l2 na nb; (try k_lt l1); (try k_lt2 l2); ks_enter)))
local macro_rules | `(tactic| walk_at "setAttr ref") => `(tactic| (k_here; k_dflt (refine' Mine.acc_set ?k1 ?k2 ?k3 ?k4 ?k5 ?k6 ?k7 ?k8 ?k9 ?k9b ?k10 ?k11 ?k12 ?k13 ?_; (case k1 => k_asm); (case k2 => k_asm); (case k3 => k_asm); (case k4 => k_inst); (case k5 => exact rfl); (case k6 => k_is); (case k7 => k_is); (case k8 => rfl); (case k9 => k_is); (case k9b => rfl); (case k10 => k_get); (case k11 => k_put); (case k12 => k_upd); (case k13 => exact Nat.le_of_ble_eq_true rfl); k_whole; intro h' F' N'; (try k_sweep))))
local macro_rules | `(tactic| walk_at "call ref") => `(tactic| (k_here; (with_reducible show wpAny _ _ (call (Value.ref _) [Value.str _ _, Value.str _ _]) _ _ _); k_dflt (refine' Mine.c_cmpv ?kv ?kC ?kN ?_; (case kv => assumption); (case kC => exact ⟨by k_asm, by k_asm, by k_asm, by k_asm, by first | exact rfl | assumption, by ktr_room, by ktr_units⟩); (case kN => k_asm)); intro t' h' tk' F' N'; (try k_sweep)))
local macro_rules | `(tactic| walk_at "call ref") => `(tactic| (k_here; (with_reducible show wpAny _ _ (call (Value.ref _) [Value.ref _]) _ _ _); k_dflt (refine' Mine.c_lastC ?kC ?kS ?kl ?kr ?kN ?_; (case kS => assumption); (case kl => assumption); (case kN => k_asm); (case kr => assumption); (case kC => exact ⟨by k_asm, by k_asm, by k_asm, by k_asm, by first | exact rfl | assumption, by ktr_room, by ktr_units⟩)); intro t' h' tk' tp' tf' tkk' nt' ts' n' hS' hSc' hne' htx' hln' hlq' hno' F' N'; (try k_sweep)))
section
namespace Mine
local macro_rules | `(tactic| walk_at "exec For") => `(tactic| (k_here; (rename Fr _ _ _ _ => lF'); (with_unfolding_all refine' For_invVF lF' ?k1 ?k2 ?_; (case k1 => exact rfl); (case k2 => exact rfl); k_whole)))
local macro_rules | `(tactic| walk_at "pyIter str") => `(tactic| (k_here; (rename Fr _ _ _ _ => lF'); (rename News _ _ _ _ => lN'); (with_unfolding_all refine iter_strUnr (by rfl) lF' lN' (by assumption) ?_); intro i' l1; (refine Mine.sh_loop lN' ?hI (by assumption) (by assumption) ⟨_, rfl⟩ ⟨_, rfl⟩ rfl ?_ ?_); (case hI => exact fun p hp => Nat.ne_of_lt (l1 p hp)); all_goals clear lF' lN'))
local macro_rules | `(tactic| walk_at "exec While") => `(tactic| (k_here; (rename Fr _ _ _ _ => lF'); (rename News _ _ _ _ => lN'); (with_unfolding_all refine Mine.wh_loop lF' lN' (by assumption) ?_); clear lF' lN'))
local macro_rules | `(tactic| walk_at "eval GeneratorExp") => `(tactic| (k_here; k_dflt (refine' Mine.str_genK ?X ?T ?F ?s ?S ?z ?N ?r ?G ?hh ?hr ?_; (case X => assumption); (case T => assumption); (case F => k_asm); (case s => exact rfl); (case S => assumption); (case z => assumption); (case N => k_asm); (case r => assumption); (case G => assumption); (case hh => exact rfl); (case hr => ktr_room)); intro s' t' ps' F' N' hG' hos' hdr'; obtain ⟨h', gens', drawn', tk', os'⟩ := s'; dsimp only at F' N' hG' hos' hdr'; subst hos' hdr'))
section
variable {w : World} {p : Program} {loose : List Str} {mean : ExcName → Option Value} {mg mb : Str → Option Value}
  {dp un : Nat} {gd : Option (List Code)} {cn : Str} {cs : Scope} {a : Addr} {ccd : Value} {cl : List (Str × Addr)} {outer : List Env} {A₀ : Around} {base h₀ : Heap} {L : Addr} {m : Str → Option Value} {s : Shared} {Q E : Value → Shared → Prop}

theorem c_shunted {wl com : List Nat} {R : List Nat × List Nat × List Nat} {tx ty : Tok} {news₀ : List (Addr × Obj)} (C : Cy w p loose mean mg mb dp un cs outer A₀ base h₀ L m s.heap) (N : News h₀ L s.heap ((101, tabObj #[]) :: news₀)) (hG : AllBare s.gens) (hr101 : ∀ p ∈ news₀, p.1 ≠ 101)
    (hR : shunt wl [] [] com = some R) (hlen : com.length ≤ 50)
    (hret : ∀ (D : Addr) (t1 t2 t3 : Tok) (ps : Array Value) (s' : Shared), (∀ p ∈ (101, tabObj ps) :: news₀, p.1 < D) → Fr h₀ L s'.heap m → News h₀ L s'.heap ((D, tup3 (tS R.1) t1 (tS R.2.1.reverse) t2 (tS R.2.2) t3) :: (101, tabObj ps) :: news₀) → AllBare s'.gens → s'.os = s.os → s'.drawn = s.drawn → Q (.ref D) s') :
    wpAny (model PySem.Challenge.rw_ik0116_01.row.prog w) (ktrTop dp un gd cn cs L a ccd cl outer) (call (.ref 188) [.str (tS com) tx, .str (tS wl) ty]) Q E s := by
  obtain ⟨news, hnw⟩ : ∃ news, news = (101, tabObj #[]) :: news₀ := ⟨_, rfl⟩
  rw [← hnw] at N
  obtain ⟨B, F, X, T, hkd, hdp, hun⟩ := C
  have hl : (tS wl).cps.toList.map (fun c => (⟨#[c]⟩ : Str)) = wl.map ch := by simp [tS]
  revert X; k_fill; intro X
  refine wpAny_call ?_; k_dflt cell_enter
  k_steps
  · clear hret
    refine (show _ → Held _ from id) ?_
    intro hv dk iv k c r m nw u it h tk hJ hI F N
    dsimp only [envOf] at F N
    obtain ⟨g, sid, com', ts, n, hsh, hz, hS, hg, hc, hs, hsub⟩ := hJ
    have hmx := ‹∀ p ∈ news, p.1 ≠ _›
    have hlx := led_ne (it := it) hS (fun p hp => N p (.tail _ hp)) hsub hI hmx
    have N2 := cb_drop N (led_own (q := (_, it)) hsub)
    unfold shunt at hsh
    cases hf : feed c sid com' with
    | none => rw [hf] at hsh; cases hsh
    | some R2 =>
      rw [hf] at hsh
      obtain ⟨sid2, com2⟩ := R2
      cases sid2 with
      | nil => cases hsh
      | cons t sid2 =>
        dsimp only at hsh
        have hoff := off_start N2 hsub hI
        have hW := wsh_start u N2 hf hz hS hg hc hs hlx hoff
        have hInw := in_nw hsub hI
        clear N hsub hI hg hc hs hoff
        k_steps
        unfold Held
        intro n₁ m₁ nw₁ h₁ tk₁ F N hJ
        dsimp only [envOf] at F N
        obtain ⟨sid₁, com₁, ts₁, nn₁, hn₁, hf₁, hz₁, ⟨hS₁, ⟨tg, hg⟩, ⟨tc, hc⟩, hs, hsub⟩, ⟨uk, hk⟩, hlx₁, hoff₁⟩ := hJ
        rw [mK_of hg hc hs hk] at F
        have N3 := cb_drop N hsub
        clear N hsub hg hc hs hk hmx
        have hlr := fun p hp => hlx₁ p (List.mem_append_right _ hp)
        have hl50 : sid₁.length < 100 := by omega
        cases hb : below sid₁ c with
        | true =>
          cases com₁ with
          | nil => simp [feed, hb] at hf₁
          | cons c₁ com₁ =>
            have hcm := cmp3_below hb
            simp only [feed, hb, if_true] at hf₁
            have hl1 := len_tS (c₁ :: com₁)
            rw [List.length_cons] at hl1
            have hz1 : (tS (c₁ :: com₁)).length ≤ 100 := by rw [hl1]; simp at hz₁; omega
            k_steps
            (rename Fr _ _ _ _ => lF)
            (rename News _ _ _ _ => lN)
            rw [slice_tS] at lF
            rw [item_tS] at lN
            exact wsh_next lF lN (by assumption) hf₁ hz₁ (by assumption) hn₁ ⟨_, rfl⟩ ⟨_, rfl⟩ rfl ⟨_, rfl⟩ (off_next (by assumption) hoff₁) (by first | exact (show AllLt _ _ from by assumption) | exact (show _ ∧ AllLt _ _ from by assumption).2 | exact (show _ ∧ _ ∧ AllLt _ _ from by assumption).2.2 | exact (show _ ∧ _ ∧ _ ∧ AllLt _ _ from by assumption).2.2.2 | exact (show _ ∧ _ ∧ _ ∧ _ ∧ AllLt _ _ from by assumption).2.2.2.2 | exact (show _ ∧ _ ∧ _ ∧ _ ∧ _ ∧ AllLt _ _ from by assumption).2.2.2.2.2 | exact (show _ ∧ _ ∧ _ ∧ _ ∧ _ ∧ _ ∧ AllLt _ _ from by assumption).2.2.2.2.2.2 | exact (show _ ∧ _ ∧ _ ∧ _ ∧ _ ∧ _ ∧ _ ∧ AllLt _ _ from by assumption).2.2.2.2.2.2.2 | exact (show _ ∧ _ ∧ _ ∧ _ ∧ _ ∧ _ ∧ _ ∧ _ ∧ AllLt _ _ from by assumption).2.2.2.2.2.2.2.2 | exact (show _ ∧ _ ∧ _ ∧ _ ∧ _ ∧ _ ∧ _ ∧ _ ∧ _ ∧ AllLt _ _ from by assumption).2.2.2.2.2.2.2.2.2) rfl
        | false =>
          rw [feed_stop hb] at hf₁
          injection hf₁ with hf₁
          injection hf₁ with e1 e2
          subst e1 e2
          rw [List.length_cons] at hz₁
          by_cases hlt : c < t
          · have hcm : cmp3 (ch t) (ch c) = 1 := cmp3_above (sid := sid2) hlt
            rw [if_pos hlt] at hsh
            injection hsh with hsh
            subst hsh
            k_steps
            (rename Fr _ _ _ _ => lF)
            (rename News _ _ _ _ => lN)
            have hSS := ‹Sid _ (t :: sid2)›
            refine' tp_brk lF ?kN hSS (by simp; omega) ⟨_, rfl⟩ ⟨_, rfl⟩ rfl rfl
            case kN => exact lN
          · have e : t = c := by simp [below] at hb; omega
            subst e
            have hcm : cmp3 (ch t) (ch t) = 0 := cmp3_same (sid := sid2)
            rw [if_neg hlt] at hsh
            have hzg : (tS g).length ≤ 50 := by rw [len_tS]; omega
            have hzc : (ch t).length = 1 := rfl
            k_steps
            · exfalso; omega
            (rename Fr _ _ _ _ => lF)
            (rename News _ _ _ _ => lN)
            rw [tS_snoc] at lF
            refine' tp_next lF (led_pop lN) (by assumption) ?kI hsh (by simp; omega) ⟨_, rfl⟩ ⟨_, rfl⟩ rfl rfl
            case kI => exact hInw _ _ (off_fin (by assumption) (by assumption) hoff₁)
  unfold Held
  intro hv dk iv k m nw h tk hF F N
  dsimp only [envOf] at F N
  obtain ⟨ts, n, hz, hS, ⟨tg, hg⟩, ⟨tc, hc⟩, hs, hsub⟩ := hF
  have hlx := fin_ne hS (cb_drop N hsub) ‹∀ p ∈ news, p.1 ≠ _›
  rw [mS_of hg hc hs] at F
  have N3 := cb_drop N hsub
  clear N hsub hg hc hs
  subst hnw
  have hz' : R.2.1.length ≤ 100 := by omega
  dsimp only
  k_steps
  rename_i l1 kF kN _ _
  exact hret _ _ _ _ _ _ (fun q hq => allLt_mem l1.2.2 q (List.mem_append_right _ hq)) kF (cb_drop kN fun q hq => (List.mem_cons.mp hq).elim (fun h => h ▸ .head _) fun h => .tail _ (.tail _ (.tail _ (List.mem_append_right _ h)))) (by assumption) rfl rfl
end
end Mine
end
section
namespace Mine
section
variable {prog : Program} {w : World} {A : Around} {E : Value → Shared → Prop} {s : Shared} {h₀ : Heap} {L l : Addr} {m : Str → Option Value} {news : List (Addr × Obj)} {n : Nat} {Q : Value → Shared → Prop}
theorem slice8 {value slice : Expr} {vs : List Value} {ns : List Int} {u : Tok} (F : Fr h₀ L s.heap m) (N : News h₀ L s.heap news) (hm : (l, W.listOf vs.toArray n) ∈ news) (hi : IntsAre vs ns) (hz : vs.length ≤ 1000)
    (h : ∀ D ws h', Fr h₀ L h' m → News h₀ L h' ((D, W.listOf (List.toArray ws) 0) :: news) → (∀ p ∈ news, p.1 < D) → IntsAre ws (ns.take 8) → Q (.ref D) { s with heap := h' })
    (hs : subscripted slice false (.ref l) (.ref s.heap.objs.size) = operate [.ref s.heap.objs.size, .ref l] (getItem (.ref l) (.ref s.heap.objs.size)) := by with_unfolding_all rfl) :
    wpAny (model prog w) A (subscriptTail value slice (.ref l) (.ref s.heap.objs.size)) Q E { s with heap := s.heap.push { cls := .type "slice", data := .fields #[.none, .int 8 u, .none] } } := by
  refine kba_turn (value' := .Name (Str.ofString "_") ⟨0, 0, 0, 0⟩) (fun _ => rfl) ?_
  have hl : s.heap.IsList l vs.toArray := ⟨_, (N _ hm).1, rfl, n, rfl⟩
  refine kmk_slice F N hl .none (.int 8 u) (fun D h' F' N' l1 => h D (vs.take 8) h' F' ?_ l1 (hi.take 8)) hs (fun _ => rfl) (by rw [sizeLine_eq]; simp; omega)
  have e : slicePick vs.toArray none (some 8) none = (vs.take 8).toArray := slicePick_upto' vs.toArray 8
  rw [← e]
  exact N'
end
/-- the letter of a number -/
noncomputable def letter (k : Int) : Nat := 97 + (k % 5).toNat
theorem letter_in (k : Int) : 97 ≤ letter k ∧ letter k ≤ 101 := by
  unfold letter
  have h1 := Int.emod_nonneg k (show (5 : Int) ≠ 0 by decide)
  have h2 := Int.emod_lt_of_pos k (show (0 : Int) < 5 by decide)
  omega
theorem item_letter (k : Int) : Txt.item (Str.ofString "abcde") (k % 5) = ch (letter k) := by
  have h1 := Int.emod_nonneg k (show (5 : Int) ≠ 0 by decide)
  have h2 := Int.emod_lt_of_pos k (show (0 : Int) < 5 by decide)
  have h : k % 5 = 0 ∨ k % 5 = 1 ∨ k % 5 = 2 ∨ k % 5 = 3 ∨ k % 5 = 4 := by omega
  unfold letter
  rcases h with h | h | h | h | h <;> rw [h] <;> decide +kernel
end Mine
namespace Mine
noncomputable abbrev wPos (a b : Nat) : Pos := { line := 186, col := a, endLine := 186, endCol := b }
noncomputable abbrev wElt (k1 k2 : Nat) : Expr := Expr.Subscript (Expr.Constant (Const.str (Str.ofString "abcde")) k1 (wPos 22 29)) (Expr.BinOp (Expr.Name (Str.ofString "x") (wPos 30 31)) Operator.Mod (Expr.Constant (Const.int 5) k2 (wPos 34 35)) (wPos 30 35)) (wPos 22 36)
noncomputable abbrev wScope : Scope := { kind := .function, names := [(Str.ofString ".0", .local), (Str.ofString "x", .local)], isGenerator := false, isCoroutine := false }
section
variable {prog : Program} {w : World} {A : Around} {E : Value → Shared → Prop} {s : Shared}
theorem wElt_eval {k1 k2 : Nat} {cenv : Env} {m₂ : Str → Option Value} {k : Int} {t : Tok} (hsc : cenv.scope = wScope) (hn : s.heap.Ns cenv.locals m₂) (h1 : m₂ (Str.ofString "x") = some (.int k t)) :
    wpAny (model prog w) A (eval (wElt k1 k2) cenv) (fun y s₃ => (∃ u, y = .str (ch (letter k)) u) ∧ Keeps s s₃) E s := by
  refine Subscript_ (wpAny_Constant_str ?_)
  refine wpAny_BinOp ?_
  refine ldG (s := { s with toks := s.toks + 1 }) hn h1 ?_ (by rw [hsc]) (by rw [hsc]; rfl)
  refine wpAny_Constant_int ?_
  refine mod_int' (by decide) ?_
  refine item_str_fmod (by decide) (by decide +kernel) (by decide +kernel) fun _ => ?_
  have e : Txt.item (Str.ofString "abcde") (k.fmod 5) = ch (letter k) := by rw [Int.fmod_eq_emod_of_nonneg _ (by decide), item_letter]
  rw [e]
  exact ⟨⟨_, rfl⟩, _, _, rfl, fun _ _ e => e⟩
theorem letters_of {vs : List Value} {ns : List Int} (hi : IntsAre vs ns) : ∀ ys : List Value, Paired (fun v y => ∃ k t u, v = .int k t ∧ y = .str (ch (letter k)) u) vs ys → Chs ys (ns.map letter) := by
  induction hi with
  | nil => intro ys h; cases h; exact .nil
  | cons n t _ ih =>
    intro ys h
    cases h with
    | cons h1 h2 =>
      obtain ⟨k, t', u, e1, rfl⟩ := h1
      injection e1 with e1 _
      subst e1
      exact .cons (ih _ h2)
theorem ints_mem {vs : List Value} {ns : List Int} (hi : IntsAre vs ns) : ∀ v ∈ vs, ∃ k t, v = .int k t := by
  induction hi with
  | nil => intro v h; cases h
  | cons n t _ ih =>
    intro v h
    rcases List.mem_cons.mp h with rfl | h
    · exact ⟨_, _, rfl⟩
    · exact ih v h
theorem letters_eval {j1 j2 : Nat} {env : Env} {h₀ : Heap} {L ax : Addr} {m : Str → Option Value} {news : List (Addr × Obj)} {n : Nat} {vs : List Value} {ns : List Int} {Q E : Value → Shared → Prop} (hh : A.handled = none) (F : Fr h₀ L s.heap m) (N : News h₀ L s.heap news) (hm : (ax, W.listOf vs.toArray n) ∈ news) (hi : IntsAre vs ns) (hz : vs.length ≤ 100)
    (hL : env.locals = L) (hk : env.scope.kind = .function) (hl : env.scope.names.lookup (Str.ofString "numbers") = some .local) (hv : m (Str.ofString "numbers") = some (.ref ax))
    (hQ : ∀ (D : Addr) (ws : List Value) (h' : Heap) (tk : Nat), Chs ws (ns.map letter) → h'.IsList D ws.toArray → Fr h₀ L h' m → News h₀ L h' news → Q (.ref D) { s with heap := h', toks := tk }) :
    wpAny (model prog w) A (eval (.ListComp (wElt j1 j2) [{ target := .Name (Str.ofString "x") (wPos 41 42), iter := .Name (Str.ofString "numbers") (wPos 46 53), ifs := [], is_async := 0 }] wScope (wPos 21 54)) env) Q E s := by
  have hax : s.heap.IsList ax vs.toArray := ⟨_, (N _ hm).1, rfl, n, rfl⟩
  refine wpAny_ListComp (by decide) rfl (by decide) ?_
  refine wpAny_Name (wpAny_loadName_local hk hl (hL ▸ F.ns) hv ?_) (by decide)
  refine wpAny_pyIter_list hax ?_
  refine wpAny_newObj_type (wpAny_newFunctionEnv (by decide) (by intro y hy; simp at hy) (fun h₁ hns₁ hsb₁ => ?_) rfl)
  dsimp only at hns₁ hsb₁ ⊢
  generalize hH1 : s.heap.push { cls := .type "list_iterator", data := .fields #[.ref ax, .int 0 0] } = H1 at hns₁ hsb₁ ⊢
  generalize hH2 : H1.push { cls := .type "list", data := .seq ([] : List Value).toArray } = H2 at hns₁ hsb₁ ⊢
  have hD : H1.objs.size = s.heap.objs.size + 1 := by rw [← hH1, Heap.size_push]
  have hC : H2.objs.size = s.heap.objs.size + 2 := by rw [← hH2, Heap.size_push, hD]
  have k1 : ∀ b o, s.heap.get? b = some o → H1.get? b = some o := fun b o e => by rw [← hH1]; exact Heap.get?_push_of_some _ e
  have k2 : ∀ b o, H1.get? b = some o → H2.get? b = some o := fun b o e => by rw [← hH2]; exact Heap.get?_push_of_some _ e
  have k3 : ∀ b o, H2.get? b = some o → h₁.get? b = some o := fun b o e => hsb₁.extBut b o (Nat.ne_of_lt (Heap.lt_size e)) (Heap.get?_push_of_some _ e)
  have hDI : H1.objs.size ≠ s.heap.objs.size := by rw [hD]; exact Nat.ne_of_gt (Nat.lt_succ_self _)
  have hCI : H2.objs.size ≠ s.heap.objs.size := by rw [hC]; exact Nat.ne_of_gt (Nat.lt_succ_of_lt (Nat.lt_succ_self _))
  have hCD : H2.objs.size ≠ H1.objs.size := by rw [hC, hD]; exact Nat.ne_of_gt (Nat.lt_succ_self _)
  have below : ∀ b o, s.heap.get? b = some o → b ≠ H2.objs.size ∧ b ≠ s.heap.objs.size ∧ b ≠ H1.objs.size := fun b o e => by
    have hlt := Heap.lt_size e
    exact ⟨by rw [hC]; exact Nat.ne_of_lt (Nat.lt_succ_of_lt (Nat.lt_succ_of_lt hlt)), Nat.ne_of_lt hlt, by rw [hD]; exact Nat.ne_of_lt (Nat.lt_succ_of_lt hlt)⟩
  have hI1 : H1.get? s.heap.objs.size = some { cls := .type "list_iterator", data := .fields #[.ref ax, .int 0 0] } := by rw [← hH1]; exact Heap.get?_push_size _ rfl
  have hD2 : H2.get? H1.objs.size = some { cls := .type "list", data := .seq ([] : List Value).toArray } := by rw [← hH2]; exact Heap.get?_push_size _ rfl
  have hit : h₁.IsListIter s.heap.objs.size ax 0 := ⟨_, k3 _ _ (k2 _ _ hI1), rfl, rfl⟩
  obtain ⟨hax1, hax2, hax3⟩ := below _ _ (N _ hm).1
  have hlist : h₁.IsList ax vs.toArray := ⟨_, k3 _ _ (k2 _ _ (k1 _ _ (N _ hm).1)), rfl, n, rfl⟩
  have hacc : h₁.IsList H1.objs.size #[] := ⟨_, k3 _ _ hD2, rfl, _, rfl⟩
  have loop : ∀ (cenv : Env) (s₁ : Shared), s₁.heap = h₁ → s₁ = { s with heap := h₁, toks := s₁.toks } → cenv.scope = wScope → cenv.locals = H2.objs.size →
      codeAny (model prog w) A (.compLoop (.ListComp (wElt j1 j2) [{ target := .Name (Str.ofString "x") (wPos 41 42), iter := .Name (Str.ofString "numbers") (wPos 46 53), ifs := [], is_async := 0 }] wScope (wPos 21 54)) 0 (.ref s.heap.objs.size) (.ref H1.objs.size) cenv) (fun r s' => ∃ m, s'.heap.Ns cenv.locals m ∧ ∀ h', Heap.SameBut cenv.locals s'.heap h' →
          match r with | .ok _ => Q (.ref H1.objs.size) { s' with heap := h' } | .error x => wpAny (model prog w) A (passOn "comprehension.variables-let-go" x cenv) Q E { s' with heap := h' }) s₁ := by
    rintro cenv s₁ hs1 hs2 hsc hloc
    refine codeAny_compLoop_map (ax := ax) (items := vs.toArray) (m := fun x => List.lookup x ([] : List (Str × Value)).reverse) (fun _ => true) (fun v y => ∃ k t u, v = .int k t ∧ y = .str (ch (letter k)) u) hh (by unfold Env.kindOf; rw [hsc]; rfl) (by rw [hsc]; rfl) hDI (by rw [hloc]; exact Ne.symm hCD) (by rw [hloc]; exact Ne.symm hCI) hax2 (by rw [hloc]; exact hax1) hax3
      (by rw [hs1]; exact hit) (by rw [hs1]; exact hlist) (by rw [hs1]; exact hacc) (by rw [hs1, hloc]; exact hns₁) ?_ ?_ ?_ (by rw [sizeLine_eq]; simp; omega)
    · intro v s₂ m₂ _ _ _ _
      exact wpAny_pure ⟨rfl, _, _, rfl, fun _ _ e => e⟩
    · intro v s₂ m₂ hv' _ hn2 hx _
      obtain ⟨k, t, rfl⟩ := ints_mem hi v (by simpa using hv')
      exact wpAny_mono (wElt_eval hsc hn2 hx) (fun y s₃ ⟨⟨u, hu⟩, hk⟩ => ⟨⟨k, t, u, rfl, hu⟩, hk⟩) fun _ _ e => e
    · intro h' tk m' ys hn' hl' hp hk'
      refine ⟨m', hn', fun h'' hs'' => ?_⟩
      rw [hs2]
      rw [hloc] at hs'' hk'
      have hch : Chs ys.toList (ns.map letter) := letters_of hi _ (by rw [show List.filter (fun _ => true) vs.toArray.toList = vs from List.filter_eq_self.mpr fun _ _ => rfl] at hp; exact hp)
      have keep : ∀ b o, s.heap.get? b = some o → h''.get? b = some o := fun b o e => by
        obtain ⟨b1, b2, b3⟩ := below b o e
        exact hs''.extBut b o b1 (hk' b o b1 b2 b3 (by rw [hs1]; exact k3 _ _ (k2 _ _ (k1 _ _ e))))
      refine hQ H1.objs.size ys.toList h'' _ hch ?_ (F.keeps keep) fun p hp => ⟨keep _ _ (N p hp).1, (N p hp).2⟩
      obtain ⟨o, e1, e2⟩ := hl'
      exact ⟨o, hs''.extBut _ _ (Ne.symm hCD) e1, by simpa using e2⟩
  refine codeAny_compStart_list (loop _ _ rfl rfl rfl rfl) ?_
  exact wpAny_pyIter_listiter hit (loop _ _ rfl rfl rfl rfl)
end
end Mine
end
section
namespace Mine
theorem join_chl (l : List Nat) : Str.join (⟨#[]⟩ : Str) (l.map ch) = tS l := by
  induction l with
  | nil => rfl
  | cons c l ih =>
    rw [List.map_cons, join_nil_cons, ih]
    show Str.mk _ = Str.mk _
    simp [tS, ch]
theorem sum_chs (l : List Nat) : ((l.map ch).map (·.length)).sum = l.length := by
  induction l with
  | nil => rfl
  | cons c l ih => simp only [List.map_cons, List.sum_cons, ih, List.length_cons, show (ch c).length = 1 from rfl]; omega
section
variable {prog : Program} {w : World} {A : Around} {E : Value → Shared → Prop} {s : Shared} {h₀ : Heap} {L l : Addr} {m : Str → Option Value} {news : List (Addr × Obj)} {n : Nat} {Q : Value → Shared → Prop}
theorem join_chs {D : Addr} {ws : List Value} {wl : List Nat} {t : Tok} (I : s.heap.IsList D ws.toArray) (C : Chs ws wl) (hz : wl.length ≤ 100) (h : ∀ t' k, Q (.str (tS wl) t') { s with toks := k }) :
    wpAny (model prog w) A (call (.builtin "str.join") [.str (Str.ofString "") t, .ref D]) Q E s := by
  have e0 : Str.ofString "" = ⟨#[]⟩ := by decide +kernel
  refine join_list (ys := wl.map ch) I (by simpa using C.strs) ?_ fun t' k => ?_
  · rw [sum_chs]
    have : (Str.ofString "").length = 0 := rfl
    rw [this]; omega
  · have e : Txt.join (Str.ofString "") (wl.map ch) = tS wl := by
      rw [e0]
      show Builtin.Str.glued ⟨#[]⟩ _ = _
      rw [StrLaws.glued_eq_join, join_chl]
    rw [e]
    exact h t' k
theorem slice8K {value slice : Expr} {vs : List Value} {w8 : List Int} {z : List Int} {u : Tok} (F : Fr h₀ L s.heap m) (N : News h₀ L s.heap news) (hm : (l, W.listOf vs.toArray n) ∈ news) (hi : IntsAre vs (List.take 8 w8 ++ z)) (hz : z.length = 8)
    (h : ∀ D ws ns h', Fr h₀ L h' m → News h₀ L h' ((D, W.listOf (List.toArray ws) 0) :: news) → (∀ p ∈ news, p.1 < D) → IntsAre ws ns → ns.length = 8 → ws.length = 8 → Q (.ref D) { s with heap := h' })
    (hs : subscripted slice false (.ref l) (.ref s.heap.objs.size) = operate [.ref s.heap.objs.size, .ref l] (getItem (.ref l) (.ref s.heap.objs.size)) := by with_unfolding_all rfl) :
    wpAny (model prog w) A (subscriptTail value slice (.ref l) (.ref s.heap.objs.size)) Q E { s with heap := s.heap.push { cls := .type "slice", data := .fields #[.none, .int 8 u, .none] } } := by
  have h1 : (List.take 8 w8 ++ z).length ≤ 16 := by rw [List.length_append, List.length_take]; omega
  refine slice8 F N hm hi (by rw [hi.length]; omega) (fun D ws h' F' N' l1 I' => ?_) hs
  have h2 : ((List.take 8 w8 ++ z).take 8).length = 8 := by rw [List.length_take, List.length_append, List.length_take]; omega
  exact h D ws _ h' F' N' l1 I' h2 (by rw [I'.length]; exact h2)
theorem letters_evalK {j1 j2 : Nat} {env : Env} {ax : Addr} {vs : List Value} {ns : List Int} (hh : A.handled = none) (F : Fr h₀ L s.heap m) (N : News h₀ L s.heap news) (hv : m (Str.ofString "numbers") = some (.ref ax)) (hm : (ax, W.listOf vs.toArray n) ∈ news) (hi : IntsAre vs ns) (hz : ns.length = 8)
    (hL : env.locals = L) (hk : env.scope.kind = .function) (hl : env.scope.names.lookup (Str.ofString "numbers") = some .local)
    (hQ : ∀ (D : Addr) (ws : List Value) (wl : List Nat) (h' : Heap) (tk : Nat), Chs ws wl → wl.length = 8 → (∀ a ∈ wl, 97 ≤ a ∧ a ≤ 101) → h'.IsList D ws.toArray → Fr h₀ L h' m → News h₀ L h' news → Q (.ref D) { s with heap := h', toks := tk }) :
    wpAny (model prog w) A (eval (.ListComp (wElt j1 j2) [{ target := .Name (Str.ofString "x") (wPos 41 42), iter := .Name (Str.ofString "numbers") (wPos 46 53), ifs := [], is_async := 0 }] wScope (wPos 21 54)) env) Q E s :=
  letters_eval hh F N hm hi (by rw [hi.length]; omega) hL hk hl hv fun D ws h' tk a b c d => hQ D ws _ h' tk a (by simp [hz]) (fun x hx => by
    obtain ⟨k, _, rfl⟩ := List.mem_map.mp hx
    exact letter_in k) b c d
end
end Mine
end
section
namespace Mine
noncomputable abbrev mT (lo mi hi te : Option Value) (m₀ : Str → Option Value) : Str → Option Value := fun y => if y = Str.ofString "text" then te else if y = Str.ofString "high" then hi else if y = Str.ofString "middle" then mi else if y = Str.ofString "low" then lo else m₀ y
/-- between two turns of the law's loop -/
noncomputable def Jth (eA D : Addr) (lo : Obj) (ts rest : List (Addr × Obj)) (wl : List Nat) (m₀ : Str → Option Value) (done : List (Nat × Nat × Nat)) (m : Str → Option Value) (nw : List (Addr × Obj)) : Prop :=
  ∃ l mi hi te vs k, m = mT l mi hi te m₀ ∧ IntsAre vs (asInts (endsOf wl done)) ∧ nw = (eA, W.listOf (List.toArray vs) k) :: (D, lo) :: (ts ++ rest)
section
variable {prog : Program} {w : World} {A : Around} {E : Value → Shared → Prop} {s : Shared} {env : Env} {h₀ : Heap} {target : Expr} {body : List Stmt} {Q : Flow → Shared → Prop}
theorem th_ind {I eA D : Addr} {lo : Obj} {ts rest : List (Addr × Obj)} {wl : List Nat} {m₀ : Str → Option Value}
    (h1 : ∀ (done : List (Nat × Nat × Nat)) (a b c : Nat) (T : Addr) (ta tb tc : Tok) (l mi hi te : Option Value) (vs : List Value) (k : Nat) (it : Obj) (h : Heap) (tk : Nat), done.length ≤ 10 → (a, b, c) ∈ threes → (T, tup3 (ch a) ta (ch b) tb (ch c) tc) ∈ ts → IntsAre vs (asInts (endsOf wl done)) → it.cls = .type "list_iterator" →
      (∀ p ∈ (eA, W.listOf (List.toArray vs) k) :: (D, lo) :: (ts ++ rest), p.1 ≠ I) → Fr h₀ env.locals h (mT l mi hi te m₀) → News h₀ env.locals h ((I, it) :: (eA, W.listOf (List.toArray vs) k) :: (D, lo) :: (ts ++ rest)) →
      wpAny (model prog w) A (assign target env (.ref T)) (fun _ s₂ => wpAny (model prog w) A (execs body env) (UnrPostW h₀ env.locals { s with heap := h, toks := tk } [(I, it)] (fun m' n' => Jth eA D lo ts rest wl m₀ (done ++ [(a, b, c)]) m' n') Q) E s₂) E { s with heap := h, toks := tk })
    (fin : ∀ (l mi hi te : Option Value) (vs : List Value) (k : Nat) (h : Heap) (tk : Nat), IntsAre vs (asInts (endsOf wl threes)) → Fr h₀ env.locals h (mT l mi hi te m₀) → News h₀ env.locals h ((eA, W.listOf (List.toArray vs) k) :: (D, lo) :: (ts ++ rest)) → Q .next { s with heap := h, toks := tk }) :
    ∀ (ts2 : List (Addr × Obj)) (l2 done : List (Nat × Nat × Nat)), Trips ts2 l2 → (∀ p ∈ ts2, p ∈ ts) → done ++ l2 = threes → ∀ m nw, Jth eA D lo ts rest wl m₀ done m nw → (∀ p ∈ nw, p.1 ≠ I) →
      ItemsRest prog w A E h₀ env target body Q s [(I, "list_iterator")] [(D, lo)] ((ts2.map fun p => Value.ref p.1).map .val) m nw := by
  intro ts2
  induction ts2 with
  | nil =>
    rintro l2 done hT - hd m nw ⟨l, mi, hi, te, vs, k, rfl, hv, rfl⟩ -
    cases hT
    rw [List.append_nil] at hd
    subst hd
    exact fun h tk F N => fin l mi hi te vs k h tk hv F N
  | cons q ts2 ih =>
    rintro l2 done hT hs hd m nw hJ hI
    cases hT with
    | cons hT =>
      rename_i T a b c ta tb tc l3
      refine ItemsRest.val fun h tk F o ho N => ?_
      obtain ⟨l, mi, hi, te, vs, k, rfl, hv, rfl⟩ := hJ
      have hin : (a, b, c) ∈ threes := by rw [← hd]; exact List.mem_append_right _ (.head _)
      have hdl : done.length ≤ 10 := by
        have e := congrArg List.length hd
        rw [List.length_append, show threes.length = 10 from rfl] at e
        omega
      refine wpAny_mono (h1 done a b c T ta tb tc l mi hi te vs k o h tk hdl hin (hs _ (.head _)) hv ho hI F N) (fun _ s₂ h₂ => wpAny_mono h₂ (fun f s₃ q => ?_) fun _ _ e => e) fun _ _ e => e
      have fin' : UnrEndW h₀ env.locals { s with heap := h, toks := tk } [(I, o)] (fun m' n' => Jth eA D lo ts rest wl m₀ (done ++ [(a, b, c)]) m' n') s₃ →
          UnrEndW h₀ env.locals { s with heap := h, toks := tk } [(I, o)] (fun m' n' => SubL [(D, lo)] n' ∧ ItemsRest prog w A E h₀ env target body Q s [(I, "list_iterator")] [(D, lo)] ((ts2.map fun p => Value.ref p.1).map .val) m' n') s₃ := by
        rintro ⟨h', tk', m', news', e, F', N', o', j'⟩
        refine ⟨h', tk', m', news', e, F', N', o', ?_, ih l3 (done ++ [(a, b, c)]) hT (fun p hp => hs p (.tail _ hp)) (by rw [List.append_assoc]; exact hd) m' news' j' fun p hp => o' p hp _ (.head _)⟩
        obtain ⟨_, _, _, _, _, _, _, _, rfl⟩ := j'
        exact ⟨.tail _ (.head _), trivial⟩
      cases f with
      | ret v => exact q
      | brk => exact q
      | next => exact fin' q
      | cont => exact fin' q
theorem th_loop {eA D : Addr} {ts rest : List (Addr × Obj)} {wl : List Nat} {m₀ : Str → Option Value} {vs₀ : List Value} {n k₀ : Nat} {news : List (Addr × Obj)}
    (hh : A.handled = none) (F : Fr h₀ env.locals s.heap m₀) (N : News h₀ env.locals s.heap news) (hT : Trips ts threes) (hsub : ∀ p ∈ (eA, W.listOf (List.toArray vs₀) k₀) :: (D, W.listOf (ts.map fun p => Value.ref p.1).toArray n) :: (ts ++ rest), p ∈ news) (h0 : IntsAre vs₀ (asInts (endsOf wl [])))
    (hl0 : m₀ (Str.ofString "low") = none) (hm0 : m₀ (Str.ofString "middle") = none) (hh0 : m₀ (Str.ofString "high") = none) (ht0 : m₀ (Str.ofString "text") = none)
    (h1 : Held (∀ (I : Addr) (done : List (Nat × Nat × Nat)) (a b c : Nat) (T : Addr) (ta tb tc : Tok) (l mi hi te : Option Value) (vs : List Value) (k : Nat) (it : Obj) (h : Heap) (tk : Nat), done.length ≤ 10 → (a, b, c) ∈ threes → (T, tup3 (ch a) ta (ch b) tb (ch c) tc) ∈ ts → IntsAre vs (asInts (endsOf wl done)) → it.cls = .type "list_iterator" →
      (∀ p ∈ (eA, W.listOf (List.toArray vs) k) :: (D, W.listOf (ts.map fun p => Value.ref p.1).toArray n) :: (ts ++ rest), p.1 ≠ I) → Fr h₀ env.locals h (mT l mi hi te m₀) → News h₀ env.locals h ((I, it) :: (eA, W.listOf (List.toArray vs) k) :: (D, W.listOf (ts.map fun p => Value.ref p.1).toArray n) :: (ts ++ rest)) →
      wpAny (model prog w) A (assign target env (.ref T)) (fun _ s₂ => wpAny (model prog w) A (execs body env) (UnrPostW h₀ env.locals { s with heap := h, toks := tk } [(I, it)] (fun m' n' => Jth eA D (W.listOf (ts.map fun p => Value.ref p.1).toArray n) ts rest wl m₀ (done ++ [(a, b, c)]) m' n') Q) E s₂) E { s with heap := h, toks := tk }))
    (fin : Held (∀ (l mi hi te : Option Value) (vs : List Value) (k : Nat) (h : Heap) (tk : Nat), IntsAre vs (asInts (endsOf wl threes)) → Fr h₀ env.locals h (mT l mi hi te m₀) → News h₀ env.locals h ((eA, W.listOf (List.toArray vs) k) :: (D, W.listOf (ts.map fun p => Value.ref p.1).toArray n) :: (ts ++ rest)) → Q .next { s with heap := h, toks := tk })) :
    wpAny (model prog w) A (pyIter (.ref D)) (fun it s₂ => TurnsAt prog w A h₀ env target body Q E it s₂) E s := by
  have N2 : News h₀ env.locals s.heap ((eA, W.listOf (List.toArray vs₀) k₀) :: (D, W.listOf (ts.map fun p => Value.ref p.1).toArray n) :: (ts ++ rest)) := fun p hp => N p (hsub p hp)
  refine iter_listTurns hh F N2 (.tail _ (.head _)) rfl rfl fun I hI => ?_
  refine th_ind (h1 I) fin ts threes [] hT (fun _ h => h) rfl _ _ ⟨none, none, none, none, vs₀, k₀, ?_, h0, rfl⟩ fun p hp => Nat.ne_of_lt (hI p hp)
  funext y
  by_cases e1 : y = Str.ofString "text"
  · subst e1; rw [ht0]; rfl
  · by_cases e2 : y = Str.ofString "high"
    · subst e2; rw [hh0]; rfl
    · by_cases e3 : y = Str.ofString "middle"
      · subst e3; rw [hm0]; rfl
      · by_cases e4 : y = Str.ofString "low"
        · subst e4; rw [hl0]; rfl
        · simp only [mT, if_neg e1, if_neg e2, if_neg e3, if_neg e4]
end
end Mine
end
section
namespace Mine
section
variable {prog : Program} {w : World} {A : Around} {E : Value → Shared → Prop} {s : Shared} {Q : Value → Shared → Prop}
theorem len8 {wl : List Nat} {t : Tok} (hz : wl.length = 8) (h : ∀ t' k, Q (.int 8 t') { s with toks := k }) : wpAny (model prog w) A (call (.builtin "len") [.str (tS wl) t]) Q E s := by
  have e : (tS wl).length = 8 := by rw [len_tS]; exact hz
  refine PyProof.Rows.len_str (by rw [e]; decide) ?_
  rw [e]
  exact h _ _
end
theorem th0 {wl : List Nat} (hz : wl.length = 8) (t : Tok) : IntsAre [Value.int 8 t] (asInts (endsOf wl [])) := by
  have e : endsOf wl [] = [8] := by simp [endsOf, hz]
  rw [e]
  exact .cons 8 t .nil
end Mine
namespace Mine
section
variable {prog : Program} {w : World} {A : Around} {E : Value → Shared → Prop} {s : Shared} {env : Env} {h₀ : Heap} {target : Expr} {body : List Stmt} {Q : Flow → Shared → Prop}
theorem th_loopK {eA D : Addr} {ts rest : List (Addr × Obj)} {wl : List Nat} {m₀ : Str → Option Value} {t₀ : Tok} {n k₀ : Nat}
    (hh : A.handled = none) (F : Fr h₀ env.locals s.heap m₀) (N : News h₀ env.locals s.heap ((D, W.listOf (ts.map fun p => Value.ref p.1).toArray n) :: (ts ++ ((eA, W.listOf (List.toArray [Value.int 8 t₀]) k₀) :: rest)))) (hT : Trips ts threes) (h0 : wl.length = 8)
    (hl0 : m₀ (Str.ofString "low") = none) (hm0 : m₀ (Str.ofString "middle") = none) (hh0 : m₀ (Str.ofString "high") = none) (ht0 : m₀ (Str.ofString "text") = none)
    (h1 : Held (∀ (I : Addr) (done : List (Nat × Nat × Nat)) (a b c : Nat) (T : Addr) (ta tb tc : Tok) (l mi hi te : Option Value) (vs : List Value) (k : Nat) (it : Obj) (h : Heap) (tk : Nat), done.length ≤ 10 → (a, b, c) ∈ threes → (T, tup3 (ch a) ta (ch b) tb (ch c) tc) ∈ ts → IntsAre vs (asInts (endsOf wl done)) → it.cls = .type "list_iterator" →
      (∀ p ∈ (eA, W.listOf (List.toArray vs) k) :: (D, W.listOf (ts.map fun p => Value.ref p.1).toArray n) :: (ts ++ rest), p.1 ≠ I) → Fr h₀ env.locals h (mT l mi hi te m₀) → News h₀ env.locals h ((I, it) :: (eA, W.listOf (List.toArray vs) k) :: (D, W.listOf (ts.map fun p => Value.ref p.1).toArray n) :: (ts ++ rest)) →
      wpAny (model prog w) A (assign target env (.ref T)) (fun _ s₂ => wpAny (model prog w) A (execs body env) (UnrPostW h₀ env.locals { s with heap := h, toks := tk } [(I, it)] (fun m' n' => Jth eA D (W.listOf (ts.map fun p => Value.ref p.1).toArray n) ts rest wl m₀ (done ++ [(a, b, c)]) m' n') Q) E s₂) E { s with heap := h, toks := tk }))
    (fin : Held (∀ (l mi hi te : Option Value) (vs : List Value) (k : Nat) (h : Heap) (tk : Nat), IntsAre vs (asInts (endsOf wl threes)) → Fr h₀ env.locals h (mT l mi hi te m₀) → News h₀ env.locals h ((eA, W.listOf (List.toArray vs) k) :: (D, W.listOf (ts.map fun p => Value.ref p.1).toArray n) :: (ts ++ rest)) → Q .next { s with heap := h, toks := tk })) :
    wpAny (model prog w) A (pyIter (.ref D)) (fun it s₂ => TurnsAt prog w A h₀ env target body Q E it s₂) E s :=
  th_loop (vs₀ := [Value.int 8 t₀]) (k₀ := k₀) hh F N hT (fun p hp => by
    simp only [List.mem_cons, List.mem_append] at hp ⊢
    rcases hp with h | h | h | h
    · exact .inr (.inr (.inl h))
    · exact .inl h
    · exact .inr (.inl h)
    · exact .inr (.inr (.inr h))) (th0 h0 _) hl0 hm0 hh0 ht0 h1 fin
end
end Mine
end
section
namespace Mine
section
variable {h₀ h : Heap} {L : Addr}
theorem th_open {I eA D T : Addr} {it e d o : Obj} {ts rest : List (Addr × Obj)} (N : News h₀ L h ((I, it) :: (eA, e) :: (D, d) :: (ts ++ rest))) (hT : (T, o) ∈ ts) : News h₀ L h ((T, o) :: (I, it) :: (eA, e) :: (rest ++ ((D, d) :: ts))) := by
  intro p hp
  refine N p ?_
  simp only [List.mem_cons, List.mem_append] at hp ⊢
  rcases hp with rfl | h | h | h | h | h
  · exact .inr (.inr (.inr (.inl hT)))
  · exact .inl h
  · exact .inr (.inl h)
  · exact .inr (.inr (.inr (.inr h)))
  · exact .inr (.inr (.inl h))
  · exact .inr (.inr (.inr (.inl h)))
end
end Mine
end
section
namespace Mine
theorem chs_of_get : ∀ (vs : List Value) (l : List Nat), vs.length = l.length → (∀ (j : Nat) (v : Value), vs[j]? = some v → ∃ c u, l[j]? = some c ∧ v = .str (ch c) u) → Chs vs l
  | [], [], _, _ => .nil
  | [], _ :: _, h, _ => by simp at h
  | _ :: _, [], h, _ => by simp at h
  | v :: vs, c :: l, h, hg => by
    obtain ⟨c', u, h1, rfl⟩ := hg 0 v rfl
    simp at h1
    subst h1
    exact .cons (chs_of_get vs l (by simpa using h) fun j v hv => by
      have := hg (j + 1) v (by simpa using hv)
      simpa using this)
theorem chs_items {wl : List Nat} {acc : Array Value} (h : ItemsOf (SignAt (tS wl)) acc (tS wl).cps.size) : Chs acc.toList wl := by
  refine chs_of_get _ _ ?_ fun j v hv => ?_
  · rw [Array.length_toList, h.1]; simp [tS]
  · obtain ⟨c, u, h1, h2⟩ := h.2 j v (by rw [← Array.getElem?_toList]; exact hv)
    exact ⟨c, u, by simpa [tS] using h1, h2⟩
theorem lt_ch (a b : Nat) : ltCps (ch a).cps.toList (ch b).cps.toList = decide (a < b) := by
  rw [ltCps_eq, ch_lt]
theorem up_rising : ∀ (l : List Nat) (p : Nat), risingS (ch p) (l.map ch) = true → Up (p :: l)
  | [], p, _ => List.pairwise_singleton ..
  | x :: r, p, h => by
    have h' : (!ltCps (ch x).cps.toList (ch p).cps.toList && risingS (ch x) (r.map ch)) = true := h
    rw [Bool.and_eq_true, lt_ch] at h'
    have h1 : p ≤ x := by simpa using h'.1
    have h2 := up_rising r x h'.2
    refine List.pairwise_cons.mpr ⟨fun a ha => ?_, h2⟩
    rcases List.mem_cons.mp ha with rfl | ha
    · exact h1
    · exact Nat.le_trans h1 (List.rel_of_pairwise_cons h2 ha)
theorem up_sorted {l : List Nat} (h : sortedS (l.map ch) = true) : Up l := by
  cases l with
  | nil => exact .nil
  | cons x r => exact up_rising r x h
theorem perm_chs {ss : List Str} {wl : List Nat} (h : ss.Perm (wl.map ch)) : ∃ al : List Nat, ss = al.map ch ∧ al.Perm wl := by
  refine ⟨ss.map fun s => s.cps[0]!, ?_, ?_⟩
  · rw [List.map_map]
    conv => lhs; rw [← List.map_id ss]
    refine List.map_congr_left fun s hs => ?_
    obtain ⟨c, _, rfl⟩ := List.mem_map.mp (h.subset hs)
    rfl
  · have h2 := h.map fun s => s.cps[0]!
    rw [List.map_map] at h2
    have e : ((fun s : Str => s.cps[0]!) ∘ ch) = id := rfl
    rwa [e, List.map_id] at h2
section
variable {prog : Program} {w : World} {A : Around} {E : Value → Shared → Prop} {s : Shared} {h₀ : Heap} {L : Addr} {m : Str → Option Value} {news : List (Addr × Obj)} {Q : Value → Shared → Prop}
theorem sorted_chs {wl : List Nat} {t : Tok} (hh : A.handled = none) (F : Fr h₀ L s.heap m) (N : News h₀ L s.heap news) (hz : wl.length = 8)
    (h : ∀ (D : Addr) (h' : Heap) (tk : Nat) (vs : List Value) (al : List Nat) (e : Nat), Fr h₀ L h' m → News h₀ L h' ((D, W.listOf vs.toArray e) :: news) → (∀ p ∈ news, p.1 < D) → Chs vs al → al.Perm wl → al.length = 8 → Up al → Q (.ref D) { s with heap := h', toks := tk }) :
    wpAny (model prog w) A (call (.builtin "sorted") [.str (tS wl) t]) Q E s := by
  refine Calls.call_function_entry kind_sorted plain_sorted entry_sorted (args_sorted1 _) ?_
  unfold Builtin.«sorted»
  refine wpAny_bind (m := checkCount "sorted" 1 1 _) (wpAny_pure ?_)
  refine wpAny_bind (wpAny_collect_str (A := A.in1) hh (tS wl) t (fun s' acc keep e1 e2 e3 hacc => ?_) (by rw [sizeLine_eq, show (tS wl).cps.size = 8 from (len_tS wl).trans hz]; exact Nat.le_of_ble_eq_true rfl))
  obtain ⟨h1, g1, d1, k1, o1⟩ := s'
  dsimp only at keep e1 e2 e3
  subst e1 e2 e3
  have hc := chs_items hacc
  have hl := hc.length
  refine wpAny_bind (wpAny_newList ?_ (by rw [hl, hz, sizeLine_eq]; exact Nat.le_of_ble_eq_true rfl))
  have hoL : (h1.push (seqObj "list" acc.toList.toArray 0)).get? h1.objs.size = some (seqObj "list" acc.toList.toArray 0) := Heap.get?_push_size _ rfl
  refine wpAny_bind (wpAny_holding (wpAny_call_entry slot_list_sort ⟨_, hoL, rfl⟩ entry_list_sort (list_sort_treeK strKind_oneLt hoL hc.strs.keysOf (fun v₁ v₂ rest e => keyKind_strs (by rw [← e]; exact hc.strs)) (by omega) fun st' hp hs => ⟨_, rfl, ?_⟩) (args_list_sort _)))
  refine wpAny_pure ⟨_, rfl, ?_⟩
  obtain ⟨ss', a1, a2, a3⟩ := sorted_out_str hc.strs hp hs
  obtain ⟨al, rfl, hp'⟩ := perm_chs a2
  obtain ⟨e, he⟩ := sortedHeap_at (vs := acc.toList) (out := (arrOf st').map (·.2)) hoL
  have F1 : Fr h₀ L h1 m := F.keeps keep
  have N1 : News h₀ L h1 news := fun p hp => ⟨keep _ _ (N p hp).1, (N p hp).2⟩
  have old : ∀ b o, h1.get? b = some o → (sortedHeap (h1.push (seqObj "list" acc.toList.toArray 0)) h1.objs.size acc.toList ((arrOf st').map (·.2))).get? b = some o := fun b o e => by
    have hlt := Heap.lt_size e
    rw [sortedHeap_old (Nat.ne_of_lt hlt) (by rw [size_push']; exact Nat.lt_succ_of_lt hlt)]
    exact Heap.get?_push_of_some _ e
  refine h h1.objs.size _ k1 ((arrOf st').map (·.2)).toList al e (F1.keeps old) ?_ (fun p hp => Heap.lt_size (N1 p hp).1) (Chs.of a1) hp' (hp'.length_eq.trans hz) (up_sorted a3)
  exact N1.kept_cons F1 old (Nat.le_refl _) he
theorem list_chs {gl : List Nat} {t : Tok} (hh : A.handled = none) (F : Fr h₀ L s.heap m) (N : News h₀ L s.heap news) (hz : gl.length ≤ 8)
    (h : ∀ (D : Addr) (h' : Heap) (tk : Nat) (vs : List Value) (e : Nat), Fr h₀ L h' m → News h₀ L h' ((D, W.listOf vs.toArray e) :: news) → (∀ p ∈ news, p.1 < D) → Chs vs gl → Q (.ref D) { s with heap := h', toks := tk }) :
    wpAny (model prog w) A (call (.type "list") [.str (tS gl) t]) Q E s := by
  refine call_list_str hh _ t (hn := by rw [sizeLine_eq]; simp [tS]; omega) fun h' tk acc' c' hk hS' hacc => ?_
  refine h s.heap.objs.size h' tk acc'.toList c' (F.keeps hk) (N.kept_cons F hk (Nat.le_refl _) ?_) (fun p hp => Heap.lt_size (N p hp).1) (chs_items hacc)
  exact hS'
/-- the greatest of a text -/
noncomputable def nthI (gl : List Nat) (i : Nat) : Int := ((gl.getD i 0 : Nat) : Int)
theorem top_of {gl : List Nat} {c : Nat} (hc : c ∈ gl) (hm : ∀ a ∈ gl, a ≤ c) : c = top gl := by
  refine Nat.le_antisymm (le_top _ hc) ?_
  by_cases h : top gl = 0
  · omega
  · exact hm _ (top_mem h)
theorem max_chs {gl : List Nat} {t : Tok} (hh : A.handled = none) (hne : gl ≠ [])
    (h : ∀ (u : Tok) (h' : Heap) (tk : Nat), (∀ b o, s.heap.get? b = some o → h'.get? b = some o) → Q (.str (ch (top gl)) u) { s with heap := h', toks := tk }) :
    wpAny (model prog w) A (call (.builtin "max") [.str (tS gl) t]) Q E s := by
  have hpos : 0 < gl.length := List.length_pos_iff.mpr hne
  have hsz : (tS gl).cps.size = gl.length := by simp [tS]
  refine call_max_walk (wpAny_pyIter_str fun o St W hst => ?_)
  refine ⟨_, _, _, _, _, _, fun i j => decide (nthI gl i > nthI gl j), rfl, W A.in1 hh, hst, fun b hb => ?_, by rw [hsz]; exact hpos, fun i j vi vj s' Q' E' hi hj hq => ?_, fun v h' tk hP hk => ?_⟩
  · rw [List.mem_singleton.mp hb]
    show s.heap.objs.size < (s.heap.push o).objs.size
    rw [Heap.size_push]; exact Nat.lt_succ_self _
  · obtain ⟨ci, u, h1, rfl⟩ := hi
    obtain ⟨cj, u', h2, rfl⟩ := hj
    refine richCompare_gives (op := .Gt) (typeIs_str s' _ u) (typeIs_str s' _ u') F.slot_str_gt F.entry_str_gt (F.args_str_gt_2 _ _) (gives_str_gt _ _ u u') (fun e => nomatch e) ?_
    have e : decide ((ch cj).cps.toList < (ch ci).cps.toList) = decide (nthI gl i > nthI gl j) := by
      rw [ch_lt]
      have h1' : gl[i]? = some ci := by simpa [tS] using h1
      have h2' : gl[j]? = some cj := by simpa [tS] using h2
      simp [nthI, List.getD_eq_getElem?_getD, h1', h2']
    show Q' (.bool (decide ((ch cj).cps.toList < (ch ci).cps.toList))) s'
    rw [e]; exact hq
  · obtain ⟨c, u, h1, rfl⟩ := hP
    have h1' : gl[argBest (fun i j => decide (nthI gl i > nthI gl j)) (gl.length - 1)]? = some c := by
      rw [hsz] at h1
      simpa [tS] using h1
    obtain ⟨b1, b2⟩ := argBest_gt (nthI gl) (gl.length - 1)
    have hc : c = top gl := by
      refine top_of (List.mem_of_getElem? h1') fun a ha => ?_
      obtain ⟨j, hj⟩ := List.mem_iff_getElem?.mp ha
      have hjl : j < gl.length := (List.getElem?_eq_some_iff.mp hj).1
      have := b2 j (by omega)
      unfold nthI at this
      rw [List.getD_eq_getElem?_getD, hj, List.getD_eq_getElem?_getD] at this
      have e9 : gl[argBest (fun i j => decide (((gl.getD i 0 : Nat) : Int) > ((gl.getD j 0 : Nat) : Int))) (gl.length - 1)]? = some c := h1'
      rw [e9] at this
      simpa using this
    subst hc
    refine h u h' tk fun b o' e => hk b o' (fun hm => ?_) (Heap.get?_push_of_some _ e)
    exact absurd (Heap.lt_size e) (by rw [List.mem_singleton.mp hm]; exact Nat.lt_irrefl _)
end
end Mine
end
section
namespace Mine
noncomputable abbrev kScope : Scope := { kind := .function, names := [(Str.ofString ".0", .local), (Str.ofString "kind", .local), (Str.ofString "max", .globalImplicit), (Str.ofString "gone", .free)], isGenerator := false, isCoroutine := false }
theorem kclos {env : Env} {c : Addr} (hc : env.cells.lookup (Str.ofString "gone") = some c) : closureFor kScope env = pure [(Str.ofString "gone", c)] := by
  unfold closureFor
  have e : cellOf env (Str.ofString "gone") = pure c := by unfold cellOf; rw [hc]
  simp [e]
noncomputable def kTest (f : Nat → Bool) : Value → Bool
  | .str x _ => f x.cps[0]!
  | _ => false
theorem chs_filter {f : Nat → Bool} {vs : List Value} {l : List Nat} (h : Chs vs l) : Chs (vs.filter (kTest f)) (l.filter f) := by
  induction h with
  | nil => exact .nil
  | @cons c t vs l _ ih =>
    have e : kTest f (.str (ch c) t) = f c := rfl
    rw [List.filter_cons, List.filter_cons, e]
    cases f c with
    | true => exact .cons ih
    | false => exact ih
theorem chs_mem {vs : List Value} {l : List Nat} (h : Chs vs l) : ∀ v ∈ vs, ∃ c t, v = .str (ch c) t := by
  induction h with
  | nil => intro v h; cases h
  | cons _ ih =>
    intro v h
    rcases List.mem_cons.mp h with rfl | h
    · exact ⟨_, _, rfl⟩
    · exact ih v h
theorem paired_eq : ∀ {vs ys : List Value}, Paired (fun v y => y = v) vs ys → ys = vs
  | _, _, .nil => rfl
  | _, _, .cons h1 h2 => by rw [h1, paired_eq h2]
section
variable {p : Program} {w : World} {A : Around} {E : Value → Shared → Prop} {s : Shared} {h₀ : Heap} {L : Addr} {m mg mb : Str → Option Value} {loose : List Str} {mean : ExcName → Option Value} {news : List (Addr × Obj)} {Q : Value → Shared → Prop} {K : Frag} {prog : Program}
theorem kinds_eval {op : CmpOp} {p1 p2 p3 p4 p5 p6 p7 p8 p9 : Pos} {f : Nat → Bool} {env : Env} {c ax : Addr} {o : Obj} {gl ol : List Nat} {vs : List Value} {n : Nat} {tg : Tok}
    (hop : ∀ (x : Nat) (u v : Tok) (s' : Shared) (Q' E' : Value → Shared → Prop), Q' (.bool (f x)) s' → wpAny (model prog w) A (compareOp op (.str (ch x) u) (.str (ch (top gl)) v)) Q' E' s')
    (hh : A.handled = none) (F : Fr h₀ L s.heap m) (N : News h₀ L s.heap news) (X : K.In h₀) (T : Top p loose mean mg mb h₀) (e : nsIn K mainGlobals (Str.ofString "max") = some none)
    (hv : m (Str.ofString "others") = some (.ref ax)) (hm : (ax, W.listOf vs.toArray n) ∈ news) (hc : Chs vs ol) (hz : ol.length ≤ 100) (hne : gl ≠ [])
    (hg : (c, o) ∈ news) (ho : o.data = .cell (some (.str (tS gl) tg)))
    (hL : env.locals = L) (hk : env.scope.kind = .function) (hl : env.scope.names.lookup (Str.ofString "others") = some .local) (hkg : env.scope.names.lookup (Str.ofString "gone") = some .cell) (hcl : env.cells.lookup (Str.ofString "gone") = some c) (hgl : env.globals = mainGlobals) (hb : env.builtins = builtinsNs)
    (hop2 : behindInMarks op (Expr.Call (Expr.Name (Str.ofString "max") p5) [Expr.Name (Str.ofString "gone") p6] [] p7) = false)
    (hQ : ∀ (D : Addr) (ws : List Value) (n' : Nat) (h' : Heap) (tk : Nat), Chs ws (ol.filter f) → (∀ p ∈ news, p.1 ≠ D) → Fr h₀ L h' m → News h₀ L h' ((D, W.listOf ws.toArray n') :: news) → Q (.ref D) { s with heap := h', toks := tk }) :
    wpAny (model prog w) A (eval (.ListComp (Expr.Name (Str.ofString "kind") p1) [{ target := .Name (Str.ofString "kind") p2, iter := .Name (Str.ofString "others") p3, ifs := [Expr.Compare (Expr.Name (Str.ofString "kind") p4) [op] [Expr.Call (Expr.Name (Str.ofString "max") p5) [Expr.Name (Str.ofString "gone") p6] [] p7] p8], is_async := 0 }] kScope p9) env) Q E s := by
  have hax : s.heap.IsList ax vs.toArray := ⟨_, (N _ hm).1, rfl, n, rfl⟩
  have hlt : ax < s.heap.objs.size := Heap.lt_size (N _ hm).1
  have fk : ∀ C, (compEnvC kScope [(Str.ofString "gone", c)] C env).scope.kind = .function := fun _ => rfl
  have fl : ∀ C, (compEnvC kScope [(Str.ofString "gone", c)] C env).kindOf (Str.ofString "kind") = some .local := fun C => lookup_relabel_local (by decide)
  have hkg' : env.kindOf (Str.ofString "gone") = some .cell := hkg
  have fg : ∀ C, (compEnvC kScope [(Str.ofString "gone", c)] C env).kindOf (Str.ofString "gone") = some .cell := fun C => by
    show (relabel kScope env).names.lookup _ = _
    simp [relabel, hk, hkg', List.lookup, show (Str.ofString "gone" == Str.ofString ".0") = false by decide, show (Str.ofString "gone" == Str.ofString "kind") = false by decide, show (Str.ofString "gone" == Str.ofString "max") = false by decide]
  have fm : ∀ C, (compEnvC kScope [(Str.ofString "gone", c)] C env).kindOf (Str.ofString "max") = some .globalImplicit := fun C => by
    show (relabel kScope env).names.lookup _ = _
    simp [relabel, hk, hkg', List.lookup, show (Str.ofString "max" == Str.ofString ".0") = false by decide, show (Str.ofString "max" == Str.ofString "kind") = false by decide]
  refine wpAny_ListComp_free (kTest f) (fun v y => y = v) (kclos hcl) (by decide) rfl (by decide) (by decide) ?_
  refine wpAny_Name (wpAny_loadName_local hk hl (hL ▸ F.ns) hv ?_) (by decide)
  refine wpAny_pyIter_list hax ?_
  refine ⟨s.heap.objs.size, _, _, _, _, _, rfl, Walks.list (A := A) hh _ ax (Nat.ne_of_lt hlt) vs.toArray, by rw [sizeLine_eq]; have := hc.length; simp; omega, ⟨⟨_, Heap.get?_push_size _ rfl, rfl, rfl⟩, hax.push _⟩, fun b hb => ?_, ⟨?_, ?_⟩, ?_⟩
  · show b < (s.heap.push _).objs.size
    rw [Heap.size_push]
    rcases List.mem_cons.mp hb with rfl | hb
    · exact Nat.lt_succ_self _
    · rw [List.mem_singleton.mp hb]; exact Nat.lt_succ_of_lt hlt
  · intro C i v s₃ m₃ E' hC hP hn hx hkeep _
    have keep : ∀ b o, s.heap.get? b = some o → s₃.heap.get? b = some o := fun b o e => hkeep b o (fun hb => Nat.lt_irrefl _ (List.mem_singleton.mp hb ▸ Heap.lt_size e)) (Heap.get?_push_of_some _ e)
    obtain ⟨a, t, rfl⟩ := chs_mem hc v (List.mem_of_getElem? (by simpa using hP))
    have F3 : Fr h₀ L s₃.heap m := F.keeps keep
    have N3 : News h₀ L s₃.heap news := fun p hp => ⟨keep _ _ (N p hp).1, (N p hp).2⟩
    refine wpAny_tests_one (wpAny_isTrue_Compare1 ?_ hop2)
    refine ldVarK hn hx ?_ (fk C) (fl C)
    refine Call_Name1 ?_
    refine LCgL.ld_built F3 X T e (by boot_by_name) (by decide) ?_ hgl hb (fk C) (fm C)
    refine callWith_builtin1 ?_
    refine kcf_cell N3 rfl hg ho ?_ (fk C) (fg C)
    refine max_chs hh hne fun u h' tk hk' => ?_
    refine hop _ _ _ _ _ _ ?_
    refine wpAny_truthy_bool ?_
    exact ⟨rfl, _, _, rfl, hk'⟩
  · intro C i v s₃ m₃ E' hC hP _ hn hx hkeep _
    refine ldVarK hn hx ?_ (fk C) (fl C)
    exact ⟨rfl, _, _, rfl, fun _ _ e => e⟩
  · intro D h' tk ys vs' hD hl' hp' hlen hP hF hkeep
    have keep : ∀ b o, s.heap.get? b = some o → h'.get? b = some o := fun b o e => hkeep b o (fun hb => Nat.lt_irrefl _ (List.mem_singleton.mp hb ▸ Heap.lt_size e)) (Heap.get?_push_of_some _ e)
    have ev : vs' = vs := by
      refine List.ext_getElem? fun j => ?_
      cases hj : vs'[j]? with
      | some v => have := hP j v hj; simpa using this.symm
      | none =>
        have h1 : vs'.length ≤ j := by simpa using hj
        have h2 : vs.length ≤ j := by rw [hlen] at h1; simpa using h1
        simp [h2]
    subst ev
    have e2 := paired_eq hF
    obtain ⟨n', hn'⟩ := hp'
    have fresh : ∀ b o, s.heap.get? b = some o → b ≠ D := fun b o e hb => by
      rw [← hb] at hD
      have e3 : (s.heap.push { cls := .type "list_iterator", data := .fields #[.ref ax, .int 0 0] }).get? b = some o := Heap.get?_push_of_some _ e
      exact absurd (hD.symm.trans e3) (by simp)
    obtain ⟨oL, _, _, hoL, _⟩ := F.ns
    refine hQ D (vs'.filter (kTest f)) n' h' tk (chs_filter hc) (fun p hp => fresh _ _ (N p hp).1) (F.keeps keep) fun p hp => ?_
    rcases List.mem_cons.mp hp with rfl | hp
    · refine ⟨?_, fun e => fresh _ _ hoL e.symm, ?_⟩
      · rw [← e2]; simpa [W.listOf] using hn'
      · cases e : h₀.get? D with
        | none => rfl
        | some o' => exact absurd rfl (fresh _ _ (F.keep _ _ e))
    · exact ⟨keep _ _ (N p hp).1, (N p hp).2⟩
end
end Mine
end
section
namespace Mine
theorem t_let5 {a b c : Nat} (h : (a, b, c) ∈ threes) : Let5 a ∧ Let5 b ∧ Let5 c := by
  have : ∀ t ∈ threes, Let5 t.1 ∧ Let5 t.2.1 ∧ Let5 t.2.2 := by decide
  exact this _ h
theorem w_star : Str.ofString "*" = tS [42] := by decide +kernel
theorem pat_eq (x y z : Nat) : (Str.ofString "*" ++ ch z ++ Str.ofString "*" ++ ch x ++ Str.ofString "*" ++ ch y ++ Str.ofString "*" : Str) = tS (pat7 x y z) := by
  rw [w_star, show ch z = tS [z] from rfl, show ch x = tS [x] from rfl, show ch y = tS [y] from rfl]
  simp only [tS_append]
  rfl
theorem text_len (x y z : Nat) : (tS (patL [z, x, y])).length = 33 := by rw [len_tS, len_patL]; rfl
theorem text_first (x y z : Nat) : Txt.slice (tS (patL [z, x, y])) none (some 4) = tS [40, 63, 115, 58] := by
  rw [slice_to]
  exact slice_nat (patL [z, x, y]) (a := 0) (b := 4) (by decide) (by rw [len_patL]; simp)
theorem text_last (x y z : Nat) : Txt.slice (tS (patL [z, x, y])) (some (-5)) none = tS [46, 42, 41, 92, 90] := by
  have e : Builtin.Str.strSliceIndices (some (-5)) none 1 33 = Builtin.Str.strSliceIndices (some ((28 : Nat) : Int)) (some ((33 : Nat) : Int)) 1 33 := by decide +kernel
  have h : Txt.slice (tS (patL [z, x, y])) (some (-5)) none = Txt.slice (tS (patL [z, x, y])) (some ((28 : Nat) : Int)) (some ((33 : Nat) : Int)) := by
    unfold Txt.slice
    rw [text_len, e]
  rw [h, slice_nat (patL [z, x, y]) (a := 28) (b := 33) (by decide) (by rw [len_patL]; simp)]
  have e2 : patL [z, x, y] = [40, 63, 115, 58, 40, 63, 62, 46, 42, 63, z, 41, 40, 63, 62, 46, 42, 63, x, 41, 40, 63, 62, 46, 42, 63, y, 41, 46, 42, 41, 92, 90] := by
    simp [patL, grp]
  rw [e2]
  rfl
theorem text_ends (x y z : Nat) : (Txt.slice (tS (patL [z, x, y])) none (some 4) ++ Txt.slice (tS (patL [z, x, y])) (some (-5)) none : Str) = Str.ofString "(?s:.*)\\Z" := by
  rw [text_first, text_last, tS_append]
  decide +kernel
section
variable {w : World} {p : Program} {loose : List Str} {mean : ExcName → Option Value} {mg mb : Str → Option Value}
  {dp un : Nat} {gd : Option (List Code)} {cn : Str} {cs : Scope} {a : Addr} {ccd : Value} {cl : List (Str × Addr)} {outer : List Env} {A₀ : Around} {base h₀ : Heap} {L : Addr} {m : Str → Option Value} {s : Shared} {Q E : Value → Shared → Prop}
theorem c_translateK {X : Str} {x y z : Nat} {tx : Tok} {news : List (Addr × Obj)} (hin : (x, y, z) ∈ threes) (hX : X = tS (pat7 x y z)) (C : Cz w p loose mean mg mb dp un cs outer A₀ base h₀ L m s.heap) (N : News h₀ L s.heap news)
    (hret : ∀ (t : Tok) (h' : Heap) (tk' : Nat), (tS (patL [z, x, y])).length ≤ 40 → Fr h₀ L h' m → News h₀ L h' news → Q (.str (tS (patL [z, x, y])) t) { s with heap := h', toks := tk' }) :
    wpAny (model PySem.Challenge.rw_ik0116_01.row.prog w) (ktrTop dp un gd cn cs L a ccd cl outer) (call (.ref 148) [.str X tx]) Q E s := by
  subst hX
  obtain ⟨h1, h2, h3⟩ := t_let5 hin
  exact c_translate C N h1 h2 h3 fun t h' tk' => hret t h' tk' (by rw [len_tS, len_patL]; simp)
end
section
variable {prog : Program} {w : World} {A : Around} {E : Value → Shared → Prop} {s : Shared} {h₀ : Heap} {L l : Addr} {m : Str → Option Value} {news : List (Addr × Obj)} {n : Nat} {Q : Value → Shared → Prop}
theorem part12 {value slice : Expr} {vs : List Value} {ns : List Int} {u1 u2 : Tok} (F : Fr h₀ L s.heap m) (N : News h₀ L s.heap news) (hm : (l, W.listOf vs.toArray n) ∈ news) (hi : IntsAre vs ns) (hz : vs.length ≤ 10)
    (h : ∀ D ws h', Fr h₀ L h' m → News h₀ L h' ((D, W.listOf (List.toArray ws) 0) :: news) → (∀ p ∈ news, p.1 < D) → IntsAre ws ((ns.drop 1).take 1) → Q (.ref D) { s with heap := h' })
    (hs : subscripted slice false (.ref l) (.ref s.heap.objs.size) = operate [.ref s.heap.objs.size, .ref l] (getItem (.ref l) (.ref s.heap.objs.size)) := by with_unfolding_all rfl) :
    wpAny (model prog w) A (subscriptTail value slice (.ref l) (.ref s.heap.objs.size)) Q E { s with heap := s.heap.push { cls := .type "slice", data := .fields #[.int 1 u1, .int 2 u2, .none] } } := by
  refine kba_turn (value' := .Name (Str.ofString "_") ⟨0, 0, 0, 0⟩) (fun _ => rfl) ?_
  have hl : s.heap.IsList l vs.toArray := ⟨_, (N _ hm).1, rfl, n, rfl⟩
  refine kmk_slice F N hl (.int 1 u1) (.int 2 u2) (fun D h' F' N' l1 => h D ((vs.drop 1).take 1) h' F' ?_ l1 ((hi.drop 1).take 1)) hs (fun _ => rfl) (by rw [sizeLine_eq]; simp; omega)
  have e : slicePick vs.toArray (some 1) (some 2) none = ((vs.drop 1).take 1).toArray := by
    rcases vs with _ | ⟨x, _ | ⟨y, r⟩⟩
    · rw [slicePick_plain]; simp [clipAt]
    · rw [slicePick_plain]; simp [clipAt]; decide
    · exact slicePick_run _ 1 2 (by simp) (by decide)
  rw [← e]
  exact N'
end
theorem ends_snoc (wl : List Nat) (done : List (Nat × Nat × Nat)) (a b c : Nat) : asInts (endsOf wl (done ++ [(a, b, c)])) = asInts (endsOf wl done) ++ ((asInts ((places wl [c, a, b] 0).getD [])).drop 1).take 1 := by
  have h := places_second wl a b c
  have e : endsOf wl (done ++ [(a, b, c)]) = endsOf wl done ++ (second wl (a, b, c)).toList := by
    unfold endsOf
    rw [List.filterMap_append, List.cons_append]
    cases h2 : second wl (a, b, c) <;> simp [h2]
  rw [e, ← h]
  simp [asInts, List.map_take, List.map_drop]
theorem th_next {h₀ h h' : Heap} {L I eA D : Addr} {it lo : Obj} {ts rest nw : List (Addr × Obj)} {wl : List Nat} {m₀ m' : Str → Option Value} {done : List (Nat × Nat × Nat)} {a b c k' tk tk' : Nat} {vs ws vs' : List Value} {l mi hi te : Option Value} {s : Shared} {Q : Flow → Shared → Prop}
    (F : Fr h₀ L h' m') (N : News h₀ L h' nw) (hm : m' = mT l mi hi te m₀) (hv : IntsAre vs (asInts (endsOf wl done))) (hw : IntsAre ws (((asInts ((places wl [c, a, b] 0).getD [])).drop 1).take 1)) (hvs : vs' = vs ++ ws)
    (hsub : ∀ p ∈ (I, it) :: (eA, W.listOf vs'.toArray k') :: (D, lo) :: (ts ++ rest), p ∈ nw) {k : Nat} (hI : ∀ p ∈ (eA, W.listOf vs.toArray k) :: (D, lo) :: (ts ++ rest), p.1 ≠ I) {s₂ : Shared} (hs : s₂ = { s with heap := h', toks := tk' }) :
    UnrPostW h₀ L { s with heap := h, toks := tk } [(I, it)] (fun m' n' => Jth eA D lo ts rest wl m₀ (done ++ [(a, b, c)]) m' n') Q .next s₂ := by
  subst hs hvs
  refine ⟨h', tk', m', (eA, W.listOf (vs ++ ws).toArray k') :: (D, lo) :: (ts ++ rest), rfl, F, fun p hp => N p (hsub p hp), fun p hp q hq => ?_, l, mi, hi, te, vs ++ ws, k', hm, ?_, rfl⟩
  · rw [List.mem_singleton.mp hq]
    rcases List.mem_cons.mp hp with rfl | hp
    · exact hI (eA, W.listOf vs.toArray k) (.head _)
    · exact hI p (.tail _ hp)
  · rw [ends_snoc]; exact hv.append hw
end Mine
namespace Mine
section
variable {w : World} {p : Program} {loose : List Str} {mean : ExcName → Option Value} {mg mb : Str → Option Value}
  {dp un : Nat} {gd : Option (List Code)} {cn : Str} {cs : Scope} {a : Addr} {ccd : Value} {cl : List (Str × Addr)} {outer : List Env} {A₀ : Around} {base h₀ : Heap} {L : Addr} {m : Str → Option Value} {s : Shared} {Q E : Value → Shared → Prop}
theorem c_placesK {x y z : Nat} {wl : List Nat} {tx ty : Tok} {news : List (Addr × Obj)} (hz : wl.length = 8) (C : Cx w p loose mean mg mb dp un cs outer A₀ base h₀ L m s.heap) (N : News h₀ L s.heap news)
    (hret : ∀ (D : Addr) (vs : List Value) (nn : Nat) (h' : Heap) (tk' : Nat), IntsAre vs (asInts ((places wl [z, x, y] 0).getD [])) → vs.length ≤ 10 → (∀ p ∈ news, p.1 < D) → Fr h₀ L h' m → News h₀ L h' ((D, listOf vs.toArray nn) :: news) → Q (.ref D) { s with heap := h', toks := tk' }) :
    wpAny (model PySem.Challenge.rw_ik0116_01.row.prog w) (ktrTop dp un gd cn cs L a ccd cl outer) (call (.ref 195) [.str (tS (patL [z, x, y])) tx, .str (tS wl) ty]) Q E s :=
  c_places C N (by simp) (by omega) hret
end
end Mine
end
section
namespace Mine
noncomputable abbrev dS (l : List Nat) : List PyData := l.map fun c => PyData.str (ch c)
theorem chs_carried {vs : List Value} {l : List Nat} (h : Chs vs l) : CarriedAll vs (dS l) := by
  induction h with
  | nil => exact .nil
  | cons _ ih => exact .cons (.str _ _) ih
theorem dS_lay : ∀ l : List Nat, (∀ a ∈ l, a ≤ 101) → PyData.canLayAll0 (dS l) = true
  | [], _ => rfl
  | c :: r, h => by
    have := dS_lay r fun a ha => h a (.tail _ ha)
    have hc := h c (.head _)
    have hs : PyData.strOk (ch c) = true := by simp [PyData.strOk, ch]; omega
    simp only [dS, List.map_cons] at this ⊢
    simp [PyData.canLayAll0, PyData.canLay0, this, hs]
theorem dS_depth : ∀ l : List Nat, PyData.depthAll (dS l) = 0
  | [] => rfl
  | c :: r => by
    have := dS_depth r
    simp only [dS, List.map_cons] at this ⊢
    simp [PyData.depthAll, PyData.depth, this]
theorem dS_shaped (l : List Nat) (h : ∀ a ∈ l, a ≤ 101) : SeqAt.shaped (.list (dS l)) = true := by
  simp [SeqAt.shaped, PyData.canLay0, PyData.depth, dS_lay l h, dS_depth]
theorem dS_same : ∀ l : List Nat, PySem.Spec.sameAll (dS l) (dS l) = true
  | [] => by simp [PySem.Spec.sameAll]
  | c :: r => by
    have := dS_same r
    simp only [dS, List.map_cons] at this ⊢
    simp [PySem.Spec.sameAll, PySem.Spec.same, this]
section
variable {prog : Program} {w : World} {A : Around} {E : Value → Shared → Prop} {s : Shared} {a b : Addr} {h₀ : Heap} {L : Addr} {news : List (Addr × Obj)} {xs ys : List Value} {l l' : List Nat} {n n' : Nat} {Q : Value → Shared → Prop}
theorem eq_chs (N : News h₀ L s.heap news) (ha : (a, W.listOf xs.toArray n) ∈ news) (hb : (b, W.listOf ys.toArray n') ∈ news) (hi : Chs xs l) (hj : Chs ys l') (he : l = l') (hl : ∀ a ∈ l, a ≤ 101) (hu : A.units + 64 < cLine) (h : Q (.bool true) s) :
    wpAny (model prog w) A (compareOp .Eq (.ref a) (.ref b)) Q E s := by
  subst he
  refine eq_dataH_same (reads_newData ⟨_, (N _ ha).1, rfl, n, rfl⟩ (chs_carried hi)) (reads_newData ⟨_, (N _ hb).1, rfl, n', rfl⟩ (chs_carried hj)) (dS_shaped _ hl) (dS_shaped _ hl) hu (SeqAt.noMix_of_shape (.list .str) rfl _ _ (list_map_has fun _ => rfl) (list_map_has fun _ => rfl)) ?_
  simp only [PySem.Spec.same, dS_same]
  exact h
theorem ne_chs (N : News h₀ L s.heap news) (ha : (a, W.listOf xs.toArray n) ∈ news) (hb : (b, W.listOf ys.toArray n') ∈ news) (hi : Chs xs l) (hj : Chs ys l') (he : l = l') (hl : ∀ a ∈ l, a ≤ 101) (hu : A.units + 64 < cLine) (h : Q (.bool false) s) :
    wpAny (model prog w) A (compareOp .NotEq (.ref a) (.ref b)) Q E s := by
  subst he
  refine ne_dataH_same (reads_newData ⟨_, (N _ ha).1, rfl, n, rfl⟩ (chs_carried hi)) (reads_newData ⟨_, (N _ hb).1, rfl, n', rfl⟩ (chs_carried hj)) (dS_shaped _ hl) (dS_shaped _ hl) hu (SeqAt.noMix_of_shape (.list .str) rfl _ _ (list_map_has fun _ => rfl) (list_map_has fun _ => rfl)) ?_
  simp only [PySem.Spec.same, dS_same]
  exact h
end
theorem chs_rev {vs : List Value} {l : List Nat} (h : Chs vs l) : Chs vs.reverse l.reverse := by
  induction h with
  | nil => exact .nil
  | cons _ ih => rw [List.reverse_cons, List.reverse_cons]; exact ih.append .one
section
variable {prog : Program} {w : World} {A : Around} {E : Value → Shared → Prop} {s : Shared} {h₀ : Heap} {L D : Addr} {m : Str → Option Value} {news : List (Addr × Obj)} {n : Nat} {Q : Value → Shared → Prop}
theorem rev_chs {value slice : Expr} {vs : List Value} {l : List Nat} {u : Tok} {ops : List Value} (F : Fr h₀ L s.heap m) (N : News h₀ L s.heap news) (hm : (D, W.listOf vs.toArray n) ∈ news) (hc : Chs vs l) (hz : l.length ≤ 100)
    (h : ∀ D ws h', Fr h₀ L h' m → News h₀ L h' ((D, W.listOf (List.toArray ws) 0) :: news) → (∀ p ∈ news, p.1 < D) → Chs ws l.reverse → Q (.ref D) { s with heap := h' })
    (hs : subscripted slice false (.ref D) (.ref s.heap.objs.size) = operate ops (getItem (.ref D) (.ref s.heap.objs.size)) := by with_unfolding_all rfl)
    (ht : ∀ r, letTemporaryGo value (.ref D) r = pure () := by intro _; rfl) :
    wpAny (model prog w) A (subscriptTail value slice (.ref D) (.ref s.heap.objs.size)) Q E { s with heap := s.heap.push { cls := .type "slice", data := .fields #[.none, .none, .int (-1) u] } } :=
  krv_lit (its := vs.toArray) (zs := vs.reverse) F N ⟨_, (N _ hm).1, rfl, n, rfl⟩ (.int (-1) u) rfl (fun D h' F' N' l1 => h D vs.reverse h' F' N' l1 (chs_rev hc)) hs ht (by rw [sizeLine_eq]; have := hc.length; simp; omega)
end
end Mine
namespace Mine
section
variable {prog : Program} {w : World} {A : Around} {E : Value → Shared → Prop} {s : Shared} {h₀ : Heap} {L l : Addr} {m : Str → Option Value} {news : List (Addr × Obj)} {n : Nat} {Q : Value → Shared → Prop}
theorem min_ends {vs : List Value} {es : List Nat} (hh : A.handled = none) (F : Fr h₀ L s.heap m) (N : News h₀ L s.heap news) (hm : (l, W.listOf vs.toArray n) ∈ news) (hi : IntsAre vs (asInts es)) (hne : es ≠ [])
    (h : ∀ (e : Nat) (t : Tok) (h' : Heap) (tk : Nat), e ∈ es → (∀ a ∈ es, e ≤ a) → Fr h₀ L h' m → News h₀ L h' news → Q (.int (e : Int) t) { s with heap := h', toks := tk }) :
    wpAny (model prog w) A (call (.builtin "min") [.ref l]) Q E s := by
  refine min_list_N hh F N ⟨_, (N _ hm).1, rfl, n, rfl⟩ hi (by simpa [asInts] using List.length_pos_iff.mpr hne) fun h' M t tk F' N' h1 h2 => ?_
  obtain ⟨e, he, rfl⟩ := List.mem_map.mp h1
  exact h e t h' tk he (fun a ha => by have := h2 _ (List.mem_map.mpr ⟨a, ha, rfl⟩); omega) F' N'
theorem slice_end {value slice : Expr} {wl g : List Nat} {e : Nat} {t uj : Tok} (F : Fr h₀ L s.heap m) (N : News h₀ L s.heap news) (he : e ≤ wl.length) (hg : g = wl.take e) (hz : wl.length = 8)
    (h : ∀ h' t' k, Fr h₀ L h' m → News h₀ L h' news → Q (.str (tS g) t') { s with heap := h', toks := k })
    (hs : subscripted slice false (.str (tS wl) t) (.ref s.heap.objs.size) = operate [.ref s.heap.objs.size, .str (tS wl) t] (getItem (.str (tS wl) t) (.ref s.heap.objs.size)) := by with_unfolding_all rfl)
    (ht : ∀ r, letTemporaryGo value (.str (tS wl) t) r = pure () := by intro _; with_unfolding_all rfl) :
    wpAny (model prog w) A (subscriptTail value slice (.str (tS wl) t) (.ref s.heap.objs.size)) Q E { s with heap := s.heap.push { cls := .type "slice", data := .fields #[.none, .int (e : Int) uj, .none] } } := by
  refine slice_strN_ns F N (fun h' t' k F' N' => ?_) hs ht (by rw [len_tS, hz, sizeLine_eq]; exact Nat.le_of_ble_eq_true rfl)
  have e1 : Txt.slice (tS wl) none (some (e : Int)) = tS g := by rw [hg]; exact slice_nat wl (a := 0) (b := e) (Nat.zero_le _) he
  rw [e1]; exact h h' t' k F' N'
theorem ne_same {x : Str} {t u : Tok} (h : Q (.bool false) s) : wpAny (model prog w) A (compareOp .NotEq (.str x t) (.str x u)) Q E s := ne_str (by simpa using h)
theorem ne_eq {x y : Str} {t u : Tok} (he : x = y) (h : Q (.bool false) s) : wpAny (model prog w) A (compareOp .NotEq (.str x t) (.str y u)) Q E s := by subst he; exact ne_same h
theorem join_chsN {D : Addr} {ws : List Value} {wl : List Nat} {t : Tok} (N : News h₀ L s.heap news) (hm : (D, W.listOf ws.toArray n) ∈ news) (C : Chs ws wl) (hz : wl.length ≤ 100) (h : ∀ t' k, Q (.str (tS wl) t') { s with toks := k }) :
    wpAny (model prog w) A (call (.builtin "str.join") [.str (Str.ofString "") t, .ref D]) Q E s := join_chs ⟨_, (N _ hm).1, rfl, n, rfl⟩ C hz h
end
end Mine
end
section
namespace Mine
section
variable {prog : Program} {w : World} {A : Around} {E : Value → Shared → Prop} {s : Shared} {h₀ : Heap} {L : Addr} {m : Str → Option Value} {Q : Value → Shared → Prop}
theorem ints_len {vs : List Value} {ns : List Int} (h : IntsAre vs ns) : vs.length = ns.length := h.length
theorem ends_len (wl : List Nat) (done : List (Nat × Nat × Nat)) : (asInts (endsOf wl done)).length ≤ done.length + 1 := by
  simp only [asInts, endsOf, List.length_map, List.length_cons]
  exact Nat.succ_le_succ (List.length_filterMap_le _ _)
theorem ext_turn {I eA D b : Addr} {it lo : Obj} {ts rest news : List (Addr × Obj)} {vs ws : List Value} {k n2 : Nat} {wl : List Nat} {done : List (Nat × Nat × Nat)} {ns : List Int}
    (F : Fr h₀ L s.heap m) (N : News h₀ L s.heap news) (hb : (b, W.listOf ws.toArray n2) ∈ news) (hsub : ∀ p ∈ (eA, W.listOf vs.toArray k) :: (I, it) :: (D, lo) :: (ts ++ rest), p ∈ news)
    (hI : ∀ p ∈ (eA, W.listOf vs.toArray k) :: (D, lo) :: (ts ++ rest), p.1 ≠ I) (h1 : @LT.lt Nat _ eA D) (h2 : ∀ q ∈ ts, eA ≠ q.1) (h3 : AllLt eA rest) (hv : IntsAre vs (asInts (endsOf wl done))) (hd : done.length ≤ 10) (hw : IntsAre ws ((ns.drop 1).take 1))
    (h : ∀ (h' : Heap) (k' : Nat), Fr h₀ L h' m → News h₀ L h' ((I, it) :: (eA, W.listOf (vs ++ ws).toArray k') :: (D, lo) :: (ts ++ rest)) → Q .none { s with heap := h' }) :
    wpAny (model prog w) A (call (.builtin "list.extend") [.ref eA, .ref b]) Q E s := by
  have hvl := hv.length
  have hwl := hw.length
  have e1 := ends_len wl done
  have e2 : ((ns.drop 1).take 1).length ≤ 1 := by rw [List.length_take]; omega
  have N2 : News h₀ L s.heap ([] ++ (eA, { cls := .type "list", data := .seq vs.toArray k }) :: (I, it) :: (D, lo) :: (ts ++ rest)) := fun p hp => N p (hsub p hp)
  refine PyProof.Rows.extend_in (own := []) (n2 := n2) (its2 := ws.toArray) F N2 (fun p hp => nomatch hp) (fun p hp => ?_) (N _ hb).1 (fun h' n' F' N' => h h' n' F' fun p hp => ?_) (by rw [sizeLine_eq]; simp; omega)
  · rcases List.mem_cons.mp hp with rfl | hp
    · exact fun e => hI (eA, W.listOf vs.toArray k) (.head _) e.symm
    · rcases List.mem_cons.mp hp with rfl | hp
      · exact Nat.ne_of_gt h1
      · rcases List.mem_append.mp hp with hp | hp
        · exact fun e => h2 p hp e.symm
        · exact Nat.ne_of_lt (allLt_mem h3 p hp)
  · refine N' p ?_
    simp only [List.nil_append, List.mem_cons] at hp ⊢
    rcases hp with h | h | h
    · exact .inr (.inl h)
    · exact .inl (by rw [h])
    · exact .inr (.inr h)
theorem sub_turn {x y z i e d : Addr × Obj} {ts rest : List (Addr × Obj)} : ∀ p ∈ e :: i :: d :: (ts ++ rest), p ∈ x :: y :: z :: i :: e :: (rest ++ (d :: ts)) := by
  intro p hp
  simp only [List.mem_cons, List.mem_append] at hp ⊢
  rcases hp with h | h | h | h | h
  · exact .inr (.inr (.inr (.inr (.inl h))))
  · exact .inr (.inr (.inr (.inl h)))
  · exact .inr (.inr (.inr (.inr (.inr (.inr (.inl h))))))
  · exact .inr (.inr (.inr (.inr (.inr (.inr (.inr h))))))
  · exact .inr (.inr (.inr (.inr (.inr (.inl h)))))
end
end Mine
namespace Mine
theorem mT_eq {lo mi hi te : Option Value} {a b c d : Value} {m₀ : Str → Option Value} : (fun y => if y = Str.ofString "text" then some d else if y = Str.ofString "high" then some c else if y = Str.ofString "middle" then some b else if y = Str.ofString "low" then some a else mT lo mi hi te m₀ y) = mT (some a) (some b) (some c) (some d) m₀ := by
  funext y
  by_cases h1 : y = Str.ofString "text"
  · simp only [mT, if_pos h1]
  · by_cases h2 : y = Str.ofString "high"
    · simp only [mT, if_neg h1, if_pos h2]
    · by_cases h3 : y = Str.ofString "middle"
      · simp only [mT, if_neg h1, if_neg h2, if_pos h3]
      · by_cases h4 : y = Str.ofString "low"
        · simp only [mT, if_neg h1, if_neg h2, if_neg h3, if_pos h4]
        · simp only [mT, if_neg h1, if_neg h2, if_neg h3, if_neg h4]
end Mine
end
section
namespace Mine
section
variable {h₀ h : Heap} {L : Addr}
theorem fin_drop {e d a b c f : Addr × Obj} {ts rest : List (Addr × Obj)} (N : News h₀ L h (e :: d :: (ts ++ (a :: b :: c :: f :: rest)))) : News h₀ L h (e :: rest) := by
  intro p hp
  refine N p ?_
  simp only [List.mem_cons, List.mem_append] at hp ⊢
  rcases hp with h | h
  · exact .inl h
  · exact .inr (.inr (.inr (.inr (.inr (.inr (.inr h))))))
theorem ne_of_obj {p q : Addr × Obj} {news : List (Addr × Obj)} (N : News h₀ L h news) (hp : p ∈ news) (hq : q ∈ news) (hne : p.2.cls ≠ q.2.cls) : p.1 ≠ q.1 := fun e => by
  have h1 := (N p hp).1
  have h2 := (N q hq).1
  rw [e, h2] at h1
  injection h1 with h1
  exact hne (by rw [h1])
end
theorem ended_le {w g sid com : List Nat} (h : Ended w g sid com) (hl : ∀ a ∈ w, 97 ≤ a ∧ a ≤ 101) : (∀ a ∈ sid.reverse, a ≤ 101) ∧ (∀ a ∈ com, a ≤ 101) ∧ sid.length + com.length + g.length = w.length := by
  obtain ⟨r, hw, hp⟩ := h.pre
  have hr : ∀ a ∈ r, a ≤ 101 := fun a ha => (hl a (by rw [hw]; exact List.mem_append_right _ ha)).2
  refine ⟨fun a ha => hr a (hp.subset (List.mem_append_left _ (by simpa using ha))), fun a ha => hr a (hp.subset (List.mem_append_right _ ha)), ?_⟩
  have h2 := hp.length_eq
  rw [List.length_append] at h2
  rw [hw, List.length_append]
  omega
section
variable {w : World} {p : Program} {loose : List Str} {mean : ExcName → Option Value} {mg mb : Str → Option Value}
  {dp un : Nat} {gd : Option (List Code)} {cn : Str} {cs : Scope} {a : Addr} {ccd : Value} {cl : List (Str × Addr)} {outer : List Env} {A₀ : Around} {base h₀ : Heap} {L : Addr} {m : Str → Option Value} {s : Shared} {Q E : Value → Shared → Prop}
theorem c_shuntedK {wl al : List Nat} {tx ty : Tok} {x e c t : Addr × Obj} (hz : wl.length = 8) (hp : al.Perm wl) (hu : Up al) (hl : ∀ a ∈ wl, 97 ≤ a ∧ a ≤ 101) (C : Cy w p loose mean mg mb dp un cs outer A₀ base h₀ L m s.heap)
    (N : News h₀ L s.heap (x :: e :: c :: t :: (101, tabObj #[]) :: [])) (hG : AllBare s.gens) (h1 : e.1 ≠ 101) (h2 : c.1 ≠ 101) (h3 : t.1 ≠ 101)
    (hret : ∀ (g sid com : List Nat) (D : Addr) (t1 t2 t3 : Tok) (ps : Array Value) (s' : Shared), Ended wl g sid com → g ≠ [] → sid.length + com.length + g.length = 8 → (∀ a ∈ sid.reverse, a ≤ 101) → (∀ a ∈ com, a ≤ 101) → (∀ p ∈ (101, tabObj ps) :: e :: c :: t :: [], p.1 < D) → Fr h₀ L s'.heap m → News h₀ L s'.heap ((D, tup3 (tS g) t1 (tS sid.reverse) t2 (tS com) t3) :: (101, tabObj ps) :: e :: c :: t :: []) → AllBare s'.gens → s'.os = s.os → s'.drawn = s.drawn → Q (.ref D) s') :
    wpAny (model PySem.Challenge.rw_ik0116_01.row.prog w) (ktrTop dp un gd cn cs L a ccd cl outer) (call (.ref 188) [.str (tS al) tx, .str (tS wl) ty]) Q E s := by
  obtain ⟨g, sid, com, hR, hE, hg⟩ := shunt_row (w := wl) (all := al) (fun h => by rw [h] at hz; cases hz) hp hu
  obtain ⟨b1, b2, b3⟩ := ended_le hE hl
  refine c_shunted (news₀ := e :: c :: t :: []) C (cb_drop N fun q hq => ?_) hG (fun q hq => ?_) hR (by rw [hp.length_eq, hz]; decide) fun D t1 t2 t3 ps s' l1 F' N' hG' ho hd => ?_
  · simp only [List.mem_cons, List.not_mem_nil, or_false] at hq ⊢
    rcases hq with h | h | h | h
    · exact .inr (.inr (.inr (.inr h)))
    · exact .inr (.inl h)
    · exact .inr (.inr (.inl h))
    · exact .inr (.inr (.inr (.inl h)))
  · simp only [List.mem_cons, List.not_mem_nil, or_false] at hq
    rcases hq with rfl | rfl | rfl
    · exact h1
    · exact h2
    · exact h3
  · exact hret g sid com D t1 t2 t3 ps s' hE hg (b3.trans hz) b1 b2 l1 F' N' hG' ho hd
end
end Mine
end
section
namespace Mine
theorem not_lt_dec (a b : Nat) : (!decide (a < b)) = decide (b ≤ a) := by
  by_cases h : a < b
  · simp [h]
  · simp [h]; omega
section
variable {prog : Program} {w : World} {A : Around} {E : Value → Shared → Prop} {s : Shared} {h₀ : Heap} {L : Addr} {m : Str → Option Value} {news : List (Addr × Obj)} {n : Nat} {Q : Value → Shared → Prop}
theorem slice_endK {value slice : Expr} {wl g sid com : List Nat} {e : Nat} {t uj : Tok} (F : Fr h₀ L s.heap m) (N : News h₀ L s.heap news) (hm : ∀ a ∈ endsOf wl threes, e ≤ a) (he : e ∈ endsOf wl threes) (hl : ∀ a ∈ wl, 97 ≤ a ∧ a ≤ 101) (hE : Ended wl g sid com) (hz : wl.length = 8)
    (h : ∀ h' t' k, Fr h₀ L h' m → News h₀ L h' news → Q (.str (tS g) t') { s with heap := h', toks := k })
    (hs : subscripted slice false (.str (tS wl) t) (.ref s.heap.objs.size) = operate [.ref s.heap.objs.size, .str (tS wl) t] (getItem (.str (tS wl) t) (.ref s.heap.objs.size)) := by with_unfolding_all rfl)
    (ht : ∀ r, letTemporaryGo value (.str (tS wl) t) r = pure () := by intro _; with_unfolding_all rfl) :
    wpAny (model prog w) A (subscriptTail value slice (.str (tS wl) t) (.ref s.heap.objs.size)) Q E { s with heap := s.heap.push { cls := .type "slice", data := .fields #[.none, .int (e : Int) uj, .none] } } :=
  slice_end F N (hm _ (.head _)) (end_is hl hE he hm) hz h hs ht
theorem rev_chsK {D : Addr} {value slice : Expr} {vs : List Value} {l l' : List Nat} {u : Tok} {ops : List Value} (F : Fr h₀ L s.heap m) (N : News h₀ L s.heap news) (hm : (D, W.listOf vs.toArray n) ∈ news) (hc : Chs vs l) (he : l.reverse = l') (hz : l'.length ≤ 8)
    (h : ∀ D ws h', Fr h₀ L h' m → News h₀ L h' ((D, W.listOf (List.toArray ws) 0) :: news) → (∀ p ∈ news, p.1 < D) → Chs ws l' → Q (.ref D) { s with heap := h' })
    (hs : subscripted slice false (.ref D) (.ref s.heap.objs.size) = operate ops (getItem (.ref D) (.ref s.heap.objs.size)) := by with_unfolding_all rfl)
    (ht : ∀ r, letTemporaryGo value (.ref D) r = pure () := by intro _; rfl) :
    wpAny (model prog w) A (subscriptTail value slice (.ref D) (.ref s.heap.objs.size)) Q E { s with heap := s.heap.push { cls := .type "slice", data := .fields #[.none, .none, .int (-1) u] } } := by
  subst he
  rw [List.length_reverse] at hz
  exact rev_chs F N hm hc (by omega) h hs ht
end
section
variable {p : Program} {w : World} {A : Around} {E : Value → Shared → Prop} {s : Shared} {h₀ : Heap} {L : Addr} {m mg mb : Str → Option Value} {loose : List Str} {mean : ExcName → Option Value} {news : List (Addr × Obj)} {Q : Value → Shared → Prop} {K : Frag} {prog : Program}
theorem kinds_lt {p1 p2 p3 p4 p5 p6 p7 p8 p9 : Pos} {env : Env} {c ax : Addr} {o : Obj} {wl gl sid com : List Nat} {vs : List Value} {n : Nat} {tg : Tok}
    (hh : A.handled = none) (F : Fr h₀ L s.heap m) (N : News h₀ L s.heap news) (X : K.In h₀) (T : Top p loose mean mg mb h₀) (e : nsIn K mainGlobals (Str.ofString "max") = some none)
    (hv : m (Str.ofString "others") = some (.ref ax)) (hm : (ax, W.listOf vs.toArray n) ∈ news) (hc : Chs vs (sid.reverse ++ com)) (hE : Ended wl gl sid com) (hz : sid.length + com.length + gl.length = 8) (hne : gl ≠ [])
    (hg : (c, o) ∈ news) (ho : o.data = .cell (some (.str (tS gl) tg)))
    (hL : env.locals = L) (hk : env.scope.kind = .function) (hl : env.scope.names.lookup (Str.ofString "others") = some .local) (hkg : env.scope.names.lookup (Str.ofString "gone") = some .cell) (hcl : env.cells.lookup (Str.ofString "gone") = some c) (hgl : env.globals = mainGlobals) (hb : env.builtins = builtinsNs)
    (hQ : ∀ (D : Addr) (ws : List Value) (n' : Nat) (h' : Heap) (tk : Nat), Chs ws sid.reverse → (∀ p ∈ news, p.1 ≠ D) → Fr h₀ L h' m → News h₀ L h' ((D, W.listOf ws.toArray n') :: news) → Q (.ref D) { s with heap := h', toks := tk }) :
    wpAny (model prog w) A (eval (.ListComp (Expr.Name (Str.ofString "kind") p1) [{ target := .Name (Str.ofString "kind") p2, iter := .Name (Str.ofString "others") p3, ifs := [Expr.Compare (Expr.Name (Str.ofString "kind") p4) [CmpOp.Lt] [Expr.Call (Expr.Name (Str.ofString "max") p5) [Expr.Name (Str.ofString "gone") p6] [] p7] p8], is_async := 0 }] kScope p9) env) Q E s :=
  kinds_eval (op := .Lt) (f := fun a => decide (a < top gl)) (fun x u v s' Q' E' h => lt_str (by rw [ch_lt]; exact h)) hh F N X T e hv hm hc (by rw [List.length_append, List.length_reverse]; omega) hne hg ho hL hk hl hkg hcl hgl hb (by with_unfolding_all rfl)
    (fun D ws n' h' tk C' => hQ D ws n' h' tk (low_is hE ▸ C'))
theorem kinds_ge {p1 p2 p3 p4 p5 p6 p7 p8 p9 : Pos} {env : Env} {c ax : Addr} {o : Obj} {wl gl sid com : List Nat} {vs : List Value} {n : Nat} {tg : Tok}
    (hh : A.handled = none) (F : Fr h₀ L s.heap m) (N : News h₀ L s.heap news) (X : K.In h₀) (T : Top p loose mean mg mb h₀) (e : nsIn K mainGlobals (Str.ofString "max") = some none)
    (hv : m (Str.ofString "others") = some (.ref ax)) (hm : (ax, W.listOf vs.toArray n) ∈ news) (hc : Chs vs (sid.reverse ++ com)) (hE : Ended wl gl sid com) (hz : sid.length + com.length + gl.length = 8) (hne : gl ≠ [])
    (hg : (c, o) ∈ news) (ho : o.data = .cell (some (.str (tS gl) tg)))
    (hL : env.locals = L) (hk : env.scope.kind = .function) (hl : env.scope.names.lookup (Str.ofString "others") = some .local) (hkg : env.scope.names.lookup (Str.ofString "gone") = some .cell) (hcl : env.cells.lookup (Str.ofString "gone") = some c) (hgl : env.globals = mainGlobals) (hb : env.builtins = builtinsNs)
    (hQ : ∀ (D : Addr) (ws : List Value) (n' : Nat) (h' : Heap) (tk : Nat), Chs ws com → (∀ p ∈ news, p.1 ≠ D) → Fr h₀ L h' m → News h₀ L h' ((D, W.listOf ws.toArray n') :: news) → Q (.ref D) { s with heap := h', toks := tk }) :
    wpAny (model prog w) A (eval (.ListComp (Expr.Name (Str.ofString "kind") p1) [{ target := .Name (Str.ofString "kind") p2, iter := .Name (Str.ofString "others") p3, ifs := [Expr.Compare (Expr.Name (Str.ofString "kind") p4) [CmpOp.GtE] [Expr.Call (Expr.Name (Str.ofString "max") p5) [Expr.Name (Str.ofString "gone") p6] [] p7] p8], is_async := 0 }] kScope p9) env) Q E s :=
  kinds_eval (op := .GtE) (f := fun a => decide (top gl ≤ a)) (fun x u v s' Q' E' h => PySem.P.ge_str (by rw [ch_lt, not_lt_dec]; exact h)) hh F N X T e hv hm hc (by rw [List.length_append, List.length_reverse]; omega) hne hg ho hL hk hl hkg hcl hgl hb (by with_unfolding_all rfl)
    (fun D ws n' h' tk C' => hQ D ws n' h' tk (high_is hE ▸ C'))
end
section
variable {w : World} {p : Program} {loose : List Str} {mean : ExcName → Option Value} {mg mb : Str → Option Value}
  {dp un : Nat} {gd : Option (List Code)} {cn : Str} {cs : Scope} {a : Addr} {ccd : Value} {cl : List (Str × Addr)} {A₀ : Around} {base h₀ : Heap} {L : Addr} {m : Str → Option Value} {s : Shared} {Q E : Value → Shared → Prop}
theorem c_uldK {X Y : Addr} {wl al g sid com : List Nat} {vsX vsY : List Value} {nX nY : Nat} {news : List (Addr × Obj)} (hE : Ended wl g sid com) (hn : sid.length + com.length + g.length = 8) (C : Cx w p loose mean mg mb dp un cs [] A₀ base h₀ L m s.heap) (N : News h₀ L s.heap ((Y, W.listOf vsY.toArray nY) :: (X, W.listOf vsX.toArray nX) :: news)) (hX : Chs vsX al) (hY : Chs vsY g) (hp : al.Perm wl) (hu : Up al) (hz : al.length = 8)
    (hXY : @LT.lt Nat _ X Y) (h1 : AllLt X news) (h2 : AllLt Y news)
    (hret : ∀ (T M : Addr) (ml : List Nat) (vsM : List Value) (nM nZ nX' : Nat) (h' : Heap) (tk' : Nat), Chs vsM ml → ml.reverse = sid.reverse ++ com → (sid.reverse ++ com).length ≤ 8 → @LT.lt Nat _ Y M → @LT.lt Nat _ M T → (∀ p ∈ news, p.1 < M) → Fr h₀ L h' m →
      News h₀ L h' ((T, { cls := .type "tuple", data := .seq [Value.ref M, Value.ref Y].toArray }) :: (M, W.listOf vsM.toArray nM) :: (Y, W.listOf ([] : List Value).toArray nZ) :: (X, W.listOf ([] : List Value).toArray nX') :: news) → Q (.ref T) { s with heap := h', toks := tk' }) :
    wpAny (model PySem.Challenge.rw_ik0116_01.row.prog w) (ktrTop dp un gd cn cs L a ccd cl []) (call (.ref 45) [.ref X, .ref Y]) Q E s := by
  obtain ⟨d1, d2⟩ := diff_is hE hp hu
  refine c_uld C N hX hY (by omega) (by omega) hXY (fun q hq => Nat.ne_of_lt (allLt_mem h1 q hq)) (fun q hq => Nat.ne_of_lt (allLt_mem h2 q hq)) fun T M vsM vsZ nM nZ nX' h' tk' hM hZ l1 l2 l3 F' N' => ?_
  rw [d1] at hZ
  cases hZ
  exact hret T M _ vsM nM nZ nX' h' tk' hM d2 (by rw [List.length_append, List.length_reverse]; omega) l1 l2 l3 F' N'
end
end Mine
end
section
namespace Mine
theorem old_of_ghost {tabs : List (Addr × Addr)} {h₁ h' : Heap} (hT : TabsAt tabs h₁) (hk : ∀ b o, (ghostOf h₁ tabs).get? b = some o → h'.get? b = some o) (hgr : GrownAll tabs h') : OldK h₁ h' := by
  have two : ∀ b o, h₁.get? b = some o → h'.get? b = some o ∨ (isCodeTable h₁ b ∧ o = tabObj #[] ∧ ∃ ps, h'.get? b = some (tabObj ps)) := by
    intro b o e
    rcases Classical.em (b ∈ tabs.map (·.2)) with hb | hb
    · obtain ⟨q, hq, rfl⟩ := List.mem_map.mp hb
      obtain ⟨c1, c2⟩ := hT q hq
      have e2 : o = tabObj #[] := by
        rw [c2] at e
        injection e with e
        exact e.symm
      exact .inr ⟨(c1.tab c2).isCodeTable, e2, hgr.get q hq⟩
    · exact .inl (hk b o (ghost_ne e hb))
  constructor
  · intro b o e
    rcases two b o e with h | ⟨t, rfl, ps, hp⟩
    · exact .inl h
    · exact .inr (.inl ⟨t, rfl, #[], ps, rfl, by simpa using hp⟩)
  · intro b o e
    rcases two b o e with h | ⟨_, _, ps, hp⟩
    · exact ⟨_, h⟩
    · exact ⟨_, hp⟩
/-- the law's end: True, the old heap kept, the generators left bare -/
noncomputable def EndT (s₁ : Shared) (r : Result) (s' : Shared) : Prop :=
  r = .ok (.ret (.bool true)) ∧ (∀ b o, s₁.heap.get? b = some o → s'.heap.get? b = some o) ∧ s'.os = s₁.os ∧ AllBare s'.gens
theorem post_law {M : Model} {A : Around} {cd : Code} {s s₁ : Shared} {cw : ClaimW} {cl : Str → Option Addr} {mean : ExcName → Option Value} {args : List WData} {tabs : List (Addr × Addr)} (hT : TabsAt tabs s₁.heap) (hr : ∀ a x, cw.raises a x = false)
    (hp : cw.post args (.bool true) args = true)
    (h : codeAny M A cd (fun r s' => EndT { s₁ with heap := ghostOf s₁.heap tabs } r s' ∧ GrownAll tabs s'.heap) s) : codeAny M A cd (GoodWG cw cl mean args s₁) s := by
  refine codeAny_mono h fun r s' hq => ?_
  obtain ⟨⟨rfl, hk, ho, hg⟩, hgr⟩ := hq
  exact ⟨.inl ⟨_, .bool true, [], rfl, hr args, ReadsW.bool true, hp, fun _ => ⟨List.nodup_nil, fun _ hm => nomatch hm⟩⟩, old_of_ghost hT hk hgr, ho, hg⟩
end Mine
end
section
local macro_rules | `(tactic| km_lay $_T:ident $_a:ident $_b:ident $_c:ident $_d:ident) => `(tactic| have $(Lean.mkIdent `hT9) : TabsAt [(166, 162), (105, 101)] _ := List.forall_mem_cons.mpr ⟨⟨codeHd_of_K (c := 166) (P := 162) (show Frag.In (Mine.hd.heap_39 _) _ from by assumption) (by kernel_rfl), $(Lean.mkIdent `hT8) 162 (by k_mem)⟩, List.forall_mem_cons.mpr ⟨⟨codeHd_of_K (c := 105) (P := 101) (show Frag.In (Mine.hd.heap_39 _) _ from by assumption) (by kernel_rfl), $(Lean.mkIdent `hT8) 101 (by k_mem)⟩, fun _ h => nomatch h⟩⟩)
local macro_rules | `(tactic| walk_at "callWith ref nil nil") => `(tactic| (k_here; k_dflt (first | (refine' callWith_K ?k1 ?k2 ?_; (case k1 => k_asm); (case k2 => k_is); k_whole) | (refine' callWith_K0 ?k1 ?k2 ?_; (case k1 => k_in); (case k2 => k_is); k_whole))))
local macro_rules | `(tactic| walk_at "call builtin:sorted cons nil") => `(tactic| (k_here; k_dflt (refine' Mine.sorted_chs ?hh ?F ?N ?z ?_; (case hh => exact rfl); (case F => k_asm); (case N => k_asm); (case z => assumption)); intro D' h' tk' vs' al' e' F' N' l1 C' p' z' u'; (try k_lt l1)))
local macro_rules | `(tactic| walk_at "call type:list cons nil") => `(tactic| (k_here; k_dflt (refine' Mine.list_chs ?hh ?F ?N ?z ?_; (case hh => exact rfl); (case F => k_asm); (case N => k_asm); (case z => (first | omega | (rw [List.length_reverse]; omega)))); intro D' h' tk' vs' e' F' N' l1 C'; (try k_lt l1)))
local macro_rules | `(tactic| walk_at "compareOp NotEq ref ref") => `(tactic| (k_here; k_dflt (refine' Mine.ne_chs ?N ?ha ?hb ?hi ?hj ?he ?hl ?hu ?_; (case N => k_asm); (case ha => k_mem); (case hb => k_mem); (case hi => assumption); (case hj => assumption); (case he => exact rfl); (case hl => assumption); (case hu => ke_room))))
local macro_rules | `(tactic| kn_posts) => `(tactic| (refine Mine.post_law $(Lean.mkIdent `hT9) (fun _ _ => rfl) ?_ ?_; (· first | rfl | with_unfolding_all rfl | wrow_post)))
local macro_rules | `(tactic| walk_at "own law") => `(tactic| skip)
section
theorem Mine.law_t : PySem.Challenge.rw_ik0116_01.Holds := Mine.hd (And.intro Mine.left_all (by
  k_go0
  all_goals (try k_fold)
  (iterate 37 walk1)
  ((try dsimp only); k_dflt (refine' Mine.slice8K (s := ⟨_, _, _, _, _⟩) ?Fqa ?Nqa ?mqa ?iqa ?zqa ?_ ?hsqa; (case Fqa => k_asm); (case Nqa => k_asm); (case mqa => k_mem); (case iqa => assumption); (case zqa => exact rfl); (case hsqa => exact rfl)); intro D' ws' ns' h' F' N' l1 I' e' z'; (try k_lt l1))
  (iterate 9 walk1)
  (k_dflt (refine' Mine.letters_evalK ?hhqb ?Fqb ?Nqb ?hvqb ?mqb ?iqb ?zqb ?hLqb ?hkqb ?hlqb ?_; (case hhqb => exact rfl); (case Fqb => k_asm); (case Nqb => k_asm); (case hvqb => exact rfl); (case mqb => k_mem); (case iqb => assumption); (case zqb => assumption); (case hLqb => exact rfl); (case hkqb => exact rfl); (case hlqb => exact rfl)); intro D' ws' wl' h' tk' C' z' l5' I' F' N')
  walk1
  (k_dflt (refine' Mine.join_chs ?Iqc ?Cqc ?zqc ?_; (case Iqc => assumption); (case Cqc => assumption); (case zqc => omega)); intro t' k')
  (iterate 12 walk1)
  (k_dflt (refine' Mine.len8 ?zqf ?_; (case zqf => assumption)); intro t' k')
  (iterate 5 walk1)
  ((rename Fr _ _ _ _ => lF'); (with_unfolding_all refine' For_turns lF' ?_; k_whole))
  (iterate 3 walk1)
  (k_dflt (refine' Mine.c_threes ?kCqe ?kNqe ?_; (case kCqe => exact ⟨by k_asm, by k_asm, by k_asm, by k_asm, by first | exact rfl | assumption, by ktr_room, by ktr_units⟩); (case kNqe => k_asm)); intro D' ts' n' h' tk' T' l1 o' F' N'; (try k_lt l1))
  ((rename Fr _ _ _ _ => lF'); (rename News _ _ _ _ => lN'); (with_unfolding_all refine' Mine.th_loopK ?hhqg lF' lN' ?Tqg ?zqg ?aqg ?bqg ?cqg ?dqg ?_ ?_; (case hhqg => exact rfl); (case Tqg => assumption); (case zqg => assumption); (case aqg => exact rfl); (case bqg => exact rfl); (case cqg => exact rfl); (case dqg => exact rfl)); all_goals clear lF' lN')
  · unfold Mine.Held
    intro I done a b c T ta tb tc l mi hi te vs k it h tk hdl hin hTs hv hic hI F N
    have N2 := Mine.th_open N hTs
    clear N
    dsimp only [List.cons_append, List.nil_append] at N2
    (iterate 39 walk1)
    (k_dflt (refine' Mine.c_translateK ?hinqh ?hXqh ?kCqh ?kNqh ?_; (case hinqh => assumption); (case hXqh => exact Mine.pat_eq _ _ _); (case kCqh => exact ⟨by k_asm, by k_asm, by k_asm, by k_asm, by first | exact rfl | assumption, by ktr_room, by ktr_units⟩); (case kNqh => k_asm)); intro t' h' tk' z' F' N')
    (iterate 26 walk1)
    (k_dflt (refine' Mine.ne_eq ?heqj ?_; (case heqj => first | with_reducible rfl | exact Mine.text_ends _ _ _)))
    (iterate 21 walk1)
    (k_dflt (refine' Mine.c_placesK ?hzqi ?kCqi ?kNqi ?_; (case hzqi => assumption); (case kCqi => exact ⟨by k_asm, by k_asm, by k_asm, by k_asm, by first | exact rfl | assumption, by ktr_room, by ktr_units⟩); (case kNqi => k_asm)); intro D' vs' n' h' tk' I' z' l1 F' N'; (try k_lt l1))
    (iterate 6 walk1)
    ((try dsimp only); k_dflt (refine' Mine.part12 (s := ⟨_, _, _, _, _⟩) ?Fqk ?Nqk ?mqk ?iqk ?zqk ?_ ?hsqk; (case Fqk => k_asm); (case Nqk => k_asm); (case mqk => k_mem); (case iqk => assumption); (case zqk => assumption); (case hsqk => exact rfl)); intro D' ws' h' F' N' l1 I'; (try k_lt l1))
    walk1
    refine' Mine.ext_turn (k := k) (it := it) ?F ?N ?hb ?hsub hI ?h1 ?h2 ?h3 hv hdl ?hw ?_
    case F => k_asm
    case N => k_asm
    case hb => exact List.Mem.head _
    case hw => assumption
    case h1 => omega
    case h3 => (simp only [AllLt, and_true]; omega)
    case h2 => 
      intro q hq
      have o := (show ∀ q : Addr × Obj, q ∈ (_ : List (Addr × Obj)) → ∀ p : Addr × Obj, p ∈ (_ :: _ : List (Addr × Obj)) → p.1 ≠ q.1 from by assumption)
      exact o q hq _ (.head _)
    case hsub =>
      exact Mine.sub_turn
    intro h' k' F' N'
    (iterate 2 (first | (k_unfold; (try dsimp only)) | walk1 | (dsimp only; walk1)))
    exact Mine.th_next (k := k) F' N' Mine.mT_eq hv (by assumption) rfl (fun p hp => hp) hI rfl
  · unfold Mine.Held
    intro l mi hi te vs k h tk hv F N
    have N2 := Mine.fin_drop N
    clear N
    (iterate 19 walk1)
    (k_dflt (refine' Mine.join_chsN ?Nql ?mql ?Cql ?zql ?_; (case Nql => k_asm); (case mql => k_mem); (case Cql => assumption); (case zql => omega)); intro t' k')
    (iterate 4 walk1)
    (k_dflt (refine' Mine.c_shuntedK ?hzqm ?hpqm ?huqm ?hlqm ?kCqm ?kNqm ?Gqm ?h1qm ?h2qm ?h3qm ?_; (case hzqm => assumption); (case hpqm => assumption); (case huqm => assumption); (case hlqm => assumption); (case kCqm => exact ⟨by k_asm, by k_asm, by k_asm, by k_asm, by first | exact rfl | assumption, by ktr_room, by ktr_units⟩); (case kNqm => k_asm); (case Gqm => exact AllBare.of_eq (by assumption)); (case h1qm => k_ne); (case h2qm => k_ne); (case h3qm => k_ne)); intro g' sid' com' D' t1' t2' t3' ps' s' E' n' z' b1' b2' l1 F' N' G' o' d'; obtain ⟨h', gens', drawn', tk', os'⟩ := s'; dsimp only at F' N' G' o' d'; subst o' d'; (try k_lt l1))
    (iterate 27 walk1)
    (k_dflt (refine' Mine.min_ends ?hhqn ?Fqn ?Nqn ?mqn ?iqn ?neqn ?_; (case hhqn => exact rfl); (case Fqn => k_asm); (case Nqn => k_asm); (case mqn => k_mem); (case iqn => assumption); (case neqn => simp [Mine.endsOf])); intro e' t' h' tk' he' hm' F' N')
    walk1
    ((try dsimp only); k_dflt (refine' Mine.slice_endK (s := ⟨_, _, _, _, _⟩) ?Fqo ?Nqo ?hmqo ?heqo ?hlqo ?hEqo ?hzqo ?_ ?hsqo ?htqo; (case hmqo => assumption); (case heqo => assumption); (case hlqo => assumption); (case hEqo => assumption); (case hzqo => assumption); (case Fqo => k_asm); (case Nqo => k_asm); (case hsqo => exact rfl); (case htqo => exact fun _ => rfl)); intro h' t' k' F' N')
    (k_dflt (refine' Mine.ne_eq ?heqp ?_; (case heqp => first | with_reducible rfl | exact Mine.text_ends _ _ _)))
    (iterate 26 walk1)
    (k_dflt (refine' Mine.c_uldK ?hEqq ?hnqq ?kCqq ?kNqq ?hXqq ?hYqq ?hpqq ?huqq ?hzqq ?l0qq ?l1qq ?l2qq ?_; (case kNqq => k_asm); (case hXqq => assumption); (case hYqq => assumption); (case hEqq => assumption); (case hnqq => assumption); (case kCqq => exact ⟨by k_asm, by k_asm, by k_asm, by k_asm, by first | exact rfl | assumption, by ktr_room, by ktr_units⟩); (case hpqq => assumption); (case huqq => assumption); (case hzqq => assumption); (case l0qq => omega); (case l1qq => (simp only [AllLt, and_true]; omega)); (case l2qq => (simp only [AllLt, and_true]; omega))); intro T' M' ml' vs' n1' n2' n3' h' tk' C' r' z' x1' x2' l1 F' N'; (try k_lt l1))
    (iterate 20 walk1)
    ((try dsimp only); k_dflt (refine' Mine.rev_chsK (s := ⟨_, _, _, _, _⟩) ?Fqr ?Nqr ?mqr ?hcqr ?heqr ?hzqr ?_ ?hsqr ?htqr; (case Fqr => k_asm); (case Nqr => k_asm); (case mqr => k_mem); (case hcqr => assumption); (case heqr => assumption); (case hzqr => assumption); (case hsqr => with_unfolding_all rfl); (case htqr => exact fun _ => rfl)); intro D' ws' h' F' N' l1 C'; (try k_lt l1))
    (iterate 22 walk1)
    (k_dflt (refine' Mine.kinds_lt ?hhqs ?Fqs ?Nqs ?Xqs ?Tqs ?eqs ?hvqs ?hmqs ?hcqs ?hEqs ?hzqs ?hneqs ?hgqs ?hoqs ?hLqs ?hkqs ?hlqs ?hkgqs ?hclqs ?hglqs ?hbqs ?_; (case Fqs => k_asm); (case Nqs => k_asm); (case Xqs => k_asm); (case Tqs => k_asm); (case eqs => k_is); (case hvqs => exact rfl); (case hmqs => k_mem); (case hcqs => assumption); (case hEqs => assumption); (case hzqs => assumption); (case hneqs => assumption); (case hclqs => exact rfl); (case hgqs => k_mem); (case hoqs => first | exact rfl | assumption); (case hhqs => exact rfl); (case hLqs => exact rfl); (case hkqs => exact rfl); (case hlqs => exact rfl); (case hkgqs => exact rfl); (case hglqs => exact rfl); (case hbqs => exact rfl)); intro D' ws' n' h' tk' C' l1 F' N')
    (iterate 16 walk1)
    (k_dflt (refine' Mine.kinds_ge ?hhqt ?Fqt ?Nqt ?Xqt ?Tqt ?eqt ?hvqt ?hmqt ?hcqt ?hEqt ?hzqt ?hneqt ?hgqt ?hoqt ?hLqt ?hkqt ?hlqt ?hkgqt ?hclqt ?hglqt ?hbqt ?_; (case Fqt => k_asm); (case Nqt => k_asm); (case Xqt => k_asm); (case Tqt => k_asm); (case eqt => k_is); (case hvqt => exact rfl); (case hmqt => k_mem); (case hcqt => assumption); (case hEqt => assumption); (case hzqt => assumption); (case hneqt => assumption); (case hclqt => exact rfl); (case hgqt => k_mem); (case hoqt => first | exact rfl | assumption); (case hhqt => exact rfl); (case hLqt => exact rfl); (case hkqt => exact rfl); (case hlqt => exact rfl); (case hkgqt => exact rfl); (case hglqt => exact rfl); (case hbqt => exact rfl)); intro D' ws' n' h' tk' C' l1 F' N')
    (k_dflt (refine' Mine.eq_chs ?Nqu ?haqu ?hbqu ?hiqu ?hjqu ?hequ ?hlqu ?huqu ?_; (case Nqu => k_asm); (case haqu => k_mem); (case hbqu => k_mem); (case hiqu => assumption); (case hjqu => assumption); (case hequ => exact rfl); (case hlqu => assumption); (case huqu => ke_room)))
    (rename Fr _ _ _ _ => lF)
    (rename News _ _ _ _ => lN)
    exact ⟨⟨rfl, lF.keep, rfl, by assumption⟩, GrownAt.of lN (by k_mem), GrownAt.of lN (by k_mem), trivial⟩))
end
end
end
end
theorem PySem.Challenge.cw_ik0116_01_holds : PySem.Challenge.rw_ik0116_01.Holds := by
  exact Mine.law_t
