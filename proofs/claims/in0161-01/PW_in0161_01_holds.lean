import PyProof.Rows.All
import Wide.All
import OpenK.AllK
import Wide.FinOn
import PySem.Challenge.RW_in0161_01
open PySem PySem.W PySem.Calls PyProof.Rows PySem.Spec
set_option Elab.async false
set_option maxRecDepth 100000
set_option maxHeartbeats 8000000
set_option linter.all false
namespace Mine
-- HE
/-- a run of n steps over the tree of objects; the machine's parts are handed in -/
noncomputable def goT (ok : Thread → Bool) (S : SharedT → Thread → Option (SharedT × Thread)) : Nat → SharedT → Thread → Option (SharedT × Thread)
  | 0, s, t => some (s, t)
  | n + 1, s, t => match through t with
    | true => none
    | false => match ok t with
      | false => none
      | true => match S s t with
        | some (s', t') => goT ok S n s' t'
        | none => none
theorem goT_of {tb : String → Option Builtin} {p : Program} {w : World} {n₀ : Nat} {ann : Option Value} : ∀ {n : Nat} {s r : SharedT} {t t' : Thread}, goT (stepOk n₀ ann) (stepT (denote tb) p w) n s t = some (r, t') → topGo tb p w n₀ ann n s.abs t = some (r.abs, t')
  | 0, _, _, _, _, h => by cases h; rfl
  | n + 1, s, r, t, t', h => by
    unfold goT at h
    unfold topGo
    cases ht : through t with
    | true => rw [ht] at h; cases h
    | false =>
      rw [ht] at h
      cases hk : stepOk n₀ ann t with
      | false => rw [hk] at h; cases h
      | true =>
        rw [hk] at h
        cases hs : stepT (denote tb) p w s t with
        | none => rw [hs] at h; cases h
        | some q => obtain ⟨s₂, t₂⟩ := q; rw [hs] at h; dsimp only; rw [stepT_spec hs]; exact goT_of h
noncomputable def impT (xb : Thread → Option (List Value)) (S : SharedT → Thread → Option (SharedT × Thread)) : Nat → SharedT → Thread → Option SharedT
  | 0, _, _ => none
  | n + 1, s, t => match xb t with
    | some [] => some s
    | some (_ :: _) => none
    | none => match S s t with
      | some (s', t') => impT xb S n s' t'
      | none => none
theorem impT_of {tb : String → Option Builtin} {p : Program} {w : World} : ∀ {n : Nat} {s r : SharedT} {t : Thread}, impT Thread.atExitBegin (stepT (denote tb) p w) n s t = some r → importEnds tb p w n s.abs t = some r.abs
  | 0, _, _, _, h => by cases h
  | n + 1, s, r, t, h => by
    unfold impT at h
    unfold importEnds
    cases ht : t.atExitBegin with
    | some l =>
      rw [ht] at h
      cases l with
      | nil => cases h; rfl
      | cons => cases h
    | none =>
      rw [ht] at h
      cases hs : stepT (denote tb) p w s t with
      | none => rw [hs] at h; cases h
      | some q => obtain ⟨s₂, t₂⟩ := q; rw [hs] at h; dsimp only; rw [stepT_spec hs]; exact impT_of h
/-- a list of objects as a tree -/
noncomputable def toBT : List Obj → Nat → BT → Option (BT × Nat)
  | [], n, t => some (t, n)
  | o :: r, n, t => match ((t.ins n o).get n).isSome with
    | true => toBT r (n + 1) (t.ins n o)
    | false => none
theorem toBT_of {life : Life} : ∀ {l : List Obj} {n : Nat} {t : BT} {r : BT × Nat} {h : Heap}, toBT l n t = some r → absHeap t n life = h → absHeap r.1 r.2 life = ⟨h.objs ++ l.toArray, h.life⟩
  | [], n, t, r, h, e, q => by cases e; subst q; simp
  | o :: l, n, t, r, h, e, q => by
    unfold toBT at e
    cases hs : ((t.ins n o).get n).isSome with
    | false => rw [hs] at e; cases e
    | true =>
      rw [hs] at e
      rw [toBT_of e (absHeap_ins hs), q]
      simp only [Heap.push, Heap.mk.injEq, and_true]
      simp
/-- the opening's machine -/
structure Mach where
  xb : Thread → Option (List Value)
  S : Program → World → SharedT → Thread → Option (SharedT × Thread)
  ok : Nat → Option Value → Thread → Bool
  start : Program → Shared × Thread
  fence : Program → Shared → Option Shared
noncomputable def slowM : Mach := ⟨Thread.atExitBegin, stepT (denote treeTable), stepOk, start, fenceModules?⟩
/-- the same machine, of the library's quick twins -/
noncomputable def quickM : Mach := ⟨PySem.W.Fast.tw3805553451399329143, PySem.W.Fast.tw10156331382660048174 (PySem.W.Fast.tw11892475500146522536 PySem.W.Fast.tw14364793385576792824), PySem.W.Fast.tw6613529449190102663, PySem.W.Fast.tw1435165496053646825, PySem.W.Fast.tw14289696077712309145⟩
theorem machs : slowM = quickM := by
  unfold slowM quickM
  rw [PySem.W.Fast.te3805553451399329143, PySem.W.Fast.te10156331382660048174, PySem.W.Fast.te11892475500146522536, PySem.W.Fast.te14364793385576792824, PySem.W.Fast.te6613529449190102663, PySem.W.Fast.te1435165496053646825, PySem.W.Fast.te14289696077712309145]
noncomputable def fenceT (M : Mach) (p : Program) (w : World) (N : Nat) : Option Shared :=
  (impT M.xb (M.S (opening p) w) N ⟨.nil, 0, (M.start (opening p)).1.heap.life, (M.start (opening p)).1.gens, (M.start (opening p)).1.drawn, (M.start (opening p)).1.toks, (M.start (opening p)).1.os⟩ (M.start (opening p)).2).bind fun e => M.fence p e.abs
theorem fenceT_of {p : Program} {w : World} {N : Nat} {s : Shared} (h : fenceT slowM p w N = some s) : fencedOpening treeTable p w N = some s := by
  obtain ⟨e, h1, h2⟩ := Option.bind_eq_some_iff.mp h
  have a1 : importEnds treeTable (opening p) w N (start (opening p)).1 (start (opening p)).2 = some e.abs := impT_of h1
  unfold fencedOpening
  rw [a1]
  exact h2
theorem fence_map {p : Program} {w : World} {N : Nat} {α : Type} {f : Shared → α} {r : α} (h : (fenceT quickM p w N).map f = some r) : (fencedOpening treeTable p w N).map f = some r := by
  rw [← machs] at h
  obtain ⟨s, a, b⟩ := Option.map_eq_some_iff.mp h
  rw [fenceT_of a]
  exact congrArg some b
/-- objects as a tree, and a state of them -/
noncomputable def trOf (l : List Obj) : BT := ((toBT l 0 .nil).map Prod.fst).getD .nil
noncomputable def stT (l : List Obj) (n toks : Nat) (os : OsState) : SharedT := ⟨trOf l, n, {}, #[], {}, toks, os⟩
theorem stT_abs {l : List Obj} {n toks : Nat} {os : OsState} (h : (toBT l 0 .nil).map Prod.snd = some n) : (stT l n toks os).abs = ⟨⟨l.toArray, {}⟩, #[], {}, toks, os⟩ := by
  obtain ⟨r, h1, rfl⟩ := Option.map_eq_some_iff.mp h
  have e : absHeap r.1 r.2 {} = ⟨l.toArray, {}⟩ := by
    have := toBT_of (life := {}) (h := ⟨#[], {}⟩) h1 rfl
    rw [this]; simp
  unfold stT SharedT.abs
  dsimp only
  rw [show trOf l = r.1 by unfold trOf; rw [h1]; rfl, e]
-- Hd7
abbrev prog0 : Program := PySem.Challenge.rw_in0161_01.row.prog
theorem said0 : (sreFenced prog0.main && ((moduleNames prog0.main.body).isEmpty || lookedIntoSs (moduleNames prog0.main.body) prog0.main.body)) = true := by
  rw [PySem.W.Fast.te11788848310118352699, PySem.W.Fast.te9807087744658564304, PySem.W.Fast.te12862048085361865435]
  kernel_rfl
theorem said1 : namesResolve prog0 = true := by
  rw [PySem.W.Fast.te8377067652309620493]
  kernel_rfl
theorem said2 : (prog0.boundNames.all fun n => !worldNames.contains n) = true := by
  kernel_rfl
theorem said3 : noRoadLSs { strict := !(importedModules prog0.main.body).all cThrough.contains, foot := none, bare := (["vars", "dir", "locals"] : List Str).filter (readsOut prog0 prog0.main.body) } prog0.main.body = true := by
  rw [PySem.W.Fast.te8326940854005059898, PySem.W.Fast.te13343964577679436407, PySem.W.Fast.te5923862056798008813]
  kernel_rfl
theorem said4 : (namesMeet prog0 prog0.main.body fun _ n => attrL n) = true := by
  rw [PySem.W.Fast.te17119622794617984870]
  kernel_rfl
theorem look : looksOpen prog0 = true := look_both (look_both (look_both (look_both said0 said1) said2) said3) said4
theorem said : PySem.Challenge.rw_in0161_01.wellSaid = true := by
  rw [PySem.W.Fast.te9446332074065402090]
  (iterate 18 (refine look_both ?_ ?_))
  refine look_both (look_both ?_ ?_) ?_
  (iterate 13 (refine look_both ?_ ?_))
  · rw [← PySem.W.Fast.te12908688711261696721, ← PySem.W.Fast.te2368527892694137696]
    exact look
  all_goals kernel_rfl
/-- the text's statements that the head keeps -/
noncomputable def view : Program := { PySem.Challenge.pw_in0161_01 with main := { PySem.Challenge.pw_in0161_01.main with body := [0, 1, 3, 4, 5, 7, 9, 12, 14, 15, 17, 18, 20, 21, 23, 25, 26, 27, 28, 29, 30, 31, 32, 33, 34, 35, 36, 37, 38, 39].filterMap fun i => PySem.Challenge.pw_in0161_01.main.body[i]? } }
theorem both {a b c h k : Prop} (f : k → h → a → b → c) (v : k) (w : h) (x : a ∧ b) : c := f v w x.1 x.2
local macro_rules | `(tactic| o_law) => `(tactic| refine holds_law Mine.said fun said => ?_)
abbrev looseL : List Str := [PySem.Str.ofString "b2a_base64", PySem.Str.ofString "_NO_SEP", PySem.Str.ofString "b2a_hex", PySem.Str.ofString "hexlify", PySem.Str.ofString "b64encode", PySem.Str.ofString "_twin_re_1", PySem.Str.ofString "_special_chars_map"]
theorem openV {α : Type} {Yf : Shared → α} {Ya : World → α} {YP : World → Heap → Prop} {d : DefRec} {kwd : List (Str × Expr)} (hk : PySem.Challenge.rw_in0161_01.row.wellSaid = true) (hw : PySem.Challenge.rw_in0161_01.row.toRowW.promised)
    (x : LeftO PySem.Challenge.rw_in0161_01.row.prog Mine.view looseL (fun s => xlAt Mine.view [] s && recOk (RowW.records (OpenRow.toRowW PySem.Challenge.rw_in0161_01.row)) s) Yf Ya 5244 true)
    (hY : ∀ w s, Yf s = Ya w → YP w s.heap) (hYk : ∀ w h h', YP w h → (∀ b o, h.get? b = some o → h'.get? b = some o) → YP w h')
    (hdef : defOf Mine.view PySem.Challenge.rw_in0161_01.row.name = some (d, kwd)) (hp : PySem.Challenge.rw_in0161_01.row.prog.theDef PySem.Challenge.rw_in0161_01.row.name = some (d.params, d.body, d.scope)) (hq : kwWritten? d.params.kwonlyargs d.params.kw_defaults = some kwd)
    (y : WalkO Mine.view looseL (XL Mine.view []) YP PySem.Challenge.rw_in0161_01.row.toRowW d kwd fun f vs => PySem.call f vs) : PySem.Challenge.rw_in0161_01.row.Holds :=
  holds_open (XP := XL Mine.view []) (YP := YP) x hY hYk (fun s e => xl_of s (Bool.and_eq_true_iff.mp e).1) XL.keeps hdef hp hq (fun s e => recFacts_of (Bool.and_eq_true_iff.mp e).2) (by rfl) hk (by decide +kernel) ⟨rfl, rfl, rfl, rfl, rfl, by decide +kernel⟩ hw y
local macro_rules | `(tactic| o_head $H) => `(tactic| (refine both (fun hk hw x y => openV hk hw x (Hook.of $H) (Hook.keeps $H) (by rfl) (by rfl) (by rfl) y) ?hk ?hw ?hc; (case hk => assumption)))
open_top hd for PySem.Challenge.rw_in0161_01
-- Hd8
/-- zan entry of a namespace; a name by its codes -/
abbrev zen (P : Params) (k : String) (t : Tok) (v : Value) : DictEntry := ⟨PyData.keyHash P (Str.ofString k), .str (Str.ofString k) t, v⟩
abbrev znm (l : List Nat) : String := String.ofList (l.map Char.ofNat)
/-- the objects at the top's end that the head does not write out -/
noncomputable def ownL (P : Params) : List (Addr × Obj) := [
  (0, boot_o_0 P),
  (4, boot_o_4 P),
  (5, boot_o_5 P),
  (6, boot_o_6 P),
  (7, boot_o_7 P),
  (8, boot_o_8 P),
  (9, boot_o_9 P),
  (10, boot_o_10 P),
  (1, { cls := Value.type "dict", data := Data.dict #[zen P "builtins" 162 (Value.ref 4), zen P "__main__" 163 (Value.ref 5), zen P "_sre" 244 (Value.ref 12)] 3 }),
  (11, { cls := Value.type "dict", data := Data.dict #[zen P "__name__" 247 (Value.str (Str.ofString "_sre") 246), zen P "__doc__" 248 (Value.none), zen P "__package__" 250 (Value.str (Str.ofString "") 249), zen P "__loader__" 251 (Value.builtin (znm [111, 102, 102, 45, 116, 104, 101, 45, 116, 97, 98, 108, 101, 58, 95, 115, 114, 101, 46, 95, 95, 108, 111, 97, 100, 101, 114, 95, 95, 58, 115, 104, 97, 114, 101, 100, 35, 111, 112, 97, 113, 117, 101])), zen P "__spec__" 252 (Value.builtin (znm [111, 102, 102, 45, 116, 104, 101, 45, 116, 97, 98, 108, 101, 58, 95, 115, 114, 101, 46, 95, 95, 115, 112, 101, 99, 95, 95, 58, 115, 104, 97, 114, 101, 100, 35, 111, 112, 97, 113, 117, 101])), zen P "compile" 253 (Value.builtin "_sre.compile"), zen P "template" 254 (Value.builtin (znm [111, 102, 102, 45, 116, 104, 101, 45, 116, 97, 98, 108, 101, 58, 95, 115, 114, 101, 46, 116, 101, 109, 112, 108, 97, 116, 101, 58, 115, 104, 97, 114, 101, 100, 35, 111, 112, 97, 113, 117, 101])), zen P "getcodesize" 255 (Value.builtin (znm [111, 102, 102, 45, 116, 104, 101, 45, 116, 97, 98, 108, 101, 58, 95, 115, 114, 101, 46, 103, 101, 116, 99, 111, 100, 101, 115, 105, 122, 101, 58, 115, 104, 97, 114, 101, 100, 35, 111, 112, 97, 113, 117, 101])), zen P "ascii_iscased" 256 (Value.builtin (znm [111, 102, 102, 45, 116, 104, 101, 45, 116, 97, 98, 108, 101, 58, 95, 115, 114, 101, 46, 97, 115, 99, 105, 105, 95, 105, 115, 99, 97, 115, 101, 100, 58, 115, 104, 97, 114, 101, 100, 35, 111, 112, 97, 113, 117, 101])), zen P "unicode_iscased" 257 (Value.builtin (znm [111, 102, 102, 45, 116, 104, 101, 45, 116, 97, 98, 108, 101, 58, 95, 115, 114, 101, 46, 117, 110, 105, 99, 111, 100, 101, 95, 105, 115, 99, 97, 115, 101, 100, 58, 115, 104, 97, 114, 101, 100, 35, 111, 112, 97, 113, 117, 101])), zen P "ascii_tolower" 258 (Value.builtin (znm [111, 102, 102, 45, 116, 104, 101, 45, 116, 97, 98, 108, 101, 58, 95, 115, 114, 101, 46, 97, 115, 99, 105, 105, 95, 116, 111, 108, 111, 119, 101, 114, 58, 115, 104, 97, 114, 101, 100, 35, 111, 112, 97, 113, 117, 101])), zen P "unicode_tolower" 259 (Value.builtin (znm [111, 102, 102, 45, 116, 104, 101, 45, 116, 97, 98, 108, 101, 58, 95, 115, 114, 101, 46, 117, 110, 105, 99, 111, 100, 101, 95, 116, 111, 108, 111, 119, 101, 114, 58, 115, 104, 97, 114, 101, 100, 35, 111, 112, 97, 113, 117, 101])), zen P "MAGIC" 261 (Value.int 20230612 260), zen P "CODESIZE" 263 (Value.int 4 262), zen P "MAXREPEAT" 265 (Value.int 4294967295 264), zen P "MAXGROUPS" 267 (Value.int 1073741823 266), zen P "copyright" 269 (Value.str (Str.ofString " SRE 2.2.2 Copyright (c) 1997-2002 by Secret Labs AB ") 268)] 17 }),
  (12, { cls := Value.type "module", dict := some 11 }),
  (13, { cls := Value.type "dict", data := Data.dict #[zen P "__module__" 189 (Value.str (Str.ofString "_frozen_importlib") 186), zen P "__firstlineno__" 190 (Value.int 971 187), zen P "__doc__" 191 (Value.builtin (znm [95, 102, 114, 111, 122, 101, 110, 95, 105, 109, 112, 111, 114, 116, 108, 105, 98, 46, 66, 117, 105, 108, 116, 105, 110, 73, 109, 112, 111, 114, 116, 101, 114, 46, 95, 95, 100, 111, 99, 95, 95, 58, 115, 116, 114, 35, 111, 112, 97, 113, 117, 101])), zen P "_ORIGIN" 192 (Value.str (Str.ofString "built-in") 188), zen P "find_spec" 193 (Value.builtin (znm [95, 102, 114, 111, 122, 101, 110, 95, 105, 109, 112, 111, 114, 116, 108, 105, 98, 46, 66, 117, 105, 108, 116, 105, 110, 73, 109, 112, 111, 114, 116, 101, 114, 46, 102, 105, 110, 100, 95, 115, 112, 101, 99, 35, 111, 112, 97, 113, 117, 101])), zen P "create_module" 194 (Value.builtin (znm [95, 102, 114, 111, 122, 101, 110, 95, 105, 109, 112, 111, 114, 116, 108, 105, 98, 46, 66, 117, 105, 108, 116, 105, 110, 73, 109, 112, 111, 114, 116, 101, 114, 46, 99, 114, 101, 97, 116, 101, 95, 109, 111, 100, 117, 108, 101, 35, 111, 112, 97, 113, 117, 101])), zen P "exec_module" 195 (Value.builtin (znm [95, 102, 114, 111, 122, 101, 110, 95, 105, 109, 112, 111, 114, 116, 108, 105, 98, 46, 66, 117, 105, 108, 116, 105, 110, 73, 109, 112, 111, 114, 116, 101, 114, 46, 101, 120, 101, 99, 95, 109, 111, 100, 117, 108, 101, 35, 111, 112, 97, 113, 117, 101])), zen P "get_code" 196 (Value.builtin (znm [95, 102, 114, 111, 122, 101, 110, 95, 105, 109, 112, 111, 114, 116, 108, 105, 98, 46, 66, 117, 105, 108, 116, 105, 110, 73, 109, 112, 111, 114, 116, 101, 114, 46, 103, 101, 116, 95, 99, 111, 100, 101, 35, 111, 112, 97, 113, 117, 101])), zen P "get_source" 197 (Value.builtin (znm [95, 102, 114, 111, 122, 101, 110, 95, 105, 109, 112, 111, 114, 116, 108, 105, 98, 46, 66, 117, 105, 108, 116, 105, 110, 73, 109, 112, 111, 114, 116, 101, 114, 46, 103, 101, 116, 95, 115, 111, 117, 114, 99, 101, 35, 111, 112, 97, 113, 117, 101])), zen P "is_package" 198 (Value.builtin (znm [95, 102, 114, 111, 122, 101, 110, 95, 105, 109, 112, 111, 114, 116, 108, 105, 98, 46, 66, 117, 105, 108, 116, 105, 110, 73, 109, 112, 111, 114, 116, 101, 114, 46, 105, 115, 95, 112, 97, 99, 107, 97, 103, 101, 35, 111, 112, 97, 113, 117, 101])), zen P "load_module" 199 (Value.builtin (znm [95, 102, 114, 111, 122, 101, 110, 95, 105, 109, 112, 111, 114, 116, 108, 105, 98, 46, 66, 117, 105, 108, 116, 105, 110, 73, 109, 112, 111, 114, 116, 101, 114, 46, 108, 111, 97, 100, 95, 109, 111, 100, 117, 108, 101, 35, 111, 112, 97, 113, 117, 101])), zen P "__static_attributes__" 200 (Value.ref 15), zen P "__dict__" 202 (Value.ref 16), zen P "__weakref__" 204 (Value.ref 17)] 14 }),
  (14, { cls := Value.type "type", data := Data.cls { name := Str.ofString "BuiltinImporter", bases := [Value.type "object"], mro := [Value.ref 14, Value.type "object"], ns := 13, qualname := Str.ofString "BuiltinImporter" } }),
  (15, { cls := Value.type "tuple", data := Data.seq #[] }),
  (16, { cls := Value.type "getset_descriptor", data := Data.fields #[Value.str (Str.ofString "__dict__") 201, Value.ref 14, Value.builtin "function.__dict__", Value.builtin "function.__dict__#set"] }),
  (17, { cls := Value.type "getset_descriptor", data := Data.fields #[Value.str (Str.ofString "__weakref__") 203, Value.ref 14, Value.builtin "ExceptionGroup.__weakref__", Value.none] }),
  (18, { cls := Value.none, data := Data.seq #[Value.int 13 0, Value.str ((⟨#[6, 189, 10, 95, 95, 109, 111, 100, 117, 108, 101, 95, 95, 6, 186, 17, 95, 102, 114, 111, 122, 101, 110, 95, 105, 109, 112, 111, 114, 116, 108, 105, 98, 6, 190, 15, 95, 95, 102, 105, 114, 115, 116, 108, 105, 110, 101, 110, 111, 95, 95, 4, 187, 0, 971, 6, 191, 7, 95, 95, 100, 111, 99, 95, 95, 9, 52, 95, 102, 114, 111, 122, 101, 110, 95, 105, 109, 112, 111, 114, 116, 108, 105, 98, 46, 66, 117, 105, 108, 116, 105, 110, 73, 109, 112, 111, 114, 116, 101, 114, 46, 95, 95, 100, 111, 99, 95, 95, 58, 115, 116, 114, 35, 111, 112, 97, 113, 117, 101, 6, 192, 7, 95, 79, 82, 73, 71, 73, 78, 6, 188, 8, 98, 117, 105, 108, 116, 45, 105, 110, 6, 193, 9, 102, 105, 110, 100, 95, 115, 112, 101, 99, 9, 50, 95, 102, 114, 111, 122, 101, 110, 95, 105, 109, 112, 111, 114, 116, 108, 105, 98, 46, 66, 117, 105, 108, 116, 105, 110, 73, 109, 112, 111, 114, 116, 101, 114, 46, 102, 105, 110, 100, 95, 115, 112, 101, 99, 35, 111, 112, 97, 113, 117, 101, 6, 194, 13, 99, 114, 101, 97, 116, 101, 95, 109, 111, 100, 117, 108, 101, 9, 54, 95, 102, 114, 111, 122, 101, 110, 95, 105, 109, 112, 111, 114, 116, 108, 105, 98, 46, 66, 117, 105, 108, 116, 105, 110, 73, 109, 112, 111, 114, 116, 101, 114, 46, 99, 114, 101, 97, 116, 101, 95, 109, 111, 100, 117, 108, 101, 35, 111, 112, 97, 113, 117, 101, 6, 195, 11, 101, 120, 101, 99, 95, 109, 111, 100, 117, 108, 101, 9, 52, 95, 102, 114, 111, 122, 101, 110, 95, 105, 109, 112, 111, 114, 116, 108, 105, 98, 46, 66, 117, 105, 108, 116, 105, 110, 73, 109, 112, 111, 114, 116, 101, 114, 46, 101, 120, 101, 99, 95, 109, 111, 100, 117, 108, 101, 35, 111, 112, 97, 113, 117, 101, 6, 196, 8, 103, 101, 116, 95, 99, 111, 100, 101, 9, 49, 95, 102, 114, 111, 122, 101, 110, 95, 105, 109, 112, 111, 114, 116, 108, 105, 98, 46, 66, 117, 105, 108, 116, 105, 110, 73, 109, 112, 111, 114, 116, 101, 114, 46, 103, 101, 116, 95, 99, 111, 100, 101, 35, 111, 112, 97, 113, 117, 101, 6, 197, 10, 103, 101, 116, 95, 115, 111, 117, 114, 99, 101, 9, 51, 95, 102, 114, 111, 122, 101, 110, 95, 105, 109, 112, 111, 114, 116, 108, 105, 98, 46, 66, 117, 105, 108, 116, 105, 110, 73, 109, 112, 111, 114, 116, 101, 114, 46, 103, 101, 116, 95, 115, 111, 117, 114, 99, 101, 35, 111, 112, 97, 113, 117, 101, 6, 198, 10, 105, 115, 95, 112, 97, 99, 107, 97, 103, 101, 9, 51, 95, 102, 114, 111, 122, 101, 110, 95, 105, 109, 112, 111, 114, 116, 108, 105, 98, 46, 66, 117, 105, 108, 116, 105, 110, 73, 109, 112, 111, 114, 116, 101, 114, 46, 105, 115, 95, 112, 97, 99, 107, 97, 103, 101, 35, 111, 112, 97, 113, 117, 101, 6, 199, 11, 108, 111, 97, 100, 95, 109, 111, 100, 117, 108, 101, 9, 52, 95, 102, 114, 111, 122, 101, 110, 95, 105, 109, 112, 111, 114, 116, 108, 105, 98, 46, 66, 117, 105, 108, 116, 105, 110, 73, 109, 112, 111, 114, 116, 101, 114, 46, 108, 111, 97, 100, 95, 109, 111, 100, 117, 108, 101, 35, 111, 112, 97, 113, 117, 101, 6, 200, 21, 95, 95, 115, 116, 97, 116, 105, 99, 95, 97, 116, 116, 114, 105, 98, 117, 116, 101, 115, 95, 95, 4, 0, 0, 15, 6, 202, 8, 95, 95, 100, 105, 99, 116, 95, 95, 4, 0, 0, 16, 6, 204, 11, 95, 95, 119, 101, 97, 107, 114, 101, 102, 95, 95, 4, 0, 0, 17]⟩ : Str)) 0, Value.bool true, Value.bool true, Value.str (Str.ofString "") 205, Value.int 21 0, Value.str ((⟨#[6, 227, 10, 95, 95, 109, 111, 100, 117, 108, 101, 95, 95, 6, 217, 17, 95, 102, 114, 111, 122, 101, 110, 95, 105, 109, 112, 111, 114, 116, 108, 105, 98, 6, 228, 15, 95, 95, 102, 105, 114, 115, 116, 108, 105, 110, 101, 110, 111, 95, 95, 4, 218, 0, 562, 6, 229, 7, 95, 95, 100, 111, 99, 95, 95, 9, 47, 95, 102, 114, 111, 122, 101, 110, 95, 105, 109, 112, 111, 114, 116, 108, 105, 98, 46, 77, 111, 100, 117, 108, 101, 83, 112, 101, 99, 46, 95, 95, 100, 111, 99, 95, 95, 58, 115, 116, 114, 35, 111, 112, 97, 113, 117, 101, 6, 230, 8, 95, 95, 105, 110, 105, 116, 95, 95, 9, 44, 95, 102, 114, 111, 122, 101, 110, 95, 105, 109, 112, 111, 114, 116, 108, 105, 98, 46, 77, 111, 100, 117, 108, 101, 83, 112, 101, 99, 46, 95, 95, 105, 110, 105, 116, 95, 95, 35, 111, 112, 97, 113, 117, 101, 6, 231, 8, 95, 95, 114, 101, 112, 114, 95, 95, 9, 44, 95, 102, 114, 111, 122, 101, 110, 95, 105, 109, 112, 111, 114, 116, 108, 105, 98, 46, 77, 111, 100, 117, 108, 101, 83, 112, 101, 99, 46, 95, 95, 114, 101, 112, 114, 95, 95, 35, 111, 112, 97, 113, 117, 101, 6, 232, 6, 95, 95, 101, 113, 95, 95, 9, 42, 95, 102, 114, 111, 122, 101, 110, 95, 105, 109, 112, 111, 114, 116, 108, 105, 98, 46, 77, 111, 100, 117, 108, 101, 83, 112, 101, 99, 46, 95, 95, 101, 113, 95, 95, 35, 111, 112, 97, 113, 117, 101, 6, 233, 6, 99, 97, 99, 104, 101, 100, 9, 42, 95, 102, 114, 111, 122, 101, 110, 95, 105, 109, 112, 111, 114, 116, 108, 105, 98, 46, 77, 111, 100, 117, 108, 101, 83, 112, 101, 99, 46, 99, 97, 99, 104, 101, 100, 35, 111, 112, 97, 113, 117, 101, 6, 234, 6, 112, 97, 114, 101, 110, 116, 9, 42, 95, 102, 114, 111, 122, 101, 110, 95, 105, 109, 112, 111, 114, 116, 108, 105, 98, 46, 77, 111, 100, 117, 108, 101, 83, 112, 101, 99, 46, 112, 97, 114, 101, 110, 116, 35, 111, 112, 97, 113, 117, 101, 6, 235, 12, 104, 97, 115, 95, 108, 111, 99, 97, 116, 105, 111, 110, 9, 48, 95, 102, 114, 111, 122, 101, 110, 95, 105, 109, 112, 111, 114, 116, 108, 105, 98, 46, 77, 111, 100, 117, 108, 101, 83, 112, 101, 99, 46, 104, 97, 115, 95, 108, 111, 99, 97, 116, 105, 111, 110, 35, 111, 112, 97, 113, 117, 101, 6, 236, 21, 95, 95, 115, 116, 97, 116, 105, 99, 95, 97, 116, 116, 114, 105, 98, 117, 116, 101, 115, 95, 95, 4, 0, 0, 23, 6, 238, 8, 95, 95, 100, 105, 99, 116, 95, 95, 4, 0, 0, 24, 6, 240, 11, 95, 95, 119, 101, 97, 107, 114, 101, 102, 95, 95, 4, 0, 0, 25, 6, 241, 8, 95, 95, 104, 97, 115, 104, 95, 95, 0]⟩ : Str)) 0, Value.bool true, Value.bool true, Value.str (Str.ofString "") 242] 1 }),
  (19, { cls := Value.type "list", data := Data.seq #[] }),
  (20, { cls := Value.type "dict", data := Data.dict #[zen P "name" 208 (Value.str (Str.ofString "_sre") 207), zen P "loader" 209 (Value.ref 14), zen P "origin" 210 (Value.str (Str.ofString "built-in") 184), zen P "loader_state" 211 (Value.none), zen P "submodule_search_locations" 212 (Value.none), zen P "_uninitialized_submodules" 213 (Value.ref 19), zen P "_set_fileattr" 214 (Value.bool false), zen P "_cached" 215 (Value.none), zen P "_initializing" 243 (Value.bool false)] 9 }),
  (21, { cls := Value.type "dict", data := Data.dict #[zen P "__module__" 227 (Value.str (Str.ofString "_frozen_importlib") 217), zen P "__firstlineno__" 228 (Value.int 562 218), zen P "__doc__" 229 (Value.builtin (znm [95, 102, 114, 111, 122, 101, 110, 95, 105, 109, 112, 111, 114, 116, 108, 105, 98, 46, 77, 111, 100, 117, 108, 101, 83, 112, 101, 99, 46, 95, 95, 100, 111, 99, 95, 95, 58, 115, 116, 114, 35, 111, 112, 97, 113, 117, 101])), zen P "__init__" 230 (Value.builtin (znm [95, 102, 114, 111, 122, 101, 110, 95, 105, 109, 112, 111, 114, 116, 108, 105, 98, 46, 77, 111, 100, 117, 108, 101, 83, 112, 101, 99, 46, 95, 95, 105, 110, 105, 116, 95, 95, 35, 111, 112, 97, 113, 117, 101])), zen P "__repr__" 231 (Value.builtin (znm [95, 102, 114, 111, 122, 101, 110, 95, 105, 109, 112, 111, 114, 116, 108, 105, 98, 46, 77, 111, 100, 117, 108, 101, 83, 112, 101, 99, 46, 95, 95, 114, 101, 112, 114, 95, 95, 35, 111, 112, 97, 113, 117, 101])), zen P "__eq__" 232 (Value.builtin (znm [95, 102, 114, 111, 122, 101, 110, 95, 105, 109, 112, 111, 114, 116, 108, 105, 98, 46, 77, 111, 100, 117, 108, 101, 83, 112, 101, 99, 46, 95, 95, 101, 113, 95, 95, 35, 111, 112, 97, 113, 117, 101])), zen P "cached" 233 (Value.builtin (znm [95, 102, 114, 111, 122, 101, 110, 95, 105, 109, 112, 111, 114, 116, 108, 105, 98, 46, 77, 111, 100, 117, 108, 101, 83, 112, 101, 99, 46, 99, 97, 99, 104, 101, 100, 35, 111, 112, 97, 113, 117, 101])), zen P "parent" 234 (Value.builtin (znm [95, 102, 114, 111, 122, 101, 110, 95, 105, 109, 112, 111, 114, 116, 108, 105, 98, 46, 77, 111, 100, 117, 108, 101, 83, 112, 101, 99, 46, 112, 97, 114, 101, 110, 116, 35, 111, 112, 97, 113, 117, 101])), zen P "has_location" 235 (Value.builtin (znm [95, 102, 114, 111, 122, 101, 110, 95, 105, 109, 112, 111, 114, 116, 108, 105, 98, 46, 77, 111, 100, 117, 108, 101, 83, 112, 101, 99, 46, 104, 97, 115, 95, 108, 111, 99, 97, 116, 105, 111, 110, 35, 111, 112, 97, 113, 117, 101])), zen P "__static_attributes__" 236 (Value.ref 23), zen P "__dict__" 238 (Value.ref 24), zen P "__weakref__" 240 (Value.ref 25), zen P "__hash__" 241 (Value.none)] 13 }),
  (22, { cls := Value.type "type", data := Data.cls { name := Str.ofString "ModuleSpec", bases := [Value.type "object"], mro := [Value.ref 22, Value.type "object"], ns := 21, qualname := Str.ofString "ModuleSpec" } }),
  (23, { cls := Value.type "tuple", data := Data.seq #[Value.str (Str.ofString "_cached") 219, Value.str (Str.ofString "_set_fileattr") 220, Value.str (Str.ofString "_uninitialized_submodules") 221, Value.str (Str.ofString "loader") 222, Value.str (Str.ofString "loader_state") 223, Value.str (Str.ofString "name") 224, Value.str (Str.ofString "origin") 225, Value.str (Str.ofString "submodule_search_locations") 226] }),
  (24, { cls := Value.type "getset_descriptor", data := Data.fields #[Value.str (Str.ofString "__dict__") 237, Value.ref 22, Value.builtin "function.__dict__", Value.builtin "function.__dict__#set"] }),
  (25, { cls := Value.type "getset_descriptor", data := Data.fields #[Value.str (Str.ofString "__weakref__") 239, Value.ref 22, Value.builtin "ExceptionGroup.__weakref__", Value.none] }),
  (26, { cls := Value.ref 22, dict := some 20 }),
  (27, { cls := Value.none, data := Data.seq #[Value.int 11 0, Value.str { cps := #[6, 247, 8, 95, 95, 110, 97, 109, 101, 95, 95, 6, 246, 4, 95, 115, 114, 101, 6, 248, 7, 95, 95, 100, 111, 99, 95, 95, 0, 6, 250, 11, 95, 95, 112, 97, 99, 107, 97, 103, 101, 95, 95, 6, 249, 0, 6, 251, 10, 95, 95, 108, 111, 97, 100, 101, 114, 95, 95, 4, 0, 0, 14, 6, 252, 8, 95, 95, 115, 112, 101, 99, 95, 95, 4, 0, 0, 26, 6, 253, 7, 99, 111, 109, 112, 105, 108, 101, 9, 12, 95, 115, 114, 101, 46, 99, 111, 109, 112, 105, 108, 101, 6, 254, 8, 116, 101, 109, 112, 108, 97, 116, 101, 9, 13, 95, 115, 114, 101, 46, 116, 101, 109, 112, 108, 97, 116, 101, 6, 255, 11, 103, 101, 116, 99, 111, 100, 101, 115, 105, 122, 101, 9, 16, 95, 115, 114, 101, 46, 103, 101, 116, 99, 111, 100, 101, 115, 105, 122, 101, 6, 256, 13, 97, 115, 99, 105, 105, 95, 105, 115, 99, 97, 115, 101, 100, 9, 18, 95, 115, 114, 101, 46, 97, 115, 99, 105, 105, 95, 105, 115, 99, 97, 115, 101, 100, 6, 257, 15, 117, 110, 105, 99, 111, 100, 101, 95, 105, 115, 99, 97, 115, 101, 100, 9, 20, 95, 115, 114, 101, 46, 117, 110, 105, 99, 111, 100, 101, 95, 105, 115, 99, 97, 115, 101, 100, 6, 258, 13, 97, 115, 99, 105, 105, 95, 116, 111, 108, 111, 119, 101, 114, 9, 18, 95, 115, 114, 101, 46, 97, 115, 99, 105, 105, 95, 116, 111, 108, 111, 119, 101, 114, 6, 259, 15, 117, 110, 105, 99, 111, 100, 101, 95, 116, 111, 108, 111, 119, 101, 114, 9, 20, 95, 115, 114, 101, 46, 117, 110, 105, 99, 111, 100, 101, 95, 116, 111, 108, 111, 119, 101, 114, 6, 261, 5, 77, 65, 71, 73, 67, 4, 260, 0, 20230612, 6, 263, 8, 67, 79, 68, 69, 83, 73, 90, 69, 4, 262, 0, 4, 6, 265, 9, 77, 65, 88, 82, 69, 80, 69, 65, 84, 4, 264, 0, 4294967295, 6, 267, 9, 77, 65, 88, 71, 82, 79, 85, 80, 83, 4, 266, 0, 1073741823, 6, 269, 9, 99, 111, 112, 121, 114, 105, 103, 104, 116, 6, 268, 53, 32, 83, 82, 69, 32, 50, 46, 50, 46, 50, 32, 67, 111, 112, 121, 114, 105, 103, 104, 116, 32, 40, 99, 41, 32, 49, 57, 57, 55, 45, 50, 48, 48, 50, 32, 98, 121, 32, 83, 101, 99, 114, 101, 116, 32, 76, 97, 98, 115, 32, 65, 66, 32] } 0, Value.bool true, Value.bool false, Value.str (Str.ofString "_sre") 271] }),
  (28, { cls := Value.type "tuple", data := Data.seq #[] }),
  (29, { cls := Value.none, data := Data.fields #[Value.int 2 0, Value.int 0 0, Value.ref 37, Value.int 6 0, Value.int 0 0, Value.ref 44, Value.int 13 0, Value.int 0 0, Value.ref 51, Value.int 19 0, Value.int 0 0, Value.ref 59, Value.int 42 0, Value.int 0 0, Value.ref 68, Value.int 60 0, Value.int 0 0, Value.ref 76, Value.int 66 0, Value.int 0 0, Value.ref 83, Value.int 70 0, Value.int 0 0, Value.ref 95, Value.int 76 0, Value.int 0 0, Value.ref 107, Value.int 83 0, Value.int 0 0, Value.ref 114, Value.int 145 0, Value.int 0 0, Value.ref 121, Value.int 173 0, Value.int 0 0, Value.ref 128, Value.int 217 0, Value.int 0 0, Value.ref 170, Value.int 227 0, Value.int 0 0, Value.ref 177, Value.int 229 0, Value.int 0 0, Value.ref 184, Value.int 232 0, Value.int 0 0, Value.ref 189, Value.int 234 0, Value.int 0 0, Value.ref 194, Value.int 237 0, Value.int 0 0, Value.ref 199, Value.int 246 0, Value.int 0 0, Value.ref 206, Value.int 255 0, Value.int 0 0, Value.ref 213, Value.int 272 0, Value.int 0 0, Value.ref 220, Value.int 277 0, Value.int 0 0, Value.ref 227, Value.int 290 0, Value.int 0 0, Value.ref 232, Value.int 300 0, Value.int 0 0, Value.ref 237, Value.int 303 0, Value.int 0 0, Value.ref 242, Value.int 310 0, Value.int 0 0, Value.ref 247, Value.int 314 0, Value.int 0 0, Value.ref 252] }),
  (30, { cls := Value.type "code", data := Data.fields #[Value.str (Str.ofString "<module>") 277, Value.str (Str.ofString "<module>") 278, Value.str (Str.ofString "/claim/cut.py") 279, Value.int 1 0, Value.int 0 0, Value.int 0 0, Value.int 0 0, Value.int 0 0, Value.ref 28, Value.bool false, Value.int 276 0, Value.ref 29, Value.none, Value.none, Value.none, Value.none, Value.int 280 0, Value.int 1 0, Value.str (Str.ofString "/claim/cut.py") 281] }),
  (31, { cls := Value.type "frame", slots := #[some (Value.ref 30), some (Value.ref 3), some (Value.ref 3), none, some (Value.str (Str.ofString "__main__") 164), none, some (Value.ref 0)] }),
  (85, { cls := Value.type "list", data := Data.seq #[Value.int 14 359, Value.int 14 360, Value.int 4 361, Value.int 1 362, Value.int 1 363, Value.int 9 364, Value.int 0 365, Value.int 64 366, Value.int 0 367, Value.int 1342177280 368, Value.int 0 369, Value.int 0 370, Value.int 0 371, Value.int 0 372, Value.int 0 373, Value.int 17 374, Value.int 0 375, Value.int 13 376, Value.int 11 377, Value.int 9 378, Value.int 0 379, Value.int 64 380, Value.int 0 381, Value.int 1342177280 382, Value.int 0 383, Value.int 0 384, Value.int 0 385, Value.int 0 386, Value.int 0 387, Value.int 17 388, Value.int 1 389, Value.int 1 390] }),
  (86, { cls := Value.type "dict", data := Data.dict #[] }),
  (87, { cls := Value.type "tuple", data := Data.seq #[Value.none, Value.none] }),
  (97, { cls := Value.type "bytes_iterator", data := Data.fields #[Value.none, Value.int 24 0] }),
  (99, { cls := Value.type "dict", data := Data.dict #[] 2 }),
  (100, { cls := Value.type "tuple", data := Data.seq #[] }),
  (101, { cls := Value.type "StopIteration", data := Data.fields #[Value.ref 100, Value.none, Value.none, Value.none, Value.bool false, Value.none] }),
  (123, { cls := Value.type "tuple", data := Data.seq #[] }),
  (124, { cls := Value.type "builtin_function_or_method", data := Data.fields #[Value.builtin "type.__prepare__", Value.type "type"] }),
  (125, { cls := Value.type "dict", data := Data.dict #[zen P "__module__" 601 (Value.str (Str.ofString "cpy313.netrc") 592), zen P "__qualname__" 603 (Value.str (Str.ofString "_netrclex") 602), zen P "__firstlineno__" 605 (Value.int 173 604), zen P "__init__" 613 (Value.ref 136), zen P "_read_char" 621 (Value.ref 143), zen P "get_token" 631 (Value.ref 150), zen P "push_token" 639 (Value.ref 157), zen P "__static_attributes__" 644 (Value.ref 158)] 8 }),
  (126, { cls := Value.type "tuple", data := Data.seq #[] }),
  (127, { cls := Value.none, data := Data.fields #[Value.int 175 0, Value.int 4 0, Value.ref 135, Value.int 181 0, Value.int 4 0, Value.ref 142, Value.int 187 0, Value.int 4 0, Value.ref 149, Value.int 214 0, Value.int 4 0, Value.ref 156] }),
  (128, { cls := Value.type "code", data := Data.fields #[Value.str (Str.ofString "_netrclex") 596, Value.str (Str.ofString "_netrclex") 597, Value.str (Str.ofString "/claim/cut.py") 598, Value.int 173 0, Value.int 0 0, Value.int 0 0, Value.int 0 0, Value.int 0 0, Value.ref 126, Value.bool false, Value.int 276 0, Value.ref 127, Value.none, Value.none, Value.none, Value.none, Value.int 599 0, Value.int 173 0, Value.str (Str.ofString "/claim/cut.py") 600] }),
  (129, { cls := Value.type "frame", slots := #[some (Value.ref 128), some (Value.ref 3), some (Value.ref 125), none, some (Value.str (Str.ofString "cpy313.netrc") 592), none, some (Value.ref 0)] }),
  (163, { cls := Value.type "super", data := Data.fields #[Value.ref 160, Value.ref 160, Value.ref 160] }),
  (164, { cls := Value.type "builtin_function_or_method", data := Data.fields #[Value.builtin "object.__init_subclass__", Value.ref 160] })]
noncomputable def zseek : Nat → List (Addr × Obj) → Option Obj
  | _, [] => none
  | a, (b, o) :: r => match Nat.beq a b with
    | true => some o
    | false => zseek a r
/-- a def's own record, out of its function -/
noncomputable def codeOf (o : Obj) : Obj := match o.data with
  | .func f => { cls := .none, data := .func { name := f.name, qualname := f.qualname, params := f.params, body := f.body, scope := f.scope, globals := 0, closure := [], defaults := .none, kwdefaults := .none } }
  | _ => { cls := .none, data := .fields #[] }
noncomputable def zob (P : Params) (a : Nat) : Obj := match zseek a (ownL P) with
  | some o => o
  | none => match zseek a (hd.heap_1 P) with
    | some o => o
    | none => match zseek (a + 2) (hd.heap_1 P) with
      | some o => codeOf o
      | none => { cls := .none, data := .fields #[] }
/-- the text's names and its list of defs at an earlier place -/
noncomputable def zearlier (v : Value) (j : Nat) : List DictEntry → List DictEntry
  | e :: r => ⟨e.hash, e.key, v⟩ :: r.take (j - 1)
  | [] => []
noncomputable def nsAt (P : Params) (j : Nat) (v : Value) : Obj := match (zob P 3).data with
  | .dict es _ => { cls := .type "dict", data := .dict (zearlier v j es.toList).toArray j }
  | _ => default
noncomputable def ctAt (P : Params) (k : Nat) : Obj := match (zob P 29).data with
  | .fields vs => { cls := .none, data := .fields (vs.toList.take k).toArray }
  | _ => default
noncomputable def zobs (P : Params) (n : Nat) : List Obj := (List.range n).map (zob P)
noncomputable def zat0 (P : Params) : List Obj := (zobs P 28).take 3 ++ nsAt P 10 (.str (Str.ofString "__main__") 164) :: (zobs P 28).drop 4
noncomputable def zatL (P : Params) (n : Nat) (x y : Obj) : List Obj := (zobs P n).take 3 ++ x :: (((zobs P n).drop 4).take 25 ++ y :: (zobs P n).drop 30)
noncomputable def zsA (w : World) (os : OsState) : SharedT := stT (zatL w.params 32 (nsAt w.params 10 (.str (Str.ofString "__main__") 164)) (ctAt w.params 0)) 32 282 os
noncomputable def zs1 (w : World) (os : OsState) : SharedT := stT (zatL w.params 97 (nsAt w.params 22 (.str (Str.ofString "re") 403)) (ctAt w.params 24)) 97 405 os
noncomputable def zs2 (w : World) (os : OsState) : SharedT := stT (zatL w.params 102 (nsAt w.params 23 (.str (Str.ofString "re") 403)) (ctAt w.params 24)) 102 551 os
noncomputable def zs3 (w : World) (os : OsState) : SharedT := stT (zobs w.params 254) 254 773 os
noncomputable def zh0 (P : Params) : Heap := ⟨(zat0 P).toArray, {}⟩
noncomputable def zh1 (P : Params) : Heap := ⟨(zobs P 254).toArray, {}⟩
noncomputable def zbE : List Stmt := behindTheImports prog0
noncomputable def zenvE : Env := { scope := prog0.main.scope, locals := mainNs, globals := mainNs, cells := [], code := .ref 30, frame := some 31 }
noncomputable def zcE : Code := .body zbE zenvE
abbrev zq0 : Pos := { line := 0, col := 0, endLine := 0, endCol := 0 }
abbrev zq1 : Pos := { line := 74, col := 0, endLine := 74, endCol := 8 }
abbrev zq2 : Pos := { line := 75, col := 0, endLine := 75, endCol := 18 }
abbrev zq3 : Pos := { line := 314, col := 0, endLine := 338, endCol := 70 }
abbrev zan : Option Value := some (.ref 6)

theorem zopen0 (w : World) : (fencedOpening treeTable prog0 w 5244).map (fun s => (s.heap, s.gens, s.drawn, s.toks)) = some (zh0 w.params, #[], {}, 276) := fence_map (by kernel_rfl)
theorem zsize0 (w : World) : ((zh0 w.params).isNs mainGlobals && (#[] : Array GenState).size == 0, (zh0 w.params).objs.size, (zh0 w.params).nsMap mainGlobals "__annotations__") = (true, 28, zan) := by kernel_rfl
theorem ztree0 (w : World) : (toBT (zat0 w.params) 0 .nil).map Prod.snd = some 28 := by kernel_rfl
theorem ztree3 (w : World) : (toBT (zobs w.params 254) 0 .nil).map Prod.snd = some 254 := by kernel_rfl
theorem zpre0 (w : World) (os : OsState) : goT (stepOk 28 zan) (stepT (denote treeTable) prog0 w) 12 (stT (zat0 w.params) 28 276 os) (topStub prog0) = some (zsA w os, ⟨denote treeTable zcE, zcE, zq0, [topFrame zq0]⟩) := by
  rw [PySem.W.Fast.te6613529449190102663, PySem.W.Fast.te10156331382660048174, PySem.W.Fast.te11892475500146522536, PySem.W.Fast.te14364793385576792824]
  kernel_rfl
theorem zblk0 (w : World) (os : OsState) : segRun treeTable prog0 w 28 zan 1 1 (zsA w os).abs (blockOf zbE zenvE zcE zq0 [topFrame zq0]) = some (.next, (zsA w os).abs, zcE, zq0) := by kernel_rfl
theorem zrun1 (w : World) (os : OsState) : segRunT treeTable prog0 w 28 zan 1 500 (zsA w os) (piecesOf (zbE.take 16) zenvE zcE zq0 [topFrame zq0]) = some (.next, zs1 w os, zcE, zq1) := by
  unfold piecesOf
  rw [PySem.W.Fast.te10110043849684766642, PySem.W.Fast.te14364793385576792824, PySem.W.Fast.te12563942051412417395]
  kernel_rfl
abbrev Run2 (w : World) : Prop := ∀ os, segRunT treeTable prog0 w 28 zan 1 1300 (zs1 w os) (piecesOf ((zbE.drop 16).take 1) zenvE zcE zq1 [topFrame zq0]) = some (.next, zs2 w os, zcE, zq2)
theorem run_ff (w : World) : Run2 ((w.withFollow "comprehension-iter-twice" false).withFollow "special-get-raises" false) := fun os => by
  unfold piecesOf
  rw [PySem.W.Fast.te10110043849684766642, PySem.W.Fast.te14364793385576792824, PySem.W.Fast.te12563942051412417395]
  kernel_rfl
theorem run_ft (w : World) : Run2 ((w.withFollow "comprehension-iter-twice" false).withFollow "special-get-raises" true) := fun os => by
  unfold piecesOf
  rw [PySem.W.Fast.te10110043849684766642, PySem.W.Fast.te14364793385576792824, PySem.W.Fast.te12563942051412417395]
  kernel_rfl
theorem run_tf (w : World) : Run2 ((w.withFollow "comprehension-iter-twice" true).withFollow "special-get-raises" false) := fun os => by
  unfold piecesOf
  rw [PySem.W.Fast.te10110043849684766642, PySem.W.Fast.te14364793385576792824, PySem.W.Fast.te12563942051412417395]
  kernel_rfl
theorem run_tt (w : World) : Run2 ((w.withFollow "comprehension-iter-twice" true).withFollow "special-get-raises" true) := fun os => by
  unfold piecesOf
  rw [PySem.W.Fast.te10110043849684766642, PySem.W.Fast.te14364793385576792824, PySem.W.Fast.te12563942051412417395]
  kernel_rfl
theorem zrun3 (w : World) (os : OsState) : segRunT treeTable prog0 w 28 zan 1 1000 (zs2 w os) (piecesOf (zbE.drop 17) zenvE zcE zq2 [topFrame zq0]) = some (.next, zs3 w os, zcE, zq3) := by
  unfold piecesOf
  rw [PySem.W.Fast.te10110043849684766642, PySem.W.Fast.te14364793385576792824, PySem.W.Fast.te12563942051412417395]
  kernel_rfl
theorem zfin3 (w : World) (os : OsState) : topRun treeTable prog0 w 28 zan 2 (zs3 w os).abs ⟨doneF .next, zcE, zq3, [topFrame zq0]⟩ = some (zs3 w os).abs := by kernel_rfl
/-- the looks at the top's end: what the head asks of it, out of the head's own type -/
noncomputable abbrev zfin (w : World) (os : OsState) : Shared := ⟨zh1 w.params, #[], {}, 773, os⟩
abbrev AskB {q : Program} {loose : List Str} {Xt : Shared → Bool} {α : Type} {Yf : Shared → α} {Ya : World → α} {N : Nat} {p : Program} {b c : Prop} (_ : LeftO p q loose Xt Yf Ya N true ∧ b → c) : Prop :=
  ∀ w os, openSeen q loose (importedModules prog0.main.body) Xt true (zfin w os) = openGood q loose
abbrev AskC {q : Program} {loose : List Str} {Xt : Shared → Bool} {α : Type} {Yf : Shared → α} {Ya : World → α} {N : Nat} {p : Program} {b c : Prop} (_ : LeftO p q loose Xt Yf Ya N true ∧ b → c) : Prop :=
  ∀ w os, Yf (zfin w os) = Ya w
theorem lookA (w : World) (os : OsState) : (staticsOk (importedModules prog0.main.body) (zh0 w.params) (zh1 w.params) && namesBound prog0 (zh1 w.params) && gensDone (zfin w os) && laidKept (zh0 w.params) (zh1 w.params)) = true := by
  rw [PySem.W.Fast.te5923862056798008813]
  kernel_rfl
theorem lookB : AskB hd := fun w os => by
  rw [PySem.W.Fast.te4187177175401517315, PySem.W.Fast.te5923862056798008813]
  kernel_rfl
theorem lookC : AskC hd := fun w os => by kernel_rfl
theorem all4 {P : World → Prop} (ff : ∀ w : World, P ((w.withFollow "comprehension-iter-twice" false).withFollow "special-get-raises" false)) (ft : ∀ w : World, P ((w.withFollow "comprehension-iter-twice" false).withFollow "special-get-raises" true))
    (tf : ∀ w : World, P ((w.withFollow "comprehension-iter-twice" true).withFollow "special-get-raises" false)) (tt : ∀ w : World, P ((w.withFollow "comprehension-iter-twice" true).withFollow "special-get-raises" true)) (w : World) : P w :=
  byRow2 (P := P) "special-get-raises" (byRow2 (P := fun w => P (w.withFollow "special-get-raises" false)) "comprehension-iter-twice" ff tf) (byRow2 (P := fun w => P (w.withFollow "special-get-raises" true)) "comprehension-iter-twice" ft tt) w
theorem zrun2 (w : World) : Run2 w := all4 (P := Run2) run_ff run_ft run_tf run_tt w
theorem zruns (w : World) (os : OsState) : topRun treeTable prog0 w 28 zan (12 + (1 + (500 + (1300 + (1000 + 2))))) ⟨zh0 w.params, #[], {}, 276, os⟩ (topStub prog0) = some ⟨zh1 w.params, #[], {}, 773, os⟩ := by
  have a0 := stT_abs (toks := 276) (os := os) (ztree0 w)
  have a3 : (zs3 w os).abs = _ := stT_abs (toks := 773) (os := os) (ztree3 w)
  have k3 := piece_app (rest := []) (segRun_of (zrun3 w os)) (piece_nil (env := zenvE) (zfin3 w os))
  have k2 := piece_app (segRun_of (zrun2 w os)) k3
  have k1 := piece_app (segRun_of (zrun1 w os)) k2
  have e : zbE.take 16 ++ ((zbE.drop 16).take 1 ++ (zbE.drop 17 ++ [])) = zbE := by
    rw [List.append_nil, show zbE.drop 17 = (zbE.drop 16).drop 1 by rw [List.drop_drop], List.take_append_drop, List.take_append_drop]
  rw [e] at k1
  have kb := go_top (goT_of (zpre0 w os)) (piece_block (zblk0 w os) k1)
  rw [a0, a3] at kb
  exact kb
theorem left0 {q : Program} {loose : List Str} {Xt : Shared → Bool} {α : Type} {Yf : Shared → α} {Ya : World → α} (hB : ∀ w os, openSeen q loose (importedModules prog0.main.body) Xt true (zfin w os) = openGood q loose) (hC : ∀ w os, Yf (zfin w os) = Ya w) : LeftO prog0 q loose Xt Yf Ya 5244 true :=
  LeftO.of_pieces (H₀ := zh0) (H₁ := zh1) zopen0 zsize0 zruns rfl fun w => funext fun os => looks_pair (lookA w os) (looks_pair (hB w os) (hC w os))
theorem head {a b c : Prop} (h : a ∧ b → c) (x : a) : b → c := fun y => h ⟨x, y⟩
local macro_rules | `(tactic| walk_at $s:str) => `(tactic| k_extra $s)
theorem filled : (PySem.Challenge.rw_in0161_01 = PySem.Challenge.rw_in0161_01) ∧ (hd.heap_1 = hd.heap_1) := by
  k_fill
  exact ⟨rfl, rfl⟩
-- N1
theorem zero_one (i : Int) : 0 + i * 1 = i := by rw [Int.mul_one, Int.zero_add]
theorem down_int {n i : Nat} (h : i < n) : (n : Int) - 1 + (i : Int) * -1 = ((n - 1 - i : Nat) : Int) := by
  obtain ⟨m, rfl⟩ := Nat.exists_eq_add_of_lt h
  rw [Nat.add_sub_cancel, Nat.add_sub_cancel_left]
  show ((i : Int) + m + 1) - 1 + (i : Int) * -1 = m
  rw [Int.add_sub_cancel, Int.mul_neg_one, Int.add_assoc, Int.add_comm (m : Int), ← Int.add_assoc, Int.add_right_neg, Int.zero_add]
theorem down_nat {n i : Nat} (h : i < n) : ((n : Int) - 1 + (i : Int) * -1).toNat = n - 1 - i := by
  rw [down_int h]; rfl
theorem down_lt {n i k : Nat} (h : i < n) (hk : n ≤ k) : ((n : Int) - 1 + (i : Int) * -1).toNat < k := by
  rw [down_nat h]
  exact Nat.lt_of_le_of_lt (Nat.sub_le _ _) (Nat.lt_of_lt_of_le (Nat.sub_lt (Nat.lt_of_le_of_lt (Nat.zero_le i) h) Nat.one_pos) hk)
theorem sub_step {i n : Nat} (h : i < n) : n - (i + 1) < n - i := Nat.sub_lt_sub_left h (Nat.lt_succ_self i)
theorem mod_in (x : Int) {n : Int} (h : 0 < n) : 0 ≤ x % n ∧ x % n < n := ⟨Int.emod_nonneg _ (Int.ne_of_gt h), Int.emod_lt_of_pos _ h⟩
theorem toNat_lt {x : Int} {n : Nat} (h0 : 0 ≤ x) (h : x < (n : Int)) : x.toNat < n := (Int.toNat_lt h0).mpr h
theorem mod_toNat (x : Int) {n : Nat} (h : 0 < n) : (x % (n : Int)).toNat < n := toNat_lt (mod_in x (Int.ofNat_lt.mpr h)).1 (mod_in x (Int.ofNat_lt.mpr h)).2
theorem sub_full {a b n : Nat} (h : a - b = n) (ha : a ≤ n) (h0 : ¬ n = 0) : b = 0 := by
  refine Nat.eq_zero_of_not_pos fun hb => ?_
  have h1 : 0 < a := Nat.pos_of_ne_zero fun e => h0 (by rw [← h, e, Nat.zero_sub])
  exact absurd h (Nat.ne_of_lt (Nat.lt_of_lt_of_le (Nat.sub_lt h1 hb) ha))
theorem near_len {p r m : Nat} (h : m + 3 ≤ r ∧ r ≤ 4 * m + 3) (h1 : 1 ≤ p) (h2 : p ≤ 4) : m + 1 + 3 ≤ p + r ∧ p + r ≤ 4 * (m + 1) + 3 := by
  rw [Nat.add_right_comm m 1 3, Nat.add_comm p r, Nat.mul_add, Nat.add_right_comm (4 * m)]
  exact ⟨Nat.add_le_add h.1 h1, Nat.add_le_add h.2 h2⟩
theorem min_lt {p n : Nat} (h : p < n) : min p n + 1 = min (p + 1) n := by rw [Nat.min_eq_left (Nat.le_of_lt h), Nat.min_eq_left h]
theorem min_ge {p n : Nat} (h : ¬ p < n) : min p n + 0 = min (p + 1) n := by
  have h := Nat.le_of_not_lt h
  rw [Nat.min_eq_right h, Nat.min_eq_right (Nat.le_succ_of_le h)]; rfl
theorem min_up {p n k : Nat} (h : k = min p n) : (k + if p < n then 1 else 0) = min (p + 1) n := by
  subst h
  split
  · exact min_lt (by assumption)
  · exact min_ge (by assumption)
theorem gain_full {s w q n : Nat} (h : w + (0 + 1) ≤ s) (e : s - w + q + 1 = n) : s - (w + (0 + 1)) + (q + (0 + 1)) + 1 = n := by
  obtain ⟨k, rfl⟩ := Nat.exists_eq_add_of_le h
  subst e
  rw [Nat.add_sub_cancel_left, Nat.add_assoc w, Nat.add_sub_cancel_left]
  show k + (q + 1) + 1 = 1 + k + q + 1
  rw [Nat.add_comm 1 k, Nat.add_right_comm k 1 q]; rfl
theorem gain_step {s w q n : Nat} (e : s - w + (q + 1) + 1 = n) : s - w + q + 1 < n := by
  subst e; exact Nat.lt_succ_self _
theorem gain_q {a q n k : Nat} (e : a + q + 1 = n) (h : n ≤ k) : q ≤ k := by subst e; exact Nat.le_trans (Nat.le_trans (Nat.le_add_left q a) (Nat.le_succ _)) h
theorem mod16 (n : Int) : 0 ≤ n % 16 ∧ n % 16 < 16 := mod_in n (by decide)
theorem mod256 (n : Int) : 0 ≤ n % 256 ∧ n % 256 < 256 := mod_in n (by decide)
theorem add_nn {x y : Int} (h : 0 ≤ x) (h' : 0 ≤ y) : 0 ≤ x * 256 + y := Int.add_nonneg (Int.mul_nonneg h (by decide)) h'
theorem lt_of_sub3 {a b : Int} (h : a < b - 3) : a < b := Int.lt_trans h (Int.sub_lt_self b (by decide))
theorem i64 {n : Nat} (h : n ≤ 1000000) : (n : Int) < 9223372036854775808 := Int.lt_of_le_of_lt (Int.ofNat_le.mpr h) (by decide)
theorem one_two {j p : Nat} (h : p + 1 ≤ j) (h' : j ≤ p + 2) : j = p + 1 ∨ j = p + 2 := by
  rcases Nat.eq_or_lt_of_le h with e | e
  · exact .inl e.symm
  · exact .inr (Nat.le_antisymm h' e)
theorem half (x : Int) {y : Int} (h0 : 0 ≤ y) (h1 : y < 2) : (x * 2 + y) / 2 = x ∧ (x * 2 + y) % 2 = y := by
  rw [Int.add_comm, Int.add_mul_ediv_right y x (by decide), Int.ediv_eq_zero_of_lt h0 h1, Int.zero_add, Int.add_mul_emod_self_right, Int.emod_eq_of_lt h0 h1]
  exact ⟨rfl, rfl⟩
theorem tail_div {x y n : Int} (h0 : 0 ≤ y) (h1 : y < n) : (x * n + y) / n = x := by
  have hn : n ≠ 0 := Int.ne_of_gt (Int.lt_of_le_of_lt h0 h1)
  rw [Int.add_comm, Int.add_mul_ediv_right y x hn, Int.ediv_eq_zero_of_lt h0 h1, Int.zero_add]
theorem tail_mod {x y n : Int} (h0 : 0 ≤ y) (h1 : y < n) : (x * n + y) % n = y := by
  rw [Int.add_comm, Int.add_mul_emod_self_right, Int.emod_eq_of_lt h0 h1]
theorem two8 {A B : Int} (a0 : 0 ≤ A) (a1 : A < 256) (b0 : 0 ≤ B) (b1 : B < 256) : 0 ≤ A * 256 + B ∧ A * 256 + B < 65536 :=
  ⟨add_nn a0 b0, Int.lt_of_lt_of_le (Int.add_lt_add_left b1 _) (Int.add_le_add_right (Int.mul_le_mul_of_nonneg_right (Int.le_of_lt_add_one (b := 255) a1) (by decide)) 256)⟩
theorem two4 {A B : Int} (a : 0 ≤ A ∧ A < 16) (b : 0 ≤ B ∧ B < 16) : 0 ≤ 16 * A + B ∧ 16 * A + B < 256 :=
  ⟨Int.add_nonneg (Int.mul_nonneg (by decide) a.1) b.1, Int.lt_of_lt_of_le (Int.add_lt_add_left b.2 _) (Int.add_le_add_right (Int.mul_le_mul_of_nonneg_left (Int.le_of_lt_add_one (b := 15) a.2) (by decide)) 16)⟩
theorem two_figs {x y : Int} {a : UInt8} (hx : 0 ≤ x ∧ x < 16) (hy : 0 ≤ y ∧ y < 16) (h : (a.toNat : Int) = 16 * x + y) : a.toNat / 16 = x.toNat ∧ a.toNat % 16 = y.toNat := by
  obtain ⟨p, rfl⟩ := Int.eq_ofNat_of_zero_le hx.1
  obtain ⟨q, rfl⟩ := Int.eq_ofNat_of_zero_le hy.1
  have l : q < 16 := Int.ofNat_lt.mp hy.2
  have e : a.toNat = 16 * p + q := Int.ofNat.inj h
  rw [e, Nat.mul_add_div (by decide), Nat.mul_add_mod, Nat.div_eq_of_lt l, Nat.mod_eq_of_lt l]
  exact ⟨rfl, rfl⟩
theorem hornE (a b c d : Int) : (a * 2 ^ 3 + (b * 2 ^ 2 + (c * 2 ^ 1 + (d * 2 ^ 0 + 0)))) = ((a * 2 + b) * 2 + c) * 2 + d := by
  show a * (2 * 2 * 2) + (b * (2 * 2) + (c * 2 + (d * 1 + 0))) = _
  simp only [Int.add_mul, Int.mul_assoc, Int.add_assoc, Int.mul_one, Int.add_zero]
theorem hornB {a b n : Int} (ha : 0 ≤ a ∧ a < n) (hb : 0 ≤ b ∧ b < 2) : 0 ≤ a * 2 + b ∧ a * 2 + b < 2 * n :=
  ⟨Int.add_nonneg (Int.mul_nonneg ha.1 (by decide)) hb.1, Int.lt_of_lt_of_le (Int.add_lt_add_left hb.2 _) (by rw [Int.mul_comm 2 n, show a * 2 + 2 = (a + 1) * 2 from (Int.add_mul a 1 2).symm]; exact Int.mul_le_mul_of_nonneg_right (Int.add_one_le_of_lt ha.2) (by decide))⟩
theorem horner {a b c d : Int} (ha : 0 ≤ a ∧ a < 2) (hb : 0 ≤ b ∧ b < 2) (hc : 0 ≤ c ∧ c < 2) (hd : 0 ≤ d ∧ d < 2) : (a * 2 ^ 3 + (b * 2 ^ 2 + (c * 2 ^ 1 + (d * 2 ^ 0 + 0)))) = ((a * 2 + b) * 2 + c) * 2 + d ∧ 0 ≤ ((a * 2 + b) * 2 + c) * 2 + d ∧ ((a * 2 + b) * 2 + c) * 2 + d < 16 :=
  ⟨hornE a b c d, hornB (hornB (hornB ha hb) hc) hd⟩
theorem nx3_0 {A B C : Int} (b0 : 0 ≤ B) (b1 : B < 256) (c0 : 0 ≤ C) (c1 : C < 256) (a0 : 0 ≤ A) (a1 : A < 256) : A = (A * 65536 + B * 256 + C) / 65536 % 256 := by
  rw [Int.add_assoc, tail_div (two8 b0 b1 c0 c1).1 (two8 b0 b1 c0 c1).2, Int.emod_eq_of_lt a0 a1]
theorem nx3_12 {A B C : Int} (b0 : 0 ≤ B) (b1 : B < 256) (c0 : 0 ≤ C) (c1 : C < 256) : B = (A * 65536 + B * 256 + C) / 256 % 256 ∧ C = (A * 65536 + B * 256 + C) / 1 % 256 := by
  rw [show A * 65536 = A * 256 * 256 from (Int.mul_assoc A 256 256).symm, ← Int.add_mul, tail_div c0 c1, tail_mod b0 b1, Int.ediv_one, tail_mod c0 c1]
  exact ⟨rfl, rfl⟩
theorem lt_lenN {p a r n : Nat} (j : Nat) (h : p + (a + r) = n) (hj : j < a) : ((p + j : Nat) : Int) < ((n : Nat) : Int) :=
  Int.ofNat_lt.mpr (by rw [← h]; exact Nat.add_lt_add_left (Nat.lt_of_lt_of_le hj (Nat.le_add_right a r)) p)
theorem no_end {p n : Nat} (h : p + 0 = n) : ¬ (p : Int) < ((n : Nat) : Int) ∧ (p : Int) = ((n : Nat) : Int) := by
  subst h
  exact ⟨Int.not_lt.mpr (Int.le_refl _), rfl⟩
theorem six_no {r : Nat} (h : r < 6) : ¬ (6 : Int) ≤ ((6 * 0 + r : Nat) : Int) := fun x => by
  have y : 6 ≤ 6 * 0 + r := Int.ofNat_le.mp x
  rw [Nat.mul_zero, Nat.zero_add] at y
  exact Nat.not_le.mpr h y
theorem six_yes (n r : Nat) : (6 : Int) ≤ ((6 * (n + 1) + r : Nat) : Int) := by
  have y : 6 ≤ 6 * (n + 1) + r := Nat.le_trans (Nat.le_mul_of_pos_right 6 (Nat.succ_pos n)) (Nat.le_add_right _ _)
  exact Int.ofNat_le.mpr y
theorem tp3 {c : Nat} (hc : c ∈ [42, 63, 91]) (h : c ≠ 91) : c = 42 ∨ c = 63 := by
  simp only [List.mem_cons, List.not_mem_nil, or_false] at hc
  rcases hc with rfl | rfl | rfl
  · exact .inl rfl
  · exact .inr rfl
  · exact absurd rfl h
-- M1
noncomputable abbrev Pg : Program := PySem.Challenge.rw_in0161_01.row.prog
noncomputable abbrev Lgr := List (Addr × Obj)
/-- nothing is raised -/
noncomputable abbrev NoE : Value → Shared → Prop := fun _ _ => False

/-- a frame's names, the newest first -/
noncomputable def mp : List (Str × Value) → Str → Option Value
  | [] => fun _ => none
  | (n, v) :: r => fun y => if y = n then some v else mp r y
theorem mp_lookup : ∀ (b : List (Str × Value)), (fun y => b.lookup y) = mp b
  | [] => rfl
  | (n, v) :: r => by
    funext y
    have ih := congrFun (mp_lookup r) y
    show (match y == n with | true => some v | false => r.lookup y) = if y = n then some v else mp r y
    by_cases h : y = n
    · subst h; rw [if_pos rfl, beq_self_eq_true]
    · rw [if_neg h, ← ih, beq_eq_false_iff_ne.mpr h]

/-- what stands still: the text's own objects, its names -/
structure Gd (w : World) (g : Heap) : Prop where
  X : (hd.heap_1 w.params).In g
  T : ∃ (p : Program) (loose : List Str) (mean : ExcName → Option Value) (mg mb : Str → Option Value), Top p loose mean mg mb g
  c1 : CodeHd g 114 110
  c2 : CodeHd g 170 166

/-- room for n more calls -/
structure Ar (A : Around) (n : Nat) : Prop where
  hh : A.handled = none
  dp : A.depth + n < recursionLimit
  un : A.units + 40 * n < cLine

theorem Ar.deeper {A : Around} {n : Nat} (a : Ar A (n + 1)) (env : Env) : Ar (A.deeper env) n :=
  ⟨a.hh, by have := a.dp; show A.depth + 1 + n < _; omega, by have := a.un; show A.units + 3 + 40 * n < _; omega⟩
theorem Ar.le {A : Around} {n k : Nat} (a : Ar A n) (h : k ≤ n) : Ar A k :=
  ⟨a.hh, by have := a.dp; omega, by have := a.un; omega⟩
theorem Ar.in1 {A : Around} {n : Nat} (a : Ar A (n + 1)) : Ar A.in1 n :=
  ⟨a.hh, by have := a.dp; show A.depth + n < _; omega, by have := a.un; show A.units + 1 + 40 * n < _; omega⟩
theorem Ar.room {A : Around} {n : Nat} (a : Ar A n) : A.depth < recursionLimit := by have := a.dp; omega
theorem Ar.units {A : Around} {n : Nat} (a : Ar A n) : A.units < cLine := by have := a.un; omega

/-- a heap over the ground g, with the listed objects -/
structure Hp (g h : Heap) (l : Lgr) : Prop where
  keep : ∀ b o, g.get? b = some o → h.get? b = some o
  nw : ∀ p ∈ l, h.get? p.1 = some p.2 ∧ g.get? p.1 = none
  nd : (l.map (·.1)).Nodup

/-- the same with a frame's names -/
structure Led (g : Heap) (L : Addr) (m : Str → Option Value) (h : Heap) (l : Lgr) : Prop where
  ns : h.Ns L m
  keep : ∀ b o, g.get? b = some o → h.get? b = some o
  gL : g.get? L = none
  nw : ∀ p ∈ l, h.get? p.1 = some p.2 ∧ p.1 ≠ L ∧ g.get? p.1 = none
  nd : (l.map (·.1)).Nodup

section
variable {g h h' : Heap} {L : Addr} {m m' : Str → Option Value} {l : Lgr} {a : Addr} {o o' : Obj}

theorem Led.fr0 (D : Led g L m h l) : Fr {} L h m := ⟨D.ns, fun b o e => by simp [Heap.get?] at e, Nat.zero_le _⟩
theorem Led.nw0 (D : Led g L m h l) : News {} L h l := fun p hp => ⟨(D.nw p hp).1, (D.nw p hp).2.1, by simp [Heap.get?]⟩
theorem Led.of0 {l' : Lgr} (D : Led g L m h l) (F : Fr {} L h' m') (N : News {} L h' l') (hk : ∀ b o, g.get? b = some o → h'.get? b = some o) (hg : ∀ p ∈ l', g.get? p.1 = none) (nd : (l'.map (·.1)).Nodup) : Led g L m' h' l' :=
  ⟨F.ns, hk, D.gL, fun p hp => ⟨(N p hp).1, (N p hp).2.1, hg p hp⟩, nd⟩
theorem fresh_at (hk : ∀ b o, g.get? b = some o → h.get? b = some o) : g.get? h.objs.size = none := by
  cases q : g.get? h.objs.size with
  | none => rfl
  | some o => exact absurd (Heap.lt_size (hk _ _ q)) (Nat.lt_irrefl _)
theorem Led.push (D : Led g L m h l) (o : Obj) (hf : o.isFreed = false := by rfl) : Led g L m (h.push o) ((h.objs.size, o) :: l) := by
  refine ⟨D.ns.keeps fun b o' e => Heap.get?_push_of_some _ e, fun b o' e => Heap.get?_push_of_some _ (D.keep b o' e), D.gL, fun p hp => ?_, ?_⟩
  · rcases List.mem_cons.mp hp with rfl | hp
    · exact ⟨Heap.get?_push_size _ hf, Nat.ne_of_gt D.ns.lt, fresh_at D.keep⟩
    · exact ⟨Heap.get?_push_of_some _ (D.nw p hp).1, (D.nw p hp).2⟩
  · rw [List.map_cons, List.nodup_cons]
    refine ⟨fun hm => ?_, D.nd⟩
    obtain ⟨p, hp, e⟩ := List.mem_map.mp hm
    have := Heap.lt_size (D.nw p hp).1
    rw [e] at this
    exact Nat.lt_irrefl _ this
theorem Led.store (D : Led g L m h l) (hn : h'.Ns L m') (hs : Heap.SameBut L h h') : Led g L m' h' l :=
  ⟨hn, fun b o e => (hs.2 b (fun q => by rw [q, D.gL] at e; cases e)).trans (D.keep b o e), D.gL, fun p hp => ⟨(hs.2 _ (D.nw p hp).2.1).trans (D.nw p hp).1, (D.nw p hp).2⟩, D.nd⟩
theorem Led.keeps (D : Led g L m h l) (hk : ∀ b o, h.get? b = some o → h'.get? b = some o) : Led g L m h' l :=
  ⟨D.ns.keeps hk, fun b o e => hk _ _ (D.keep b o e), D.gL, fun p hp => ⟨hk _ _ (D.nw p hp).1, (D.nw p hp).2⟩, D.nd⟩
theorem Led.at (D : Led g L m h l) {i : Nat} (hi : l[i]? = some (a, o)) : h.get? a = some o := (D.nw _ (List.mem_of_getElem? hi)).1

theorem split_at {i : Nat} {p : Addr × Obj} (hi : l[i]? = some p) : l = l.take i ++ p :: l.drop (i + 1) := by
  obtain ⟨hl, he⟩ := List.getElem?_eq_some_iff.mp hi
  rw [← he, ← List.drop_eq_getElem_cons hl, List.take_append_drop]
theorem perm_front {i : Nat} {p : Addr × Obj} (hi : l[i]? = some p) : l.Perm (p :: l.eraseIdx i) := by
  have e1 : l.eraseIdx i = l.take i ++ l.drop (i + 1) := List.eraseIdx_eq_take_drop_succ ..
  rw [e1]
  have := split_at hi
  exact (List.Perm.of_eq this).trans List.perm_middle
theorem Led.perm {l' : Lgr} (D : Led g L m h l) (hp : l.Perm l') : Led g L m h l' :=
  ⟨D.ns, D.keep, D.gL, fun p q => D.nw p (hp.mem_iff.mpr q), (hp.map _).nodup_iff.mp D.nd⟩
theorem Led.front (i : Nat) {p : Addr × Obj} (D : Led g L m h l) (hi : l[i]? = some p) : Led g L m h (p :: l.eraseIdx i) := D.perm (perm_front hi)
theorem Led.sub {l' : Lgr} (D : Led g L m h l) (hp : l'.Sublist l) : Led g L m h l' :=
  ⟨D.ns, D.keep, D.gL, fun p q => D.nw p (hp.subset q), (hp.map _).nodup D.nd⟩

theorem Led.put (D : Led g L m h l) {i : Nat} (hi : l[i]? = some (a, o)) (hs : Heap.SameBut a h h') (ha : h'.get? a = some o') : Led g L m h' (l.set i (a, o')) := by
  have sp := split_at hi
  have z := D.nw (a, o) (List.mem_of_getElem? hi)
  have nd := D.nd
  rw [sp, List.map_append, List.map_cons, List.nodup_append] at nd
  obtain ⟨n1, n2, n3⟩ := nd
  obtain ⟨n4, n5⟩ := List.nodup_cons.mp n2
  have e : l.set i (a, o') = l.take i ++ (a, o') :: l.drop (i + 1) := by
    obtain ⟨hl, _⟩ := List.getElem?_eq_some_iff.mp hi
    exact List.set_eq_take_append_cons_drop.trans (if_pos hl)
  refine ⟨D.ns.sameBut hs (Ne.symm z.2.1), fun b o e => (hs.2 b (fun q => by rw [q, z.2.2] at e; cases e)).trans (D.keep b o e), D.gL, fun p hp => ?_, ?_⟩
  · rw [e] at hp
    rcases List.mem_append.mp hp with hp | hp
    · have y := D.nw p (by rw [sp]; exact List.mem_append.mpr (.inl hp))
      have : p.1 ≠ a := n3 p.1 (List.mem_map_of_mem hp) a (.head _)
      exact ⟨(hs.2 _ this).trans y.1, y.2⟩
    · rcases List.mem_cons.mp hp with rfl | hp
      · exact ⟨ha, z.2⟩
      · have y := D.nw p (by rw [sp]; exact List.mem_append.mpr (.inr (.tail _ hp)))
        have : p.1 ≠ a := fun q => n4 (by rw [← q]; exact List.mem_map_of_mem (f := (·.1)) hp)
        exact ⟨(hs.2 _ this).trans y.1, y.2⟩
  · rw [e, List.map_append, List.map_cons, List.nodup_append]
    exact ⟨n1, n2, n3⟩

theorem Led.hp (D : Led g L m h l) : ∃ oL, Hp g h ((L, oL) :: l) ∧ ∀ h' l', Hp g h' ((L, oL) :: l') → Led g L m h' l' := by
  obtain ⟨oL, es, ep, hL, hd, hk, hf⟩ := D.ns
  refine ⟨oL, ⟨D.keep, fun p hp => ?_, ?_⟩, fun h' l' H => ?_⟩
  · rcases List.mem_cons.mp hp with rfl | hp
    · exact ⟨hL, D.gL⟩
    · exact ⟨(D.nw p hp).1, (D.nw p hp).2.2⟩
  · rw [List.map_cons, List.nodup_cons]
    refine ⟨fun hm => ?_, D.nd⟩
    obtain ⟨p, hp, e⟩ := List.mem_map.mp hm
    exact (D.nw p hp).2.1 e
  · have nd := H.nd
    rw [List.map_cons, List.nodup_cons] at nd
    refine ⟨⟨oL, es, ep, (H.nw _ (.head _)).1, hd, hk, hf⟩, H.keep, D.gL, fun p hp => ⟨(H.nw p (.tail _ hp)).1, fun e => ?_, (H.nw p (.tail _ hp)).2⟩, nd.2⟩
    exact nd.1 (by rw [← e]; exact List.mem_map_of_mem (f := (·.1)) hp)
theorem Led.out (D : Led g L m h l) : Hp g h l := ⟨D.keep, fun p hp => ⟨(D.nw p hp).1, (D.nw p hp).2.2⟩, D.nd⟩
theorem Hp.perm {l' : Lgr} (H : Hp g h l) (hp : l.Perm l') : Hp g h l' :=
  ⟨H.keep, fun p q => H.nw p (hp.mem_iff.mpr q), (hp.map _).nodup_iff.mp H.nd⟩
theorem Hp.sub {l' : Lgr} (H : Hp g h l) (hp : l'.Sublist l) : Hp g h l' :=
  ⟨H.keep, fun p q => H.nw p (hp.subset q), (hp.map _).nodup H.nd⟩
theorem Hp.led (H : Hp g h l) (hk : ∀ b o, h.get? b = some o → h'.get? b = some o) (hn : h'.Ns h.objs.size m) : Led g h.objs.size m h' l :=
  ⟨hn, fun b o e => hk b o (H.keep b o e), fresh_at H.keep, fun p hp => ⟨hk _ _ (H.nw p hp).1, Nat.ne_of_lt (Heap.lt_size (H.nw p hp).1), (H.nw p hp).2⟩, H.nd⟩
end

/-- what a call of f with vs does: it reads and changes the part l of the ledger, whatever else stands there -/
noncomputable def FSpec (w : World) (g : Heap) (f : Value) (vs : List Value) (n : Nat) (l : Lgr) (Post : Value → Lgr → Prop) : Prop :=
  ∀ (A : Around) (s : Shared) (x : Lgr) (Q E : Value → Shared → Prop), Ar A n → Hp g s.heap (l ++ x) →
    (∀ v h' tk l', Hp g h' (l' ++ x) → Post v l' → Q v { s with heap := h', toks := tk }) → wpAny (model Pg w) A (call f vs) Q E s

section
variable {w : World} {g : Heap} {A : Around} {n : Nat} {s : Shared} {L : Addr} {m : Str → Option Value} {l : Lgr} {E : Value → Shared → Prop}
theorem noE {α : Type} {M : Model} {t : Sem α} {Q : α → Shared → Prop} {E : Value → Shared → Prop} (h : wpAny M A t Q NoE s) : wpAny M A t Q E s := wpAny_mono h (fun _ _ x => x) fun _ _ e => e.elim

theorem use {f : Value} {vs : List Value} {p x : Lgr} {k : Nat} {Post : Value → Lgr → Prop} {Q : Value → Shared → Prop} (S : FSpec w g f vs k p Post) (D : Led g L m s.heap l) (hp : l.Perm (p ++ x)) (ar : Ar A n) (hk : k ≤ n)
    (h : ∀ v h' tk l', Led g L m h' (l' ++ x) → Post v l' → Q v { s with heap := h', toks := tk }) : wpAny (model Pg w) A (call f vs) Q E s := by
  obtain ⟨oL, H, back⟩ := (D.perm hp).hp
  refine S A s ((L, oL) :: x) Q E (ar.le hk) (H.perm List.perm_middle.symm) fun v h' tk l' H' P => ?_
  exact h v h' tk l' (back h' (l' ++ x) (H'.perm List.perm_middle)) P

theorem enter {f : Addr} {name qual : Str} {params : Arguments} {body : List Stmt} {scope : Scope} {dV kV doc pm cdv ct oc : Value} {an od : Option Addr} {osl : Array (Option Value)} {args : List Value} {kw : List (Str × Value)} {binds : List (Str × Value)} {x : Lgr}
    {Q : Value → Shared → Prop} (G : Gd w g) (H : Hp g s.heap x) (ar : Ar A (n + 1))
    (ho : (hd.heap_1 w.params).lookup f = some ⟨oc, od, .func (fnOf name qual params body scope dV kV doc pm an cdv ct), osl⟩) (hcd : codeIn (hd.heap_1 w.params) cdv qual = true)
    (hbind : BindsTo s (fnOf name qual params body scope dV kV doc pm an cdv ct) ⟨args, kw⟩ binds) (hloc : ∀ y ∈ binds, scope.names.lookup y.1 = some .local) (hcell : ∀ x ∈ scope.names, x.2 ≠ .cell)
    (hco : scope.isCoroutine = false) (hgen : scope.isGenerator = false) (hk : scope.kind = .function) {bl : List (Str × Value)} (hbl : binds.reverse = bl)
    (h : ∀ L A' h₁ tk, Ar A' n → Led g L (mp bl) h₁ x → wpAny (model Pg w) A' (execs body (envOf qual scope L f cdv)) (fun fl s' => Q (match fl with | .ret v => v | _ => .none) s') NoE { s with heap := h₁, toks := tk }) :
    wpAny (model Pg w) A (call (.ref f) args kw) Q E s := by
  refine wpAny_call ?_
  have Xs : (hd.heap_1 w.params).In s.heap := G.X.keeps H.keep
  obtain ⟨_, _, _, _, _, T⟩ := G.T
  refine codeAny_call_def (fd := fnOf name qual params body scope dV kV doc pm an cdv ct) (body := body) (binds := binds) ar.room (Xs _ _ ho) rfl (T.nolimit.keeps H.keep) (codeRec_of Xs hcd) rfl hbind hcell hloc (fun h₁ hns hk₁ => ?_) hco hgen hk
  rw [mp_lookup, hbl] at hns
  exact wpAny_mono (h s.heap.objs.size _ h₁ _ (ar.deeper _) (H.led hk₁ hns)) (fun fl s' q => q) fun _ _ e => e.elim

/-- cells that hold these -/
noncomputable def CellsOf : List (Addr × Option Value) → Lgr → Prop
  | [], l => l = []
  | (c, v) :: r, l => ∃ o l', l = (c, o) :: l' ∧ o.data = .cell v ∧ CellsOf r l'
theorem cellsOf {cm : Str → Option Value} : ∀ {cl : List (Str × Addr)} {cells : Lgr}, CellsAre cm cl cells → CellsOf (cl.map fun p => (p.2, cm p.1)) cells
  | _, _, .nil => rfl
  | _, _, .cons h r => ⟨_, _, rfl, h, cellsOf r⟩
theorem enterC {f : Addr} {name qual : Str} {params : Arguments} {body : List Stmt} {scope : Scope} {dV kV doc pm cdv ct oc : Value} {an od : Option Addr} {osl : Array (Option Value)} {args : List Value} {kw : List (Str × Value)} {binds : List (Str × Value)} {x : Lgr}
    {Q : Value → Shared → Prop} (G : Gd w g) (H : Hp g s.heap x) (ar : Ar A (n + 1))
    (ho : (hd.heap_1 w.params).lookup f = some ⟨oc, od, .func (fnOf name qual params body scope dV kV doc pm an cdv ct), osl⟩) (hcd : codeIn (hd.heap_1 w.params) cdv qual = true)
    (hbind : BindsTo s (fnOf name qual params body scope dV kV doc pm an cdv ct) ⟨args, kw⟩ binds)
    (hkind : (binds.all fun y => scope.names.lookup y.1 == some .local || scope.names.lookup y.1 == some .cell) = true) (hnd : ((cellsFrom 0 scope.names []).map (·.1)).Nodup)
    (hco : scope.isCoroutine = false) (hgen : scope.isGenerator = false) (hk : scope.kind = .function)
    {bl : List (Str × Value)} (hbl : ∀ L, bindL (envOfC qual scope L f cdv).kindOf binds (fun _ => none) = mp bl)
    {cs : Addr → List (Addr × Option Value)} (hcs : ∀ L, (cellsFrom (L + 1) scope.names []).map (fun p => (p.2, bindC (envOfC qual scope L f cdv).kindOf binds (fun _ => none) p.1)) = cs L)
    (h : ∀ L A' h₁ tk cells, Ar A' n → Led g L (mp bl) h₁ (cells ++ x) → CellsOf (cs L) cells →
      wpAny (model Pg w) A' (execs body (envOfC qual scope L f cdv)) (fun fl s' => Q (match fl with | .ret v => v | _ => .none) s') NoE { s with heap := h₁, toks := tk }) :
    wpAny (model Pg w) A (call (.ref f) args kw) Q E s := by
  refine wpAny_call ?_
  have Xs : (hd.heap_1 w.params).In s.heap := G.X.keeps H.keep
  obtain ⟨_, _, _, _, _, T⟩ := G.T
  refine codeAny_call_function ar.room (Xs _ _ ho) rfl hco hgen rfl (codeRec_of Xs hcd) (hbind _ _ _ _ ?_)
  refine wpAny_newFunctionEnv_cells hk (kindsX hkind _) fun env' he s' y => ?_
  subst he
  refine ⟨(T.nolimit.keeps H.keep).keeps y.toInCall.keep, codeAny_func ?_⟩
  obtain ⟨h₁, tk, rfl, _⟩ := y.done
  have hk₁ := y.toInCall.keep
  obtain ⟨cells, NC, Y⟩ := Cl.news (h₀ := s.heap) (Nat.le_refl _) fun n c hm => ⟨y.cell n c (lookup_of_mem_nodup (cellsFrom_names scope.names 0 (s.heap.objs.size + 1) [] [] rfl ▸ hnd) hm), y.above n c hm⟩
  have D : Led g s.heap.objs.size (mp bl) h₁ x := H.led hk₁ (hbl s.heap.objs.size ▸ y.toInCall.ns)
  have key : ∀ {cs : List (Str × Addr)} {cells : Lgr}, CellsAre (bindC (envOfC qual scope s.heap.objs.size f cdv).kindOf binds fun _ => none) cs cells → cells.map (·.1) = cs.map (·.2) := by
    intro cs cells Y
    induction Y with
    | nil => rfl
    | cons _ _ ih => simp only [List.map_cons, ih]
  refine wpAny_mono (h s.heap.objs.size _ h₁ tk cells (ar.deeper _) ⟨D.ns, D.keep, D.gL, fun p hp => ?_, ?_⟩ (hcs _ ▸ cellsOf Y)) (fun fl s' q => q) fun _ _ e => e.elim
  · rcases List.mem_append.mp hp with hp | hp
    · refine ⟨(NC p hp).1, (NC p hp).2.1, ?_⟩
      cases q : g.get? p.1 with
      | none => rfl
      | some o => have := H.keep _ _ q; rw [(NC p hp).2.2] at this; cases this
    · exact D.nw p hp
  · rw [List.map_append, List.nodup_append]
    refine ⟨?_, H.nd, fun a ha b hb e => ?_⟩
    · rw [key Y]
      have := y.apart
      exact List.pairwise_map.mpr (y.apart.imp fun h => h)
    · obtain ⟨p, hp, rfl⟩ := List.mem_map.mp ha
      obtain ⟨q, hq, rfl⟩ := List.mem_map.mp hb
      have h1 := (NC p hp).2.2
      have h2 := (H.nw q hq).1
      rw [e, h2] at h1; cases h1
end

section
variable {M : Model} {w : World} {g : Heap} {A : Around} {s : Shared} {env : Env} {m : Str → Option Value} {l : Lgr} {E : Value → Shared → Prop} {x : Str} {pos : Pos} {v : Value} {Q : Value → Shared → Prop}
/-- a local name -/
theorem nmL {L : Addr} (D : Led g L m s.heap l) (hL : env.locals = L) (hk : env.scope.kind = .function) (hx : env.kindOf x = some .local) (hv : m x = some v) (h : Q v s) (hd : (x == ("__debug__" : Str)) = false) : wpAny M A (eval (.Name x pos) env) Q E s := by
  subst hL
  exact wpAny_Name (wpAny_loadName_local hk hx D.ns hv h) hd
/-- a name of the module -/
theorem nmG {L : Addr} (G : Gd w g) (D : Led g L m s.heap l) (hk : env.scope.kind = .function) (hg : env.globals = mainGlobals) (hx : env.kindOf x = some .globalImplicit) (e : nsIn (hd.heap_1 w.params) mainGlobals x = some (some v)) (h : Q v s) (hd : (x == ("__debug__" : Str)) = false) :
    wpAny M A (eval (.Name x pos) env) Q E s := by
  obtain ⟨_, _, _, _, _, T⟩ := G.T
  exact Name_function_global hk hx (loadGlobal_global (env := env) (by rw [hg]; exact T.g.keeps D.keep) (mg_of G.X T.g e) h) hd
/-- a built-in name -/
theorem nmB {L : Addr} (G : Gd w g) (D : Led g L m s.heap l) (hk : env.scope.kind = .function) (hg : env.globals = mainGlobals) (hb : env.builtins = builtinsNs) (hx : env.kindOf x = some .globalImplicit) (e : nsIn (hd.heap_1 w.params) mainGlobals x = some none)
    (hv : bootBuiltins x = some v) (hn : x ≠ "__name__") (h : Q v s) (hd : (x == ("__debug__" : Str)) = false) : wpAny M A (eval (.Name x pos) env) Q E s := by
  obtain ⟨_, _, _, _, _, T⟩ := G.T
  exact Name_function_global hk hx (loadGlobal_builtin (env := env) (by rw [hg]; exact T.g.keeps D.keep) (mg_none_of G.X T.g e) (by rw [hb]; exact T.b.keeps D.keep) ((T.builtins x hn).trans hv) h) hd
/-- a captured name -/
theorem nmC {L : Addr} {c : Addr} {o : Obj} {i : Nat} (D : Led g L m s.heap l) (hk : env.scope.kind = .function) (hx : env.kindOf x = some .cell ∨ env.kindOf x = some .free) (hc : env.cells.lookup x = some c) (hm : l[i]? = some (c, o)) (hv : o.data = .cell (some v)) (h : Q v s)
    (hd : (x == ("__debug__" : Str)) = false) (hn : (x == ("__classdict__" : Str)) = false) : wpAny M A (eval (.Name x pos) env) Q E s := by
  rcases hx with hx | hx
  · exact wpAny_Name (wpAny_loadName_cell hk hx hc ⟨o, D.at hm, hv⟩ h) hd
  · exact wpAny_Name (wpAny_loadName_free hk hx hc ⟨o, D.at hm, hv⟩ h hn) hd
end
section
variable {M : Model} {g : Heap} {A : Around} {s : Shared} {env : Env} {m : Str → Option Value} {l : Lgr} {E : Value → Shared → Prop} {x : Str} {pos : Pos} {v : Value} {Q : Unit → Shared → Prop}
theorem stL {L : Addr} {b : List (Str × Value)} (D : Led g L (mp b) s.heap l) (hL : env.locals = L) (hk : env.scope.kind = .function) (hx : env.kindOf x = some .local)
    (h : ∀ h', Led g L (mp ((x, v) :: b)) h' l → Q () { s with heap := h', toks := s.toks + 1 }) : wpAny M A (storeName env x v) Q E s := by
  subst hL
  exact wpAny_storeName_local hx D.ns (fun h' hn hs => h h' (D.store hn hs)) (by rw [hk]; rfl)
theorem stC {L : Addr} {c : Addr} {o : Obj} {i : Nat} {v₀ : Option Value} (D : Led g L m s.heap l) (hk : env.scope.kind = .function) (hx : env.kindOf x = some .cell) (hc : env.cells.lookup x = some c) (hm : l[i]? = some (c, o)) (hd : o.data = .cell v₀)
    (h : ∀ h' o', Led g L m h' (l.set i (c, o')) → o'.data = .cell (some v) → Q () { s with heap := h' }) : wpAny M A (storeName env x v) Q E s := by
  refine wpAny_storeName_cell hk hx hc ⟨o, D.at hm, hd⟩ fun h' hv hs => ?_
  obtain ⟨o', ho', hd'⟩ := hv
  exact h h' o' (D.put hm hs ho') hd'
end
-- M3
/-- the state s' is s with another heap -/
noncomputable def Sm (s s' : Shared) : Prop := ∃ h tk, s' = { s with heap := h, toks := tk }
theorem Sm.refl (s : Shared) : Sm s s := ⟨s.heap, s.toks, rfl⟩
theorem Sm.mk {s : Shared} {h : Heap} {tk : Nat} : Sm s { s with heap := h, toks := tk } := ⟨h, tk, rfl⟩
theorem Sm.go {s s' : Shared} (x : Sm s s') (h : Heap) (tk : Nat) : Sm s { s' with heap := h, toks := tk } := by
  obtain ⟨h₁, tk₁, rfl⟩ := x
  exact ⟨h, tk, rfl⟩
theorem Sm.trans {s s' s'' : Shared} (x : Sm s s') (y : Sm s' s'') : Sm s s'' := by
  obtain ⟨h, tk, rfl⟩ := y
  exact x.go h tk

/-- a turn's head: the iterator's next, and what becomes of its own tuple -/
noncomputable def Step (w : World) (A : Around) (target : Expr) (it : Value) (Q : Option Value → Shared → Prop) (s : Shared) : Prop :=
  wpAny (model Pg w) A (pyNext it) (fun r s₁ => match r with
    | none => Q none s₁
    | some v => wpAny (model Pg w) A (letOwnedTupleGo target it v) (fun _ s₂ => Q (some v) s₂) NoE s₁) NoE s

/-- the iterator, its part of the ledger p, some standing objects S, yields the values of Ps (with new objects q) -/
noncomputable def Yields (w : World) (g : Heap) (A : Around) (target : Expr) (it : Value) (S : Lgr) : List (Value → Lgr → Prop) → Lgr → Prop
  | [], p => ∀ (s : Shared) (x : Lgr) (Q : Option Value → Shared → Prop), Hp g s.heap (p ++ x) → (∀ e ∈ S, e ∈ x) → (∀ h' tk p', Hp g h' (p' ++ x) → Q none { s with heap := h', toks := tk }) → Step w A target it Q s
  | P :: r, p => ∀ (s : Shared) (x : Lgr) (Q : Option Value → Shared → Prop), Hp g s.heap (p ++ x) → (∀ e ∈ S, e ∈ x) →
      (∀ v q h' tk p', P v q → Yields w g A target it S r p' → Hp g h' (q ++ (p' ++ x)) → Q (some v) { s with heap := h', toks := tk }) → Step w A target it Q s

/-- an iterator iterates as itself -/
noncomputable def SelfIt (w : World) (g : Heap) (A : Around) (it : Value) (S p : Lgr) : Prop :=
  ∀ (s : Shared) (x : Lgr) (Q E : Value → Shared → Prop), Hp g s.heap (p ++ x) → (∀ e ∈ S, e ∈ x) → Q it s → wpAny (model Pg w) A (pyIter it) Q E s

/-- the part p of the ledger as it stands in the heap h -/
noncomputable def snap (h : Heap) (p : Lgr) : Lgr := p.map fun e => (e.1, (h.get? e.1).getD e.2)
theorem snap_keys (h : Heap) (p : Lgr) : (snap h p).map (·.1) = p.map (·.1) := by simp [snap]
theorem snap_get {h : Heap} {p : Lgr} (live : ∀ e ∈ p, ∃ o, h.get? e.1 = some o) : ∀ e ∈ snap h p, h.get? e.1 = some e.2 := by
  intro e he
  obtain ⟨q, hq, rfl⟩ := List.mem_map.mp he
  obtain ⟨o, ho⟩ := live q hq
  simp [ho]
theorem Hp.move {g h h' : Heap} {p x : Lgr} {wr : List Addr} (H : Hp g h (p ++ x)) (hwr : ∀ b ∈ wr, b ∈ p.map (·.1)) (hk : ∀ b o, b ∉ wr → h.get? b = some o → h'.get? b = some o) (live : ∀ e ∈ p, ∃ o, h'.get? e.1 = some o) :
    Hp g h' (snap h' p ++ x) := by
  have hd := H.nd
  rw [List.map_append, List.nodup_append] at hd
  refine ⟨fun b o e => hk b o (fun hb => ?_) (H.keep b o e), fun q hq => ?_, ?_⟩
  · obtain ⟨q, hq, rfl⟩ := List.mem_map.mp (hwr b hb)
    have := (H.nw q (List.mem_append_left _ hq)).2
    rw [e] at this; cases this
  · rcases List.mem_append.mp hq with hq | hq
    · refine ⟨snap_get live q hq, ?_⟩
      have : q.1 ∈ p.map (·.1) := snap_keys h' p ▸ List.mem_map_of_mem (f := (·.1)) hq
      obtain ⟨r, hr, e⟩ := List.mem_map.mp this
      rw [← e]
      exact (H.nw r (List.mem_append_left _ hr)).2
    · exact ⟨hk _ _ (fun hb => hd.2.2 _ (hwr _ hb) _ (List.mem_map_of_mem (f := (·.1)) hq) rfl) (H.nw q (List.mem_append_right _ hq)).1, (H.nw q (List.mem_append_right _ hq)).2⟩
  · rw [List.map_append, snap_keys, ← List.map_append]
    exact H.nd

section
variable {w : World} {g : Heap} {A : Around}

theorem Yields.of_walks {I : Addr} {fp wr : List Addr} {n : Nat} {P : Nat → Value → Prop} {St : Nat → Heap → Prop} {x : Str} {px : Pos} {S : Lgr}
    (W : Walks Pg w A I fp wr n P St) (live : ∀ i h, St i h → ∀ b ∈ fp, ∃ o, h.get? b = some o) :
    ∀ (k i : Nat) (p : Lgr), i + k = n → (∀ b ∈ wr, b ∈ p.map (·.1)) → (∀ b ∈ p.map (·.1), b ∈ fp) → (∀ b ∈ fp, b ∈ p.map (·.1) ∨ b ∈ S.map (·.1)) →
      (∃ h₀ : Heap, (∀ e ∈ p, h₀.get? e.1 = some e.2) ∧ (∀ e ∈ S, h₀.get? e.1 = some e.2) ∧ St i h₀) →
      Yields w g A (.Name x px) (.ref I) S ((List.range' i k).map fun j v q => P j v ∧ q = []) p := by
  have getSt : ∀ (i : Nat) (p x : Lgr) (h : Heap), (∀ b ∈ fp, b ∈ p.map (·.1) ∨ b ∈ S.map (·.1)) → (∃ h₀ : Heap, (∀ e ∈ p, h₀.get? e.1 = some e.2) ∧ (∀ e ∈ S, h₀.get? e.1 = some e.2) ∧ St i h₀) → Hp g h (p ++ x) → (∀ e ∈ S, e ∈ x) → St i h := by
    rintro i p x h hfp ⟨h₀, h1, h2, h3⟩ H hS
    refine W.frame i h₀ h h3 fun b hb o e => ?_
    rcases hfp b hb with hb | hb
    · obtain ⟨q, hq, rfl⟩ := List.mem_map.mp hb
      have := h1 q hq
      rw [e] at this
      rw [Option.some.inj this]
      exact (H.nw q (List.mem_append_left _ hq)).1
    · obtain ⟨q, hq, rfl⟩ := List.mem_map.mp hb
      have := h2 q hq
      rw [e] at this
      rw [Option.some.inj this]
      exact (H.nw q (List.mem_append_right _ (hS q hq))).1
  intro k
  induction k with
  | zero =>
    intro i p hn hwr hpf hfp hst
    intro s x Q H hS hQ
    have hi : i = n := by omega
    subst hi
    refine W.done s _ _ (getSt _ p x _ hfp hst H hS) fun h' tk hk => ?_
    refine hQ h' tk [] ?_
    have hd := H.nd
    rw [List.map_append, List.nodup_append] at hd
    refine ⟨fun b o e => hk b o (fun hb => ?_) (H.keep b o e), fun q hq => ⟨hk _ _ (fun hb => ?_) (H.nw q (List.mem_append_right _ hq)).1, (H.nw q (List.mem_append_right _ hq)).2⟩, hd.2.1⟩
    · obtain ⟨q, hq, rfl⟩ := List.mem_map.mp (hwr b hb)
      have := (H.nw q (List.mem_append_left _ hq)).2
      rw [e] at this; cases this
    · exact hd.2.2 _ (hwr _ hb) _ (List.mem_map_of_mem (f := (·.1)) hq) rfl
  | succ k ih =>
    intro i p hn hwr hpf hfp hst
    rw [List.range'_succ, List.map_cons]
    intro s x Q H hS hQ
    refine W.item i s _ _ (by omega) (getSt _ p x _ hfp hst H hS) fun v h' tk hv hst' hk => ?_
    have lv : ∀ e ∈ p, ∃ o, h'.get? e.1 = some o := fun e he => live _ _ hst' _ (hpf _ (List.mem_map_of_mem (f := (·.1)) he))
    have H' := H.move hwr hk lv
    refine wpAny_pure (hQ v [] h' tk (snap h' p) ⟨hv, rfl⟩ ?_ H')
    refine ih (i + 1) (snap h' p) (by omega) (by rw [snap_keys]; exact hwr) (by rw [snap_keys]; exact hpf) (by rw [snap_keys]; exact hfp) ⟨h', snap_get lv, fun e he => (H'.nw e (List.mem_append_right _ (hS e he))).1, hst'⟩

theorem SelfIt.of_walks {I : Addr} {fp wr : List Addr} {n : Nat} {P : Nat → Value → Prop} {St : Nat → Heap → Prop} {S p : Lgr}
    (W : Walks Pg w A I fp wr n P St) (i : Nat) (hfp : ∀ b ∈ fp, b ∈ p.map (·.1) ∨ b ∈ S.map (·.1)) (hst : ∃ h₀ : Heap, (∀ e ∈ p, h₀.get? e.1 = some e.2) ∧ (∀ e ∈ S, h₀.get? e.1 = some e.2) ∧ St i h₀) : SelfIt w g A (.ref I) S p := by
  intro s x Q E H hS hQ
  obtain ⟨h₀, h1, h2, h3⟩ := hst
  refine W.self i s Q E (W.frame i h₀ _ h3 fun b hb o e => ?_) hQ
  rcases hfp b hb with hb | hb
  · obtain ⟨q, hq, rfl⟩ := List.mem_map.mp hb
    have := h1 q hq
    rw [e] at this
    rw [Option.some.inj this]
    exact (H.nw q (List.mem_append_left _ hq)).1
  · obtain ⟨q, hq, rfl⟩ := List.mem_map.mp hb
    have := h2 q hq
    rw [e] at this
    rw [Option.some.inj this]
    exact (H.nw q (List.mem_append_right _ (hS q hq))).1

/-- as of_walks, the items being new tuples that the loop's target takes apart -/
theorem Yields.of_walksT {I : Addr} {fp wr : List Addr} {n : Nat} {Pt : Nat → Array Value → Prop} {St : Nat → Heap → Prop} {Mid : Nat → Addr → Heap → Prop} {elts : List Expr} {k0 : Nat} {px : Pos} {S : Lgr}
    (W : WalksT Pg w A I fp wr n Pt St Mid) (live : ∀ i h, St i h → ∀ b ∈ fp, ∃ o, h.get? b = some o) :
    ∀ (k i : Nat) (p : Lgr), i + k = n → (∀ b ∈ wr, b ∈ p.map (·.1)) → (∀ b ∈ p.map (·.1), b ∈ fp) → (∀ b ∈ fp, b ∈ p.map (·.1) ∨ b ∈ S.map (·.1)) →
      (∃ h₀ : Heap, (∀ e ∈ p, h₀.get? e.1 = some e.2) ∧ (∀ e ∈ S, h₀.get? e.1 = some e.2) ∧ St i h₀) →
      Yields w g A (.Tuple elts k0 px) (.ref I) S ((List.range' i k).map fun j v q => ∃ T vals o, Pt j vals ∧ v = .ref T ∧ q = [(T, o)] ∧ o.cls = .type "tuple" ∧ ∃ m, o.data = .seq vals m) p := by
  have getSt : ∀ (i : Nat) (p x : Lgr) (h : Heap), (∀ b ∈ fp, b ∈ p.map (·.1) ∨ b ∈ S.map (·.1)) → (∃ h₀ : Heap, (∀ e ∈ p, h₀.get? e.1 = some e.2) ∧ (∀ e ∈ S, h₀.get? e.1 = some e.2) ∧ St i h₀) → Hp g h (p ++ x) → (∀ e ∈ S, e ∈ x) → St i h := by
    rintro i p x h hfp ⟨h₀, h1, h2, h3⟩ H hS
    refine W.frame i h₀ h h3 fun b hb o e => ?_
    rcases hfp b hb with hb | hb
    · obtain ⟨q, hq, rfl⟩ := List.mem_map.mp hb
      have := h1 q hq
      rw [e] at this
      rw [Option.some.inj this]
      exact (H.nw q (List.mem_append_left _ hq)).1
    · obtain ⟨q, hq, rfl⟩ := List.mem_map.mp hb
      have := h2 q hq
      rw [e] at this
      rw [Option.some.inj this]
      exact (H.nw q (List.mem_append_right _ (hS q hq))).1
  intro k
  induction k with
  | zero =>
    intro i p hn hwr hpf hfp hst
    intro s x Q H hS hQ
    have hi : i = n := by omega
    subst hi
    refine W.done s _ _ (getSt _ p x _ hfp hst H hS) fun h' tk hk => ?_
    refine hQ h' tk [] ?_
    have hd := H.nd
    rw [List.map_append, List.nodup_append] at hd
    refine ⟨fun b o e => hk b o (fun hb => ?_) (H.keep b o e), fun q hq => ⟨hk _ _ (fun hb => ?_) (H.nw q (List.mem_append_right _ hq)).1, (H.nw q (List.mem_append_right _ hq)).2⟩, hd.2.1⟩
    · obtain ⟨q, hq, rfl⟩ := List.mem_map.mp (hwr b hb)
      have := (H.nw q (List.mem_append_left _ hq)).2
      rw [e] at this; cases this
    · exact hd.2.2 _ (hwr _ hb) _ (List.mem_map_of_mem (f := (·.1)) hq) rfl
  | succ k ih =>
    intro i p hn hwr hpf hfp hst
    rw [List.range'_succ, List.map_cons]
    intro s x Q H hS hQ
    refine W.item i s _ _ (by omega) (getSt _ p x _ hfp hst H hS) fun T vals h₁ tk hv hle hT hMid hk₁ => ?_
    dsimp only
    refine W.go elts k0 px i T _ _ _ hMid fun h' hst' hk₂ => ?_
    have hk : ∀ b o, b ∉ wr → s.heap.get? b = some o → h'.get? b = some o := fun b o hb e => hk₂ b o hb (hk₁ b o hb e)
    have lv : ∀ e ∈ p, ∃ o, h'.get? e.1 = some o := fun e he => live _ _ hst' _ (hpf _ (List.mem_map_of_mem (f := (·.1)) he))
    have H' := H.move hwr hk lv
    obtain ⟨o, ho, hc, hd⟩ := hT
    have ho' := hk₂ T o (W.apart i T h₁ hMid) ho
    have hgT : g.get? T = none := by
      cases q : g.get? T with
      | none => rfl
      | some o' => exact absurd (Heap.lt_size (H.keep _ _ q)) (Nat.not_lt.mpr hle)
    refine hQ (.ref T) [(T, o)] h' tk (snap h' p) ⟨T, vals, o, hv, rfl, rfl, hc, hd⟩ ?_ ⟨H'.keep, fun e he => ?_, ?_⟩
    · exact ih (i + 1) (snap h' p) (by omega) (by rw [snap_keys]; exact hwr) (by rw [snap_keys]; exact hpf) (by rw [snap_keys]; exact hfp) ⟨h', snap_get lv, fun e he => (H'.nw e (List.mem_append_right _ (hS e he))).1, hst'⟩
    · rcases List.mem_cons.mp he with rfl | he
      · exact ⟨ho', hgT⟩
      · exact H'.nw e he
    · show (T :: (snap h' p ++ x).map (·.1)).Nodup
      refine List.nodup_cons.mpr ⟨fun hm => ?_, H'.nd⟩
      rw [List.map_append, snap_keys, ← List.map_append] at hm
      obtain ⟨e, he, e2⟩ := List.mem_map.mp hm
      have := Heap.lt_size (H.nw e he).1
      rw [e2] at this
      exact absurd this (Nat.not_lt.mpr hle)

/-- what holds between a loop's turns -/
inductive ForJ (w : World) (g : Heap) (A : Around) (target : Expr) (it : Value) (L : Addr) (S : Lgr) (Ps : List (Value → Lgr → Prop)) (J : Nat → List (Str × Value) → Lgr → Prop) (s₀ : Shared) (n : Nat) (s' : Shared) : Prop
  | mk (i : Nat) (b : List (Str × Value)) (l p : Lgr) (a1 : i ≤ Ps.length) (a2 : n = Ps.length - i) (a3 : Yields w g A target it S (Ps.drop i) p) (a4 : J i b l) (a5 : Sm s₀ s') (a6 : Led g L (mp b) s'.heap (l ++ p)) : ForJ w g A target it L S Ps J s₀ n s'
/-- a for loop, by what holds between its turns -/
theorem forY {target : Expr} {body : List Stmt} {env : Env} {it : Value} {L : Addr} {S : Lgr} {Ps : List (Value → Lgr → Prop)} {s₀ : Shared} {R : Result → Shared → Prop} (J : Nat → List (Str × Value) → Lgr → Prop)
    (hS : ∀ i b l, J i b l → ∀ e ∈ S, e ∈ l)
    (turn : ∀ i P v q b l s t, Ps[i]? = some P → P v q → J i b l → Sm s₀ s → Led g L (mp b) s.heap (q ++ (l ++ t)) → wpAny (model Pg w) A (assign target env v) (fun _ s₂ => wpAny (model Pg w) A (execs body env) (fun f s₃ => match f with
      | .next | .cont => ∃ b' l', J (i + 1) b' l' ∧ Sm s₀ s₃ ∧ Led g L (mp b') s₃.heap (l' ++ t)
      | .brk => R (.ok .next) s₃
      | .ret v => R (.ok (.ret v)) s₃) NoE s₂) NoE s)
    (done : ∀ b l s t, J Ps.length b l → Sm s₀ s → Led g L (mp b) s.heap (l ++ t) → R (.ok .next) s)
    {p l : Lgr} {b : List (Str × Value)} {s : Shared} (Y : Yields w g A target it S Ps p) (hJ : J 0 b l) (hs : Sm s₀ s) (D : Led g L (mp b) s.heap (l ++ p)) : codeAny (model Pg w) A (.forLoop target it body [] env) R s := by
  refine codeAny_forLoop_any (fun n s' => ForJ w g A target it L S Ps J s₀ n s') ?_ Ps.length ⟨0, b, l, p, Nat.zero_le _, rfl, Y, hJ, hs, D⟩
  rintro n s' ⟨i, b, l, p, hi, rfl, Y, hJ, hs, D⟩
  obtain ⟨oL, H, back⟩ := (D.perm List.perm_append_comm).hp
  have H₁ : Hp g s'.heap (p ++ ((L, oL) :: l)) := H.perm List.perm_middle.symm
  have hS' : ∀ e ∈ S, e ∈ (L, oL) :: l := fun e he => List.mem_cons_of_mem _ (hS i b l hJ e he)
  cases hd : Ps.drop i with
  | nil =>
    rw [hd] at Y
    have hlen : i = Ps.length := by
      have := congrArg List.length hd
      simp at this; omega
    subst hlen
    refine wpAny_mono (Y s' _ (fun r s₁ => match r with | none => R (.ok .next) s₁ | some _ => False) H₁ hS' fun h' tk p' H' => ?_) (fun r s₁ hr => ?_) fun _ _ e => e.elim
    · exact done b l _ p' hJ (hs.go h' tk) ((back h' (p' ++ l) (H'.perm List.perm_middle)).perm List.perm_append_comm)
    · cases r with
      | none => exact wpAny_execs_nil hr
      | some v => exact wpAny_mono hr (fun _ _ f => f.elim) fun _ _ e => e.elim
  | cons P r =>
    rw [hd] at Y
    have hlt : i < Ps.length := by
      have := congrArg List.length hd
      simp at this; omega
    have hP : Ps[i]? = some P := by
      have := congrArg (fun l => l[0]?) hd
      simpa using this
    have hr' : Ps.drop (i + 1) = r := by
      have := congrArg List.tail hd
      simpa using this
    refine wpAny_mono (Y s' _ (fun r s₁ => match r with
      | none => False
      | some v => wpAny (model Pg w) A (assign target env v) (fun _ s₂ => wpAny (model Pg w) A (execs body env) (fun f s₃ => match f with
          | .next | .cont => ∃ m, m < Ps.length - i ∧ ForJ w g A target it L S Ps J s₀ m s₃
          | .brk => R (.ok .next) s₃
          | .ret v => R (.ok (.ret v)) s₃) NoE s₂) NoE s₁) H₁ hS' fun v q h' tk p' hPv Y' H' => ?_) (fun r s₁ hr => ?_) fun _ _ e => e.elim
    · have D' : Led g L (mp b) h' (q ++ (l ++ p')) := by
        refine (back h' (q ++ (p' ++ l)) (H'.perm ?_)).perm (List.Perm.append_left q List.perm_append_comm)
        refine ((List.Perm.append_left q List.perm_middle).trans List.perm_middle)
      refine wpAny_mono (turn i P v q b l _ p' hP hPv hJ (hs.go h' tk) D') (fun _ s₂ h₂ => wpAny_mono h₂ (fun f s₃ h₃ => ?_) fun _ _ e => e) fun _ _ e => e
      cases f with
      | ret v => exact h₃
      | brk => exact h₃
      | next => obtain ⟨b', l', hJ', hs', D₃⟩ := h₃; exact ⟨Ps.length - (i + 1), sub_step hlt, i + 1, b', l', p', hlt, rfl, hr' ▸ Y', hJ', hs', D₃⟩
      | cont => obtain ⟨b', l', hJ', hs', D₃⟩ := h₃; exact ⟨Ps.length - (i + 1), sub_step hlt, i + 1, b', l', p', hlt, rfl, hr' ▸ Y', hJ', hs', D₃⟩
    · cases r with
      | none => exact hr.elim
      | some v =>
        refine wpAny_mono hr (fun _ s₂ h₂ => noE (wpAny_mono h₂ (fun _ s₃ h₃ => noE (wpAny_mono h₃ (fun f s₄ h₄ => ?_) fun _ _ e => e)) fun _ _ e => e)) fun _ _ e => e.elim
        cases f <;> exact h₄

/-- a while loop, by what holds between its turns and a measure -/
theorem whileY {test : Expr} {body : List Stmt} {env : Env} {R : Result → Shared → Prop} (J : Nat → Shared → Prop)
    (turn : ∀ n s, J n s → wpAny (model Pg w) A (isTrue test env (eval test env)) (fun b s₂ =>
      if b then wpAny (model Pg w) A (execs body env) (fun f s₃ => match f with
        | .next | .cont => ∃ m, m < n ∧ J m s₃
        | .brk => R (.ok .next) s₃
        | .ret v => R (.ok (.ret v)) s₃) NoE s₂
      else R (.ok .next) s₂) NoE s)
    {n : Nat} {s : Shared} (h : J n s) : codeAny (model Pg w) A (.whileLoop test body [] env) R s := by
  refine codeAny_whileLoop J (fun n s hJ => wpAny_mono (turn n s hJ) (fun b s₂ h₂ => ?_) fun _ _ e => e.elim) n h
  cases b with
  | true => exact noE h₂
  | false => exact wpAny_execs_nil h₂
theorem forS {target iter : Expr} {body : List Stmt} {env : Env} {pos : Pos} {s : Shared} {E : Value → Shared → Prop} {Q : Flow → Shared → Prop}
    (h : wpAny (model Pg w) A (eval iter env) (fun x s₁ => wpAny (model Pg w) A (pyIter x) (fun it s₂ => codeAny (model Pg w) A (.forLoop target it body [] env) (fun r s' => match r with | .ok f => Q f s' | .error _ => False) s₂) NoE s₁) NoE s)
    (hs : ∀ x, foldedSetIterable iter env x = pure x) : wpAny (model Pg w) A (exec (.For target iter body [] pos) env) Q E s := by
  refine wpAny_For (wpAny_mono h (fun x s₁ h₁ => wpAny_mono h₁ (fun it s₂ h₂ => codeAny_mono h₂ fun r s' hr => ?_) fun _ _ e => e.elim) fun _ _ e => e.elim) hs
  cases r with
  | ok f => exact hr
  | error e => exact hr.elim
theorem whileS {test : Expr} {body : List Stmt} {env : Env} {pos : Pos} {s : Shared} {E : Value → Shared → Prop} {Q : Flow → Shared → Prop}
    (h : codeAny (model Pg w) A (.whileLoop test body [] env) (fun r s' => match r with | .ok f => Q f s' | .error _ => False) s) : wpAny (model Pg w) A (exec (.While test body [] pos) env) Q E s := by
  refine wpAny_While (codeAny_mono h fun r s' hr => ?_)
  cases r with
  | ok f => exact hr
  | error e => exact hr.elim
end
-- M4
theorem Led.drop {g h h' : Heap} {L C : Addr} {m : Str → Option Value} {oC : Obj} {l : Lgr} (D : Led g L m h ((C, oC) :: l)) (hs : Heap.SameBut C h h') : Led g L m h' l := by
  have z := D.nw _ (.head _)
  have nd := D.nd
  rw [List.map_cons, List.nodup_cons] at nd
  refine ⟨D.ns.sameBut hs (Ne.symm z.2.1), fun b o e => (hs.2 b (fun q => by rw [q, z.2.2] at e; cases e)).trans (D.keep b o e), D.gL, fun p hp => ?_, nd.2⟩
  have y := D.nw p (.tail _ hp)
  exact ⟨(hs.2 _ (fun q => nd.1 (by rw [← q]; exact List.mem_map_of_mem (f := (·.1)) hp))).trans y.1, y.2⟩

noncomputable abbrev tests (ifs : List Expr) (env : Env) : Sem Bool := forIn ifs true fun c r => if r = true then do let ok ← isTrue c env (eval c env); pure (ForInStep.yield ok) else pure (ForInStep.yield r)

section
variable {w : World} {g : Heap} {A : Around}

/-- a comprehension's turn -/
noncomputable def CompTurn (w : World) (g : Heap) (A : Around) (x : Str) (px : Pos) (ifs : List Expr) (elt : Expr) (cenv : Env) (C : Addr) (J : Nat → List Value → Lgr → Prop) (s₀ : Shared) (i : Nat) (P : Value → Lgr → Prop) : Prop :=
  ∀ v q b ys l s t, P v q → J i ys l → Sm s₀ s → Led g C (mp b) s.heap (q ++ (l ++ t)) → wpAny (model Pg w) A (assign (.Name x px) cenv v) (fun _ s₂ => wpAny (model Pg w) A (tests ifs cenv) (fun ok s₃ =>
    if ok = true then wpAny (model Pg w) A (eval elt cenv) (fun y s₄ => ∃ b' l', J (i + 1) (ys ++ [y]) l' ∧ Sm s₀ s₄ ∧ Led g C (mp b') s₄.heap (l' ++ t)) NoE s₃
    else ∃ b' l', J (i + 1) ys l' ∧ Sm s₀ s₃ ∧ Led g C (mp b') s₃.heap (l' ++ t)) NoE s₂) NoE s

/-- what holds between a comprehension's turns -/
inductive CompJ (w : World) (g : Heap) (A : Around) (x : Str) (px : Pos) (it : Value) (S : Lgr) (Ps : List (Value → Lgr → Prop)) (C Dn : Addr) (J : Nat → List Value → Lgr → Prop) (s₀ : Shared) (n : Nat) (s' : Shared) : Prop
  | mk (i : Nat) (b : List (Str × Value)) (ys : List Value) (k : Nat) (l p : Lgr) (a1 : i ≤ Ps.length) (a2 : n = Ps.length - i) (a3 : Yields w g A (.Name x px) it S (Ps.drop i) p) (a4 : J i ys l) (a5 : Sm s₀ s') (a6 : Led g C (mp b) s'.heap ((Dn, listOf ys.toArray k) :: (l ++ p))) : CompJ w g A x px it S Ps C Dn J s₀ n s'
theorem compY {elt iter : Expr} {x : Str} {px : Pos} {ifs : List Expr} {scope : Scope} {pos : Pos} {cenv : Env} {it : Value} {C Dn : Addr} {S : Lgr} {Ps : List (Value → Lgr → Prop)} {s₀ : Shared} {R : Result → Shared → Prop} (J : Nat → List Value → Lgr → Prop)
    (hJ : ∀ i ys l, J i ys l → ys.length ≤ i ∧ ∀ e ∈ S, e ∈ l) (hlen : Ps.length ≤ 1000)
    (turn : ∀ i P, Ps[i]? = some P → CompTurn w g A x px ifs elt cenv C J s₀ i P)
    (done : ∀ b ys k l s t, J Ps.length ys l → Sm s₀ s → Led g C (mp b) s.heap ((Dn, listOf ys.toArray k) :: (l ++ t)) → R (.ok .next) s)
    {p l : Lgr} {b : List (Str × Value)} {s : Shared} {k : Nat} (Y : Yields w g A (.Name x px) it S Ps p) (hJ0 : J 0 [] l) (hs : Sm s₀ s) (D : Led g C (mp b) s.heap ((Dn, listOf #[] k) :: (l ++ p))) :
    codeAny (model Pg w) A (.compLoop (.ListComp elt [⟨.Name x px, iter, ifs, 0⟩] scope pos) 0 it (.ref Dn) cenv) R s := by
  refine codeAny_compLoop_tests (fun n s' => CompJ w g A x px it S Ps C Dn J s₀ n s') ?_ Ps.length
    ⟨0, b, [], k, l, p, Nat.zero_le _, rfl, Y, hJ0, hs, D⟩ (fun _ => rfl)
  rintro n s' ⟨i, b, ys, k, l, p, hi, rfl, Y, hJi, hs, D⟩
  have pm : ((Dn, listOf ys.toArray k) :: (l ++ p)).Perm (p ++ ((Dn, listOf ys.toArray k) :: l)) := (List.Perm.cons _ List.perm_append_comm).trans List.perm_middle.symm
  obtain ⟨oC, H, back⟩ := (D.perm pm).hp
  have H₁ : Hp g s'.heap (p ++ ((C, oC) :: (Dn, listOf ys.toArray k) :: l)) := H.perm List.perm_middle.symm
  have hS' : ∀ e ∈ S, e ∈ (C, oC) :: (Dn, listOf ys.toArray k) :: l := fun e he => List.mem_cons_of_mem _ (List.mem_cons_of_mem _ ((hJ i ys l hJi).2 e he))
  cases hd : Ps.drop i with
  | nil =>
    rw [hd] at Y
    have hlen : i = Ps.length := by
      have := congrArg List.length hd
      simp at this; omega
    refine wpAny_mono (Y s' _ (fun r s₁ => match r with | none => R (.ok .next) s₁ | some v => wpAny (model Pg w) A (assign (.Name x px) cenv v) (fun _ s₂ => wpAny (model Pg w) A (tests ifs cenv) (fun ok s₃ =>
            if ok = true then wpAny (model Pg w) A (eval elt cenv) (fun y s₄ =>
              wpAny (model Pg w) A (call (.builtin "list.append") [.ref Dn, y]) (fun _ s₅ => ∃ m, m < Ps.length - i ∧ CompJ w g A x px it S Ps C Dn J s₀ m s₅) NoE s₄) NoE s₃
            else ∃ m, m < Ps.length - i ∧ CompJ w g A x px it S Ps C Dn J s₀ m s₃) NoE s₂) NoE s₁) H₁ hS' fun h' tk p' H' => ?_) (fun r s₁ hr => ?_) fun _ _ e => e.elim
    · exact done b ys k l _ p' (hlen ▸ hJi) (hs.go h' tk) ((back h' (p' ++ ((Dn, listOf ys.toArray k) :: l)) (H'.perm List.perm_middle)).perm (List.perm_middle.trans (List.Perm.cons _ List.perm_append_comm)))
    · cases r with
      | none => exact hr
      | some v =>
        have hr' : wpAny (model Pg w) A (pure ()) (fun _ s₁ => wpAny (model Pg w) A (assign (.Name x px) cenv v) (fun _ s₂ => wpAny (model Pg w) A (tests ifs cenv) (fun ok s₃ =>
            if ok = true then wpAny (model Pg w) A (eval elt cenv) (fun y s₄ =>
              wpAny (model Pg w) A (call (.builtin "list.append") [.ref Dn, y]) (fun _ s₅ => ∃ m, m < Ps.length - i ∧ CompJ w g A x px it S Ps C Dn J s₀ m s₅) NoE s₄) NoE s₃
            else ∃ m, m < Ps.length - i ∧ CompJ w g A x px it S Ps C Dn J s₀ m s₃) NoE s₂) NoE s₁) NoE s₁ := hr
        have hr2 : wpAny (model Pg w) A (assign (.Name x px) cenv v) (fun _ s₂ => wpAny (model Pg w) A (tests ifs cenv) (fun ok s₃ =>
            if ok = true then wpAny (model Pg w) A (eval elt cenv) (fun y s₄ =>
              wpAny (model Pg w) A (call (.builtin "list.append") [.ref Dn, y]) (fun _ s₅ => ∃ m, m < Ps.length - i ∧ CompJ w g A x px it S Ps C Dn J s₀ m s₅) NoE s₄) NoE s₃
            else ∃ m, m < Ps.length - i ∧ CompJ w g A x px it S Ps C Dn J s₀ m s₃) NoE s₂) NoE s₁ := fun Γ p hΓ => hr' Γ p hΓ Γ p hΓ
        refine noE (wpAny_mono hr2 (fun _ s₂ h₂ => noE (wpAny_mono h₂ (fun ok s₃ h₃ => ?_) fun _ _ e => e)) fun _ _ e => e)
        cases ok with
        | false => exact h₃
        | true => exact noE (wpAny_mono h₃ (fun y s₄ h₄ => noE h₄) fun _ _ e => e)
  | cons P r =>
    rw [hd] at Y
    have hlt : i < Ps.length := by
      have := congrArg List.length hd
      simp at this; omega
    have hP : Ps[i]? = some P := by
      have := congrArg (fun l => l[0]?) hd
      simpa using this
    have hr' : Ps.drop (i + 1) = r := by
      have := congrArg List.tail hd
      simpa using this
    refine wpAny_mono (Y s' _ (fun r s₁ => match r with | none => R (.ok .next) s₁ | some v => wpAny (model Pg w) A (assign (.Name x px) cenv v) (fun _ s₂ => wpAny (model Pg w) A (tests ifs cenv) (fun ok s₃ =>
            if ok = true then wpAny (model Pg w) A (eval elt cenv) (fun y s₄ =>
              wpAny (model Pg w) A (call (.builtin "list.append") [.ref Dn, y]) (fun _ s₅ => ∃ m, m < Ps.length - i ∧ CompJ w g A x px it S Ps C Dn J s₀ m s₅) NoE s₄) NoE s₃
            else ∃ m, m < Ps.length - i ∧ CompJ w g A x px it S Ps C Dn J s₀ m s₃) NoE s₂) NoE s₁) H₁ hS' fun v q h' tk p' hPv Y' H' => ?_) (fun r s₁ hr => ?_) fun _ _ e => e.elim
    · have D' : Led g C (mp b) h' (q ++ (l ++ ((Dn, listOf ys.toArray k) :: p'))) := by
        refine (back h' (q ++ (p' ++ ((Dn, listOf ys.toArray k) :: l))) (H'.perm ?_)).perm (List.Perm.append_left q ?_)
        · exact ((List.Perm.append_left q List.perm_middle).trans List.perm_middle)
        · exact List.perm_append_comm.trans ((List.perm_middle (l₁ := l) (l₂ := p') (a := (Dn, listOf ys.toArray k))).symm)
      refine wpAny_mono (turn i P hP v q b ys l _ _ hPv hJi (hs.go h' tk) D') (fun _ s₂ h₂ => wpAny_mono h₂ (fun ok s₃ h₃ => ?_) fun _ _ e => e) fun _ _ e => e
      cases ok with
      | false =>
        rw [if_neg (by decide)] at h₃ ⊢
        obtain ⟨b', l', hJ', hs', D₃⟩ := h₃
        exact ⟨Ps.length - (i + 1), sub_step hlt, i + 1, b', ys, k, l', p', hlt, rfl, hr' ▸ Y', hJ', hs', D₃.perm List.perm_middle⟩
      | true =>
        rw [if_pos rfl] at h₃ ⊢
        refine wpAny_mono h₃ (fun y s₄ h₄ => ?_) fun _ _ e => e
        obtain ⟨b', l', hJ', hs', D₄⟩ := h₄
        have D₄' := D₄.perm List.perm_middle
        have hsz : ys.toArray.size ≤ sizeLine := by
          have := (hJ _ _ _ hJi).1
          have : ys.length ≤ 1000 := by omega
          simp only [List.size_toArray, sizeLine_eq]
          omega
        refine append_at (hsz := hsz) (D₄'.at (i := 0) rfl) fun h₅ hs₅ ho₅ => ?_
        have D₅ := D₄'.put (i := 0) rfl hs₅ ho₅
        rw [List.set_cons_zero, List.push_toArray] at D₅
        exact ⟨Ps.length - (i + 1), sub_step hlt, i + 1, b', ys ++ [y], k + 1, l', p', hlt, rfl, hr' ▸ Y', hJ', hs'.go h₅ s₄.toks, D₅⟩
    · cases r with
      | none => exact hr
      | some v =>
        have hr' : wpAny (model Pg w) A (pure ()) (fun _ s₁ => wpAny (model Pg w) A (assign (.Name x px) cenv v) (fun _ s₂ => wpAny (model Pg w) A (tests ifs cenv) (fun ok s₃ =>
            if ok = true then wpAny (model Pg w) A (eval elt cenv) (fun y s₄ =>
              wpAny (model Pg w) A (call (.builtin "list.append") [.ref Dn, y]) (fun _ s₅ => ∃ m, m < Ps.length - i ∧ CompJ w g A x px it S Ps C Dn J s₀ m s₅) NoE s₄) NoE s₃
            else ∃ m, m < Ps.length - i ∧ CompJ w g A x px it S Ps C Dn J s₀ m s₃) NoE s₂) NoE s₁) NoE s₁ := hr
        have hr2 : wpAny (model Pg w) A (assign (.Name x px) cenv v) (fun _ s₂ => wpAny (model Pg w) A (tests ifs cenv) (fun ok s₃ =>
            if ok = true then wpAny (model Pg w) A (eval elt cenv) (fun y s₄ =>
              wpAny (model Pg w) A (call (.builtin "list.append") [.ref Dn, y]) (fun _ s₅ => ∃ m, m < Ps.length - i ∧ CompJ w g A x px it S Ps C Dn J s₀ m s₅) NoE s₄) NoE s₃
            else ∃ m, m < Ps.length - i ∧ CompJ w g A x px it S Ps C Dn J s₀ m s₃) NoE s₂) NoE s₁ := fun Γ p hΓ => hr' Γ p hΓ Γ p hΓ
        refine noE (wpAny_mono hr2 (fun _ s₂ h₂ => noE (wpAny_mono h₂ (fun ok s₃ h₃ => ?_) fun _ _ e => e)) fun _ _ e => e)
        cases ok with
        | false => exact h₃
        | true => exact noE (wpAny_mono h₃ (fun y s₄ h₄ => noE h₄) fun _ _ e => e)

theorem compBlock {elt iter : Expr} {x : Str} {px : Pos} {ifs : List Expr} {scope : Scope} {pos : Pos} {env : Env} {it : Value} {L : Addr} {m : Str → Option Value} {S : Lgr} {Ps : List (Value → Lgr → Prop)} {s₂ : Shared} {cl : List (Str × Addr)} {RR : Value → Addr → Result → Shared → Prop}
    (J : Nat → List Value → Lgr → Prop) (hJ : ∀ i ys l, J i ys l → ys.length ≤ i ∧ ∀ e ∈ S, e ∈ l) (hlen : Ps.length ≤ 1000)
    (hcell : ∀ y ∈ scope.names, y.2 ≠ .cell) (hkind : scope.kind = .function)
    (turn : ∀ C i P, Ps[i]? = some P → CompTurn w g A x px ifs elt (compEnvC scope cl C env) C J s₂ i P)
    (hRR : ∀ Dn C oC m' ys k l s', J Ps.length ys l → Sm s₂ s' → s'.heap.Ns C m' → Led g L m s'.heap ((Dn, listOf ys.toArray k) :: (C, oC) :: l) → RR (.ref Dn) C (.ok .next) s')
    {p l : Lgr} (Y : Yields w g A (.Name x px) it S Ps p) (Sf : SelfIt w g A it S p) (hJ0 : J 0 [] l) (D : Led g L m s₂.heap (l ++ p)) :
    wpAny (model Pg w) A (newList []) (fun acc s₃ => wpAny (model Pg w) A (newFunctionEnv scope env.globals cl [] env.qual none .none (some env)) (fun cenv s₄ =>
      codeAny (model Pg w) A (.compStart (.ListComp elt [⟨.Name x px, iter, ifs, 0⟩] scope pos) 0 it acc { cenv with scope := relabel scope env }) (RR acc cenv.locals) s₄) NoE s₃) NoE s₂ := by
  have D1 := D.push (listOf #[] 0)
  refine wpAny_newObj_type (wpAny_newFunctionEnv hcell (by intro y hy; simp at hy) (fun h₁ hns₁ hsb₁ => ?_) hkind)
  dsimp only at hns₁ hsb₁ ⊢
  have D2 : Led g L m (s₂.heap.push (listOf #[] 0)) ((s₂.heap.objs.size, listOf #[] 0) :: (l ++ p)) := D1
  revert hns₁ hsb₁ D2
  generalize hH2 : s₂.heap.push { cls := .type "list", dict := none, data := .seq ([] : List Value).toArray } = H2
  generalize s₂.heap.objs.size = Dn
  intro hns₁ hsb₁ D2
  have D2 : Led g L m H2 ((Dn, listOf #[] 0) :: (l ++ p)) := hH2 ▸ D2
  obtain ⟨oL, H, back⟩ := D2.hp
  have hk : ∀ b o, H2.get? b = some o → h₁.get? b = some o := fun b o e => hsb₁.extBut b o (Nat.ne_of_lt (Heap.lt_size e)) (Heap.get?_push_of_some _ e)
  have pm : ((L, oL) :: (Dn, listOf #[] 0) :: (l ++ p)).Perm ((Dn, listOf #[] 0) :: ((l ++ [(L, oL)]) ++ p)) := by
    refine (List.Perm.swap _ _ _).trans (List.Perm.cons _ ?_)
    rw [List.append_assoc]
    exact (List.perm_middle (l₁ := l) (l₂ := p) (a := (L, oL))).symm
  have DC : Led g H2.objs.size (mp []) h₁ ((Dn, listOf #[] 0) :: ((l ++ [(L, oL)]) ++ p)) := (H.perm pm).led hk hns₁
  have loop : codeAny (model Pg w) A (.compLoop (.ListComp elt [⟨.Name x px, iter, ifs, 0⟩] scope pos) 0 it (.ref Dn) (compEnvC scope cl H2.objs.size env)) (RR (.ref Dn) H2.objs.size) { s₂ with heap := h₁, toks := s₂.toks + ([] : List (Str × Value)).length } := by
    refine compY (S := S) (Ps := Ps) (s₀ := s₂) (fun i ys l' => ∃ l, l' = l ++ [(L, oL)] ∧ J i ys l) (fun i ys l' hJ' => ?_) hlen (fun i P hP => ?_) (fun b ys k l' s t hJ' hs DD => ?_) Y ⟨l, rfl, hJ0⟩ ⟨h₁, _, rfl⟩ DC
    · obtain ⟨l, rfl, hj⟩ := hJ'
      exact ⟨(hJ i ys l hj).1, fun e he => List.mem_append_left _ ((hJ i ys l hj).2 e he)⟩
    · rintro v q b ys l' s t hv ⟨l, rfl, hj⟩ hs DD
      rw [List.append_assoc] at DD
      refine wpAny_mono (turn _ i P hP v q b ys l s ([(L, oL)] ++ t) hv hj hs DD) (fun _ s₂ h₂ => wpAny_mono h₂ (fun ok s₃ h₃ => ?_) fun _ _ e => e) fun _ _ e => e
      cases ok with
      | false => rw [if_neg (by decide)] at h₃ ⊢; obtain ⟨b', l', hJ', hs', D₃⟩ := h₃; exact ⟨b', _, ⟨l', rfl, hJ'⟩, hs', by rw [List.append_assoc]; exact D₃⟩
      | true =>
        rw [if_pos rfl] at h₃ ⊢
        refine wpAny_mono h₃ (fun y s₄ h₄ => ?_) fun _ _ e => e
        obtain ⟨b', l', hJ', hs', D₄⟩ := h₄
        exact ⟨b', _, ⟨l', rfl, hJ'⟩, hs', by rw [List.append_assoc]; exact D₄⟩
    · obtain ⟨l, rfl, hj⟩ := hJ'
      obtain ⟨oC, HC, backC⟩ := DD.hp
      refine hRR Dn _ oC (mp b) ys k l s hj hs DD.ns (back _ _ ?_)
      have hsub : ((L, oL) :: (Dn, listOf ys.toArray k) :: (H2.objs.size, oC) :: l).Sublist ((L, oL) :: (Dn, listOf ys.toArray k) :: (H2.objs.size, oC) :: (l ++ t)) := by
        refine List.Sublist.cons_cons _ (List.Sublist.cons_cons _ (List.Sublist.cons_cons _ (List.sublist_append_left l t)))
      refine (HC.perm ?_).sub hsub
      refine (List.Perm.swap _ _ _).trans ?_
      rw [List.append_assoc]
      refine (List.Perm.cons _ (List.Perm.cons _ List.perm_middle)).trans ?_
      refine (List.Perm.cons _ (List.Perm.swap _ _ _)).trans ?_
      exact List.Perm.swap _ _ _
  obtain ⟨oC, HC, _⟩ := DC.hp
  have Hs : Hp g h₁ (p ++ ((H2.objs.size, oC) :: (Dn, listOf #[] 0) :: (l ++ [(L, oL)]))) := by
    exact HC.perm ((List.Perm.cons _ ((List.Perm.cons _ List.perm_append_comm).trans List.perm_middle.symm)).trans List.perm_middle.symm)
  exact codeAny_compStart_list loop (Sf _ _ _ _ Hs (fun e he => List.mem_cons_of_mem _ (List.mem_cons_of_mem _ (List.mem_append_left _ ((hJ 0 [] l hJ0).2 e he)))) loop)

/-- what a comprehension needs behind its source's iterator -/
noncomputable def CompAt (w : World) (g : Heap) (A : Around) (x : Str) (px : Pos) (ifs : List Expr) (elt : Expr) (scope : Scope) (cl : List (Str × Addr)) (env : Env) (Q : Value → Shared → Prop) (it : Value) (s₂ : Shared) : Prop :=
  ∃ (S p l : Lgr) (Ps : List (Value → Lgr → Prop)) (L : Addr) (m : Str → Option Value) (J : Nat → List Value → Lgr → Prop), (∀ i ys l, J i ys l → ys.length ≤ i ∧ ∀ e ∈ S, e ∈ l) ∧ Ps.length ≤ 1000 ∧
    Yields w g A (.Name x px) it S Ps p ∧ SelfIt w g A it S p ∧ J 0 [] l ∧ Led g L m s₂.heap (l ++ p) ∧
    (∀ C i P, Ps[i]? = some P → CompTurn w g A x px ifs elt (compEnvC scope cl C env) C J s₂ i P) ∧
    (∀ Dn ys k l s', J Ps.length ys l → Sm s₂ s' → Led g L m s'.heap ((Dn, listOf ys.toArray k) :: l) → Q (.ref Dn) s')

theorem compE {elt iter : Expr} {x : Str} {px : Pos} {ifs : List Expr} {scope : Scope} {pos : Pos} {env : Env} {s : Shared} {cl : List (Str × Addr)} {Q E : Value → Shared → Prop}
    (hclos : closureFor scope env = pure cl) (hcell : ∀ y ∈ scope.names, y.2 ≠ .cell) (hkind : scope.kind = .function) (hnames : ∀ y ∈ scope.names, y.2 = .local → scope.names.lookup y.1 = some .local)
    (hs : ∀ x, foldedSetIterable iter env x = pure x)
    (h : wpAny (model Pg w) A (eval iter env) (fun xv s₁ => wpAny (model Pg w) A (pyIter xv) (fun it s₂ => CompAt w g A x px ifs elt scope cl env Q it s₂) NoE s₁) NoE s) :
    wpAny (model Pg w) A (eval (.ListComp elt [⟨.Name x px, iter, ifs, 0⟩] scope pos) env) Q E s := by
  refine noE ?_
  rw [eval_ListComp]
  refine wpAny_comprehension_free (use := none) rfl hs hclos hkind hnames (wpAny_mono h (fun xv s₁ h₁ => wpAny_mono h₁ (fun it s₂ h₂ => ?_) fun _ _ e => e) fun _ _ e => e)
  obtain ⟨S, p, l, Ps, L, m, J, hJ, hlen, Y, Sf, hJ0, D, turn, done⟩ := h₂
  refine compBlock (RR := fun acc C => compPost (model Pg w) A NoE none Q acc C) J hJ hlen hcell hkind turn (fun Dn C oC m' ys k l s' hj hs' hn D' => ?_) Y Sf hJ0 D
  exact ⟨m', hn, fun h' hsb => done Dn ys k l _ hj (hs'.go h' s'.toks) ((D'.perm (List.Perm.swap _ _ _)).drop hsb)⟩

/-- x = [..], where the store comes ahead of the block's end -/
theorem compA {elt iter : Expr} {x y : Str} {px py : Pos} {ifs : List Expr} {scope : Scope} {pos spos : Pos} {env : Env} {s : Shared} {cl : List (Str × Addr)} {Q : Flow → Shared → Prop} {E : Value → Shared → Prop} {L : Addr}
    (hsw : swapsWith (.ListComp elt [⟨.Name x px, iter, ifs, 0⟩] scope pos) (some (.Name y py)) spos.line env = pure true)
    (hclos : closureFor scope env = pure cl) (hcell : ∀ y ∈ scope.names, y.2 ≠ .cell) (hkind : scope.kind = .function) (hnames : ∀ y ∈ scope.names, y.2 = .local → scope.names.lookup y.1 = some .local)
    (hs : ∀ x, foldedSetIterable iter env x = pure x) (hL : env.locals = L) (hk : env.scope.kind = .function) (hy : env.kindOf y = some .local)
    (h : wpAny (model Pg w) A (eval iter env) (fun xv s₁ => wpAny (model Pg w) A (pyIter xv) (fun it s₂ =>
      ∃ (S p l : Lgr) (Ps : List (Value → Lgr → Prop)) (b : List (Str × Value)) (J : Nat → List Value → Lgr → Prop), (∀ i ys l, J i ys l → ys.length ≤ i ∧ ∀ e ∈ S, e ∈ l) ∧ Ps.length ≤ 1000 ∧
        Yields w g A (.Name x px) it S Ps p ∧ SelfIt w g A it S p ∧ J 0 [] l ∧ Led g L (mp b) s₂.heap (l ++ p) ∧
        (∀ C i P, Ps[i]? = some P → CompTurn w g A x px ifs elt (compEnvC scope cl C env) C J s₂ i P) ∧
        (∀ Dn ys k l s', J Ps.length ys l → Sm s₂ s' → Led g L (mp ((y, .ref Dn) :: b)) s'.heap ((Dn, listOf ys.toArray k) :: l) → Q .next s')) NoE s₁) NoE s) :
    wpAny (model Pg w) A (exec (.Assign [.Name y py] (.ListComp elt [⟨.Name x px, iter, ifs, 0⟩] scope pos) spos) env) Q E s := by
  refine noE ?_
  rw [exec_Assign_Name_used _ _ _ _ hsw]
  refine wpAny_bind (wpAny_standAt (wpAny_bind ?_))
  show wpAny _ A (do let _ ← comprehension (.ListComp elt [⟨.Name x px, iter, ifs, 0⟩] scope pos) scope env _ (newList []) false (eval iter env) (some (assign (.Name y py) env))) _ _ s
  refine wpAny_bind (wpAny_mono (wpAny_comprehension_free (use := some (assign (.Name y py) env)) (Q := fun _ s' => Q .next s') rfl hs hclos hkind hnames
    (wpAny_mono h (fun xv s₁ h₁ => wpAny_mono h₁ (fun it s₂ h₂ => ?_) fun _ _ e => e) fun _ _ e => e)) (fun _ s' hq => wpAny_pure (wpAny_pure hq)) fun _ _ e => e)
  obtain ⟨S, p, l, Ps, b, J, hJ, hlen, Y, Sf, hJ0, D, turn, done⟩ := h₂
  refine compBlock (RR := fun acc C => compPost (model Pg w) A NoE (some (assign (.Name y py) env)) (fun _ s' => Q .next s') acc C) J hJ hlen hcell hkind turn (fun Dn C oC m' ys k l s' hj hs' hn D' => ?_) Y Sf hJ0 D
  show wpAny _ A (assign (.Name y py) env (.ref Dn)) _ _ _
  refine wpAny_assign_Name (stL D' hL hk hy fun h' D'' => ?_)
  have hC := (D'.nw (C, oC) (.tail _ (.head _)))
  have hns : h'.Ns C m' := by
    obtain ⟨o, es, ep, e1, r⟩ := hn
    have e2 := hC.1
    rw [e1] at e2
    cases e2
    exact ⟨_, es, ep, (D''.nw (C, oC) (.tail _ (.head _))).1, r⟩
  exact ⟨m', hns, fun h'' hsb => done Dn ys k l _ hj ((hs'.go h' _).go h'' _) ((D''.perm (List.Perm.swap _ _ _)).drop hsb)⟩
end
-- M5
/-- n items, the i-th as f says -/
noncomputable abbrev pl (n : Nat) (f : Nat → Value → Lgr → Prop) : List (Value → Lgr → Prop) := (List.range' 0 n).map f
theorem pl_get {n : Nat} {f : Nat → Value → Lgr → Prop} {i : Nat} {P : Value → Lgr → Prop} (h : (pl n f)[i]? = some P) : i < n ∧ f i = P := by
  obtain ⟨hi, e⟩ := List.getElem?_eq_some_iff.mp h
  have hi' : i < n := by simpa using hi
  refine ⟨hi', ?_⟩
  rw [← e]
  simp
theorem pl_len (n : Nat) (f : Nat → Value → Lgr → Prop) : (pl n f).length = n := by simp

section
variable {w : World} {g : Heap} {A : Around}

theorem forN {target : Expr} {body : List Stmt} {env : Env} {it : Value} {L : Addr} {S : Lgr} {n : Nat} {f : Nat → Value → Lgr → Prop} {s₀ : Shared} {R : Result → Shared → Prop} (J : Nat → List (Str × Value) → Lgr → Prop)
    (hS : ∀ i b l, J i b l → ∀ e ∈ S, e ∈ l)
    (turn : ∀ i v q b l s t, i < n → f i v q → J i b l → Sm s₀ s → Led g L (mp b) s.heap (q ++ (l ++ t)) → wpAny (model Pg w) A (assign target env v) (fun _ s₂ => wpAny (model Pg w) A (execs body env) (fun fl s₃ => match fl with
      | .next | .cont => ∃ b' l', J (i + 1) b' l' ∧ Sm s₀ s₃ ∧ Led g L (mp b') s₃.heap (l' ++ t)
      | .brk => R (.ok .next) s₃
      | .ret v => R (.ok (.ret v)) s₃) NoE s₂) NoE s)
    (done : ∀ b l s t, J n b l → Sm s₀ s → Led g L (mp b) s.heap (l ++ t) → R (.ok .next) s)
    {p l : Lgr} {b : List (Str × Value)} {s : Shared} (Y : Yields w g A target it S (pl n f) p) (hJ : J 0 b l) (hs : Sm s₀ s) (D : Led g L (mp b) s.heap (l ++ p)) : codeAny (model Pg w) A (.forLoop target it body [] env) R s :=
  forY J hS (fun i P v q b l s t hP hv hj hs D => by obtain ⟨hi, rfl⟩ := pl_get hP; exact turn i v q b l s t hi hv hj hs D)
    (fun b l s t hj hs D => done b l s t (by rw [pl_len] at hj; exact hj) hs D) Y hJ hs D

theorem CompAt.mk {x : Str} {px : Pos} {ifs : List Expr} {elt : Expr} {scope : Scope} {cl : List (Str × Addr)} {env : Env} {Q : Value → Shared → Prop} {it : Value} {s₂ : Shared} {S p l : Lgr} {n : Nat} {f : Nat → Value → Lgr → Prop} {L : Addr} {m : Str → Option Value}
    (J : Nat → List Value → Lgr → Prop) (hJ : ∀ i ys l, J i ys l → ys.length ≤ i ∧ ∀ e ∈ S, e ∈ l) (hn : n ≤ 1000) (Y : Yields w g A (.Name x px) it S (pl n f) p) (Sf : SelfIt w g A it S p) (h0 : J 0 [] l) (D : Led g L m s₂.heap (l ++ p))
    (turn : ∀ C i, i < n → CompTurn w g A x px ifs elt (compEnvC scope cl C env) C J s₂ i (f i))
    (done : ∀ Dn ys k l s', J n ys l → Sm s₂ s' → Led g L m s'.heap ((Dn, listOf ys.toArray k) :: l) → Q (.ref Dn) s') : CompAt w g A x px ifs elt scope cl env Q it s₂ :=
  ⟨S, p, l, pl n f, L, m, J, hJ, by rw [pl_len]; exact hn, Y, Sf, h0, D, fun C i P hP => by obtain ⟨hi, rfl⟩ := pl_get hP; exact turn C i hi, fun Dn ys k l s' hj hs D => done Dn ys k l s' (by rw [pl_len] at hj; exact hj) hs D⟩

variable {s : Shared} {L : Addr} {m : Str → Option Value} {l : Lgr} {E : Value → Shared → Prop}
/-- behind an iterator's making: its object stands last -/
noncomputable abbrev ItK (w : World) (g : Heap) (A : Around) (L : Addr) (m : Str → Option Value) (l S : Lgr) (n : Nat) (f : Nat → Value → Lgr → Prop) (s : Shared) (Q : Value → Shared → Prop) : Prop :=
  ∀ I p s', Sm s s' → Led g L m s'.heap (l ++ p) → (∀ x px, Yields w g A (.Name x px) (.ref I) S (pl n f) p) → SelfIt w g A (.ref I) S p → Q (.ref I) s'

theorem itK_of {I : Addr} {fp wr : List Addr} {n : Nat} {P : Nat → Value → Prop} {St : Nat → Heap → Prop} {S : Lgr} {o : Obj} {Q : Value → Shared → Prop} (W : Walks Pg w A I fp wr n P St) (live : ∀ i h, St i h → ∀ b ∈ fp, ∃ o, h.get? b = some o)
    (D : Led g L m s.heap l) (eI : I = s.heap.objs.size) (hwr : ∀ b ∈ wr, b = I) (hI : I ∈ fp) (hfp : ∀ b ∈ fp, b = I ∨ b ∈ S.map (·.1)) (hS : ∀ e ∈ S, e ∈ l) (hf : o.isFreed = false) (st : St 0 (s.heap.push o))
    (h : ItK w g A L m l S n (fun i v q => P i v ∧ q = []) s Q) : Q (.ref I) { s with heap := s.heap.push o } := by
  subst eI
  have D' := (D.push o hf).perm (l' := l ++ [(s.heap.objs.size, o)]) (List.perm_append_comm (l₁ := [(s.heap.objs.size, o)]))
  have hst : ∃ h₀ : Heap, (∀ e ∈ [(s.heap.objs.size, o)], h₀.get? e.1 = some e.2) ∧ (∀ e ∈ S, h₀.get? e.1 = some e.2) ∧ St 0 h₀ :=
    ⟨s.heap.push o, fun e he => (D'.nw e (List.mem_append_right _ he)).1, fun e he => (D'.nw e (List.mem_append_left _ (hS e he))).1, st⟩
  have hfp' : ∀ b ∈ fp, b ∈ [(s.heap.objs.size, o)].map (·.1) ∨ b ∈ S.map (·.1) := fun b hb => (hfp b hb).imp (fun e => by simp [e]) id
  refine h _ [(s.heap.objs.size, o)] _ ⟨_, s.toks, rfl⟩ D' (fun x px => ?_) (SelfIt.of_walks W 0 hfp' hst)
  exact Yields.of_walks W live n 0 _ (by omega) (fun b hb => by simp [hwr b hb]) (fun b hb => by simp at hb; exact hb ▸ hI) hfp' hst

theorem mem_keys {a : Addr} {o : Obj} {i : Nat} (hi : l[i]? = some (a, o)) : ∀ e ∈ [(a, o)], e ∈ l := fun e he => by
  rw [List.mem_singleton.mp he]; exact List.mem_of_getElem? hi

theorem it_list {a : Addr} {o : Obj} {vs : List Value} {k i : Nat} {Q : Value → Shared → Prop} (ar : A.handled = none) (D : Led g L m s.heap l) (hi : l[i]? = some (a, o)) (ho : o = listOf vs.toArray k)
    (h : ItK w g A L m l [(a, o)] vs.length (fun i v q => vs[i]? = some v ∧ q = []) s Q) : wpAny (model Pg w) A (pyIter (.ref a)) Q E s := by
  have hl : s.heap.IsList a vs.toArray := ⟨o, D.at hi, by rw [ho], k, by rw [ho]⟩
  have hne : a ≠ s.heap.objs.size := Nat.ne_of_lt (Heap.lt_size (D.at hi))
  refine wpAny_pyIter_list hl ?_
  have W := Walks.list (prog := Pg) (w := w) ar s.heap.objs.size a hne vs.toArray
  simp only [List.size_toArray, List.getElem?_toArray] at W
  exact itK_of W (fun i h st b hb => by
      rcases List.mem_cons.mp hb with rfl | hb
      · obtain ⟨o, ho, _⟩ := st.1; exact ⟨o, ho⟩
      · rw [List.mem_singleton.mp hb]; obtain ⟨o, ho, _⟩ := st.2; exact ⟨o, ho⟩) D rfl (fun b hb => List.mem_singleton.mp hb) (List.mem_cons_self ..) (fun b hb => by
      rcases List.mem_cons.mp hb with rfl | hb
      · exact .inl rfl
      · exact .inr (by simpa using List.mem_singleton.mp hb)) (mem_keys hi) rfl ⟨⟨_, Heap.get?_push_size _ rfl, rfl, rfl⟩, hl.at fun o e => Heap.get?_push_of_some _ e⟩ h
theorem it_tuple {a : Addr} {o : Obj} {vs : List Value} {k i : Nat} {Q : Value → Shared → Prop} (ar : A.handled = none) (D : Led g L m s.heap l) (hi : l[i]? = some (a, o)) (hc : o.cls = .type "tuple") (hd : o.data = .seq vs.toArray k)
    (h : ItK w g A L m l [(a, o)] vs.length (fun i v q => vs[i]? = some v ∧ q = []) s Q) : wpAny (model Pg w) A (pyIter (.ref a)) Q E s := by
  have hl : s.heap.IsTuple a vs.toArray := ⟨o, D.at hi, hc, k, hd⟩
  have hne : a ≠ s.heap.objs.size := Nat.ne_of_lt (Heap.lt_size (D.at hi))
  refine wpAny_pyIter_tuple hl ?_
  have W := Walks.tuple (prog := Pg) (w := w) ar s.heap.objs.size a hne vs.toArray
  simp only [List.size_toArray, List.getElem?_toArray] at W
  exact itK_of W (fun i h st b hb => by
      rcases List.mem_cons.mp hb with rfl | hb
      · obtain ⟨o, ho, _⟩ := st.1; exact ⟨o, ho⟩
      · rw [List.mem_singleton.mp hb]; obtain ⟨o, ho, _⟩ := st.2; exact ⟨o, ho⟩) D rfl (fun b hb => List.mem_singleton.mp hb) (List.mem_cons_self ..) (fun b hb => by
      rcases List.mem_cons.mp hb with rfl | hb
      · exact .inl rfl
      · exact .inr (by simpa using List.mem_singleton.mp hb)) (mem_keys hi) rfl ⟨⟨_, Heap.get?_push_size _ rfl, rfl, rfl⟩, hl.at fun o e => Heap.get?_push_of_some _ e⟩ h
theorem it_str {x : Str} {t : Tok} {Q : Value → Shared → Prop} (ar : A.handled = none) (D : Led g L m s.heap l)
    (h : ItK w g A L m l [] x.cps.size (fun i v q => (∃ c u, x.cps[i]? = some c ∧ v = .str ⟨#[c]⟩ u) ∧ q = []) s Q) : wpAny (model Pg w) A (pyIter (.str x t)) Q E s := by
  cases ha : x.cps.all (· < 128)
  · refine wpAny_pyIter_wide ha ?_
    exact itK_of (S := []) (Walks.strWide (prog := Pg) (w := w) ar s.heap.objs.size x t) (fun i h st b hb => by rw [List.mem_singleton.mp hb]; obtain ⟨o, ho, _⟩ := st; exact ⟨o, ho⟩) D rfl (fun b hb => List.mem_singleton.mp hb) (List.mem_cons_self ..)
      (fun b hb => .inl (List.mem_singleton.mp hb)) (fun e he => nomatch he) rfl ⟨_, Heap.get?_push_size _ rfl, rfl, rfl⟩ h
  · refine wpAny_pyIter_ascii ha ?_
    exact itK_of (S := []) (Walks.strAscii (prog := Pg) (w := w) ar s.heap.objs.size x t) (fun i h st b hb => by rw [List.mem_singleton.mp hb]; obtain ⟨o, ho, _⟩ := st; exact ⟨o, ho⟩) D rfl (fun b hb => List.mem_singleton.mp hb) (List.mem_cons_self ..)
      (fun b hb => .inl (List.mem_singleton.mp hb)) (fun e he => nomatch he) rfl ⟨_, Heap.get?_push_size _ rfl, rfl, rfl⟩ h
theorem it_range {r : Addr} {a b c : Int} {t u v : Tok} {n i : Nat} {Q : Value → Shared → Prop} (ar : A.handled = none) (D : Led g L m s.heap l) (hi : l[i]? = some (r, { cls := .type "range", dict := none, data := .fields #[.int a t, .int b u, .int c v], slots := #[] }))
    (hsmall : Builtin.Range.small a b c = true) (hn : Builtin.Range.rangeSize a b c = n)
    (h : ItK w g A L m l [] n (fun i v q => (∃ t, v = .int (a + i * c) t) ∧ q = []) s Q) : wpAny (model Pg w) A (pyIter (.ref r)) Q E s := by
  refine wpAny_pyIter_range (D.at hi) hsmall ?_
  rw [hn]
  exact itK_of (S := []) (Walks.range (prog := Pg) (w := w) ar s.heap.objs.size a c n) (fun i h st b hb => by rw [List.mem_singleton.mp hb]; exact ⟨_, st⟩) D rfl (fun b hb => List.mem_singleton.mp hb) (List.mem_cons_self ..)
      (fun b hb => .inl (List.mem_singleton.mp hb)) (fun e he => nomatch he) rfl (by
        have := Heap.get?_push_size s.heap (o := { cls := .type "range_iterator", data := .fields #[rawInt a, rawInt n, rawInt c] }) rfl
        show Heap.get? _ _ = _
        rw [this]; simp) h
end
-- M6
section
variable {w : World} {g : Heap} {A : Around} {s : Shared} {L : Addr} {m : Str → Option Value} {l : Lgr} {E : Value → Shared → Prop} {Q : Value → Shared → Prop} {env : Env} {pos : Pos} {f : Value} {first : List Value}
noncomputable abbrev Kept (g h : Heap) : Prop := ∀ b o, g.get? b = some o → h.get? b = some o
/-- a call of a def of the text's -/
theorem cwF {e : Expr} {rest : List Expr} (G : Gd w g) (hk : keepIn (hd.heap_1 w.params) f = true) (h : wpAny (model Pg w) A (spliced (backTo pos (starEach (e :: rest) env))) (fun vs s₁ => Kept g s₁.heap ∧ wpAny (model Pg w) A (call f (first ++ vs)) Q E s₁) E s)
    (he : starEach (e :: rest) env = (false, eval e env) :: starEach rest env) (hplain : (backTo pos (starEach rest env)).any (·.1) = false) :
    wpAny (model Pg w) A (callWith pos f first (backTo pos (starEach (e :: rest) env)) []) Q E s :=
  callWith_K (h₀ := g) G.X hk (wpAny_mono h (fun _ _ z => ⟨G.X.keeps z.1, z.2⟩) fun _ _ e => e) he hplain
theorem cwF0 (G : Gd w g) (D : Led g L m s.heap l) (hk : keepIn (hd.heap_1 w.params) f = true) (h : wpAny (model Pg w) A (call f (first ++ [])) Q E s) :
    wpAny (model Pg w) A (callWith pos f first (backTo pos (starEach [] env)) []) Q E s := callWith_K0 (G.X.keeps D.keep) hk h
theorem newL {vs : List Value} (D : Led g L m s.heap l) (h : ∀ a h', Led g L m h' ((a, listOf vs.toArray 0) :: l) → Q (.ref a) { s with heap := h' }) (hsz : vs.length ≤ sizeLine) : wpAny (model Pg w) A (newList vs) Q E s :=
  wpAny_newObj_type (h _ _ (D.push _)) (by show vs.toArray.size ≤ sizeLine; rw [List.size_toArray]; exact hsz)
noncomputable abbrev tupOf (vs : Array Value) (n : Nat) : Obj := { cls := .type "tuple", data := .seq vs n }
theorem newT {vs : List Value} (D : Led g L m s.heap l) (h : ∀ a h', Led g L m h' ((a, tupOf vs.toArray 0) :: l) → Q (.ref a) { s with heap := h' }) (hsz : vs.length ≤ sizeLine) : wpAny (model Pg w) A (newTuple vs) Q E s :=
  wpAny_newObj_type (h _ _ (D.push _)) (by show vs.toArray.size ≤ sizeLine; rw [List.size_toArray]; exact hsz)
noncomputable abbrev rangeOf (a b c : Int) (t u v : Tok) : Obj := { cls := .type "range", dict := none, data := .fields #[.int a t, .int b u, .int c v], slots := #[] }
end
theorem at0 {p : Addr × Obj} {l : Lgr} : (p :: l)[0]? = some p := rfl
theorem at1 {p : Addr × Obj} {q0 : Addr × Obj} {l : Lgr} : (q0 :: p :: l)[1]? = some p := rfl
theorem at2 {p : Addr × Obj} {q0 q1 : Addr × Obj} {l : Lgr} : (q0 :: q1 :: p :: l)[2]? = some p := rfl
theorem at3 {p : Addr × Obj} {q0 q1 q2 : Addr × Obj} {l : Lgr} : (q0 :: q1 :: q2 :: p :: l)[3]? = some p := rfl
theorem at4 {p : Addr × Obj} {q0 q1 q2 q3 : Addr × Obj} {l : Lgr} : (q0 :: q1 :: q2 :: q3 :: p :: l)[4]? = some p := rfl
theorem at5 {p : Addr × Obj} {q0 q1 q2 q3 q4 : Addr × Obj} {l : Lgr} : (q0 :: q1 :: q2 :: q3 :: q4 :: p :: l)[5]? = some p := rfl
theorem at6 {p : Addr × Obj} {q0 q1 q2 q3 q4 q5 : Addr × Obj} {l : Lgr} : (q0 :: q1 :: q2 :: q3 :: q4 :: q5 :: p :: l)[6]? = some p := rfl
theorem at7 {p : Addr × Obj} {q0 q1 q2 q3 q4 q5 q6 : Addr × Obj} {l : Lgr} : (q0 :: q1 :: q2 :: q3 :: q4 :: q5 :: q6 :: p :: l)[7]? = some p := rfl
theorem at8 {p : Addr × Obj} {q0 q1 q2 q3 q4 q5 q6 q7 : Addr × Obj} {l : Lgr} : (q0 :: q1 :: q2 :: q3 :: q4 :: q5 :: q6 :: q7 :: p :: l)[8]? = some p := rfl
theorem at9 {p : Addr × Obj} {q0 q1 q2 q3 q4 q5 q6 q7 q8 : Addr × Obj} {l : Lgr} : (q0 :: q1 :: q2 :: q3 :: q4 :: q5 :: q6 :: q7 :: q8 :: p :: l)[9]? = some p := rfl
theorem at10 {p : Addr × Obj} {q0 q1 q2 q3 q4 q5 q6 q7 q8 q9 : Addr × Obj} {l : Lgr} : (q0 :: q1 :: q2 :: q3 :: q4 :: q5 :: q6 :: q7 :: q8 :: q9 :: p :: l)[10]? = some p := rfl
theorem at11 {p : Addr × Obj} {q0 q1 q2 q3 q4 q5 q6 q7 q8 q9 q10 : Addr × Obj} {l : Lgr} : (q0 :: q1 :: q2 :: q3 :: q4 :: q5 :: q6 :: q7 :: q8 :: q9 :: q10 :: p :: l)[11]? = some p := rfl
theorem at12 {p : Addr × Obj} {q0 q1 q2 q3 q4 q5 q6 q7 q8 q9 q10 q11 : Addr × Obj} {l : Lgr} : (q0 :: q1 :: q2 :: q3 :: q4 :: q5 :: q6 :: q7 :: q8 :: q9 :: q10 :: q11 :: p :: l)[12]? = some p := rfl
theorem at13 {p : Addr × Obj} {q0 q1 q2 q3 q4 q5 q6 q7 q8 q9 q10 q11 q12 : Addr × Obj} {l : Lgr} : (q0 :: q1 :: q2 :: q3 :: q4 :: q5 :: q6 :: q7 :: q8 :: q9 :: q10 :: q11 :: q12 :: p :: l)[13]? = some p := rfl
theorem at14 {p : Addr × Obj} {q0 q1 q2 q3 q4 q5 q6 q7 q8 q9 q10 q11 q12 q13 : Addr × Obj} {l : Lgr} : (q0 :: q1 :: q2 :: q3 :: q4 :: q5 :: q6 :: q7 :: q8 :: q9 :: q10 :: q11 :: q12 :: q13 :: p :: l)[14]? = some p := rfl
theorem at15 {p : Addr × Obj} {q0 q1 q2 q3 q4 q5 q6 q7 q8 q9 q10 q11 q12 q13 q14 : Addr × Obj} {l : Lgr} : (q0 :: q1 :: q2 :: q3 :: q4 :: q5 :: q6 :: q7 :: q8 :: q9 :: q10 :: q11 :: q12 :: q13 :: q14 :: p :: l)[15]? = some p := rfl
theorem at16 {p : Addr × Obj} {q0 q1 q2 q3 q4 q5 q6 q7 q8 q9 q10 q11 q12 q13 q14 q15 : Addr × Obj} {l : Lgr} : (q0 :: q1 :: q2 :: q3 :: q4 :: q5 :: q6 :: q7 :: q8 :: q9 :: q10 :: q11 :: q12 :: q13 :: q14 :: q15 :: p :: l)[16]? = some p := rfl
theorem at17 {p : Addr × Obj} {q0 q1 q2 q3 q4 q5 q6 q7 q8 q9 q10 q11 q12 q13 q14 q15 q16 : Addr × Obj} {l : Lgr} : (q0 :: q1 :: q2 :: q3 :: q4 :: q5 :: q6 :: q7 :: q8 :: q9 :: q10 :: q11 :: q12 :: q13 :: q14 :: q15 :: q16 :: p :: l)[17]? = some p := rfl
theorem at18 {p : Addr × Obj} {q0 q1 q2 q3 q4 q5 q6 q7 q8 q9 q10 q11 q12 q13 q14 q15 q16 q17 : Addr × Obj} {l : Lgr} : (q0 :: q1 :: q2 :: q3 :: q4 :: q5 :: q6 :: q7 :: q8 :: q9 :: q10 :: q11 :: q12 :: q13 :: q14 :: q15 :: q16 :: q17 :: p :: l)[18]? = some p := rfl
theorem at19 {p : Addr × Obj} {q0 q1 q2 q3 q4 q5 q6 q7 q8 q9 q10 q11 q12 q13 q14 q15 q16 q17 q18 : Addr × Obj} {l : Lgr} : (q0 :: q1 :: q2 :: q3 :: q4 :: q5 :: q6 :: q7 :: q8 :: q9 :: q10 :: q11 :: q12 :: q13 :: q14 :: q15 :: q16 :: q17 :: q18 :: p :: l)[19]? = some p := rfl
theorem at20 {p : Addr × Obj} {q0 q1 q2 q3 q4 q5 q6 q7 q8 q9 q10 q11 q12 q13 q14 q15 q16 q17 q18 q19 : Addr × Obj} {l : Lgr} : (q0 :: q1 :: q2 :: q3 :: q4 :: q5 :: q6 :: q7 :: q8 :: q9 :: q10 :: q11 :: q12 :: q13 :: q14 :: q15 :: q16 :: q17 :: q18 :: q19 :: p :: l)[20]? = some p := rfl
theorem at21 {p : Addr × Obj} {q0 q1 q2 q3 q4 q5 q6 q7 q8 q9 q10 q11 q12 q13 q14 q15 q16 q17 q18 q19 q20 : Addr × Obj} {l : Lgr} : (q0 :: q1 :: q2 :: q3 :: q4 :: q5 :: q6 :: q7 :: q8 :: q9 :: q10 :: q11 :: q12 :: q13 :: q14 :: q15 :: q16 :: q17 :: q18 :: q19 :: q20 :: p :: l)[21]? = some p := rfl
theorem lookup_idx {x : Str} {c : Addr} {y : Str} : ∀ {cl : List (Str × Addr)} {j : Nat}, cl.findIdx? (fun p => x == p.1) = some j → cl[j]? = some (y, c) → cl.lookup x = some c
  | [], _, h, _ => by simp at h
  | (n, d) :: r, j, h, e => by
    rw [List.findIdx?_cons] at h
    rw [List.lookup_cons]
    cases q : x == n with
    | true => rw [q] at h; simp at h; subst h; simp at e; simp [e.2]
    | false =>
      rw [q] at h
      simp only [Bool.false_eq_true, if_false] at h
      cases z : List.findIdx? (fun p => x == p.1) r with
      | none => rw [z] at h; simp at h
      | some i =>
        rw [z] at h
        simp only [Option.map_some, Option.some.injEq] at h
        subst h
        rw [List.getElem?_cons_succ] at e
        exact lookup_idx z e
theorem nmC' {M : Model} {g : Heap} {A : Around} {s : Shared} {env : Env} {m : Str → Option Value} {l : Lgr} {E : Value → Shared → Prop} {x : Str} {pos : Pos} {v : Value} {Q : Value → Shared → Prop} {L : Addr} {c : Addr} {o : Obj} {i j : Nat} {y : Str} (D : Led g L m s.heap l) (hk : env.scope.kind = .function) (hx : env.kindOf x = some .cell ∨ env.kindOf x = some .free) (hj : env.cells.findIdx? (fun p => x == p.1) = some j) (hc : env.cells[j]? = some (y, c)) (hm : l[i]? = some (c, o)) (hv : o.data = .cell (some v)) (h : Q v s)
    (hd : (x == ("__debug__" : Str)) = false) (hn : (x == ("__classdict__" : Str)) = false) : wpAny M A (eval (.Name x pos) env) Q E s := nmC D hk hx (lookup_idx hj hc) hm hv h hd hn
theorem stC' {M : Model} {g : Heap} {A : Around} {s : Shared} {env : Env} {m : Str → Option Value} {l : Lgr} {E : Value → Shared → Prop} {x : Str} {v : Value} {Q : Unit → Shared → Prop} {L : Addr} {c : Addr} {o : Obj} {i j : Nat} {y : Str} {v₀ : Option Value} (D : Led g L m s.heap l) (hk : env.scope.kind = .function) (hx : env.kindOf x = some .cell) (hj : env.cells.findIdx? (fun p => x == p.1) = some j) (hc : env.cells[j]? = some (y, c)) (hm : l[i]? = some (c, o)) (hd : o.data = .cell v₀)
    (h : ∀ h' o', Led g L m h' (l.set i (c, o')) → o'.data = .cell (some v) → Q () { s with heap := h' }) : wpAny M A (storeName env x v) Q E s := stC D hk hx (lookup_idx hj hc) hm hd h
/-- find an entry of the ledger -/
theorem word1 : True := by
  k_with "mine at" => (with_reducible (first | exact at0 | exact at1 | exact at2 | exact at3 | exact at4 | exact at5 | exact at6 | exact at7 | exact at8 | exact at9 | exact at10 | exact at11 | exact at12 | exact at13 | exact at14 | exact at15 | exact at16 | exact at17 | exact at18 | exact at19 | exact at20 | exact at21))
  trivial
theorem word2 : True := by
  k_with "eval Name" => (k_dflt ((with_reducible rename Led _ _ _ _ _ => D0); first
      | (refine' nmL D0 ?k1 ?k2 ?k3 ?k4 ?_ ?k5; (case k3 => kernel_rfl!); (case k1 => exact rfl); (case k2 => kernel_rfl!); (case k4 => first | exact rfl | assumption); (case k5 => kernel_rfl!); k_whole)
      | (refine' nmG ?kG D0 ?k2 ?k1 ?k3 ?k4 ?_ ?k5; (case kG => assumption); (case k3 => kernel_rfl!); (case k1 => exact rfl); (case k2 => kernel_rfl!); (case k4 => k_is); (case k5 => kernel_rfl!); k_whole)
      | (refine' nmB ?kG D0 ?k2 ?k1 ?k0 ?k3 ?k4 ?k6 ?k7 ?_ ?k5; (case kG => assumption); (case k3 => kernel_rfl!); (case k1 => exact rfl); (case k0 => exact rfl); (case k2 => kernel_rfl!); (case k4 => k_is); (case k6 => first | boot_by_name | boot_fast); (case k7 => decide); (case k5 => kernel_rfl!); k_whole)
      | (refine' nmC' D0 ?k2 ?k3 ?kj ?k4 ?k6 ?k7 ?_ ?k5 ?k8; (case k3 => first | (refine Or.inl ?_; kernel_rfl!) | (refine Or.inr ?_; kernel_rfl!)); (case k2 => kernel_rfl!); (case kj => first | (show _ = some 0; kernel_rfl!) | (show _ = some 1; kernel_rfl!) | (show _ = some 2; kernel_rfl!) | (show _ = some 3; kernel_rfl!) | (show _ = some 4; kernel_rfl!) | (show _ = some 5; kernel_rfl!) | (show _ = some 6; kernel_rfl!) | (show _ = some 7; kernel_rfl!)); (case k4 => exact rfl); (case k6 => walk_at "mine at"); (case k7 => first | assumption | exact rfl); (case k5 => kernel_rfl!); (case k8 => kernel_rfl!); k_whole)))
  trivial
theorem word3 : True := by
  k_with "storeName" => (k_dflt ((with_reducible rename Led _ _ _ _ _ => D0); first
      | (refine' stL D0 ?k1 ?k2 ?k3 ?_; (case k3 => kernel_rfl!); (case k1 => exact rfl); (case k2 => kernel_rfl!); k_whole; intro _ dZ; (try clear D0))
      | (refine' stC' D0 ?k2 ?k3 ?kj ?k4 ?k6 ?k7 ?_; (case k3 => kernel_rfl!); (case k2 => kernel_rfl!); (case kj => first | (show _ = some 0; kernel_rfl!) | (show _ = some 1; kernel_rfl!) | (show _ = some 2; kernel_rfl!) | (show _ = some 3; kernel_rfl!) | (show _ = some 4; kernel_rfl!) | (show _ = some 5; kernel_rfl!) | (show _ = some 6; kernel_rfl!) | (show _ = some 7; kernel_rfl!)); (case k4 => exact rfl); (case k6 => walk_at "mine at"); (case k7 => first | assumption | exact rfl); k_whole; intro _ _ dZ _; (try simp only [List.set_cons_zero, List.set_cons_succ] at dZ); (try clear D0))))
  trivial
theorem word4 : True := by
  k_with "callWith ref" => (k_dflt (first
      | (refine' cwF ?kG ?k1 ?_ ?k2 ?k3; (case kG => assumption); (case k1 => k_is); (case k2 => exact rfl); (case k3 => exact rfl); k_whole)
      | ((with_reducible rename Led _ _ _ _ _ => D0); refine' cwF0 ?kG D0 ?k1 ?_; (case kG => assumption); (case k1 => k_is); k_whole)))
  trivial
theorem word5 : True := by
  k_with "And" => (((with_reducible show Kept _ _ ∧ _); (with_reducible rename Led _ _ _ _ _ => D0); refine ⟨Led.keep D0, ?_⟩; try dsimp only [List.nil_append, List.cons_append]))
  trivial
theorem word6 : True := by
  k_with "newList" => (k_dflt ((with_reducible rename Led _ _ _ _ _ => D0); (refine' newL D0 ?_ ?kz; (case kz => exact Nat.le_of_ble_eq_true rfl); k_whole; intro _ _ _; (try clear D0))))
  trivial
theorem word7 : True := by
  k_with "newTuple" => (k_dflt ((with_reducible rename Led _ _ _ _ _ => D0); (refine' newT D0 ?_ ?kz; (case kz => exact Nat.le_of_ble_eq_true rfl); k_whole; intro _ _ _; (try clear D0))))
  trivial
theorem word8 : True := by
  k_with "exec For" => (k_dflt (refine' forS ?_ ?k1; (case k1 => intro _; exact rfl); k_whole))
  trivial
theorem word9 : True := by
  k_with "mine go" => (repeat' (first | ((fail_if_success fail_if_success k_unfold); (first | dsimp only [qk] | (k_unfold; (try dsimp only))); (try clear qk); (try clear ek)) | ((with_reducible show wpAny _ _ (exec _ _) _ _ _); k_fold) | walk1 | (dsimp only; walk1)))
  trivial
section
variable {w : World} {g : Heap} {A : Around} {s : Shared} {L : Addr} {m : Str → Option Value} {l : Lgr} {E : Value → Shared → Prop} {Q : Value → Shared → Prop}
theorem rng1 {n : Int} {t : Tok} (D : Led g L m s.heap l) (h : ∀ r h' tk t u v, Led g L m h' ((r, rangeOf 0 n 1 t u v) :: l) → Q (.ref r) { s with heap := h', toks := tk }) : wpAny (model Pg w) A (call (.type "range") [.int n t]) Q E s :=
  call_range_1 (h _ _ _ _ _ _ (D.push _))
theorem rng2 {a n : Int} {t u : Tok} (D : Led g L m s.heap l) (h : ∀ r h' tk t u v, Led g L m h' ((r, rangeOf a n 1 t u v) :: l) → Q (.ref r) { s with heap := h', toks := tk }) : wpAny (model Pg w) A (call (.type "range") [.int a t, .int n u]) Q E s :=
  call_range_2 (h _ _ _ _ _ _ (D.push _))
theorem rng3 {a n c : Int} {t u v : Tok} (D : Led g L m s.heap l) (hc : c ≠ 0) (hp : Builtin.divisionGoesByPylong (n - a) c = false) (h : ∀ r h' tk t u v, Led g L m h' ((r, rangeOf a n c t u v) :: l) → Q (.ref r) { s with heap := h', toks := tk }) : wpAny (model Pg w) A (call (.type "range") [.int a t, .int n u, .int c v]) Q E s :=
  call_range_3 hc (h _ _ _ _ _ _ (D.push _)) (.inl hp)
end
theorem word10 : True := by
  k_with "call type:range" => (k_dflt ((with_reducible rename Led _ _ _ _ _ => D0); first
      | (refine' rng1 D0 ?_; k_whole; intro _ _ _ _ _ _ _; (try clear D0))
      | (refine' rng2 D0 ?_; k_whole; intro _ _ _ _ _ _ _; (try clear D0))
      | (refine' rng3 D0 ?k1 ?k2 ?_; (case k1 => decide); (case k2 => exact PyProof.noPylong_of_log2 (by decide +kernel)); k_whole; intro _ _ _ _ _ _ _; (try clear D0))))
  trivial
-- M7
theorem StrsAre.snoc {y : Str} {t : Tok} : ∀ {vs : List Value} {ys : List Str}, StrsAre vs ys → StrsAre (vs ++ [.str y t]) (ys ++ [y])
  | _, _, .nil => .cons y t .nil
  | _, _, .cons a b h => .cons a b (StrsAre.snoc h)
section
variable {w : World} {g : Heap} {A : Around} {s : Shared} {L : Addr} {m : Str → Option Value} {l : Lgr} {E : Value → Shared → Prop} {Q : Value → Shared → Prop}
theorem joinL {a : Addr} {its : List Value} {n i : Nat} {x : Str} {t : Tok} {ys : List Str} (D : Led g L m s.heap l) (hi : l[i]? = some (a, listOf its.toArray n)) (hs : StrsAre its ys) (hok : (ys.map (·.length)).sum + ys.length * x.length ≤ 16777216)
    (h : ∀ t' k, Q (.str (Txt.join x ys) t') { s with toks := k }) : wpAny (model Pg w) A (call (.builtin "str.join") [.str x t, .ref a]) Q E s :=
  join_list (items := its.toArray) ⟨_, D.at hi, rfl, n, rfl⟩ hs hok h
theorem tests0 {env : Env} {Q : Bool → Shared → Prop} {E : Value → Shared → Prop} (h : Q true s) : wpAny (model Pg w) A (tests [] env) Q E s := wpAny_pure h
theorem tests1 {env : Env} {c : Expr} {Q : Bool → Shared → Prop} {E : Value → Shared → Prop} (h : wpAny (model Pg w) A (isTrue c env (eval c env)) Q E s) : wpAny (model Pg w) A (tests [c] env) Q E s := wpAny_tests_one h
end
theorem word11 : True := by
  k_with "forIn" => (k_dflt (first | (refine' tests0 ?_; k_whole) | (refine' tests1 ?_; k_whole)))
  trivial
theorem FSpec.of {w : World} {g : Heap} {f : Value} {vs : List Value} {n : Nat} {l : Lgr} {Post : Value → Lgr → Prop}
    (h : ∀ (A : Around) (s : Shared) (x : Lgr) (Q E : Value → Shared → Prop), Ar A n → Hp g s.heap (l ++ x) → (∀ v s' l', Sm s s' → Hp g s'.heap (l' ++ x) → Post v l' → Q v s') → wpAny (model Pg w) A (call f vs) Q E s) : FSpec w g f vs n l Post :=
  fun A s x Q E ar H ret => h A s x Q E ar H fun v s' l' hs H P => by
    obtain ⟨h', tk, rfl⟩ := hs
    exact ret v h' tk l' H P
theorem Hp.drop {g h : Heap} {l : Lgr} (n : Nat) (H : Hp g h l) : Hp g h (l.drop n) := H.sub (List.drop_sublist n l)
theorem Led.drops {g h : Heap} {L : Addr} {m : Str → Option Value} {l : Lgr} (n : Nat) (D : Led g L m h l) : Led g L m h (l.drop n) := D.sub (List.drop_sublist n l)
/-- said of each number below n -/
noncomputable def AllN (P : Nat → Prop) : Nat → Prop
  | 0 => True
  | n + 1 => AllN P n ∧ P n
theorem AllN.get {P : Nat → Prop} : ∀ {n : Nat}, AllN P n → ∀ k, k < n → P k
  | n + 1, h, k, hk => by
    rcases Nat.lt_succ_iff_lt_or_eq.mp hk with q | q
    · exact AllN.get h.1 k q
    · exact q ▸ h.2
theorem three {i : Nat} (h : i < 3) : i = 0 ∨ i = 1 ∨ i = 2 := AllN.get (P := fun i => i = 0 ∨ i = 1 ∨ i = 2) (n := 3) ⟨⟨⟨trivial, .inl rfl⟩, .inr (.inl rfl)⟩, .inr (.inr rfl)⟩ i h
theorem four {i : Nat} (h : i < 4) : i = 0 ∨ i = 1 ∨ i = 2 ∨ i = 3 := AllN.get (P := fun i => i = 0 ∨ i = 1 ∨ i = 2 ∨ i = 3) (n := 4) ⟨⟨⟨⟨trivial, .inl rfl⟩, .inr (.inl rfl)⟩, .inr (.inr (.inl rfl))⟩, .inr (.inr (.inr rfl))⟩ i h
/-- the sign of a bit -/
noncomputable def sel (c0 c1 : Nat) (b : Bool) : Nat := if b then c1 else c0
/-- a value's bit -/
noncomputable def bit (v : Int) (k : Nat) : Bool := decide (v / 2 ^ k % 2 = 1)
noncomputable def one (c : Nat) : Str := ⟨#[c]⟩
/-- the word of n signs, the highest bit first -/
noncomputable def word (c0 c1 : Nat) (v : Int) (n : Nat) : List Nat := (List.range n).map fun j => sel c0 c1 (bit v (n - 1 - j))
noncomputable def strOf (l : List Nat) : Str := ⟨l.toArray⟩
theorem join_ones (l : List Nat) : Txt.join (Str.ofString "") (l.map one) = strOf l := by
  have key : ∀ (l : List Nat), Str.join (Str.ofString "") (l.map one) = strOf l := by
    intro l
    induction l with
    | nil => rfl
    | cons c r ih =>
      cases r with
      | nil => rfl
      | cons d r =>
        show one c ++ Str.ofString "" ++ Str.join (Str.ofString "") ((d :: r).map one) = _
        rw [ih]
        show (⟨#[c] ++ (Str.ofString "").cps ++ (d :: r).toArray⟩ : Str) = ⟨(c :: d :: r).toArray⟩
        have e : (Str.ofString "").cps = #[] := by decide
        rw [e]
        simp
  exact (StrLaws.glued_eq_join _ _).trans (key l)
theorem pow2_pos (n : Nat) : (0 : Int) < 2 ^ n := by
  have := Nat.pow_pos (n := n) (show 0 < 2 by decide)
  exact_mod_cast this
theorem pow2_lt {n : Nat} (h : n < 30) : (2 : Int) ^ n < 1073741824 := by
  have : 2 ^ n < 2 ^ 30 := Nat.pow_lt_pow_right (by decide) h
  have h2 : ((2 ^ n : Nat) : Int) < ((2 ^ 30 : Nat) : Int) := by exact_mod_cast this
  simpa using h2
theorem bitv (v : Int) (n : Nat) : (v.fdiv (2 ^ n)).fmod 2 = if bit v n then 1 else 0 := by
  rw [Int.fdiv_eq_ediv_of_nonneg _ (Int.le_of_lt (pow2_pos n)), Int.fmod_eq_emod_of_nonneg _ (by decide)]
  unfold bit
  have := Int.emod_two_eq (v / 2 ^ n)
  rcases this with h | h <;> rw [h] <;> rfl
section
variable {w : World} {A : Around} {s : Shared} {E : Value → Shared → Prop}
theorem fdivP {a k : Int} {t u : Tok} {Q : Value → Shared → Prop} (h1 : k.toNat < 30) (h : Q (.int (a.fdiv (2 ^ k.toNat)) s.toks) { s with toks := s.toks + 1 }) : wpAny (model Pg w) A (binaryOp .FloorDiv (.int a t) (.int (2 ^ k.toNat) u)) Q E s := by
  have h0 := pow2_pos k.toNat
  have h2 := pow2_lt h1
  exact floordiv_int (by omega) h (.inl (PyProof.noPylong_small (by omega)))
end
namespace D
theorem sub_pair {w : World} {A : Around} {s : Shared} {E : Value → Shared → Prop} {c0 c1 n : Nat} {v : Int} {t u : Tok} {value slice : Expr} {Q : Value → Shared → Prop} (h : ∀ t tk, Q (.str (one (sel c0 c1 (bit v n))) t) { s with toks := tk })
    (hs : subscripted slice false (.str ⟨#[c0, c1]⟩ t) (.int ((v.fdiv (2 ^ n)).fmod 2) u) = operate [.str ⟨#[c0, c1]⟩ t, .int ((v.fdiv (2 ^ n)).fmod 2) u] (getItem (.str ⟨#[c0, c1]⟩ t) (.int ((v.fdiv (2 ^ n)).fmod 2) u)) := by with_unfolding_all rfl)
    (ht : ∀ r, letTemporaryGo value (.str ⟨#[c0, c1]⟩ t) r = pure () := by intro _; with_unfolding_all rfl) :
    wpAny (model Pg w) A (subscriptTail value slice (.str ⟨#[c0, c1]⟩ t) (.int ((v.fdiv (2 ^ n)).fmod 2) u)) Q E s := by
  rw [bitv] at hs ⊢
  have e : Txt.item ⟨#[c0, c1]⟩ (if bit v n = true then 1 else 0) = one (sel c0 c1 (bit v n)) := by
    cases bit v n <;> rfl
  refine item_str ?_ ?_ ?_ (fun _ => ?_) hs ht
  · cases bit v n <;> decide
  · show -((2 : Nat) : Int) ≤ _; cases bit v n <;> decide
  · show _ < ((2 : Nat) : Int); cases bit v n <;> decide
  · rw [e]; exact h _ _
end D
theorem word12 : True := by
  k_with "binaryOp FloorDiv int int" => (k_dflt (refine' fdivP ?k1 ?_; (case k1 => omega); k_whole))
  trivial
theorem item_pair {c0 c1 : Nat} {k : Int} (h0 : 0 ≤ k) (h1 : k < 2) : Txt.item ⟨#[c0, c1]⟩ k = one (sel c0 c1 (decide (k = 1))) := by
  have : k = 0 ∨ k = 1 := by omega
  rcases this with rfl | rfl <;> rfl
theorem len_strOf (l : List Nat) : (strOf l).length = l.length := by simp [strOf, Str.length]
theorem len_one (c : Nat) : (one c).length = 1 := rfl
-- C1
theorem sp_word {w : World} {g : Heap} (G : Gd w g) {v : Int} {c0 c1 n : Nat} {t u r : Tok} (hn : n = 6 ∨ n = 4) : FSpec w g (.ref 190) [.int v t, .int n u, .str ⟨#[c0, c1]⟩ r] 2 [] (fun v' l => l = [] ∧ ∃ t, v' = .str (strOf (word c0 c1 v n)) t) := by
  refine .of fun A s x Q E ar H ret => ?_
  refine' enterC (binds := [((Str.ofString "value"), .int v t), ((Str.ofString "size"), .int n u), ((Str.ofString "pair"), .str ⟨#[c0, c1]⟩ r)]) (bl := [((Str.ofString "size"), .int n u)]) (cs := fun L => [(L + 1 + 1, some (.str ⟨#[c0, c1]⟩ r)), (L + 1, some (.int v t))]) G H ar ?k1 ?k2 ?k3 ?k4 ?k5 ?k6 ?k7 ?k8 ?kb ?kc ?_
  case k1 => k_is
  case k2 => k_is
  case k3 => first | exact BindsTo.of_eq rfl | exact binds_K (G.X.keeps H.keep) rfl (by k_is) rfl rfl rfl
  case k4 => exact rfl
  case k5 => decide +kernel
  case k6 => exact rfl
  case k7 => exact rfl
  case k8 => exact rfl
  case kb => intro _; kernel_rfl!
  case kc => intro _; kernel_rfl!
  intro L A' h₁ tk cells ar' D Y
  obtain ⟨o1, _, rfl, d1, o2, _, rfl, d2, rfl⟩ := Y
  dsimp only [List.cons_append, List.nil_append] at D
  w_strict (walk1; k_fold; (iterate 6 walk1))
  refine' compE (g := g) (cl := [((Str.ofString "value"), L + 1), ((Str.ofString "pair"), L + 1 + 1)]) ?a1 ?a2 ?a3 ?a4 ?a5 ?_
  case a1 => kernel_rfl!
  case a2 => decide
  case a3 => exact rfl
  case a4 => decide
  case a5 => intro _; exact rfl
  w_strict ((iterate 18 walk1))
  rename Led _ _ _ _ _ => D
  refine it_range (n := n) ar'.hh D (i := 0) rfl (by rcases hn with rfl | rfl <;> decide) (by rcases hn with rfl | rfl <;> decide) ?_
  intro I p s' hs D' Y Sf
  refine CompAt.mk (n := n) (l := _) (p := p) (fun i ys l => l = _ ∧ StrsAre ys ((List.range i).map fun j => one (sel c0 c1 (bit v (n - 1 - j))))) ?b1 (by omega) (Y _ _) Sf ⟨rfl, StrsAre.nil⟩ D' ?b2 ?b3
  case b1 =>
    rintro i ys l ⟨rfl, hy⟩
    exact ⟨by rw [hy.len_eq]; simp, fun e he => nomatch he⟩
  case b2 =>
    intro C i hi vv q b ys l s2 tl hv hJ hs2 D2
    obtain ⟨⟨t2, rfl⟩, rfl⟩ := hv
    obtain ⟨rfl, hys⟩ := hJ
    dsimp only [List.cons_append, List.nil_append] at D2
    clear D D'
    w_strict ((iterate 16 walk1))
    refine D.sub_pair fun t3 tk3 => ?_
    refine ⟨_, _, ⟨rfl, ?_⟩, (hs2.go _ _), by assumption⟩
    have e : ((n : Int) - 1 + (i : Int) * -1).toNat = n - 1 - i := down_nat (by assumption)
    rw [e, List.range_succ, List.map_append]
    exact StrsAre.snoc hys
  case b3 =>
    intro Dn ys k l s3 hJ hs3 D3
    obtain ⟨rfl, hys⟩ := hJ
    clear D D'
    w_strict (walk1)
    refine joinL D3 (i := 0) rfl hys ?_ fun t' k' => ?_
    · simp only [List.map_map, List.length_map, List.length_range]
      show _ + n * 0 ≤ _
      rw [show ((Str.length ∘ fun j => one (sel c0 c1 (bit v (n - 1 - j)))) : Nat → Nat) = fun _ => 1 from rfl, List.map_const', List.length_range, List.sum_replicate_nat]
      omega
    · have e : (List.range n).map (fun j => one (sel c0 c1 (bit v (n - 1 - j)))) = (word c0 c1 v n).map one := by rw [word, List.map_map]; rfl
      rw [e, join_ones]
      exact ret _ _ [] (((Sm.mk (h := h₁) (tk := tk)).trans hs).trans (hs3.go _ _)) (D3.out.drop 4) ⟨rfl, _, rfl⟩
-- M8
section
open Builtin
section
variable {w : World} {g : Heap} {A : Around} {s : Shared} {L : Addr} {m : Str → Option Value} {l : Lgr} {E : Value → Shared → Prop} {x C dx : Addr} {es es' : List DictEntry} {n n' i j : Nat} {name : Str} {expr : Bool} {v : Value}
theorem Led.X (G : Gd w g) (D : Led g L m s.heap l) : (hd.heap_1 w.params).In s.heap := G.X.keeps D.keep
theorem Led.inst (D : Led g L m s.heap l) (hi : l[i]? = some (x, instObj C dx)) (hj : l[j]? = some (dx, dictOf es n)) : InstAt s.heap x (instObj C dx) C (some (dictOf es n)) := ⟨D.at hi, rfl, rfl, D.at hj⟩

theorem attrGet {attr : Option Value} {Q : Value → Shared → Prop} (G : Gd w g) (D : Led g L m s.heap l) (hi : l[i]? = some (x, instObj C dx)) (hj : l[j]? = some (dx, dictOf es n))
    (hg : plainGet (hd.heap_1 w.params) C name = true) (hh : hasDictIn (hd.heap_1 w.params) C = true) (ha : findIn (hd.heap_1 w.params) (.ref C) name = some attr) (hn : noGet (hd.heap_1 w.params) attr = true)
    (hl : getL name es = some (some v)) (hv : handedIn v = true) (h : ∀ tk, Q v { s with toks := tk }) : wpAny (model Pg w) A (getAttr (.ref x) name expr) Q E s :=
  get_value (D.X G) (D.inst hi hj) (plainGet_of hg).1 (findObj_own hh ha hn hl) hv (h _)
theorem methGet {f : Addr} {pl : Sem Bool} {Q : Value × List Value → Shared → Prop} (G : Gd w g) (D : Led g L m s.heap l) (hi : l[i]? = some (x, instObj C dx)) (hj : l[j]? = some (dx, dictOf es n))
    (hg : plainGet (hd.heap_1 w.params) C name = true) (hf : findIn (hd.heap_1 w.params) (.ref C) name = some (some (.ref f))) (ht : isFn (hd.heap_1 w.params) (.ref f) = true) (hl : getL name es = some none)
    (h : Q (.ref f, [.ref x]) s) : wpAny (model Pg w) A (getMethod (.ref x) name pl) Q E s :=
  method_fn (D.X G) (D.inst hi hj) (plainGet_of hg).1 (plainGet_of hg).2 hf (beq_iff_eq.mp ht) (by show (lookIn name (dictOf es n)).map _ = _; rw [lookIn_dict, hl]; rfl) h
theorem methOwn {pl : Sem Bool} {Q : Value × List Value → Shared → Prop} (G : Gd w g) (D : Led g L m s.heap l) (hi : l[i]? = some (x, instObj C dx)) (hj : l[j]? = some (dx, dictOf es n))
    (hg : plainGet (hd.heap_1 w.params) C name = true) (hh : hasDictIn (hd.heap_1 w.params) C = true) (ha : findIn (hd.heap_1 w.params) (.ref C) name = some none) (hn : noGet (hd.heap_1 w.params) none = true)
    (hl : getL name es = some (some v)) (hv : handedIn v = true) (h : ∀ tk, Q (v, []) { s with toks := tk }) : wpAny (model Pg w) A (getMethod (.ref x) name pl) Q E s :=
  method_usual (D.X G) (D.inst hi hj) (plainGet_of hg).1 (plainGet_of hg).2 ha rfl (attrGet G D hi hj hg hh ha hn hl hv h)
theorem boundGet {f : Addr} {Q : Value → Shared → Prop} (G : Gd w g) (D : Led g L m s.heap l) (hi : l[i]? = some (x, instObj C dx)) (hj : l[j]? = some (dx, dictOf es n))
    (hg : plainGet (hd.heap_1 w.params) C name = true) (hh : hasDictIn (hd.heap_1 w.params) C = true) (ha : findIn (hd.heap_1 w.params) (.ref C) name = some (some (.ref f))) (hf : isFn (hd.heap_1 w.params) (.ref f) = true)
    (hgf : specialIn (hd.heap_1 w.params) (.ref f) "__get__" = some (some (.builtin "function.__get__"))) (ht : takesIn (hd.heap_1 w.params) (.ref f) = some false) (hc : copiedNames.contains name = false) (hl : getL name es = some none)
    (h : ∀ q h' tk, Led g L m h' ((q, methodObj (.ref f) (.ref x)) :: l) → Q (.ref q) { s with heap := h', toks := tk }) : wpAny (model Pg w) A (getAttr (.ref x) name expr) Q E s :=
  get_bind (D.X G) (D.inst hi hj) (plainGet_of hg).1 (findObj_fn hh ha hgf ht hc (by show lookIn name (dictOf es n) = _; rw [lookIn_dict, hl])) (plainGet_of hg).2
    (wpAny_call (fn_get (s := { s with toks := s.toks + 1 }) (D.X G) (beq_iff_eq.mp hf) (handed_on rfl (h _ _ _ (D.push _)))))

/-- the ground's objects, listed -/
noncomputable def gl (g : Heap) : Lgr := (List.range g.objs.size).filterMap fun b => (g.get? b).map (b, ·)
theorem mem_gl {g : Heap} {p : Addr × Obj} : p ∈ gl g ↔ g.get? p.1 = some p.2 := by
  unfold gl
  rw [List.mem_filterMap]
  constructor
  · rintro ⟨b, _, e⟩
    obtain ⟨o, ho, rfl⟩ := Option.map_eq_some_iff.mp e
    exact ho
  · intro h
    exact ⟨p.1, List.mem_range.mpr (Heap.lt_size h), by rw [h]; rfl⟩
theorem Led.wide {h : Heap} (D : Led g L m h l) : News {} L h (l ++ gl g) := fun p hp => by
  rcases List.mem_append.mp hp with hp | hp
  · exact D.nw0 p hp
  · have := mem_gl.mp hp
    exact ⟨D.keep _ _ this, fun e => (by rw [e, D.gL] at this; cases this), by simp [Heap.get?]⟩
theorem attrSet {Q : Unit → Shared → Prop} (G : Gd w g) (D : Led g L m s.heap l) (hi : l[i]? = some (x, instObj C dx)) (hj : l[j]? = some (dx, dictOf es n))
    (hs : findIn (hd.heap_1 w.params) (.ref C) "__setattr__" = some (some (.builtin "object.__setattr__"))) (hp : plainOver (hd.heap_1 w.params) C = true) (ht : takerIn (hd.heap_1 w.params) C name = some none) (hh : hasDictIn (hd.heap_1 w.params) C = true)
    (hl : (getL name es).isSome = true) (e : (putL name (PyData.keyHash w.params name) (.str name (s.toks + 1)) v es, putN name es n) = (es', n')) (hz : es'.length ≤ 1000)
    (h : ∀ h' tk, Led g L m h' (l.set j (dx, dictOf es' n')) → Q () { s with heap := h', toks := tk }) : wpAny (model Pg w) A (setAttr (.ref x) name v) Q E s := by
  obtain ⟨e1, e2⟩ := Prod.mk.inj e
  have sp := split_at hj
  have nd := D.nd
  have W := D.wide
  rw [sp, List.append_assoc, List.cons_append] at W
  rw [sp, List.map_append, List.map_cons, List.nodup_append] at nd
  obtain ⟨n1, n2, n3⟩ := nd
  obtain ⟨n4, n5⟩ := List.nodup_cons.mp n2
  have gd := (D.nw _ (List.mem_of_getElem? hj)).2.2
  have es0 : l.set j (dx, dictOf es' n') = l.take j ++ (dx, dictOf es' n') :: l.drop (j + 1) := by
    obtain ⟨hl, _⟩ := List.getElem?_eq_some_iff.mp hj
    exact List.set_eq_take_append_cons_drop.trans (if_pos hl)
  refine set_plain (D.X G) (D.inst hi hj) hs (osa_dict (s := { s with toks := s.toks + 1 }) D.fr0 W (D.X G) (D.inst hi hj) rfl hp ht hh hl (fun p hp q => n3 p.1 (List.mem_map_of_mem hp) dx (.head _) q) (fun p hp q => ?_) (by rw [putName_dict, e1, e2]) rfl hz fun h' F' N' => ?_)
  · rcases List.mem_append.mp hp with hp | hp
    · exact n4 (by rw [← q]; exact List.mem_map_of_mem (f := (·.1)) hp)
    · have := mem_gl.mp hp
      rw [q, gd] at this; cases this
  · refine h h' _ ⟨F'.ns, fun b o eb => (N' (b, o) (List.mem_append_right _ (.tail _ (List.mem_append_right _ (mem_gl.mpr eb))))).1, D.gL, fun p hp => ?_, ?_⟩
    · rw [es0] at hp
      have z := N' p (by
        rcases List.mem_append.mp hp with hp | hp
        · exact List.mem_append_left _ hp
        · rcases List.mem_cons.mp hp with rfl | hp
          · exact List.mem_append_right _ (.head _)
          · exact List.mem_append_right _ (.tail _ (List.mem_append_left _ hp)))
      refine ⟨z.1, z.2.1, ?_⟩
      rcases List.mem_append.mp hp with hp | hp
      · exact (D.nw p (by rw [sp]; exact List.mem_append_left _ hp)).2.2
      · rcases List.mem_cons.mp hp with rfl | hp
        · exact gd
        · exact (D.nw p (by rw [sp]; exact List.mem_append_right _ (.tail _ hp))).2.2
    · rw [es0, List.map_append, List.map_cons, List.nodup_append]
      exact ⟨n1, n2, n3⟩
end

end
theorem word13 : True := by
  k_with "getAttr ref" => (k_dflt ((with_reducible rename Led _ _ _ _ _ => D0); first
      | (refine' attrGet ?kG D0 ?k1 ?k2 ?k3 ?k4 ?k5 ?k6 ?k7 ?k8 ?_; (case kG => assumption); (case k1 => walk_at "mine at"); (case k2 => walk_at "mine at"); (case k3 => k_is); (case k4 => k_is); (case k5 => k_is); (case k6 => k_is); (case k7 => k_get); (case k8 => k_handed); k_whole; intro _)
      | (refine' boundGet ?kG D0 ?k1 ?k2 ?k3 ?k4 ?k5 ?k6 ?k7 ?k8 ?k9 ?k10 ?_; (case kG => assumption); (case k1 => walk_at "mine at"); (case k2 => walk_at "mine at"); (case k3 => k_is); (case k4 => k_is); (case k5 => k_is); (case k6 => k_is); (case k7 => k_is); (case k8 => k_is); (case k9 => decide +kernel); (case k10 => k_get); k_whole; intro _ _ _ _; (try clear D0))))
  trivial
theorem word14 : True := by
  k_with "getMethod ref" => (k_dflt ((with_reducible rename Led _ _ _ _ _ => D0); first
      | (refine' methGet ?kG D0 ?k1 ?k2 ?k3 ?k4 ?k5 ?k6 ?_; (case kG => assumption); (case k1 => walk_at "mine at"); (case k2 => walk_at "mine at"); (case k3 => k_is); (case k4 => k_is); (case k5 => k_is); (case k6 => k_get); k_whole)
      | (refine' methOwn ?kG D0 ?k1 ?k2 ?k3 ?k4 ?k5 ?k6 ?k7 ?k8 ?_; (case kG => assumption); (case k1 => walk_at "mine at"); (case k2 => walk_at "mine at"); (case k3 => k_is); (case k4 => k_is); (case k5 => k_is); (case k6 => k_is); (case k7 => k_get); (case k8 => k_handed); k_whole; intro _)))
  trivial
theorem word15 : True := by
  k_with "setAttr ref" => (k_dflt ((with_reducible rename Led _ _ _ _ _ => D0); (refine' attrSet ?kG D0 ?k1 ?k2 ?k3 ?k4 ?k5 ?k6 ?k7 ?k8 ?k9 ?_; (case kG => assumption); (case k1 => walk_at "mine at"); (case k2 => walk_at "mine at"); (case k3 => k_is); (case k4 => k_is); (case k5 => k_is); (case k6 => k_is); (case k7 => k_get); (case k8 => k_put); (case k9 => exact Nat.le_of_ble_eq_true rfl); k_whole; intro _ _ dZ; (try simp only [List.set_cons_zero, List.set_cons_succ] at dZ); (try clear D0))))
  trivial
theorem word16 : True := by
  k_with "exec Assign" => (k_dflt ((with_reducible show wpAny _ _ (exec (Stmt.Assign [Expr.Attribute _ _ _] _ _) _) _ _ _); with_reducible refine plainObj_wpAny_Assign_Attribute ?_ ?_; rotate_left; with_unfolding_all rfl))
  trivial
-- M9
section
open Builtin
section
variable {w : World} {g : Heap} {A : Around} {n : Nat} {s : Shared} {L : Addr} {m : Str → Option Value} {l : Lgr} {E : Value → Shared → Prop}
/-- a call of a closure that stands in the ledger -/
theorem enterX {f : Addr} {i : Nat} {name qual : Str} {params : Arguments} {body : List Stmt} {scope : Scope} {cl : List (Str × Addr)} {dV kV doc pm cdv ct oc : Value} {an od : Option Addr} {osl : Array (Option Value)} {args : List Value} {kw : List (Str × Value)} {binds : List (Str × Value)}
    {Q : Value → Shared → Prop} (G : Gd w g) (H : Hp g s.heap l) (ar : Ar A (n + 1))
    (ho : l[i]? = some (f, ⟨oc, od, .func (fnX name qual params body scope cl dV kV doc pm an cdv ct), osl⟩)) (hcd : s.heap.CodeRec cdv qual)
    (hbind : BindsTo s (fnX name qual params body scope cl dV kV doc pm an cdv ct) ⟨args, kw⟩ binds) (hloc : ∀ y ∈ binds, scope.names.lookup y.1 = some .local) (hcell : ∀ x ∈ scope.names, x.2 ≠ .cell)
    (hco : scope.isCoroutine = false) (hgen : scope.isGenerator = false) (hk : scope.kind = .function) {bl : List (Str × Value)} (hbl : binds.reverse = bl)
    (h : ∀ L A' h₁ tk, Ar A' n → Led g L (mp bl) h₁ l → wpAny (model Pg w) A' (execs body (envX qual scope L f cdv cl)) (fun fl s' => Q (match fl with | .ret v => v | _ => .none) s') NoE { s with heap := h₁, toks := tk }) :
    wpAny (model Pg w) A (call (.ref f) args kw) Q E s := by
  refine wpAny_call ?_
  obtain ⟨_, _, _, _, _, T⟩ := G.T
  refine codeAny_call_def (fd := fnX name qual params body scope cl dV kV doc pm an cdv ct) (body := body) (binds := binds) ar.room (H.nw _ (List.mem_of_getElem? ho)).1 rfl (T.nolimit.keeps H.keep) hcd rfl hbind hcell hloc (fun h₁ hns hk₁ => ?_) hco hgen hk
  rw [mp_lookup, hbl] at hns
  exact wpAny_mono (h s.heap.objs.size _ h₁ _ (ar.deeper _) (H.led hk₁ hns)) (fun fl s' q => q) fun _ _ e => e.elim

theorem CodeHd.up {h : Heap} {c P : Addr} (x : CodeHd g c P) (D : Led g L m h l) : CodeHd h c P := x.keeps D.keep
/-- a nested def's function, made -/
theorem nestL {a c P : Addr} {i : Nat} {cn : Str} {cs : Scope} {ccd : Value} {cl clos : List (Str × Addr)} {name qual : Str} {params : Arguments} {body : List Stmt} {scope : Scope} {pos : Pos} {firstLine : Nat} {Q : Value → Shared → Prop} (G : Gd w g) (D : Led g L m s.heap l)
    (C : CodeHd g c P) (hcd : ccd = .ref c) (hi : l[i]? = some (P, tabObj #[])) (hcl : closureFor scope (envX cn cs L a ccd cl) = pure clos)
    (h : ∀ f c' oc vs t ctv doc pm h' tk, Led g L m h' ((f, fnMade name qual params body scope clos doc pm c' ctv) :: (c', oc) :: l.set i (P, tabObj #[rawInt pos.line, rawInt pos.col, .ref c'])) →
      oc.data = .fields vs → vs[1]? = some (.str qual t) → Q (.ref f) { s with heap := h', toks := tk }) :
    wpAny (model Pg w) A (makeFunction name qual params (.stmts body) scope (envX cn cs L a ccd cl) [] [] [] pos firstLine) Q E s := by
  obtain ⟨_, _, _, mg, _, T⟩ := G.T
  have hm := D.nw _ (List.mem_of_getElem? hi)
  have hgs := T.g.keeps D.keep
  obtain ⟨bm, ob, b1, b2, b3, b4, b5, b6⟩ := T.bmain
  have hgP : mainGlobals ≠ P := fun q => by
    obtain ⟨o, es, ep, e, hd, _⟩ := hgs
    rw [q, hm.1] at e; cases e; cases hd
  have hbP : bm ≠ P := fun q => by
    have e := D.keep _ _ b3
    rw [q, hm.1] at e; cases e; cases b4
  have hbG : bm ≠ mainGlobals := fun q => by
    obtain ⟨o, es, ep, e, hd, _⟩ := T.g
    rw [q, e] at b3; cases b3; rw [hd] at b6; cases b6
  refine makeFunction_K (mg := mg) hcl rfl hgs hcd (C.keeps D.keep) hm.1 (by exact True.intro) rfl hgP ⟨bm, ob, b1, b2, hbG, hbP, D.keep _ _ b3, b4, b5, b6⟩ fun c' ctv doc h' tk hx hge hlt hrec htb => ?_
  obtain ⟨c₂, oc, vs, t, e2, hoc, hd, hv⟩ := hrec
  cases e2
  have gP := hm.2.2
  have LP : L ≠ P := hm.2.1.symm
  -- the ledger in h'
  have k1 : ∀ b o, b ≠ P → s.heap.get? b = some o → h'.get? b = some o := fun b o hb e => hx b o hb e
  have fresh : ∀ b, s.heap.objs.size ≤ b → g.get? b = none := fun b hb => by
    cases q : g.get? b with
    | none => rfl
    | some o => exact absurd (Heap.lt_size (D.keep _ _ q)) (Nat.not_lt.mpr hb)
  obtain ⟨hl, he⟩ := List.getElem?_eq_some_iff.mp hi
  have D1 : Led g L m h' (l.set i (P, tabObj (#[] ++ #[rawInt pos.line, rawInt pos.col, .ref c']))) := by
    refine ⟨D.ns.extBut hx LP, fun b o e => k1 b o (fun q => by rw [q, gP] at e; cases e) (D.keep b o e), D.gL, fun p hp => ?_, ?_⟩
    · obtain ⟨j, hj, rfl⟩ := List.getElem_of_mem hp
      rw [List.getElem_set]
      by_cases q : i = j
      · subst q; rw [if_pos rfl]; exact ⟨htb, hm.2⟩
      · rw [if_neg q]
        have hj' : j < l.length := by simpa using hj
        have z := D.nw _ (List.getElem_mem hj')
        refine ⟨k1 _ _ (fun e => q ?_) z.1, z.2⟩
        have nd := D.nd
        have hi1 : (l.map (·.1))[i]'(by simpa using hl) = P := by simp [he]
        have hj1 : (l.map (·.1))[j]'(by simpa using hj') = P := by simp [e]
        have pw := List.pairwise_iff_getElem.mp nd
        rcases Nat.lt_trichotomy i j with q1 | q1 | q1
        · exact absurd (hi1.trans hj1.symm) (pw i j (by simpa using hl) (by simpa using hj') q1)
        · exact q1
        · exact absurd (hj1.trans hi1.symm) (pw j i (by simpa using hj') (by simpa using hl) q1)
    · have e : (l.set i (P, tabObj (#[] ++ #[rawInt pos.line, rawInt pos.col, .ref c']))).map (·.1) = l.map (·.1) := by
        rw [List.map_set]
        refine List.ext_getElem (by simp) fun j h1 h2 => ?_
        rw [List.getElem_set]
        by_cases q : i = j
        · subst q; rw [if_pos rfl]; simp [he]
        · rw [if_neg q]
      rw [e]; exact D.nd
  have Lc : c' ≠ L := Nat.ne_of_gt (Nat.lt_of_lt_of_le D.ns.lt hge)
  have D2 : Led g L m h' ((c', oc) :: l.set i (P, tabObj (#[] ++ #[rawInt pos.line, rawInt pos.col, .ref c']))) := by
    refine ⟨D1.ns, D1.keep, D1.gL, fun p hp => ?_, ?_⟩
    · rcases List.mem_cons.mp hp with rfl | hp
      · exact ⟨hoc, Lc, fresh _ hge⟩
      · exact D1.nw p hp
    · rw [List.map_cons, List.nodup_cons]
      refine ⟨fun hm2 => ?_, D1.nd⟩
      obtain ⟨p, hp, e⟩ := List.mem_map.mp hm2
      have old : ∀ p ∈ l.set i (P, tabObj (#[] ++ #[rawInt pos.line, rawInt pos.col, .ref c'])), p.1 < s.heap.objs.size := fun p hp => by
        rcases List.mem_or_eq_of_mem_set hp with hp | rfl
        · exact Heap.lt_size (D.nw p hp).1
        · exact Heap.lt_size hm.1
      have h3 := old p hp
      rw [e] at h3
      exact absurd h3 (Nat.not_lt.mpr hge)
  have D3 := D2.push (fnMade name qual params body scope clos doc ((mg "__name__").getD .none) c' ctv)
  rw [Array.empty_append] at D3
  exact h _ _ _ _ _ _ _ _ _ _ D3 hd hv
/-- made again: its code stands in the table -/
theorem nestHit {a c P c' : Addr} {i : Nat} {cn : Str} {cs : Scope} {ccd : Value} {cl clos : List (Str × Addr)} {name qual : Str} {params : Arguments} {body : List Stmt} {scope : Scope} {pos : Pos} {firstLine : Nat} {Q : Value → Shared → Prop} (G : Gd w g) (D : Led g L m s.heap l)
    (C : CodeHd g c P) (hcd : ccd = .ref c) (hi : l[i]? = some (P, tabObj #[rawInt pos.line, rawInt pos.col, .ref c'])) (hcl : closureFor scope (envX cn cs L a ccd cl) = pure clos)
    (h : ∀ f ctv doc pm h' tk, Led g L m h' ((f, fnMade name qual params body scope clos doc pm c' ctv) :: l) → Q (.ref f) { s with heap := h', toks := tk }) :
    wpAny (model Pg w) A (makeFunction name qual params (.stmts body) scope (envX cn cs L a ccd cl) [] [] [] pos firstLine) Q E s := by
  obtain ⟨_, _, _, mg, _, T⟩ := G.T
  have hm := D.nw _ (List.mem_of_getElem? hi)
  have hgs := T.g.keeps D.keep
  obtain ⟨bm, ob, b1, b2, b3, b4, b5, b6⟩ := T.bmain
  have hbP : bm ≠ P := fun q => by
    have e := D.keep _ _ b3
    rw [q, hm.1] at e; cases e; cases b4
  have hbG : bm ≠ mainGlobals := fun q => by
    obtain ⟨o, es, ep, e, hd, _⟩ := T.g
    rw [q, e] at b3; cases b3; rw [hd] at b6; cases b6
  refine makeFunction_hit (mg := mg) (cv := .ref c') hcl rfl hgs hcd (C.keeps D.keep) hm.1 (by exact True.intro) (by simp [codeAmong, rawInt]) ⟨bm, ob, b1, b2, hbG, hbP, D.keep _ _ b3, b4, b5, b6⟩ fun ctv doc h' tk hk hsz => ?_
  exact h _ _ _ _ _ _ ((D.keeps hk).push _)
theorem cwX {pos : Pos} {first : List Value} {q : Addr} {i : Nat} {oc : Value} {od : Option Addr} {fd : FuncData} {sl : Array (Option Value)} {e : Expr} {rest : List Expr} {env : Env} {Q : Value → Shared → Prop} (D : Led g L m s.heap l) (hi : l[i]? = some (q, (⟨oc, od, .func fd, sl⟩ : Obj)))
    (h : wpAny (model Pg w) A (spliced (backTo pos (starEach (e :: rest) env))) (fun vs s₁ => FnAt q s₁.heap ∧ wpAny (model Pg w) A (call (.ref q) (first ++ vs)) Q E s₁) E s)
    (he : starEach (e :: rest) env = (false, eval e env) :: starEach rest env := by rfl) (hplain : (backTo pos (starEach rest env)).any (·.1) = false := by rfl) :
    wpAny (model Pg w) A (callWith pos (.ref q) first (backTo pos (starEach (e :: rest) env)) []) Q E s := callWith_F ⟨_, _, _, _, D.at hi⟩ h he hplain
end
end
-- M10
section
open Builtin
section
variable {w : World} {g : Heap} {A : Around} {n : Nat} {s : Shared} {L : Addr} {m : Str → Option Value} {l : Lgr} {E : Value → Shared → Prop}
/-- as FSpec, for the code of a call -/
noncomputable def CSpec (w : World) (g : Heap) (f : Value) (vs : List Value) (n : Nat) (l : Lgr) (Post : Value → Lgr → Prop) : Prop :=
  ∀ (A : Around) (s : Shared) (x : Lgr) (R : Result → Shared → Prop), Ar A n → Hp g s.heap (l ++ x) →
    (∀ v s' l', Sm s s' → Hp g s'.heap (l' ++ x) → Post v l' → R (.ok (.ret v)) s') → codeAny (model Pg w) A (.call f ⟨vs, []⟩) R s
theorem enterK {f : Addr} {name qual : Str} {params : Arguments} {body : List Stmt} {scope : Scope} {dV kV doc pm cdv ct oc : Value} {an od : Option Addr} {osl : Array (Option Value)} {args : List Value} {kw : List (Str × Value)} {binds : List (Str × Value)} {x : Lgr}
    {R : Result → Shared → Prop} (G : Gd w g) (H : Hp g s.heap x) (ar : Ar A (n + 1))
    (ho : (hd.heap_1 w.params).lookup f = some ⟨oc, od, .func (fnOf name qual params body scope dV kV doc pm an cdv ct), osl⟩) (hcd : codeIn (hd.heap_1 w.params) cdv qual = true)
    (hbind : BindsTo s (fnOf name qual params body scope dV kV doc pm an cdv ct) ⟨args, kw⟩ binds) (hloc : ∀ y ∈ binds, scope.names.lookup y.1 = some .local) (hcell : ∀ x ∈ scope.names, x.2 ≠ .cell)
    (hco : scope.isCoroutine = false) (hgen : scope.isGenerator = false) (hk : scope.kind = .function) {bl : List (Str × Value)} (hbl : binds.reverse = bl)
    (h : ∀ L A' h₁ tk, Ar A' n → Led g L (mp bl) h₁ x → wpAny (model Pg w) A' (execs body (envOf qual scope L f cdv)) (fun fl s' => R (.ok (.ret (match fl with | .ret v => v | _ => .none))) s') NoE { s with heap := h₁, toks := tk }) :
    codeAny (model Pg w) A (.call (.ref f) ⟨args, kw⟩) R s := by
  have Xs : (hd.heap_1 w.params).In s.heap := G.X.keeps H.keep
  obtain ⟨_, _, _, _, _, T⟩ := G.T
  refine codeAny_call_def (fd := fnOf name qual params body scope dV kV doc pm an cdv ct) (body := body) (binds := binds) ar.room (Xs _ _ ho) rfl (T.nolimit.keeps H.keep) (codeRec_of Xs hcd) rfl hbind hcell hloc (fun h₁ hns hk₁ => ?_) hco hgen hk
  rw [mp_lookup, hbl] at hns
  exact wpAny_mono (h s.heap.objs.size _ h₁ _ (ar.deeper _) (H.led hk₁ hns)) (fun fl s' q => q) fun _ _ e => e.elim
theorem Ar.make {args : Args} (a : Ar A (n + 1)) : Ar (A.under (.builtin "type.__call__" args)) n := by
  have e : (Code.builtin "type.__call__" args).weight = 0 + (if (Code.builtin "type.__call__" args).isCreation = true then 1 else 0) + 0 + 0 := by kernel_rfl!
  have w1 : (Code.builtin "type.__call__" args).weight ≤ 1 := by
    rw [e]
    exact (show ∀ b : Bool, 0 + (if b = true then 1 else 0) + 0 + 0 ≤ 1 by decide) _
  have w2 : (Code.builtin "type.__call__" args).cUnits ≤ 40 := by
    rw [show (Code.builtin "type.__call__" args).cUnits = 1 by kernel_rfl!]; decide
  refine ⟨a.hh, ?_, ?_⟩
  · exact Nat.lt_of_le_of_lt (Nat.le_trans (Nat.add_le_add_right (Nat.add_le_add_left w1 A.depth) n) (Nat.le_of_eq (by rw [Nat.add_assoc, Nat.add_comm 1 n]))) a.dp
  · exact Nat.lt_of_le_of_lt (Nat.le_trans (Nat.add_le_add_right (Nat.add_le_add_left w2 A.units) (40 * n)) (Nat.le_of_eq (by rw [Nat.add_assoc, Nat.mul_add, Nat.add_comm 40]))) a.un

theorem makeL {C fI : Addr} {vs : List Value} {k : Nat} {Post : Value → Lgr → Prop} {Q : Value → Shared → Prop} (G : Gd w g) (D : Led g L m s.heap l) (ar : Ar A n) (hk : k + 1 ≤ n)
    (hm : makesIn (hd.heap_1 w.params) C = true) (hi : findIn (hd.heap_1 w.params) (.ref C) "__init__" = some (some (.ref fI))) (hf : typeIn (hd.heap_1 w.params) (.ref fI) = some (.type "function"))
    (S : ∀ x dx, CSpec w g (.ref fI) (.ref x :: vs) k [(x, instObj C dx), (dx, dictOf [] 0)] (fun v l => v = .none ∧ Post (.ref x) l))
    (h : ∀ x h' tk l', Led g L m h' (l' ++ l) → Post (.ref x) l' → Q (.ref x) { s with heap := h', toks := tk }) : wpAny (model Pg w) A (call (.ref C) vs) Q E s := by
  refine wpAny_call ?_
  obtain ⟨oL, H, back⟩ := D.hp
  obtain ⟨hh, gg, d, t, os⟩ := s
  refine make_core (makes_of (D.X G) hm) (looks_findIn (D.X G) hi) (fun self => bind_fn (D.X G) self hf) (.inl rfl) ?_
  have D2 := (D.push (dictOf [] 0)).push (instObj C hh.objs.size)
  rw [Heap.size_push] at D2
  obtain ⟨oL2, H2, back2⟩ := D2.hp
  refine S (hh.objs.size + 1) hh.objs.size _ _ ((L, oL2) :: l) _ ((ar.le hk).make) (H2.perm ?_) fun v s' l' hs H' hp => ?_
  · exact (List.Perm.swap _ _ _).trans (List.Perm.cons _ (List.Perm.swap _ _ _))
  · obtain ⟨rfl, hp⟩ := hp
    obtain ⟨h', tk, rfl⟩ := hs
    exact ⟨rfl, h _ h' tk l' (back2 h' _ (H'.perm List.perm_middle)) hp⟩
end
end
theorem word17 : True := by
  k_with "exec FunctionDef" => (k_dflt (refine' nestDef_K ?d0 ?k0 ?a0 ?_; (case d0 => exact rfl); (case k0 => exact rfl); (case a0 => exact rfl)))
  trivial
section
open Builtin
section
variable {w : World} {g : Heap} {A : Around} {s : Shared} {L : Addr} {m : Str → Option Value} {l : Lgr} {E : Value → Shared → Prop}
theorem nestF {a c P : Addr} {i : Nat} {cn : Str} {cs : Scope} {ccd : Value} {cl clos : List (Str × Addr)} {name qual : Str} {params : Arguments} {body : List Stmt} {scope : Scope} {pos : Pos} {firstLine : Nat} {Q : Value → Shared → Prop} (G : Gd w g) (D : Led g L m s.heap l)
    (C : CodeHd g c P) (hcd : ccd = .ref c) (hi : l[i]? = some (P, tabObj #[])) (hcl : closureFor scope (envX cn cs L a ccd cl) = pure clos)
    (h : ∀ f c' oc vs t ctv doc pm h' tk fo, fo = fnMade name qual params body scope clos doc pm c' ctv → Led g L m h' ((f, fo) :: (c', oc) :: l.set i (P, tabObj #[rawInt pos.line, rawInt pos.col, .ref c'])) →
      oc.data = .fields vs → vs[1]? = some (.str qual t) → Q (.ref f) { s with heap := h', toks := tk }) :
    wpAny (model Pg w) A (makeFunction name qual params (.stmts body) scope (envX cn cs L a ccd cl) [] [] [] pos firstLine) Q E s :=
  nestL G D C hcd hi hcl fun f c' oc vs t ctv doc pm h' tk => h f c' oc vs t ctv doc pm h' tk _ rfl
theorem nestFHit {a c P c' : Addr} {i : Nat} {cn : Str} {cs : Scope} {ccd : Value} {cl clos : List (Str × Addr)} {name qual : Str} {params : Arguments} {body : List Stmt} {scope : Scope} {pos : Pos} {firstLine : Nat} {Q : Value → Shared → Prop} (G : Gd w g) (D : Led g L m s.heap l)
    (C : CodeHd g c P) (hcd : ccd = .ref c) (hi : l[i]? = some (P, tabObj #[rawInt pos.line, rawInt pos.col, .ref c'])) (hcl : closureFor scope (envX cn cs L a ccd cl) = pure clos)
    (h : ∀ f ctv doc pm h' tk fo, fo = fnMade name qual params body scope clos doc pm c' ctv → Led g L m h' ((f, fo) :: l) → Q (.ref f) { s with heap := h', toks := tk }) :
    wpAny (model Pg w) A (makeFunction name qual params (.stmts body) scope (envX cn cs L a ccd cl) [] [] [] pos firstLine) Q E s :=
  nestHit G D C hcd hi hcl fun f ctv doc pm h' tk => h f ctv doc pm h' tk _ rfl
end
end
-- M11
section
open Builtin
section
variable {w : World} {g : Heap} {A : Around} {s : Shared} {L : Addr} {m : Str → Option Value} {l : Lgr} {E : Value → Shared → Prop}
theorem extLoop {I S : Addr} {fp wr : List Addr} {n : Nat} {P : Nat → Value → Prop} {St : Nat → Heap → Prop} {res : Value} {R : Result → Shared → Prop} (W : Walks Pg w A.in1 I fp wr n P St) (hSf : S ∉ fp) :
    ∀ (k i : Nat) (s : Shared) (acc : Array Value) (c : Nat), i + k = n → St i s.heap → s.heap.get? S = some (listOf acc c) → acc.size + k ≤ 1000000 →
      (∀ h' tk acc' c', (∀ b o, b ≠ S → b ∉ wr → s.heap.get? b = some o → h'.get? b = some o) → h'.get? S = some (listOf acc' c') → acc'.size = acc.size + k → R (.ok (.ret res)) { s with heap := h', toks := tk }) →
      codeAny (model Pg w) A (.builtin "list.extend.loop" ⟨[.ref S, .ref I, res], []⟩) R s := by
  have hSw : S ∉ wr := fun h => hSf (W.sub _ h)
  intro k
  induction k with
  | zero =>
    intro i s acc c hk hst hS hz hR
    have hin : i = n := by omega
    subst hin
    refine codeAny_builtin F.entry_extend_loop ?_
    rw [Around.under_plainId F.plain_extend_loop _]
    show wpAny _ A.in1 (pyNext (.ref I) >>= _) _ _ s
    refine wpAny_bind (W.done s _ _ hst fun h' tk hm => ?_)
    exact wpAny_pure (hR h' tk acc c (fun b o _ hb e => hm b o hb e) (hm S _ hSw hS) rfl)
  | succ k ih =>
    intro i s acc c hk hst hS hz hR
    refine codeAny_builtin F.entry_extend_loop ?_
    rw [Around.under_plainId F.plain_extend_loop _]
    show wpAny _ A.in1 (pyNext (.ref I) >>= _) _ _ s
    refine wpAny_bind (W.item i s _ _ (by omega) hst fun v h' tk _ hst' hm => ?_)
    have hS' := hm S _ hSw hS
    show wpAny _ A.in1 (updateSeq S (·.push v) >>= _) _ _ _
    have hz2 : sizeLine = 16777216 := sizeLine_eq
    refine wpAny_bind (wpAny_updateSeq hS' rfl (wpAny_pure ⟨plainId_quiet F.plain_extend_loop _, ?_⟩) (by omega) (by rw [Array.size_push]; omega))
    refine ih (i + 1) _ (acc.push v) _ (by omega) (W.frame _ h' _ hst' fun b hb o e => (Heap.get?_update_other _ _ (fun h : S = b => hSf (by rw [h]; exact hb))).trans e) (Heap.get?_update_self _ hS' rfl) (by rw [Array.size_push]; omega) fun h'' tk' acc' c' hm' hS'' hz' => ?_
    refine hR h'' tk' acc' c' (fun b o h1 h2 e => hm' b o h1 h2 ((Heap.get?_update_other _ _ (Ne.symm h1)).trans (hm b o h2 e))) hS'' (by rw [hz', Array.size_push]; omega)
/-- all but the iterator ahead and the i-th object stand still -/
theorem Led.moved {h h' : Heap} {I S : Addr} {oI o o' : Obj} {i : Nat} (D : Led g L m h ((I, oI) :: l)) (hi : ((I, oI) :: l)[i + 1]? = some (S, o)) (hk : ∀ b o, b ≠ S → b ∉ [I] → h.get? b = some o → h'.get? b = some o) (hS : h'.get? S = some o') : Led g L m h' (l.set i (S, o')) := by
  rw [List.getElem?_cons_succ] at hi
  have hmem := List.mem_of_getElem? hi
  have gI := D.nw _ (.head _)
  have gS := D.nw _ (.tail _ hmem)
  have nd := D.nd
  rw [List.map_cons, List.nodup_cons] at nd
  have SI : S ≠ I := fun e => nd.1 (by rw [← e]; exact List.mem_map_of_mem (f := (·.1)) hmem)
  have k2 : ∀ b o, b ≠ S → b ≠ I → h.get? b = some o → h'.get? b = some o := fun b o h1 h2 e => hk b o h1 (by simpa using h2) e
  obtain ⟨hl, he⟩ := List.getElem?_eq_some_iff.mp hi
  obtain ⟨oL, es, ep, e1, r⟩ := D.ns
  refine ⟨⟨oL, es, ep, k2 _ _ gS.2.1.symm gI.2.1.symm e1, r⟩, fun b o e => k2 b o (fun q => by rw [q, gS.2.2] at e; cases e) (fun q => by rw [q, gI.2.2] at e; cases e) (D.keep b o e), D.gL, fun p hp => ?_, ?_⟩
  · obtain ⟨j, hj, rfl⟩ := List.getElem_of_mem hp
    rw [List.getElem_set]
    by_cases q : i = j
    · subst q; rw [if_pos rfl]; exact ⟨hS, gS.2⟩
    · rw [if_neg q]
      have hj' : j < l.length := by simpa using hj
      have z := D.nw _ (.tail _ (List.getElem_mem hj'))
      refine ⟨k2 _ _ (fun e => q ?_) (fun e => nd.1 (by rw [← e]; exact List.mem_map_of_mem (f := (·.1)) (List.getElem_mem hj'))) z.1, z.2⟩
      have hi1 : (l.map (·.1))[i]'(by simpa using hl) = S := by simp [he]
      have hj1 : (l.map (·.1))[j]'(by simpa using hj') = S := by simp [e]
      have pw := List.pairwise_iff_getElem.mp nd.2
      rcases Nat.lt_trichotomy i j with q1 | q1 | q1
      · exact absurd (hi1.trans hj1.symm) (pw i j (by simpa using hl) (by simpa using hj') q1)
      · exact q1
      · exact absurd (hj1.trans hi1.symm) (pw j i (by simpa using hj') (by simpa using hl) q1)
  · have e : (l.set i (S, o')).map (·.1) = l.map (·.1) := by
      rw [List.map_set]
      refine List.ext_getElem (by simp) fun j h1 h2 => ?_
      rw [List.getElem_set]
      by_cases q : i = j
      · subst q; rw [if_pos rfl]; simp [he]
      · rw [if_neg q]
    rw [e]; exact nd.2
theorem extendA {S : Addr} {its : Array Value} {c i : Nat} {x : Str} {t : Tok} {Q : Value → Shared → Prop} (hh : A.handled = none) (D : Led g L m s.heap l) (hi : l[i]? = some (S, listOf its c)) (ha : x.cps.all (· < 128) = true) (hz : its.size + x.length ≤ 1000000)
    (h : ∀ h' tk its' c', its'.size = its.size + x.length → Led g L m h' (l.set i (S, listOf its' c')) → Q .none { s with heap := h', toks := tk }) : wpAny (model Pg w) A (call (.builtin "list.extend") [.ref S, .str x t]) Q E s := by
  have hS := D.at hi
  have hT : s.TypeIs (.ref S) "list" := ⟨_, hS, rfl⟩
  refine wpAny_call (codeAny_call_builtin F.slot_list_extend.plain F.entry_list_extend (F.slot_list_extend.check _ _ _ _ _ _ _ _ hT (F.args_list_extend_2 _ _) ?_))
  show wpAny _ A.in1 (Builtin.List.listExtendWith (.ref S) (.str x t) .none) _ _ _
  unfold Builtin.List.listExtendWith
  refine wpAny_bind (wpAny_typeOf (typeIs_str _ _ _) ?_)
  rw [if_neg (by simp [Builtin.List.listSameRef])]
  refine wpAny_bind (wpAny_pyIter_ascii ha ?_)
  have D2 := D.push { cls := .type "str_ascii_iterator", data := .fields #[.str x t, .int 0 0] }
  have hit : (s.heap.push { cls := .type "str_ascii_iterator", data := .fields #[.str x t, .int 0 0] }).IsStrIter s.heap.objs.size "str_ascii_iterator" x t 0 := ⟨_, Heap.get?_push_size _ rfl, rfl, rfl⟩
  have hT2 : (⟨s.heap.push { cls := .type "str_ascii_iterator", data := .fields #[.str x t, .int 0 0] }, s.gens, s.drawn, s.toks, s.os⟩ : Shared).TypeIs (.ref s.heap.objs.size) "str_ascii_iterator" := ⟨_, Heap.get?_push_size _ rfl, rfl⟩
  have hSI : S ≠ s.heap.objs.size := Nat.ne_of_lt (Heap.lt_size hS)
  refine wpAny_bind (wpAny_holding ?_)
  unfold Builtin.List.listLengthHint
  refine wpAny_bind (wpAny_specialOf (typeIs_str _ _ _) F.slot_str_len.lookup ?_)
  (generalize hid : ("str.__len__" : String) = id0; wp_delta; rw [show splitId id0 = some ("str", "__len__") from by subst hid; decide +kernel]; subst hid)
  refine wpAny_bind (wpAny_isInstance (b := true) (typeIs_str _ _ _) (by rw [isSubtype_type]; kernel_rfl) ?_)
  rw [if_neg (by decide)]
  dsimp only
  rw [if_pos (by decide +kernel)]
  refine wpAny_bind (wpAny_typeOf (typeIs_str _ _ _) ?_)
  dsimp only
  refine wpAny_pure ?_
  rw [if_neg (by decide +kernel)]
  refine wpAny_pure ⟨plainId_quiet F.plain_extend_loop _, extLoop (Walks.strAscii (prog := Pg) (w := w) (A := A.in1) hh s.heap.objs.size x t) (by simp [hSI]) x.cps.size 0 _ its c (by omega) hit (Heap.get?_push_of_some _ hS) hz fun h' tk acc' c' hm hS' hz' => ?_⟩
  refine h h' tk acc' c' hz' ?_
  have gS := (D.nw _ (List.mem_of_getElem? hi)).2
  have D3 : Led g L m h' (l.set i (S, listOf acc' c')) := D2.moved (by rw [List.getElem?_cons_succ]; exact hi) hm hS'
  exact D3
end
end
-- M12
section
open Builtin
section
variable {w : World} {g : Heap} {A : Around} {s : Shared} {L : Addr} {m : Str → Option Value} {l : Lgr} {E : Value → Shared → Prop} {Q : Value → Shared → Prop}
theorem keptLed : KeptH (fun h => Led g L m h l) := fun h ob D => D.keeps fun b o e => Heap.get?_push_of_some _ e
theorem isList {a : Addr} {its : Array Value} {n i : Nat} (D : Led g L m s.heap l) (hi : l[i]? = some (a, listOf its n)) : s.heap.IsList a its := ⟨_, D.at hi, rfl, n, rfl⟩
theorem lenL {a : Addr} {its : Array Value} {n i : Nat} (D : Led g L m s.heap l) (hi : l[i]? = some (a, listOf its n)) (hz : its.size ≤ 1000000) (h : ∀ t tk, Q (.int its.size t) { s with toks := tk }) : wpAny (model Pg w) A (call (.builtin "len") [.ref a]) Q E s :=
  Calls.call_len_list (isList D hi) (by omega) (h _ _)
theorem methL {a : Addr} {its : Array Value} {n i : Nat} {name : Str} {id : String} {pl : Sem Bool} {Q : Value × List Value → Shared → Prop} (D : Led g L m s.heap l) (hi : l[i]? = some (a, listOf its n)) (slot : Slot "list" name id) (hty : typeOf (.builtin id) = pure (.type "method_descriptor"))
    (h : Q (.builtin id, [.ref a]) s) : wpAny (model Pg w) A (getMethod (.ref a) name pl) Q E s := listMethod_K D.nw0 (List.mem_of_getElem? hi) slot hty h
theorem appL {a : Addr} {its : Array Value} {n i : Nat} {v : Value} (D : Led g L m s.heap l) (hi : l[i]? = some (a, listOf its n)) (hz : its.size ≤ 1000000) (h : ∀ h' n', Led g L m h' (l.set i (a, listOf (its.push v) n')) → Q .none { s with heap := h' }) : wpAny (model Pg w) A (call (.builtin "list.append") [.ref a, v]) Q E s :=
  append_at (hsz := by have : sizeLine = 16777216 := sizeLine_eq; omega) (D.at hi) fun _ hs ho => h _ _ (D.put hi hs ho)
theorem sliceS {x : Str} {t : Tok} {value slice : Expr} {i j : Int} {ui uj : Tok} (D : Led g L m s.heap l) (hz : x.length ≤ 1000000) (h : ∀ h' t' k, Led g L m h' l → Q (.str (Txt.slice x (some i) (some j)) t') { s with heap := h', toks := k })
    (hs : subscripted slice false (.str x t) (.ref s.heap.objs.size) = operate [.ref s.heap.objs.size, .str x t] (getItem (.str x t) (.ref s.heap.objs.size)) := by with_unfolding_all rfl)
    (ht : ∀ r, letTemporaryGo value (.str x t) r = pure () := by intro _; with_unfolding_all rfl) :
    wpAny (model Pg w) A (subscriptTail value slice (.str x t) (.ref s.heap.objs.size)) Q E { s with heap := s.heap.push { cls := .type "slice", data := .fields #[.int i ui, .int j uj, .none] } } :=
  tail_of_ItemOn (SBH.sliceItem_ss keptLed D h (by have : sizeLine = 16777216 := sizeLine_eq; omega)) hs ht
theorem sliceS_ns {x : Str} {t : Tok} {value slice : Expr} {j : Int} {uj : Tok} (D : Led g L m s.heap l) (hz : x.length ≤ 1000000) (h : ∀ h' t' k, Led g L m h' l → Q (.str (Txt.slice x none (some j)) t') { s with heap := h', toks := k })
    (hs : subscripted slice false (.str x t) (.ref s.heap.objs.size) = operate [.ref s.heap.objs.size, .str x t] (getItem (.str x t) (.ref s.heap.objs.size)) := by with_unfolding_all rfl)
    (ht : ∀ r, letTemporaryGo value (.str x t) r = pure () := by intro _; with_unfolding_all rfl) :
    wpAny (model Pg w) A (subscriptTail value slice (.str x t) (.ref s.heap.objs.size)) Q E { s with heap := s.heap.push { cls := .type "slice", data := .fields #[.none, .int j uj, .none] } } :=
  tail_of_ItemOn (SBH.sliceItem_ns keptLed D h (by have : sizeLine = 16777216 := sizeLine_eq; omega)) hs ht
theorem sliceS_sn {x : Str} {t : Tok} {value slice : Expr} {i : Int} {ui : Tok} (D : Led g L m s.heap l) (hz : x.length ≤ 1000000) (h : ∀ h' t' k, Led g L m h' l → Q (.str (Txt.slice x (some i) none) t') { s with heap := h', toks := k })
    (hs : subscripted slice false (.str x t) (.ref s.heap.objs.size) = operate [.ref s.heap.objs.size, .str x t] (getItem (.str x t) (.ref s.heap.objs.size)) := by with_unfolding_all rfl)
    (ht : ∀ r, letTemporaryGo value (.str x t) r = pure () := by intro _; with_unfolding_all rfl) :
    wpAny (model Pg w) A (subscriptTail value slice (.str x t) (.ref s.heap.objs.size)) Q E { s with heap := s.heap.push { cls := .type "slice", data := .fields #[.int i ui, .none, .none] } } :=
  tail_of_ItemOn (SBH.sliceItem_sn keptLed D h (by have : sizeLine = 16777216 := sizeLine_eq; omega)) hs ht
end
end
theorem word18 : True := by
  k_with "mine room" => (first | exact Nat.le_trans (by with_reducible assumption) (by decide) | omega | (simp only [List.size_toArray, List.length_append, List.length_cons, List.length_nil] at *; omega) | (simp; omega))
  trivial
theorem word19 : True := by
  k_with "call builtin:len" => (k_dflt ((with_reducible rename Led _ _ _ _ _ => D0); (refine' lenL D0 ?k1 ?k2 ?_; (case k1 => walk_at "mine at"); (case k2 => walk_at "mine room"); k_whole; intro _ _)))
  trivial
theorem word20 : True := by
  k_with "call builtin:list.append" => (k_dflt ((with_reducible rename Led _ _ _ _ _ => D0); (refine' appL D0 ?k1 ?k2 ?_; (case k1 => walk_at "mine at"); (case k2 => walk_at "mine room"); k_whole; intro _ _ dZ; (try simp only [List.set_cons_zero, List.set_cons_succ] at dZ); (try clear D0))))
  trivial
theorem word21 : True := by
  k_with "call builtin:list.extend" => (k_dflt ((with_reducible rename Led _ _ _ _ _ => D0); (refine' extendA ?kA D0 ?k1 ?k3 ?k2 ?_; (case kA => exact Ar.hh (by assumption)); (case k1 => walk_at "mine at"); (case k3 => first | assumption | decide); (case k2 => walk_at "mine room"); k_whole; intro _ _ _ _ _ dZ; (try simp only [List.set_cons_zero, List.set_cons_succ] at dZ); (try clear D0))))
  trivial
theorem word22 : True := by
  k_with "getMethod ref" => (k_dflt ((with_reducible rename Led _ _ _ _ _ => D0); first
      | ((with_reducible show wpAny _ _ (getMethod (Value.ref _) (PySem.Str.ofString "append") _) _ _ _); refine' methL D0 ?k1 PySem.F.slot_list_append PySem.F.type_list_append ?_; (case k1 => walk_at "mine at"); k_whole)
      | ((with_reducible show wpAny _ _ (getMethod (Value.ref _) (PySem.Str.ofString "extend") _) _ _ _); refine' methL D0 ?k1 PySem.F.slot_list_extend PySem.F.type_list_extend ?_; (case k1 => walk_at "mine at"); k_whole)
      | ((with_reducible show wpAny _ _ (getMethod (Value.ref _) (PySem.Str.ofString "pop") _) _ _ _); refine' methL D0 ?k1 PySem.F.slot_list_pop PySem.F.type_list_pop ?_; (case k1 => walk_at "mine at"); k_whole)
      | ((with_reducible show wpAny _ _ (getMethod (Value.ref _) (PySem.Str.ofString "index") _) _ _ _); refine' methL D0 ?k1 PySem.F.slot_list_index PySem.F.type_list_index ?_; (case k1 => walk_at "mine at"); k_whole)
      | ((with_reducible show wpAny _ _ (getMethod (Value.ref _) (PySem.Str.ofString "count") _) _ _ _); refine' methL D0 ?k1 PySem.F.slot_list_count PySem.F.type_list_count ?_; (case k1 => walk_at "mine at"); k_whole)
      | (refine' methGet ?kG D0 ?k1 ?k2 ?k3 ?k4 ?k5 ?k6 ?_; (case kG => assumption); (case k1 => walk_at "mine at"); (case k2 => walk_at "mine at"); (case k3 => k_is); (case k4 => k_is); (case k5 => k_is); (case k6 => k_get); k_whole)
      | (refine' methOwn ?kG D0 ?k1 ?k2 ?k3 ?k4 ?k5 ?k6 ?k7 ?k8 ?_; (case kG => assumption); (case k1 => walk_at "mine at"); (case k2 => walk_at "mine at"); (case k3 => k_is); (case k4 => k_is); (case k5 => k_is); (case k6 => k_is); (case k7 => k_get); (case k8 => k_handed); k_whole; intro _)))
  trivial
theorem word23 : True := by
  k_with "subscriptTail Name Slice str ref" => (k_dflt ((with_reducible rename Led _ _ _ _ _ => D0); first
      | ((with_reducible show wpAny _ _ (subscriptTail _ (Expr.Slice (some _) (some _) none _) _ _) _ _ _); refine' sliceS (s := ⟨_, _, _, _, _⟩) D0 ?k1 ?_; (case k1 => walk_at "mine room"); k_whole; intro _ _ _ _; (try clear D0))
      | ((with_reducible show wpAny _ _ (subscriptTail _ (Expr.Slice none (some _) none _) _ _) _ _ _); refine' sliceS_ns (s := ⟨_, _, _, _, _⟩) D0 ?k1 ?_; (case k1 => walk_at "mine room"); k_whole; intro _ _ _ _; (try clear D0))
      | ((with_reducible show wpAny _ _ (subscriptTail _ (Expr.Slice (some _) none none _) _ _) _ _ _); refine' sliceS_sn (s := ⟨_, _, _, _, _⟩) D0 ?k1 ?_; (case k1 => walk_at "mine room"); k_whole; intro _ _ _ _; (try clear D0))))
  trivial
-- M13
section
open Builtin
section
variable {w : World} {g : Heap} {A : Around} {s : Shared} {L : Addr} {m : Str → Option Value} {l : Lgr} {E : Value → Shared → Prop}
theorem truthyL {a : Addr} {its : List Value} {n i : Nat} {Q : Bool → Shared → Prop} (D : Led g L m s.heap l) (hi : l[i]? = some (a, listOf its.toArray n)) (hz : its.length ≤ 1000000) (h : ∀ tk, Q (!its.isEmpty) { s with toks := tk }) : wpAny (model Pg w) A (truthy (.ref a)) Q E s := by
  refine wpAny_truthy_list (isList D hi) (by rw [List.size_toArray]; omega) ?_
  have e : its.toArray.isEmpty = its.isEmpty := by simp
  rw [e]; exact h _
theorem popL0 {a : Addr} {y : Value} {r : List Value} {n i : Nat} {u : Tok} {Q : Value → Shared → Prop} (D : Led g L m s.heap l) (hi : l[i]? = some (a, listOf (y :: r).toArray n)) (hz : r.length ≤ 1000000) (h : ∀ h' n', Led g L m h' (l.set i (a, listOf r.toArray n')) → Q y { s with heap := h' }) :
    wpAny (model Pg w) A (call (.builtin "list.pop") [.ref a, .int 0 u]) Q E s := by
  have z := D.at hi
  have hl : sizeLine = 16777216 := sizeLine_eq
  refine call_meets PySem.F.slot_list_pop ⟨_, z, rfl⟩ PySem.F.entry_list_pop (PySem.F.args_list_pop_2 _ _) (PySem.MeetsSeq.list_pop_at a (y :: r).toArray n 0 u 0 y (by decide) (by simp [seqIndex?]) (by simp) (by simp; omega)) ⟨z, ?_⟩
  have e := Heap.get?_update_self (Obj.mapSeq fun xs => xs.eraseIdxIfInBounds 0) z rfl
  have e2 : (y :: r).toArray.eraseIdxIfInBounds 0 = r.toArray := by simp
  have e3 : Obj.mapSeq (fun xs => xs.eraseIdxIfInBounds 0) (W.listOf (y :: r).toArray n) = W.listOf r.toArray (n + 1) := by
    simp [Obj.mapSeq, e2]
  rw [e3] at e
  exact h _ _ (D.put hi (Heap.SameBut.update ..) e)
end
end
theorem word24 : True := by
  k_with "truthy ref" => (k_dflt ((with_reducible rename Led _ _ _ _ _ => D0); (refine' truthyL D0 ?k1 ?k2 ?_; (case k1 => walk_at "mine at"); (case k2 => walk_at "mine room"); k_whole; intro _)))
  trivial
theorem word25 : True := by
  k_with "call builtin:list.pop" => (k_dflt ((with_reducible rename Led _ _ _ _ _ => D0); (refine' popL0 D0 ?k1 ?k2 ?_; (case k1 => walk_at "mine at"); (case k2 => walk_at "mine room"); k_whole; intro _ _ dZ; (try simp only [List.set_cons_zero, List.set_cons_succ] at dZ); (try clear D0))))
  trivial
section
open Builtin
theorem iteT {c : Bool} {P Q : Prop} (hc : c = true) (h : P) : if c = true then P else Q := by rw [if_pos hc]; exact h
theorem iteF {c : Bool} {P Q : Prop} (hc : c = false) (h : Q) : if c = true then P else Q := by rw [if_neg (by rw [hc]; decide)]; exact h
theorem iteNT {c : Bool} {P Q : Prop} (hc : c = false) (h : P) : if (!c) = true then P else Q := by rw [hc]; exact h
theorem iteNF {c : Bool} {P Q : Prop} (hc : c = true) (h : Q) : if (!c) = true then P else Q := by rw [hc]; exact h
theorem iteE {c : Bool} {P Q : Prop} (hc : c = true → P) (h : c = false → Q) : if c = true then P else Q := by
  cases e : c with
  | true => exact hc e
  | false => exact h e
end
theorem word26 : True := by
  k_with "ite" => (with_reducible first
      | (refine' iteT ?k ?_; (case k => assumption))
      | (refine' iteF ?k ?_; (case k => assumption))
      | (refine' iteNT ?k ?_; (case k => assumption))
      | (refine' iteNF ?k ?_; (case k => assumption)))
  trivial
section
open Builtin
theorem ldL {M : Model} {g : Heap} {A : Around} {s : Shared} {env : Env} {m : Str → Option Value} {l : Lgr} {E : Value → Shared → Prop} {x : Str} {v : Value} {Q : Value → Shared → Prop} {L : Addr} (D : Led g L m s.heap l) (hL : env.locals = L) (hk : env.scope.kind = .function) (hx : env.kindOf x = some .local) (hv : m x = some v) (h : Q v s) : wpAny M A (loadName env x) Q E s := by
  subst hL
  exact wpAny_loadName_local hk hx D.ns hv h
end
theorem word27 : True := by
  k_with "loadName" => (k_dflt ((with_reducible rename Led _ _ _ _ _ => D0); (refine' ldL D0 ?k1 ?k2 ?k3 ?k4 ?_; (case k3 => kernel_rfl!); (case k1 => exact rfl); (case k2 => kernel_rfl!); (case k4 => exact rfl); k_whole)))
  trivial
section
open Builtin
section
variable {w : World} {A : Around} {s : Shared} {E : Value → Shared → Prop} {x y : Str} {t u : Tok} {Q : Value → Shared → Prop}
theorem addS (hz : x.length + y.length ≤ 1000000) (h : ∀ t' k, Q (.str (x ++ y) t') { s with toks := k }) : wpAny (model Pg w) A (binaryOp .Add (.str x t) (.str y u)) Q E s := SB.add h (by have : sizeLine = 16777216 := sizeLine_eq; omega)
theorem iaddS (hz : x.length + y.length ≤ 1000000) (h : ∀ t' k, Q (.str (x ++ y) t') { s with toks := k }) : wpAny (model Pg w) A (inplaceOp .Add (.str x t) (.str y u)) Q E s := SB.iadd h (by have : sizeLine = 16777216 := sizeLine_eq; omega)
end
theorem len_nil : (Str.ofString "").length = 0 := by decide
theorem str_len_app (x y : Str) : (x ++ y).length = x.length + y.length := Str.length_append x y
end
theorem word28 : True := by
  k_with "mine len" => (first | omega | (simp only [str_len_app, len_nil, len_strOf, len_one, List.length_append, List.length_cons, List.length_nil]; omega) | decide)
  trivial
theorem word29 : True := by
  k_with "binaryOp Add str str" => ((refine' addS ?k1 ?_; (case k1 => walk_at "mine len"); k_whole; intro _ _))
  trivial
theorem word30 : True := by
  k_with "inplaceOp Add str str" => ((refine' iaddS ?k1 ?_; (case k1 => walk_at "mine len"); k_whole; intro _ _))
  trivial
-- M14
section
open Builtin
/-- a dict with integer keys, as an object of the ledger -/
structure DK (w : World) (d : Addr) (o : Obj) (kvs : List (Int × Value)) : Prop where
  dict : o.IsDictOf (intKind Pg w) kvs
  low : (d == sysModules) = false
section
variable {w : World} {g : Heap} {A : Around} {s : Shared} {L : Addr} {m : Str → Option Value} {l : Lgr} {E : Value → Shared → Prop} {d : Addr} {o : Obj} {kvs : List (Int × Value)} {i : Nat} {k : Int} {t : Tok}
theorem dNew {env : Env} {pos : Pos} {Q : Value → Shared → Prop} (G : Gd w g) (D : Led g L m s.heap l) (h : ∀ d h' o, Led g L m h' ((d, o) :: l) → DK w d o [] → Q (.ref d) { s with heap := h' }) : wpAny (model Pg w) A (eval (.Dict [] [] pos) env) Q E s := by
  refine wpAny_Dict_empty (h _ _ _ (D.push _) ⟨?_, ?_⟩)
  · obtain ⟨o, ho, hd⟩ := Heap.dictOf_iff.mp (Heap.DictOf.new (knd := intKind Pg w) s.heap)
    rw [Heap.get?_push_size _ rfl] at ho
    exact (Option.some.inj ho) ▸ hd
  · obtain ⟨_, _, _, _, _, T⟩ := G.T
    have := modules_low (T.nolimit.keeps D.keep)
    exact beq_eq_false_iff_ne.mpr (Nat.ne_of_gt this)
theorem DK.at (K : DK w d o kvs) (D : Led g L m s.heap l) (hi : l[i]? = some (d, o)) : s.heap.DictOf (intKind Pg w) d kvs := Heap.dictOf_iff.mpr ⟨o, D.at hi, K.dict⟩
theorem dNotIn {Q : Value → Shared → Prop} (D : Led g L m s.heap l) (hi : l[i]? = some (d, o)) (K : DK w d o kvs) (h : ∀ tk, Q (.bool (!(valueAt kvs k).isSome)) { s with toks := tk }) : wpAny (model Pg w) A (compareOp .NotIn (.int k t) (.ref d)) Q E s :=
  wpAny_notIn_of (intKind_is Pg w k t) K.low (K.at D hi).mapOf (h _)
theorem dGet {value slice : Expr} {v : Value} {Q : Value → Shared → Prop} (D : Led g L m s.heap l) (hi : l[i]? = some (d, o)) (K : DK w d o kvs) (hv : valueAt kvs k = some v) (h : ∀ tk, Q v { s with toks := tk })
    (hs : subscripted slice false (.ref d) (.int k t) = operate [.ref d, .int k t] (getItem (.ref d) (.int k t)) := by with_unfolding_all rfl) : wpAny (model Pg w) A (subscriptTail value slice (.ref d) (.int k t)) Q E s :=
  tail_any (K.at D hi).typeIs slot_dict_getitem.lookup (wpAny_getItem_of (intKind_is Pg w k t) (K.at D hi).mapOf hv (h _)) hs
theorem dSet {v : Value} {Q : Unit → Shared → Prop} (D : Led g L m s.heap l) (hi : l[i]? = some (d, o)) (K : DK w d o kvs) (hz : kvs.length ≤ 1000000) (h : ∀ h' o' tk, Led g L m h' (l.set i (d, o')) → DK w d o' (stored kvs k v) → Q () { s with heap := h', toks := tk }) :
    wpAny (model Pg w) A (setItem (.ref d) (.int k t) v) Q E s := by
  refine wpAny_setItem_pairs (intKind_is Pg w k t) (K.at D hi) (fun h' hm hs => ?_) (by have : sizeLine = 16777216 := sizeLine_eq; omega)
  obtain ⟨o', ho', hd'⟩ := Heap.dictOf_iff.mp hm
  exact h h' o' _ (D.put hi hs ho') ⟨hd', K.low⟩
theorem it_dict {Q : Value → Shared → Prop} (ar : A.handled = none) (D : Led g L m s.heap l) (hi : l[i]? = some (d, o)) (K : DK w d o kvs)
    (h : ItK w g A L m l [(d, o)] kvs.length (fun i v q => (∃ k x, kvs[i]? = some (k, x) ∧ (intKind Pg w).is k v = true) ∧ q = []) s Q) : wpAny (model Pg w) A (pyIter (.ref d)) Q E s := by
  obtain ⟨es, ep, r1, r2, r3, r4, r5⟩ := id K.dict
  have hat : s.heap.DictAt (intKind Pg w) d kvs ep := ⟨o, es, D.at hi, r1, r2, r3, r4, r5⟩
  have hne : d ≠ s.heap.objs.size := Nat.ne_of_lt (Heap.lt_size (D.at hi))
  refine wpAny_pyIter_dict K.low hat ?_
  have W := Walks.dictKeys (prog := Pg) (w := w) (knd := intKind Pg w) ar s.heap.objs.size d hne kvs ep
  exact itK_of W (fun i h st b hb => by
      rcases List.mem_cons.mp hb with rfl | hb
      · obtain ⟨o, ho, _⟩ := st.1; exact ⟨o, ho⟩
      · rw [List.mem_singleton.mp hb]; obtain ⟨o, es, ho, _⟩ := st.2; exact ⟨o, ho⟩) D rfl (fun b hb => List.mem_singleton.mp hb) (List.mem_cons_self ..) (fun b hb => by
      rcases List.mem_cons.mp hb with rfl | hb
      · exact .inl rfl
      · exact .inr (by simpa using List.mem_singleton.mp hb)) (mem_keys hi) rfl ⟨⟨_, Heap.get?_push_size _ rfl, rfl, rfl⟩, ⟨o, es, Heap.get?_push_of_some _ (D.at hi), r1, r2, r3, r4, r5⟩⟩ h
theorem isInt_int {k : Int} {v : Value} (h : (intKind Pg w).is k v = true) : ∃ t, v = .int k t := Value.isInt_shape h
end
end
theorem word31 : True := by
  k_with "eval Dict" => (k_dflt ((with_reducible rename Led _ _ _ _ _ => D0); (refine' dNew ?kG D0 ?_; (case kG => assumption); k_whole; intro _ _ _ _ _; (try clear D0))))
  trivial
theorem word32 : True := by
  k_with "compareOp NotIn" => (k_dflt ((with_reducible show wpAny _ _ (compareOp CmpOp.NotIn (Value.int _ _) (Value.ref _)) _ _ _); (with_reducible rename Led _ _ _ _ _ => D0); (refine' dNotIn D0 ?k1 ?k2 ?_; (case k2 => assumption); (case k1 => walk_at "mine at"); k_whole; intro _)))
  trivial
theorem word33 : True := by
  k_with "setItem ref int" => (k_dflt ((with_reducible rename Led _ _ _ _ _ => D0); (refine' dSet D0 ?k1 ?k2 ?k3 ?_; (case k2 => assumption); (case k1 => walk_at "mine at"); (case k3 => walk_at "mine room"); k_whole; intro _ _ _ dZ _; (try simp only [List.set_cons_zero, List.set_cons_succ] at dZ); (try clear D0))))
  trivial
-- M15
section
open Builtin
section
variable {w : World} {g : Heap} {A : Around} {s : Shared} {L : Addr} {m : Str → Option Value} {l : Lgr} {E : Value → Shared → Prop}
/-- a, b = a pair -/
theorem unpack2 {x y : Str} {px py pos : Pos} {k0 : Nat} {env : Env} {T : Addr} {o : Obj} {a b : Value} {n i : Nat} {bb : List (Str × Value)} {Q : Unit → Shared → Prop} (hh : A.handled = none) (D : Led g L (mp bb) s.heap l) (hi : l[i]? = some (T, o)) (hc : o.cls = .type "tuple") (hd : o.data = .seq #[a, b] n)
    (hL : env.locals = L) (hk : env.scope.kind = .function) (hx : env.kindOf x = some .local) (hy : env.kindOf y = some .local)
    (h : ∀ h' tk, Led g L (mp ((y, b) :: (x, a) :: bb)) h' l → Q () { s with heap := h', toks := tk }) : wpAny (model Pg w) A (assign (.Tuple [.Name x px, .Name y py] k0 pos) env (.ref T)) Q E s := by
  refine wpAny_assign_Tuple hh ⟨o, D.at hi, hc, n, hd⟩ rfl rfl fun h' hx' => ?_
  have D1 : Led g L (mp bb) h' l := D.keeps fun c oc e => hx' c oc (Nat.ne_of_lt (Heap.lt_size e)) e
  refine wpAny_assignInOrder_more (wpAny_assign_Name (stL D1 hL hk hx fun h2 D2 => ?_))
  refine wpAny_assignInOrder_more (wpAny_assign_Name (stL D2 hL hk hy fun h3 D3 => ?_))
  exact wpAny_assignInOrder_none (h h3 _ D3)

/-- an enumerate object over a string's iterator, both in the ledger -/
noncomputable def EnumS (x : Str) (t : Tok) (e it : Addr) (oe oi : Obj) : Prop := ∀ h : Heap, h.get? e = some oe → h.get? it = some oi → IsEnum h e it 0 .none ∧ h.IsStrIter it "str_ascii_iterator" x t 0
theorem enumS {x : Str} {t : Tok} {Q : Value → Shared → Prop} (ha : x.cps.all (· < 128) = true) (D : Led g L m s.heap l) (h : ∀ e it oe oi h', EnumS x t e it oe oi → Led g L m h' ((e, oe) :: (it, oi) :: l) → Q (.ref e) { s with heap := h' }) :
    wpAny (model Pg w) A (call (.type "enumerate") [.str x t]) Q E s := by
  refine call_enumerate_str fun h' hE hI hz hk => ?_
  have hI : h'.IsStrIter s.heap.objs.size "str_ascii_iterator" x t 0 := by
    have : strIterType x = "str_ascii_iterator" := by unfold strIterType; rw [if_pos ha]
    rw [this] at hI; exact hI
  obtain ⟨oi, hoi, r⟩ := id hI
  obtain ⟨oe, hoe⟩ : ∃ oe, h'.get? (s.heap.objs.size + 1) = some oe := ⟨_, hE⟩
  have D1 := D.keeps hk
  have fresh : ∀ b, s.heap.objs.size ≤ b → g.get? b = none := fun b hb => by
    cases q : g.get? b with
    | none => rfl
    | some o => exact absurd (Heap.lt_size (D.keep _ _ q)) (Nat.not_lt.mpr hb)
  have old : ∀ p ∈ l, p.1 < s.heap.objs.size := fun p hp => Heap.lt_size (D.nw p hp).1
  have Lo := D.ns.lt
  refine h (s.heap.objs.size + 1) s.heap.objs.size oe oi h' (fun h₂ e1 e2 => ⟨?_, ⟨oi, e2, r⟩⟩) ⟨D1.ns, D1.keep, D1.gL, fun p hp => ?_, ?_⟩
  · show h₂.get? _ = some _
    have h4 : h'.get? (s.heap.objs.size + 1) = some _ := hE
    rw [hoe] at h4
    rw [e1, h4]
  · rcases List.mem_cons.mp hp with rfl | hp
    · exact ⟨hoe, Nat.ne_of_gt (Nat.lt_succ_of_lt Lo), fresh _ (by show _ ≤ s.heap.objs.size + 1; omega)⟩
    · rcases List.mem_cons.mp hp with rfl | hp
      · exact ⟨hoi, Nat.ne_of_gt Lo, fresh _ (Nat.le_refl _)⟩
      · exact D1.nw p hp
  · rw [List.map_cons, List.map_cons, List.nodup_cons, List.nodup_cons]
    refine ⟨fun hm => ?_, fun hm => ?_, D.nd⟩
    · rcases List.mem_cons.mp hm with hm | hm
      · simp at hm
      · obtain ⟨p, hp, e⟩ := List.mem_map.mp hm
        have := old p hp
        rw [e] at this
        exact absurd this (Nat.not_lt.mpr (Nat.le_succ _))
    · obtain ⟨p, hp, e⟩ := List.mem_map.mp hm
      have := old p hp
      rw [e] at this
      exact absurd this (Nat.lt_irrefl _)
/-- the items of enumerate(x) -/
noncomputable abbrev enumP (x : Str) (i : Nat) (v : Value) (q : Lgr) : Prop := ∃ T vals o, (∃ t y, (∃ c u, x.cps[i]? = some c ∧ y = .str ⟨#[c]⟩ u) ∧ vals = #[.int i t, y]) ∧ v = .ref T ∧ q = [(T, o)] ∧ o.cls = .type "tuple" ∧ ∃ m, o.data = .seq vals m
theorem it_enumS {x : Str} {t : Tok} {e it : Addr} {oe oi : Obj} {Q : Value → Shared → Prop} (ar : A.handled = none) (D : Led g L m s.heap ((e, oe) :: (it, oi) :: l)) (hE : EnumS x t e it oe oi)
    (h : Led g L m s.heap (l ++ [(e, oe), (it, oi)]) → (∀ elts k0 px, Yields w g A (.Tuple elts k0 px) (.ref e) [] (pl x.cps.size (enumP x)) [(e, oe), (it, oi)]) → Q (.ref e) s) : wpAny (model Pg w) A (pyIter (.ref e)) Q E s := by
  obtain ⟨h1, h2⟩ := hE s.heap (D.nw _ (.head _)).1 (D.nw _ (.tail _ (.head _))).1
  have nd := D.nd
  rw [List.map_cons, List.map_cons, List.nodup_cons] at nd
  have hne : e ≠ it := fun q => nd.1 (by rw [q]; exact .head _)
  refine wpAny_pyIter_enum h1 (h (D.perm (List.perm_append_comm (l₁ := [(e, oe), (it, oi)]))) fun elts k0 px => ?_)
  have W := WalksT.enumerateD (A := A) (Draws.strAscii (prog := Pg) (w := w) (A := A.in1) ar it x t) e hne (by simpa using hne) (by simp)
  refine Yields.of_walksT (S := []) W (fun i h st b hb => ?_) x.cps.size 0 _ (by omega) (by simp) (by simp) (by simp) ⟨s.heap, fun p hp => ?_, (fun _ hp => nomatch hp), ⟨_, h1⟩, h2⟩
  · rcases List.mem_cons.mp hb with rfl | hb
    · obtain ⟨⟨old, he⟩, _⟩ := st; exact ⟨_, he⟩
    · rw [List.mem_singleton.mp hb]; obtain ⟨_, o, ho, _⟩ := st; exact ⟨o, ho⟩
  · rcases List.mem_cons.mp hp with rfl | hp
    · exact (D.nw _ (.head _)).1
    · rw [List.mem_singleton.mp hp]; exact (D.nw _ (.tail _ (.head _))).1
end
end
theorem word34 : True := by
  k_with "assign Tuple" => (k_dflt ((with_reducible show wpAny _ _ (assign (Expr.Tuple [Expr.Name _ _, Expr.Name _ _] _ _) _ (Value.ref _)) _ _ _); (with_reducible rename Led _ _ _ _ _ => D0); (refine' unpack2 ?kA D0 ?k1 ?k2 ?k3 ?k4 ?k5 ?k6 ?k7 ?_; (case kA => exact Ar.hh (by assumption)); (case k1 => walk_at "mine at"); (case k2 => first | assumption | exact rfl); (case k3 => first | assumption | exact rfl); (case k4 => exact rfl); (case k5 => kernel_rfl!); (case k6 => kernel_rfl!); (case k7 => kernel_rfl!); k_whole; intro _ _ _; (try clear D0))))
  trivial
theorem word35 : True := by
  k_with "call type:enumerate" => (k_dflt ((with_reducible rename Led _ _ _ _ _ => D0); (refine' enumS ?k1 D0 ?_; (case k1 => assumption); k_whole; intro _ _ _ _ _ _ _; (try clear D0))))
  trivial
section
open Builtin
/-- an item of a list -/
theorem itemL {w : World} {g : Heap} {A : Around} {s : Shared} {L : Addr} {m : Str → Option Value} {l : Lgr} {E : Value → Shared → Prop} {value slice : Expr} {a : Addr} {its : List Value} {n i : Nat} {k : Int} {u : Tok} {x : Value} {Q : Value → Shared → Prop} (D : Led g L m s.heap l) (hi : l[i]? = some (a, listOf its.toArray n)) (h0 : 0 ≤ k) (hk : k < 1000000) (hx : its[k.toNat]? = some x) (h : Q x s)
    (hs : subscripted slice false (.ref a) (.int k u) = operate [.ref a, .int k u] (getItem (.ref a) (.int k u)) := by with_unfolding_all rfl) : wpAny (model Pg w) A (subscriptTail value slice (.ref a) (.int k u)) Q E s :=
  item_listR (isList D hi) h0 (by omega) (by simpa using hx) h hs
theorem unpI {w : World} {g : Heap} {A : Around} {s : Shared} {L : Addr} {m : Str → Option Value} {l : Lgr} {E : Value → Shared → Prop} {T : Addr} {o : Obj} {vs : Array Value} {n n' i : Nat} {Q : List Value → Shared → Prop} (hh : A.handled = none) (D : Led g L m s.heap l) (hi : l[i]? = some (T, o)) (hc : o.cls = .type "tuple") (hd : o.data = .seq vs n) (hn : n' = vs.size)
    (h : ∀ h', Led g L m h' l → Q vs.toList { s with heap := h' }) : wpAny (model Pg w) A (unpackItems (.ref T) n' none) Q E s := by
  subst hn
  exact wpAny_unpackItems_tuple hh ⟨o, D.at hi, hc, n, hd⟩ fun h' hx => h h' (D.keeps fun c oc e => hx c oc (Nat.ne_of_lt (Heap.lt_size e)) e)
end
theorem word36 : True := by
  k_with "unpackItems" => (k_dflt ((with_reducible rename Led _ _ _ _ _ => D0); (refine' unpI ?kA D0 ?k1 ?k2 ?k3 ?k4 ?_; (case kA => exact Ar.hh (by assumption)); (case k1 => walk_at "mine at"); (case k2 => first | assumption | exact rfl); (case k3 => first | assumption | exact rfl); (case k4 => kernel_rfl!); k_whole; intro _ _; (try clear D0))))
  trivial
theorem word37 : True := by
  k_with "unpackItems ref" => (k_dflt ((with_reducible rename Led _ _ _ _ _ => D0); (refine' unpI ?kA D0 ?k1 ?k2 ?k3 ?k4 ?_; (case kA => exact Ar.hh (by assumption)); (case k1 => walk_at "mine at"); (case k2 => first | assumption | exact rfl); (case k3 => first | assumption | exact rfl); (case k4 => kernel_rfl!); k_whole; intro _ _; (try clear D0))))
  trivial
-- K1
/-- a guest's letter -/
noncomputable def lettr (g : Nat) : Str := one (97 + g)
noncomputable def hstr : Option Nat → Str
  | none => Str.ofString ""
  | some g => lettr g
theorem nodup_le : ∀ (n : Nat) (l : List Nat), l.Nodup → (∀ x ∈ l, x < n) → l.length ≤ n
  | 0, l, _, h => by
    cases l with
    | nil => simp
    | cons a r => exact absurd (h a (.head _)) (Nat.not_lt_zero _)
  | n + 1, l, nd, h => by
    by_cases hn : n ∈ l
    · have h1 : (l.erase n).length = l.length - 1 := List.length_erase_of_mem hn
      have h2 := nodup_le n (l.erase n) (nd.erase n) fun x hx => by
        have h3 := (nd.mem_erase_iff).mp hx
        have := h x h3.2
        have := h3.1
        omega
      have : 0 < l.length := List.length_pos_of_mem hn
      omega
    · have := nodup_le n l nd fun x hx => by
        have h1 := h x hx
        have : x ≠ n := fun e => hn (e ▸ hx)
        omega
      omega
/-- the ways as the dict holds them -/
inductive KV : List (Nat × Nat) → List (Int × Value) → Prop
  | nil : KV [] []
  | cons (s g : Nat) (t : Tok) {W k} : KV W k → KV ((s, g) :: W) (((s : Int), .str (lettr g) t) :: k)
theorem KV.len : ∀ {W k}, KV W k → k.length = W.length
  | _, _, .nil => rfl
  | _, _, .cons _ _ _ h => by simp [h.len]
theorem KV.snoc (s g : Nat) (t : Tok) : ∀ {W k}, KV W k → KV (W ++ [(s, g)]) (k ++ [((s : Int), .str (lettr g) t)])
  | _, _, .nil => .cons s g t .nil
  | _, _, .cons a b c h => .cons a b c (h.snoc s g t)
noncomputable def seats (W : List (Nat × Nat)) : List Nat := W.map (·.1)
noncomputable def guestOf (W : List (Nat × Nat)) (s : Nat) : Option Nat := (W.find? fun p => p.1 == s).map (·.2)
theorem KV.value (s : Nat) : ∀ {W k}, KV W k → (match guestOf W s with | some g => ∃ t, valueAt k (s : Int) = some (.str (lettr g) t) | none => valueAt k (s : Int) = none)
  | _, _, .nil => rfl
  | _, _, .cons (W := W) (k := k) a b c h => by
    have ih := h.value s
    unfold guestOf valueAt at *
    by_cases e : a = s
    · subst e
      simp
    · have e2 : ¬ ((a : Int) = (s : Int)) := by omega
      have e3 : (a == s) = false := beq_eq_false_iff_ne.mpr e
      simp only [List.find?_cons, e3, e2, decide_false]
      exact ih
theorem KV.isSome {W k} (h : KV W k) (s : Nat) : (valueAt k (s : Int)).isSome = decide (s ∈ seats W) := by
  have := h.value s
  unfold guestOf at this
  cases hf : W.find? (fun p => p.1 == s) with
  | none =>
    rw [hf] at this
    have this : valueAt k (s : Int) = none := this
    rw [this]
    have hn := List.find?_eq_none.mp hf
    have : ¬ s ∈ seats W := fun hm => by
      obtain ⟨p, hp, e⟩ := List.mem_map.mp hm
      exact hn p hp (by simp [e])
    simp [this]
  | some p =>
    rw [hf] at this
    obtain ⟨t, e⟩ : ∃ t, valueAt k (s : Int) = some (.str (lettr p.2) t) := this
    rw [e]
    have h1 := List.mem_of_find?_eq_some hf
    have h2 : (p.1 == s) = true := List.find?_some (p := fun p : Nat × Nat => p.1 == s) hf
    have : s ∈ seats W := List.mem_map.mpr ⟨p, h1, by simpa using h2⟩
    simp [this]
theorem KV.put {W k} (h : KV W k) {s g : Nat} {t : Tok} (hs : s ∉ seats W) : KV (W ++ [(s, g)]) (PySem.stored k (s : Int) (.str (lettr g) t)) := by
  have e : PySem.stored k (s : Int) (.str (lettr g) t) = k ++ [((s : Int), .str (lettr g) t)] := by
    unfold PySem.stored
    have hz := h.isSome s
    rw [decide_eq_false hs] at hz
    have : k.any (fun kv => decide (kv.1 = (s : Int))) = false := by
      unfold valueAt at hz
      rw [Option.isSome_map] at hz
      have hz2 : List.find? (fun kv : Int × Value => decide (kv.1 = (s : Int))) k = none := by
        cases q : List.find? (fun kv : Int × Value => decide (kv.1 = (s : Int))) k with
        | none => rfl
        | some p => rw [q] at hz; cases hz
      rw [List.any_eq_false]
      exact List.find?_eq_none.mp hz2
    rw [this]; rfl
  rw [e]; exact h.snoc s g t

/-- each way's guest is the start or holds the seat of an earlier way -/
noncomputable def Ord (M : Nat → Nat → Bool) (H : Nat → Option Nat) (start : Nat) (W : List (Nat × Nat)) : Prop :=
  ∀ (i s g : Nat), W[i]? = some (s, g) → s < 6 ∧ g < 4 ∧ M g s = true ∧ (g = start ∨ ∃ j : Nat, j < i ∧ ∃ s' g', W[j]? = some (s', g') ∧ H s' = some g)
/-- the search between its turns: P done, cur under way up to the seat i, Qs in the queue -/
structure SI (M : Nat → Nat → Bool) (H : Nat → Option Nat) (start : Nat) (W : List (Nat × Nat)) (P Qs : List Nat) (cur : Nat) (i : Nat) : Prop where
  ord : Ord M H start W
  nd : (seats W).Nodup
  held : ∀ s ∈ seats W, H s ≠ none
  closed : ∀ g ∈ P, ∀ s, s < 6 → M g s = true → s ∈ seats W
  upto : ∀ s, s < i → M cur s = true → s ∈ seats W
  pend : ∀ s ∈ seats W, ∀ g, H s = some g → g ∈ P ∨ g = cur ∨ g ∈ Qs
  st : start ∈ P ∨ start = cur ∨ start ∈ Qs
  c4 : cur < 4 ∧ (cur = start ∨ ∃ s ∈ seats W, H s = some cur)
  q4 : ∀ g ∈ Qs, g < 4 ∧ (g = start ∨ ∃ s ∈ seats W, H s = some g)
/-- no free seat in reach: the closed set -/
structure Shut (M : Nat → Nat → Bool) (H : Nat → Option Nat) (start : Nat) (W : List (Nat × Nat)) : Prop where
  ord : Ord M H start W
  nd : (seats W).Nodup
  held : ∀ s ∈ seats W, H s ≠ none
  st : ∀ s, s < 6 → M start s = true → s ∈ seats W
  on : ∀ s ∈ seats W, ∀ g, H s = some g → ∀ s', s' < 6 → M g s' = true → s' ∈ seats W
/-- a free seat found, at the end of the ways -/
noncomputable def Found (M : Nat → Nat → Bool) (H : Nat → Option Nat) (start : Nat) (W : List (Nat × Nat)) (seat : Nat) : Prop :=
  ∃ W0 g, W = W0 ++ [(seat, g)] ∧ Ord M H start W ∧ (seats W).Nodup ∧ (∀ s ∈ seats W0, H s ≠ none) ∧ H seat = none
section
variable {M : Nat → Nat → Bool} {H : Nat → Option Nat} {start : Nat} {W : List (Nat × Nat)} {P Qs : List Nat} {cur i : Nat}
theorem Ord.nil : Ord M H start [] := fun i s g h => by simp at h
theorem Ord.snoc (h : Ord M H start W) {s g : Nat} (hs : s < 6) (hg : g < 4) (hM : M g s = true) (hw : g = start ∨ ∃ s ∈ seats W, H s = some g) : Ord M H start (W ++ [(s, g)]) := by
  intro i s' g' hi
  by_cases hl : i < W.length
  · rw [List.getElem?_append_left hl] at hi
    obtain ⟨a, b, c, d⟩ := h i s' g' hi
    refine ⟨a, b, c, d.imp id ?_⟩
    rintro ⟨j, hj, s2, g2, e, f⟩
    exact ⟨j, hj, s2, g2, by rw [List.getElem?_append_left (by omega)]; exact e, f⟩
  · have hl2 : i = W.length := by
      have := (List.getElem?_eq_some_iff.mp hi).1
      simp at this; omega
    subst hl2
    simp at hi
    obtain ⟨rfl, rfl⟩ := hi
    refine ⟨hs, hg, hM, hw.imp id ?_⟩
    rintro ⟨s2, hm, e⟩
    obtain ⟨p, hp, rfl⟩ := List.mem_map.mp hm
    obtain ⟨j, hj, e2⟩ := List.getElem_of_mem hp
    exact ⟨j, hj, p.1, p.2, by rw [List.getElem?_append_left hj, List.getElem?_eq_getElem hj, e2], e⟩
theorem Ord.lt (h : Ord M H start W) : ∀ s ∈ seats W, s < 6 := fun s hs => by
  obtain ⟨p, hp, rfl⟩ := List.mem_map.mp hs
  obtain ⟨j, hj, e⟩ := List.getElem_of_mem hp
  exact (h j p.1 p.2 (by rw [List.getElem?_eq_getElem hj, e])).1
theorem SI.len (h : SI M H start W P Qs cur i) : W.length ≤ 6 := by
  have := nodup_le 6 (seats W) h.nd h.ord.lt
  simpa [seats] using this
theorem seats_snoc (W : List (Nat × Nat)) (s g : Nat) : seats (W ++ [(s, g)]) = seats W ++ [s] := by simp [seats]
theorem SI.skip (h : SI M H start W P Qs cur i) (hn : M cur i = true → i ∈ seats W) : SI M H start W P Qs cur (i + 1) :=
  ⟨h.ord, h.nd, h.held, h.closed, fun s hs hM => by
      rcases Nat.lt_or_eq_of_le (Nat.le_of_lt_succ hs) with h1 | rfl
      · exact h.upto s h1 hM
      · exact hn hM, h.pend, h.st, h.c4, h.q4⟩
theorem SI.found (h : SI M H start W P Qs cur i) (hi : i < 6) (hM : M cur i = true) (hn : i ∉ seats W) (hf : H i = none) : Found M H start (W ++ [(i, cur)]) i := by
  refine ⟨W, cur, rfl, h.ord.snoc hi h.c4.1 hM h.c4.2, ?_, h.held, hf⟩
  rw [seats_snoc, List.nodup_append]
  exact ⟨h.nd, by simp, fun a ha b hb e => hn (by simp at hb; rw [← hb, ← e]; exact ha)⟩
theorem SI.push (h : SI M H start W P Qs cur i) (hi : i < 6) (hM : M cur i = true) (hn : i ∉ seats W) {g : Nat} (hg : H i = some g) (g4 : g < 4) : SI M H start (W ++ [(i, cur)]) P (Qs ++ [g]) cur (i + 1) := by
  have inl : ∀ {s}, s ∈ seats W → s ∈ seats (W ++ [(i, cur)]) := fun hs => by rw [seats_snoc]; exact List.mem_append_left _ hs
  refine ⟨h.ord.snoc hi h.c4.1 hM h.c4.2, ?_, ?_, fun g' hg' s hs hm => inl (h.closed g' hg' s hs hm), ?_, ?_, ?_, ?_, ?_⟩
  · rw [seats_snoc, List.nodup_append]
    exact ⟨h.nd, by simp, fun a ha b hb e => hn (by simp at hb; rw [← hb, ← e]; exact ha)⟩
  · intro s hs
    rw [seats_snoc] at hs
    rcases List.mem_append.mp hs with hs | hs
    · exact h.held s hs
    · simp at hs; subst hs; rw [hg]; simp
  · intro s hs hm
    rcases Nat.lt_or_eq_of_le (Nat.le_of_lt_succ hs) with h1 | rfl
    · exact inl (h.upto s h1 hm)
    · rw [seats_snoc]; simp
  · intro s hs g' hg'
    rw [seats_snoc] at hs
    rcases List.mem_append.mp hs with hs | hs
    · rcases h.pend s hs g' hg' with a | a | a
      · exact .inl a
      · exact .inr (.inl a)
      · exact .inr (.inr (List.mem_append_left _ a))
    · simp at hs; subst hs; rw [hg] at hg'; cases hg'; exact .inr (.inr (by simp))
  · rcases h.st with a | a | a
    · exact .inl a
    · exact .inr (.inl a)
    · exact .inr (.inr (List.mem_append_left _ a))
  · exact ⟨h.c4.1, h.c4.2.imp id fun ⟨s, hs, e⟩ => ⟨s, inl hs, e⟩⟩
  · intro g' hg'
    rcases List.mem_append.mp hg' with hg' | hg'
    · exact ⟨(h.q4 g' hg').1, (h.q4 g' hg').2.imp id fun ⟨s, hs, e⟩ => ⟨s, inl hs, e⟩⟩
    · simp at hg'; subst hg'
      exact ⟨g4, .inr ⟨i, by rw [seats_snoc]; simp, hg⟩⟩
theorem SI.next {c2 : Nat} {Q2 : List Nat} (h : SI M H start W P (c2 :: Q2) cur 6) : SI M H start W (cur :: P) Q2 c2 0 := by
  refine ⟨h.ord, h.nd, h.held, ?_, fun s hs => absurd hs (Nat.not_lt_zero _), ?_, ?_, h.q4 c2 (.head _), fun g hg => h.q4 g (.tail _ hg)⟩
  · intro g hg s hs hm
    rcases List.mem_cons.mp hg with rfl | hg
    · exact h.upto s hs hm
    · exact h.closed g hg s hs hm
  · intro s hs g hg
    rcases h.pend s hs g hg with a | a | a
    · exact .inl (.tail _ a)
    · exact .inl (a ▸ .head _)
    · rcases List.mem_cons.mp a with a | a
      · exact .inr (.inl a)
      · exact .inr (.inr a)
  · rcases h.st with a | a | a
    · exact .inl (.tail _ a)
    · exact .inl (a ▸ .head _)
    · rcases List.mem_cons.mp a with a | a
      · exact .inr (.inl a)
      · exact .inr (.inr a)
theorem SI.shut (h : SI M H start W P [] cur 6) : Shut M H start W := by
  have key : ∀ g, (g ∈ P ∨ g = cur ∨ g ∈ ([] : List Nat)) → ∀ s, s < 6 → M g s = true → s ∈ seats W := fun g hg s hs hm => by
    rcases hg with a | a | a
    · exact h.closed g a s hs hm
    · subst a; exact h.upto s hs hm
    · cases a
  exact ⟨h.ord, h.nd, h.held, fun s hs hm => key start h.st s hs hm, fun s hs g hg => key g (h.pend s hs g hg)⟩
theorem SI.init (h4 : start < 4) : SI M H start [] [] [] start 0 :=
  ⟨Ord.nil, by simp [seats], fun s hs => by simp [seats] at hs, fun g hg => by simp at hg, fun s hs => absurd hs (Nat.not_lt_zero _), fun s hs => by simp [seats] at hs, .inr (.inl rfl), ⟨h4, .inl rfl⟩, fun g hg => by simp at hg⟩
end
-- P1
section
open Builtin Builtin.Str
theorem fm_range (T : List Nat) : ∀ (c s : Nat), s + c ≤ T.length → (((List.range c).map fun k => s + k).filterMap fun k => T[k]?) = (T.drop s).take c := by
  intro c
  induction c with
  | zero => intro s h; simp
  | succ c ih =>
    intro s h
    have h1 : s + c < T.length := h
    rw [List.range_succ, List.map_append, List.filterMap_append, ih s (Nat.le_of_lt h)]
    rw [List.take_add_one]
    simp [h1]
theorem idx_nat (i j n : Nat) : strSliceIndices (some (i : Int)) (some (j : Int)) 1 n = (List.range (min j n - min i n)).map fun k => min i n + k := by
  unfold strSliceIndices sliceRange
  have e0 : ∀ a : Nat, max 0 (min (a : Int) n) = ((min a n : Nat) : Int) := fun a => by
    have q : min (a : Int) n = ((min a n : Nat) : Int) := by
      rcases Nat.le_total a n with h | h
      · rw [Nat.min_eq_left h]; exact Int.min_eq_left (Int.ofNat_le.mpr h)
      · rw [Nat.min_eq_right h]; exact Int.min_eq_right (Int.ofNat_le.mpr h)
    rw [q]; exact Int.max_eq_right (Int.natCast_nonneg _)
  have n0 : ∀ a : Nat, ¬ ((a : Int) < 0) := fun a => Int.not_lt.mpr (Int.natCast_nonneg a)
  simp only [show (1 : Int) > 0 by decide, if_true, if_neg (n0 i), if_neg (n0 j), e0, Int.ediv_one]
  have e3 : ∀ a b : Nat, (if (a : Int) < (b : Int) then (b : Int) - (a : Int) + 1 - 1 else 0).toNat = b - a := fun a b => by
    rw [Int.add_sub_cancel]
    by_cases h : a < b
    · rw [if_pos (Int.ofNat_lt.mpr h), Int.toNat_sub]
    · rw [if_neg fun q => h (Int.ofNat_lt.mp q), Nat.sub_eq_zero_of_le (Nat.le_of_not_lt h)]; rfl
  rw [e3]
  refine List.map_congr_left fun k hk => ?_
  rw [Int.one_mul]; rfl
theorem slice_nat (T : List Nat) (i j : Nat) : Txt.slice (strOf T) (some (i : Int)) (some (j : Int)) = strOf ((T.drop i).take (j - i)) := by
  have hlen : (strOf T).length = T.length := by simp [strOf, Str.length]
  unfold Txt.slice
  rw [hlen, idx_nat]
  have mn := fun x => Nat.min_le_right x T.length
  have key : (T.drop (min i T.length)).take (min j T.length - min i T.length) = (T.drop i).take (j - i) := by
    rcases Nat.le_total i T.length with hi | hi
    · rw [Nat.min_eq_left hi]
      rcases Nat.le_total j T.length with hj | hj
      · rw [Nat.min_eq_left hj]
      · have hl : (T.drop i).length ≤ T.length - i := Nat.le_of_eq List.length_drop
        rw [Nat.min_eq_right hj, List.take_of_length_le hl, List.take_of_length_le (Nat.le_trans hl (Nat.sub_le_sub_right hj i))]
    · rw [List.drop_eq_nil_of_le hi, Nat.min_eq_right hi, List.drop_eq_nil_of_le (Nat.le_refl _), List.take_nil, List.take_nil]
  have fm : List.filterMap (fun k => (strOf T).cps[k]?) ((List.range (min j T.length - min i T.length)).map fun k => min i T.length + k) = (T.drop i).take (j - i) := by
    have e : (fun k : Nat => (strOf T).cps[k]?) = fun k : Nat => T[k]? := by funext k; simp [strOf]
    rw [e, ← key]
    rcases Nat.le_total (min i T.length) (min j T.length) with q | q
    · rw [← fm_range T _ _ (by rw [Nat.add_sub_cancel' q]; exact mn j)]
    · rw [Nat.sub_eq_zero_of_le q]; rfl
  rw [fm]
  split
  · rename_i h
    rw [List.length_map, List.length_range] at h
    have h : min j T.length - min i T.length = T.length := by simpa using h
    rw [← key, h]
    by_cases h0 : T.length = 0
    · have : T = [] := List.eq_nil_of_length_eq_zero h0
      subst this; rfl
    · rw [sub_full h (mn j) h0]; simp
  · rfl
theorem slice_chr (T : List Nat) (p : Nat) : Txt.slice (strOf T) (some (p : Int)) (some ((p : Int) + 1)) = strOf ((T.drop p).take 1) := by
  have := slice_nat T p (p + 1)
  rw [show (p + 1 - p) = 1 by omega] at this
  rw [← this]; rfl
theorem all_strOf {l : List Nat} (h : l.all (· < 128) = true) : (strOf l).cps.all (· < 128) = true := by
  simpa [strOf] using h
theorem all_sub {l k : List Nat} (h : l.all (· < 128) = true) (hs : ∀ x ∈ k, x ∈ l) : k.all (· < 128) = true := by
  rw [List.all_eq_true] at h ⊢
  exact fun x hx => h x (hs x hx)
end
-- P2
theorem nd_ne {l : Lgr} (nd : (l.map (·.1)).Nodup) {i j : Nat} {p q : Addr × Obj} (hi : l[i]? = some p) (hj : l[j]? = some q) (hij : i ≠ j) : p.1 ≠ q.1 := by
  obtain ⟨h1, e1⟩ := List.getElem?_eq_some_iff.mp hi
  obtain ⟨h2, e2⟩ := List.getElem?_eq_some_iff.mp hj
  have pw := List.pairwise_iff_getElem.mp nd
  have a1 : (l.map (·.1))[i]'(by simpa using h1) = p.1 := by simp [e1]
  have a2 : (l.map (·.1))[j]'(by simpa using h2) = q.1 := by simp [e2]
  rcases Nat.lt_or_gt_of_ne hij with h | h
  · rw [← a1, ← a2]; exact pw i j _ _ h
  · rw [← a1, ← a2]; exact Ne.symm (pw j i _ _ h)
/-- the ledger in another order: the entries is, then what stands behind n -/
noncomputable def pick (is : List Nat) (n : Nat) (l : Lgr) : Lgr := is.filterMap (fun i => l[i]?) ++ l.drop n
theorem pick_mem {is : List Nat} {n : Nat} {l : Lgr} : ∀ p ∈ pick is n l, p ∈ l := fun p hp => by
  rcases List.mem_append.mp hp with hp | hp
  · obtain ⟨i, _, e⟩ := List.mem_filterMap.mp hp
    exact List.mem_of_getElem? e
  · exact List.mem_of_mem_drop hp
theorem pick_nd {is : List Nat} {n : Nat} {l : Lgr} (nd : (l.map (·.1)).Nodup) (h1 : is.Nodup) (h2 : ∀ i ∈ is, i < n) : ((pick is n l).map (·.1)).Nodup := by
  unfold pick
  rw [List.map_append, List.nodup_append]
  refine ⟨?_, ?_, ?_⟩
  · show List.Pairwise _ _
    rw [List.pairwise_map, List.pairwise_filterMap]
    exact h1.imp fun hne p hp q hq => nd_ne nd hp hq hne
  · exact ((List.drop_sublist n l).map _).nodup nd
  · intro a ha b hb
    obtain ⟨p, hp, rfl⟩ := List.mem_map.mp ha
    obtain ⟨q, hq, rfl⟩ := List.mem_map.mp hb
    obtain ⟨i, hi, e⟩ := List.mem_filterMap.mp hp
    obtain ⟨j, hj, e2⟩ := List.getElem_of_mem hq
    have hj' : n + j < l.length := by rw [List.length_drop] at hj; omega
    have e3 : l[n + j]? = some q := by
      rw [List.getElem_drop] at e2
      rw [List.getElem?_eq_getElem hj', e2]
    have := h2 i hi
    exact nd_ne nd e e3 (by omega)
theorem Hp.pick {g h : Heap} {l : Lgr} (is : List Nat) (n : Nat) (H : Hp g h l) (h1 : is.Nodup := by decide) (h2 : ∀ i ∈ is, i < n := by decide) : Hp g h (pick is n l) :=
  ⟨H.keep, fun p hp => H.nw p (pick_mem p hp), pick_nd H.nd h1 h2⟩
theorem Led.pick {g h : Heap} {L : Addr} {m : Str → Option Value} {l : Lgr} (is : List Nat) (n : Nat) (D : Led g L m h l) (h1 : is.Nodup := by decide) (h2 : ∀ i ∈ is, i < n := by decide) : Led g L m h (Mine.pick is n l) :=
  ⟨D.ns, D.keep, D.gL, fun p hp => D.nw p (pick_mem p hp), pick_nd D.nd h1 h2⟩
-- C2
/-- the entry of a name in an object's dict -/
noncomputable abbrev ent (w : World) (n : Str) (k : Tok) (v : Value) : DictEntry := ⟨PyData.keyHash w.params n, .str n k, v⟩
/-- a new lexer over fp -/
inductive NewLex (w : World) (fp x : Value) (l : Lgr) : Prop
  | mk (a dx k1 k2 k3 k4 t1 t2 pb : _) (h_0 : x = .ref a) (h_1 : l = [(pb, listOf #[] 0), (a, instObj 160 dx), (dx, dictOf [ent w (Str.ofString "lineno") k1 (.int 1 t1), ent w (Str.ofString "instream") k2 fp, ent w (Str.ofString "whitespace") k3 (.str (Str.ofString "\n\t\r ") t2), ent w (Str.ofString "pushback") k4 (.ref pb)] 4)]) : NewLex w fp x l
theorem sp_init {w : World} {g : Heap} (G : Gd w g) {x dx : Addr} {fp : Value} : CSpec w g (.ref 136) [.ref x, fp] 1 [(x, instObj 160 dx), (dx, dictOf [] 0)] (fun v l => v = .none ∧ NewLex w fp (.ref x) l) := by
  intro A s z R ar H ret
  refine' enterK (binds := [((Str.ofString "self"), .ref x), ((Str.ofString "fp"), fp)]) (bl := [((Str.ofString "fp"), fp), ((Str.ofString "self"), .ref x)]) G H ar ?k1 ?k2 ?k3 ?k4 ?k5 ?k6 ?k7 ?k8 ?kb ?_
  case k1 => k_is
  case k2 => k_is
  case k3 => first | exact BindsTo.of_eq rfl | exact binds_K (G.X.keeps H.keep) rfl (by k_is) rfl rfl rfl
  case k4 => exact locs rfl
  case k5 => decide
  case k6 => exact rfl
  case k7 => exact rfl
  case k8 => exact rfl
  case kb => exact rfl
  intro L A' h₁ tk ar' D
  dsimp only [List.cons_append, List.nil_append] at D
  w_strict (walk1; k_fold; (iterate 4 walk1); dsimp only [qk]; clear qk; (try clear ek); walk1; k_fold; (iterate 4 walk1); dsimp only [qk]; clear qk; (try clear ek); walk1; k_fold; (iterate 4 walk1); dsimp only [qk]; clear qk; (try clear ek); walk1; k_fold; (iterate 6 walk1); dsimp only [qk]; clear qk; (try clear ek); walk1)
  rename Led _ _ _ _ _ => D
  refine ret _ _ _ (Sm.mk (h := h₁) (tk := tk) |>.go _ _) D.out ⟨rfl, _, _, _, _, _, _, _, _, _, rfl, rfl⟩
-- C3
/-- the sign at a place of the text, or none -/
noncomputable def chr (T : List Nat) (p : Nat) : Str := strOf ((T.drop p).take 1)
theorem chr_min (T : List Nat) (p : Nat) : chr T (min p T.length) = chr T p := by
  by_cases h : p ≤ T.length
  · rw [Nat.min_eq_left h]
  · rw [Nat.min_eq_right (by omega)]
    unfold chr
    rw [List.drop_eq_nil_of_le (Nat.le_refl _), List.drop_eq_nil_of_le (by omega)]
theorem chr_len (T : List Nat) (p : Nat) : (chr T p).length = if p < T.length then 1 else 0 := by
  rw [chr, len_strOf, List.length_take, List.length_drop]
  split
  · rename_i h; exact Nat.min_eq_left (Nat.sub_pos_of_lt h)
  · rename_i h; rw [Nat.sub_eq_zero_of_le (Nat.le_of_not_lt h)]; rfl
structure Reads (w : World) (g : Heap) (T : List Nat) (f : Addr) (co : Addr × Obj) (R : Nat → Lgr → Prop) : Prop where
  fn : ∀ p l, R p l → ∃ cl od fd sl r, l = (f, ⟨cl, od, .func fd, sl⟩) :: co :: r
  go : ∀ p l t, R p l → FSpec w g (.ref f) [.int 1 t] 1 l (fun v l' => (∃ t, v = .str (chr T p) t) ∧ R (p + 1) l')
noncomputable def CodeOk (oc : Obj) : Prop := ∃ vs t, oc.data = .fields vs ∧ vs[1]? = some (.str (Str.ofString "_law_lexer.<locals>._law_piece") t)
inductive LexAt (w : World) (a f : Addr) (R : Nat → Lgr → Prop) (p : Nat) (line : Int) (q : List Str) (l : Lgr) : Prop
  | mk (dx pb sx dx2 pb2 : Addr) (its : List Value) (n : Nat) (k1 k2 k3 k4 t1 t2 j1 j2 j3 j4 j5 t3 t4 : Tok) (lf : Lgr) (h_0 : R p lf) (h_1 : StrsAre its q) (h_2 : l = (pb, listOf its.toArray n) :: (a, instObj 160 dx) :: (dx, dictOf [ent w (Str.ofString "lineno") k1 (.int line t1), ent w (Str.ofString "instream") k2 (.ref sx), ent w (Str.ofString "whitespace") k3 (.str (Str.ofString "\n\t\r ") t2), ent w (Str.ofString "pushback") k4 (.ref pb)] 4) ::       (sx, instObj 160 dx2) :: (dx2, dictOf [ent w (Str.ofString "lineno") j1 (.int 1 t3), ent w (Str.ofString "instream") j2 .none, ent w (Str.ofString "whitespace") j3 (.str (Str.ofString "\n\t\r ") t4), ent w (Str.ofString "pushback") j4 (.ref pb2), ent w (Str.ofString "read") j5 (.ref f)] 5) :: lf) : LexAt w a f R p line q l
inductive LexMade (w : World) (g : Heap) (T : List Nat) (c' : Addr) (oc : Obj) (v : Value) (l : Lgr) : Prop
  | mk (a f R l0 : _) (h_0 : v = .ref a) (h_1 : CodeOk oc) (h_2 : Reads w g T f (c', oc) R) (h_3 : LexAt w a f R 0 1 [] l0) (h_4 : l = (166, tabObj #[rawInt 221, rawInt 4, .ref c']) :: l0) : LexMade w g T c' oc v l
theorem sp_lexer {w : World} {g : Heap} (G : Gd w g) {T : List Nat} {t : Tok} (ha : T.all (· < 128) = true) (hz : T.length ≤ 1000) : FSpec w g (.ref 171) [.str (strOf T) t] 3 [(166, tabObj #[])] (fun v l => ∃ c' oc, LexMade w g T c' oc v l) := by
  refine .of fun A s z Q E ar H ret => ?_
  refine' enterC (binds := [((Str.ofString "text"), .str (strOf T) t)]) (bl := []) (cs := fun L => [(L + 1 + 1, none), (L + 1, some (.str (strOf T) t))]) G H ar ?k1 ?k2 ?k3 ?k4 ?k5 ?k6 ?k7 ?k8 ?kb ?kc ?_
  case k1 => k_is
  case k2 => k_is
  case k3 => first | exact BindsTo.of_eq rfl | exact binds_K (G.X.keeps H.keep) rfl (by k_is) rfl rfl rfl
  case k4 => exact rfl
  case k5 => decide +kernel
  case k6 => exact rfl
  case k7 => exact rfl
  case k8 => exact rfl
  case kb => intro _; kernel_rfl!
  case kc => intro _; kernel_rfl!
  intro L A' h₁ tk cells ar' D Y
  obtain ⟨o1, _, rfl, d1, o2, _, rfl, d2, rfl⟩ := Y
  dsimp only [List.cons_append, List.nil_append] at D
  w_strict (walk1; k_fold; (iterate 8 walk1))
  rename Led _ _ _ _ _ => D
  refine makeL (k := 1) G D ar' (by omega) (by k_is) (by k_is) (by k_is) (fun x dx => sp_init G) fun sx h2 tk2 l2 D2 hP => ?_
  obtain ⟨a, dx, k1, k2, k3, k4, t1, t2, pb, hsx, rfl⟩ := hP
  cases hsx
  dsimp only [List.cons_append, List.nil_append] at D2
  clear D
  w_strict (walk1; dsimp only [qk]; clear qk; (try clear ek); walk1; k_fold; (iterate 5 walk1); dsimp only [qk]; clear qk; (try clear ek); walk1; k_fold; walk1)
  rename Led _ _ _ _ _ => D
  rename Obj.data _ = Data.cell (some (Value.ref _)) => hd3
  rename Obj => o'
  refine' nestF (c := 170) (P := 166) (clos := [((Str.ofString "text"), L + 1), ((Str.ofString "gone"), L + 1 + 1)]) G D G.c2 rfl ?kk ?cc ?_
  case kk => walk_at "mine at"
  case cc => kernel_rfl!
  intro f c' oc vs t ctv doc pm h' tk fo hfo D3 hoc hvs
  (try simp only [List.set_cons_zero, List.set_cons_succ] at D3)
  clear D
  w_strict (walk1; dsimp only [qk]; clear qk; (try clear ek); walk1; k_fold; (iterate 4 walk1); dsimp only [qk]; clear qk; (try clear ek); walk1; k_fold; (iterate 8 walk1))
  rename Led _ _ _ _ _ => D
  refine makeL (k := 1) G D ar' (by omega) (by k_is) (by k_is) (by k_is) (fun x dx => sp_init G) fun lx h2 tk2 l2 D2 hP => ?_
  obtain ⟨a, dx2, j1, j2, j3, j4, t3, t4, pb2, hsx, rfl⟩ := hP
  cases hsx
  dsimp only [List.cons_append, List.nil_append] at D2
  clear D
  obtain ⟨gl, hgl⟩ : ∃ gl, Data.cell (some (Value.ref gl)) = o'.data := ⟨_, hd3.symm⟩
  rw [hd3] at hgl
  injection hgl with hgl
  injection hgl with hgl
  injection hgl with hgl
  subst hgl
  have rd : Reads w g T f (c', oc) (fun p l => ∃ its n, l = [(f, fo), (c', oc), (gl, listOf its n), (L + 1 + 1, o'), (L + 1, o2)] ∧ its.size = min p T.length) := by
    refine ⟨?_, ?_⟩
    · rintro p l ⟨its, n, rfl, _⟩
      subst hfo
      exact ⟨_, _, _, _, _, rfl⟩
    · rintro p l t ⟨its, n, rfl, hsz⟩
      subst hfo
      clear D2 ret H
      refine .of fun A s z Q E ar H ret => ?_
      refine' enterX (i := 0) (binds := [((Str.ofString "count"), .int 1 t)]) (bl := [((Str.ofString "count"), .int 1 t)]) G H ar ?k1 ?k2 ?k3 ?k4 ?k5 ?k6 ?k7 ?k8 ?kb ?_
      case k2 => exact ⟨c', oc, vs, _, rfl, (H.nw (c', oc) (by simp)).1, hoc, hvs⟩
      case k1 => exact rfl
      case k3 => first | exact BindsTo.of_eq rfl | exact binds_K (G.X.keeps H.keep) rfl (by k_is) rfl rfl rfl
      case k4 => exact locs rfl
      case k5 => decide
      case k6 => exact rfl
      case k7 => exact rfl
      case k8 => exact rfl
      case kb => exact rfl
      intro L' A'' h₁ tk ar'' D
      dsimp only [List.cons_append, List.nil_append] at D
      have e := slice_chr T its.size
      have hzl : (strOf T).length ≤ 1000 := by rw [len_strOf]; exact hz
      have hA : (Txt.slice (strOf T) (some (its.size : Int)) (some ((its.size : Int) + 1))).cps.all (· < 128) = true := by
        rw [e]; exact all_strOf (all_sub ha fun x hx => List.mem_of_mem_drop (List.mem_of_mem_take hx))
      have hB : (Txt.slice (strOf T) (some (its.size : Int)) (some ((its.size : Int) + 1))).length ≤ 1 := by
        rw [e, len_strOf, List.length_take]; exact Nat.min_le_left _ _
      w_strict (walk1; k_fold; (iterate 26 walk1); dsimp only [qk]; clear qk; (try clear ek); walk1; k_fold; (iterate 10 walk1); k_fold; (iterate 2 walk1); dsimp only [qk]; clear qk; (try clear ek))
      rename Led _ _ _ _ _ => D
      rename Array.size _ = _ => hs2
      have ev : Txt.slice (strOf T) (some (its.size : Int)) (some ((its.size : Int) + 1)) = chr T p := by
        rw [e, hsz]; exact chr_min T p
      rw [ev, chr_len] at hs2
      rw [ev]
      refine ret _ _ _ (Sm.mk (h := h₁) (tk := tk) |>.go _ _) D.out ⟨⟨_, rfl⟩, _, _, rfl, ?_⟩
      rw [hs2]
      exact min_up hsz
  have D4 := D2.pick [11, 0, 1, 2, 7, 8, 3, 4, 5, 9, 10] 12
  simp only [pick, List.filterMap_cons, List.filterMap_nil, List.getElem?_cons_zero, List.getElem?_cons_succ, List.drop_succ_cons, List.drop_zero, List.cons_append, List.nil_append] at D4
  skip
  refine ret _ _ _ (((Sm.mk (h := h₁) (tk := tk)).go _ _).go _ _) (D4.out) ⟨c', oc, lx, f, _, _, rfl, ⟨vs, _, hoc, hvs⟩, rd, ⟨dx2, pb2, sx, dx, pb, [], 0, j1, j2, j3, j4, t3, t4, k1, k2, k3, k4, _, t1, t2, _, ⟨_, _, rfl, ?_⟩, .nil, rfl⟩, rfl⟩
  simp
theorem sp_lexer1 {w : World} {g : Heap} (G : Gd w g) {T : List Nat} {t : Tok} {c' : Addr} {oc : Obj} (hco : CodeOk oc) (ha : T.all (· < 128) = true) (hz : T.length ≤ 1000) : FSpec w g (.ref 171) [.str (strOf T) t] 3 [(166, tabObj #[rawInt 221, rawInt 4, .ref c']), (c', oc)] (fun v l => LexMade w g T c' oc v l) := by
  refine .of fun A s z Q E ar H ret => ?_
  refine' enterC (binds := [((Str.ofString "text"), .str (strOf T) t)]) (bl := []) (cs := fun L => [(L + 1 + 1, none), (L + 1, some (.str (strOf T) t))]) G H ar ?k1 ?k2 ?k3 ?k4 ?k5 ?k6 ?k7 ?k8 ?kb ?kc ?_
  case k1 => k_is
  case k2 => k_is
  case k3 => first | exact BindsTo.of_eq rfl | exact binds_K (G.X.keeps H.keep) rfl (by k_is) rfl rfl rfl
  case k4 => exact rfl
  case k5 => decide +kernel
  case k6 => exact rfl
  case k7 => exact rfl
  case k8 => exact rfl
  case kb => intro _; kernel_rfl!
  case kc => intro _; kernel_rfl!
  intro L A' h₁ tk cells ar' D Y
  obtain ⟨o1, _, rfl, d1, o2, _, rfl, d2, rfl⟩ := Y
  dsimp only [List.cons_append, List.nil_append] at D
  w_strict (walk1; k_fold; (iterate 8 walk1))
  rename Led _ _ _ _ _ => D
  refine makeL (k := 1) G D ar' (by omega) (by k_is) (by k_is) (by k_is) (fun x dx => sp_init G) fun sx h2 tk2 l2 D2 hP => ?_
  obtain ⟨a, dx, k1, k2, k3, k4, t1, t2, pb, hsx, rfl⟩ := hP
  cases hsx
  dsimp only [List.cons_append, List.nil_append] at D2
  clear D
  w_strict (walk1; dsimp only [qk]; clear qk; (try clear ek); walk1; k_fold; (iterate 5 walk1); dsimp only [qk]; clear qk; (try clear ek); walk1; k_fold; walk1)
  rename Led _ _ _ _ _ => D
  rename Obj.data _ = Data.cell (some (Value.ref _)) => hd3
  rename Obj => o'
  refine' nestFHit (c := 170) (P := 166) (clos := [((Str.ofString "text"), L + 1), ((Str.ofString "gone"), L + 1 + 1)]) G D G.c2 rfl ?kk ?cc ?_
  case kk => exact at6
  case cc => kernel_rfl!
  intro f ctv doc pm h' tk fo hfo D3
  obtain ⟨vs, tq, hoc, hvs⟩ := id hco
  (try simp only [List.set_cons_zero, List.set_cons_succ] at D3)
  clear D
  w_strict (walk1; dsimp only [qk]; clear qk; (try clear ek); walk1; k_fold; (iterate 4 walk1); dsimp only [qk]; clear qk; (try clear ek); walk1; k_fold; (iterate 8 walk1))
  rename Led _ _ _ _ _ => D
  refine makeL (k := 1) G D ar' (by omega) (by k_is) (by k_is) (by k_is) (fun x dx => sp_init G) fun lx h2 tk2 l2 D2 hP => ?_
  obtain ⟨a, dx2, j1, j2, j3, j4, t3, t4, pb2, hsx, rfl⟩ := hP
  cases hsx
  dsimp only [List.cons_append, List.nil_append] at D2
  clear D
  obtain ⟨gl, hgl⟩ : ∃ gl, Data.cell (some (Value.ref gl)) = o'.data := ⟨_, hd3.symm⟩
  rw [hd3] at hgl
  injection hgl with hgl
  injection hgl with hgl
  injection hgl with hgl
  subst hgl
  have rd : Reads w g T f (c', oc) (fun p l => ∃ its n, l = [(f, fo), (c', oc), (gl, listOf its n), (L + 1 + 1, o'), (L + 1, o2)] ∧ its.size = min p T.length) := by
    refine ⟨?_, ?_⟩
    · rintro p l ⟨its, n, rfl, _⟩
      subst hfo
      exact ⟨_, _, _, _, _, rfl⟩
    · rintro p l t ⟨its, n, rfl, hsz⟩
      subst hfo
      clear D2 ret H
      refine .of fun A s z Q E ar H ret => ?_
      refine' enterX (i := 0) (binds := [((Str.ofString "count"), .int 1 t)]) (bl := [((Str.ofString "count"), .int 1 t)]) G H ar ?k1 ?k2 ?k3 ?k4 ?k5 ?k6 ?k7 ?k8 ?kb ?_
      case k2 => exact ⟨c', oc, vs, _, rfl, (H.nw (c', oc) (by simp)).1, hoc, hvs⟩
      case k1 => exact rfl
      case k3 => first | exact BindsTo.of_eq rfl | exact binds_K (G.X.keeps H.keep) rfl (by k_is) rfl rfl rfl
      case k4 => exact locs rfl
      case k5 => decide
      case k6 => exact rfl
      case k7 => exact rfl
      case k8 => exact rfl
      case kb => exact rfl
      intro L' A'' h₁ tk ar'' D
      dsimp only [List.cons_append, List.nil_append] at D
      have e := slice_chr T its.size
      have hzl : (strOf T).length ≤ 1000 := by rw [len_strOf]; exact hz
      have hA : (Txt.slice (strOf T) (some (its.size : Int)) (some ((its.size : Int) + 1))).cps.all (· < 128) = true := by
        rw [e]; exact all_strOf (all_sub ha fun x hx => List.mem_of_mem_drop (List.mem_of_mem_take hx))
      have hB : (Txt.slice (strOf T) (some (its.size : Int)) (some ((its.size : Int) + 1))).length ≤ 1 := by
        rw [e, len_strOf, List.length_take]; exact Nat.min_le_left _ _
      w_strict (walk1; k_fold; (iterate 26 walk1); dsimp only [qk]; clear qk; (try clear ek); walk1; k_fold; (iterate 10 walk1); k_fold; (iterate 2 walk1); dsimp only [qk]; clear qk; (try clear ek))
      rename Led _ _ _ _ _ => D
      rename Array.size _ = _ => hs2
      have ev : Txt.slice (strOf T) (some (its.size : Int)) (some ((its.size : Int) + 1)) = chr T p := by
        rw [e, hsz]; exact chr_min T p
      rw [ev, chr_len] at hs2
      rw [ev]
      refine ret _ _ _ (Sm.mk (h := h₁) (tk := tk) |>.go _ _) D.out ⟨⟨_, rfl⟩, _, _, rfl, ?_⟩
      rw [hs2]
      exact min_up hsz
  have D4 := D2.pick [10, 0, 1, 2, 6, 7, 3, 11, 4, 8, 9] 12
  simp only [pick, List.filterMap_cons, List.filterMap_nil, List.getElem?_cons_zero, List.getElem?_cons_succ, List.drop_succ_cons, List.drop_zero, List.cons_append, List.nil_append] at D4
  skip
  refine ret _ _ _ (((Sm.mk (h := h₁) (tk := tk)).go _ _).go _ _) (D4.out) ⟨lx, f, _, _, rfl, hco, rd, ⟨dx2, pb2, sx, dx, pb, [], 0, j1, j2, j3, j4, t3, t4, k1, k2, k3, k4, _, t1, t2, _, ⟨_, _, rfl, ?_⟩, .nil, rfl⟩, rfl⟩
  simp
-- P3
section
open Builtin
namespace CI
theorem slot_next : Slot "callable_iterator" "__next__" "callable_iterator.__next__" :=
  .of (owner := "callable_iterator") (n := "__next__") (by rw [typeLookup_type, builtinLookup_eq_fast]; kernel_rfl) (by decide +kernel) (by decide +kernel) (by decide +kernel)
    (by first | exact .inl (by decide +kernel) | exact .inr (by decide +kernel)) (by rw [isSubtype_type]; kernel_rfl)
theorem slot_iter : Slot "callable_iterator" "__iter__" "callable_iterator.__iter__" :=
  .of (owner := "callable_iterator") (n := "__iter__") (by rw [typeLookup_type, builtinLookup_eq_fast]; kernel_rfl) (by decide +kernel) (by decide +kernel) (by decide +kernel)
    (by first | exact .inl (by decide +kernel) | exact .inr (by decide +kernel)) (by rw [isSubtype_type]; kernel_rfl)
theorem entry_next : entryFor table "callable_iterator.__next__" = some Builtin.«callable_iterator.__next__» := entryFor_of_tree (by kernel_rfl)
theorem entry_iter : entryFor table "callable_iterator.__iter__" = some Builtin.«dict_keyiterator.__iter__» :=
  entryFor_alias (id' := "dict_keyiterator.__iter__") (by kernel_rfl) rfl (by decide +kernel) (by kernel_rfl)
theorem args_next (a : Value) : argsOk "callable_iterator.__next__" ⟨[a], []⟩ := by unfold argsOk; kernel_rfl
theorem args_iter (a : Value) : argsOk "callable_iterator.__iter__" ⟨[a], []⟩ := by unfold argsOk; kernel_rfl
end CI
noncomputable abbrev ciOf (f snt : Value) : Obj := { cls := .type "callable_iterator", data := .fields #[f, snt, .bool false] }
noncomputable abbrev ciEnd : Obj := { cls := .type "callable_iterator", data := .fields #[.none, .none, .bool true] }
section
variable {w : World} {g : Heap} {A : Around} {n : Nat} {s : Shared} {L : Addr} {m : Str → Option Value} {l : Lgr} {E : Value → Shared → Prop}
theorem CSpec.F {f : Value} {vs : List Value} {p : Lgr} {Post : Value → Lgr → Prop} (S : CSpec w g f vs n p Post) : FSpec w g f vs n p Post :=
  .of fun A s x Q E ar H ret => wpAny_call (S A s x _ ar H fun v s' l' hs H' P => ret v s' l' hs H' P)
theorem ci_iter {I : Addr} {i : Nat} {f snt : Value} {Q : Value → Shared → Prop} (D : Led g L m s.heap l) (hi : l[i]? = some (I, ciOf f snt)) (h : Q (.ref I) s) : wpAny (model Pg w) A (pyIter (.ref I)) Q E s := by
  have hT : s.TypeIs (.ref I) "callable_iterator" := ⟨_, D.at hi, rfl⟩
  refine wpAny_pyIter_slot hT CI.slot_iter (wpAny_call_entry CI.slot_iter hT CI.entry_iter ?_ (CI.args_iter _))
  show wpAny _ _ (ret (.ref I)) _ _ s
  exact wpAny_pure ⟨_, rfl, "callable_iterator", _, hT, CI.slot_next.lookup, h⟩
theorem wpAny_callBorrowed {f : Value} {pos : List Value} {Q : Value → Shared → Prop}
    (hc : codeAny (model Pg w) A (.call f ⟨pos, []⟩) (fun r s' => match r with | .ok (.ret v) => Q v s' | .ok _ => False | .error e => E e s') s) :
    wpAny (model Pg w) A (callBorrowed f pos) Q E s := fun Γ p hΓ => by
  show wpCode (model Pg w) (Γ.enter (.call f ⟨pos, []⟩) none p) _ p s
  refine wpCode_mono (fun r s' hr => ?_) (hc _ p rfl (hΓ.enter _ none p (by intro x; cases x)))
  cases r with
  | error e => exact hr
  | ok f => cases f with
    | ret v => exact hr
    | next => exact hr.elim
    | brk => exact hr.elim
    | cont => exact hr.elim
theorem borrows_meth {mt f a : Addr} {oc : Value} {od : Option Addr} {fd : FuncData} {sl : Array (Option Value)} {Q : Bool → Shared → Prop} (h1 : s.heap.get? mt = some (methodObj (.ref f) (.ref a))) (h2 : s.heap.get? f = some ⟨oc, od, .func fd, sl⟩) (h : Q true s) :
    wpAny (model Pg w) A (borrowsExactly (.ref mt)) Q E s := by
  unfold borrowsExactly
  refine wpAny_bind (wpAny_load h1 ?_)
  dsimp only
  rw [if_pos (by decide)]
  exact wpAny_bind (wpAny_load h2 (wpAny_pure h))
theorem Led.putR {h h' : Heap} {l' x : Lgr} {a : Addr} {i : Nat} {o o' : Obj} (D : Led g L m h (l' ++ x)) (hi : x[i]? = some (a, o)) (hs : Heap.SameBut a h h') (ha : h'.get? a = some o') : Led g L m h' (l' ++ x.set i (a, o')) := by
  have hi2 : (l' ++ x)[l'.length + i]? = some (a, o) := by rw [List.getElem?_append_right (by omega)]; simpa using hi
  have := D.put hi2 hs ha
  rw [List.set_append_right _ _ (by omega)] at this
  simpa using this
theorem ci_next {I mt f a : Addr} {i j k : Nat} {oc : Value} {od : Option Addr} {fd : FuncData} {sl : Array (Option Value)} {t0 : Tok} {p x : Lgr} {Post : Value → Lgr → Prop} {Q : Option Value → Shared → Prop} (ar : Ar A (n + 1)) (hk : k ≤ n)
    (hf : g.get? f = some ⟨oc, od, .func fd, sl⟩) (S : CSpec w g (.ref f) [.ref a] k p Post)
    (D : Led g L m s.heap (p ++ x)) (hi : x[i]? = some (I, ciOf (.ref mt) (.str (Str.ofString "") t0))) (hj : x[j]? = some (mt, methodObj (.ref f) (.ref a)))
    (h : ∀ v l' h' tk, Post v l' → Led g L m h' (l' ++ x) → ∃ y t, v = .str y t ∧ (y ≠ Str.ofString "" → Q (some v) { s with heap := h', toks := tk }) ∧
      (y = Str.ofString "" → ∀ h'' tk', Led g L m h'' (l' ++ x.set i (I, ciEnd)) → Q none { s with heap := h'', toks := tk' })) : wpAny (model Pg w) A (pyNext (.ref I)) Q E s := by
  have mI : (I, ciOf (.ref mt) (.str (Str.ofString "") t0)) ∈ p ++ x := List.mem_append_right _ (List.mem_of_getElem? hi)
  have mM : (mt, methodObj (.ref f) (.ref a)) ∈ p ++ x := List.mem_append_right _ (List.mem_of_getElem? hj)
  have eI := (D.nw _ mI).1
  have eM := (D.nw _ mM).1
  have hT : s.TypeIs (.ref I) "callable_iterator" := ⟨_, eI, rfl⟩
  unfold pyNext
  refine wpAny_bind (wpAny_attempt (wpAny_callSpecial?_slot (name := Str.ofString "__next__") hT CI.slot_next (wpAny_call_entry CI.slot_next hT CI.entry_next ?_ (CI.args_next _))))
  show wpAny _ _ (field (.ref I) 2 >>= _) _ _ _
  refine wpAny_bind (wpAny_field eI rfl (x := .bool false) rfl ?_)
  rw [if_neg (by decide)]
  refine wpAny_bind (wpAny_field eI rfl (x := .ref mt) rfl ?_)
  refine wpAny_bind (wpAny_attempt ?_)
  unfold callOutOfASlot
  refine wpAny_bind (borrows_meth eM (D.keep _ _ hf) ?_)
  rw [if_pos rfl]
  refine wpAny_callBorrowed ?_
  obtain ⟨oL, H, back⟩ := D.hp
  have ar1 : Ar A.in1 k := (ar.in1).le hk
  refine method_call eM (S A.in1 s ((L, oL) :: x) _ ar1 (H.perm List.perm_middle.symm) fun v s' l' hs H' P => ?_)
  obtain ⟨h', tk, rfl⟩ := hs
  have D' := back h' (l' ++ x) (H'.perm List.perm_middle)
  obtain ⟨y, t, rfl, hsome, hnone⟩ := h v l' h' tk P D'
  have eI' := (D'.nw (I, ciOf (.ref mt) (.str (Str.ofString "") t0)) (List.mem_append_right _ (List.mem_of_getElem? hi))).1
  have eM' := (D'.nw (mt, methodObj (.ref f) (.ref a)) (List.mem_append_right _ (List.mem_of_getElem? hj))).1
  dsimp only
  refine wpAny_bind (wpAny_field eI' rfl (x := .bool false) rfl ?_)
  rw [if_neg (by decide)]
  refine wpAny_bind (wpAny_field eI' rfl (x := .str (Str.ofString "") t0) rfl ?_)
  refine wpAny_bind (wpAny_holding (wpAny_eqBool_str ?_))
  by_cases hy : Str.ofString "" = y
  · rw [decide_eq_true hy, if_neg (by decide)]
    refine wpAny_bind (wpAny_rule (wpAny_bind ?_))
    show wpAny _ _ (field (.ref I) 0 >>= _) _ _ _
    refine wpAny_bind (wpAny_field eI' rfl (x := .ref mt) rfl ?_)
    unfold slotLetsGo
    refine wpAny_bind (wpAny_bind (borrows_meth eM' (D'.keep _ _ hf) ?_))
    rw [if_pos rfl]
    refine wpAny_pure ?_
    refine wpAny_bind (wpAny_setField eI' rfl (by simp) ?_)
    have e1 := Heap.get?_update_self (Obj.mapFields (·.setIfInBounds 0 Value.none)) eI' rfl
    refine wpAny_bind (wpAny_setField e1 rfl (by simp) ?_)
    have e2 := Heap.get?_update_self (Obj.mapFields (·.setIfInBounds 1 Value.none)) e1 rfl
    refine wpAny_setField e2 rfl (by simp) ?_
    have e3 := Heap.get?_update_self (Obj.mapFields (·.setIfInBounds 2 (Value.bool true))) e2 rfl
    have sb := ((Heap.SameBut.update h' I (Obj.mapFields (·.setIfInBounds 0 Value.none))).trans (Heap.SameBut.update _ I (Obj.mapFields (·.setIfInBounds 1 Value.none)))).trans (Heap.SameBut.update _ I (Obj.mapFields (·.setIfInBounds 2 (Value.bool true))))
    have D2 := D'.putR hi sb e3
    show wpAny _ _ (newExc (.type "StopIteration") [] >>= _) _ _ _
    refine wpAny_bind ?_
    simp only [newExc, newTuple]
    refine wpAny_bind (wpAny_newObj_type ?_ (by size_fits))
    refine wpAny_bind (m := firstArgMember _ _) (wpAny_of_eq (a := Value.none) (by first | rfl | (simp only [firstArgMember]; rfl)) ?_)
    refine wpAny_newObj_type ?_ (by size_fits)
    simp only [raiseNew]
    refine wpAny_bind (wpAny_handled ?_)
    rw [show A.in1.handled = none from ar.hh]
    refine wpAny_bind (wpAny_pure (wpAny_throw ?_))
    refine wpAny_bind (wpAny_isInstance (T := "StopIteration") (b := true) ⟨_, Heap.get?_push_size _ rfl, rfl⟩ isSubtype_stop ?_)
    refine wpAny_pure (hnone hy.symm _ _ ?_)
    exact D2.keeps fun b o e => Heap.get?_push_of_some _ (Heap.get?_push_of_some _ e)
  · rw [decide_eq_false hy, if_pos (by decide)]
    exact wpAny_pure ⟨_, rfl, wpAny_pure (hsome (Ne.symm hy))⟩
end
end
-- C4
/-- a call that reads and changes the part p, what stands ahead of it staying -/
theorem useAt {w : World} {g : Heap} {A : Around} {s : Shared} {L : Addr} {m : Str → Option Value} {l p z : Lgr} {E : Value → Shared → Prop} {f : Value} {vs : List Value} {k n : Nat} {Post : Value → Lgr → Prop} {Q : Value → Shared → Prop} (i : Nat) (S : FSpec w g f vs k p Post) (D : Led g L m s.heap l) (hp : l.drop i = p ++ z) (ar : Ar A n) (hk : k ≤ n)
    (h : ∀ v h' tk l', Led g L m h' (l.take i ++ (l' ++ z)) → Post v l' → Q v { s with heap := h', toks := tk }) : wpAny (model Pg w) A (call f vs) Q E s := by
  have e : l = l.take i ++ (p ++ z) := by rw [← hp, List.take_append_drop]
  refine use S D (x := l.take i ++ z) ?_ ar hk fun v h' tk l' D' P => h v h' tk l' (D'.perm (List.perm_append_comm_assoc _ _ _)) P
  have q := List.perm_append_comm_assoc (l.take i) p z
  rw [← e] at q
  exact q
theorem useAtT {w : World} {g : Heap} {A : Around} {s : Shared} {L : Addr} {m : Str → Option Value} {l p z : Lgr} {E : Value → Shared → Prop} {f : Value} {vs : List Value} {k n : Nat} {F : Tok → Value} {lq : Lgr} {Q : Value → Shared → Prop} (i : Nat) (S : FSpec w g f vs k p (fun v l => l = lq ∧ ∃ t, v = F t)) (D : Led g L m s.heap l) (hp : l.drop i = p ++ z) (ar : Ar A n) (hk : k ≤ n)
    (h : ∀ t h' tk, Led g L m h' (l.take i ++ (lq ++ z)) → Q (F t) { s with heap := h', toks := tk }) : wpAny (model Pg w) A (call f vs) Q E s :=
  useAt i S D hp ar hk fun v h' tk l' D1 hv => by
    obtain ⟨rfl, t, rfl⟩ := hv
    exact h t h' tk D1
theorem fnAt {g h : Heap} {L : Addr} {m : Str → Option Value} {l : Lgr} {q : Addr} {i : Nat} {oc : Value} {od : Option Addr} {fd : FuncData} {sl : Array (Option Value)} (D : Led g L m h l) (hi : l[i]? = some (q, (⟨oc, od, .func fd, sl⟩ : Obj))) : FnAt q h := ⟨_, _, _, _, D.at hi⟩
theorem word38 : True := by
  k_with "callWith ref" => (k_dflt (first
      | (refine' cwF ?kG ?k1 ?_ ?k2 ?k3; (case kG => assumption); (case k1 => k_is); (case k2 => exact rfl); (case k3 => exact rfl); k_whole)
      | ((with_reducible rename Led _ _ _ _ _ => D0); refine' cwF0 ?kG D0 ?k1 ?_; (case kG => assumption); (case k1 => k_is); k_whole)
      | ((with_reducible rename Led _ _ _ _ _ => D0); refine' cwX D0 ?k1 ?_ ?k2 ?k3; (case k1 => walk_at "mine at"); (case k2 => exact rfl); (case k3 => exact rfl); k_whole)))
  trivial
theorem word39 : True := by
  k_with "And" => (((with_reducible rename Led _ _ _ _ _ => D0); first
      | ((with_reducible show Kept _ _ ∧ _); refine ⟨Led.keep D0, ?_⟩; try dsimp only [List.nil_append, List.cons_append])
      | ((with_reducible show FnAt _ _ ∧ _); refine' And.intro (fnAt D0 ?k1) ?_; (case k1 => walk_at "mine at"); try dsimp only [List.nil_append, List.cons_append])))
  trivial
/-- the line a sign leads to -/
noncomputable def upLine (line : Int) (y : Str) : Int := if y == (Str.ofString "\n") then line + 1 else line
theorem sp_read {w : World} {g : Heap} (G : Gd w g) {T : List Nat} {a f : Addr} {co : Addr × Obj} {R : Nat → Lgr → Prop} (rd : Reads w g T f co R) {p : Nat} {line : Int} {q : List Str} {l : Lgr} (hl : LexAt w a f R p line q l) :
    CSpec w g (.ref 143) [.ref a] 3 l (fun v l' => (∃ t, v = .str (chr T p) t) ∧ LexAt w a f R (p + 1) (upLine line (chr T p)) q l') := by
  intro A s z RR ar H ret
  obtain ⟨dx, pb, sx, dx2, pb2, its, n, k1, k2, k3, k4, t1, t2, j1, j2, j3, j4, j5, t3, t4, lf, hR, hq, rfl⟩ := hl
  obtain ⟨cl, od, fd, sl, r, rfl⟩ := rd.fn p lf hR
  refine' enterK (binds := [((Str.ofString "self"), .ref a)]) (bl := [((Str.ofString "self"), .ref a)]) G H ar ?k1 ?k2 ?k3 ?k4 ?k5 ?k6 ?k7 ?k8 ?kb ?_
  case k1 => k_is
  case k2 => k_is
  case k3 => first | exact BindsTo.of_eq rfl | exact binds_K (G.X.keeps H.keep) rfl (by k_is) rfl rfl rfl
  case k4 => exact locs rfl
  case k5 => decide
  case k6 => exact rfl
  case k7 => exact rfl
  case k8 => exact rfl
  case kb => exact rfl
  intro L A' h₁ tk ar' D
  dsimp only [List.cons_append, List.nil_append] at D
  w_strict (walk1; k_fold; (iterate 11 walk1))
  rename Led _ _ _ _ _ => D
  refine' useAt (z := z) 5 (rd.go p _ _ hR) ?uD ?up ar' ?uk ?_
  case uD => exact D
  case up => exact rfl
  case uk => omega
  intro v h' tk l' D1 hv
  obtain ⟨⟨t5, rfl⟩, hR'⟩ := hv
  simp only [List.take_succ_cons, List.take_zero, List.cons_append, List.nil_append] at D1
  clear D
  w_strict (walk_at "mine go")
  all_goals
    rename Led _ _ _ _ _ => D
    rename (_ == _) = _ => hb
  · refine ret _ _ (_ :: _ :: _ :: _ :: _ :: l') (((Sm.mk (h := h₁) (tk := tk)).go _ _).go _ _) D.out ⟨⟨_, rfl⟩, ?_⟩
    rw [show upLine line (chr T p) = line + 1 by unfold upLine; rw [if_pos hb]]
    exact ⟨dx, pb, sx, dx2, pb2, its, n, k1, k2, k3, k4, _, t2, j1, j2, j3, j4, j5, t3, t4, l', hR', hq, rfl⟩
  · refine ret _ _ (_ :: _ :: _ :: _ :: _ :: l') (((Sm.mk (h := h₁) (tk := tk)).go _ _).go _ _) D.out ⟨⟨_, rfl⟩, ?_⟩
    rw [show upLine line (chr T p) = line by unfold upLine; rw [if_neg (by rw [hb]; decide)]]
    exact ⟨dx, pb, sx, dx2, pb2, its, n, k1, k2, k3, k4, _, t2, j1, j2, j3, j4, j5, t3, t4, l', hR', hq, rfl⟩
-- C5
theorem sp_push {w : World} {g : Heap} (G : Gd w g) {a f : Addr} {R : Nat → Lgr → Prop} {p : Nat} {line : Int} {q : List Str} {l : Lgr} {y : Str} {t : Tok} (hl : LexAt w a f R p line q l) (hz : q.length ≤ 1000) :
    FSpec w g (.ref 157) [.ref a, .str y t] 1 l (fun v l' => v = .none ∧ LexAt w a f R p line (q ++ [y]) l') := by
  refine .of fun A s z Q E ar H ret => ?_
  obtain ⟨dx, pb, sx, dx2, pb2, its, n, k1, k2, k3, k4, t1, t2, j1, j2, j3, j4, j5, t3, t4, lf, hR, hq, rfl⟩ := hl
  refine' enter (binds := [((Str.ofString "self"), .ref a), ((Str.ofString "token"), .str y t)]) (bl := [((Str.ofString "token"), .str y t), ((Str.ofString "self"), .ref a)]) G H ar ?k1 ?k2 ?k3 ?k4 ?k5 ?k6 ?k7 ?k8 ?kb ?_
  case k1 => k_is
  case k2 => k_is
  case k3 => first | exact BindsTo.of_eq rfl | exact binds_K (G.X.keeps H.keep) rfl (by k_is) rfl rfl rfl
  case k4 => exact locs rfl
  case k5 => decide
  case k6 => exact rfl
  case k7 => exact rfl
  case k8 => exact rfl
  case kb => exact rfl
  intro L A' h₁ tk ar' D
  dsimp only [List.cons_append, List.nil_append] at D
  have hz2 := hq.len_eq
  w_strict (walk1; k_fold; (iterate 12 walk1))
  rename Led _ _ _ _ _ => D
  simp only [List.push_toArray] at D
  refine ret _ _ (_ :: _ :: _ :: _ :: _ :: lf) ((Sm.mk (h := h₁) (tk := tk)).go _ _) D.out ⟨rfl, ?_⟩
  exact ⟨dx, pb, sx, dx2, pb2, its ++ [.str y t], _, k1, k2, k3, k4, t1, t2, j1, j2, j3, j4, j5, t3, t4, lf, hR, StrsAre.snoc hq, rfl⟩
theorem sp_pop {w : World} {g : Heap} (G : Gd w g) {a f : Addr} {R : Nat → Lgr → Prop} {p : Nat} {line : Int} {y : Str} {q : List Str} {l : Lgr} (hl : LexAt w a f R p line (y :: q) l) (hz : q.length ≤ 1000) :
    FSpec w g (.ref 150) [.ref a] 1 l (fun v l' => (∃ t, v = .str y t) ∧ LexAt w a f R p line q l') := by
  refine .of fun A s z Q E ar H ret => ?_
  obtain ⟨dx, pb, sx, dx2, pb2, its, n, k1, k2, k3, k4, t1, t2, j1, j2, j3, j4, j5, t3, t4, lf, hR, hq, rfl⟩ := hl
  cases hq with
  | cons _ t hq =>
    rename_i vs
    have hz2 := hq.len_eq
    have hz3 : (Value.str y t :: vs).length ≤ 1000000 := by simp; omega
    refine' enter (binds := [((Str.ofString "self"), .ref a)]) (bl := [((Str.ofString "self"), .ref a)]) G H ar ?k1 ?k2 ?k3 ?k4 ?k5 ?k6 ?k7 ?k8 ?kb ?_
    case k1 => k_is
    case k2 => k_is
    case k3 => first | exact BindsTo.of_eq rfl | exact binds_K (G.X.keeps H.keep) rfl (by k_is) rfl rfl rfl
    case k4 => exact locs rfl
    case k5 => decide
    case k6 => exact rfl
    case k7 => exact rfl
    case k8 => exact rfl
    case kb => exact rfl
    intro L A' h₁ tk ar' D
    dsimp only [List.cons_append, List.nil_append] at D
    w_strict (walk_at "mine go")
    any_goals (rename List.isEmpty _ = true => hb; cases hb)
    rename Led _ _ _ _ _ => D
    refine ret _ _ (_ :: _ :: _ :: _ :: _ :: lf) ((Sm.mk (h := h₁) (tk := tk)).go _ _) D.out ⟨⟨_, rfl⟩, ?_⟩
    exact ⟨dx, pb, sx, dx2, pb2, vs, _, k1, k2, k3, k4, t1, t2, j1, j2, j3, j4, j5, t3, t4, lf, hR, hq, rfl⟩
-- P4
section
open Builtin
section
variable {w : World} {g : Heap} {A : Around} {n : Nat} {s : Shared} {L : Addr} {m : Str → Option Value} {l : Lgr} {E : Value → Shared → Prop}
/-- a loop's turn is over: less is left to do -/
noncomputable def Nxt (J : Nat → Shared → Prop) (n : Nat) (s : Shared) : Prop := ∃ m, m < n ∧ J m s
theorem forC {x : Str} {px : Pos} {it : Value} {body : List Stmt} {env : Env} {R : Result → Shared → Prop} (J : Nat → Shared → Prop)
    (turn : ∀ n s, J n s → wpAny (model Pg w) A (pyNext it) (fun r s₁ => match r with
      | none => R (.ok .next) s₁
      | some v => wpAny (model Pg w) A (assign (.Name x px) env v) (fun _ s₂ => wpAny (model Pg w) A (execs body env) (fun f s₃ => match f with
        | .next | .cont => Nxt J n s₃
        | .brk => R (.ok .next) s₃
        | .ret v => R (.ok (.ret v)) s₃) NoE s₂) NoE s₁) NoE s) {n : Nat} {s : Shared} (h : J n s) : codeAny (model Pg w) A (.forLoop (.Name x px) it body [] env) R s := by
  refine codeAny_forLoop_any J (fun n s hJ => wpAny_mono (turn n s hJ) (fun r s₁ h₁ => ?_) fun _ _ e => e.elim) n h
  cases r with
  | none => exact wpAny_execs_nil h₁
  | some v => exact wpAny_pure (wpAny_mono h₁ (fun _ s₂ h₂ => wpAny_mono h₂ (fun f s₃ h₃ => h₃) fun _ _ e => e.elim) fun _ _ e => e.elim)
theorem meth_call_look : typeLookup (.type "method") "__call__" = pure (some (.builtin "method.__call__")) := by rw [typeLookup_type, builtinLookup_eq_fast]; kernel_rfl
theorem iter_args2 (a b : Value) : argsOk "iter" ⟨[a, b], []⟩ := by unfold argsOk; kernel_rfl
theorem iter2 {mt : Addr} {f a snt : Value} {i : Nat} {Q : Value → Shared → Prop} (D : Led g L m s.heap l) (hi : l[i]? = some (mt, methodObj f a)) (h : ∀ I h', Led g L m h' ((I, ciOf (.ref mt) snt) :: l) → Q (.ref I) { s with heap := h' }) :
    wpAny (model Pg w) A (call (.builtin "iter") [.ref mt, snt]) Q E s := by
  have hT : s.TypeIs (.ref mt) "method" := ⟨_, D.at hi, rfl⟩
  refine call_function_entry (by decide +kernel) (by decide +kernel) kdk_entry_iter (iter_args2 _ _) ?_
  unfold Builtin.«iter»
  refine wpAny_bind (m := someArgs "iter" 1 2 _) (wpAny_of_eq (a := [.ref mt, snt]) (by first | rfl | kernel_rfl!) ?_)
  dsimp only
  refine wpAny_bind (wpAny_specialOf hT meth_call_look ?_)
  rw [if_neg (by decide)]
  refine wpAny_bind (wpAny_rule (wpAny_bind (wpAny_newObj_type (wpAny_pure ⟨_, rfl, h _ _ (D.push _)⟩))))
end
end
-- P5
noncomputable def setN (n : Str) (v : Value) : List (Str × Value) → Option (List (Str × Value))
  | [] => none
  | (k, u) :: r => if n = k then some ((k, v) :: r) else (setN n v r).map ((k, u) :: ·)
/-- a frame's names, each once, in the order of their first stores -/
noncomputable def nrm : List (Str × Value) → List (Str × Value)
  | [] => []
  | (n, v) :: b => (setN n v (nrm b)).getD ((n, v) :: nrm b)
theorem mp_setN (n : Str) (v : Value) : ∀ (b b' : List (Str × Value)), setN n v b = some b' → mp b' = mp ((n, v) :: b)
  | [], _, h => by cases h
  | (k, u) :: r, b', h => by
    unfold setN at h
    by_cases hk : n = k
    · rw [if_pos hk] at h
      cases h
      subst hk
      funext y
      simp only [mp]
      by_cases hy : y = n
      · simp [hy]
      · simp [hy]
    · rw [if_neg hk] at h
      obtain ⟨r', hr, rfl⟩ := Option.map_eq_some_iff.mp h
      have ih := mp_setN n v r r' hr
      funext y
      simp only [mp, ih]
      by_cases hy : y = k
      · have : ¬ y = n := fun e => hk (e.symm.trans hy)
        simp [hy, Ne.symm hk]
      · simp [hy]
theorem mp_nrm : ∀ b : List (Str × Value), mp (nrm b) = mp b
  | [] => rfl
  | (n, v) :: b => by
    unfold nrm
    have ih := mp_nrm b
    cases h : setN n v (nrm b) with
    | none => simp only [Option.getD_none]; funext y; simp only [mp, ih]
    | some b' => simp only [Option.getD_some]; rw [mp_setN n v _ _ h]; funext y; simp only [mp, ih]
theorem Led.nrm {g h : Heap} {L : Addr} {b b' : List (Str × Value)} {l : Lgr} (D : Led g L (mp b) h l) (e : nrm b = b') : Led g L (mp b') h l := by rw [← e, mp_nrm]; exact D
theorem drop_succ {T : List Nat} {p c : Nat} {r : List Nat} (h : T.drop p = c :: r) : T.drop (p + 1) = r := by
  have := congrArg List.tail h
  simpa using this
noncomputable def cnt (r : List Nat) : Int := (r.count 10 : Nat)
theorem up_cnt (line : Int) (c : Nat) (r : List Nat) : upLine line (one c) + cnt r = line + cnt (c :: r) := by
  unfold upLine cnt
  by_cases h : c = 10
  · subst h
    rw [if_pos (by decide)]
    simp; omega
  · have : ¬ (one c == Str.ofString "\n") = true := by
      intro e
      have := eq_of_beq e
      have h2 : (one c).cps = (Str.ofString "\n").cps := by rw [this]
      have h3 : (#[c] : Array Nat) = #[10] := h2
      simp at h3
      exact h h3
    rw [if_neg this, List.count_cons_of_ne h]
theorem one_ne (c : Nat) : one c ≠ Str.ofString "" := fun e => by
  have h2 : (#[c] : Array Nat) = #[] := congrArg Str.cps e
  simp at h2
theorem lexTurn {w : World} {g : Heap} {A : Around} {n : Nat} {s : Shared} {L : Addr} {m : Str → Option Value} {z lx : Lgr} {E : Value → Shared → Prop} {Q : Option Value → Shared → Prop} {T : List Nat} {a f I mt : Addr} {t0 : Tok} {R : Nat → Lgr → Prop} {p : Nat} {line : Int}
    {oc : Value} {od : Option Addr} {fd : FuncData} {sl : Array (Option Value)} (hf : g.get? 143 = some ⟨oc, od, .func fd, sl⟩)
    (S : ∀ p line lx, LexAt w a f R p line [] lx → CSpec w g (.ref 143) [.ref a] 3 lx (fun v l' => (∃ t, v = .str (chr T p) t) ∧ LexAt w a f R (p + 1) (upLine line (chr T p)) [] l'))
    (ar : Ar A (n + 1)) (hn : 3 ≤ n) (hlex : LexAt w a f R p line [] lx)
    (D : Led g L m s.heap (lx ++ ((I, ciOf (.ref mt) (.str (Str.ofString "") t0)) :: (mt, methodObj (.ref 143) (.ref a)) :: z)))
    (hnone : T.drop p = [] → ∀ p' line' lx' h' tk, LexAt w a f R p' line' [] lx' → T.drop p' = [] → line' = line → Led g L m h' (lx' ++ ((I, ciEnd) :: (mt, methodObj (.ref 143) (.ref a)) :: z)) → Q none { s with heap := h', toks := tk })
    (hsome : ∀ c r lx' h' tk k, T.drop p = c :: r → T.drop (p + 1) = r → LexAt w a f R (p + 1) (upLine line (one c)) [] lx' → Led g L m h' (lx' ++ ((I, ciOf (.ref mt) (.str (Str.ofString "") t0)) :: (mt, methodObj (.ref 143) (.ref a)) :: z)) → Q (some (.str (one c) k)) { s with heap := h', toks := tk }) :
    wpAny (model Pg w) A (pyNext (.ref I)) Q E s := by
  refine ci_next (i := 0) (j := 1) ar hn hf (S p line lx hlex) D rfl rfl fun v l' h' tk hP D' => ?_
  obtain ⟨⟨k, rfl⟩, hlex'⟩ := hP
  refine ⟨chr T p, k, rfl, fun hy => ?_, fun hy h'' tk' D'' => ?_⟩
  · cases hd : T.drop p with
    | nil => exact absurd (by show strOf ((T.drop p).take 1) = _; rw [hd]; rfl) hy
    | cons c r =>
      have e : chr T p = one c := by show strOf ((T.drop p).take 1) = _; rw [hd]; rfl
      rw [e] at hlex' ⊢
      exact hsome c r l' h' tk k hd (drop_succ hd) hlex' D'
  · cases hd : T.drop p with
    | cons c r =>
      have e : chr T p = one c := by show strOf ((T.drop p).take 1) = _; rw [hd]; rfl
      rw [e] at hy
      exact absurd hy (one_ne c)
    | nil =>
      have h2 : T.drop (p + 1) = [] := by
        have := congrArg List.tail hd
        simpa using this
      rw [hy] at hlex'
      exact hnone hd (p + 1) _ l' h'' tk' hlex' h2 (by unfold upLine; rw [if_neg (by decide)]) D''
theorem Hp.cut2 {g h : Heap} {lx z : Lgr} {p q : Addr × Obj} (H : Hp g h (lx ++ (p :: q :: z))) : Hp g h (lx ++ z) :=
  H.sub (List.Sublist.append_left (List.Sublist.cons _ (List.Sublist.cons _ (List.Sublist.refl z))) lx)

section
variable (w : World) (g : Heap) (s : Shared) (a f : Addr) (R : Nat → Lgr → Prop) (T : List Nat) (L I mt : Addr) (t0 : Tok) (z : Lgr) (c0 : Int)
/-- the lexer's loops, between their turns: P of what is left and of the token so far -/
inductive LexJ (P : List Nat → Str → Prop) (n : Nat) (s' : Shared) : Prop
  | mk (p line pre lx acc k : _) (h_0 : n = (T.drop p).length) (h_1 : P (T.drop p) acc) (h_2 : line + cnt (T.drop p) = c0) (h_3 : (pre = [] ∨ ∃ v, pre = [(Str.ofString "ch", v)])) (h_4 : LexAt w a f R p line [] lx) (h_5 : Sm s s') (h_6 : Led g L (mp (pre ++ [(Str.ofString "fiter", .ref I), (Str.ofString "token", .str acc k), (Str.ofString "self", .ref a)])) s'.heap (lx ++ ((I, ciOf (.ref mt) (.str (Str.ofString "") t0)) :: (mt, methodObj (.ref 143) (.ref a)) :: z))) : LexJ P n s'
end
theorem lexFor {w : World} {g : Heap} {A : Around} {n m : Nat} {s s₀ : Shared} {L : Addr} {z : Lgr} {T : List Nat} {a f I mt : Addr} {t0 : Tok} {R : Nat → Lgr → Prop} {c0 : Int} {px : Pos} {body : List Stmt} {env : Env} {RR : Result → Shared → Prop}
    {oc : Value} {od : Option Addr} {fd : FuncData} {sl : Array (Option Value)} (hf : g.get? 143 = some ⟨oc, od, .func fd, sl⟩)
    (S : ∀ p line lx, LexAt w a f R p line [] lx → CSpec w g (.ref 143) [.ref a] 3 lx (fun v l' => (∃ t, v = .str (chr T p) t) ∧ LexAt w a f R (p + 1) (upLine line (chr T p)) [] l'))
    (ar : Ar A (n + 1)) (hn : 3 ≤ n) (P : List Nat → Str → Prop) (hL : env.locals = L) (hk : env.scope.kind = .function) (hx : env.kindOf (Str.ofString "ch") = some .local)
    (hnone : ∀ acc k p line lx pre h' tk s', P [] acc → T.drop p = [] → line + cnt [] = c0 → (pre = [] ∨ ∃ v, pre = [(Str.ofString "ch", v)]) → LexAt w a f R p line [] lx → Sm s₀ s' →
      Led g L (mp (pre ++ [(Str.ofString "fiter", .ref I), (Str.ofString "token", .str acc k), (Str.ofString "self", .ref a)])) h' (lx ++ ((I, ciEnd) :: (mt, methodObj (.ref 143) (.ref a)) :: z)) → RR (.ok .next) { s' with heap := h', toks := tk })
    (hsome : ∀ c r acc k k2 p line lx h' tk s', P (c :: r) acc → T.drop p = c :: r → T.drop (p + 1) = r → upLine line (one c) + cnt r = c0 → LexAt w a f R (p + 1) (upLine line (one c)) [] lx → Sm s₀ s' →
      Led g L (mp [(Str.ofString "ch", .str (one c) k2), (Str.ofString "fiter", .ref I), (Str.ofString "token", .str acc k), (Str.ofString "self", .ref a)]) h' (lx ++ ((I, ciOf (.ref mt) (.str (Str.ofString "") t0)) :: (mt, methodObj (.ref 143) (.ref a)) :: z)) →
      wpAny (model Pg w) A (execs body env) (fun fl s₃ => match fl with
        | .next | .cont => Nxt (LexJ w g s₀ a f R T L I mt t0 z c0 P) (r.length + 1) s₃
        | .brk => RR (.ok .next) s₃
        | .ret v => RR (.ok (.ret v)) s₃) NoE { s' with heap := h', toks := tk })
    (h : LexJ w g s₀ a f R T L I mt t0 z c0 P m s) : codeAny (model Pg w) A (.forLoop (.Name (Str.ofString "ch") px) (.ref I) body [] env) RR s := by
  refine forC (LexJ w g s₀ a f R T L I mt t0 z c0 P) ?_ h
  rintro m s' ⟨p, line, pre, lx, acc, k, rfl, hP, hline, hpre, hlex, hs, D⟩
  refine lexTurn hf S ar hn hlex D (fun hd p2 line2 lx2 h' tk' hl2 hd2 hl3 D2 => ?_) (fun c r lx2 h' tk' k2 hd hd2 hl2 D2 => ?_)
  · rw [hd] at hP hline
    exact hnone acc k p2 line2 lx2 pre h' tk' s' hP hd2 (by rw [hl3]; exact hline) hpre hl2 hs D2
  · dsimp only
    refine wpAny_assign_Name (stL D2 hL hk hx fun h3 D3 => ?_)
    have D4 : Led g L (mp [(Str.ofString "ch", .str (one c) k2), (Str.ofString "fiter", .ref I), (Str.ofString "token", .str acc k), (Str.ofString "self", .ref a)]) h3 (lx2 ++ ((I, ciOf (.ref mt) (.str (Str.ofString "") t0)) :: (mt, methodObj (.ref 143) (.ref a)) :: z)) := by
      rcases hpre with rfl | ⟨v, rfl⟩
      · exact D3
      · exact D3.nrm (by kernel_rfl!)
    have hu := up_cnt line c r
    rw [hd] at hP hline
    have e : (T.drop p).length = r.length + 1 := by rw [hd]; rfl
    rw [e]
    exact hsome c r acc k k2 p line lx2 h3 _ s' hP hd hd2 (hu.trans hline) hl2 hs D4

theorem ci_iterM {w : World} {g : Heap} {A : Around} {s : Shared} {L : Addr} {m : Str → Option Value} {l : Lgr} {E : Value → Shared → Prop} {I : Addr} {f snt : Value} {Q : Value → Shared → Prop} (D : Led g L m s.heap l) (hi : (I, ciOf f snt) ∈ l) (h : Q (.ref I) s) : wpAny (model Pg w) A (pyIter (.ref I)) Q E s := by
  obtain ⟨i, hi⟩ := List.getElem?_of_mem hi
  exact ci_iter D hi h
theorem app_one (u : List Nat) (c : Nat) : strOf u ++ one c = strOf (u ++ [c]) := by
  show (⟨u.toArray ++ #[c]⟩ : Str) = ⟨(u ++ [c]).toArray⟩
  simp
theorem nil_one (c : Nat) : Str.ofString "" ++ one c = strOf [c] := by
  rw [show Str.ofString "" = strOf [] by decide, app_one]; rfl
theorem str_nil : Str.ofString "" = strOf [] := by decide
theorem one_beq_false {c d : Nat} {x : Str} (hx : x = one d) (h : c ≠ d) : (one c == x) = false := by
  subst hx
  rw [beq_eq_false_iff_ne]
  intro e
  have h2 : (#[c] : Array Nat) = #[d] := congrArg Str.cps e
  simp at h2
  exact h h2
/-- one turn done -/
theorem lexNxt {w : World} {g : Heap} {s s' : Shared} {a f : Addr} {R : Nat → Lgr → Prop} {T : List Nat} {L I mt : Addr} {t0 : Tok} {z : Lgr} {c0 : Int} {P : List Nat → Str → Prop} {n p : Nat} {line : Int} {lx : Lgr} {acc : Str} {k : Tok} {rr : List Nat} {v : Value}
    (hn : rr.length < n) (hd : T.drop p = rr) (hP : P rr acc) (hline : line + cnt rr = c0) (hlex : LexAt w a f R p line [] lx) (hs : Sm s s')
    (D : Led g L (mp [(Str.ofString "ch", v), (Str.ofString "fiter", .ref I), (Str.ofString "token", .str acc k), (Str.ofString "self", .ref a)]) s'.heap (lx ++ ((I, ciOf (.ref mt) (.str (Str.ofString "") t0)) :: (mt, methodObj (.ref 143) (.ref a)) :: z))) :
    Nxt (LexJ w g s a f R T L I mt t0 z c0 P) n s' := by
  subst hd
  exact ⟨_, hn, p, line, [(Str.ofString "ch", v)], lx, acc, k, rfl, hP, hline, .inr ⟨_, rfl⟩, hlex, hs, D⟩
section
variable {g h : Heap} {L : Addr} {l : Lgr} {T' c1 c2 F T0 S : Value}
theorem nrmA (D : Led g L (mp [(Str.ofString "token", T'), (Str.ofString "ch", c1), (Str.ofString "ch", c2), (Str.ofString "fiter", F), (Str.ofString "token", T0), (Str.ofString "self", S)]) h l) :
    Led g L (mp [(Str.ofString "ch", c1), (Str.ofString "fiter", F), (Str.ofString "token", T'), (Str.ofString "self", S)]) h l := D.nrm (by kernel_rfl!)
theorem nrmB (D : Led g L (mp [(Str.ofString "token", T'), (Str.ofString "ch", c1), (Str.ofString "fiter", F), (Str.ofString "token", T0), (Str.ofString "self", S)]) h l) :
    Led g L (mp [(Str.ofString "ch", c1), (Str.ofString "fiter", F), (Str.ofString "token", T'), (Str.ofString "self", S)]) h l := D.nrm (by kernel_rfl!)
end
-- C6
noncomputable def wsC (c : Nat) : Prop := c = 10 ∨ c = 32
inductive QB : List Nat → List Nat → List Nat → Prop
  | stop (r) : QB (34 :: r) [] r
  | esc (c) {r t r'} : QB r t r' → QB (92 :: c :: r) (c :: t) r'
  | plain (c) {r t r'} : c ≠ 34 → c ≠ 92 → QB r t r' → QB (c :: r) (c :: t) r'
inductive BB : List Nat → List Nat → List Nat → Prop
  | stop (c) (r) : wsC c → BB (c :: r) [] r
  | esc (c) {r t r'} : BB r t r' → BB (92 :: c :: r) (c :: t) r'
inductive Tk : List Nat → List Nat → List Nat → Prop
  | done : Tk [] [] []
  | skip (c) {r t r'} : wsC c → Tk r t r' → Tk (c :: r) t r'
  | quote {r t r'} : QB r t r' → Tk (34 :: r) t r'
  | bare (c) {r t r'} : BB r t r' → Tk (92 :: c :: r) (c :: t) r'
theorem word40 : True := by
  k_with "call builtin:iter" => (k_dflt ((with_reducible rename Led _ _ _ _ _ => D0); (refine' iter2 D0 ?k1 ?_; (case k1 => walk_at "mine at"); k_whole; intro _ _ _; (try clear D0))))
  trivial
theorem sp_lex {w : World} {g : Heap} (G : Gd w g) {T : List Nat} {a f : Addr} {co : Addr × Obj} {R : Nat → Lgr → Prop} (rd : Reads w g T f co R) {p : Nat} {line : Int} {l : Lgr} {t r : List Nat} (hl : LexAt w a f R p line [] l) (hT : Tk (T.drop p) t r) (hz : t.length ≤ 1000) :
    FSpec w g (.ref 150) [.ref a] 5 l (fun v l' => (∃ k, v = .str (strOf t) k) ∧ ∃ p' line', LexAt w a f R p' line' [] l' ∧ T.drop p' = r ∧ line' + cnt r = line + cnt (T.drop p)) := by
  refine .of fun A s z Q E ar H ret => ?_
  obtain ⟨dx, pb, sx, dx2, pb2, its, n, k1, k2, k3, k4, t1, t2, j1, j2, j3, j4, j5, t3, t4, lf, hR, hq, rfl⟩ := hl
  cases hq
  refine' enter (binds := [((Str.ofString "self"), .ref a)]) (bl := [((Str.ofString "self"), .ref a)]) G H ar ?k1 ?k2 ?k3 ?k4 ?k5 ?k6 ?k7 ?k8 ?kb ?_
  case k1 => k_is
  case k2 => k_is
  case k3 => first | exact BindsTo.of_eq rfl | exact binds_K (G.X.keeps H.keep) rfl (by k_is) rfl rfl rfl
  case k4 => exact locs rfl
  case k5 => decide
  case k6 => exact rfl
  case k7 => exact rfl
  case k8 => exact rfl
  case kb => exact rfl
  intro L A' h₁ tk ar' D
  dsimp only [List.cons_append, List.nil_append] at D
  w_strict (walk1; k_fold; (iterate 8 walk1); dsimp only [qk]; clear qk; (try clear ek); walk1; k_fold; (iterate 3 walk1); dsimp only [qk]; clear qk; (try clear ek); walk1; k_fold; (iterate 13 walk1); dsimp only [qk]; clear qk; (try clear ek); walk1; k_fold; (iterate 2 walk1))
  rename Led _ _ _ _ _ => D
  rename_i tk0 _ mt _ t0 I _ hh
  have hf := G.X 143 _ (by k_is)
  refine ci_iter D at0 ?_
  have Sr := fun p line lx (h : LexAt w a f R p line [] lx) => sp_read G rd h
  have hl0 : LexAt w a f R p line [] ((pb, listOf #[] n) :: (a, instObj 160 dx) :: _ :: _ :: _ :: lf) := ⟨dx, pb, sx, dx2, pb2, [], n, k1, k2, k3, k4, t1, t2, j1, j2, j3, j4, j5, t3, t4, lf, hR, .nil, rfl⟩
  refine' lexFor (L := L) (z := z) (T := T) (a := a) (I := I) (mt := mt) (t0 := t0) (s₀ := s) (R := R) (f := f) (c0 := line + cnt (T.drop p)) (m := (T.drop p).length) hf Sr ar' (by omega) (fun rest acc => acc = Str.ofString "" ∧ Tk rest t r) rfl rfl (by kernel_rfl!) (fun acc k p2 line2 lx2 pre h' tk' s' hP hd hline hpre hl2 hs D2 => ?c1) (fun c rr acc kt kc p' line' lx2 h3 tk3 s' hP hd hd2 hline hl2 hs D4 => ?c2) ?c3
  case c3 => exact ⟨p, line, [], _, _, tk0, rfl, ⟨rfl, hT⟩, rfl, .inl rfl, hl0, ((Sm.mk (h := h₁) (tk := tk)).go _ _).go _ _, D.perm (List.perm_append_comm_assoc [_, _] (_ :: _ :: _ :: _ :: _ :: lf) z)⟩
  · obtain ⟨rfl, hP⟩ := hP
    cases hP
    try dsimp only
    rcases hpre with rfl | ⟨v, rfl⟩
    all_goals
      dsimp only [List.cons_append, List.nil_append] at D2
      clear D
      w_strict (dsimp only [qk]; clear qk; (try clear ek); walk1; k_fold; (iterate 2 walk1); dsimp only [qk]; clear qk; (try clear ek))
      rename Led _ _ _ _ _ => D2
      exact ret _ _ lx2 (hs.go _ _) D2.out.cut2 ⟨⟨_, rfl⟩, p2, line2, hl2, hd, hline⟩
  · obtain ⟨rfl, hTk⟩ := hP
    clear D
    obtain ⟨dx, pb, sx, dx2, pb2, its, n, k1, k2, k3, k4, t1, t2, j1, j2, j3, j4, j5, t3, t4, lf, hR, hq, rfl⟩ := id hl2
    cases hq
    dsimp only [List.cons_append, List.nil_append] at D4
    have sm : ∀ h tk, Sm s { s' with heap := h, toks := tk } := fun h tk => hs.go h tk
    cases hTk with
    | skip _ hw hTk =>
      rcases hw with rfl | rfl
      · have hoc : (Builtin.Str.occurrences (Str.ofString "\n\t\r ") (one 10) 0 (Str.ofString "\n\t\r ").length 1).isEmpty = false := by decide +kernel
        w_strict (walk1; k_fold; (iterate 10 walk1); k_fold; walk1; dsimp only [qk]; clear qk; (try clear ek); dsimp only [qk]; clear qk; (try clear ek))
        rename Led _ _ _ _ _ => D9
        exact lexNxt (Nat.lt_succ_self _) hd2 ⟨rfl, hTk⟩ hline hl2 (sm _ _) D9
      · have hoc : (Builtin.Str.occurrences (Str.ofString "\n\t\r ") (one 32) 0 (Str.ofString "\n\t\r ").length 1).isEmpty = false := by decide +kernel
        w_strict (walk1; k_fold; (iterate 10 walk1); k_fold; walk1; dsimp only [qk]; clear qk; (try clear ek); dsimp only [qk]; clear qk; (try clear ek))
        rename Led _ _ _ _ _ => D9
        exact lexNxt (Nat.lt_succ_self _) hd2 ⟨rfl, hTk⟩ hline hl2 (sm _ _) D9
    | quote hQ =>
      have hoc : (Builtin.Str.occurrences (Str.ofString "\n\t\r ") (one 34) 0 (Str.ofString "\n\t\r ").length 1).isEmpty = true := by decide +kernel
      have he : (one 34 == Str.ofString "\"") = true := by decide
      w_strict (walk1; k_fold; (iterate 10 walk1); dsimp only [qk]; clear qk; (try clear ek); walk1; k_fold; (iterate 8 walk1); k_fold; (iterate 2 walk1))
      rename Led _ _ _ _ _ => D9
      refine ci_iterM (f := .ref mt) (snt := .str (Str.ofString "") t0) D9 (by simp) ?_
      refine' lexFor (L := L) (z := z) (T := T) (a := a) (I := I) (mt := mt) (t0 := t0) (s₀ := s) (R := R) (f := f) (c0 := line + cnt (T.drop p)) (m := rr.length) hf Sr ar' (by omega) (fun rest acc => ∃ u v, acc = strOf u ∧ QB rest v r ∧ u ++ v = t) rfl rfl (by kernel_rfl!) (fun acc k p2 line2 lx2 pre h' tk' s' hP hd hline hpre hl2 hs D2 => ?d1) (fun c rr acc kt kc p' line' lx2 h3 tk3 s' hP hd hd2 hline hl2 hs D4 => ?d2) ?d3
      case d3 => exact ⟨p' + 1, _, [((Str.ofString "ch"), .str (one 34) kc)], _, _, kt, by rw [hd2], ⟨[], t, str_nil, by rw [hd2]; exact hQ, rfl⟩, by rw [hd2]; exact hline, .inr ⟨_, rfl⟩, hl2, sm _ _, D9⟩
      case d1 =>
        obtain ⟨u, v, _, hQ, _⟩ := hP
        cases hQ
      case d2 =>
        clear D9 sm
        obtain ⟨u, v, rfl, hQ, hv⟩ := hP
        have hu : u.length ≤ 1000 := by have := congrArg List.length hv; rw [List.length_append] at this; omega
        have hl3 := hl2
        obtain ⟨dx, pb, sx, dx2, pb2, its, n, k1, k2, k3, k4, t1, t2, j1, j2, j3, j4, j5, t3, t4, lf, hR, hq, rfl⟩ := id hl2
        cases hq
        dsimp only [List.cons_append, List.nil_append] at D4
        have sm : ∀ h tk, Sm s { s' with heap := h, toks := tk } := fun h tk => hs.go h tk
        cases hQ with
        | stop =>
          have he : (one 34 == Str.ofString "\"") = true := by decide
          w_strict (walk1; k_fold; (iterate 8 walk1); k_fold; (iterate 2 walk1); dsimp only [qk]; clear qk; (try clear ek); dsimp only [qk]; clear qk; (try clear ek); dsimp only [qk]; clear qk; (try clear ek); dsimp only [qk]; clear qk; (try clear ek); dsimp only [qk]; clear qk; (try clear ek))
          rename Led _ _ _ _ _ => D9
          rw [List.append_nil] at hv
          subst hv
          exact ret _ _ (_ :: _ :: _ :: _ :: _ :: lf) (sm _ _) D9.out.cut2 ⟨⟨_, rfl⟩, p' + 1, _, hl3, hd2, hline⟩
        | esc c2 hQ =>
          have he : (one 92 == Str.ofString "\"") = false := by decide
          have hb : (one 92 == Str.ofString "\\") = true := by decide
          w_strict (walk1; k_fold; (iterate 8 walk1); k_fold; (iterate 8 walk1); k_fold; (iterate 5 walk1))
          rename Led _ _ _ _ _ => D9
          dsimp only [List.cons_append, List.nil_append]
          refine' useAt (p := _ :: _ :: _ :: _ :: _ :: lf) (z := (I, ciOf (.ref mt) (.str (Str.ofString "") t0)) :: (mt, methodObj (.ref 143) (.ref a)) :: z) 0 (Sr _ _ _ hl3).F ?uD ?up ar' ?uk ?_
          case uD => exact D9
          case up => exact rfl
          case uk => omega
          intro v' h' tk l' D1 hv'
          obtain ⟨⟨t5, rfl⟩, hl5⟩ := hv'
          have e : chr T (p' + 1) = one c2 := by show strOf ((T.drop (p' + 1)).take 1) = _; rw [hd2]; rfl
          rw [e] at hl5 ⊢
          simp only [List.take_zero, List.nil_append] at D1
          clear D9
          w_strict (walk1; dsimp only [qk]; clear qk; (try clear ek); walk1; dsimp only [qk]; clear qk; (try clear ek); walk1; dsimp only [qk]; clear qk; (try clear ek); walk1; k_fold; (iterate 5 walk1); dsimp only [qk]; clear qk; (try clear ek); walk1)
          rename Led _ _ _ _ _ => D9
          rw [app_one] at D9
          exact lexNxt (by simp; omega) (drop_succ hd2) ⟨u ++ [c2], _, rfl, hQ, by rw [List.append_assoc]; exact hv⟩ ((up_cnt _ c2 _).trans hline) hl5 (sm _ _) (nrmA D9)
        | plain _ n1 n2 hQ =>
          have he : (one c == Str.ofString "\"") = false := one_beq_false (d := 34) (by decide) n1
          have hb : (one c == Str.ofString "\\") = false := one_beq_false (d := 92) (by decide) n2
          w_strict (walk1; k_fold; (iterate 8 walk1); k_fold; (iterate 8 walk1); dsimp only [qk]; clear qk; (try clear ek); walk1; dsimp only [qk]; clear qk; (try clear ek); walk1; k_fold; (iterate 5 walk1); dsimp only [qk]; clear qk; (try clear ek); walk1)
          rename Led _ _ _ _ _ => D9
          rw [app_one] at D9
          exact lexNxt (Nat.lt_succ_self _) hd2 ⟨u ++ [c], _, rfl, hQ, by rw [List.append_assoc]; exact hv⟩ hline hl3 (sm _ _) (nrmB D9)
    | bare c2 hB =>
      rename_i tt
      have hoc : (Builtin.Str.occurrences (Str.ofString "\n\t\r ") (one 92) 0 (Str.ofString "\n\t\r ").length 1).isEmpty = true := by decide +kernel
      have he : (one 92 == Str.ofString "\"") = false := by decide
      have hb : (one 92 == Str.ofString "\\") = true := by decide
      have hl3 := hl2
      w_strict (walk1; k_fold; (iterate 10 walk1); dsimp only [qk]; clear qk; (try clear ek); walk1; k_fold; (iterate 8 walk1); k_fold; (iterate 8 walk1); k_fold; (iterate 5 walk1))
      rename Led _ _ _ _ _ => D9
      dsimp only [List.cons_append, List.nil_append]
      refine' useAt (p := _ :: _ :: _ :: _ :: _ :: lf) (z := (I, ciOf (.ref mt) (.str (Str.ofString "") t0)) :: (mt, methodObj (.ref 143) (.ref a)) :: z) 0 (Sr _ _ _ hl3).F ?uD ?up ar' ?uk ?_
      case uD => exact D9
      case up => exact rfl
      case uk => omega
      intro v' h' tk l' D1 hv'
      obtain ⟨⟨t5, rfl⟩, hl5⟩ := hv'
      have e : chr T (p' + 1) = one c2 := by show strOf ((T.drop (p' + 1)).take 1) = _; rw [hd2]; rfl
      rw [e] at hl5 ⊢
      simp only [List.take_zero, List.nil_append] at D1
      clear D9 hl2
      w_strict (walk1; dsimp only [qk]; clear qk; (try clear ek); walk1; dsimp only [qk]; clear qk; (try clear ek); walk1; k_fold; (iterate 5 walk1); dsimp only [qk]; clear qk; (try clear ek); walk1; k_fold; (iterate 2 walk1))
      rename Led _ _ _ _ _ => D9
      rw [nil_one] at D9
      have D9 := nrmA D9
      refine ci_iterM (f := .ref mt) (snt := .str (Str.ofString "") t0) D9 (by simp) ?_
      refine' lexFor (L := L) (z := z) (T := T) (a := a) (I := I) (mt := mt) (t0 := t0) (s₀ := s) (R := R) (f := f) (c0 := line + cnt (T.drop p)) hf Sr ar' (by omega) (fun rest acc => ∃ u v, acc = strOf u ∧ BB rest v r ∧ u ++ v = c2 :: tt) rfl rfl (by kernel_rfl!) (fun acc k p2 line2 lx2 pre h' tk' s' hP hd hline hpre hl2 hs D2 => ?e1) (fun c rr acc kt kc p' line' lx2 h3 tk3 s' hP hd hd2 hline hl2 hs D4 => ?e2) ?e3
      case e3 => exact ⟨p' + 1 + 1, _, [((Str.ofString "ch"), .str (one c2) _)], _, _, _, rfl, ⟨[c2], _, rfl, by rw [drop_succ hd2]; exact hB, rfl⟩, by rw [drop_succ hd2]; exact (up_cnt _ c2 _).trans hline, .inr ⟨_, rfl⟩, hl5, sm _ _, D9⟩
      case e1 =>
        obtain ⟨u, v, _, hQ, _⟩ := hP
        cases hQ
      case e2 =>
        clear D9 sm
        obtain ⟨u, v, rfl, hQ, hv⟩ := hP
        have hu : u.length ≤ 1000 := by have := congrArg List.length hv; rw [List.length_append] at this; omega
        have hl3 := hl2
        obtain ⟨dx, pb, sx, dx2, pb2, its, n, k1, k2, k3, k4, t1, t2, j1, j2, j3, j4, j5, t3, t4, lf, hR, hq, rfl⟩ := id hl2
        cases hq
        dsimp only [List.cons_append, List.nil_append] at D4
        have sm : ∀ h tk, Sm s { s' with heap := h, toks := tk } := fun h tk => hs.go h tk
        cases hQ with
        | stop _ _ hw =>
          rw [List.append_nil] at hv
          subst hv
          rcases hw with rfl | rfl
          · have hoc : (Builtin.Str.occurrences (Str.ofString "\n\t\r ") (one 10) 0 (Str.ofString "\n\t\r ").length 1).isEmpty = false := by decide +kernel
            w_strict (walk1; k_fold; (iterate 10 walk1); k_fold; (iterate 2 walk1); dsimp only [qk]; clear qk; (try clear ek); dsimp only [qk]; clear qk; (try clear ek); dsimp only [qk]; clear qk; (try clear ek); dsimp only [qk]; clear qk; (try clear ek); dsimp only [qk]; clear qk; (try clear ek))
            rename Led _ _ _ _ _ => D9
            exact ret _ _ (_ :: _ :: _ :: _ :: _ :: lf) (sm _ _) D9.out.cut2 ⟨⟨_, rfl⟩, p' + 1, _, hl3, hd2, hline⟩
          · have hoc : (Builtin.Str.occurrences (Str.ofString "\n\t\r ") (one 32) 0 (Str.ofString "\n\t\r ").length 1).isEmpty = false := by decide +kernel
            w_strict (walk1; k_fold; (iterate 10 walk1); k_fold; (iterate 2 walk1); dsimp only [qk]; clear qk; (try clear ek); dsimp only [qk]; clear qk; (try clear ek); dsimp only [qk]; clear qk; (try clear ek); dsimp only [qk]; clear qk; (try clear ek); dsimp only [qk]; clear qk; (try clear ek))
            rename Led _ _ _ _ _ => D9
            exact ret _ _ (_ :: _ :: _ :: _ :: _ :: lf) (sm _ _) D9.out.cut2 ⟨⟨_, rfl⟩, p' + 1, _, hl3, hd2, hline⟩
        | esc c3 hQ =>
          w_strict (walk1; k_fold; (iterate 10 walk1); k_fold; (iterate 8 walk1); k_fold; (iterate 5 walk1))
          rename Led _ _ _ _ _ => D9
          dsimp only [List.cons_append, List.nil_append]
          refine' useAt (p := _ :: _ :: _ :: _ :: _ :: lf) (z := (I, ciOf (.ref mt) (.str (Str.ofString "") t0)) :: (mt, methodObj (.ref 143) (.ref a)) :: z) 0 (Sr _ _ _ hl3).F ?uD ?up ar' ?uk ?_
          case uD => exact D9
          case up => exact rfl
          case uk => omega
          intro v' h' tk l' D1 hv'
          obtain ⟨⟨t5, rfl⟩, hl5⟩ := hv'
          have e : chr T (p' + 1) = one c3 := by show strOf ((T.drop (p' + 1)).take 1) = _; rw [hd2]; rfl
          rw [e] at hl5 ⊢
          simp only [List.take_zero, List.nil_append] at D1
          clear D9
          w_strict (walk1; dsimp only [qk]; clear qk; (try clear ek); walk1; dsimp only [qk]; clear qk; (try clear ek); walk1; dsimp only [qk]; clear qk; (try clear ek); walk1; k_fold; (iterate 5 walk1); dsimp only [qk]; clear qk; (try clear ek); walk1)
          rename Led _ _ _ _ _ => D9
          rw [app_one] at D9
          exact lexNxt (by simp; omega) (drop_succ hd2) ⟨u ++ [c3], _, rfl, hQ, by rw [List.append_assoc]; exact hv⟩ ((up_cnt _ c3 _).trans hline) hl5 (sm _ _) (nrmA D9)
-- M16
section
open Builtin
section
variable {w : World} {g : Heap} {A : Around} {s : Shared} {L : Addr} {m : Str → Option Value} {l : Lgr} {E : Value → Shared → Prop}
theorem idxA {c : Nat} {t u : Tok} {Q : Value → Shared → Prop} (hh : A.handled = none) (h4 : c < 4) (h : ∀ t tk, Q (.int c t) { s with toks := tk }) : wpAny (model Pg w) A (call (.builtin "str.index") [.str (Str.ofString "abcd") t, .str (lettr c) u]) Q E s := by
  have key : Txt.find (Str.ofString "abcd") (lettr c) = c ∧ (Builtin.Str.occurrences (Str.ofString "abcd") (lettr c) 0 (Str.ofString "abcd").length 1).isEmpty = false := by
    have : c = 0 ∨ c = 1 ∨ c = 2 ∨ c = 3 := four h4
    rcases this with rfl | rfl | rfl | rfl <;> decide +kernel
  refine index_or hh (fun h1 _ => ?_) (fun _ _ => ?_)
  · rw [key.1] at h1; omega
  · rw [key.1]; exact h _ _
/-- an item of a list of strs -/
theorem itemS {value slice : Expr} {a : Addr} {its : List Value} {ys : List Str} {n i : Nat} {k : Int} {u : Tok} {y : Str} {Q : Value → Shared → Prop} (D : Led g L m s.heap l) (hi : l[i]? = some (a, listOf its.toArray n)) (hs : StrsAre its ys) (h0 : 0 ≤ k) (hk : k < 1000000) (hy : ys[k.toNat]? = some y) (h : ∀ t, Q (.str y t) s)
    (hsb : subscripted slice false (.ref a) (.int k u) = operate [.ref a, .int k u] (getItem (.ref a) (.int k u)) := by with_unfolding_all rfl) : wpAny (model Pg w) A (subscriptTail value slice (.ref a) (.int k u)) Q E s := by
  obtain ⟨t, ht⟩ := hs.at hy
  exact itemL D hi h0 hk ht (h t) hsb
end
theorem lettr_ne (c : Nat) : lettr c ≠ Str.ofString "" := by
  intro e
  have h2 : (#[97 + c] : Array Nat) = #[] := congrArg Str.cps e
  simp at h2
theorem lettr_inj {c d : Nat} (e : lettr c = lettr d) : c = d := by
  have h2 : (#[97 + c] : Array Nat) = #[97 + d] := congrArg Str.cps e
  simp at h2
  exact h2
theorem range_at {α : Type} (f : Nat → α) {n k : Nat} (h : k < n) : ((List.range n).map f)[k]? = some (f k) := by simp [h]
end
theorem word41 : True := by
  k_with "call builtin:str.index" => (k_dflt (refine' idxA ?kA ?k1 ?_; (case kA => exact Ar.hh (by assumption)); (case k1 => assumption); k_whole; intro _ _))
  trivial
theorem word42 : True := by
  k_with "exec While" => (k_dflt (refine' whileS ?_; k_whole))
  trivial
section
open Builtin
theorem whileN {w : World} {A : Around} {test : Expr} {body : List Stmt} {env : Env} {R : Result → Shared → Prop} (J : Nat → Shared → Prop)
    (turn : ∀ n s, J n s → wpAny (model Pg w) A (isTrue test env (eval test env)) (fun b s₂ =>
      if b = true then wpAny (model Pg w) A (execs body env) (fun f s₃ => match f with
        | .next | .cont => Nxt J n s₃
        | .brk => R (.ok .next) s₃
        | .ret v => R (.ok (.ret v)) s₃) NoE s₂
      else R (.ok .next) s₂) NoE s)
    (n : Nat) {s : Shared} (h : J n s) : codeAny (model Pg w) A (.whileLoop test body [] env) R s := whileY J turn h
/-- a for loop's turn is over -/
noncomputable def NxtF (g : Heap) (L : Addr) (J : Nat → List (Str × Value) → Lgr → Prop) (s₀ : Shared) (t : Lgr) (i : Nat) (s₃ : Shared) : Prop := ∃ b' l', J (i + 1) b' l' ∧ Sm s₀ s₃ ∧ Led g L (mp b') s₃.heap (l' ++ t)
theorem forF {w : World} {g : Heap} {A : Around} {target : Expr} {body : List Stmt} {env : Env} {it : Value} {L : Addr} {S : Lgr} {n : Nat} {f : Nat → Value → Lgr → Prop} {s₀ : Shared} {R : Result → Shared → Prop} (J : Nat → List (Str × Value) → Lgr → Prop)
    (hS : ∀ i b l, J i b l → ∀ e ∈ S, e ∈ l)
    (turn : ∀ i v q b l s t, i < n → f i v q → J i b l → Sm s₀ s → Led g L (mp b) s.heap (q ++ (l ++ t)) → wpAny (model Pg w) A (assign target env v) (fun _ s₂ => wpAny (model Pg w) A (execs body env) (fun fl s₃ => match fl with
      | .next | .cont => NxtF g L J s₀ t i s₃
      | .brk => R (.ok .next) s₃
      | .ret v => R (.ok (.ret v)) s₃) NoE s₂) NoE s)
    (done : ∀ b l s t, J n b l → Sm s₀ s → Led g L (mp b) s.heap (l ++ t) → R (.ok .next) s)
    {p l : Lgr} {b : List (Str × Value)} {s : Shared} (Y : Yields w g A target it S (pl n f) p) (hJ : J 0 b l) (hs : Sm s₀ s) (D : Led g L (mp b) s.heap (l ++ p)) : codeAny (model Pg w) A (.forLoop target it body [] env) R s :=
  forN J hS turn done Y hJ hs D
theorem Hp.cutM {g h : Heap} {l0 r z : Lgr} (H : Hp g h (l0 ++ (r ++ z))) : Hp g h (l0 ++ z) := H.sub (List.Sublist.append_left (List.sublist_append_right r z) l0)
theorem Hp.cutB {g h : Heap} {l0 r z t : Lgr} (H : Hp g h (l0 ++ ((r ++ z) ++ t))) : Hp g h (l0 ++ z) :=
  H.sub (List.Sublist.append_left ((List.sublist_append_right r z).trans (List.sublist_append_left (r ++ z) t)) l0)
theorem Led.cut4 {g h : Heap} {L : Addr} {m : Str → Option Value} {a b c d : Addr × Obj} {l' z t : Lgr} (D : Led g L m h (a :: b :: c :: d :: (l' ++ (z ++ t)))) : Led g L m h (a :: b :: c :: d :: (l' ++ z)) :=
  D.sub (List.Sublist.append_left (List.Sublist.append_left (List.sublist_append_left z t) l') [a, b, c, d])
end
-- C7
/-- the rows as the program holds them: four strs of six signs -/
noncomputable def RowsAre (c0 c1 : Nat) (M : Nat → Nat → Bool) (its : List Value) : Prop := StrsAre its ((List.range 4).map fun g => strOf ((List.range 6).map fun s => sel c0 c1 (M g s)))
noncomputable def HoldsAre (H : Nat → Option Nat) (its : List Value) : Prop := StrsAre its ((List.range 6).map fun s => hstr (H s))
theorem sp_lexerE {w : World} {g : Heap} (G : Gd w g) {t : Tok} {c' : Addr} {oc : Obj} (hco : CodeOk oc) : FSpec w g (.ref 171) [.str (Str.ofString "") t] 3 [(166, tabObj #[rawInt 221, rawInt 4, .ref c']), (c', oc)] (fun v l => LexMade w g [] c' oc v l) := by
  rw [str_nil]; exact sp_lexer1 (T := []) G hco rfl (by decide)
section
variable (w : World) (g : Heap) (s₀ : Shared) (L a f : Addr) (R : Nat → Lgr → Prop) (d ra ha c' : Addr) (ir ih : List Value) (nr nh : Nat) (c1 start : Nat) (t u : Tok) (M : Nat → Nat → Bool) (H : Nat → Option Nat) (z : Lgr)
noncomputable abbrev srchNames (gv : Value) : List (Str × Value) := [((Str.ofString "guest"), gv), ((Str.ofString "line"), .ref a), ((Str.ofString "ways"), .ref d), ((Str.ofString "start"), .str (lettr start) u), ((Str.ofString "holders"), .ref ha), ((Str.ofString "one"), .str (one c1) t), ((Str.ofString "rows"), .ref ra)]
noncomputable abbrev srchLed (o : Obj) (lx : Lgr) : Lgr := (d, o) :: (ra, listOf ir.toArray nr) :: (ha, listOf ih.toArray nh) :: (166, tabObj #[rawInt 221, rawInt 4, .ref c']) :: (lx ++ z)
noncomputable def PreOk (pre : List (Str × Value)) : Prop := pre = [] ∨ ∃ v1 v2, pre = [((Str.ofString "sign"), v1), ((Str.ofString "seat"), v2)]
inductive SrchJ (n : Nat) (s' : Shared) : Prop
  | mk (W : List (Nat × Nat)) (P Qs : List Nat) (go : Option Nat) (kvs : List (Int × Value)) (o : Obj) (lx : Lgr) (p : Nat) (line : Int) (tg : Tok) (pre : List (Str × Value)) (h_0 : KV W kvs) (h_1 : DK w d o kvs) (h_2 : LexAt w a f R p line (Qs.map lettr) lx) (h_3 : (match go with | some c => SI M H start W P Qs c 0 ∧ n = (6 - W.length) + Qs.length + 1 ∧ n ≤ 7 | none => Shut M H start W ∧ Qs = [])) (h_4 : PreOk pre) (h_5 : Sm s₀ s') (h_6 : Led g L (mp (pre ++ srchNames a d ra ha c1 start t u (.str (hstr go) tg))) s'.heap (srchLed d ra ha c' ir ih nr nh z o lx)) : SrchJ n s'
inductive SrchF (P : List Nat) (c n0 i : Nat) (tg : Tok) (b : List (Str × Value)) (l : Lgr) : Prop
  | mk (W : List (Nat × Nat)) (Qs : List Nat) (kvs : List (Int × Value)) (o : Obj) (lx : Lgr) (p : Nat) (line : Int) (pre : List (Str × Value)) (h_0 : KV W kvs) (h_1 : DK w d o kvs) (h_2 : LexAt w a f R p line (Qs.map lettr) lx) (h_3 : SI M H start W P Qs c i) (h_4 : (6 - W.length) + Qs.length + 1 = n0) (h_5 : PreOk pre) (h_6 : b = pre ++ srchNames a d ra ha c1 start t u (.str (lettr c) tg)) (h_7 : l = srchLed d ra ha c' ir ih nr nh z o lx) : SrchF P c n0 i tg b l
end
/-- what a search hands back: the free seat or none, and the ways -/
inductive SrchPost (w : World) (M : Nat → Nat → Bool) (H : Nat → Option Nat) (start : Nat) (v : Value) (l' : Lgr) (l0 : Lgr) : Prop
  | mk (T d oT o W kvs : _) (h_0 : v = .ref T) (h_1 : KV W kvs) (h_2 : DK w d o kvs) (h_3 : l' = (T, oT) :: (d, o) :: l0) (h_4 : ((∃ (seat : Nat) (t0 : Tok), Found M H start W seat ∧ oT = tupOf #[.int (seat : Int) t0, .ref d] 0) ∨ (Shut M H start W ∧ oT = tupOf #[.none, .ref d] 0))) : SrchPost w M H start v l' l0
theorem sp_search {w : World} {g : Heap} (G : Gd w g) {c' : Addr} {oc : Obj} (hco : CodeOk oc) {c0 c1 : Nat} (h01 : c0 ≠ c1) (hc0 : c0 < 128) (hc1 : c1 < 128) {M : Nat → Nat → Bool} {Hd : Nat → Option Nat} {start : Nat} (hst : start < 4) (hH : ∀ s g, Hd s = some g → g < 4)
    {ra ha : Addr} {ir ih : List Value} {nr nh : Nat} {t u : Tok} (hr : RowsAre c0 c1 M ir) (hh : HoldsAre Hd ih) :
    FSpec w g (.ref 228) [.ref ra, .str (one c1) t, .ref ha, .str (lettr start) u] 8 [(ra, listOf ir.toArray nr), (ha, listOf ih.toArray nh), (166, tabObj #[rawInt 221, rawInt 4, .ref c']), (c', oc)] (fun v l' => SrchPost w M Hd start v l' [(ra, listOf ir.toArray nr), (ha, listOf ih.toArray nh), (166, tabObj #[rawInt 221, rawInt 4, .ref c']), (c', oc)]) := by
  refine .of fun A s z Q E ar Hh ret => ?_
  have H := Hh
  refine' enter (binds := [((Str.ofString "rows"), .ref ra), ((Str.ofString "one"), .str (one c1) t), ((Str.ofString "holders"), .ref ha), ((Str.ofString "start"), .str (lettr start) u)]) (bl := [((Str.ofString "start"), .str (lettr start) u), ((Str.ofString "holders"), .ref ha), ((Str.ofString "one"), .str (one c1) t), ((Str.ofString "rows"), .ref ra)]) G H ar ?k1 ?k2 ?k3 ?k4 ?k5 ?k6 ?k7 ?k8 ?kb ?_
  case k1 => k_is
  case k2 => k_is
  case k3 => first | exact BindsTo.of_eq rfl | exact binds_K (G.X.keeps H.keep) rfl (by k_is) rfl rfl rfl
  case k4 => exact locs rfl
  case k5 => decide
  case k6 => exact rfl
  case k7 => exact rfl
  case k8 => exact rfl
  case kb => exact rfl
  intro L A' h₁ tk ar' D
  dsimp only [List.cons_append, List.nil_append] at D
  clear H Hh
  w_strict (walk1; k_fold; (iterate 10 walk1))
  rename Led _ _ _ _ _ => D
  refine' useAt (z := z) 2 (sp_lexerE G hco) ?uD ?up ar' ?uk ?_
  case uD => exact D
  case up => exact rfl
  case uk => omega
  intro v h' tk l' D1 hv'
  obtain ⟨a, f, R, l0, rfl, -, rd, hl, rfl⟩ := hv'
  have hl1 := hl
  obtain ⟨dx, pb, sx, dx2, pb2, its, n, k1, k2, k3, k4, t1, t2, j1, j2, j3, j4, j5, t3, t4, lf, hR, hq, rfl⟩ := hl
  simp only [List.take_succ_cons, List.take_zero, List.cons_append, List.nil_append] at D1
  clear D
  w_strict ((iterate 12 walk1); dsimp only [qk]; clear qk; (try clear ek); walk1; k_fold; (iterate 9 walk1))
  rename Led _ _ _ _ _ => D
  rename DK _ _ _ _ => K0
  rename_i d _ o0 T0 _ _ _ _
  refine' useAt (z := z) (p := _ :: _ :: _ :: _ :: _ :: lf) 5 (sp_push G hl1 (by simp)) ?uD ?up ar' ?uk ?_
  case uD => exact D
  case up => exact rfl
  case uk => omega
  intro v h' tk l' D2 hv'
  obtain ⟨rfl, hl2⟩ := hv'
  have hl3 := hl2
  obtain ⟨dx, pb, sx, dx2, pb2, its, n, k1, k2, k3, k4, t1, t2, j1, j2, j3, j4, j5, t3, t4, lf, hR, hq, rfl⟩ := hl2
  simp only [List.take_succ_cons, List.take_zero, List.cons_append, List.nil_append] at D2
  clear D
  w_strict (walk1; k_fold; (iterate 5 walk1))
  rename Led _ _ _ _ _ => D
  dsimp only [List.cons_append, List.nil_append]
  refine' useAt (z := z) (p := _ :: _ :: _ :: _ :: _ :: lf) 5 (sp_pop (q := []) G hl3 (by simp)) ?uD ?up ar' ?uk ?_
  case uD => exact D
  case up => exact rfl
  case uk => omega
  intro v h' tk l' D2 hv'
  obtain ⟨⟨tg, rfl⟩, hl4⟩ := hv'
  simp only [List.take_succ_cons, List.take_zero, List.cons_append, List.nil_append] at D2
  clear D
  w_strict (walk1; dsimp only [qk]; clear qk; (try clear ek); walk1; k_fold; walk1)
  rename Led _ _ _ _ _ => D
  refine whileN (SrchJ w g s L a f R d ra ha c' ir ih nr nh c1 start t u M Hd z) ?_ 7 ?_
  · rintro n0 s' ⟨W, P, Qs, go, kvs, o, lx, p, line, tg, pre, hKV, hDK, hlex, hgo, hpre, hs, D⟩
    clear hl4 hl3 hl1
    obtain ⟨dx, pb, sx, dx2, pb2, its, n, k1, k2, k3, k4, t1, t2, j1, j2, j3, j4, j5, t3, t4, lf, hR, hq, rfl⟩ := id hlex
    obtain ⟨_, _, _, _, r, rfl⟩ := rd.fn _ _ hR
    simp only [srchLed, List.cons_append, List.nil_append] at D
    cases go with
    | none =>
      obtain ⟨hsh, rfl⟩ := hgo
      have h1 : mp (pre ++ srchNames a d ra ha c1 start t u (.str (hstr none) tg)) (Str.ofString "guest") = some (.str (Str.ofString "") tg) := by rcases hpre with rfl | ⟨_, _, rfl⟩ <;> rfl
      have h2 : mp (pre ++ srchNames a d ra ha c1 start t u (.str (hstr none) tg)) (Str.ofString "ways") = some (.ref d) := by rcases hpre with rfl | ⟨_, _, rfl⟩ <;> rfl
      have hne : (Str.ofString "" != Str.ofString "") = false := by decide
      w_strict ((iterate 7 walk1); k_fold; (iterate 8 walk1); dsimp only [qk]; clear qk; (try clear ek))
      rename Led _ _ _ _ _ => D9
      have D10 := (D9.pick [0, 1, 2, 3, 4, 11] 12).out
      simp only [pick, List.filterMap_cons, List.filterMap_nil, List.getElem?_cons_zero, List.getElem?_cons_succ, List.drop_succ_cons, List.drop_zero, List.cons_append, List.nil_append] at D10
      refine ret _ _ [_, _, _, _, _, _] (hs.go _ _) (Hp.cutM (l0 := [_, _, _, _, _, _]) D10) ⟨_, d, _, o, W, kvs, rfl, hKV, hDK, rfl, .inr ⟨hsh, rfl⟩⟩
    | some c =>
      obtain ⟨hsi, hn, hn7⟩ := hgo
      have h1 : mp (pre ++ srchNames a d ra ha c1 start t u (.str (hstr (some c)) tg)) (Str.ofString "guest") = some (.str (lettr c) tg) := by rcases hpre with rfl | ⟨_, _, rfl⟩ <;> rfl
      have h2 : mp (pre ++ srchNames a d ra ha c1 start t u (.str (hstr (some c)) tg)) (Str.ofString "rows") = some (.ref ra) := by rcases hpre with rfl | ⟨_, _, rfl⟩ <;> rfl
      have c4 : c < 4 := hsi.c4.1
      have hne : (lettr c != Str.ofString "") = true := bne_iff_ne.mpr (lettr_ne c)
      w_strict ((iterate 7 walk1); k_fold; (iterate 15 walk1))
      rename Led _ _ _ _ _ => D9
      have ha7 : (strOf ((List.range 6).map fun s => sel c0 c1 (M c s))).cps.all (· < 128) = true := by
        refine all_strOf (List.all_eq_true.mpr fun x hx => ?_)
        obtain ⟨s, _, rfl⟩ := List.mem_map.mp hx
        unfold sel
        split <;> simp <;> omega
      refine itemS D9 at1 hr (by omega) (by omega) (by rw [Int.toNat_natCast]; exact range_at _ c4) fun t5 => ?_
      w_strict ((iterate 2 walk1))
      rename Led _ _ _ _ _ => D9
      rename EnumS _ _ _ _ _ _ => hE
      refine it_enumS ar'.hh D9 hE fun D10 Y => ?_
      refine forF (n := 6) (L := L) (s₀ := s) (fun i b l => SrchF w a f R d ra ha c' ir ih nr nh c1 start t u M Hd z P c n0 i tg b l) (fun i b l _ e he => by cases he) ?_ ?_ (Y _ _ _) ⟨W, Qs, kvs, o, _, p, line, pre, hKV, hDK, hlex, hsi, hn.symm, hpre, rfl, rfl⟩ (hs.go _ _) D10
      · rintro i v q b l s2 tt hi hv ⟨W, Qs, kvs, o, lx, p, line, pre, hKV, hDK, hlex, hsi, hn, hpre, rfl, rfl⟩ hs2 D11
        clear D9 D10 D Y
        obtain ⟨T, vals, oT, ⟨ti, y, ⟨cc, uu, hcc, rfl⟩, rfl⟩, rfl, rfl, hcT, mT, hdT⟩ := hv
        have ecc : cc = sel c0 c1 (M c i) := by
          have h1 : (strOf ((List.range 6).map fun s => sel c0 c1 (M c s))).cps[i]? = some (sel c0 c1 (M c i)) := by simp [strOf, hi]
          rw [h1] at hcc; cases hcc; rfl
        subst ecc
        refine unpack2 ar'.hh D11 at0 hcT hdT rfl rfl (by kernel_rfl!) (by kernel_rfl!) fun h3 tk3 D12 => ?_
        have D13 : Led g L (mp ([((Str.ofString "sign"), .str (one (sel c0 c1 (M c i))) uu), ((Str.ofString "seat"), .int (i : Int) ti)] ++ srchNames a d ra ha c1 start t u (.str (lettr c) tg))) h3 ([(T, oT)] ++ (srchLed d ra ha c' ir ih nr nh z o lx ++ tt)) := by
          rcases hpre with rfl | ⟨v1, v2, rfl⟩
          · exact D12
          · exact D12.nrm (by kernel_rfl!)
        clear D11 D12
        obtain ⟨dx, pb, sx, dx2, pb2, its, n, k1, k2, k3, k4, t1, t2, j1, j2, j3, j4, j5, t3, t4, lf, hR, hq, rfl⟩ := id hlex
        obtain ⟨_, _, _, _, r, rfl⟩ := rd.fn _ _ hR
        simp only [srchLed, List.cons_append, List.nil_append] at D13
        have sm : ∀ h tk, Sm s { s2 with heap := h, toks := tk } := fun h tk => hs2.go h tk
        cases hM : M c i with
        | false =>
          have he : (one (sel c0 c1 (M c i)) == one c1) = false := by rw [hM]; exact one_beq_false rfl h01
          w_strict (walk1; k_fold; (iterate 10 walk1); dsimp only [qk]; clear qk; (try clear ek); walk1)
          rename Led _ _ _ _ _ => D9
          exact ⟨_, _, ⟨W, Qs, kvs, o, _, p, line, _, hKV, hDK, hlex, hsi.skip (fun e => by rw [hM] at e; cases e), hn, .inr ⟨_, _, rfl⟩, rfl, rfl⟩, sm _ _, D9.drops 1⟩
        | true =>
          have he : (one (sel c0 c1 (M c i)) == one c1) = true := by rw [hM]; exact beq_self_eq_true _
          by_cases hin : i ∈ seats W
          · have hv : (valueAt kvs (i : Int)).isSome = true := by rw [hKV.isSome, decide_eq_true hin]
            w_strict (walk1; k_fold; (iterate 17 walk1); dsimp only [qk]; clear qk; (try clear ek); walk1)
            rename Led _ _ _ _ _ => D9
            exact ⟨_, _, ⟨W, Qs, kvs, o, _, p, line, _, hKV, hDK, hlex, hsi.skip (fun _ => hin), hn, .inr ⟨_, _, rfl⟩, rfl, rfl⟩, sm _ _, D9.drops 1⟩
          · have hv : (valueAt kvs (i : Int)).isSome = false := by rw [hKV.isSome, decide_eq_false hin]
            have hkz : kvs.length ≤ 1000 := by rw [hKV.len]; have := hsi.len; omega
            w_strict (walk1; k_fold; (iterate 18 walk1); k_fold; (iterate 5 walk1); dsimp only [qk]; clear qk; (try clear ek); walk1; k_fold; (iterate 5 walk1))
            rename Led _ _ _ _ _ => D9
            have hKV2 := hKV.put (g := c) (t := tg) hin
            refine itemS D9 at3 hh (by omega) (by omega) (by rw [Int.toNat_natCast]; exact range_at _ hi) fun t5 => ?_
            cases hH2 : Hd i with
            | none =>
              have e5 : (hstr none == Str.ofString "") = true := by decide
              w_strict ((iterate 5 walk1); k_fold; (iterate 8 walk1); dsimp only [qk]; clear qk; (try clear ek); dsimp only [qk]; clear qk; (try clear ek); dsimp only [qk]; clear qk; (try clear ek); dsimp only [qk]; clear qk; (try clear ek); dsimp only [qk]; clear qk; (try clear ek))
              rename Led _ _ _ _ _ => D9
              rename DK _ _ _ _ => K1
              have D10 := (D9.pick [0, 2, 3, 4, 5, 12] 13).out
              simp only [pick, List.filterMap_cons, List.filterMap_nil, List.getElem?_cons_zero, List.getElem?_cons_succ, List.drop_succ_cons, List.drop_zero, List.cons_append, List.nil_append] at D10
              exact ret _ _ [_, _, _, _, _, _] (sm _ _) (Hp.cutB (l0 := [_, _, _, _, _, _]) D10) ⟨_, d, _, _, _, _, rfl, hKV2, K1, rfl, .inl ⟨i, ti, hsi.found hi hM hin hH2, rfl⟩⟩
            | some g2 =>
              have e5 : (hstr (some g2) == Str.ofString "") = false := beq_eq_false_iff_ne.mpr (lettr_ne g2)
              w_strict ((iterate 5 walk1); dsimp only [qk]; clear qk; (try clear ek); walk1; k_fold; (iterate 9 walk1))
              rename Led _ _ _ _ _ => D9
              rename DK _ _ _ _ => K1
              refine itemS D9 at3 hh (by omega) (by omega) (by rw [Int.toNat_natCast]; exact range_at _ hi) fun t6 => ?_
              rw [hH2]
              w_strict ((iterate 2 walk1))
              rename Led _ _ _ _ _ => D9
              try dsimp only [List.cons_append, List.nil_append]
              refine' useAt (z := z ++ tt) (p := _ :: _ :: _ :: _ :: _ :: _ :: _ :: r) 5 (sp_push G hlex ?ql) ?uD ?up ar' ?uk ?_
              case ql => rw [List.length_map]; exact Nat.le_trans (gain_q hn hn7) (by decide)
              case uD => exact D9
              case up => simp only [List.drop_succ_cons, List.drop_zero, List.cons_append, List.append_assoc]
              case uk => omega
              intro v' h' tk' l' D10 hv'
              obtain ⟨rfl, hl5⟩ := hv'
              simp only [List.take_succ_cons, List.take_zero, List.cons_append, List.nil_append] at D10
              clear D9
              w_strict (walk1; dsimp only [qk]; clear qk; (try clear ek); dsimp only [qk]; clear qk; (try clear ek); walk1)
              rename Led _ _ _ _ _ => D9
              have D11 := D9.drops 1
              simp only [List.drop_succ_cons, List.drop_zero] at D11
              rw [← List.append_assoc] at D11
              refine ⟨_, _, ⟨W ++ [(i, c)], Qs ++ [g2], _, _, l', p, line, _, hKV2, K1, by rw [List.map_append]; exact hl5, hsi.push hi hM hin hH2 (hH _ _ hH2), ?_, .inr ⟨_, _, rfl⟩, rfl, rfl⟩, sm _ _, D11⟩
              have := hsi.len
              have := (hsi.push hi hM hin hH2 (hH _ _ hH2)).len
              simp only [List.length_append, List.length_cons, List.length_nil] at *
              first | exact gain_full (by assumption) (by assumption) | omega
      · rintro b l s2 tt ⟨W, Qs, kvs, o, lx, p, line, pre, hKV, hDK, hlex, hsi, hn, hpre, rfl, rfl⟩ hs2 D11
        clear D9 D10 D Y
        have sm : ∀ h tk, Sm s { s2 with heap := h, toks := tk } := fun h tk => hs2.go h tk
        obtain ⟨dx, pb, sx, dx2, pb2, its, n, k1, k2, k3, k4, t1, t2, j1, j2, j3, j4, j5, t3, t4, lf, hR, hq, rfl⟩ := id hlex
        obtain ⟨_, _, _, _, r, rfl⟩ := rd.fn _ _ hR
        simp only [srchLed, List.cons_append, List.nil_append, List.append_assoc] at D11
        have h1 : mp (pre ++ srchNames a d ra ha c1 start t u (.str (lettr c) tg)) (Str.ofString "line") = some (.ref a) := by rcases hpre with rfl | ⟨_, _, rfl⟩ <;> rfl
        have pre2 : ∀ h gv l, Led g L (mp (((Str.ofString "guest"), gv) :: (pre ++ srchNames a d ra ha c1 start t u (.str (lettr c) tg)))) h l → Led g L (mp (pre ++ srchNames a d ra ha c1 start t u gv)) h l := by
          intro h gv l DD
          rcases hpre with rfl | ⟨_, _, rfl⟩ <;> exact DD.nrm (by kernel_rfl!)
        try dsimp only
        w_strict (walk1; k_fold; (iterate 5 walk1))
        rename Led _ _ _ _ _ => D9
        try dsimp only [List.cons_append, List.nil_append]
        cases Qs with
        | cons c2 Q2 =>
          refine' useAt (z := z ++ tt) (p := _ :: _ :: _ :: _ :: _ :: _ :: _ :: r) 4 (sp_pop G hlex ?ql) ?uD ?up ar' ?uk ?_
          case ql => rw [List.length_map]; exact Nat.le_trans (Nat.le_succ _) (Nat.le_trans (gain_q hn hn7) (by decide))
          case uD => exact D9
          case up => exact rfl
          case uk => omega
          intro v' h' tk' l' D10 hv'
          obtain ⟨⟨t6, rfl⟩, hl5⟩ := hv'
          simp only [List.take_succ_cons, List.take_zero, List.cons_append, List.nil_append] at D10
          clear D9
          w_strict (walk1; dsimp only [qk]; clear qk; (try clear ek); walk1)
          rename Led _ _ _ _ _ => D9
          exact ⟨(6 - W.length) + Q2.length + 1, by simp only [List.length_cons] at hn; first | exact gain_step (by assumption) | exact gain_step hn.1 | omega, W, c :: P, Q2, some c2, kvs, o, l', p, line, t6, pre, hKV, hDK, hl5, ⟨hsi.next, rfl, by simp only [List.length_cons] at hn; omega⟩, hpre, sm _ _, pre2 _ _ _ D9.cut4⟩
        | nil =>
          have hT0 : (([] : List Nat)).drop p = [] := List.drop_nil
          refine' useAt (z := z ++ tt) (p := _ :: _ :: _ :: _ :: _ :: _ :: _ :: r) 4 (sp_lex (t := []) (r := []) G rd hlex ?ql (by decide)) ?uD ?up ar' ?uk ?_
          case ql => rw [hT0]; exact .done
          case uD => exact D9
          case up => exact rfl
          case uk => omega
          intro v' h' tk' l' D10 hv'
          obtain ⟨⟨t6, rfl⟩, p2, line2, hl5, _, _⟩ := hv'
          simp only [List.take_succ_cons, List.take_zero, List.cons_append, List.nil_append] at D10
          clear D9
          w_strict (walk1; dsimp only [qk]; clear qk; (try clear ek); walk1)
          rename Led _ _ _ _ _ => D9
          rw [← str_nil] at D9
          exact ⟨0, by omega, W, P, [], none, kvs, o, l', p2, line2, t6, pre, hKV, hDK, hl5, ⟨hsi.shut, rfl⟩, hpre, sm _ _, pre2 _ _ _ D9.cut4⟩
  · refine ⟨[], [], [], some start, _, _, l', _, _, tg, [], .nil, K0, hl4, ⟨SI.init hst, rfl, by decide⟩, .inl rfl, ?_, ?_⟩
    · exact Sm.mk (h := h₁) (tk := tk) |>.go _ _
    · exact D.drops 1
-- K2
/-- the holders are a matching of M -/
structure Mat (M : Nat → Nat → Bool) (H : Nat → Option Nat) : Prop where
  edge : ∀ s g, H s = some g → g < 4 ∧ M g s = true
  inj : ∀ s s' g, H s = some g → H s' = some g → s = s'
  six : ∀ s, 6 ≤ s → H s = none
noncomputable def seated (H : Nat → Option Nat) (g : Nat) : Prop := ∃ s, H s = some g
/-- a set of guests whose seats are all held by its own -/
noncomputable def Closed (M : Nat → Nat → Bool) (H : Nat → Option Nat) (R : Nat → Prop) : Prop := ∀ g, R g → ∀ s, s < 6 → M g s = true → ∃ g', R g' ∧ H s = some g'
noncomputable def setH (H : Nat → Option Nat) (s g : Nat) : Nat → Option Nat := fun x => if x = s then some g else H x
theorem setH_self (H : Nat → Option Nat) (s g : Nat) : setH H s g s = some g := by simp [setH]
theorem setH_ne (H : Nat → Option Nat) {s g x : Nat} (h : x ≠ s) : setH H s g x = H x := by simp [setH, h]
/-- the augmenting walk at the i-th way: H now, H0 at its start -/
structure Aug (M : Nat → Nat → Bool) (H0 : Nat → Option Nat) (start : Nat) (W : List (Nat × Nat)) (i : Nat) (H : Nat → Option Nat) : Prop where
  ex : ∃ s g, W[i]? = some (s, g)
  edge : ∀ s g, H s = some g → g < 4 ∧ M g s = true
  inj : ∀ si gi, W[i]? = some (si, gi) → ∀ s s' g, s ≠ si → s' ≠ si → H s = some g → H s' = some g → s = s'
  six : ∀ s, 6 ≤ s → H s = none
  old : ∀ j sj gj, j ≤ i → W[j]? = some (sj, gj) → H sj = H0 sj
  out : ∀ s, H s ≠ some start
  same : ∀ g, seated H g ↔ seated H0 g
  twice : ∀ si gi gx, W[i]? = some (si, gi) → H si = some gx → ∃ s', s' ≠ si ∧ H s' = some gx
  apart : ∀ R, Closed M H0 R → (∀ si gi, W[i]? = some (si, gi) → ∀ g, R g → H0 si ≠ some g) ∧ ∀ s g, R g → H0 s = some g → H s = some g
section
variable {M : Nat → Nat → Bool} {H0 H : Nat → Option Nat} {start : Nat} {W : List (Nat × Nat)} {i : Nat}
theorem seats_at {j s g : Nat} (h : W[j]? = some (s, g)) : (seats W)[j]? = some s := by simp [seats, h]
theorem nd_seats (nd : (seats W).Nodup) {j k s s' g g' : Nat} (hj : W[j]? = some (s, g)) (hk : W[k]? = some (s', g')) (hne : j ≠ k) : s ≠ s' := by
  intro e
  subst e
  have h1 := seats_at hj
  have h2 := seats_at hk
  obtain ⟨a1, b1⟩ := List.getElem?_eq_some_iff.mp h1
  obtain ⟨a2, b2⟩ := List.getElem?_eq_some_iff.mp h2
  have pw := List.pairwise_iff_getElem.mp nd
  rcases Nat.lt_or_gt_of_ne hne with h | h
  · exact pw j k a1 a2 h (b1.trans b2.symm)
  · exact pw k j a2 a1 h (b2.trans b1.symm)
theorem Aug.init {seat : Nat} (m : Mat M H0) (hs : ∀ s, H0 s ≠ some start) (F : Found M H0 start W seat) : ∃ i g, W[i]? = some (seat, g) ∧ Aug M H0 start W i H0 := by
  obtain ⟨W0, g, rfl, ord, nd, held, free⟩ := F
  have e : (W0 ++ [(seat, g)])[W0.length]? = some (seat, g) := by simp
  refine ⟨W0.length, g, e, ⟨_, _, e⟩, m.edge, fun si gi h s s' g' _ _ a b => m.inj s s' g' a b, m.six, fun _ _ _ _ _ => rfl, hs, fun _ => Iff.rfl, ?_, ?_⟩
  · intro si gi gx h hx
    rw [e] at h; cases h
    rw [free] at hx; cases hx
  · refine fun R _ => ⟨fun si gi h g' _ hg => ?_, fun _ _ _ h => h⟩
    rw [e] at h; cases h
    rw [free] at hg; cases hg
/-- the seats that a guest holds -/
theorem Aug.none (A : Aug M H0 start W i H) {s : Nat} : H s ≠ some start := A.out s
/-- the walk's end: the start sits down -/
theorem Aug.last (A : Aug M H0 start W i H) (ord : Ord M H0 start W) {si : Nat} (h : W[i]? = some (si, start)) (h4 : start < 4) :
    Mat M (setH H si start) ∧ (∀ g, seated (setH H si start) g ↔ (g = start ∨ seated H0 g)) ∧ ∀ R, Closed M H0 R → Closed M (setH H si start) R := by
  obtain ⟨s6, _, hM, _⟩ := ord i si start h
  refine ⟨⟨fun s g hg => ?_, fun s s' g h1 h2 => ?_, fun s hs => ?_⟩, fun g => ⟨?_, ?_⟩, fun R hR g hg s hs hm => ?_⟩
  · by_cases e : s = si
    · subst e; rw [setH_self] at hg; cases hg; exact ⟨h4, hM⟩
    · rw [setH_ne H e] at hg; exact A.edge s g hg
  · by_cases e : s = si <;> by_cases e' : s' = si
    · rw [e, e']
    · subst e; rw [setH_self] at h1; cases h1; rw [setH_ne H e'] at h2; exact absurd h2 (A.out s')
    · subst e'; rw [setH_self] at h2; cases h2; rw [setH_ne H e] at h1; exact absurd h1 (A.out s)
    · rw [setH_ne H e] at h1; rw [setH_ne H e'] at h2; exact A.inj si start h s s' g e e' h1 h2
  · rw [setH_ne H (by omega)]; exact A.six s hs
  · rintro ⟨s, hs⟩
    by_cases e : s = si
    · subst e; rw [setH_self] at hs; cases hs; exact .inl rfl
    · rw [setH_ne H e] at hs; exact .inr ((A.same g).mp ⟨s, hs⟩)
  · rintro (rfl | hg)
    · exact ⟨si, setH_self H si g⟩
    · obtain ⟨s, hs⟩ := (A.same g).mpr hg
      by_cases e : s = si
      · subst e
        obtain ⟨s', hne, hs'⟩ := A.twice s start g h hs
        exact ⟨s', by rw [setH_ne H hne]; exact hs'⟩
      · exact ⟨s, by rw [setH_ne H e]; exact hs⟩
  · obtain ⟨g', hg', hs'⟩ := hR g hg s hs hm
    have ap := A.apart R hR
    refine ⟨g', hg', ?_⟩
    by_cases e : s = si
    · subst e; exact absurd hs' (ap.1 s start h g' hg')
    · rw [setH_ne H e]; exact ap.2 s g' hg' hs'
/-- one step of the walk -/
theorem Aug.step (A : Aug M H0 start W i H) (m : Mat M H0) (nd : (seats W).Nodup) (ord : Ord M H0 start W) {si gi : Nat} (h : W[i]? = some (si, gi)) (hne : gi ≠ start) :
    ∃ j sj gj, j < i ∧ W[j]? = some (sj, gj) ∧ H sj = some gi ∧ (∀ s, H s = some gi → s = sj) ∧ Aug M H0 start W j (setH H si gi) := by
  obtain ⟨s6, g4, hM, hw⟩ := ord i si gi h
  rcases hw with e | ⟨j, hj, sj, gj, hwj, h0j⟩
  · exact absurd e hne
  have sne : sj ≠ si := nd_seats nd hwj h (by omega)
  have hsj : H sj = some gi := by rw [A.old j sj gj (by omega) hwj]; exact h0j
  have hsi : H si ≠ some gi := by
    rw [A.old i si gi (Nat.le_refl _) h]
    intro e
    exact sne (m.inj sj si gi h0j e)
  have only : ∀ s, H s = some gi → s = sj := fun s hs => by
    by_cases e : s = si
    · subst e; exact absurd hs hsi
    · exact A.inj si gi h s sj gi e sne hs hsj
  refine ⟨j, sj, gj, hj, hwj, hsj, only, ⟨_, _, hwj⟩, fun s g hg => ?_, ?_, fun s hs => ?_, ?_, ?_, ?_, ?_, ?_⟩
  · by_cases e : s = si
    · subst e; rw [setH_self] at hg; cases hg; exact ⟨g4, hM⟩
    · rw [setH_ne H e] at hg; exact A.edge s g hg
  · intro sj' gj' hw' s s' g n1 n2 h1 h2
    rw [hwj] at hw'; cases hw'
    by_cases e : s = si <;> by_cases e' : s' = si
    · rw [e, e']
    · subst e; rw [setH_self] at h1; cases h1; rw [setH_ne H e'] at h2; exact absurd (only s' h2) n2
    · subst e'; rw [setH_self] at h2; cases h2; rw [setH_ne H e] at h1; exact absurd (only s h1) n1
    · rw [setH_ne H e] at h1; rw [setH_ne H e'] at h2; exact A.inj si gi h s s' g e e' h1 h2
  · rw [setH_ne H (by omega)]; exact A.six s hs
  · intro k sk gk hk hwk
    rw [setH_ne H (nd_seats nd hwk h (by omega))]
    exact A.old k sk gk (by omega) hwk
  · intro s hs
    by_cases e : s = si
    · subst e; rw [setH_self] at hs; exact hne (Option.some.inj hs)
    · rw [setH_ne H e] at hs; exact A.out s hs
  · intro g
    rw [← A.same g]
    constructor
    · rintro ⟨s, hs⟩
      by_cases e : s = si
      · subst e; rw [setH_self] at hs; cases hs; exact ⟨sj, hsj⟩
      · rw [setH_ne H e] at hs; exact ⟨s, hs⟩
    · rintro ⟨s, hs⟩
      by_cases e : s = si
      · subst e
        obtain ⟨s', hn, hs'⟩ := A.twice s gi g h hs
        exact ⟨s', by rw [setH_ne H hn]; exact hs'⟩
      · exact ⟨s, by rw [setH_ne H e]; exact hs⟩
  · intro sj' gj' gx hw' hx
    rw [hwj] at hw'; cases hw'
    rw [setH_ne H sne, hsj] at hx
    cases hx
    exact ⟨si, Ne.symm sne, setH_self H si gi⟩
  · intro R hR
    have ap := A.apart R hR
    refine ⟨fun sj' gj' hw' g hg hs => ?_, fun s g hg hs => ?_⟩
    · rw [hwj] at hw'; cases hw'
      rw [h0j] at hs; cases hs
      obtain ⟨g', hg', h0⟩ := hR gi hg si s6 hM
      exact ap.1 si gi h g' hg' h0
    · by_cases e : s = si
      · subst e; exact absurd hs (ap.1 s gi h g hg)
      · rw [setH_ne H e]; exact ap.2 s g hg hs
/-- a shut search gives a closed set -/
theorem Shut.closed (S : Shut M H0 start W) : Closed M H0 fun g => g = start ∨ ∃ s ∈ seats W, H0 s = some g := by
  intro g hg s hs hm
  have hin : s ∈ seats W := by
    rcases hg with rfl | ⟨s', hs', e⟩
    · exact S.st s hs hm
    · exact S.on s' hs' g e s hs hm
  cases e : H0 s with
  | none => exact absurd e (S.held s hin)
  | some g' => exact ⟨g', .inr ⟨s, hin, e⟩, rfl⟩
/-- no free seat within a closed set -/
theorem Found.no {R : Nat → Prop} {seat : Nat} (hR : Closed M H0 R) (hs : R start) (F : Found M H0 start W seat) : False := by
  obtain ⟨W0, g, rfl, ord, nd, held, free⟩ := F
  have all : ∀ (n i s g' : Nat), i < n → (W0 ++ [(seat, g)])[i]? = some (s, g') → R g' := by
    intro n
    induction n with
    | zero => intro i s g' h; exact absurd h (Nat.not_lt_zero _)
    | succ n ih =>
      intro i s g' hi hw
      obtain ⟨s6, _, hM, e | ⟨j, hj, sj, gj, hwj, h0⟩⟩ := ord i s g' hw
      · subst e; exact hs
      · obtain ⟨j6, _, hMj, _⟩ := ord j sj gj hwj
        obtain ⟨g2, hg2, h2⟩ := hR gj (ih j sj gj (by omega) hwj) sj j6 hMj
        rw [h0] at h2; cases h2; exact hg2
  have e : (W0 ++ [(seat, g)])[W0.length]? = some (seat, g) := by simp
  obtain ⟨s6, _, hM, _⟩ := ord _ _ _ e
  obtain ⟨g2, _, h2⟩ := hR g (all (W0.length + 1) _ _ _ (Nat.lt_succ_self _) e) seat s6 hM
  rw [free] at h2; cases h2
end
/-- the holders after the first k starts -/
structure Good (M : Nat → Nat → Bool) (k : Nat) (H : Nat → Option Nat) : Prop where
  mat : Mat M H
  few : ∀ g, seated H g → g < k
  all : ∀ g, g < k → seated H g ∨ ∃ R, Closed M H R ∧ R g
theorem Good.zero (M : Nat → Nat → Bool) : Good M 0 fun _ => none :=
  ⟨⟨fun _ _ h => (nomatch h), fun _ _ _ h => (nomatch h), fun _ _ => rfl⟩, fun g h => (by obtain ⟨_, h⟩ := h; cases h), fun g h => absurd h (Nat.not_lt_zero _)⟩
theorem Good.fail {M : Nat → Nat → Bool} {k : Nat} {H : Nat → Option Nat} {W : List (Nat × Nat)} (G : Good M k H) (S : Shut M H k W) : Good M (k + 1) H :=
  ⟨G.mat, fun g hg => Nat.lt_succ_of_lt (G.few g hg), fun g hg => by
    rcases Nat.lt_or_eq_of_le (Nat.le_of_lt_succ hg) with h | rfl
    · exact G.all g h
    · exact .inr ⟨_, S.closed, .inl rfl⟩⟩
theorem Good.gain {M : Nat → Nat → Bool} {k : Nat} {H H' : Nat → Option Nat} (G : Good M k H) (m : Mat M H') (hs : ∀ g, seated H' g ↔ (g = k ∨ seated H g)) (hc : ∀ R, Closed M H R → Closed M H' R) : Good M (k + 1) H' :=
  ⟨m, fun g hg => by
    rcases (hs g).mp hg with rfl | h
    · exact Nat.lt_succ_self _
    · exact Nat.lt_succ_of_lt (G.few g h), fun g hg => by
    rcases Nat.lt_or_eq_of_le (Nat.le_of_lt_succ hg) with h | rfl
    · rcases G.all g h with a | ⟨R, hR, hg⟩
      · exact .inl ((hs g).mpr (.inr a))
      · exact .inr ⟨R, hc R hR, hg⟩
    · exact .inl ((hs g).mpr (.inl rfl))⟩
theorem guestOf_at {W : List (Nat × Nat)} (nd : (seats W).Nodup) {k s g : Nat} (h : W[k]? = some (s, g)) : guestOf W s = some g := by
  unfold guestOf
  cases e : W.find? (fun p => p.1 == s) with
  | none => exact absurd (beq_self_eq_true s) (List.find?_eq_none.mp e (s, g) (List.mem_of_getElem? h))
  | some p =>
    obtain ⟨s', g'⟩ := p
    have h1 : (s' == s) = true := List.find?_some (p := fun p : Nat × Nat => p.1 == s) e
    have h1 : s' = s := by simpa using h1
    subst h1
    obtain ⟨j, hj, ej⟩ := List.getElem_of_mem (List.mem_of_find?_eq_some e)
    have hj2 : W[j]? = some (s', g') := by rw [List.getElem?_eq_getElem hj, ej]
    by_cases q : j = k
    · subst q; rw [h] at hj2; cases hj2; rfl
    · exact absurd rfl (nd_seats nd hj2 h q)
-- K3
theorem strsAre_set {y : Str} {t : Tok} : ∀ {vs : List Value} {ys : List Str} (k : Nat), StrsAre vs ys → StrsAre (vs.set k (.str y t)) (ys.set k y)
  | _, _, _, .nil => .nil
  | _, _, 0, .cons a b h => .cons y t h
  | _, _, k + 1, .cons a b h => .cons a b (strsAre_set k h)
theorem holds_set {H : Nat → Option Nat} {ih : List Value} {s g : Nat} {t : Tok} (h : HoldsAre H ih) : HoldsAre (setH H s g) (ih.set s (.str (lettr g) t)) := by
  have e : (List.range 6).map (fun x => hstr (setH H s g x)) = ((List.range 6).map fun x => hstr (H x)).set s (lettr g) := by
    refine List.ext_getElem (by simp) fun i h1 h2 => ?_
    rw [List.getElem_set]
    simp only [List.getElem_map, List.getElem_range]
    by_cases q : s = i
    · subst q; rw [if_pos rfl, setH_self]; rfl
    · rw [if_neg q, setH_ne H (Ne.symm q)]
  unfold HoldsAre
  rw [e]
  exact strsAre_set s h
theorem filter_none {p : Nat → Bool} (h : ∀ s, p s = false) (n : Nat) : (List.range n).filter p = [] := by
  rw [List.filter_eq_nil_iff]
  intro a _
  rw [h a]; decide
theorem filter_one {p : Nat → Bool} {j : Nat} (hj : p j = true) (h : ∀ s, p s = true → s = j) : ∀ n, (List.range n).filter p = if j < n then [j] else []
  | 0 => by simp
  | n + 1 => by
    rw [List.range_succ, List.filter_append, filter_one hj h n]
    by_cases q : p n = true
    · have := h n q
      subst this
      simp [q]
    · have q2 : p n = false := by simpa using q
      have : n ≠ j := fun e => by subst e; rw [hj] at q2; cases q2
      simp only [List.filter_cons, q2, List.filter_nil, Bool.false_eq_true, if_false, List.append_nil]
      by_cases q3 : j < n
      · rw [if_pos q3, if_pos (by omega)]
      · rw [if_neg q3, if_neg (by omega)]
-- M17
section
open Builtin
section
variable {w : World} {g : Heap} {A : Around} {s : Shared} {L : Addr} {m : Str → Option Value} {l : Lgr} {E : Value → Shared → Prop}
theorem Led.grow {h h' : Heap} {o : Obj} (D : Led g L m h l) (F : Fr {} L h' m) (N : News {} L h' ((h.objs.size, o) :: (l ++ gl g))) : Led g L m h' ((h.objs.size, o) :: l) := by
  refine ⟨F.ns, fun b ob e => (N (b, ob) (.tail _ (List.mem_append_right _ (mem_gl.mpr e)))).1, D.gL, fun p hp => ?_, ?_⟩
  · rcases List.mem_cons.mp hp with rfl | hp
    · exact ⟨(N _ (.head _)).1, Nat.ne_of_gt D.ns.lt, fresh_at D.keep⟩
    · have z := N p (.tail _ (List.mem_append_left _ hp))
      exact ⟨z.1, z.2.1, (D.nw p hp).2.2⟩
  · rw [List.map_cons, List.nodup_cons]
    refine ⟨fun hm => ?_, D.nd⟩
    obtain ⟨p, hp, e⟩ := List.mem_map.mp hm
    have := Heap.lt_size (D.nw p hp).1
    rw [e] at this
    exact Nat.lt_irrefl _ this
theorem mul6 {a : Addr} {v : Value} {n i : Nat} {u : Tok} {Q : Value → Shared → Prop} (D : Led g L m s.heap l) (hi : l[i]? = some (a, listOf #[v] n)) (h : ∀ b h', Led g L m h' ((b, listOf [v, v, v, v, v, v].toArray 0) :: l) → Q (.ref b) { s with heap := h' }) :
    wpAny (model Pg w) A (binaryOp .Mult (.ref a) (.int 6 u)) Q E s :=
  mul_list D.fr0 D.wide (D.at hi) (by decide) (by decide) (by show 1 * 6 ≤ _; decide) fun h' F' N' => h _ h' (D.grow F' N')
end
end
theorem word43 : True := by
  k_with "binaryOp Mult ref int" => (k_dflt ((with_reducible rename Led _ _ _ _ _ => D0); (refine' mul6 D0 ?k1 ?_; (case k1 => walk_at "mine at"); k_whole; intro _ _ _; (try clear D0))))
  trivial
section
open Builtin
theorem Hp.cutT {g h : Heap} {l0 z t : Lgr} (H : Hp g h (l0 ++ (z ++ t))) : Hp g h (l0 ++ z) := H.sub (List.Sublist.append_left (List.sublist_append_left z t) l0)
section
variable {w : World} {g : Heap} {A : Around}
/-- behind the source's iterator, the list being stored in y -/
noncomputable def CompAs (w : World) (g : Heap) (A : Around) (x : Str) (px : Pos) (ifs : List Expr) (elt : Expr) (scope : Scope) (cl : List (Str × Addr)) (env : Env) (y : Str) (L : Addr) (Q : Flow → Shared → Prop) (it : Value) (s₂ : Shared) : Prop :=
      ∃ (S p l : Lgr) (Ps : List (Value → Lgr → Prop)) (b : List (Str × Value)) (J : Nat → List Value → Lgr → Prop), (∀ i ys l, J i ys l → ys.length ≤ i ∧ ∀ e ∈ S, e ∈ l) ∧ Ps.length ≤ 1000 ∧
        Yields w g A (.Name x px) it S Ps p ∧ SelfIt w g A it S p ∧ J 0 [] l ∧ Led g L (mp b) s₂.heap (l ++ p) ∧
        (∀ C i P, Ps[i]? = some P → CompTurn w g A x px ifs elt (compEnvC scope cl C env) C J s₂ i P) ∧
        (∀ Dn ys k l s', J Ps.length ys l → Sm s₂ s' → Led g L (mp ((y, .ref Dn) :: b)) s'.heap ((Dn, listOf ys.toArray k) :: l) → Q .next s')
theorem CompAs.mk {x y : Str} {px : Pos} {ifs : List Expr} {elt : Expr} {scope : Scope} {cl : List (Str × Addr)} {env : Env} {Q : Flow → Shared → Prop} {it : Value} {s₂ : Shared} {S p l : Lgr} {n : Nat} {f : Nat → Value → Lgr → Prop} {L : Addr} {b : List (Str × Value)}
    (J : Nat → List Value → Lgr → Prop) (hJ : ∀ i ys l, J i ys l → ys.length ≤ i ∧ ∀ e ∈ S, e ∈ l) (hn : n ≤ 1000) (Y : Yields w g A (.Name x px) it S (pl n f) p) (Sf : SelfIt w g A it S p) (h0 : J 0 [] l) (D : Led g L (mp b) s₂.heap (l ++ p))
    (turn : ∀ C i, i < n → CompTurn w g A x px ifs elt (compEnvC scope cl C env) C J s₂ i (f i))
    (done : ∀ Dn ys k l s', J n ys l → Sm s₂ s' → Led g L (mp ((y, .ref Dn) :: b)) s'.heap ((Dn, listOf ys.toArray k) :: l) → Q .next s') : CompAs w g A x px ifs elt scope cl env y L Q it s₂ :=
  ⟨S, p, l, pl n f, b, J, hJ, by rw [pl_len]; exact hn, Y, Sf, h0, D, fun C i P hP => by obtain ⟨hi, rfl⟩ := pl_get hP; exact turn C i hi, fun Dn ys k l s' hj hs D => done Dn ys k l s' (by rw [pl_len] at hj; exact hj) hs D⟩
theorem compAs {elt iter : Expr} {x y : Str} {px py : Pos} {ifs : List Expr} {scope : Scope} {pos spos : Pos} {env : Env} {s : Shared} {cl : List (Str × Addr)} {Q : Flow → Shared → Prop} {E : Value → Shared → Prop} {L : Addr}
    (hsw : swapsWith (.ListComp elt [⟨.Name x px, iter, ifs, 0⟩] scope pos) (some (.Name y py)) spos.line env = pure true)
    (hclos : closureFor scope env = pure cl) (hcell : ∀ y ∈ scope.names, y.2 ≠ .cell) (hkind : scope.kind = .function) (hnames : ∀ y ∈ scope.names, y.2 = .local → scope.names.lookup y.1 = some .local)
    (hs : ∀ x, foldedSetIterable iter env x = pure x) (hL : env.locals = L) (hk : env.scope.kind = .function) (hy : env.kindOf y = some .local)
    (h : wpAny (model Pg w) A (eval iter env) (fun xv s₁ => wpAny (model Pg w) A (pyIter xv) (fun it s₂ => CompAs w g A x px ifs elt scope cl env y L Q it s₂) NoE s₁) NoE s) :
    wpAny (model Pg w) A (exec (.Assign [.Name y py] (.ListComp elt [⟨.Name x px, iter, ifs, 0⟩] scope pos) spos) env) Q E s := compA hsw hclos hcell hkind hnames hs hL hk hy h
end
/-- a comprehension's turn is over -/
noncomputable def NxtE (g : Heap) (C : Addr) (J : Nat → List Value → Lgr → Prop) (s₀ : Shared) (t : Lgr) (i : Nat) (ys : List Value) (s : Shared) : Prop := ∃ b' l', J (i + 1) ys l' ∧ Sm s₀ s ∧ Led g C (mp b') s.heap (l' ++ t)
section
variable {w : World} {g : Heap} {A : Around}
theorem turnOf {x : Str} {px : Pos} {ifs : List Expr} {elt : Expr} {cenv : Env} {C : Addr} {J : Nat → List Value → Lgr → Prop} {s₀ : Shared} {i : Nat} {P : Value → Lgr → Prop}
    (h : ∀ v q b ys l s t, P v q → J i ys l → Sm s₀ s → Led g C (mp b) s.heap (q ++ (l ++ t)) → wpAny (model Pg w) A (assign (.Name x px) cenv v) (fun _ s₂ => wpAny (model Pg w) A (tests ifs cenv) (fun ok s₃ =>
      if ok = true then wpAny (model Pg w) A (eval elt cenv) (fun y s₄ => NxtE g C J s₀ t i (ys ++ [y]) s₄) NoE s₃ else NxtE g C J s₀ t i ys s₃) NoE s₂) NoE s) : CompTurn w g A x px ifs elt cenv C J s₀ i P := h
end
theorem hstr_beq (x : Option Nat) (c : Nat) : (hstr x == lettr c) = decide (x = some c) := by
  cases x with
  | none => 
    have : ¬ (Str.ofString "" == lettr c) = true := fun e => lettr_ne c (eq_of_beq e).symm
    simpa [hstr] using this
  | some d =>
    by_cases e : d = c
    · subst e; simp [hstr]
    · have h1 : ¬ (some d = some c) := by simpa using e
      rw [decide_eq_false h1]
      exact beq_eq_false_iff_ne.mpr fun q => e (lettr_inj q)
section
variable {w : World} {g : Heap} {A : Around} {s : Shared} {L : Addr} {m : Str → Option Value} {l : Lgr} {E : Value → Shared → Prop}
theorem setL {a : Addr} {its : List Value} {n i : Nat} {k : Int} {t : Tok} {v : Value} {Q : Unit → Shared → Prop} (D : Led g L m s.heap l) (hi : l[i]? = some (a, listOf its.toArray n)) (h0 : 0 ≤ k) (hk : k < its.length) (hz : its.length ≤ 1000000)
    (h : ∀ h', Led g L m h' (l.set i (a, listOf (its.set k.toNat v).toArray n)) → Q () { s with heap := h' }) : wpAny (model Pg w) A (setItem (.ref a) (.int k t) v) Q E s := by
  have z := D.at hi
  refine ki_setAt z h0 (by omega) (by rw [List.size_toArray]; exact hk) (h _ (D.put hi (Heap.SameBut.update ..) ?_))
  have e := Heap.get?_update_self (Obj.mapSeq fun xs => xs.setIfInBounds k.toNat v) z rfl
  have e3 : Obj.mapSeq (fun xs => xs.setIfInBounds k.toNat v) (W.listOf its.toArray n) = W.listOf (its.set k.toNat v).toArray n := by
    simp [Obj.mapSeq]
  rw [e3] at e
  exact e
end
end
-- C8
section
variable (w : World) (g : Heap) (s₀ : Shared) (L : Addr) (M : Nat → Nat → Bool) (Hd : Nat → Option Nat) (start : Nat) (W : List (Nat × Nat)) (d : Addr) (o : Obj) (ra b1 c' : Addr) (oc : Obj) (ir : List Value) (nr : Nat) (oH : Obj) (c1 : Nat) (t : Tok) (z : Lgr)
/-- the augmenting while loop -/
inductive SeatJ (n : Nat) (s' : Shared) : Prop
  | mk (b : List (Str × Value)) (Hc : Nat → Option Nat) (ih : List Value) (nh : Nat) (oG : Obj) (gv : Option Value) (sv : Value) (h_0 : mp b (Str.ofString "seat") = some sv) (h_1 : mp b (Str.ofString "ways") = some (.ref d)) (h_2 : mp b (Str.ofString "one") = some (.str (one c1) t)) (h_3 : mp b (Str.ofString "rows") = some (.ref ra)) (h_4 : HoldsAre Hc ih) (h_5 : oG.data = .cell gv) (h_6 : ((∃ (k sk gk : Nat) (tk : Tok), n = k + 1 ∧ W[k]? = some (sk, gk) ∧ sv = .int (sk : Int) tk ∧ Aug M Hd start W k Hc) ∨ (n = 0 ∧ sv = .none ∧ Good M (start + 1) Hc))) (h_7 : Sm s₀ s') (h_8 : Led g L (mp b) s'.heap ((d, o) :: (L + 1 + 1, oG) :: (L + 1, oH) :: (ra, listOf ir.toArray nr) :: (b1, listOf ih.toArray nh) :: (166, tabObj #[rawInt 221, rawInt 4, .ref c']) :: (c', oc) :: z)) : SeatJ n s'
end
inductive SeaJ (M : Nat → Nat → Bool) (c1 : Nat) (t : Tok) (ra b1 L2 : Addr) (lr : Lgr) (i : Nat) (b : List (Str × Value)) (l : Lgr) : Prop
  | mk (Hd : Nat → Option Nat) (ih : List Value) (nh : Nat) (oG : Obj) (gv : Option Value) (h1 : Good M i Hd) (h2 : HoldsAre Hd ih) (h3 : oG.data = .cell gv) (h4 : mp b (Str.ofString "one") = some (.str (one c1) t)) (h5 : mp b (Str.ofString "rows") = some (.ref ra)) (h6 : l = (b1, listOf ih.toArray nh) :: (L2, oG) :: lr) : SeaJ M c1 t ra b1 L2 lr i b l
theorem sp_seated {w : World} {g : Heap} (G : Gd w g) {c' : Addr} {oc : Obj} (hco : CodeOk oc) {c0 c1 : Nat} (h01 : c0 ≠ c1) (hc0 : c0 < 128) (hc1 : c1 < 128) {M : Nat → Nat → Bool}
    {ra : Addr} {ir : List Value} {nr : Nat} {t : Tok} (hr : RowsAre c0 c1 M ir) :
    FSpec w g (.ref 233) [.ref ra, .str (one c1) t] 10 [(ra, listOf ir.toArray nr), (166, tabObj #[rawInt 221, rawInt 4, .ref c']), (c', oc)]
      (fun v l' => ∃ ha ih nh Hd, v = .ref ha ∧ HoldsAre Hd ih ∧ Good M 4 Hd ∧ l' = [(ha, listOf ih.toArray nh), (ra, listOf ir.toArray nr), (166, tabObj #[rawInt 221, rawInt 4, .ref c']), (c', oc)]) := by
  refine .of fun A s z Q E ar H ret => ?_
  refine' enterC (binds := [((Str.ofString "rows"), .ref ra), ((Str.ofString "one"), .str (one c1) t)]) (bl := [((Str.ofString "one"), .str (one c1) t), ((Str.ofString "rows"), .ref ra)]) (cs := fun L => [(L + 1 + 1, none), (L + 1, none)]) G H ar ?k1 ?k2 ?k3 ?k4 ?k5 ?k6 ?k7 ?k8 ?kb ?kc ?_
  case k1 => k_is
  case k2 => k_is
  case k3 => first | exact BindsTo.of_eq rfl | exact binds_K (G.X.keeps H.keep) rfl (by k_is) rfl rfl rfl
  case k4 => exact rfl
  case k5 => decide +kernel
  case k6 => exact rfl
  case k7 => exact rfl
  case k8 => exact rfl
  case kb => intro _; kernel_rfl!
  case kc => intro _; kernel_rfl!
  intro L A' h₁ tk cells ar' D Y
  obtain ⟨o1, _, rfl, d1, o2, _, rfl, d2, rfl⟩ := Y
  dsimp only [List.cons_append, List.nil_append] at D
  w_strict (walk1; k_fold; (iterate 10 walk1); dsimp only [qk]; clear qk; (try clear ek); walk1; k_fold; (iterate 2 walk1))
  rename Led _ _ _ _ _ => D
  rename Obj.data _ = Data.cell (some _) => hoH
  rename_i tt0 b1 h3 h4 oH
  refine it_str ar'.hh D fun I p s' hs D2 Y Sf => ?_
  have D3 := D2.pick [0] 2
  refine forF (n := 4) (L := L) (s₀ := s) (b := [((Str.ofString "one"), .str (one c1) t), ((Str.ofString "rows"), .ref ra)]) (SeaJ M c1 t ra b1 (L + 1 + 1) ((L + 1, oH) :: (ra, listOf ir.toArray nr) :: (166, tabObj #[rawInt 221, rawInt 4, .ref c']) :: (c', oc) :: z)) (fun i b l _ e he => by cases he) ?_ ?_ (Y _ _) ⟨fun _ => none, _, 0, o1, none, Good.zero M, ?_, d1, rfl, rfl, rfl⟩ ?_ D3
  · rintro i v q b l s2 tt hi hv ⟨Hd, ih, nh, oG, gv, hgood, hh, hoG, hb1, hb2, rfl⟩ hs2 D4
    obtain ⟨⟨cc, uu, hcc, rfl⟩, rfl⟩ := hv
    have ecc : one cc = lettr i := by
      rcases four hi with rfl | rfl | rfl | rfl <;> (cases hcc; rfl)
    rw [show (⟨#[cc]⟩ : Str) = one cc from rfl, ecc]
    clear D D2 D3 Y Sf
    simp only [List.cons_append, List.nil_append] at D4
    w_strict ((iterate 3 walk1); k_fold; (iterate 14 walk1))
    rename Led _ _ _ _ _ => D9
    have D10 := D9.pick [1, 2, 3, 0, 4, 5] 6
    simp only [pick, List.filterMap_cons, List.filterMap_nil, List.getElem?_cons_zero, List.getElem?_cons_succ, List.drop_succ_cons, List.drop_zero, List.cons_append, List.nil_append] at D10
    refine' useAt (z := z ++ tt) 2 (sp_search G hco h01 hc0 hc1 hi (fun s g h => (hgood.mat.edge s g h).1) hr hh) ?uD ?up ar' ?uk ?_
    case uD => exact D10
    case up => exact rfl
    case uk => omega
    intro v' h' tk' l' D11 hv'
    obtain ⟨T, d, oT, o, W, kvs, rfl, hKV, hDK, rfl, hfound⟩ := hv'
    simp only [List.take_succ_cons, List.take_zero, List.cons_append, List.nil_append] at D11
    clear D9 D10
    have hnd : (seats W).Nodup := by
      rcases hfound with ⟨_, _, hF, _⟩ | ⟨hS, _⟩
      · obtain ⟨_, _, _, _, nd, _⟩ := hF; exact nd
      · exact hS.nd
    have hord : Ord M Hd i W := by
      rcases hfound with ⟨_, _, hF, _⟩ | ⟨hS, _⟩
      · obtain ⟨_, _, _, o, _⟩ := hF; exact o
      · exact hS.ord
    obtain ⟨sv, n0, rfl, hsv⟩ : ∃ (sv : Value) (n0 : Nat), oT = tupOf #[sv, .ref d] 0 ∧ ((∃ (k sk gk : Nat) (tk : Tok), n0 = k + 1 ∧ W[k]? = some (sk, gk) ∧ sv = .int (sk : Int) tk ∧ Aug M Hd i W k Hd) ∨ (n0 = 0 ∧ sv = .none ∧ Good M (i + 1) Hd)) := by
      rcases hfound with ⟨seat, t0, hF, rfl⟩ | ⟨hS, rfl⟩
      · obtain ⟨k, gk, hwk, hA⟩ := Aug.init hgood.mat (fun s e => absurd (hgood.few i ⟨s, e⟩) (Nat.lt_irrefl _)) hF
        exact ⟨_, k + 1, rfl, .inl ⟨k, seat, gk, t0, rfl, hwk, rfl, hA⟩⟩
      · exact ⟨_, 0, rfl, .inr ⟨rfl, rfl, hgood.fail hS⟩⟩
    w_strict (walk1; dsimp only [qk]; clear qk; (try clear ek); walk1; k_fold; walk1)
    rename Led _ _ _ _ _ => D9
    have D10 := D9.pick [3, 0, 1, 4, 5, 6, 7] 8
    simp only [pick, List.filterMap_cons, List.filterMap_nil, List.getElem?_cons_zero, List.getElem?_cons_succ, List.drop_succ_cons, List.drop_zero, List.cons_append, List.nil_append] at D10
    refine whileN (SeatJ g s L M Hd i W d o ra b1 c' oc ir nr oH c1 t (z ++ tt)) ?_ n0 ⟨((Str.ofString "ways"), .ref d) :: ((Str.ofString "seat"), sv) :: ((Str.ofString "start"), .str (lettr i) uu) :: b, Hd, ih, nh, oG, gv, sv, rfl, rfl, hb1, hb2, hh, hoG, hsv, hs2.go _ _, D10⟩
    rintro n s3 ⟨b, Hc, ih, nh, oG, gv, sv, hm1, hm2, hm3, hm4, hh, hoG, hsv, hs3, D11⟩
    clear D9 D10 hb1 hb2
    rcases hsv with ⟨k, sk, gk, tk2, rfl, hwk, rfl, hA⟩ | ⟨rfl, rfl, hgood2⟩
    · w_strict ((iterate 7 walk1); k_fold; (iterate 4 walk1))
      rename Led _ _ _ _ _ => D9
      obtain ⟨t7, hval⟩ : ∃ t7, valueAt kvs (sk : Int) = some (.str (lettr gk) t7) := by
        have h7 := hKV.value sk
        rw [guestOf_at hnd hwk] at h7
        exact h7
      refine dGet D9 at0 hDK hval fun tk3 => ?_
      w_strict (walk1; dsimp only [qk]; clear qk; (try clear ek); walk1; k_fold)
      rename Led _ _ _ _ _ => D9
      refine' compAs (g := g) (L := L) (cl := [((Str.ofString "holders"), L + 1), ((Str.ofString "guest"), L + 1 + 1)]) ?a0 ?a1 ?a2 ?a3 ?a4 ?a5 ?b0 ?b1 ?b2 ?_
      case a0 => exact rfl
      case a1 => kernel_rfl!
      case a2 => decide
      case a3 => exact rfl
      case a4 => decide
      case a5 => intro _; exact rfl
      case b0 => exact rfl
      case b1 => exact rfl
      case b2 => kernel_rfl!
      w_strict ((iterate 7 walk1))
      rename Led _ _ _ _ _ => D9
      rename Obj.data _ = Data.cell (some (Value.str _ _)) => hoG2
      rename Obj => oG2
      refine it_range (n := 6) ar'.hh D9 at0 (by decide) (by decide) ?_
      intro I2 p2 s5 hs5 D12 Y2 Sf2
      refine CompAs.mk (n := 6) (l := _) (p := p2) (fun j ys l => l = _ ∧ IntsAre ys (((List.range j).filter fun s => decide (Hc s = some gk)).map Int.ofNat)) ?_ (by decide) (Y2 _ _) Sf2 ⟨rfl, .nil⟩ D12 ?_ ?_
      · rintro j ys l ⟨rfl, hy⟩
        refine ⟨?_, fun e he => by cases he⟩
        have := hy.length
        rw [List.length_map] at this
        have h2 := List.length_filter_le (fun s => decide (Hc s = some gk)) (List.range j)
        rw [List.length_range] at h2
        omega
      · intro C j hj
        refine turnOf fun vv q bb ys l s6 tl hv hJ hs6 D13 => ?_
        obtain ⟨⟨t8, rfl⟩, rfl⟩ := hv
        obtain ⟨rfl, hys⟩ := hJ
        clear D9 D12
        simp only [List.cons_append, List.nil_append] at D13
        w_strict ((iterate 7 walk1))
        rename Led _ _ _ _ _ => D9
        refine itemS D9 at5 hh (by omega) (by omega) (by rw [zero_one, Int.toNat_natCast]; exact range_at _ hj) fun t9 => ?_
        have hb := hstr_beq (Hc j) gk
        cases hq : decide (Hc j = some gk) with
        | true =>
          rw [hq] at hb
          w_strict ((iterate 5 walk1))
          rename Led _ _ _ _ _ => D9
          refine ⟨_, _, ⟨rfl, ?_⟩, hs6.go _ _, D9⟩
          rw [List.range_succ, List.filter_append, List.map_append]
          simp only [List.filter_cons, hq, if_true, List.filter_nil, List.map_cons, List.map_nil]
          rw [show (0 + (j : Int) * 1) = Int.ofNat j by simp]
          exact intsAre_append hys (.cons _ _ .nil)
        | false =>
          rw [hq] at hb
          w_strict ((iterate 4 walk1))
          rename Led _ _ _ _ _ => D9
          refine ⟨_, _, ⟨rfl, ?_⟩, hs6.go _ _, D9⟩
          rw [List.range_succ, List.filter_append, List.map_append]
          simp only [List.filter_cons, hq, List.filter_nil, List.map_nil, List.append_nil, Bool.false_eq_true, if_false]
          exact hys
      · intro Dn ys kk l s6 hJ hs6 D13
        obtain ⟨rfl, hys⟩ := hJ
        clear D9 D12
        have sk6 : sk < 6 := (hord k sk gk hwk).1
        have hlen : ih.length = 6 := by rw [hh.len_eq]; simp
        w_strict (walk1; k_fold; (iterate 4 walk1))
        rename Led _ _ _ _ _ => D9
        refine setL D9 at6 (by omega) (by rw [hlen]; omega) (by omega) fun h9 D10 => ?_
        (try simp only [List.set_cons_zero, List.set_cons_succ] at D10)
        have hh2 := holds_set (s := sk) (g := gk) (t := t7) hh
        rw [Int.toNat_natCast] at D10
        clear D9
        by_cases hgs : gk = i
        · have ef : ((List.range 6).filter fun s => decide (Hc s = some gk)) = [] := filter_none (fun s => decide_eq_false (by rw [hgs]; exact hA.out s)) 6
          rw [ef] at hys
          cases hys
          have hem : ([] : List Value).isEmpty = true := rfl
          w_strict (walk1; k_fold; (iterate 8 walk1); dsimp only [qk]; clear qk; (try clear ek); walk1)
          rename Led _ _ _ _ _ => D9
          have D11 := D9.pick [2, 3, 4, 5, 6, 7, 8] 9
          simp only [pick, List.filterMap_cons, List.filterMap_nil, List.getElem?_cons_zero, List.getElem?_cons_succ, List.drop_succ_cons, List.drop_zero, List.cons_append, List.nil_append] at D11
          subst hgs
          obtain ⟨m1, m2, m3⟩ := hA.last hord hwk hi
          exact ⟨0, Nat.succ_pos _, ((Str.ofString "seat"), .none) :: ((Str.ofString "left"), .ref Dn) :: b, setH Hc sk gk, _, nh, oG2, _, .none, rfl, hm2, hm3, hm4, hh2, hoG2, .inr ⟨rfl, rfl, hgood.gain m1 m2 m3⟩, (((hs3.go _ _).trans hs5).trans hs6).go _ _, D11⟩
        · obtain ⟨j, sj, gj, hjk, hwj, hsj, honly, hA2⟩ := hA.step hgood.mat hnd hord hwk hgs
          have sj6 : sj < 6 := (hord j sj gj hwj).1
          have ef : ((List.range 6).filter fun s => decide (Hc s = some gk)) = [sj] := by rw [filter_one (j := sj) (decide_eq_true hsj) (fun s e => honly s (of_decide_eq_true e)) 6, if_pos sj6]
          rw [ef] at hys
          obtain ⟨tj, rfl⟩ : ∃ tj, ys = [.int (sj : Int) tj] := by
            cases hys with
            | cons n t h => cases h; exact ⟨_, rfl⟩
          have hem : ([.int (sj : Int) tj] : List Value).isEmpty = false := rfl
          w_strict (walk1; k_fold; (iterate 9 walk1))
          rename Led _ _ _ _ _ => D9
          refine itemL D9 at0 (by decide) (by decide) rfl ?_
          w_strict (walk1; dsimp only [qk]; clear qk; (try clear ek); walk1)
          rename Led _ _ _ _ _ => D9
          have D11 := D9.pick [2, 3, 4, 5, 6, 7, 8] 9
          simp only [pick, List.filterMap_cons, List.filterMap_nil, List.getElem?_cons_zero, List.getElem?_cons_succ, List.drop_succ_cons, List.drop_zero, List.cons_append, List.nil_append] at D11
          exact ⟨j + 1, by omega, ((Str.ofString "seat"), .int (sj : Int) tj) :: ((Str.ofString "left"), .ref Dn) :: b, setH Hc sk gk, _, nh, oG2, _, .int (sj : Int) tj, rfl, hm2, hm3, hm4, hh2, hoG2, .inl ⟨j, sj, gj, tj, rfl, hwj, rfl, hA2⟩, (((hs3.go _ _).trans hs5).trans hs6).go _ _, D11⟩
    · w_strict ((iterate 7 walk1))
      rename Led _ _ _ _ _ => D9
      have D10 := D9.pick [4, 1, 2, 3, 5, 6] 7
      simp only [pick, List.filterMap_cons, List.filterMap_nil, List.getElem?_cons_zero, List.getElem?_cons_succ, List.drop_succ_cons, List.drop_zero, List.cons_append, List.nil_append] at D10
      exact ⟨b, _, ⟨Hc, ih, nh, oG, gv, hgood2, hh, hoG, hm3, hm4, rfl⟩, hs3.go _ _, D10⟩
  · rintro b l s2 tt ⟨Hd, ih, nh, oG, gv, hgood, hh, hoG, hb1, hb2, rfl⟩ hs2 D4
    clear D D2 D3 Y Sf
    simp only [List.cons_append, List.nil_append] at D4
    try dsimp only
    w_strict (dsimp only [qk]; clear qk; (try clear ek); walk1; k_fold; (iterate 2 walk1); dsimp only [qk]; clear qk; (try clear ek))
    rename Led _ _ _ _ _ => D9
    have D10 := (D9.pick [0, 3, 4, 5] 6).out
    simp only [pick, List.filterMap_cons, List.filterMap_nil, List.getElem?_cons_zero, List.getElem?_cons_succ, List.drop_succ_cons, List.drop_zero, List.cons_append, List.nil_append] at D10
    exact ret _ _ [_, _, _, _] (hs2.go _ _) (Hp.cutT (l0 := [_, _, _, _]) D10) ⟨b1, ih, nh, Hd, rfl, hh, hgood, rfl⟩
  · exact .cons _ _ (.cons _ _ (.cons _ _ (.cons _ _ (.cons _ _ (.cons _ _ .nil)))))
  · exact (Sm.mk (h := h₁) (tk := tk)).trans hs
-- K4
theorem sub_len : ∀ (l1 l2 : List Nat), l1.Nodup → (∀ x ∈ l1, x ∈ l2) → l1.length ≤ l2.length
  | [], l2, _, _ => by simp
  | a :: r, l2, nd, h => by
    obtain ⟨n1, n2⟩ := List.nodup_cons.mp nd
    have ha := h a (.head _)
    have h1 : (l2.erase a).length = l2.length - 1 := List.length_erase_of_mem ha
    have h2 := sub_len r (l2.erase a) n2 fun x hx => by
      have : x ≠ a := fun e => n1 (e ▸ hx)
      exact (List.mem_erase_of_ne this).mpr (h x (.tail _ hx))
    have := List.length_pos_of_mem ha
    simp only [List.length_cons]
    omega
theorem nd_map {f : Nat → Nat} : ∀ (l : List Nat), l.Nodup → (∀ x ∈ l, ∀ y ∈ l, f x = f y → x = y) → (l.map f).Nodup
  | [], _, _ => by simp
  | a :: r, nd, h => by
    obtain ⟨n1, n2⟩ := List.nodup_cons.mp nd
    rw [List.map_cons, List.nodup_cons]
    refine ⟨fun hm => ?_, nd_map r n2 fun x hx y hy => h x (.tail _ hx) y (.tail _ hy)⟩
    obtain ⟨y, hy, e⟩ := List.mem_map.mp hm
    have := h y (.tail _ hy) a (.head _) e
    exact n1 (this ▸ hy)
theorem nd_filter_range (p : Nat → Bool) (n : Nat) : ((List.range n).filter p).Nodup := List.nodup_range.filter p
theorem mem_fr {p : Nat → Bool} {n x : Nat} : x ∈ (List.range n).filter p ↔ x < n ∧ p x = true := by
  rw [List.mem_filter, List.mem_range]
/-- the number of those among n that p takes -/
noncomputable def num (n : Nat) (p : Nat → Bool) : Nat := ((List.range n).filter p).length
theorem num_le_of {n k : Nat} {p q : Nat → Bool} (f : Nat → Nat) (h1 : ∀ x, x < n → p x = true → f x < k ∧ q (f x) = true) (h2 : ∀ x y, x < n → y < n → p x = true → p y = true → f x = f y → x = y) : num n p ≤ num k q := by
  have := sub_len (((List.range n).filter p).map f) ((List.range k).filter q) (nd_map _ (nd_filter_range p n) fun x hx y hy e => h2 x y (mem_fr.mp hx).1 (mem_fr.mp hy).1 (mem_fr.mp hx).2 (mem_fr.mp hy).2 e) fun x hx => by
    obtain ⟨y, hy, rfl⟩ := List.mem_map.mp hx
    exact mem_fr.mpr (h1 y (mem_fr.mp hy).1 (mem_fr.mp hy).2)
  rw [List.length_map] at this
  exact this
theorem num_split (n : Nat) (p q : Nat → Bool) : num n p = num n (fun x => p x && q x) + num n (fun x => p x && !q x) := by
  unfold num
  induction n with
  | zero => rfl
  | succ n ih =>
    rw [List.range_succ, List.filter_append, List.filter_append, List.filter_append, List.length_append, List.length_append, List.length_append, ih]
    simp only [List.filter_cons, List.filter_nil]
    cases p n <;> cases q n <;> simp <;> omega
/-- who sits -/
noncomputable def sits (H : Nat → Option Nat) (g : Nat) : Bool := (List.range 6).any fun s => H s == some g
theorem sits_iff {M : Nat → Nat → Bool} {H : Nat → Option Nat} (m : Mat M H) {g : Nat} : sits H g = true ↔ seated H g := by
  unfold sits
  rw [List.any_eq_true]
  constructor
  · rintro ⟨s, _, e⟩; exact ⟨s, by simpa using e⟩
  · rintro ⟨s, e⟩
    refine ⟨s, ?_, by simp [e]⟩
    rw [List.mem_range]
    exact Nat.lt_of_not_le fun h => by rw [m.six s h] at e; cases e
/-- a seat that a chosen guest may have -/
noncomputable def near (M : Nat → Nat → Bool) (X : Nat → Bool) (s : Nat) : Bool := (List.range 4).any fun g => X g && M g s
theorem near_iff {M : Nat → Nat → Bool} {X : Nat → Bool} {s : Nat} : near M X s = true ↔ ∃ g, g < 4 ∧ X g = true ∧ M g s = true := by
  unfold near
  rw [List.any_eq_true]
  constructor
  · rintro ⟨g, hg, e⟩
    rw [Bool.and_eq_true] at e
    exact ⟨g, List.mem_range.mp hg, e.1, e.2⟩
  · rintro ⟨g, hg, e1, e2⟩
    exact ⟨g, List.mem_range.mpr hg, by rw [e1, e2]; rfl⟩
/-- the sum of a choice -/
noncomputable def ksum (M : Nat → Nat → Bool) (X : Nat → Bool) : Nat := num 4 (fun g => !X g) + num 6 (near M X)
noncomputable def seatOf (H : Nat → Option Nat) (g : Nat) : Nat := ((List.range 6).find? fun s => H s == some g).getD 0
theorem seatOf_spec {H : Nat → Option Nat} {g : Nat} (h : sits H g = true) : seatOf H g < 6 ∧ H (seatOf H g) = some g := by
  unfold sits at h
  unfold seatOf
  cases e : (List.range 6).find? fun s => H s == some g with
  | none =>
    rw [List.find?_eq_none] at e
    obtain ⟨s, hs, e2⟩ := List.any_eq_true.mp h
    exact absurd e2 (e s hs)
  | some s =>
    have h1 := List.mem_of_find?_eq_some e
    have h2 : (H s == some g) = true := List.find?_some (p := fun s => H s == some g) e
    exact ⟨List.mem_range.mp h1, by simpa using h2⟩
theorem num_mono {n : Nat} {p q : Nat → Bool} (h : ∀ x, x < n → p x = true → q x = true) : num n p ≤ num n q :=
  num_le_of id (fun x hx hp => ⟨hx, h x hx hp⟩) fun x y _ _ _ _ e => e
theorem konig_le {M : Nat → Nat → Bool} {H : Nat → Option Nat} (m : Mat M H) (X : Nat → Bool) : num 4 (sits H) ≤ ksum M X := by
  rw [num_split 4 (sits H) X]
  have h1 : num 4 (fun x => sits H x && !X x) ≤ num 4 (fun g => !X g) := num_mono fun x _ h => by
    rw [Bool.and_eq_true] at h; exact h.2
  have h2 : num 4 (fun x => sits H x && X x) ≤ num 6 (near M X) := by
    refine num_le_of (seatOf H) (fun x hx h => ?_) (fun x y _ _ hx hy e => ?_)
    · rw [Bool.and_eq_true] at h
      obtain ⟨a, b⟩ := seatOf_spec h.1
      exact ⟨a, near_iff.mpr ⟨x, hx, h.2, (m.edge _ _ b).2⟩⟩
    · rw [Bool.and_eq_true] at hx hy
      have a := (seatOf_spec hx.1).2
      have b := (seatOf_spec hy.1).2
      rw [e, b] at a
      exact (Option.some.inj a).symm
  unfold ksum
  omega
theorem konig_eq {M : Nat → Nat → Bool} {H : Nat → Option Nat} (m : Mat M H) {C : Nat → Bool} (h1 : ∀ g, g < 4 → ¬ seated H g → C g = true) (h2 : ∀ g, g < 4 → C g = true → ∀ s, s < 6 → M g s = true → ∃ g', C g' = true ∧ H s = some g') : ksum M C = num 4 (sits H) := by
  refine Nat.le_antisymm ?_ (konig_le m C)
  rw [num_split 4 (sits H) C]
  have a1 : num 4 (fun g => !C g) ≤ num 4 (fun x => sits H x && !C x) := num_mono fun x hx h => by
    rw [Bool.and_eq_true]
    refine ⟨(sits_iff m).mpr (Classical.byContradiction fun hn => ?_), h⟩
    rw [h1 x hx hn] at h; cases h
  have a2 : num 6 (near M C) ≤ num 4 (fun x => sits H x && C x) := by
    refine num_le_of (fun s => (H s).getD 0) (fun s hs h => ?_) (fun s s' hs hs' h h' e => ?_)
    · obtain ⟨g, hg, hC, hM⟩ := near_iff.mp h
      obtain ⟨g', hC', e⟩ := h2 g hg hC s hs hM
      rw [e]
      refine ⟨(m.edge s g' e).1, ?_⟩
      rw [Bool.and_eq_true]
      exact ⟨(sits_iff m).mpr ⟨s, e⟩, hC'⟩
    · obtain ⟨g, hg, hC, hM⟩ := near_iff.mp h
      obtain ⟨g', hC', e1⟩ := h2 g hg hC s hs hM
      obtain ⟨g, hg, hC, hM⟩ := near_iff.mp h'
      obtain ⟨g2, hC', e2⟩ := h2 g hg hC s' hs' hM
      rw [e1, e2] at e
      have e : g' = g2 := e
      subst e
      exact m.inj s s' g' e1 e2
  unfold ksum
  omega
-- M18
section
open Builtin
section
variable {w : World} {g : Heap} {A : Around} {s : Shared} {L : Addr} {m : Str → Option Value} {l : Lgr} {E : Value → Shared → Prop}
theorem Led.same {h h' : Heap} (D : Led g L m h l) (F : Fr {} L h' m) (N : News {} L h' (l ++ gl g)) : Led g L m h' l :=
  ⟨F.ns, fun b ob e => (N (b, ob) (List.mem_append_right _ (mem_gl.mpr e))).1, D.gL, fun p hp => ⟨(N p (List.mem_append_left _ hp)).1, (D.nw p hp).2⟩, D.nd⟩
theorem Led.grow' {h h' : Heap} {a : Addr} {o : Obj} (D : Led g L m h l) (ha : h.objs.size ≤ a) (F : Fr {} L h' m) (N : News {} L h' ((a, o) :: (l ++ gl g))) : Led g L m h' ((a, o) :: l) := by
  refine ⟨F.ns, fun b ob e => (N (b, ob) (.tail _ (List.mem_append_right _ (mem_gl.mpr e)))).1, D.gL, fun p hp => ?_, ?_⟩
  · rcases List.mem_cons.mp hp with rfl | hp
    · refine ⟨(N _ (.head _)).1, fun e => ?_, ?_⟩
      · have e : a = L := e
        rw [e] at ha
        exact absurd D.ns.lt (Nat.not_lt.mpr ha)
      · cases q : g.get? a with
        | none => rfl
        | some o => exact absurd (Heap.lt_size (D.keep _ _ q)) (Nat.not_lt.mpr ha)
    · have z := N p (.tail _ (List.mem_append_left _ hp))
      exact ⟨z.1, z.2.1, (D.nw p hp).2.2⟩
  · rw [List.map_cons, List.nodup_cons]
    refine ⟨fun hm => ?_, D.nd⟩
    obtain ⟨p, hp, e⟩ := List.mem_map.mp hm
    have := Heap.lt_size (D.nw p hp).1
    rw [e] at this
    exact absurd this (Nat.not_lt.mpr ha)
theorem sumL {a : Addr} {its : List Value} {ns : List Int} {n i : Nat} {Q : Value → Shared → Prop} (hh : A.handled = none) (D : Led g L m s.heap l) (hi : l[i]? = some (a, listOf its.toArray n)) (hs : IntsAre its ns)
    (h : ∀ h' tk t, Led g L m h' l → Q (.int ns.sum t) { s with heap := h', toks := tk }) : wpAny (model Pg w) A (call (.builtin "sum") [.ref a]) Q E s :=
  sumK hh D.fr0 D.wide (isList D hi) hs fun h' tk t' F N => h h' tk t' (D.same F N)
theorem minL {a : Addr} {its : List Value} {ns : List Int} {n i : Nat} {Q : Value → Shared → Prop} (hh : A.handled = none) (D : Led g L m s.heap l) (hi : l[i]? = some (a, listOf its.toArray n)) (hs : IntsAre its ns) (hne : 0 < ns.length)
    (h : ∀ h' M (t : Tok) tk, Led g L m h' l → M ∈ ns → (∀ a, a ∈ ns → M ≤ a) → Q (.int M t) { s with heap := h', toks := tk }) : wpAny (model Pg w) A (call (.builtin "min") [.ref a]) Q E s :=
  min_list_N hh D.fr0 D.wide (isList D hi) hs hne fun h' M t tk F N => h h' M t tk (D.same F N)
theorem countS {a : Addr} {its : List Value} {ys : List Str} {n i : Nat} {k : Str} {t : Tok} {Q : Value → Shared → Prop} (D : Led g L m s.heap l) (hi : l[i]? = some (a, listOf its.toArray n)) (hs : StrsAre its ys)
    (h : ∀ t tk, Q (.int ((ys.countP (· == k) : Nat) : Int) t) { s with toks := tk }) : wpAny (model Pg w) A (call (.builtin "list.count") [.ref a, .str k t]) Q E s := by
  have z := D.at hi
  refine call_meets PySem.F.slot_list_count ⟨_, z, rfl⟩ PySem.F.entry_list_count (PySem.F.args_list_count_2 _ _) (PySem.SeqAt.list_countAt a its.toArray n none #[] (.str k t) (isStrOf k)) ⟨z, fun y hy => (eq_isStrOf k t hs y (by simpa using hy)).at _ _, ?_⟩
  have e : its.toArray.toList.countP (isStrOf k) = ys.countP (· == k) := by
    rw [show its.toArray.toList = its from rfl]
    clear h z hi
    induction hs with
    | nil => rfl
    | cons a b _ ih => simp only [List.countP_cons, ih]; rfl
  rw [e]
  exact h _ _
theorem isStr_at (k : Str) : ∀ {vs : List Value} {ns : List Str}, StrsAre vs ns → ∀ (j : Nat) (h1 : j < vs.length) (h2 : j < ns.length), isStrOf k vs[j] = (ns[j] == k)
  | _, _, .cons n t _, 0, _, _ => rfl
  | _, _, .cons n t r, j + 1, h1, h2 => isStr_at k r j (Nat.lt_of_succ_lt_succ h1) (Nat.lt_of_succ_lt_succ h2)
theorem idxS {a : Addr} {its : List Value} {ys : List Str} {n i j : Nat} {k : Str} {t : Tok} {Q : Value → Shared → Prop} (D : Led g L m s.heap l) (hi : l[i]? = some (a, listOf its.toArray n)) (hs : StrsAre its ys) (hz : ys.length ≤ 1000)
    (hj : ys[j]? = some k) (hb : ∀ j', j' < j → ys[j']? ≠ some k) (h : ∀ t tk, Q (.int (j : Int) t) { s with toks := tk }) : wpAny (model Pg w) A (call (.builtin "list.index") [.ref a, .str k t]) Q E s := by
  have z := D.at hi
  have hlen := hs.len_eq
  obtain ⟨hj1, hj2⟩ := List.getElem?_eq_some_iff.mp hj
  refine call_meets PySem.F.slot_list_index ⟨_, z, rfl⟩ PySem.F.entry_list_index (PySem.F.args_list_index_2 _ _)
    (PySem.SeqAt.list_indexAt a its.toArray n none #[] (.str k t) (isStrOf k) j (by simpa [hlen] using hj1) (by omega) ?_ ?_) ⟨z, fun y hy => (eq_isStrOf k t hs y (by simpa using hy)).at _ _, h _ _⟩
  · show isStrOf k its[j] = true
    rw [isStr_at k hs j (by omega) hj1, hj2]
    exact beq_self_eq_true _
  · intro j' hjs hlt
    show isStrOf k its[j'] = false
    rw [isStr_at k hs j' (by simpa using hjs) (by omega)]
    refine beq_eq_false_iff_ne.mpr fun e => hb j' hlt ?_
    rw [List.getElem?_eq_getElem (by omega), e]
theorem inS {a : Addr} {its : List Value} {ys : List Str} {n i : Nat} {k : Str} {t : Tok} {Q : Value → Shared → Prop} (D : Led g L m s.heap l) (hi : l[i]? = some (a, listOf its.toArray n)) (hs : StrsAre its ys)
    (h : Q (.bool (ys.any (· == k))) s) : wpAny (model Pg w) A (compareOp .In (.str k t) (.ref a)) Q E s := in_list_strs (isList D hi) hs h
theorem ninS {a : Addr} {its : List Value} {ys : List Str} {n i : Nat} {k : Str} {t : Tok} {Q : Value → Shared → Prop} (D : Led g L m s.heap l) (hi : l[i]? = some (a, listOf its.toArray n)) (hs : StrsAre its ys)
    (h : Q (.bool (!(ys.any (· == k)))) s) : wpAny (model Pg w) A (compareOp .NotIn (.str k t) (.ref a)) Q E s := notin_list_strs (isList D hi) hs h
theorem addLL {a b : Addr} {x y : List Value} {n k i j : Nat} {Q : Value → Shared → Prop} (D : Led g L m s.heap l) (hi : l[i]? = some (a, listOf x.toArray n)) (hj : l[j]? = some (b, listOf y.toArray k)) (hz : x.length + y.length ≤ 100000)
    (h : ∀ c h', Led g L m h' ((c, listOf (x ++ y).toArray 0) :: l) → Q (.ref c) { s with heap := h' }) : wpAny (model Pg w) A (binaryOp .Add (.ref a) (.ref b)) Q E s :=
  add_arrays D.fr0 D.wide (isList D hi) (isList D hj) (fun h' F N => h _ h' (D.grow F N)) (by simp only [List.size_toArray, sizeLine_eq]; omega)
theorem sliceLL {a : Addr} {its : List Value} {n i : Nat} {vl vu : Value} {lo hi : Option Int} {value slice : Expr} {r : List Value} {Q : Value → Shared → Prop} (D : Led g L m s.heap l) (hl : l[i]? = some (a, listOf its.toArray n)) (pl : IsPart vl lo) (pu : IsPart vu hi) (hz : its.length ≤ 100000)
    (hr : slicePick its.toArray lo hi none = r.toArray) (h : ∀ c h', Led g L m h' ((c, listOf r.toArray 0) :: l) → Q (.ref c) { s with heap := h' })
    (hs : subscripted slice false (.ref a) (.ref s.heap.objs.size) = operate [.ref s.heap.objs.size, .ref a] (getItem (.ref a) (.ref s.heap.objs.size)) := by with_unfolding_all rfl)
    (ht : ∀ r, letTemporaryGo value (.ref a) r = pure () := by intro _; with_unfolding_all rfl) :
    wpAny (model Pg w) A (subscriptTail value slice (.ref a) (.ref s.heap.objs.size)) Q E { s with heap := s.heap.push { cls := .type "slice", data := .fields #[vl, vu, .none] } } :=
  slice_list D.fr0 D.wide (isList D hl) pl pu (fun h' F N => h _ h' (D.grow' (Nat.le_succ _) F (by rw [hr] at N; exact N))) hs ht (by simp only [List.size_toArray, sizeLine_eq]; omega)
end
section
variable {w : World} {A : Around} {s : Shared} {E : Value → Shared → Prop}
theorem fdivL {a b : Int} {t u : Tok} {Q : Value → Shared → Prop} (h0 : 0 < b) (h1 : b < 1073741824) (h : ∀ t tk, Q (.int (a / b) t) { s with toks := tk }) : wpAny (model Pg w) A (binaryOp .FloorDiv (.int a t) (.int b u)) Q E s := by
  refine floordiv_int (by omega) ?_ (.inl (PyProof.noPylong_small (by omega)))
  rw [Int.fdiv_eq_ediv_of_nonneg _ (by omega)]
  exact h _ _
theorem modL {a b : Int} {t u : Tok} {Q : Value → Shared → Prop} (h0 : 0 < b) (h1 : b < 1073741824) (h : ∀ t tk, Q (.int (a % b) t) { s with toks := tk }) : wpAny (model Pg w) A (binaryOp .Mod (.int a t) (.int b u)) Q E s := by
  refine mod_int' (by omega) ?_
  rw [Int.fmod_eq_emod_of_nonneg _ (by omega)]
  exact h _ _
end
section
variable {w : World} {A : Around} {s : Shared} {E : Value → Shared → Prop}
theorem sItem {value slice : Expr} {x : Str} {t u : Tok} {n : Nat} {k : Int} {Q : Value → Shared → Prop} (hn : x.length = n) (hz : n ≤ 1000000) (h0 : 0 ≤ k) (h1 : k < n) (h : ∀ t tk, Q (.str (Txt.item x k) t) { s with toks := tk })
    (hs : subscripted slice false (.str x t) (.int k u) = operate [.str x t, .int k u] (getItem (.str x t) (.int k u)) := by with_unfolding_all rfl)
    (ht : ∀ r, letTemporaryGo value (.str x t) r = pure () := by intro _; with_unfolding_all rfl) :
    wpAny (model Pg w) A (subscriptTail value slice (.str x t) (.int k u)) Q E s := by
  subst hn
  have : sizeLine = 16777216 := sizeLine_eq
  exact item_str (fitsSsize_of (N := 16777216) (by omega) (by omega) (by decide)) (by omega) (by omega) (fun _ => h _ _) hs ht
theorem sItemC {value slice : Expr} {x : Str} {t u : Tok} {n c : Nat} {k : Int} {Q : Value → Shared → Prop} (he : Txt.item x k = one c) (hn : x.length = n) (hz : n ≤ 1000000) (h0 : 0 ≤ k) (h1 : k < n) (h : ∀ t tk, Q (.str (one c) t) { s with toks := tk })
    (hs : subscripted slice false (.str x t) (.int k u) = operate [.str x t, .int k u] (getItem (.str x t) (.int k u)) := by with_unfolding_all rfl)
    (ht : ∀ r, letTemporaryGo value (.str x t) r = pure () := by intro _; with_unfolding_all rfl) :
    wpAny (model Pg w) A (subscriptTail value slice (.str x t) (.int k u)) Q E s := sItem hn hz h0 h1 (fun t tk => by rw [he]; exact h t tk) hs ht
end
end
theorem word44 : True := by
  k_with "binaryOp FloorDiv int int" => (k_dflt (first
      | ((with_reducible show wpAny _ _ (binaryOp Operator.FloorDiv (Value.int _ _) (Value.int (2 ^ Int.toNat _) _)) _ _ _); refine' fdivP ?k1 ?_; (case k1 => omega); k_whole)
      | (refine' fdivL ?k0 ?k1 ?_; (case k0 => first | decide | omega | assumption); (case k1 => first | decide | omega | assumption); k_whole; intro _ _)))
  trivial
theorem word45 : True := by
  k_with "binaryOp Mod int int" => (k_dflt (refine' modL ?k0 ?k1 ?_; (case k0 => first | decide | omega | assumption); (case k1 => first | decide | omega | assumption); k_whole; intro _ _))
  trivial
theorem word46 : True := by
  k_with "call builtin:sum" => (k_dflt ((with_reducible rename Led _ _ _ _ _ => D0); (refine' sumL ?kA D0 ?k1 ?k2 ?_; (case kA => exact Ar.hh (by assumption)); (case k1 => walk_at "mine at"); (case k2 => assumption); k_whole; intro _ _ _ _; (try clear D0))))
  trivial
theorem word47 : True := by
  k_with "call builtin:min" => (k_dflt ((with_reducible rename Led _ _ _ _ _ => D0); (refine' minL ?kA D0 ?k1 ?k2 ?k3 ?_; (case kA => exact Ar.hh (by assumption)); (case k1 => walk_at "mine at"); (case k2 => assumption); (case k3 => first | assumption | decide | (simp; done)); k_whole; intro _ _ _ _ _ _ _; (try clear D0))))
  trivial
theorem word48 : True := by
  k_with "call builtin:list.count" => (k_dflt ((with_reducible rename Led _ _ _ _ _ => D0); (refine' countS D0 ?k1 ?k2 ?_; (case k1 => walk_at "mine at"); (case k2 => assumption); k_whole; intro _ _)))
  trivial
theorem word49 : True := by
  k_with "compareOp In str ref" => (k_dflt ((with_reducible rename Led _ _ _ _ _ => D0); (refine' inS D0 ?k1 ?k2 ?_; (case k1 => walk_at "mine at"); (case k2 => assumption); k_whole)))
  trivial
theorem word50 : True := by
  k_with "compareOp NotIn str ref" => (k_dflt ((with_reducible rename Led _ _ _ _ _ => D0); (refine' ninS D0 ?k1 ?k2 ?_; (case k1 => walk_at "mine at"); (case k2 => assumption); k_whole)))
  trivial
section
open Builtin
theorem ldC' {M : Model} {g : Heap} {A : Around} {s : Shared} {env : Env} {m : Str → Option Value} {l : Lgr} {E : Value → Shared → Prop} {x : Str} {v : Value} {Q : Value → Shared → Prop} {L : Addr} {c : Addr} {o : Obj} {i j : Nat} {y : Str} (D : Led g L m s.heap l) (hk : env.scope.kind = .function) (hx : env.kindOf x = some .cell) (hj : env.cells.findIdx? (fun p => x == p.1) = some j) (hc : env.cells[j]? = some (y, c)) (hm : l[i]? = some (c, o)) (hv : o.data = .cell (some v)) (h : Q v s) : wpAny M A (loadName env x) Q E s :=
  wpAny_loadName_cell hk hx (lookup_idx hj hc) ⟨o, D.at hm, hv⟩ h
end
theorem word51 : True := by
  k_with "loadName" => (k_dflt ((with_reducible rename Led _ _ _ _ _ => D0); first
      | (refine' ldL D0 ?k1 ?k2 ?k3 ?k4 ?_; (case k3 => kernel_rfl!); (case k1 => exact rfl); (case k2 => kernel_rfl!); (case k4 => first | exact rfl | assumption); k_whole)
      | (refine' ldC' D0 ?k2 ?k3 ?kj ?k4 ?k6 ?k7 ?_; (case k3 => kernel_rfl!); (case k2 => kernel_rfl!); (case kj => first | (show _ = some 0; kernel_rfl!) | (show _ = some 1; kernel_rfl!) | (show _ = some 2; kernel_rfl!) | (show _ = some 3; kernel_rfl!)); (case k4 => exact rfl); (case k6 => walk_at "mine at"); (case k7 => first | assumption | exact rfl); k_whole)))
  trivial
-- C9
noncomputable abbrev alphabet : Str := (Str.ofString "ABCDEFGHIJKLMNOPQRSTUVWXYZabcdefghijklmnopqrstuvwxyz0123456789+/")
noncomputable abbrev stock : Str := ⟨#[97, 42, 63, 91, 93, 33, 45, 46, 94, 126, 38, 35, 34, 32, 92, 10]⟩
theorem sp_alphabet {w : World} {g : Heap} (G : Gd w g) : FSpec w g (.ref 178) [] 1 [] (fun v l => l = [] ∧ ∃ t, v = .str alphabet t) := by
  refine .of fun A s z Q E ar H ret => ?_
  refine' enter (binds := []) (bl := []) G H ar ?k1 ?k2 ?k3 ?k4 ?k5 ?k6 ?k7 ?k8 ?kb ?_
  case k1 => k_is
  case k2 => k_is
  case k3 => first | exact BindsTo.of_eq rfl | exact binds_K (G.X.keeps H.keep) rfl (by k_is) rfl rfl rfl
  case k4 => exact locs rfl
  case k5 => decide
  case k6 => exact rfl
  case k7 => exact rfl
  case k8 => exact rfl
  case kb => exact rfl
  intro L A' h₁ tk ar' D
  w_strict (walk1; k_fold; (iterate 2 walk1); dsimp only [qk]; clear qk; (try clear ek))
  rename Led _ _ _ _ _ => D
  exact ret _ _ [] (Sm.mk (h := h₁) (tk := tk) |>.go _ _) D.out ⟨rfl, _, rfl⟩
theorem stock_eq : Str.ofString "a*?[]!-.^~&#\" \\\n" = stock := by decide +kernel
theorem item_stock0 (k : Int) (h0 : 0 ≤ k) (h1 : k < 16) : ∃ c, Txt.item stock k = one c ∧ stock.cps[k.toNat]? = some c := by
  have a : AllN (fun n => ∃ c, Txt.item stock (n : Int) = one c ∧ stock.cps[n]? = some c) 16 := by
    iterate 16 refine And.intro ?_ ⟨_, rfl, rfl⟩
    trivial
  have := a.get k.toNat (toNat_lt h0 h1)
  rwa [Int.toNat_of_nonneg h0] at this
theorem item_stock (k : Int) (h0 : 0 ≤ k) (h1 : k < 16) : ∃ c, Txt.item (Str.ofString "a*?[]!-.^~&#\" \\\n") k = one c ∧ stock.cps[k.toNat]? = some c := by
  rw [stock_eq]; exact item_stock0 k h0 h1
theorem one_app (a b : Nat) : one a ++ one b = ⟨#[a, b]⟩ := by
  show (⟨#[a] ++ #[b]⟩ : Str) = _
  simp
theorem pair1 (n : Int) : n % 16 ≠ (n % 16 + 1 + n / 16 % 15) % 16 := by
  have h1 : 0 ≤ n / 16 % 15 := (mod_in _ (by decide)).1
  have h2 : n / 16 % 15 < 15 := (mod_in _ (by decide)).2
  generalize n / 16 % 15 = d at *
  omega
theorem pair2 (n : Int) : (n % 16).toNat ≠ ((n % 16 + 1 + n / 16 % 15) % 16).toNat ∧ (n % 16).toNat < 16 ∧ ((n % 16 + 1 + n / 16 % 15) % 16).toNat < 16 := by
  have h := pair1 n
  have h2 : 0 ≤ (n % 16 + 1 + n / 16 % 15) % 16 := (mod16 _).1
  have h3 : 0 ≤ n % 16 := (mod16 _).1
  refine ⟨fun e => h ((Int.toNat_of_nonneg h3).symm.trans ((congrArg Nat.cast e).trans (Int.toNat_of_nonneg h2))), mod_toNat n (n := 16) (by decide), mod_toNat _ (n := 16) (by decide)⟩
theorem sp_pair {w : World} {g : Heap} (G : Gd w g) {n : Int} {t : Tok} (h0 : 0 ≤ n) (h1 : n < 5000) : FSpec w g (.ref 185) [.int n t] 1 [] (fun v l => l = [] ∧ ∃ a b, a ≠ b ∧ a < 16 ∧ b < 16 ∧ ∃ c0 c1 t, stock.cps[a]? = some c0 ∧ stock.cps[b]? = some c1 ∧ v = .str ⟨#[c0, c1]⟩ t) := by
  refine .of fun A s z Q E ar H ret => ?_
  refine' enter (binds := [((Str.ofString "pick"), .int n t)]) (bl := [((Str.ofString "pick"), .int n t)]) G H ar ?k1 ?k2 ?k3 ?k4 ?k5 ?k6 ?k7 ?k8 ?kb ?_
  case k1 => k_is
  case k2 => k_is
  case k3 => first | exact BindsTo.of_eq rfl | exact binds_K (G.X.keeps H.keep) rfl (by k_is) rfl rfl rfl
  case k4 => exact locs rfl
  case k5 => decide
  case k6 => exact rfl
  case k7 => exact rfl
  case k8 => exact rfl
  case kb => exact rfl
  intro L A' h₁ tk ar' D
  obtain ⟨c0, e0, f0⟩ := item_stock (n % 16) (mod16 _).1 (mod16 _).2
  obtain ⟨c1, e1, f1⟩ := item_stock ((n % 16 + 1 + n / 16 % 15) % 16) (mod16 _).1 (mod16 _).2
  w_strict (walk1; k_fold; (iterate 3 walk1); dsimp only [qk]; clear qk; (try clear ek); walk1; k_fold; (iterate 8 walk1))
  refine sItemC (n := 16) e0 (by decide +kernel) (by decide) (mod16 _).1 (mod16 _).2 fun t2 tk2 => ?_
  w_strict ((iterate 21 walk1))
  refine sItemC (n := 16) e1 (by decide +kernel) (by decide) (mod16 _).1 (mod16 _).2 fun t3 tk3 => ?_
  w_strict (walk1; dsimp only [qk]; clear qk; (try clear ek))
  rename Led _ _ _ _ _ => D
  try dsimp only
  obtain ⟨hne, ha, hb⟩ := pair2 n
  exact ret _ _ [] (Sm.mk (h := h₁) (tk := tk) |>.go _ _) D.out ⟨rfl, _, _, hne, ha, hb, c0, c1, _, f0, f1, congrArg (Value.str · _) (one_app c0 c1)⟩
-- P6
theorem item_strOf {l : List Nat} {k : Int} {c : Nat} (h0 : 0 ≤ k) (h : l[k.toNat]? = some c) : Txt.item (strOf l) k = one c := by
  obtain ⟨h1, h2⟩ := List.getElem?_eq_some_iff.mp h
  have e : seqIndex? k (strOf l).length = some k.toNat := by
    rw [len_strOf]
    exact seqIndex_of h0 (by rw [← Int.toNat_of_nonneg h0]; exact Int.ofNat_lt.mpr h1)
  unfold Txt.item Txt.charAt
  rw [e]
  show (⟨#[((strOf l).cps[k.toNat]?).getD 0]⟩ : Str) = one c
  rw [show (strOf l).cps[k.toNat]? = some c by simpa [strOf] using h]
  rfl
noncomputable def ColsAre (c0 c1 : Nat) (M : Nat → Nat → Bool) (its : List Value) : Prop := StrsAre its ((List.range 6).map fun s => strOf ((List.range 4).map fun g => sel c0 c1 (M g s)))
theorem count_hold {M : Nat → Nat → Bool} {H : Nat → Option Nat} (m : Mat M H) (g : Nat) : ((List.range 6).map fun s => hstr (H s)).countP (· == lettr g) = if sits H g then 1 else 0 := by
  rw [List.countP_map, List.countP_eq_length_filter]
  have e : ((fun x => x == lettr g) ∘ fun s => hstr (H s)) = fun s => decide (H s = some g) := by
    funext s; exact hstr_beq (H s) g
  rw [e]
  cases hs : sits H g with
  | true =>
    obtain ⟨a, b⟩ := seatOf_spec hs
    rw [filter_one (j := seatOf H g) (decide_eq_true b) (fun s e => m.inj _ _ _ (of_decide_eq_true e) b) 6, if_pos a]; rfl
  | false =>
    rw [filter_none (fun s => decide_eq_false fun e => ?_) 6]; rfl
    have := (sits_iff m).mpr ⟨s, e⟩
    rw [hs] at this; cases this
theorem idx_hold {M : Nat → Nat → Bool} {H : Nat → Option Nat} (m : Mat M H) {g : Nat} (hs : sits H g = true) :
    ((List.range 6).map fun s => hstr (H s))[seatOf H g]? = some (lettr g) ∧ ∀ j', j' < seatOf H g → ((List.range 6).map fun s => hstr (H s))[j']? ≠ some (lettr g) := by
  obtain ⟨a, b⟩ := seatOf_spec hs
  refine ⟨?_, fun j' hj e => ?_⟩
  · rw [range_at _ a, b]; rfl
  · rw [range_at _ (by omega)] at e
    have h1 : (hstr (H j') == lettr g) = true := by rw [Option.some.inj e]; exact beq_self_eq_true _
    rw [hstr_beq] at h1
    have := m.inj _ _ _ (of_decide_eq_true h1) b
    omega
theorem abcd_at {i cc : Nat} (hi : i < 4) (h : (Str.ofString "abcd").cps[i]? = some cc) : one cc = lettr i := by
  rcases four hi with rfl | rfl | rfl | rfl <;> (cases h; rfl)
theorem abcd_len : (Str.ofString "abcd").cps.size = 4 := by decide
theorem seatsList_snoc {p : Nat → Bool} (i : Nat) : ((List.range (i + 1)).filter p) = ((List.range i).filter p) ++ (if p i then [i] else []) := by
  rw [List.range_succ, List.filter_append]
  congr 1
  cases h : p i <;> simp [h]
theorem itemT {w : World} {g : Heap} {A : Around} {s : Shared} {L : Addr} {m : Str → Option Value} {l : Lgr} {E : Value → Shared → Prop} {value slice : Expr} {T : Addr} {vs : List Value} {n i j : Nat} {k : Int} {u : Tok} {x : Value} {Q : Value → Shared → Prop} (D : Led g L m s.heap l) (hi : l[i]? = some (T, tupOf vs.toArray n))
    (h0 : 0 ≤ k) (hk : k < 1000) (hj : seqIndex? k vs.length = some j) (hx : vs[j]? = some x) (h : Q x s)
    (hs : subscripted slice false (.ref T) (.int k u) = operate [.ref T, .int k u] (getItem (.ref T) (.int k u)) := by with_unfolding_all rfl) : wpAny (model Pg w) A (subscriptTail value slice (.ref T) (.int k u)) Q E s :=
  item_tupleT (l := vs) ⟨_, D.at hi, rfl, n, rfl⟩ (by omega) (by omega) hj hx h hs
theorem any_hold {M : Nat → Nat → Bool} {H : Nat → Option Nat} (m : Mat M H) (g : Nat) : ((List.range 6).map fun s => hstr (H s)).any (· == lettr g) = sits H g := by
  rw [List.any_map]
  unfold sits
  congr 1
  funext s
  show (hstr (H s) == lettr g) = (H s == some g)
  rw [hstr_beq]
  cases e : H s == some g with
  | true => exact decide_eq_true (by simpa using e)
  | false => exact decide_eq_false (by simpa using e)
/-- the guests brought up, as letters -/
noncomputable def ltrs (B : List Nat) : List Nat := B.map (97 + ·)
/-- what has been brought up for the first k starts -/
structure Brought (M : Nat → Nat → Bool) (H : Nat → Option Nat) (k : Nat) (B : List Nat) : Prop where
  four : ∀ g ∈ B, g < 4
  all : ∀ g, g < k → ¬ seated H g → g ∈ B
  cl : ∀ g ∈ B, ∀ s, s < 6 → M g s = true → ∃ g', g' ∈ B ∧ H s = some g'
  len : B.length ≤ 7 * k
theorem Brought.zero {M : Nat → Nat → Bool} {H : Nat → Option Nat} : Brought M H 0 [] :=
  ⟨fun g h => (nomatch h), fun g h => absurd h (Nat.not_lt_zero _), fun g h => (nomatch h), Nat.le_refl _⟩
theorem Brought.skip {M : Nat → Nat → Bool} {H : Nat → Option Nat} {k : Nat} {B : List Nat} (b : Brought M H k B) (h : seated H k) : Brought M H (k + 1) B :=
  ⟨b.four, fun g hg hn => by
    rcases Nat.lt_or_eq_of_le (Nat.le_of_lt_succ hg) with h1 | rfl
    · exact b.all g h1 hn
    · exact absurd h hn, b.cl, by have := b.len; omega⟩
noncomputable def wh (H : Nat → Option Nat) (W : List (Nat × Nat)) : List Nat := (seats W).map fun s => (H s).getD 0
theorem Brought.add {M : Nat → Nat → Bool} {H : Nat → Option Nat} {k : Nat} {B : List Nat} {W : List (Nat × Nat)} (m : Mat M H) (b : Brought M H k B) (k4 : k < 4) (S : Shut M H k W) : Brought M H (k + 1) (B ++ (k :: wh H W)) := by
  have hw : W.length ≤ 6 := by
    have := nodup_le 6 (seats W) S.nd S.ord.lt
    simpa [seats] using this
  have mem : ∀ s ∈ seats W, ∀ g, H s = some g → g ∈ k :: wh H W := fun s hs g e => .tail _ (List.mem_map.mpr ⟨s, hs, by rw [e]; rfl⟩)
  refine ⟨fun g hg => ?_, fun g hg hn => ?_, fun g hg s hs hm => ?_, ?_⟩
  · rcases List.mem_append.mp hg with hg | hg
    · exact b.four g hg
    · rcases List.mem_cons.mp hg with rfl | hg
      · exact k4
      · obtain ⟨s, hs, rfl⟩ := List.mem_map.mp hg
        cases e : H s with
        | none => exact absurd e (S.held s hs)
        | some g' => exact (m.edge s g' e).1
  · rcases Nat.lt_or_eq_of_le (Nat.le_of_lt_succ hg) with h1 | rfl
    · exact List.mem_append_left _ (b.all g h1 hn)
    · exact List.mem_append_right _ (.head _)
  · rcases List.mem_append.mp hg with hg | hg
    · obtain ⟨g', h1, h2⟩ := b.cl g hg s hs hm
      exact ⟨g', List.mem_append_left _ h1, h2⟩
    · have hR : g = k ∨ ∃ s ∈ seats W, H s = some g := by
        rcases List.mem_cons.mp hg with rfl | hg
        · exact .inl rfl
        · obtain ⟨s', hs', e2⟩ := List.mem_map.mp hg
          cases e : H s' with
          | none => exact absurd e (S.held s' hs')
          | some g' =>
            rw [e] at e2
            have e2 : g' = g := e2
            subst e2
            exact .inr ⟨s', hs', e⟩
      obtain ⟨g', h1, h2⟩ := S.closed g hR s hs hm
      refine ⟨g', List.mem_append_right _ ?_, h2⟩
      rcases h1 with rfl | ⟨s', hs', e⟩
      · exact .head _
      · exact mem s' hs' g' e
  · have := b.len
    rw [List.length_append, List.length_cons, wh, List.length_map]
    have : (seats W).length = W.length := by simp [seats]
    omega
theorem brought_in (B : List Nat) (k : Nat) : (!(Builtin.Str.occurrences (strOf (ltrs B)) (lettr k) 0 (strOf (ltrs B)).length 1).isEmpty) = decide (k ∈ B) := by
  have := StrLaws.found_one (strOf (ltrs B)) (97 + k)
  rw [show lettr k = ⟨#[97 + k]⟩ from rfl, this]
  have e : (97 + k ∈ (strOf (ltrs B)).cps.toList) ↔ k ∈ B := by
    show 97 + k ∈ ltrs B ↔ _
    unfold ltrs
    rw [List.mem_map]
    constructor
    · rintro ⟨x, hx, e⟩
      have : x = k := by omega
      exact this ▸ hx
    · exact fun h => ⟨k, h, rfl⟩
  exact decide_eq_decide.mpr e
/-- a choice as a number -/
noncomputable def mask (C : Nat → Bool) (n : Nat) : List Int := ((List.range n).filter C).map fun k => (2 : Int) ^ k
theorem app_str (a b : List Nat) : strOf a ++ strOf b = strOf (a ++ b) := by
  show (⟨a.toArray ++ b.toArray⟩ : Str) = ⟨(a ++ b).toArray⟩
  simp
theorem app_one_str (c : Nat) (b : List Nat) : one c ++ strOf b = strOf (c :: b) := app_str [c] b
theorem wh_strs {H : Nat → Option Nat} {W : List (Nat × Nat)} (h : ∀ s ∈ seats W, H s ≠ none) : (seats W).map (fun s => hstr (H s)) = (ltrs (wh H W)).map one := by
  unfold ltrs wh
  rw [List.map_map, List.map_map]
  refine List.map_congr_left fun s hs => ?_
  cases e : H s with
  | none => exact absurd e (h s hs)
  | some g => show _ = one (97 + (H s).getD 0); rw [e]; rfl
theorem KV.key {sj gj : Nat} {k : Int} {x : Value} : ∀ {j : Nat} {W : List (Nat × Nat)} {kvs : List (Int × Value)}, KV W kvs → W[j]? = some (sj, gj) → kvs[j]? = some (k, x) → k = (sj : Int)
  | _, _, _, .nil, h, _ => by simp at h
  | 0, _, _, .cons s g t _, h1, h2 => by
    simp at h1 h2
    rw [← h2.1, h1.1]
  | j + 1, _, _, .cons s g t h, h1, h2 => h.key (j := j) (by simpa using h1) (by simpa using h2)
section
variable {w : World} {g : Heap} {A : Around} {s : Shared} {L : Addr} {m : Str → Option Value} {l : Lgr} {E : Value → Shared → Prop} {Q : Value → Shared → Prop} {t u : Tok}
theorem joinO {a : Addr} {its : List Value} {n i : Nat} {cs : List Nat} (D : Led g L m s.heap l) (hi : l[i]? = some (a, listOf its.toArray n)) (hs : StrsAre its (cs.map one)) (hz : cs.length ≤ 1000000)
    (h : ∀ t' k, Q (.str (strOf cs) t') { s with toks := k }) : wpAny (model Pg w) A (call (.builtin "str.join") [.str (Str.ofString "") t, .ref a]) Q E s := by
  refine joinL D hi hs ?_ fun t' k => by rw [join_ones]; exact h t' k
  rw [List.map_map, List.length_map, show (Str.length ∘ one) = (fun _ => 1) from rfl, List.map_const', List.sum_replicate_nat, len_nil]
  omega
theorem addOS {c : Nat} {cs : List Nat} (hz : cs.length ≤ 100000) (h : ∀ t' k, Q (.str (strOf (c :: cs)) t') { s with toks := k }) : wpAny (model Pg w) A (binaryOp .Add (.str (one c) t) (.str (strOf cs) u)) Q E s :=
  addS (by rw [len_strOf, len_one]; omega) fun t' k => by rw [app_one_str]; exact h t' k
theorem addSS {a b : List Nat} (hz : a.length + b.length ≤ 100000) (h : ∀ t' k, Q (.str (strOf (a ++ b)) t') { s with toks := k }) : wpAny (model Pg w) A (binaryOp .Add (.str (strOf a) t) (.str (strOf b) u)) Q E s :=
  addS (by rw [len_strOf, len_strOf]; omega) fun t' k => by rw [app_str]; exact h t' k
theorem iaddSS {a b : List Nat} (hz : a.length + b.length ≤ 100000) (h : ∀ t' k, Q (.str (strOf (a ++ b)) t') { s with toks := k }) : wpAny (model Pg w) A (inplaceOp .Add (.str (strOf a) t) (.str (strOf b) u)) Q E s :=
  iaddS (by rw [len_strOf, len_strOf]; omega) fun t' k => by rw [app_str]; exact h t' k
end
theorem ltrs_app (a b : List Nat) : ltrs a ++ ltrs b = ltrs (a ++ b) := by simp [ltrs]
theorem take_map_snoc {α β : Type} {f : α → β} {l : List α} {j : Nat} {x : α} (h : l[j]? = some x) : (l.take (j + 1)).map f = (l.take j).map f ++ [f x] := by
  rw [List.take_add_one, h]; simp
theorem abcd_item {j : Nat} (hj : j < 4) : Txt.item (Str.ofString "abcd") (j : Int) = one (97 + j) := by
  rw [show Str.ofString "abcd" = strOf [97, 98, 99, 100] by decide +kernel]
  refine item_strOf (by omega) ?_
  rcases four hj with rfl | rfl | rfl | rfl <;> rfl
theorem brought_no (B : List Nat) (k : Nat) {b : Bool} (h : decide (k ∈ B) = b) : (Builtin.Str.occurrences (strOf (ltrs B)) (one (97 + k)) 0 (strOf (ltrs B)).length 1).isEmpty = !b := by
  have e : (!(Builtin.Str.occurrences (strOf (ltrs B)) (one (97 + k)) 0 (strOf (ltrs B)).length 1).isEmpty) = decide (k ∈ B) := brought_in B k
  rw [h] at e
  rw [← e, Bool.not_not]
-- C10
theorem sp_count {w : World} {g : Heap} (G : Gd w g) {c0 c1 : Nat} {M : Nat → Nat → Bool} {Hd : Nat → Option Nat} (m : Mat M Hd) {ca ha : Addr} {ic ih : List Value} {nc nh : Nat} {t : Tok} (hc : ColsAre c0 c1 M ic) (hh : HoldsAre Hd ih) :
    FSpec w g (.ref 238) [.ref ca, .str (one c1) t, .ref ha] 3 [(ca, listOf ic.toArray nc), (ha, listOf ih.toArray nh)] (fun v l => (∃ t, v = .int (num 4 (sits Hd) : Nat) t) ∧ l = [(ca, listOf ic.toArray nc), (ha, listOf ih.toArray nh)]) := by
  refine .of fun A s z Q E ar H ret => ?_
  refine' enterC (binds := [((Str.ofString "columns"), .ref ca), ((Str.ofString "one"), .str (one c1) t), ((Str.ofString "holders"), .ref ha)]) (bl := []) (cs := fun L => [(L + 1 + 1 + 1, some (.ref ha)), (L + 1 + 1, some (.str (one c1) t)), (L + 1, some (.ref ca))]) G H ar ?k1 ?k2 ?k3 ?k4 ?k5 ?k6 ?k7 ?k8 ?kb ?kc ?_
  case k1 => k_is
  case k2 => k_is
  case k3 => first | exact BindsTo.of_eq rfl | exact binds_K (G.X.keeps H.keep) rfl (by k_is) rfl rfl rfl
  case k4 => exact rfl
  case k5 => decide +kernel
  case k6 => exact rfl
  case k7 => exact rfl
  case k8 => exact rfl
  case kb => intro _; kernel_rfl!
  case kc => intro _; kernel_rfl!
  intro L A' h₁ tk cells ar' D Y
  obtain ⟨o1, _, rfl, d1, o2, _, rfl, d2, o3, _, rfl, d3, rfl⟩ := Y
  dsimp only [List.cons_append, List.nil_append] at D
  w_strict (walk1; k_fold)
  (try dsimp only)
  rename Led _ _ _ _ _ => D
  refine' compAs (g := g) (L := L) (cl := [((Str.ofString "holders"), L + 1 + 1 + 1)]) ?a0 ?a1 ?a2 ?a3 ?a4 ?a5 ?b0 ?b1 ?b2 ?_
  case a0 => exact rfl
  case a1 => kernel_rfl!
  case a2 => decide
  case a3 => exact rfl
  case a4 => decide
  case a5 => intro _; exact rfl
  case b0 => exact rfl
  case b1 => exact rfl
  case b2 => kernel_rfl!
  w_strict (walk1)
  (try dsimp only)
  rename Led _ _ _ _ _ => D
  refine it_str ar'.hh D fun I p s' hs D2 Y Sf => ?_
  rw [abcd_len] at Y
  refine CompAs.mk (n := 4) (l := _) (p := p) (fun i ys l => l = _ ∧ StrsAre ys (((List.range i).filter (sits Hd)).map lettr)) ?_ (by decide) (Y _ _) Sf ⟨rfl, .nil⟩ D2 ?_ ?_
  · rintro i ys l ⟨rfl, hy⟩
    refine ⟨?_, fun e he => nomatch he⟩
    rw [hy.len_eq, List.length_map]
    have := List.length_filter_le (sits Hd) (List.range i)
    rw [List.length_range] at this
    exact this
  · intro C i hi
    refine turnOf fun vv q bb ys l s2 tl hv hJ hs2 D3 => ?_
    obtain ⟨⟨cc, uu, hcc, rfl⟩, rfl⟩ := hv
    rw [show (⟨#[cc]⟩ : Str) = one cc from rfl, abcd_at hi hcc]
    obtain ⟨rfl, hys⟩ := hJ
    clear D D2
    dsimp only [List.cons_append, List.nil_append] at D3
    unfold HoldsAre at hh
    have hcn := count_hold m i
    w_strict (walk_at "mine go")
    all_goals ((try dsimp only); rename Led _ _ _ _ _ => D)
    · rename ((_ : Int) = 1) => hq
      rw [hcn] at hq
      have hsit : sits Hd i = true := by
        cases e : sits Hd i with
        | true => rfl
        | false => rw [e] at hq; exact absurd hq (by decide)
      refine ⟨_, _, ⟨rfl, ?_⟩, hs2.go _ _, D⟩
      rw [seatsList_snoc, hsit, if_pos rfl, List.map_append]
      exact StrsAre.snoc hys
    · rename (¬ ((_ : Int) = 1)) => hq
      rw [hcn] at hq
      have hsit : sits Hd i = false := by
        cases e : sits Hd i with
        | false => rfl
        | true => rw [e] at hq; exact absurd rfl hq
      refine ⟨_, _, ⟨rfl, ?_⟩, hs2.go _ _, D⟩
      rw [seatsList_snoc, hsit, if_neg (by decide), List.append_nil]
      exact hys
  · intro Dn ys kk l s6 hJ hs6 D3
    obtain ⟨rfl, hys⟩ := hJ
    clear D D2
    (try dsimp only [List.cons_append, List.nil_append] at D3 ⊢)
    w_strict (dsimp only [qk]; clear qk; (try clear ek); walk1; k_fold; (iterate 5 walk1))
    (try dsimp only)
    rename Led _ _ _ _ _ => D
    refine' compE (g := g) (cl := [((Str.ofString "one"), L + 1 + 1), ((Str.ofString "holders"), L + 1 + 1 + 1), ((Str.ofString "columns"), L + 1)]) ?a1 ?a2 ?a3 ?a4 ?a5 ?_
    case a1 => kernel_rfl!
    case a2 => decide
    case a3 => exact rfl
    case a4 => decide
    case a5 => intro _; exact rfl
    w_strict (walk1)
    (try dsimp only)
    rename Led _ _ _ _ _ => D
    have hlen : ys.length = num 4 (sits Hd) := by rw [hys.len_eq, List.length_map]; rfl
    have hle : ys.length ≤ 4 := by
      have := List.length_filter_le (sits Hd) (List.range 4)
      rw [List.length_range] at this
      rw [hlen]; exact this
    refine it_list ar'.hh D (i := 0) rfl rfl fun I2 p2 s7 hs7 D4 Y2 Sf2 => ?_
    refine CompAt.mk (n := ys.length) (l := _) (p := p2) (fun i us l => l = _ ∧ us.length = i) ?_ (by omega) (Y2 _ _) Sf2 ⟨rfl, rfl⟩ D4 ?_ ?_
    · rintro i us l ⟨rfl, hy⟩
      exact ⟨by omega, fun e he => by cases he with | head => exact .head _ | tail _ h => cases h⟩
    · intro C i hi
      refine turnOf fun vv q bb us l s8 tl hv hJ hs8 D5 => ?_
      obtain ⟨hvv, rfl⟩ := hv
      obtain ⟨rfl, hus⟩ := hJ
      obtain ⟨gi, t9, rfl, hg4, hgs⟩ : ∃ gi t9, vv = .str (lettr gi) t9 ∧ gi < 4 ∧ sits Hd gi = true := by
        have h1 : i < ((List.range 4).filter (sits Hd)).length := by
          have := hys.len_eq
          rw [List.length_map] at this
          omega
        have h2 : (((List.range 4).filter (sits Hd)).map lettr)[i]? = some (lettr (((List.range 4).filter (sits Hd))[i])) := by
          rw [List.getElem?_map, List.getElem?_eq_getElem h1]; rfl
        obtain ⟨t9, h3⟩ := hys.at h2
        rw [hvv] at h3
        have h4 := mem_fr.mp (List.getElem_mem h1)
        exact ⟨_, t9, Option.some.inj h3, h4.1, h4.2⟩
      clear D D4
      dsimp only [List.cons_append, List.nil_append] at D5
      w_strict ((iterate 14 walk1))
      (try dsimp only)
      rename Led _ _ _ _ _ => D
      obtain ⟨hj1, hj2⟩ := idx_hold m hgs
      refine idxS D at5 hh (by simp) hj1 hj2 fun t10 tk10 => ?_
      w_strict (skip)
      (try dsimp only)
      rename Led _ _ _ _ _ => D
      obtain ⟨hs6', hs7'⟩ := seatOf_spec hgs
      refine itemS D at4 hc (by omega) (by omega) (by rw [Int.toNat_natCast]; exact range_at _ hs6') fun t11 => ?_
      w_strict ((iterate 8 walk1))
      (try dsimp only)
      rename Led _ _ _ _ _ => D
      have hM : M gi (seatOf Hd gi) = true := (m.edge _ _ hs7').2
      refine sItemC (n := 4) (item_strOf (by omega) (by rw [Int.toNat_natCast]; exact range_at _ hg4)) (by rw [len_strOf]; simp) (by decide) (by omega) (by omega) fun t12 tk12 => ?_
      have he : (one (sel c0 c1 (M gi (seatOf Hd gi))) == one c1) = true := by rw [hM]; exact beq_self_eq_true _
      w_strict ((iterate 5 walk1))
      (try dsimp only)
      rename Led _ _ _ _ _ => D
      refine ⟨_, _, ⟨rfl, ?_⟩, hs8.go _ _, D⟩
      rw [List.length_append, hus]; rfl
    · intro Dn2 us k2 l s8 hJ hs8 D5
      obtain ⟨rfl, hus⟩ := hJ
      clear D D4
      have hz : us.length ≤ 1000 := by omega
      w_strict ((iterate 2 walk1); dsimp only [qk]; clear qk; (try clear ek))
      (try dsimp only)
      rename Led _ _ _ _ _ => D
      have D10 := (D.pick [5, 6] 7).out
      simp only [pick, List.filterMap_cons, List.filterMap_nil, List.getElem?_cons_zero, List.getElem?_cons_succ, List.drop_succ_cons, List.drop_zero, List.cons_append, List.nil_append] at D10
      have e9 : us.toArray.size = num 4 (sits Hd) := by rw [List.size_toArray, hus, hlen]
      rw [e9]
      exact ret _ _ [_, _] (((((Sm.mk (h := h₁) (tk := tk + 1)).trans hs).trans hs6).trans hs7).trans hs8 |>.go _ _) D10 ⟨⟨_, rfl⟩, rfl⟩
-- C11
inductive ChoJ (M : Nat → Nat → Bool) (Hd : Nat → Option Nat) (c1 : Nat) (t : Tok) (ra L2 : Addr) (lr : Lgr) (i : Nat) (b : List (Str × Value)) (l : Lgr) : Prop
  | mk (B : List Nat) (oB : Obj) (tb : Tok) (h1 : Brought M Hd i B) (h2 : oB.data = .cell (some (.str (strOf (ltrs B)) tb))) (h3 : mp b (Str.ofString "one") = some (.str (one c1) t)) (h4 : mp b (Str.ofString "rows") = some (.ref ra)) (h5 : l = (L2, oB) :: lr) : ChoJ M Hd c1 t ra L2 lr i b l
theorem sp_choice {w : World} {g : Heap} (G : Gd w g) {c' : Addr} {oc : Obj} (hco : CodeOk oc) {c0 c1 : Nat} (h01 : c0 ≠ c1) (hc0 : c0 < 128) (hc1 : c1 < 128) {M : Nat → Nat → Bool} {Hd : Nat → Option Nat} (hgood : Good M 4 Hd)
    {ra ha : Addr} {ir ih : List Value} {nr nh : Nat} {t : Tok} (hr : RowsAre c0 c1 M ir) (hh : HoldsAre Hd ih) :
    FSpec w g (.ref 243) [.ref ra, .str (one c1) t, .ref ha] 10 [(ra, listOf ir.toArray nr), (ha, listOf ih.toArray nh), (166, tabObj #[rawInt 221, rawInt 4, .ref c']), (c', oc)]
      (fun v l' => (∃ B t, Brought M Hd 4 B ∧ v = .int (mask (fun k => decide (k ∈ B)) 4).sum t) ∧ l' = [(ra, listOf ir.toArray nr), (ha, listOf ih.toArray nh), (166, tabObj #[rawInt 221, rawInt 4, .ref c']), (c', oc)]) := by
  refine .of fun A s z Q E ar H ret => ?_
  refine' enterC (binds := [((Str.ofString "rows"), .ref ra), ((Str.ofString "one"), .str (one c1) t), ((Str.ofString "holders"), .ref ha)]) (bl := [((Str.ofString "one"), .str (one c1) t), ((Str.ofString "rows"), .ref ra)]) (cs := fun L => [(L + 1 + 1, none), (L + 1, some (.ref ha))]) G H ar ?k1 ?k2 ?k3 ?k4 ?k5 ?k6 ?k7 ?k8 ?kb ?kc ?_
  case k1 => k_is
  case k2 => k_is
  case k3 => first | exact BindsTo.of_eq rfl | exact binds_K (G.X.keeps H.keep) rfl (by k_is) rfl rfl rfl
  case k4 => exact rfl
  case k5 => decide +kernel
  case k6 => exact rfl
  case k7 => exact rfl
  case k8 => exact rfl
  case kb => intro _; kernel_rfl!
  case kc => intro _; kernel_rfl!
  intro L A' h₁ tk cells ar' D Y
  obtain ⟨o1, _, rfl, d1, o2, _, rfl, d2, rfl⟩ := Y
  dsimp only [List.cons_append, List.nil_append] at D
  w_strict (walk1; k_fold; (iterate 3 walk1); dsimp only [qk]; clear qk; (try clear ek); walk1; k_fold; (iterate 2 walk1))
  (try dsimp only)
  rename Led _ _ _ _ _ => D
  rename Obj.data _ = Data.cell (some (Value.str _ _)) => hoB
  rename Obj => oB
  refine it_str ar'.hh D fun I p s' hs D2 Y Sf => ?_
  rw [abcd_len] at Y
  rw [str_nil] at hoB
  refine forF (n := 4) (L := L) (s₀ := s) (b := [((Str.ofString "one"), .str (one c1) t), ((Str.ofString "rows"), .ref ra)]) (ChoJ M Hd c1 t ra (L + 1 + 1) ((L + 1, o2) :: (ra, listOf ir.toArray nr) :: (ha, listOf ih.toArray nh) :: (166, tabObj #[rawInt 221, rawInt 4, .ref c']) :: (c', oc) :: z)) (fun i b l _ e he => by cases he) ?_ ?_ (Y _ _) ⟨[], oB, _, Brought.zero, hoB, rfl, rfl, rfl⟩ ((Sm.mk (h := h₁) (tk := tk)).go _ _ |>.trans hs) D2
  · rintro i v q b l s2 tt hi hv ⟨B, oB2, tb, hbr, hoB2, hb1, hb2, rfl⟩ hs2 D4
    obtain ⟨⟨cc, uu, hcc, rfl⟩, rfl⟩ := hv
    rw [show (⟨#[cc]⟩ : Str) = one cc from rfl, abcd_at hi hcc]
    clear D D2 Y Sf
    dsimp only [List.cons_append, List.nil_append] at D4
    have hany := any_hold hgood.mat i
    unfold HoldsAre at hh
    cases hsit : sits Hd i with
    | true =>
      rw [hsit] at hany
      w_strict ((iterate 3 walk1); k_fold; (iterate 8 walk1); dsimp only [qk]; clear qk; (try clear ek); walk1)
      (try dsimp only)
      rename Led _ _ _ _ _ => D
      exact ⟨((Str.ofString "start"), .str (lettr i) uu) :: b, _, ⟨B, oB2, tb, hbr.skip ((sits_iff hgood.mat).mp hsit), hoB2, hb1, hb2, rfl⟩, hs2.go _ _, D⟩
    | false =>
      rw [hsit] at hany
      w_strict ((iterate 3 walk1); k_fold; (iterate 8 walk1); k_fold; (iterate 15 walk1))
      (try dsimp only)
      rename Led _ _ _ _ _ => D
      have hns : ¬ seated Hd i := fun e => by rw [(sits_iff hgood.mat).mpr e] at hsit; cases hsit
      refine' useAt (z := z ++ tt) 2 (sp_search G hco h01 hc0 hc1 hi (fun s g h => (hgood.mat.edge s g h).1) hr hh) ?uD ?up ar' ?uk ?_
      case uD => exact D
      case up => exact rfl
      case uk => omega
      intro v' h' tk' l' D5 hv'
      obtain ⟨T, d, oT, o, W, kvs, rfl, hKV, hDK, rfl, hfound⟩ := hv'
      simp only [List.take_succ_cons, List.take_zero, List.cons_append, List.nil_append] at D5
      clear D
      obtain ⟨hS, rfl⟩ : Shut M Hd i W ∧ oT = tupOf #[.none, .ref d] 0 := by
        rcases hfound with ⟨seat, t0, hF, _⟩ | h
        · rcases hgood.all i hi with a | ⟨R, hR, hg⟩
          · exact absurd a hns
          · exact (Found.no hR hg hF).elim
        · exact h
      have hW6 : W.length ≤ 6 := by
        have := nodup_le 6 (seats W) hS.nd hS.ord.lt
        simpa [seats] using this
      w_strict (walk1)
      (try dsimp only)
      rename Led _ _ _ _ _ => D
      refine itemT (vs := [.none, .ref d]) D at2 (by decide) (by decide) rfl rfl ?_
      w_strict (walk1; dsimp only [qk]; clear qk; (try clear ek); walk1; k_fold; (iterate 9 walk1))
      (try dsimp only)
      rename Led _ _ _ _ _ => D
      refine' compE (g := g) (cl := [((Str.ofString "holders"), L + 1)]) ?a1 ?a2 ?a3 ?a4 ?a5 ?_
      case a1 => kernel_rfl!
      case a2 => decide
      case a3 => exact rfl
      case a4 => decide
      case a5 => intro _; exact rfl
      w_strict (walk1)
      (try dsimp only)
      rename Led _ _ _ _ _ => D
      refine it_dict ar'.hh D at3 hDK fun I2 p2 s7 hs7 D6 Y2 Sf2 => ?_
      rw [hKV.len] at Y2
      refine CompAt.mk (n := W.length) (l := _) (p := p2) (fun j us l => l = _ ∧ StrsAre us (((seats W).take j).map fun s => hstr (Hd s))) ?_ (by omega) (Y2 _ _) Sf2 ⟨rfl, .nil⟩ D6 ?_ ?_
      · rintro j us l ⟨rfl, hy⟩
        refine ⟨?_, fun e he => ?_⟩
        · rw [hy.len_eq, List.length_map]; exact List.length_take_le _ _
        · rw [List.mem_singleton.mp he]; simp
      · intro C j hj
        refine turnOf fun vv q bb us l s8 tl hv hJ hs8 D7 => ?_
        obtain ⟨⟨k9, x9, hk9, hk8⟩, rfl⟩ := hv
        obtain ⟨rfl, hus⟩ := hJ
        obtain ⟨t9, rfl⟩ := isInt_int hk8
        obtain ⟨sj, gj, hwj⟩ : ∃ sj gj, W[j]? = some (sj, gj) := ⟨_, _, List.getElem?_eq_getElem hj⟩
        have hk7 : k9 = (sj : Int) := hKV.key hwj hk9
        subst hk7
        have sj6 := (hS.ord j sj gj hwj).1
        clear D D6
        dsimp only [List.cons_append, List.nil_append] at D7
        w_strict ((iterate 7 walk1))
        (try dsimp only)
        rename Led _ _ _ _ _ => D
        refine itemS D at5 hh (by omega) (by omega) (by rw [Int.toNat_natCast]; exact range_at _ sj6) fun t10 => ?_
        refine ⟨_, _, ⟨rfl, ?_⟩, hs8.go _ _, D⟩
        rw [take_map_snoc (x := sj) (seats_at hwj)]
        exact StrsAre.snoc hus
      · intro Dn us kk l s8 hJ hs8 D7
        obtain ⟨rfl, hus⟩ := hJ
        rw [show W.length = (seats W).length by simp [seats], List.take_length, wh_strs hS.held] at hus
        clear D D6
        have hwl : (ltrs (wh Hd W)).length ≤ 6 := by simp [ltrs, wh, seats]; exact hW6
        have hbl : (ltrs B).length ≤ 28 := by have := hbr.len; simp only [ltrs, List.length_map]; omega
        w_strict (walk1)
        (try dsimp only)
        rename Led _ _ _ _ _ => D
        refine joinO D at0 hus (by omega) fun t11 k11 => ?_
        refine addOS (c := 97 + i) (by omega) fun t12 k12 => ?_
        w_strict ((iterate 2 walk1); dsimp only [qk]; clear qk; (try clear ek); walk1; dsimp only [qk]; clear qk; (try clear ek); walk1)
        (try dsimp only)
        rename Led _ _ _ _ _ => D
        rename Obj.data _ = Data.cell (some (Value.str (strOf (ltrs B) ++ strOf _) _)) => hoB3
        rename Obj => oB3
        rw [app_str, show (97 + i) :: ltrs (wh Hd W) = ltrs (i :: wh Hd W) from rfl, ltrs_app] at hoB3
        have D8 := D.pick [1, 2, 5, 6, 7, 8] 9
        simp only [pick, List.filterMap_cons, List.filterMap_nil, List.getElem?_cons_zero, List.getElem?_cons_succ, List.drop_succ_cons, List.drop_zero, List.cons_append, List.nil_append] at D8
        exact ⟨((Str.ofString "ways"), .ref d) :: ((Str.ofString "start"), .str (lettr i) uu) :: b, _, ⟨B ++ (i :: wh Hd W), oB3, _, hbr.add hgood.mat hi hS, hoB3, hb1, hb2, rfl⟩, ((hs2.go _ _).trans hs7).trans hs8 |>.go _ _, D8⟩
  · rintro b l s2 tt ⟨B, oB2, tb, hbr, hoB2, hb1, hb2, rfl⟩ hs2 D4
    clear D D2 Y Sf
    dsimp only [List.cons_append, List.nil_append] at D4 ⊢
    w_strict (dsimp only [qk]; clear qk; (try clear ek); walk1; k_fold; (iterate 5 walk1))
    (try dsimp only)
    rename Led _ _ _ _ _ => D
    refine' compE (g := g) (cl := [((Str.ofString "brought"), L + 1 + 1)]) ?a1 ?a2 ?a3 ?a4 ?a5 ?_
    case a1 => kernel_rfl!
    case a2 => decide
    case a3 => exact rfl
    case a4 => decide
    case a5 => intro _; exact rfl
    w_strict ((iterate 7 walk1))
    (try dsimp only)
    rename Led _ _ _ _ _ => D
    refine it_range (n := 4) ar'.hh D at0 (by decide) (by decide) fun I2 p2 s7 hs7 D6 Y2 Sf2 => ?_
    refine CompAt.mk (n := 4) (l := _) (p := p2) (fun j us l => l = _ ∧ IntsAre us (mask (fun k => decide (k ∈ B)) j)) ?_ (by decide) (Y2 _ _) Sf2 ⟨rfl, .nil⟩ D6 ?_ ?_
    · rintro j us l ⟨rfl, hy⟩
      refine ⟨?_, fun e he => nomatch he⟩
      have h1 := hy.length
      have h2 := List.length_filter_le (fun k => decide (k ∈ B)) (List.range j)
      rw [List.length_range] at h2
      rw [mask, List.length_map] at h1
      omega
    · intro C j hj
      refine turnOf fun vv q bb us l s8 tl hv hJ hs8 D7 => ?_
      obtain ⟨⟨t8, rfl⟩, rfl⟩ := hv
      obtain ⟨rfl, hus⟩ := hJ
      rw [show (0 + (j : Int) * 1) = (j : Int) by omega]
      clear D D6
      dsimp only [List.cons_append, List.nil_append] at D7
      w_strict ((iterate 7 walk1))
      (try dsimp only)
      rename Led _ _ _ _ _ => D
      refine sItemC (n := 4) (c := 97 + j) (abcd_item hj) (by decide +kernel) (by decide) (by omega) (by omega) fun t12 tk12 => ?_
      have hmk : mask (fun k => decide (k ∈ B)) (j + 1) = mask (fun k => decide (k ∈ B)) j ++ (if decide (j ∈ B) = true then [(2 : Int) ^ j] else []) := by
        unfold mask
        rw [seatsList_snoc (p := fun k => decide (k ∈ B)) j]
        cases decide (j ∈ B) <;> simp
      cases hq : decide (j ∈ B) with
      | true =>
        have hoc : (Builtin.Str.occurrences (strOf (ltrs B)) (one (97 + j)) 0 (strOf (ltrs B)).length 1).isEmpty = false := brought_no B j hq
        rw [hq, if_pos rfl] at hmk
        w_strict ((iterate 8 walk1))
        (try dsimp only)
        rename Led _ _ _ _ _ => D
        refine ⟨_, _, ⟨rfl, ?_⟩, hs8.go _ _, D⟩
        rw [hmk]
        exact intsAre_append hus (.cons _ _ .nil)
      | false =>
        have hoc : (Builtin.Str.occurrences (strOf (ltrs B)) (one (97 + j)) 0 (strOf (ltrs B)).length 1).isEmpty = true := brought_no B j hq
        rw [hq, if_neg (by decide), List.append_nil] at hmk
        w_strict ((iterate 4 walk1))
        (try dsimp only)
        rename Led _ _ _ _ _ => D
        refine ⟨_, _, ⟨rfl, ?_⟩, hs8.go _ _, D⟩
        rw [hmk]
        exact hus
    · intro Dn us kk l s8 hJ hs8 D7
      obtain ⟨rfl, hus⟩ := hJ
      clear D D6
      w_strict ((iterate 2 walk1); dsimp only [qk]; clear qk; (try clear ek))
      (try dsimp only)
      rename Led _ _ _ _ _ => D
      have D9 := (D.pick [4, 5, 6, 7] 8).out
      simp only [pick, List.filterMap_cons, List.filterMap_nil, List.getElem?_cons_zero, List.getElem?_cons_succ, List.drop_succ_cons, List.drop_zero, List.cons_append, List.nil_append] at D9
      exact ret _ _ [_, _, _, _] (((hs2.go _ _).trans hs7).trans hs8 |>.go _ _) (Hp.cutT (l0 := [_, _, _, _]) D9) ⟨⟨B, _, hbr, rfl⟩, rfl⟩
-- B1
section
open Builtin
open Builtin._codecs in
theorem find_ascii {b : Array UInt8} {p : Nat} (h : (b.getD p 0).toNat < 128) : asciiDecoder.find true b p = .text [(b.getD p 0).toNat] (p + 1) := by
  show (if (b.getD p 0).toNat < 128 then Found.char (b.getD p 0).toNat (p + 1) else _) = _
  rw [if_pos h]; rfl
theorem turns {α β : Type} {F : Nat → β → Sem (ForInStep β)} {K : β → Sem α} {r : Sem α} (S : Nat → β) (n : Nat) (h : ∀ i, i < n → F i (S i) = pure (.yield (S (i + 1)))) (hK : K (S n) = r) : (forIn [: n] (S 0) F >>= K) = r := by
  have key : ∀ m k, k + m = n → forIn (List.range' k m) (S k) F = (pure (S n) : Sem β) := by
    intro m
    induction m with
    | zero => intro k hk; rw [Nat.add_zero] at hk; subst hk; rfl
    | succ m ih =>
      intro k hk
      rw [List.range'_succ, List.forIn_cons, h k (by rw [← hk]; exact Nat.lt_add_of_pos_right (Nat.succ_pos m)), pure_bind]
      exact ih (k + 1) (by rw [← hk, Nat.add_assoc, Nat.add_comm 1 m])
  rw [Std.Legacy.Range.forIn_eq_forIn_range']
  show (forIn (List.range' 0 ([: n] : Std.Legacy.Range).size 1) (S 0) F >>= K) = r
  rw [show ([: n] : Std.Legacy.Range).size = n by simp [Std.Legacy.Range.size], key n 0 (Nat.zero_add n), pure_bind, hK]
open Builtin._codecs in
theorem dec_run {id : String} {b : Array UInt8} (ha : ∀ i, i < b.size → (b.getD i 0).toNat < 128) (hz : b.size ≤ 1000) : runDecoder id asciiDecoder none true b 0 [] = pure (((b.toList.map (·.toNat))).toArray, b.size) := by
  delta runDecoder
  have hs : sizeLine = 16777216 := sizeLine_eq
  refine turns (S := fun i => (i, (((b.toList.take i).map (·.toNat))).toArray, ({} : Faults))) b.size (fun i hi => ?_) ?_
  · dsimp only
    have h1 : ¬ ((b.toList.take i).map (·.toNat)).toArray.size > sizeLine := by
      rw [hs, List.size_toArray, List.length_map, List.length_take]
      exact Nat.not_lt.mpr (Nat.le_trans (Nat.min_le_left _ _) (Nat.le_trans (Nat.le_of_lt hi) (Nat.le_trans hz (by decide))))
    have e : ((b.toList.take i).map (·.toNat)).toArray ++ [(b.getD i 0).toNat].toArray = ((b.toList.take (i + 1)).map (·.toNat)).toArray := by
      have hg : b.toList[i]? = some (b.getD i 0) := by
        rw [Array.getElem?_toList, Array.getElem?_eq_getElem hi, Array.getD_eq_getD_getElem?, Array.getElem?_eq_getElem hi]; rfl
      rw [List.take_add_one, hg]
      simp
    rw [if_neg h1, if_neg (Nat.not_le.mpr hi), find_ascii (ha i hi)]
    dsimp only
    rw [e]
  · rw [show b.toList.take b.size = b.toList from List.take_of_length_le (Nat.le_of_eq Array.length_toList)]
open Builtin._codecs in
theorem dec4 {id : String} {a b c d : UInt8} (ha : a.toNat < 128) (hb : b.toNat < 128) (hc : c.toNat < 128) (hd : d.toNat < 128) : runDecoder id asciiDecoder none true #[a, b, c, d] 0 [] = pure (#[a.toNat, b.toNat, c.toNat, d.toNat], 4) :=
  dec_run (b := #[a, b, c, d]) (AllN.get (P := fun i => ((#[a, b, c, d] : Array UInt8).getD i 0).toNat < 128) (n := 4) ⟨⟨⟨⟨trivial, ha⟩, hb⟩, hc⟩, hd⟩) (by decide : 4 ≤ 1000)
noncomputable def hexStr (a b c : UInt8) : Str := ⟨#[Bytes.hexDigit (a.toNat / 16), Bytes.hexDigit (a.toNat % 16), Bytes.hexDigit (b.toNat / 16), Bytes.hexDigit (b.toNat % 16), Bytes.hexDigit (c.toNat / 16), Bytes.hexDigit (c.toNat % 16)]⟩
theorem hexE {a b c : UInt8} {t : Tok} : «bytes.hex» ⟨[.bytes #[a, b, c] t], []⟩ = (mkStr (hexStr a b c) >>= fun v => ret v) := by kernel_rfl
theorem upperE {b : Array UInt8} {t : Tok} : «bytes.upper» ⟨[.bytes b t], []⟩ = (mkBytes (b.toList.map Bytes.toUpper).toArray >>= fun v => ret v) := by kernel_rfl
open Builtin._codecs in
theorem dec6 {id : String} {a b c d e f : UInt8} (ha : a.toNat < 128) (hb : b.toNat < 128) (hc : c.toNat < 128) (hd : d.toNat < 128) (he : e.toNat < 128) (hf : f.toNat < 128) :
    runDecoder id asciiDecoder none true #[a, b, c, d, e, f] 0 [] = pure (#[a.toNat, b.toNat, c.toNat, d.toNat, e.toNat, f.toNat], 6) :=
  dec_run (b := #[a, b, c, d, e, f]) (AllN.get (P := fun i => ((#[a, b, c, d, e, f] : Array UInt8).getD i 0).toNat < 128) (n := 6) ⟨⟨⟨⟨⟨⟨trivial, ha⟩, hb⟩, hc⟩, hd⟩, he⟩, hf⟩) (by decide : 6 ≤ 1000)
theorem decE {t u : Tok} {c : UInt8} {cs : List UInt8} : «bytes.decode» ⟨[.bytes (c :: cs).toArray t, .str (Str.ofString "ascii") u], []⟩ = (mkStr (PySem.Str.ofString "utf-8") >>= fun _ => mkStr (PySem.Str.ofString "ascii") >>= fun e => mkStr (PySem.Str.ofString "bytes.decode") >>= fun d =>
    call (.builtin "_codecs.decode.text") [.bytes (c :: cs).toArray t, e, .none, d] >>= fun v => ret v) := by kernel_rfl
theorem roadE {id : String} {b : Array UInt8} : _codecs.decodeRoad id b (PySem.Str.ofString "ascii") none [] = (_codecs.runDecoder id _codecs.asciiDecoder none true b 0 [] >>= fun r => mkStr ⟨r.1⟩) := by kernel_rfl
theorem encE {x : Str} {t u : Tok} : «str.encode» ⟨[.str x t, .str (Str.ofString "ascii") u], []⟩ = ((_codecs.encodeNarrow "str.encode" _codecs.asciiCodec none (.str x t) x >>= fun b => mkBytes b) >>= fun v => ret v) := by kernel_rfl
theorem two_turns {α β : Type} {F : Nat → β → Sem (ForInStep β)} {s0 s1 : β} {K : β → Sem α} {r : Sem α} (n : Nat) (h0 : F 0 s0 = pure (.yield s1)) (h1 : F 1 s1 = pure (.done s1)) (hK : K s1 = r) : (forIn [: n + 2] s0 F >>= K) = r := by
  rw [Std.Legacy.Range.forIn_eq_forIn_range']
  have e : List.range' (0 : Nat) (([: n + 2] : Std.Legacy.Range).size) 1 = 0 :: 1 :: List.range' 2 n 1 := by
    rw [show ([: n + 2] : Std.Legacy.Range).size = n + 2 by simp [Std.Legacy.Range.size]]; rfl
  show (forIn (List.range' 0 ([: n + 2] : Std.Legacy.Range).size 1) s0 F >>= K) = r
  rw [e, List.forIn_cons, h0, pure_bind]
  show (forIn (1 :: List.range' 2 n 1) s1 F >>= K) = r
  rw [List.forIn_cons, h1, pure_bind]
  show (pure s1 >>= K) = r
  rw [pure_bind, hK]
open Builtin._codecs in
theorem enc_clean {id : String} {c : TextCodec} {v : Value} {x : Str} {y n : Nat} (hl : x.length = n + 2) (hy : x.cps[0]? = some y) (hb : c.bad y = false) (ha : x.cps.findIdx? c.bad = none)
    (hz : (x.cps.foldl (fun acc y => acc ++ (c.bytesOf y).toArray) #[]).size ≤ sizeLine) :
    encodeNarrow id c none v x = pure (x.cps.foldl (fun acc y => acc ++ (c.bytesOf y).toArray) #[]) := by
  delta encodeNarrow
  rw [hl]
  have hs : sizeLine = 16777216 := sizeLine_eq
  have e1 : x.cps.extract 0 = x.cps := Array.extract_size
  refine two_turns (s1 := (x.cps.size, x.cps.foldl (fun acc y => acc ++ (c.bytesOf y).toArray) #[], {})) n ?_ ?_ rfl
  · dsimp only
    rw [if_neg (by rw [hs]; decide)]
    simp only [hy, hb, e1, ha, Bool.not_false, if_true, Option.getD_none, Nat.zero_add]
  · dsimp only
    rw [if_neg (Nat.not_lt.mpr hz), Array.getElem?_eq_none (Nat.le_refl _)]
open Builtin._codecs in
theorem enc6 {id : String} {v : Value} {a b c d e f : Nat} (ha : a < 128) (hb : b < 128) (hc : c < 128) (hd : d < 128) (he : e < 128) (hf : f < 128) :
    encodeNarrow id asciiCodec none v ⟨#[a, b, c, d, e, f]⟩ = pure #[a.toUInt8, b.toUInt8, c.toUInt8, d.toUInt8, e.toUInt8, f.toUInt8] := by
  have k : ∀ {n : Nat}, n < 128 → asciiCodec.bad n = false := fun h => decide_eq_false (Nat.not_le.mpr h)
  refine enc_clean (n := 4) rfl rfl (k ha) ?_ ?_
  · show Array.findIdx? asciiCodec.bad #[a, b, c, d, e, f] = none
    rw [Array.findIdx?_eq_none_iff]
    intro x hx
    simp only [List.mem_toArray, List.mem_cons, List.not_mem_nil, or_false] at hx
    rcases hx with rfl | rfl | rfl | rfl | rfl | rfl <;> exact k (by assumption)
  · rw [sizeLine_eq]; show 6 ≤ 16777216; decide
theorem slot_upper : Slot "bytes" "upper" "bytes.upper" :=
  .of (owner := "bytes") (n := "upper") (by rw [typeLookup_type, builtinLookup_eq_fast]; kernel_rfl) (by decide +kernel) (by decide +kernel) (by decide +kernel)
    (by first | exact .inl (by decide +kernel) | exact .inr (by decide +kernel)) (by rw [isSubtype_type]; kernel_rfl)
theorem type_upper : typeOf (.builtin "bytes.upper") = pure (.type "method_descriptor") := by show builtinType _ = _; rw [builtinType_eq_fast]; kernel_rfl
theorem entry_upper : entryFor table "bytes.upper" = some Builtin.«bytes.upper» := entryFor_of_tree (by kernel_rfl)
theorem args_upper (a : Value) : argsOk "bytes.upper" ⟨[a], []⟩ := by
  unfold argsOk; rw [signature?_of (id := "bytes.upper") (n := ['r', 'e', 'p', 'p', 'u']) (o := ['s', 'e', 't', 'y', 'b']) (by kernel_rfl) FB.owner_bytes]; kernel_rfl
theorem args_decode2 (a b : Value) : argsOk "bytes.decode" ⟨[a, b], []⟩ := by
  unfold argsOk; rw [signature?_of (id := "bytes.decode") (n := ['e', 'd', 'o', 'c', 'e', 'd']) (o := ['s', 'e', 't', 'y', 'b']) (by kernel_rfl) FB.owner_bytes]; kernel_rfl
section
variable {w : World} {A : Around} {s : Shared} {E : Value → Shared → Prop} {Q : Value → Shared → Prop} {t u : Tok}
theorem hexW {a b c : UInt8} (h : ∀ t' k, Q (.str (hexStr a b c) t') { s with toks := k }) : wpAny (model Pg w) A (call (.builtin "bytes.hex") [.bytes #[a, b, c] t]) Q E s := by
  refine call_meets FB.slot_bytes_hex (typeIs_bytes _ _ _) FB.entry_bytes_hex (FB.args_bytes_hex_1 _) (S := fun _ R s => ∀ t' k, R (.ok (.ret (.str (hexStr a b c) t'))) { s with toks := k }) (.of_wp fun prog w A R s h => ?_) h
  rw [hexE]
  exact wpAny_bind (wpAny_mkStr (wpAny_pure ⟨_, rfl, h _ _⟩) (by rw [sizeLine_eq]; show 6 ≤ _; decide))
theorem upperW {b : Array UInt8} (hz : b.size ≤ 1000) (h : ∀ t' k, Q (.bytes (b.toList.map Bytes.toUpper).toArray t') { s with toks := k }) : wpAny (model Pg w) A (call (.builtin "bytes.upper") [.bytes b t]) Q E s := by
  refine call_meets slot_upper (typeIs_bytes _ _ _) entry_upper (args_upper _) (S := fun _ R s => ∀ t' k, R (.ok (.ret (.bytes (b.toList.map Bytes.toUpper).toArray t'))) { s with toks := k }) (.of_wp fun prog w A R s h => ?_) h
  rw [upperE]
  exact wpAny_bind (wpAny_mkBytes (wpAny_pure ⟨_, rfl, h _ _⟩) (by rw [sizeLine_eq]; simp; omega))
theorem encW {a b c d e f : Nat} (ha : a < 128) (hb : b < 128) (hc : c < 128) (hd : d < 128) (he : e < 128) (hf : f < 128)
    (h : ∀ t' k, Q (.bytes #[a.toUInt8, b.toUInt8, c.toUInt8, d.toUInt8, e.toUInt8, f.toUInt8] t') { s with toks := k }) : wpAny (model Pg w) A (call (.builtin "str.encode") [.str ⟨#[a, b, c, d, e, f]⟩ t, .str (Str.ofString "ascii") u]) Q E s := by
  refine call_meets PySem.F.slot_str_encode (typeIs_str _ _ _) PySem.F.entry_str_encode (PySem.F.args_str_encode_2 _ _) (S := fun _ R s => ∀ t' k, R (.ok (.ret (.bytes #[a.toUInt8, b.toUInt8, c.toUInt8, d.toUInt8, e.toUInt8, f.toUInt8] t'))) { s with toks := k }) (.of_wp fun prog w A R s h => ?_) h
  rw [encE, enc6 ha hb hc hd he hf]
  exact wpAny_bind (wpAny_bind (wpAny_pure (wpAny_mkBytes (wpAny_pure ⟨_, rfl, h _ _⟩) (by rw [sizeLine_eq]; show 6 ≤ _; decide))))
theorem meets_dtext {b : Array UInt8} {x : Str} {n : Nat} {t1 t2 : Tok} {d : PySem.Str} (hd : ∀ id, _codecs.runDecoder id _codecs.asciiDecoder none true b 0 [] = pure (x.cps, n)) :
    Meets («_codecs.decode.text» ⟨[.bytes b t, .str (PySem.Str.ofString "ascii") t1, .none, .str d t2], []⟩) (fun _ R s => x.length ≤ sizeLine ∧ R (.ok (.ret (.str x s.toks))) { s with toks := s.toks + 1 }) := by
  refine .of_wp fun prog w A R s hS => ?_
  obtain ⟨hsz, h⟩ := hS
  show wpAny _ _ (Bytes.bytesLike _ (.bytes b t) >>= fun r => _) _ _ s
  refine wpAny_bind (wpAny_of_eq KBd.like_eq ?_)
  refine wpAny_bind (wpAny_of_eq KBd.held_eq ?_)
  show wpAny _ _ (_codecs.decodeRoad _ b (PySem.Str.ofString "ascii") none [] >>= fun v => _) _ _ s
  rw [roadE, hd]
  refine wpAny_bind (wpAny_bind (wpAny_pure ?_))
  exact wpAny_mkStr (wpAny_pure ⟨_, rfl, h⟩) hsz
theorem decW {c : UInt8} {cs : List UInt8} {x : Str} {n : Nat} (hd : ∀ id, _codecs.runDecoder id _codecs.asciiDecoder none true (c :: cs).toArray 0 [] = pure (x.cps, n)) (hz : x.length ≤ 1000)
    (h : ∀ t' k, Q (.str x t') { s with toks := k }) : wpAny (model Pg w) A (call (.builtin "bytes.decode") [.bytes (c :: cs).toArray t, .str (Str.ofString "ascii") u]) Q E s := by
  refine call_meets FB.slot_bytes_decode (typeIs_bytes _ (c :: cs).toArray t) FB.entry_bytes_decode (args_decode2 (.bytes (c :: cs).toArray t) _) (S := fun _ R s => ∀ t' k, R (.ok (.ret (.str x t'))) { s with toks := k }) (.of_wp fun prog w A R s h => ?_) h
  have hz2 : x.length ≤ sizeLine := by rw [sizeLine_eq]; omega
  rw [decE]
  refine wpAny_bind (wpAny_mkStr ?_ (by rw [sizeLine_eq]; decide +kernel))
  refine wpAny_bind (wpAny_mkStr ?_ (by rw [sizeLine_eq]; decide +kernel))
  refine wpAny_bind (wpAny_mkStr ?_ (by rw [sizeLine_eq]; decide +kernel))
  exact wpAny_bind (call_function_meets (KBd.kind_text) KBd.plain_text KBd.entry_text (KBd.args_text (.bytes (c :: cs).toArray t) _ _ _) (meets_dtext (b := (c :: cs).toArray) hd) ⟨hz2, wpAny_pure ⟨_, rfl, h _ _⟩⟩)
end
end
-- M19
section
open Builtin
section
variable {w : World} {g : Heap} {A : Around} {s : Shared} {L : Addr} {m : Str → Option Value} {l : Lgr} {E : Value → Shared → Prop} {t u : Tok}
theorem it_bytes {b : Array UInt8} {Q : Value → Shared → Prop} (ar : A.handled = none) (D : Led g L m s.heap l)
    (h : ItK w g A L m l [] b.size (fun i v q => (∃ c u, b[i]? = some c ∧ v = .int (c.toNat : Int) u) ∧ q = []) s Q) : wpAny (model Pg w) A (pyIter (.bytes b t)) Q E s := by
  refine KBw.pyIter_bytes ?_
  exact itK_of (S := []) (KBw.walks (prog := Pg) (w := w) ar s.heap.objs.size b t) (fun i h st b hb => by rw [List.mem_singleton.mp hb]; obtain ⟨o, ho, _⟩ := st; exact ⟨o, ho⟩) D rfl (fun b hb => List.mem_singleton.mp hb) (List.mem_cons_self ..)
    (fun b hb => .inl (List.mem_singleton.mp hb)) (fun e he => nomatch he) rfl ⟨_, Heap.get?_push_size _ rfl, rfl, rfl⟩ h
theorem bytesL {a : Addr} {its : List Value} {ns : List Int} {n i : Nat} {Q : Value → Shared → Prop} (hh : A.handled = none) (D : Led g L m s.heap l) (hi : l[i]? = some (a, listOf its.toArray n)) (hs : IntsAre its ns) (hr : ∀ n ∈ ns, 0 ≤ n ∧ n < 256) (hz : its.length ≤ 1000000)
    (h : ∀ h' t k, Led g L m h' l → Q (.bytes (byteArr ns) t) { s with heap := h', toks := k }) : wpAny (model Pg w) A (call (.type "bytes") [.ref a]) Q E s :=
  call_bytes_ints (isList D hi) hs hr (by rw [sizeLine_eq]; omega) hh fun h' t k hk => h h' t k (D.keeps hk)
theorem typeB {b : Array UInt8} {Q : Value → Shared → Prop} (h : Q (.type "bytes") s) : wpAny (model Pg w) A (call (.type "type") [.bytes b t]) Q E s := call_type_of (Tx := "bytes") rfl (by decide +kernel) h
theorem methB {b : Array UInt8} {pl : Sem Bool} {Q : Value × List Value → Shared → Prop} {name : PySem.Str} {id : String} (slot : Slot "bytes" name id) (ty : typeOf (.builtin id) = pure (.type "method_descriptor")) (h : Q (.builtin id, [.bytes b t]) s) :
    wpAny (model Pg w) A (getMethod (.bytes b t) name pl) Q E s := KBd.method_of (.bytes b t) (typeIs_bytes _ _ _) slot ty KBd.noRef h
theorem itemB {x : List UInt8} {k : Int} {value slice : Expr} {Q : Value → Shared → Prop} (hz : x.length ≤ 1000) (h0 : 0 ≤ k) (h1 : k < x.length) (h : ∀ t tk, Q (.int ((x.getD k.toNat 0).toNat : Nat) t) { s with toks := tk })
    (hs : subscripted slice false (.bytes x.toArray t) (.int k u) = operate [.bytes x.toArray t, .int k u] (getItem (.bytes x.toArray t) (.int k u)) := by with_unfolding_all rfl)
    (ht : ∀ r, letTemporaryGo value (.bytes x.toArray t) r = pure () := by intro _; with_unfolding_all rfl) : wpAny (model Pg w) A (subscriptTail value slice (.bytes x.toArray t) (.int k u)) Q E s :=
  KBy.item_N (by omega) h0 h1 (h _ _) hs ht
end
theorem sHex : Slot "bytes" (PySem.Str.ofString "hex") "bytes.hex" := PySem.W.FB.slot_bytes_hex
theorem yHex : typeOf (.builtin "bytes.hex") = pure (.type "method_descriptor") := PySem.W.FB.type_bytes_hex
theorem sUpper : Slot "bytes" (PySem.Str.ofString "upper") "bytes.upper" := slot_upper
theorem yUpper : typeOf (.builtin "bytes.upper") = pure (.type "method_descriptor") := type_upper
theorem sDecode : Slot "bytes" (PySem.Str.ofString "decode") "bytes.decode" := PySem.W.FB.slot_bytes_decode
theorem yDecode : typeOf (.builtin "bytes.decode") = pure (.type "method_descriptor") := PySem.W.FB.type_bytes_decode
section
variable {w : World} {A : Around} {s : Shared} {E : Value → Shared → Prop} {t : Tok} {b : Array UInt8} {pl : Sem Bool} {Q : Value × List Value → Shared → Prop}
theorem methHex (h : Q (.builtin "bytes.hex", [.bytes b t]) s) : wpAny (model Pg w) A (getMethod (.bytes b t) (PySem.Str.ofString "hex") pl) Q E s := @methB w A s E t b pl Q (PySem.Str.ofString "hex") "bytes.hex" sHex yHex h
theorem methUpper (h : Q (.builtin "bytes.upper", [.bytes b t]) s) : wpAny (model Pg w) A (getMethod (.bytes b t) (PySem.Str.ofString "upper") pl) Q E s := @methB w A s E t b pl Q (PySem.Str.ofString "upper") "bytes.upper" sUpper yUpper h
theorem methDecode (h : Q (.builtin "bytes.decode", [.bytes b t]) s) : wpAny (model Pg w) A (getMethod (.bytes b t) (PySem.Str.ofString "decode") pl) Q E s := @methB w A s E t b pl Q (PySem.Str.ofString "decode") "bytes.decode" sDecode yDecode h
end
end
theorem word52 : True := by
  k_with "call type:type" => (k_dflt ((with_reducible show wpAny _ _ (call _ [Value.bytes _ _]) _ _ _); refine' typeB ?_; k_whole))
  trivial
theorem word53 : True := by
  k_with "getMethod bytes" => (k_dflt (first
      | ((with_reducible show wpAny _ _ (getMethod _ (PySem.Str.ofString "hex") _) _ _ _); refine' methHex ?_; k_whole)
      | ((with_reducible show wpAny _ _ (getMethod _ (PySem.Str.ofString "upper") _) _ _ _); refine' methUpper ?_; k_whole)
      | ((with_reducible show wpAny _ _ (getMethod _ (PySem.Str.ofString "decode") _) _ _ _); refine' methDecode ?_; k_whole)))
  trivial
section
open Builtin
section
variable {w : World} {g : Heap} {A : Around} {s : Shared} {L : Addr} {m : Str → Option Value} {l : Lgr} {E : Value → Shared → Prop}
/-- as extLoop, with what is taken -/
theorem extLoopI {I S : Addr} {fp wr : List Addr} {n : Nat} {f : Nat → Int} {St : Nat → Heap → Prop} {res : Value} {R : Result → Shared → Prop} (W : Walks Pg w A.in1 I fp wr n (fun i v => ∃ t, v = .int (f i) t) St) (hSf : S ∉ fp) :
    ∀ (k i : Nat) (s : Shared) (acc : List Value) (ns : List Int) (c : Nat), i + k = n → St i s.heap → s.heap.get? S = some (listOf acc.toArray c) → acc.length + k ≤ 1000000 → IntsAre acc ns →
      (∀ h' tk acc' c', (∀ b o, b ≠ S → b ∉ wr → s.heap.get? b = some o → h'.get? b = some o) → h'.get? S = some (listOf acc'.toArray c') → IntsAre acc' (ns ++ (List.range' i k).map f) → R (.ok (.ret res)) { s with heap := h', toks := tk }) →
      codeAny (model Pg w) A (.builtin "list.extend.loop" ⟨[.ref S, .ref I, res], []⟩) R s := by
  have hSw : S ∉ wr := fun h => hSf (W.sub _ h)
  intro k
  induction k with
  | zero =>
    intro i s acc ns c hk hst hS hz hi hR
    have hin : i = n := by omega
    subst hin
    refine codeAny_builtin F.entry_extend_loop ?_
    rw [Around.under_plainId F.plain_extend_loop _]
    show wpAny _ A.in1 (pyNext (.ref I) >>= _) _ _ s
    refine wpAny_bind (W.done s _ _ hst fun h' tk hm => ?_)
    exact wpAny_pure (hR h' tk acc c (fun b o _ hb e => hm b o hb e) (hm S _ hSw hS) (by simpa using hi))
  | succ k ih =>
    intro i s acc ns c hk hst hS hz hi hR
    refine codeAny_builtin F.entry_extend_loop ?_
    rw [Around.under_plainId F.plain_extend_loop _]
    show wpAny _ A.in1 (pyNext (.ref I) >>= _) _ _ s
    refine wpAny_bind (W.item i s _ _ (by omega) hst fun v h' tk hv hst' hm => ?_)
    obtain ⟨tv, rfl⟩ := hv
    have hS' := hm S _ hSw hS
    show wpAny _ A.in1 (updateSeq S (·.push _) >>= _) _ _ _
    have hz2 : sizeLine = 16777216 := sizeLine_eq
    refine wpAny_bind (wpAny_updateSeq hS' rfl (wpAny_pure ⟨plainId_quiet F.plain_extend_loop _, ?_⟩) (by rw [List.size_toArray]; omega) (by rw [Array.size_push, List.size_toArray]; omega))
    have hS2 := Heap.get?_update_self (Obj.mapSeq (·.push (.int (f i) tv))) hS' rfl
    have e2 : Obj.mapSeq (fun x => x.push (.int (f i) tv)) (PySem.W.listOf acc.toArray c) = PySem.W.listOf (acc ++ [Value.int (f i) tv]).toArray (c + 1) := by
      simp [Obj.mapSeq]
    rw [e2] at hS2
    refine ih (i + 1) _ (acc ++ [.int (f i) tv]) (ns ++ [f i]) _ (by omega) (W.frame _ h' _ hst' fun b hb o e => (Heap.get?_update_other _ _ (fun h : S = b => hSf (by rw [h]; exact hb))).trans e) hS2 (by rw [List.length_append, List.length_singleton]; omega) (intsAre_append hi (.cons _ _ .nil)) fun h'' tk' acc' c' hm' hS'' hi' => ?_
    refine hR h'' tk' acc' c' (fun b o h1 h2 e => hm' b o h1 h2 ((Heap.get?_update_other _ _ (Ne.symm h1)).trans (hm b o h2 e))) hS'' ?_
    rw [List.range'_succ, List.map_cons]
    simpa using hi'
theorem listBy {b : Array UInt8} {t : Tok} {Q : Value → Shared → Prop} (hh : A.handled = none) (D : Led g L m s.heap l) (hz : b.size ≤ 1000)
    (h : ∀ a h' tk its n, IntsAre its (b.toList.map fun c => (c.toNat : Int)) → Led g L m h' ((a, listOf its.toArray n) :: l) → Q (.ref a) { s with heap := h', toks := tk }) : wpAny (model Pg w) A (call (.type "list") [.bytes b t]) Q E s := by
  refine callType_codes (Q₁ := fun obj s₁ => obj = .ref s.heap.objs.size ∧ s₁ = { s with heap := s.heap.push { cls := .type "list", data := .seq #[] } }) F.called_list (F.typeCall_list_1 _) F.entry_list_init
    (code_list_new _ ⟨rfl, rfl⟩) fun obj s₁ h₁ => ?_
  obtain ⟨rfl, rfl⟩ := h₁
  have hS : (s.heap.push { cls := .type "list", data := .seq #[] }).get? s.heap.objs.size = some { cls := .type "list", data := .seq #[] } := Heap.get?_push_size _ rfl
  refine ⟨⟨_, hS, rfl⟩, F.args_list_init_2 _ _, ?_⟩
  show wpAny _ A.in1.in1 (do let old ← Builtin.List.listItems (.ref s.heap.objs.size); Builtin.List.listUpdate (.ref s.heap.objs.size) (fun _ => #[]); letGo old.toList.reverse; Builtin.List.listExtendWith (.ref s.heap.objs.size) (.bytes b t) .none) _ _ _
  refine wpAny_bind ?_
  unfold Builtin.List.listItems
  refine wpAny_bind (wpAny_seqItems hS rfl (wpAny_pure ?_))
  show wpAny _ A.in1.in1 (updateSeq s.heap.objs.size (fun _ => #[]) >>= fun _ => letGo (#[] : Array Value).toList.reverse >>= fun _ => Builtin.List.listExtendWith (.ref s.heap.objs.size) (.bytes b t) .none) _ _ _
  refine wpAny_bind (wpAny_updateSeq hS rfl ?_)
  have hS₂ := Heap.get?_update_self (Obj.mapSeq (fun _ => (#[] : Array Value))) hS rfl
  obtain ⟨n0, e0⟩ : ∃ n, Obj.mapSeq (fun _ => (#[] : Array Value)) { cls := .type "list", data := .seq #[] } = PySem.W.listOf #[] n := ⟨_, rfl⟩
  rw [e0] at hS₂
  have D1 := (D.push (listOf #[] 0)).put (i := 0) (o' := listOf #[] n0) rfl (Heap.SameBut.update _ _ (Obj.mapSeq (fun _ => (#[] : Array Value)))) hS₂
  rw [List.set_cons_zero] at D1
  refine wpAny_bind (wpAny_letGo ?_)
  revert hS₂ D1
  generalize s.heap.objs.size = S
  generalize (s.heap.push { cls := .type "list", data := .seq #[] }).update S (Obj.mapSeq (fun _ => (#[] : Array Value))) = H2
  intro hS₂ D1
  have D2 := D1.push { cls := .type "bytes_iterator", data := .fields #[.bytes b t, .int 0 0] }
  have hit : KBw.IsBytesIter (H2.push { cls := .type "bytes_iterator", data := .fields #[.bytes b t, .int 0 0] }) H2.objs.size b t 0 := ⟨_, Heap.get?_push_size _ rfl, rfl, rfl⟩
  have hSI : S ≠ H2.objs.size := Nat.ne_of_lt (Heap.lt_size hS₂)
  unfold Builtin.List.listExtendWith
  refine wpAny_bind (wpAny_typeOf (typeIs_bytes _ _ _) ?_)
  rw [if_neg (by simp [Builtin.List.listSameRef])]
  refine wpAny_bind (KBw.pyIter_bytes ?_)
  refine wpAny_bind (wpAny_holding ?_)
  unfold Builtin.List.listLengthHint
  refine wpAny_bind (wpAny_specialOf (typeIs_bytes _ _ _) FB.slot_bytes_len.lookup ?_)
  (generalize hid : ("bytes.__len__" : String) = id0; wp_delta; rw [show splitId id0 = some ("bytes", "__len__") from by subst hid; decide +kernel]; subst hid)
  refine wpAny_bind (wpAny_isInstance (b := true) (typeIs_bytes _ _ _) (by rw [isSubtype_type]; kernel_rfl) ?_)
  rw [if_neg (by decide)]
  dsimp only
  rw [if_pos (by decide +kernel)]
  refine wpAny_bind (wpAny_typeOf (typeIs_bytes _ _ _) ?_)
  dsimp only
  refine wpAny_pure ?_
  rw [if_neg (by decide +kernel)]
  have W := KBw.walks (prog := Pg) (w := w) (A := A.in1.in1) hh H2.objs.size b t
  have W2 : Walks Pg w A.in1.in1 H2.objs.size [H2.objs.size] [H2.objs.size] b.size (fun i v => ∃ t, v = .int (((b.toList.map fun c => (c.toNat : Int)).getD i 0)) t) (fun i h => KBw.IsBytesIter h H2.objs.size b t i) :=
    ⟨W.sub, W.frame, fun i s Q E hi st hQ => W.item i s Q E hi st fun v h' tk hv => by
      obtain ⟨c, u, hc, rfl⟩ := hv
      refine hQ _ h' tk ⟨u, ?_⟩
      have : b.toList[i]? = some c := by simpa using hc
      rw [List.getD_eq_getElem?_getD, List.getElem?_map, this]; rfl, W.done, W.self⟩
  refine wpAny_pure ⟨plainId_quiet F.plain_extend_loop _, extLoopI W2 (by simp [hSI]) b.size 0 _ [] [] n0 (by omega) hit (Heap.get?_push_of_some _ hS₂) (by simp; omega) .nil fun h' tk acc' c' hm hS' hi' => ?_⟩
  have D3 : Led g L m h' ((S, listOf acc'.toArray c') :: l) := D2.moved (i := 0) rfl hm hS'
  have e : (List.range' 0 b.size).map (fun i => (b.toList.map fun c => (c.toNat : Int)).getD i 0) = b.toList.map fun c => (c.toNat : Int) := by
    refine List.ext_getElem (by simp) fun j h1 h2 => ?_
    simp at h1
    simp [h1]
  rw [List.nil_append, e] at hi'
  exact ⟨rfl, h S h' tk acc' c' hi' D3⟩
end
end
-- M20
section
open Builtin
/-- as FSpec, with keywords -/
noncomputable def KSpec (w : World) (g : Heap) (f : Value) (vs : List Value) (kw : List (Str × Value)) (n : Nat) (l : Lgr) (Post : Value → Lgr → Prop) : Prop :=
  ∀ (A : Around) (s : Shared) (x : Lgr) (Q E : Value → Shared → Prop), Ar A n → Hp g s.heap (l ++ x) → (∀ v s' l', Sm s s' → Hp g s'.heap (l' ++ x) → Post v l' → Q v s') → wpAny (model Pg w) A (call f vs kw) Q E s
theorem useAtK {w : World} {g : Heap} {A : Around} {s : Shared} {L : Addr} {m : Str → Option Value} {l p z : Lgr} {E : Value → Shared → Prop} {f : Value} {vs : List Value} {kw : List (Str × Value)} {k n : Nat} {Post : Value → Lgr → Prop} {Q : Value → Shared → Prop} (i : Nat) (S : KSpec w g f vs kw k p Post) (D : Led g L m s.heap l) (hp : l.drop i = p ++ z) (ar : Ar A n) (hk : k ≤ n)
    (h : ∀ v h' tk l', Led g L m h' (l.take i ++ (l' ++ z)) → Post v l' → Q v { s with heap := h', toks := tk }) : wpAny (model Pg w) A (call f vs kw) Q E s := by
  have e : l = l.take i ++ (p ++ z) := by rw [← hp, List.take_append_drop]
  have q := List.perm_append_comm_assoc (l.take i) p z
  rw [← e] at q
  obtain ⟨oL, H, back⟩ := (D.perm q).hp
  refine S A s ((L, oL) :: (l.take i ++ z)) Q E (ar.le hk) (H.perm List.perm_middle.symm) fun v s' l' hs H' P => ?_
  obtain ⟨h', tk, rfl⟩ := hs
  exact h v h' tk l' ((back h' (l' ++ (l.take i ++ z)) (H'.perm List.perm_middle)).perm (List.perm_append_comm_assoc _ _ _)) P
theorem cwFK {w : World} {g : Heap} {A : Around} {s : Shared} {E : Value → Shared → Prop} {Q : Value → Shared → Prop} {env : Env} {pos : Pos} {f : Value} {first : List Value} {e : Expr} {rest : List Expr} {kws : List Keyword} (G : Gd w g) (hk : keepIn (hd.heap_1 w.params) f = true) (hall : (backToKw pos (keywordEach kws env)).all (·.1.isSome) = true)
    (h : wpAny (model Pg w) A (spliced (backTo pos (starEach (e :: rest) env))) (fun vs s₁ => wpAny (model Pg w) A (evalAll ((backToKw pos (keywordEach kws env)).map (·.2)))
      (fun ks s₂ => Kept g s₂.heap ∧ wpAny (model Pg w) A (call f (first ++ vs) (((backToKw pos (keywordEach kws env)).filterMap (·.1)).zip ks)) Q E s₂) E s₁) E s)
    (hplain : ((backTo pos (starEach (e :: rest) env)).any (·.1) || (backToKw pos (keywordEach kws env)).any (·.1.isNone)) = false := by rfl) (he : starEach (e :: rest) env = (false, eval e env) :: starEach rest env := by rfl) :
    wpAny (model Pg w) A (callWith pos f first (backTo pos (starEach (e :: rest) env)) (backToKw pos (keywordEach kws env))) Q E s :=
  callWith_KW (h₀ := g) G.X hk hall (wpAny_mono h (fun _ _ z => wpAny_mono z (fun _ _ y => ⟨G.X.keeps y.1, y.2⟩) fun _ _ e => e) fun _ _ e => e) hplain he
end
theorem word54 : True := by
  k_with "callWith ref" => (k_dflt (first
      | (refine' cwF ?kG ?k1 ?_ ?k2 ?k3; (case kG => assumption); (case k1 => k_is); (case k2 => exact rfl); (case k3 => exact rfl); k_whole)
      | ((with_reducible rename Led _ _ _ _ _ => D0); refine' cwF0 ?kG D0 ?k1 ?_; (case kG => assumption); (case k1 => k_is); k_whole)
      | ((with_reducible rename Led _ _ _ _ _ => D0); refine' cwX D0 ?k1 ?_ ?k2 ?k3; (case k1 => walk_at "mine at"); (case k2 => exact rfl); (case k3 => exact rfl); k_whole)
      | (refine' cwFK ?kG ?k1 ?k4 ?_ ?k2 ?k3; (case kG => assumption); (case k1 => k_is); (case k4 => exact rfl); (case k2 => exact rfl); (case k3 => exact rfl); k_whole)))
  trivial
section
open Builtin
section
variable {w : World} {A : Around} {s : Shared} {E : Value → Shared → Prop} {Q : Value → Shared → Prop} {t u : Tok}
theorem bitAnd_mask {x : Int} {k : Nat} (h0 : 0 ≤ x) : Builtin.bitAnd x ((2 ^ k - 1 : Nat) : Int) = x % ((2 ^ k : Nat) : Int) := by
  have hm : (0 : Int) ≤ ((2 ^ k - 1 : Nat) : Int) := Int.natCast_nonneg _
  unfold Builtin.bitAnd
  rw [decide_eq_true h0, decide_eq_true hm]
  show ((x.toNat &&& (((2 ^ k - 1 : Nat) : Int)).toNat : Nat) : Int) = _
  rw [Int.toNat_natCast, Nat.and_two_pow_sub_one_eq_mod]
  have e : x = (x.toNat : Int) := (Int.toNat_of_nonneg h0).symm
  rw [Int.natCast_emod, ← e]
theorem and6 {x : Int} (h0 : 0 ≤ x) (h : ∀ t tk, Q (.int (x % 64) t) { s with toks := tk }) : wpAny (model Pg w) A (binaryOp .BitAnd (.int x t) (.int 63 u)) Q E s :=
  and_int (by rw [show Builtin.bitAnd x 63 = x % 64 from bitAnd_mask (k := 6) h0]; exact h _ _)
theorem and16 {x : Int} (h0 : 0 ≤ x) (h : ∀ t tk, Q (.int (x % 65536) t) { s with toks := tk }) : wpAny (model Pg w) A (binaryOp .BitAnd (.int x t) (.int 65535 u)) Q E s :=
  and_int (by rw [show Builtin.bitAnd x 65535 = x % 65536 from bitAnd_mask (k := 16) h0]; exact h _ _)
theorem shl8 {x : Int} (h0 : 0 ≤ x) (h1 : x < 65536) (h : ∀ t tk, Q (.int (x * 256) t) { s with toks := tk }) : wpAny (model Pg w) A (binaryOp .LShift (.int x t) (.int 8 u)) Q E s :=
  lshift_int_small (by decide) (by decide) (by omega) (h _ _)
theorem or8 {x b : Int} (h0 : 0 ≤ x) (b0 : 0 ≤ b) (b1 : b < 256) (h : ∀ t tk, Q (.int (x * 256 + b) t) { s with toks := tk }) : wpAny (model Pg w) A (binaryOp .BitOr (.int (x * 256) t) (.int b u)) Q E s := by
  refine or_int ?_
  have e : Builtin.bitOr (x * 256) b = x * 256 + b := by
    obtain ⟨p, rfl⟩ := Int.eq_ofNat_of_zero_le h0
    obtain ⟨q, rfl⟩ := Int.eq_ofNat_of_zero_le b0
    have hx : 0 ≤ (p : Int) * 256 := Int.natCast_nonneg (p * 256)
    have n1 : ∀ y : Int, Builtin.bitNot y = -y - 1 := fun y => by simp [Builtin.bitNot]
    have nn : ∀ y : Int, -(-y - 1) - 1 = y := fun y => by rw [Int.neg_sub, Int.sub_neg, Int.add_comm, Int.add_sub_cancel]
    have nz : ∀ y : Int, 0 ≤ y → ¬ 0 ≤ -y - 1 := fun y hy => by omega
    have key : Builtin.bitOr ((p : Int) * 256) (q : Int) = ((p * 256 ||| q : Nat) : Int) := by
      unfold Builtin.bitOr Builtin.bitAnd
      rw [decide_eq_false (show ¬ 0 ≤ Builtin.bitNot ((p : Int) * 256) by rw [n1]; exact nz _ hx), decide_eq_false (show ¬ 0 ≤ Builtin.bitNot (q : Int) by rw [n1]; exact nz _ b0)]
      show Builtin.bitNot (Builtin.bitNot (((Builtin.bitNot (Builtin.bitNot ((p : Int) * 256))).toNat ||| (Builtin.bitNot (Builtin.bitNot (q : Int))).toNat : Nat) : Int)) = _
      simp only [n1, nn]
      rfl
    rw [key, show p * 256 = p <<< 8 from (Nat.shiftLeft_eq p 8).symm, ← Nat.shiftLeft_add_eq_or_of_lt (show q < 2 ^ 8 from Int.ofNat_lt.mp b1), Nat.shiftLeft_eq]
    rfl
  rw [e]; exact h _ _
theorem shrN {x k : Int} (h0 : 0 ≤ k) (h : ∀ t tk, Q (.int (x / 2 ^ k.toNat) t) { s with toks := tk }) : wpAny (model Pg w) A (binaryOp .RShift (.int x t) (.int k u)) Q E s :=
  rshift_int h0 (by rw [Int.fdiv_eq_ediv_of_nonneg _ (Int.le_of_lt (pow2_pos _))]; exact h _ _)
end
end
theorem word55 : True := by
  k_with "binaryOp BitAnd int int" => (k_dflt (first
      | ((with_reducible show wpAny _ _ (binaryOp Operator.BitAnd (Value.int _ _) (Value.int 63 _)) _ _ _); refine' and6 ?k0 ?_; (case k0 => first | (with_reducible assumption) | omega | exact Int.ediv_nonneg (by omega) (Int.le_of_lt (pow2_pos _))); k_whole; intro _ _)
      | ((with_reducible show wpAny _ _ (binaryOp Operator.BitAnd (Value.int _ _) (Value.int 65535 _)) _ _ _); refine' and16 ?k0 ?_; (case k0 => first | (with_reducible assumption) | exact add_nn (by assumption) (by assumption) | omega); k_whole; intro _ _)))
  trivial
theorem word56 : True := by
  k_with "binaryOp LShift int int" => (k_dflt (refine' shl8 ?k0 ?k1 ?_; (case k0 => first | (with_reducible assumption) | omega); (case k1 => first | (with_reducible assumption) | omega); k_whole; intro _ _))
  trivial
theorem word57 : True := by
  k_with "binaryOp BitOr int int" => (k_dflt (refine' or8 ?k0 ?k1 ?k2 ?_; (case k0 => first | (with_reducible assumption) | omega); (case k1 => first | (with_reducible assumption) | omega); (case k2 => first | (with_reducible assumption) | omega); k_whole; intro _ _))
  trivial
theorem word58 : True := by
  k_with "binaryOp RShift int int" => (k_dflt (refine' shrN ?k0 ?_; (case k0 => first | (with_reducible assumption) | exact Int.sub_nonneg_of_le (by assumption) | omega); k_whole; intro _ _))
  trivial
-- P7
noncomputable def b64L : List UInt8 := [65, 66, 67, 68, 69, 70, 71, 72, 73, 74, 75, 76, 77, 78, 79, 80, 81, 82, 83, 84, 85, 86, 87, 88, 89, 90, 97, 98, 99, 100, 101, 102, 103, 104, 105, 106, 107, 108, 109, 110, 111, 112, 113, 114, 115, 116, 117, 118, 119, 120, 121, 122, 48, 49, 50, 51, 52, 53, 54, 55, 56, 57, 43, 47]
noncomputable def cd (v : Int) : Int := ((b64L.getD v.toNat 0).toNat : Nat)
noncomputable def lbI : Nat → Nat | 0 => 0 | 1 => 2 | 2 => 4 | _ => 0
noncomputable def lcI (A B C : Int) : Nat → Int | 0 => 0 | 1 => A | 2 => A * 256 + B | _ => B * 256 + C
/-- the k-th six bits of three octets -/
noncomputable def V6 (A B C : Int) (k : Nat) : Int := (A * 65536 + B * 256 + C) / 64 ^ (3 - k) % 64
noncomputable def ltI (A B C : Int) : Nat → List Int
  | 0 => []
  | 1 => [cd (V6 A B C 0)]
  | 2 => [cd (V6 A B C 0), cd (V6 A B C 1)]
  | _ => [cd (V6 A B C 0), cd (V6 A B C 1), cd (V6 A B C 2), cd (V6 A B C 3)]
noncomputable def nx3 (A B C : Int) : Nat → Int | 0 => A | 1 => B | _ => C
theorem hi8 {x r m : Int} (hm : 0 < m) (h0 : 0 ≤ r) (h1 : r < m) : (x * m + r) / m = x := by
  rw [Int.add_comm, Int.add_mul_ediv_right _ _ (Int.ne_of_gt hm), Int.ediv_eq_zero_of_lt h0 h1, Int.zero_add]
theorem N_lo (A B C : Int) : A * 65536 + B * 256 + C = A * 65536 + (B * 256 + C) := Int.add_assoc _ _ _
theorem N_hi (A B C : Int) : A * 65536 + B * 256 + C = (A * 256 + B) * 256 + C := by
  rw [Int.add_mul, Int.mul_assoc]; rfl
theorem turn64 {A B C : Int} (a0 : 0 ≤ A) (a1 : A < 256) (b0 : 0 ≤ B) (b1 : B < 256) (c0 : 0 ≤ C) (c1 : C < 256) {i : Nat} (hi : i < 3) :
    ∃ n0 : Nat, n0 ≤ 2 ∧ lbI i + 8 = 6 * n0 + lbI (i + 1) ∧ lbI (i + 1) < 6 ∧ lcI A B C (i + 1) = (lcI A B C i * 256 + nx3 A B C i) % 65536 ∧ 0 ≤ lcI A B C i ∧ lcI A B C i < 65536 ∧
      ltI A B C (i + 1) = ltI A B C i ++ (List.range n0).map fun j => cd (lcI A B C (i + 1) / 2 ^ (6 * (n0 - 1 - j) + lbI (i + 1)) % 64) := by
  have q := two8 a0 a1 b0 b1
  have r := two8 b0 b1 c0 c1
  rcases three hi with rfl | rfl | rfl
  · refine ⟨1, by decide, by decide, by decide, ?_, Int.le_refl 0, (by decide : (0 : Int) < 65536), ?_⟩
    · show A = (0 * 256 + A) % 65536
      rw [Int.zero_mul, Int.zero_add]; exact (Int.emod_eq_of_lt a0 (Int.lt_trans a1 (by decide))).symm
    · have e : V6 A B C 0 = A / 2 ^ 2 % 64 := by
        show (A * 65536 + B * 256 + C) / (65536 * 4) % 64 = _
        rw [← Int.ediv_ediv_of_nonneg (by decide), N_lo, hi8 (by decide) r.1 r.2]; rfl
      simp [ltI, lcI, lbI, e]
  · refine ⟨1, by decide, by decide, by decide, ?_, a0, Int.lt_trans a1 (by decide), ?_⟩
    · exact (Int.emod_eq_of_lt q.1 q.2).symm
    · have e : V6 A B C 1 = (A * 256 + B) / 2 ^ 4 % 64 := by
        show (A * 65536 + B * 256 + C) / (256 * 16) % 64 = _
        rw [← Int.ediv_ediv_of_nonneg (by decide), N_hi, hi8 (by decide) c0 c1]; rfl
      simp [ltI, lcI, lbI, e]
  · refine ⟨2, by decide, by decide, by decide, ?_, q.1, q.2, ?_⟩
    · show B * 256 + C = ((A * 256 + B) * 256 + C) % 65536
      rw [← N_hi, N_lo, Int.add_comm (A * 65536), Int.add_mul_emod_self_right]; exact (Int.emod_eq_of_lt r.1 r.2).symm
    · have e : V6 A B C 2 = (B * 256 + C) / 2 ^ 6 % 64 := by
        show (A * 65536 + B * 256 + C) / 64 % 64 = _
        rw [N_lo, Int.add_comm (A * 65536), show A * 65536 = A * 16 * 64 * 64 by rw [Int.mul_assoc, Int.mul_assoc]; rfl, Int.add_mul_ediv_right _ _ (by decide), Int.add_mul_emod_self_right]; rfl
      have e2 : V6 A B C 3 = (B * 256 + C) % 64 := by
        show (A * 65536 + B * 256 + C) / 1 % 64 = _
        rw [Int.ediv_one, N_lo, Int.add_comm (A * 65536), show A * 65536 = A * 1024 * 64 by rw [Int.mul_assoc]; rfl, Int.add_mul_emod_self_right]
      simp [ltI, lcI, lbI, e, e2, List.range_succ]
theorem cd_in (v : Int) : 0 ≤ cd v ∧ cd v < 256 := by
  unfold cd
  have := (b64L.getD v.toNat 0).toNat_lt
  omega
theorem ltI_len (A B C : Int) : ∀ i, (ltI A B C i).length ≤ 4
  | 0 => by simp [ltI]
  | 1 => by simp [ltI]
  | 2 => by simp [ltI]
  | _ + 3 => by simp [ltI]
theorem map_snoc_range {α : Type} (f : Nat → α) (n : Nat) : (List.range (n + 1)).map f = (List.range n).map f ++ [f n] := by
  rw [List.range_succ, List.map_append]; rfl
theorem b64Item {w : World} {A : Around} {s : Shared} {E Q : Value → Shared → Prop} {t u : Tok} {k : Int} {value slice : Expr} (h0 : 0 ≤ k) (h1 : k < 64) (h : ∀ t tk, Q (.int (cd k) t) { s with toks := tk })
    (hs : subscripted slice false (.bytes b64L.toArray t) (.int k u) = operate [.bytes b64L.toArray t, .int k u] (getItem (.bytes b64L.toArray t) (.int k u)) := by with_unfolding_all rfl)
    (ht : ∀ r, letTemporaryGo value (.bytes b64L.toArray t) r = pure () := by intro _; with_unfolding_all rfl) : wpAny (model Pg w) A (subscriptTail value slice (.bytes b64L.toArray t) (.int k u)) Q E s :=
  itemB (x := b64L) (by decide) h0 h1 h hs ht
theorem word59 : True := by
  k_with "subscriptTail Name BinOp bytes int" => (k_dflt (refine' b64Item ?k0 ?k1 ?_; (case k0 => first | exact Int.emod_nonneg _ (by decide) | omega); (case k1 => first | exact Int.emod_lt_of_pos _ (by decide) | omega); k_whole; intro _ _))
  trivial
theorem ltI_in (A B C : Int) : ∀ n ∈ ltI A B C 3, 0 ≤ n ∧ n < 256 := by
  intro n hn
  simp only [ltI, List.mem_cons, List.not_mem_nil, or_false] at hn
  rcases hn with rfl | rfl | rfl | rfl <;> exact cd_in _
-- C12
theorem sp_buffer {w : World} {g : Heap} (G : Gd w g) {b : Array UInt8} {t : Tok} : FSpec w g (.ref 45) [.bytes b t] 1 [] (fun v l => l = [] ∧ v = .bytes b t) := by
  refine .of fun A s z Q E ar H ret => ?_
  refine' enter (binds := [((Str.ofString "data"), .bytes b t)]) (bl := [((Str.ofString "data"), .bytes b t)]) G H ar ?k1 ?k2 ?k3 ?k4 ?k5 ?k6 ?k7 ?k8 ?kb ?_
  case k1 => k_is
  case k2 => k_is
  case k3 => first | exact BindsTo.of_eq rfl | exact binds_K (G.X.keeps H.keep) rfl (by k_is) rfl rfl rfl
  case k4 => exact locs rfl
  case k5 => decide
  case k6 => exact rfl
  case k7 => exact rfl
  case k8 => exact rfl
  case kb => exact rfl
  intro L A' h₁ tk ar' D
  dsimp only [List.cons_append, List.nil_append] at D
  w_strict (walk1; k_fold; (iterate 9 walk1); dsimp only [qk]; clear qk; (try clear ek); walk1; k_fold; (iterate 8 walk1); k_fold; (iterate 2 walk1); dsimp only [qk]; clear qk; (try clear ek); dsimp only [qk]; clear qk; (try clear ek))
  (try dsimp only)
  rename Led _ _ _ _ _ => D
  exact ret _ _ [] (Sm.mk (h := h₁) (tk := tk) |>.go _ _) D.out ⟨rfl, rfl⟩
theorem sp_truth {w : World} {g : Heap} (G : Gd w g) : FSpec w g (.ref 52) [.bool false] 1 [] (fun v l => l = [] ∧ v = .bool false) := by
  refine .of fun A s z Q E ar H ret => ?_
  refine' enter (binds := [((Str.ofString "x"), .bool false)]) (bl := [((Str.ofString "x"), .bool false)]) G H ar ?k1 ?k2 ?k3 ?k4 ?k5 ?k6 ?k7 ?k8 ?kb ?_
  case k1 => k_is
  case k2 => k_is
  case k3 => first | exact BindsTo.of_eq rfl | exact binds_K (G.X.keeps H.keep) rfl (by k_is) rfl rfl rfl
  case k4 => exact locs rfl
  case k5 => decide
  case k6 => exact rfl
  case k7 => exact rfl
  case k8 => exact rfl
  case kb => exact rfl
  intro L A' h₁ tk ar' D
  dsimp only [List.cons_append, List.nil_append] at D
  w_strict (walk1; k_fold; (iterate 9 walk1); dsimp only [qk]; clear qk; (try clear ek); walk1; k_fold; (iterate 17 walk1); k_fold; (iterate 7 walk1); dsimp only [qk]; clear qk; (try clear ek); dsimp only [qk]; clear qk; (try clear ek))
  (try dsimp only)
  rename Led _ _ _ _ _ => D
  exact ret _ _ [] (Sm.mk (h := h₁) (tk := tk) |>.go _ _) D.out ⟨rfl, rfl⟩
theorem left6 (n r : Nat) : (((6 * (n + 1) + r : Nat) : Int) - 6) = ((6 * n + r : Nat) : Int) := by omega
theorem left_n {n n0 : Nat} (h : n + 1 ≤ n0) : n0 - n = (n0 - (n + 1)) + 1 := by
  obtain ⟨k, rfl⟩ := Nat.exists_eq_add_of_le h
  rw [Nat.add_sub_cancel_left, Nat.add_assoc, Nat.add_sub_cancel_left, Nat.add_comm]
theorem left_ex {n n0 r : Nat} (h : n + 1 ≤ n0) : ((6 * n + r : Nat) : Int).toNat = 6 * (n0 - 1 - (n0 - (n + 1))) + r := by
  obtain ⟨k, rfl⟩ := Nat.exists_eq_add_of_le h
  rw [Int.toNat_natCast, Nat.add_sub_cancel_left, Nat.add_right_comm n 1 k, Nat.add_sub_cancel, Nat.add_sub_cancel]
inductive B2aJ (ao : Addr) (a b c : UInt8) (z : Lgr) (i : Nat) (b' : List (Str × Value)) (l : Lgr) : Prop
  | mk (its : List Value) (n : Nat) (t1 t2 : Tok) (h1 : mp b' (Str.ofString "out") = some (.ref ao)) (h2 : mp b' (Str.ofString "newline") = some (.bool false)) (h3 : mp b' (Str.ofString "leftbits") = some (.int (lbI i : Nat) t1)) (h4 : mp b' (Str.ofString "leftchar") = some (.int (lcI (a.toNat : Int) (b.toNat : Int) (c.toNat : Int) i) t2))
    (h5 : IntsAre its (ltI (a.toNat : Int) (b.toNat : Int) (c.toNat : Int) i)) (h6 : l = (ao, listOf its.toArray n) :: z) : B2aJ ao a b c z i b' l
inductive B2aW (g : Heap) (s : Shared) (L ao : Addr) (lt : List Int) (z : Lgr) (lc2 : Int) (n0 r : Nat) (n : Nat) (s' : Shared) : Prop
  | mk (b2 : List (Str × Value)) (is2 : List Value) (m2 : Nat) (t1 t2 : Tok) (h1 : mp b2 (Str.ofString "out") = some (.ref ao)) (h2 : mp b2 (Str.ofString "newline") = some (.bool false)) (h3 : mp b2 (Str.ofString "leftbits") = some (.int (6 * n + r : Nat) t1)) (h4 : mp b2 (Str.ofString "leftchar") = some (.int lc2 t2)) (h5 : n ≤ n0)
    (h6 : IntsAre is2 (lt ++ (List.range (n0 - n)).map fun j => cd (lc2 / 2 ^ (6 * (n0 - 1 - j) + r) % 64))) (h7 : Sm s s') (h8 : Led g L (mp b2) s'.heap ((ao, listOf is2.toArray m2) :: z)) : B2aW g s L ao lt z lc2 n0 r n s'
theorem sp_b2a {w : World} {g : Heap} (G : Gd w g) {a b c : UInt8} {t : Tok} : KSpec w g (.ref 60) [.bytes #[a, b, c] t] [((Str.ofString "newline"), .bool false)] 3 [] (fun v l => l = [] ∧ ∃ t, v = .bytes (byteArr (ltI (a.toNat : Int) (b.toNat : Int) (c.toNat : Int) 3)) t) := by
  intro A s z Q E ar H ret
  refine' enter (binds := [((Str.ofString "data"), .bytes #[a, b, c] t), ((Str.ofString "newline"), .bool false)]) (bl := [((Str.ofString "newline"), .bool false), ((Str.ofString "data"), .bytes #[a, b, c] t)]) G H ar ?k1 ?k2 ?k3 ?k4 ?k5 ?k6 ?k7 ?k8 ?kb ?_
  case k1 => k_is
  case k2 => k_is
  case k3 => first | exact BindsTo.of_eq rfl | exact binds_K (G.X.keeps H.keep) rfl (by k_is) rfl rfl rfl
  case k4 => exact locs rfl
  case k5 => decide
  case k6 => exact rfl
  case k7 => exact rfl
  case k8 => exact rfl
  case kb => exact rfl
  intro L A' h₁ tk ar' D
  dsimp only [List.cons_append, List.nil_append] at D
  w_strict (walk1; k_fold; (iterate 8 walk1))
  (try dsimp only)
  rename Led _ _ _ _ _ => D
  refine' useAt (z := z) (p := []) 0 (sp_buffer G) ?uD ?up ar' ?uk ?_
  case uD => exact D
  case up => exact rfl
  case uk => omega
  intro v h' tk l' D1 hv
  obtain ⟨rfl, rfl⟩ := hv
  simp only [List.take_zero, List.nil_append] at D1
  clear D
  w_strict (walk1; dsimp only [qk]; clear qk; (try clear ek); walk1; k_fold; (iterate 8 walk1))
  (try dsimp only)
  rename Led _ _ _ _ _ => D
  refine' useAt (z := z) (p := []) 0 (sp_truth G) ?uD ?up ar' ?uk ?_
  case uD => exact D
  case up => exact rfl
  case uk => omega
  intro v h' tk l' D1 hv
  obtain ⟨rfl, rfl⟩ := hv
  simp only [List.take_zero, List.nil_append] at D1
  clear D
  w_strict (walk1; dsimp only [qk]; clear qk; (try clear ek); walk1; k_fold; (iterate 5 walk1); dsimp only [qk]; clear qk; (try clear ek); walk1; k_fold; (iterate 3 walk1); dsimp only [qk]; clear qk; (try clear ek); walk1; k_fold; (iterate 3 walk1); dsimp only [qk]; clear qk; (try clear ek); walk1; k_fold; (iterate 2 walk1))
  (try dsimp only)
  rename Led _ _ _ _ _ => D
  rename_i _ _ ao _ _ _ _
  refine it_bytes ar'.hh D fun I p s' hs D2 Y Sf => ?_
  refine forF (n := 3) (L := L) (s₀ := s) (B2aJ ao a b c z) (fun i b l _ e he => by cases he) ?_ ?_ (Y _ _) ⟨[], 0, _, _, rfl, rfl, rfl, rfl, .nil, rfl⟩ ((Sm.mk (h := h₁) (tk := tk)).go _ _ |>.trans hs) D2
  · rintro i v q b' l s2 tt hi hv ⟨its, n, t1, t2, hm1, hm2, hm3, hm4, hits, rfl⟩ hs2 D4
    obtain ⟨⟨cc, uu, hcc, rfl⟩, rfl⟩ := hv
    clear D D2 Y Sf
    have A0 := a.toNat_lt
    have B0 := b.toNat_lt
    have C0 := c.toNat_lt
    have hcx : (cc.toNat : Int) = nx3 (a.toNat : Int) (b.toNat : Int) (c.toNat : Int) i := by
      rcases three hi with rfl | rfl | rfl <;> (cases hcc; rfl)
    have hc0 := cc.toNat_lt
    obtain ⟨n0, hn0, hlb, hlb6, hlc, hlc0, hlc1, hlt⟩ := turn64 (A := (a.toNat : Int)) (B := (b.toNat : Int)) (C := (c.toNat : Int)) (Int.natCast_nonneg _) (Int.ofNat_lt.mpr A0) (Int.natCast_nonneg _) (Int.ofNat_lt.mpr B0) (Int.natCast_nonneg _) (Int.ofNat_lt.mpr C0) hi
    rw [← hcx] at hlc
    dsimp only [List.cons_append, List.nil_append] at D4
    have hitl : its.length ≤ 4 := by
      rw [hits.length]; exact ltI_len _ _ _ _
    have k1 : (0 : Int) ≤ (cc.toNat : Int) := Int.natCast_nonneg _
    have k2 : (cc.toNat : Int) < 256 := Int.ofNat_lt.mpr hc0
    clear hcx A0 B0 C0 hc0
    generalize lcI (a.toNat : Int) (b.toNat : Int) (c.toNat : Int) i = lc at *
    w_strict ((iterate 3 walk1); k_fold; (iterate 12 walk1); dsimp only [qk]; clear qk; (try clear ek); walk1; k_fold; (iterate 6 walk1); dsimp only [qk]; clear qk; (try clear ek); walk1; k_fold; walk1)
    (try dsimp only)
    rename Led _ _ _ _ _ => D
    generalize hl2 : lcI (a.toNat : Int) (b.toNat : Int) (c.toNat : Int) (i + 1) = lc2 at *
    rw [← hlc] at D
    have hlc2 : 0 ≤ lc2 := by rw [hlc]; exact Int.emod_nonneg _ (by decide)
    generalize hrr : lbI (i + 1) = r at *
    refine whileN (B2aW g s L ao (ltI (a.toNat : Int) (b.toNat : Int) (c.toNat : Int) i) (z ++ tt) lc2 n0 r) ?_ n0 ?_
    · rintro n s3 ⟨b2, is2, m2, t3, t4, hq1, hq2, hq3, hq4, hnn, his, hs3, D5⟩
      clear D hm1 hm2 hm3 hm4
      have hisl : is2.length ≤ 6 := by
        rw [his.length, List.length_append, List.length_map, List.length_range, ← hits.length]; exact Nat.add_le_add hitl (Nat.le_trans (Nat.sub_le n0 n) (show n0 ≤ 2 by assumption))
      cases n with
      | zero =>
        w_strict (walk_at "mine go")
        all_goals ((try dsimp only); rename Led _ _ _ _ _ => D)
        · exfalso
          rename (6 ≤ _) => hx
          exact six_no (by assumption) hx
        · rename Sm s s3 => hs4
          refine ⟨b2, _, ⟨is2, m2, t3, t4, hq1, hq2, ?_, by rw [hl2]; exact hq4, ?_, rfl⟩, hs4.go _ _, D⟩
          · rw [hrr, hq3, Nat.mul_zero, Nat.zero_add]
          · rw [hlt, ← Nat.sub_zero n0]; simpa using his
      | succ n =>
        w_strict (walk_at "mine go")
        all_goals ((try dsimp only); rename Led _ _ _ _ _ => D)
        · rw [left6 n r] at D
          simp only [List.push_toArray] at D
          have hex : ((6 * n + r : Nat) : Int).toNat = 6 * (n0 - 1 - (n0 - (n + 1))) + r := left_ex hnn
          refine ⟨n, Nat.lt_succ_self n, ((Str.ofString "leftbits"), _) :: b2, _, _, _, t4, hq1, hq2, rfl, hq4, Nat.le_of_succ_le hnn, ?_, hs3.go _ _, D⟩
          rw [left_n hnn, map_snoc_range, ← List.append_assoc, ← hex]
          exact intsAre_append his (.cons _ _ .nil)
        · exfalso
          rename (¬ (6 ≤ _)) => hx
          exact hx (six_yes n r)
    · rw [show ((lbI i : Nat) : Int) + 8 = ((6 * n0 + r : Nat) : Int) from congrArg Nat.cast hlb] at D
      refine ⟨((Str.ofString "leftbits"), _) :: ((Str.ofString "leftchar"), _) :: ((Str.ofString "b"), _) :: b', its, _, _, _, hm1, hm2, rfl, rfl, Nat.le_refl _, ?_, hs2.go _ _, D⟩
      rw [Nat.sub_self]
      simpa using hits
  · rintro b' l s2 tt ⟨its, n, t1, t2, hm1, hm2, hm3, hm4, hits, rfl⟩ hs2 D4
    clear D D2 Y Sf
    dsimp only [List.cons_append, List.nil_append, lbI, lcI] at D4 hm3 hm4 ⊢
    w_strict (dsimp only [qk]; clear qk; (try clear ek); walk1; k_fold; (iterate 8 walk1); k_fold; (iterate 8 walk1); dsimp only [qk]; clear qk; (try clear ek); walk1; dsimp only [qk]; clear qk; (try clear ek); walk1; k_fold; (iterate 6 walk1); dsimp only [qk]; clear qk; (try clear ek); walk1; k_fold; (iterate 7 walk1))
    (try dsimp only)
    rename Led _ _ _ _ _ => D
    refine bytesL ar'.hh D at0 hits (ltI_in _ _ _) (by rw [hits.length]; have := ltI_len (a.toNat : Int) (b.toNat : Int) (c.toNat : Int) 3; omega) fun h9 t9 k9 D9 => ?_
    exact ret _ _ [] (hs2.go _ _) (Hp.cutT (l0 := []) (D9.drops 1).out) ⟨rfl, _, rfl⟩
theorem sp_b64encode {w : World} {g : Heap} (G : Gd w g) {a b c : UInt8} {t : Tok} : FSpec w g (.ref 77) [.bytes #[a, b, c] t] 4 [] (fun v l => l = [] ∧ ∃ t, v = .bytes (byteArr (ltI (a.toNat : Int) (b.toNat : Int) (c.toNat : Int) 3)) t) := by
  refine .of fun A s z Q E ar H ret => ?_
  refine' enter (binds := [((Str.ofString "s"), .bytes #[a, b, c] t), ((Str.ofString "altchars"), .none)]) (bl := [((Str.ofString "altchars"), .none), ((Str.ofString "s"), .bytes #[a, b, c] t)]) G H ar ?k1 ?k2 ?k3 ?k4 ?k5 ?k6 ?k7 ?k8 ?kb ?_
  case k1 => k_is
  case k2 => k_is
  case k3 => first | exact BindsTo.of_eq rfl | exact binds_K (G.X.keeps H.keep) rfl (by k_is) rfl rfl rfl
  case k4 => exact locs rfl
  case k5 => decide
  case k6 => exact rfl
  case k7 => exact rfl
  case k8 => exact rfl
  case kb => exact rfl
  intro L A' h₁ tk ar' D
  dsimp only [List.cons_append, List.nil_append] at D
  w_strict (walk1; k_fold; (iterate 11 walk1))
  (try dsimp only)
  rename Led _ _ _ _ _ => D
  refine' useAtK (z := z) (p := []) 0 (sp_b2a G) ?uD ?up ar' ?uk ?_
  case uD => exact D
  case up => exact rfl
  case uk => omega
  intro v h' tk l' D1 hv
  obtain ⟨rfl, t1, rfl⟩ := hv
  simp only [List.take_zero, List.nil_append] at D1
  clear D
  w_strict (walk1; dsimp only [qk]; clear qk; (try clear ek); walk1; k_fold; (iterate 8 walk1); dsimp only [qk]; clear qk; (try clear ek); walk1; k_fold; (iterate 2 walk1); dsimp only [qk]; clear qk; (try clear ek))
  (try dsimp only)
  rename Led _ _ _ _ _ => D
  exact ret _ _ [] (Sm.mk (h := h₁) (tk := tk) |>.go _ _) D.out ⟨rfl, _, rfl⟩
-- M21
noncomputable abbrev cellO : Obj := { cls := .type "cell", data := .cell none }
noncomputable abbrev dictO : Obj := { cls := .type "dict", data := .dict #[] }
section
variable {w : World} {g : Heap} {A : Around}
theorem newEnvC {scope : Scope} {globals : Addr} {cl : List (Str × Addr)} {qual : Str} {env : Env} {y : Str} {s : Shared} {E : Value → Shared → Prop} {Q : Env → Shared → Prop} (hc1 : ∀ n, cellsFrom n scope.names cl = (y, n) :: cl) (hc2 : ∀ h, pushCells h scope.names = h.push cellO) (hk : scope.kind = .function)
    (h : Q { scope, locals := s.heap.objs.size, globals, cells := (y, s.heap.objs.size + 1) :: cl, qual, func := none, code := env.code, frame := env.frame, builtins := env.builtins } { s with heap := (s.heap.push dictO).push cellO }) :
    wpAny (model Pg w) A (newFunctionEnv scope globals cl [] qual none .none (some env)) Q E s := by
  simp only [newFunctionEnv, Option.isSome_some, if_true]
  refine wpAny_bind (wpAny_alloc ?_)
  refine wpAny_bind (wpAny_layCells _ (fun name kind cells => by cases hkc : kind == NameKind.cell <;> simp [hkc]) _ _ _ _ ?_)
  rw [hc1, hc2]
  refine wpAny_bind (wpAny_pure ?_)
  refine wpAny_pure ?_
  rw [Heap.size_push]
  exact h
theorem compBlockC {elt iter : Expr} {x : Str} {px : Pos} {ifs : List Expr} {scope : Scope} {pos : Pos} {env : Env} {it : Value} {L : Addr} {m : Str → Option Value} {S : Lgr} {Ps : List (Value → Lgr → Prop)} {s₂ : Shared} {cl : List (Str × Addr)} {y : Str} {RR : Value → Addr → Result → Shared → Prop}
    (J : Addr → Nat → List Value → Lgr → Prop) (hJ : ∀ C i ys l, J C i ys l → ys.length ≤ i ∧ ∀ e ∈ S, e ∈ l) (hlen : Ps.length ≤ 1000)
    (hc1 : ∀ n, cellsFrom n scope.names cl = (y, n) :: cl) (hc2 : ∀ h, pushCells h scope.names = h.push cellO) (hkind : scope.kind = .function)
    (turn : ∀ C i P, Ps[i]? = some P → CompTurn w g A x px ifs elt (compEnvC scope ((y, C + 1) :: cl) C env) C (J C) s₂ i P)
    (hRR : ∀ Dn C oC m' ys k l s', J C Ps.length ys l → Sm s₂ s' → s'.heap.Ns C m' → Led g L m s'.heap ((Dn, listOf ys.toArray k) :: (C, oC) :: l) → RR (.ref Dn) C (.ok .next) s')
    {p l : Lgr} (Y : Yields w g A (.Name x px) it S Ps p) (Sf : SelfIt w g A it S p) (hJ0 : ∀ C, J C 0 [] ((C + 1, cellO) :: l)) (D : Led g L m s₂.heap (l ++ p)) :
    wpAny (model Pg w) A (newList []) (fun acc s₃ => wpAny (model Pg w) A (newFunctionEnv scope env.globals cl [] env.qual none .none (some env)) (fun cenv s₄ =>
      codeAny (model Pg w) A (.compStart (.ListComp elt [⟨.Name x px, iter, ifs, 0⟩] scope pos) 0 it acc { cenv with scope := relabel scope env }) (RR acc cenv.locals) s₄) NoE s₃) NoE s₂ := by
  have D1 := D.push (listOf #[] 0)
  refine wpAny_newObj_type (newEnvC hc1 hc2 hkind ?_)
  have D2 : Led g L m (s₂.heap.push (listOf #[] 0)) ((s₂.heap.objs.size, listOf #[] 0) :: (l ++ p)) := D1
  revert D2
  dsimp only
  generalize hH2 : s₂.heap.push { cls := .type "list", dict := none, data := .seq ([] : List Value).toArray } = H2
  generalize s₂.heap.objs.size = Dn
  intro D2
  have D2 : Led g L m H2 ((Dn, listOf #[] 0) :: (l ++ p)) := hH2 ▸ D2
  obtain ⟨oL, H, back⟩ := D2.hp
  have hk : ∀ b o, H2.get? b = some o → (H2.push dictO).get? b = some o := fun b o e => Heap.get?_push_of_some _ e
  have pm : ((L, oL) :: (Dn, listOf #[] 0) :: (l ++ p)).Perm ((Dn, listOf #[] 0) :: ((l ++ [(L, oL)]) ++ p)) := by
    refine (List.Perm.swap _ _ _).trans (List.Perm.cons _ ?_)
    rw [List.append_assoc]
    exact (List.perm_middle (l₁ := l) (l₂ := p) (a := (L, oL))).symm
  have DC0 : Led g H2.objs.size (mp []) (H2.push dictO) ((Dn, listOf #[] 0) :: ((l ++ [(L, oL)]) ++ p)) := (H.perm pm).led hk (Heap.Ns.new H2 (.type "dict"))
  have DC1 := DC0.push cellO
  rw [Heap.size_push] at DC1
  have DC : Led g H2.objs.size (mp []) ((H2.push dictO).push cellO) ((Dn, listOf #[] 0) :: ((((H2.objs.size + 1, cellO) :: l) ++ [(L, oL)]) ++ p)) := DC1.perm (List.Perm.swap _ _ _)
  have loop : codeAny (model Pg w) A (.compLoop (.ListComp elt [⟨.Name x px, iter, ifs, 0⟩] scope pos) 0 it (.ref Dn) (compEnvC scope ((y, H2.objs.size + 1) :: cl) H2.objs.size env)) (RR (.ref Dn) H2.objs.size) { s₂ with heap := (H2.push dictO).push cellO } := by
    refine compY (S := S) (Ps := Ps) (s₀ := s₂) (fun i ys l' => ∃ l, l' = l ++ [(L, oL)] ∧ J H2.objs.size i ys l) (fun i ys l' hJ' => ?_) hlen (fun i P hP => ?_) (fun b ys k l' s t hJ' hs DD => ?_) Y ⟨_, rfl, hJ0 _⟩ ⟨_, _, rfl⟩ DC
    · obtain ⟨l, rfl, hj⟩ := hJ'
      exact ⟨(hJ _ i ys l hj).1, fun e he => List.mem_append_left _ ((hJ _ i ys l hj).2 e he)⟩
    · rintro v q b ys l' s t hv ⟨l, rfl, hj⟩ hs DD
      rw [List.append_assoc] at DD
      refine wpAny_mono (turn _ i P hP v q b ys l s ([(L, oL)] ++ t) hv hj hs DD) (fun _ s₂ h₂ => wpAny_mono h₂ (fun ok s₃ h₃ => ?_) fun _ _ e => e) fun _ _ e => e
      cases ok with
      | false => rw [if_neg (by decide)] at h₃ ⊢; obtain ⟨b', l', hJ', hs', D₃⟩ := h₃; exact ⟨b', _, ⟨l', rfl, hJ'⟩, hs', by rw [List.append_assoc]; exact D₃⟩
      | true =>
        rw [if_pos rfl] at h₃ ⊢
        refine wpAny_mono h₃ (fun y s₄ h₄ => ?_) fun _ _ e => e
        obtain ⟨b', l', hJ', hs', D₄⟩ := h₄
        exact ⟨b', _, ⟨l', rfl, hJ'⟩, hs', by rw [List.append_assoc]; exact D₄⟩
    · obtain ⟨l, rfl, hj⟩ := hJ'
      obtain ⟨oC, HC, backC⟩ := DD.hp
      refine hRR Dn _ oC (mp b) ys k l s hj hs DD.ns (back _ _ ?_)
      have hsub : ((L, oL) :: (Dn, listOf ys.toArray k) :: (H2.objs.size, oC) :: l).Sublist ((L, oL) :: (Dn, listOf ys.toArray k) :: (H2.objs.size, oC) :: (l ++ t)) := by
        refine List.Sublist.cons_cons _ (List.Sublist.cons_cons _ (List.Sublist.cons_cons _ (List.sublist_append_left l t)))
      refine (HC.perm ?_).sub hsub
      refine (List.Perm.swap _ _ _).trans ?_
      rw [List.append_assoc]
      refine (List.Perm.cons _ (List.Perm.cons _ List.perm_middle)).trans ?_
      refine (List.Perm.cons _ (List.Perm.swap _ _ _)).trans ?_
      exact List.Perm.swap _ _ _
  obtain ⟨oC, HC, _⟩ := DC.hp
  have Hs : Hp g ((H2.push dictO).push cellO) (p ++ ((H2.objs.size, oC) :: (Dn, listOf #[] 0) :: (((H2.objs.size + 1, cellO) :: l) ++ [(L, oL)]))) := by
    exact HC.perm ((List.Perm.cons _ ((List.Perm.cons _ List.perm_append_comm).trans List.perm_middle.symm)).trans List.perm_middle.symm)
  exact codeAny_compStart_list loop (Sf _ _ _ _ Hs (fun e he => List.mem_cons_of_mem _ (List.mem_cons_of_mem _ (List.mem_append_left _ ((hJ _ 0 [] _ (hJ0 H2.objs.size)).2 e he)))) loop)

/-- behind the source's iterator, the comprehension's own name being captured -/
noncomputable def CompAtC (w : World) (g : Heap) (A : Around) (x : Str) (px : Pos) (ifs : List Expr) (elt : Expr) (scope : Scope) (cl : List (Str × Addr)) (y : Str) (env : Env) (Q : Value → Shared → Prop) (it : Value) (s₂ : Shared) : Prop :=
  ∃ (S p l : Lgr) (Ps : List (Value → Lgr → Prop)) (L : Addr) (m : Str → Option Value) (J : Addr → Nat → List Value → Lgr → Prop), (∀ C i ys l, J C i ys l → ys.length ≤ i ∧ ∀ e ∈ S, e ∈ l) ∧ Ps.length ≤ 1000 ∧
    Yields w g A (.Name x px) it S Ps p ∧ SelfIt w g A it S p ∧ (∀ C, J C 0 [] ((C + 1, cellO) :: l)) ∧ Led g L m s₂.heap (l ++ p) ∧
    (∀ C i P, Ps[i]? = some P → CompTurn w g A x px ifs elt (compEnvC scope ((y, C + 1) :: cl) C env) C (J C) s₂ i P) ∧
    (∀ C Dn ys k l s', J C Ps.length ys l → Sm s₂ s' → Led g L m s'.heap ((Dn, listOf ys.toArray k) :: l) → Q (.ref Dn) s')
theorem CompAtC.mk {x y : Str} {px : Pos} {ifs : List Expr} {elt : Expr} {scope : Scope} {cl : List (Str × Addr)} {env : Env} {Q : Value → Shared → Prop} {it : Value} {s₂ : Shared} {S p l : Lgr} {n : Nat} {f : Nat → Value → Lgr → Prop} {L : Addr} {m : Str → Option Value}
    (J : Addr → Nat → List Value → Lgr → Prop) (hJ : ∀ C i ys l, J C i ys l → ys.length ≤ i ∧ ∀ e ∈ S, e ∈ l) (hn : n ≤ 1000) (Y : Yields w g A (.Name x px) it S (pl n f) p) (Sf : SelfIt w g A it S p) (h0 : ∀ C, J C 0 [] ((C + 1, cellO) :: l)) (D : Led g L m s₂.heap (l ++ p))
    (turn : ∀ C i, i < n → CompTurn w g A x px ifs elt (compEnvC scope ((y, C + 1) :: cl) C env) C (J C) s₂ i (f i))
    (done : ∀ C Dn ys k l s', J C n ys l → Sm s₂ s' → Led g L m s'.heap ((Dn, listOf ys.toArray k) :: l) → Q (.ref Dn) s') : CompAtC w g A x px ifs elt scope cl y env Q it s₂ :=
  ⟨S, p, l, pl n f, L, m, J, hJ, by rw [pl_len]; exact hn, Y, Sf, h0, D, fun C i P hP => by obtain ⟨hi, rfl⟩ := pl_get hP; exact turn C i hi, fun C Dn ys k l s' hj hs D => done C Dn ys k l s' (by rw [pl_len] at hj; exact hj) hs D⟩
theorem compEC {elt iter : Expr} {x y : Str} {px : Pos} {ifs : List Expr} {scope : Scope} {pos : Pos} {env : Env} {s : Shared} {cl : List (Str × Addr)} {Q E : Value → Shared → Prop}
    (hclos : closureFor scope env = pure cl) (hc1 : ∀ n, cellsFrom n scope.names cl = (y, n) :: cl) (hc2 : ∀ h, pushCells h scope.names = h.push cellO) (hkind : scope.kind = .function) (hnames : ∀ y ∈ scope.names, y.2 = .local → scope.names.lookup y.1 = some .local)
    (hs : ∀ x, foldedSetIterable iter env x = pure x)
    (h : wpAny (model Pg w) A (eval iter env) (fun xv s₁ => wpAny (model Pg w) A (pyIter xv) (fun it s₂ => CompAtC w g A x px ifs elt scope cl y env Q it s₂) NoE s₁) NoE s) :
    wpAny (model Pg w) A (eval (.ListComp elt [⟨.Name x px, iter, ifs, 0⟩] scope pos) env) Q E s := by
  refine noE ?_
  rw [eval_ListComp]
  refine wpAny_comprehension_free (use := none) rfl hs hclos hkind hnames (wpAny_mono h (fun xv s₁ h₁ => wpAny_mono h₁ (fun it s₂ h₂ => ?_) fun _ _ e => e) fun _ _ e => e)
  obtain ⟨S, p, l, Ps, L, m, J, hJ, hlen, Y, Sf, hJ0, D, turn, done⟩ := h₂
  refine compBlockC (RR := fun acc C => compPost (model Pg w) A NoE none Q acc C) J hJ hlen hc1 hc2 hkind turn (fun Dn C oC m' ys k l s' hj hs' hn D' => ?_) Y Sf hJ0 D
  exact ⟨m', hn, fun h' hsb => done C Dn ys k l _ hj (hs'.go h' s'.toks) ((D'.perm (List.Perm.swap _ _ _)).drop hsb)⟩
end
-- P8
section
open Builtin
theorem hexDigit_lt {n : Nat} (h : n < 16) : Bytes.hexDigit n < 128 := by
  unfold Bytes.hexDigit; split <;> omega
/-- a figure's byte, as b16encode writes it -/
noncomputable def upB (d : Nat) : UInt8 := Bytes.toUpper (Bytes.hexDigit d).toUInt8
noncomputable def upL (a b c : UInt8) : List UInt8 := [upB (a.toNat / 16), upB (a.toNat % 16), upB (b.toNat / 16), upB (b.toNat % 16), upB (c.toNat / 16), upB (c.toNat % 16)]
/-- a table's figure: its column, as four bits -/
noncomputable def fig (V : Nat → Int) (j : Nat) : Int := ((List.range 4).map fun k => V k / 2 ^ (5 - j) % 2 * 2 ^ (3 - k)).sum
theorem two2 {x : Int} : 0 ≤ x % 2 ∧ x % 2 < 2 := mod_in x (by decide)
theorem fig_eq (V : Nat → Int) (s : Nat) : fig V s = (((V 0 / 2 ^ (5 - s) % 2) * 2 + V 1 / 2 ^ (5 - s) % 2) * 2 + V 2 / 2 ^ (5 - s) % 2) * 2 + V 3 / 2 ^ (5 - s) % 2 := (horner two2 two2 two2 two2).1
theorem fig_in (V : Nat → Int) (j : Nat) : 0 ≤ fig V j ∧ fig V j < 16 := by
  rw [fig_eq]
  exact (horner two2 two2 two2 two2).2
theorem methStr {w : World} {A : Around} {s : Shared} {E : Value → Shared → Prop} {x : Str} {t : Tok} {pl : Sem Bool} {Q : Value × List Value → Shared → Prop} {name : PySem.Str} {id : String} (slot : Slot "str" name id) (ty : typeOf (.builtin id) = pure (.type "method_descriptor")) (h : Q (.builtin id, [.str x t]) s) :
    wpAny (model Pg w) A (getMethod (.str x t) name pl) Q E s := getMethod_builtin (typeIs_str _ _ _) F.plainAttrs_str slot ty (fun _ e => nomatch e) h
theorem sEnc : Slot "str" (PySem.Str.ofString "encode") "str.encode" := PySem.F.slot_str_encode
theorem yEnc : typeOf (.builtin "str.encode") = pure (.type "method_descriptor") := PySem.F.type_str_encode
theorem sTrn : Slot "str" (PySem.Str.ofString "translate") "str.translate" := PySem.F.slot_str_translate
theorem yTrn : typeOf (.builtin "str.translate") = pure (.type "method_descriptor") := PySem.F.type_str_translate
section
variable {w : World} {A : Around} {s : Shared} {E : Value → Shared → Prop} {x : Str} {t : Tok} {pl : Sem Bool} {Q : Value × List Value → Shared → Prop}
theorem methEnc (h : Q (.builtin "str.encode", [.str x t]) s) : wpAny (model Pg w) A (getMethod (.str x t) (PySem.Str.ofString "encode") pl) Q E s := @methStr w A s E x t pl Q (PySem.Str.ofString "encode") "str.encode" sEnc yEnc h
theorem methTrn (h : Q (.builtin "str.translate", [.str x t]) s) : wpAny (model Pg w) A (getMethod (.str x t) (PySem.Str.ofString "translate") pl) Q E s := @methStr w A s E x t pl Q (PySem.Str.ofString "translate") "str.translate" sTrn yTrn h
end
end
theorem word60 : True := by
  k_with "getMethod str" => (k_dflt (first
      | ((with_reducible show wpAny _ _ (getMethod _ (PySem.Str.ofString "encode") _) _ _ _); refine' methEnc ?_; k_whole)
      | ((with_reducible show wpAny _ _ (getMethod _ (PySem.Str.ofString "translate") _) _ _ _); refine' methTrn ?_; k_whole)))
  trivial
section
open Builtin
theorem intsAt {vs : List Value} {ns : List Int} (h : IntsAre vs ns) : ∀ {k : Nat} {y : Int}, ns[k]? = some y → ∃ t, vs[k]? = some (.int y t) := by
  induction h with
  | nil => intro k y e; simp at e
  | cons n t _ ih =>
    intro k y e
    cases k with
    | zero => simp at e; subst e; exact ⟨t, rfl⟩
    | succ k => simp at e; obtain ⟨u, hu⟩ := ih e; exact ⟨u, by simpa using hu⟩
theorem itemI {w : World} {g : Heap} {A : Around} {s : Shared} {L : Addr} {m : Str → Option Value} {l : Lgr} {E : Value → Shared → Prop} {value slice : Expr} {a : Addr} {its : List Value} {ns : List Int} {n i : Nat} {k y : Int} {u : Tok} {Q : Value → Shared → Prop} (D : Led g L m s.heap l) (hi : l[i]? = some (a, listOf its.toArray n)) (hs : IntsAre its ns) (h0 : 0 ≤ k) (hk : k < 1000000) (hy : ns[k.toNat]? = some y) (h : ∀ t, Q (.int y t) s)
    (hsb : subscripted slice false (.ref a) (.int k u) = operate [.ref a, .int k u] (getItem (.ref a) (.int k u)) := by with_unfolding_all rfl) : wpAny (model Pg w) A (subscriptTail value slice (.ref a) (.int k u)) Q E s := by
  obtain ⟨t, ht⟩ := intsAt hs hy
  exact itemL D hi h0 hk ht (h t) hsb
end
-- C13
theorem sp_hex {w : World} {g : Heap} (G : Gd w g) {a b c : UInt8} {t : Tok} : FSpec w g (.ref 69) [.bytes #[a, b, c] t] 2 [] (fun v l => l = [] ∧ ∃ t, v = .bytes #[(Builtin.Bytes.hexDigit (a.toNat / 16)).toUInt8, (Builtin.Bytes.hexDigit (a.toNat % 16)).toUInt8, (Builtin.Bytes.hexDigit (b.toNat / 16)).toUInt8, (Builtin.Bytes.hexDigit (b.toNat % 16)).toUInt8, (Builtin.Bytes.hexDigit (c.toNat / 16)).toUInt8, (Builtin.Bytes.hexDigit (c.toNat % 16)).toUInt8] t) := by
  refine .of fun A s z Q E ar H ret => ?_
  refine' enter (binds := [((Str.ofString "data"), .bytes #[a, b, c] t), ((Str.ofString "sep"), .ref 61), ((Str.ofString "bytes_per_sep"), .int 1 324)]) (bl := [((Str.ofString "bytes_per_sep"), .int 1 324), ((Str.ofString "sep"), .ref 61), ((Str.ofString "data"), .bytes #[a, b, c] t)]) G H ar ?k1 ?k2 ?k3 ?k4 ?k5 ?k6 ?k7 ?k8 ?kb ?_
  case k1 => k_is
  case k2 => k_is
  case k3 => first | exact BindsTo.of_eq rfl | exact binds_K (G.X.keeps H.keep) rfl (by k_is) rfl rfl rfl
  case k4 => exact locs rfl
  case k5 => decide
  case k6 => exact rfl
  case k7 => exact rfl
  case k8 => exact rfl
  case kb => exact rfl
  intro L A' h₁ tk ar' D
  dsimp only [List.cons_append, List.nil_append] at D
  w_strict (walk1; k_fold; (iterate 8 walk1))
  (try dsimp only)
  rename Led _ _ _ _ _ => D
  refine' useAt (z := z) (p := []) 0 (sp_buffer G) ?uD ?up ar' ?uk ?_
  case uD => exact D
  case up => exact rfl
  case uk => omega
  intro v h' tk l' D1 hv
  obtain ⟨rfl, rfl⟩ := hv
  simp only [List.take_zero, List.nil_append] at D1
  clear D
  w_strict (walk1; dsimp only [qk]; clear qk; (try clear ek); walk1; k_fold; (iterate 33 walk1); dsimp only [qk]; clear qk; (try clear ek); walk1; k_fold; (iterate 8 walk1); k_fold; (iterate 6 walk1))
  (try dsimp only)
  rename Led _ _ _ _ _ => D
  refine hexW fun t1 k1 => ?_
  try dsimp only
  w_strict ((iterate 5 walk1))
  (try dsimp only)
  rename Led _ _ _ _ _ => D
  refine encW (hexDigit_lt (n := a.toNat / 16) (by have := a.toNat_lt; omega)) (hexDigit_lt (n := a.toNat % 16) (Nat.mod_lt _ (by decide))) (hexDigit_lt (n := b.toNat / 16) (by have := b.toNat_lt; omega)) (hexDigit_lt (n := b.toNat % 16) (Nat.mod_lt _ (by decide))) (hexDigit_lt (n := c.toNat / 16) (by have := c.toNat_lt; omega)) (hexDigit_lt (n := c.toNat % 16) (Nat.mod_lt _ (by decide))) fun t2 k2 => ?_
  exact ret _ _ [] (Sm.mk (h := h₁) (tk := tk) |>.go _ _) D.out ⟨rfl, _, rfl⟩
theorem sp_b16 {w : World} {g : Heap} (G : Gd w g) {a b c : UInt8} {t : Tok} : FSpec w g (.ref 84) [.bytes #[a, b, c] t] 3 [] (fun v l => l = [] ∧ ∃ t, v = .bytes (upL a b c).toArray t) := by
  refine .of fun A s z Q E ar H ret => ?_
  refine' enter (binds := [((Str.ofString "s"), .bytes #[a, b, c] t)]) (bl := [((Str.ofString "s"), .bytes #[a, b, c] t)]) G H ar ?k1 ?k2 ?k3 ?k4 ?k5 ?k6 ?k7 ?k8 ?kb ?_
  case k1 => k_is
  case k2 => k_is
  case k3 => first | exact BindsTo.of_eq rfl | exact binds_K (G.X.keeps H.keep) rfl (by k_is) rfl rfl rfl
  case k4 => exact locs rfl
  case k5 => decide
  case k6 => exact rfl
  case k7 => exact rfl
  case k8 => exact rfl
  case kb => exact rfl
  intro L A' h₁ tk ar' D
  dsimp only [List.cons_append, List.nil_append] at D
  w_strict (walk1; k_fold; (iterate 9 walk1))
  (try dsimp only)
  rename Led _ _ _ _ _ => D
  refine' useAtT (z := z) (p := []) 0 (sp_hex G) ?uD ?up ar' ?uk ?_
  case uD => exact D
  case up => exact rfl
  case uk => omega
  intro t1 h' tk D1
  simp only [List.take_zero, List.nil_append] at D1
  clear D
  w_strict ((iterate 2 walk1))
  (try dsimp only)
  rename Led _ _ _ _ _ => D
  refine upperW (by simp) fun t2 k2 => ?_
  exact ret _ _ [] (Sm.mk (h := h₁) (tk := tk) |>.go _ _) D.out ⟨rfl, _, rfl⟩
-- C14
theorem sp_turned {w : World} {g : Heap} (G : Gd w g) {va : Addr} {its : List Value} {n : Nat} {V : Nat → Int} (hi : IntsAre its ((List.range 4).map V)) :
    FSpec w g (.ref 195) [.ref va] 3 [(va, listOf its.toArray n)] (fun v l => l = [(va, listOf its.toArray n)] ∧ ∃ t, v = .bytes (byteArr [16 * fig V 0 + fig V 1, 16 * fig V 2 + fig V 3, 16 * fig V 4 + fig V 5]) t) := by
  refine .of fun A s z Q E ar H ret => ?_
  refine' enterC (binds := [((Str.ofString "values"), .ref va)]) (bl := []) (cs := fun L => [(L + 1 + 1, none), (L + 1, some (.ref va))]) G H ar ?k1 ?k2 ?k3 ?k4 ?k5 ?k6 ?k7 ?k8 ?kb ?kc ?_
  case k1 => k_is
  case k2 => k_is
  case k3 => first | exact BindsTo.of_eq rfl | exact binds_K (G.X.keeps H.keep) rfl (by k_is) rfl rfl rfl
  case k4 => exact rfl
  case k5 => decide +kernel
  case k6 => exact rfl
  case k7 => exact rfl
  case k8 => exact rfl
  case kb => intro _; kernel_rfl!
  case kc => intro _; kernel_rfl!
  intro L A' h₁ tk cells ar' D Y
  obtain ⟨o1, _, rfl, d1, o2, _, rfl, d2, rfl⟩ := Y
  dsimp only [List.cons_append, List.nil_append] at D
  w_strict (walk1; k_fold; walk1)
  (try dsimp only)
  rename Led _ _ _ _ _ => D
  refine' compEC (g := g) (cl := [((Str.ofString "values"), L + 1)]) (y := (Str.ofString "j")) ?a1 ?a2 ?a3 ?a4 ?a5 ?a6 ?_
  case a1 => kernel_rfl!
  case a2 => intro _; exact rfl
  case a3 => intro _; exact rfl
  case a4 => exact rfl
  case a5 => decide
  case a6 => intro _; exact rfl
  w_strict ((iterate 7 walk1))
  (try dsimp only)
  rename Led _ _ _ _ _ => D
  refine it_range (n := 6) ar'.hh D at0 (by decide) (by decide) fun I p s' hs D2 Y Sf => ?_
  refine CompAtC.mk (n := 6) (l := _) (p := p) (fun C i ys l => ∃ oc vc, oc.data = .cell vc ∧ l = (C + 1, oc) :: _ ∧ IntsAre ys ((List.range i).map (fig V))) ?_ (by decide) (Y _ _) Sf (fun C => ⟨_, none, rfl, rfl, .nil⟩) D2 ?_ ?_
  · rintro C i ys l ⟨oc, vc, _, rfl, hy⟩
    refine ⟨?_, fun e he => nomatch he⟩
    rw [hy.length, List.length_map, List.length_range]; exact Nat.le_refl _
  · intro C i hi6
    refine turnOf fun vv q bb ys l s2 tl hv hJ hs2 D3 => ?_
    obtain ⟨⟨t2, rfl⟩, rfl⟩ := hv
    obtain ⟨oc, vc, hoc, rfl, hys⟩ := hJ
    rw [zero_one]
    clear D D2
    dsimp only [List.cons_append, List.nil_append] at D3
    w_strict ((iterate 8 walk1))
    (try dsimp only)
    rename Led _ _ _ _ _ => D
    rename Obj.data _ = Data.cell (some (Value.int _ _)) => hoj
    rename Obj => oj
    refine' compE (g := g) (cl := [((Str.ofString "values"), L + 1), ((Str.ofString "j"), C + 1)]) ?a1 ?a2 ?a3 ?a4 ?a5 ?_
    case a1 => kernel_rfl!
    case a2 => decide
    case a3 => exact rfl
    case a4 => decide
    case a5 => intro _; exact rfl
    w_strict ((iterate 7 walk1))
    (try dsimp only)
    rename Led _ _ _ _ _ => D
    refine it_range (n := 4) ar'.hh D at0 (by decide) (by decide) fun I2 p2 s7 hs7 D6 Y2 Sf2 => ?_
    refine CompAt.mk (n := 4) (l := _) (p := p2) (fun k us l => l = _ ∧ IntsAre us ((List.range k).map fun k => V k / 2 ^ (5 - i) % 2 * 2 ^ (3 - k))) ?_ (by decide) (Y2 _ _) Sf2 ⟨rfl, .nil⟩ D6 ?_ ?_
    · rintro k us l ⟨rfl, hy⟩
      refine ⟨?_, fun e he => nomatch he⟩
      rw [hy.length, List.length_map, List.length_range]; exact Nat.le_refl _
    · intro C2 k hk
      refine turnOf fun vv q bb us l s8 tl2 hv hJ hs8 D7 => ?_
      obtain ⟨⟨t8, rfl⟩, rfl⟩ := hv
      obtain ⟨rfl, hus⟩ := hJ
      rw [zero_one]
      clear D D6
      dsimp only [List.cons_append, List.nil_append] at D7
      w_strict ((iterate 10 walk1))
      (try dsimp only)
      rename Led _ _ _ _ _ => D
      refine itemI D at5 hi (by omega) (by omega) (by rw [Int.toNat_natCast]; exact range_at _ hk) fun t10 => ?_
      w_strict ((iterate 18 walk1))
      (try dsimp only)
      rename Led _ _ _ _ _ => D
      have e1 : (V k).fdiv (2 ^ (5 - (i : Int)).toNat) % 2 * 2 ^ (3 - (k : Int)).toNat = V k / 2 ^ (5 - i) % 2 * 2 ^ (3 - k) := by
        rw [Int.fdiv_eq_ediv_of_nonneg _ (Int.le_of_lt (pow2_pos _)), show (5 - (i : Int)).toNat = 5 - i from Int.toNat_sub 5 i, show (3 - (k : Int)).toNat = 3 - k from Int.toNat_sub 3 k]
      refine ⟨_, _, ⟨rfl, ?_⟩, hs8.go _ _, D⟩
      rw [map_snoc_range, ← e1]
      exact intsAre_append hus (.cons _ _ .nil)
    · intro Dn us kk l s8 hJ hs8 D7
      obtain ⟨rfl, hus⟩ := hJ
      clear D D6
      w_strict ((iterate 2 walk1))
      (try dsimp only)
      rename Led _ _ _ _ _ => D
      refine ⟨_, _, ⟨oj, _, hoj, rfl, ?_⟩, ((hs2.go _ _).trans hs7).trans hs8 |>.go _ _, D.drops 2⟩
      rw [map_snoc_range (fig V) i]
      exact intsAre_append hys (.cons _ _ .nil)
  · intro C Dn ys kk l s8 hJ hs8 D7
    obtain ⟨oc, vc, hoc, rfl, hys⟩ := hJ
    clear D D2
    w_strict (walk1; dsimp only [qk]; clear qk; (try clear ek); walk1; k_fold; (iterate 5 walk1))
    (try dsimp only)
    rename Led _ _ _ _ _ => D
    rename Obj.data _ = Data.cell (some (Value.ref Dn)) => hof
    rename Obj => ofg
    refine' compE (g := g) (cl := [((Str.ofString "figures"), L + 1 + 1)]) ?a1 ?a2 ?a3 ?a4 ?a5 ?_
    case a1 => kernel_rfl!
    case a2 => decide
    case a3 => exact rfl
    case a4 => decide
    case a5 => intro _; exact rfl
    w_strict ((iterate 9 walk1))
    (try dsimp only)
    rename Led _ _ _ _ _ => D
    refine it_tuple (vs := [_, _, _]) ar'.hh D at0 rfl rfl fun I2 p2 s7 hs7 D6 Y2 Sf2 => ?_
    refine CompAt.mk (n := 3) (l := _) (p := p2) (fun i us l => l = _ ∧ IntsAre us ((List.range i).map fun k => 16 * fig V (2 * k) + fig V (2 * k + 1))) ?_ (by decide) (Y2 _ _) Sf2 ⟨rfl, .nil⟩ D6 ?_ ?_
    · rintro i us l ⟨rfl, hy⟩
      refine ⟨?_, fun e he => ?_⟩
      · rw [hy.length, List.length_map, List.length_range]; exact Nat.le_refl _
      · rw [List.mem_singleton.mp he]; simp
    · intro C2 i hi3
      refine turnOf fun vv q bb us l s9 tl2 hv hJ hs9 D7 => ?_
      obtain ⟨hvv, rfl⟩ := hv
      obtain ⟨rfl, hus⟩ := hJ
      obtain ⟨t8, rfl⟩ : ∃ t8, vv = .int ((2 * i : Nat) : Int) t8 := by
        rcases three hi3 with rfl | rfl | rfl <;> (cases hvv; exact ⟨_, rfl⟩)
      clear D D6
      dsimp only [List.cons_append, List.nil_append] at D7
      w_strict ((iterate 10 walk1))
      (try dsimp only)
      rename Led _ _ _ _ _ => D
      refine itemI D at1 hys (Int.natCast_nonneg _) (by omega) (by rw [Int.toNat_natCast]; exact range_at _ (by omega)) fun t10 => ?_
      have hf := fig_in V (2 * i)
      w_strict ((iterate 7 walk1))
      (try dsimp only)
      rename Led _ _ _ _ _ => D
      refine itemI D at1 hys (Int.natCast_nonneg (2 * i + 1)) (by omega) (by rw [show (((2 * i : Nat) : Int) + 1).toNat = 2 * i + 1 from rfl]; exact range_at _ (by omega)) fun t11 => ?_
      w_strict (walk1)
      (try dsimp only)
      rename Led _ _ _ _ _ => D
      refine ⟨_, _, ⟨rfl, ?_⟩, hs9.go _ _, D⟩
      rw [map_snoc_range (fun k => 16 * fig V (2 * k) + fig V (2 * k + 1)) i]
      exact intsAre_append hus (.cons _ _ .nil)
    · intro Dn2 us k2 l s9 hJ hs9 D7
      obtain ⟨rfl, hus⟩ := hJ
      clear D D6
      w_strict (walk1)
      (try dsimp only)
      rename Led _ _ _ _ _ => D
      refine bytesL ar'.hh D at0 hus ?_ (by rw [hus.length, List.length_map, List.length_range]; decide) fun h9 t9 k9 D9 => ?_
      · intro n hn
        obtain ⟨k, hk, rfl⟩ := List.mem_map.mp hn
        exact two4 (fig_in V (2 * k)) (fig_in V (2 * k + 1))
      have D10 := (D9.pick [7] 8).out
      simp only [pick, List.filterMap_cons, List.filterMap_nil, List.getElem?_cons_zero, List.getElem?_cons_succ, List.drop_succ_cons, List.drop_zero, List.cons_append, List.nil_append] at D10
      exact ret _ _ [_] ((((Sm.mk (h := h₁) (tk := tk)).go _ _).trans hs).trans hs8 |>.go _ _ |>.trans hs7 |>.trans hs9 |>.go _ _) D10 ⟨rfl, _, rfl⟩
-- M22
section
open Builtin
section
variable {w : World} {g : Heap} {A : Around} {s : Shared} {L : Addr} {m : Str → Option Value} {l : Lgr} {E : Value → Shared → Prop}
noncomputable def EnumL (a e it : Addr) (oe oi : Obj) : Prop := ∀ h : Heap, h.get? e = some oe → h.get? it = some oi → IsEnum h e it 0 .none ∧ h.IsListIter it a 0
theorem enumL {a : Addr} {o : Obj} {vs : List Value} {k i : Nat} {Q : Value → Shared → Prop} (D : Led g L m s.heap l) (hi : l[i]? = some (a, o)) (ho : o = listOf vs.toArray k) (h : ∀ e it oe oi h', EnumL a e it oe oi → Led g L m h' ((e, oe) :: (it, oi) :: l) → Q (.ref e) { s with heap := h' }) :
    wpAny (model Pg w) A (call (.type "enumerate") [.ref a]) Q E s := by
  have hl : s.heap.IsList a vs.toArray := ⟨o, D.at hi, by rw [ho], k, by rw [ho]⟩
  refine call_enumerate_list hl fun h' hE hI hz hk => ?_
  obtain ⟨oi, hoi, r⟩ := id hI
  obtain ⟨oe, hoe⟩ : ∃ oe, h'.get? (s.heap.objs.size + 1) = some oe := ⟨_, hE⟩
  have D1 := D.keeps hk
  have fresh : ∀ b, s.heap.objs.size ≤ b → g.get? b = none := fun b hb => by
    cases q : g.get? b with
    | none => rfl
    | some o => exact absurd (Heap.lt_size (D.keep _ _ q)) (Nat.not_lt.mpr hb)
  have old : ∀ p ∈ l, p.1 < s.heap.objs.size := fun p hp => Heap.lt_size (D.nw p hp).1
  have Lo := D.ns.lt
  refine h (s.heap.objs.size + 1) s.heap.objs.size oe oi h' (fun h₂ e1 e2 => ⟨?_, ⟨oi, e2, r⟩⟩) ⟨D1.ns, D1.keep, D1.gL, fun p hp => ?_, ?_⟩
  · show h₂.get? _ = some _
    have h4 : h'.get? (s.heap.objs.size + 1) = some _ := hE
    rw [hoe] at h4
    rw [e1, h4]
  · rcases List.mem_cons.mp hp with rfl | hp
    · exact ⟨hoe, Nat.ne_of_gt (Nat.lt_succ_of_lt Lo), fresh _ (by show _ ≤ s.heap.objs.size + 1; omega)⟩
    · rcases List.mem_cons.mp hp with rfl | hp
      · exact ⟨hoi, Nat.ne_of_gt Lo, fresh _ (Nat.le_refl _)⟩
      · exact D1.nw p hp
  · rw [List.map_cons, List.map_cons, List.nodup_cons, List.nodup_cons]
    refine ⟨fun hm => ?_, fun hm => ?_, D.nd⟩
    · rcases List.mem_cons.mp hm with hm | hm
      · simp at hm
      · obtain ⟨p, hp, e⟩ := List.mem_map.mp hm
        have := old p hp
        rw [e] at this
        exact absurd this (Nat.not_lt.mpr (Nat.le_succ _))
    · obtain ⟨p, hp, e⟩ := List.mem_map.mp hm
      have := old p hp
      rw [e] at this
      exact absurd this (Nat.lt_irrefl _)
/-- the items of enumerate(list) -/
noncomputable abbrev enumLP (vs : List Value) (i : Nat) (v : Value) (q : Lgr) : Prop := ∃ T vals o, (∃ t y, vs[i]? = some y ∧ vals = #[.int i t, y]) ∧ v = .ref T ∧ q = [(T, o)] ∧ o.cls = .type "tuple" ∧ ∃ m, o.data = .seq vals m
theorem it_enumL {a e it : Addr} {o oe oi : Obj} {vs : List Value} {k i : Nat} {Q : Value → Shared → Prop} (ar : A.handled = none) (D : Led g L m s.heap ((e, oe) :: (it, oi) :: l)) (hi : l[i]? = some (a, o)) (ho : o = listOf vs.toArray k) (hE : EnumL a e it oe oi)
    (h : Led g L m s.heap (l ++ [(e, oe), (it, oi)]) → (∀ elts k0 px, Yields w g A (.Tuple elts k0 px) (.ref e) [(a, o)] (pl vs.length (enumLP vs)) [(e, oe), (it, oi)]) → Q (.ref e) s) : wpAny (model Pg w) A (pyIter (.ref e)) Q E s := by
  obtain ⟨h1, h2⟩ := hE s.heap (D.nw _ (.head _)).1 (D.nw _ (.tail _ (.head _))).1
  have nd := D.nd
  rw [List.map_cons, List.map_cons, List.nodup_cons, List.nodup_cons] at nd
  have hne : e ≠ it := fun q => nd.1 (by rw [q]; exact .head _)
  have ham : a ∈ l.map (·.1) := List.mem_map.mpr ⟨(a, o), List.mem_of_getElem? hi, rfl⟩
  have hae : a ≠ e := fun q => nd.1 (.tail _ (q ▸ ham))
  have hai : a ≠ it := fun q => nd.2.1 (q ▸ ham)
  have ha := (D.nw _ (.tail _ (.tail _ (List.mem_of_getElem? hi)))).1
  refine wpAny_pyIter_enum h1 (h (D.perm (List.perm_append_comm (l₁ := [(e, oe), (it, oi)]))) fun elts k0 px => ?_)
  have W := WalksT.enumerate (prog := Pg) (w := w) (A := A) ar e it a hne hae hai vs.toArray
  simp only [List.size_toArray, List.getElem?_toArray] at W
  refine Yields.of_walksT (S := [(a, o)]) W (fun i h st b hb => ?_) vs.length 0 _ (by omega) (by simp) (by simp) (by simp) ⟨s.heap, fun p hp => ?_, fun p hp => by rw [List.mem_singleton.mp hp]; exact ha, ⟨_, h1⟩, h2, ⟨o, ha, by rw [ho], k, by rw [ho]⟩⟩
  · rcases List.mem_cons.mp hb with rfl | hb
    · obtain ⟨⟨old, he⟩, _⟩ := st; exact ⟨_, he⟩
    · rcases List.mem_cons.mp hb with rfl | hb
      · obtain ⟨_, ⟨o, ho, _⟩, _⟩ := st; exact ⟨o, ho⟩
      · rw [List.mem_singleton.mp hb]; obtain ⟨_, _, ⟨o, ho, _⟩⟩ := st; exact ⟨o, ho⟩
  · rcases List.mem_cons.mp hp with rfl | hp
    · exact (D.nw _ (.head _)).1
    · rw [List.mem_singleton.mp hp]; exact (D.nw _ (.tail _ (.head _))).1
end
end
theorem word61 : True := by
  k_with "call type:enumerate" => (k_dflt ((with_reducible rename Led _ _ _ _ _ => D0); first
      | ((with_reducible show wpAny _ _ (call _ [Value.str _ _]) _ _ _); refine' enumS ?k1 D0 ?_; (case k1 => assumption); k_whole; intro _ _ _ _ _ _ _; (try clear D0))
      | ((with_reducible show wpAny _ _ (call _ [Value.ref _]) _ _ _); refine' enumL D0 ?k1 ?k2 ?_; (case k1 => walk_at "mine at"); (case k2 => exact rfl); k_whole; intro _ _ _ _ _ _ _; (try clear D0))))
  trivial
section
open Builtin
theorem join_pieces (ps : List (List Nat)) : Txt.join (Str.ofString "") (ps.map strOf) = strOf ps.flatten := by
  have e : (Str.ofString "").cps = #[] := by decide
  have key : ∀ (ps : List (List Nat)), Str.join (Str.ofString "") (ps.map strOf) = strOf ps.flatten := by
    intro ps
    induction ps with
    | nil => rfl
    | cons c r ih =>
      cases r with
      | nil =>
        show strOf c = strOf (c ++ [])
        rw [List.append_nil]
      | cons d r =>
        show strOf c ++ Str.ofString "" ++ Str.join (Str.ofString "") ((d :: r).map strOf) = _
        rw [ih]
        show (⟨c.toArray ++ (Str.ofString "").cps ++ ((d :: r).flatten).toArray⟩ : Str) = ⟨(c ++ (d :: r).flatten).toArray⟩
        rw [e]
        simp
  exact (StrLaws.glued_eq_join _ _).trans (key ps)
theorem joinP {w : World} {g : Heap} {A : Around} {s : Shared} {L : Addr} {m : Str → Option Value} {l : Lgr} {E : Value → Shared → Prop} {Q : Value → Shared → Prop} {t : Tok} {a : Addr} {its : List Value} {n i : Nat} {ps : List (List Nat)} (D : Led g L m s.heap l) (hi : l[i]? = some (a, listOf its.toArray n)) (hs : StrsAre its (ps.map strOf)) (hz : (ps.map List.length).sum ≤ 1000000)
    (h : ∀ t' k, Q (.str (strOf ps.flatten) t') { s with toks := k }) : wpAny (model Pg w) A (call (.builtin "str.join") [.str (Str.ofString "") t, .ref a]) Q E s := by
  refine joinL D hi hs ?_ fun t' k => by rw [join_pieces]; exact h t' k
  rw [List.map_map, show (Str.length ∘ strOf) = List.length from funext fun l => len_strOf l, len_nil]
  omega
theorem compE0 {w : World} {g : Heap} {A : Around} {L : Addr} {m : Str → Option Value} {l : Lgr} {elt iter : Expr} {x : Str} {px : Pos} {ifs : List Expr} {scope : Scope} {pos : Pos} {env : Env} {s : Shared} {Q E : Value → Shared → Prop} (_D : Led g L m s.heap l)
    (hclos : closureFor scope env = pure []) (hcell : ∀ y ∈ scope.names, y.2 ≠ .cell) (hkind : scope.kind = .function) (hnames : ∀ y ∈ scope.names, y.2 = .local → scope.names.lookup y.1 = some .local)
    (hs : ∀ x, foldedSetIterable iter env x = pure x)
    (h : wpAny (model Pg w) A (eval iter env) (fun xv s₁ => wpAny (model Pg w) A (pyIter xv) (fun it s₂ => CompAt w g A x px ifs elt scope [] env Q it s₂) NoE s₁) NoE s) :
    wpAny (model Pg w) A (eval (.ListComp elt [⟨.Name x px, iter, ifs, 0⟩] scope pos) env) Q E s := compE hclos hcell hkind hnames hs h
end
theorem word62 : True := by
  k_with "eval ListComp" => (k_dflt ((with_reducible rename Led _ _ _ _ _ => D0); refine' compE0 D0 ?a1 ?a2 ?a3 ?a4 ?a5 ?_; (case a1 => kernel_rfl!); (case a2 => decide); (case a3 => exact rfl); (case a4 => decide); (case a5 => intro _; exact rfl); k_whole))
  trivial
-- P9
/-- a sign as it stands in quotation marks -/
noncomputable def escq (c : Nat) : List Nat := if c = 34 ∨ c = 92 then [92, c] else [c]
noncomputable def escb (c : Nat) : List Nat := [92, c]
noncomputable def encT (q : Bool) (w : List Nat) : List Nat := if q then 34 :: ((w.map escq).flatten ++ [34]) else (w.map escb).flatten
noncomputable def sepW (k : Nat) : Nat := if k % 2 = 0 then 32 else 10
noncomputable def quoted (m : Int) (k : Nat) : Bool := decide (m / 2 ^ k % 2 ≠ 0)
/-- the text of the first k words -/
noncomputable def textW (m : Int) (W : List (List Nat)) (k : Nat) : List Nat := ((List.range k).map fun j => encT (quoted m j) (W.getD j []) ++ [sepW j]).flatten
theorem textW_succ (m : Int) (W : List (List Nat)) (k : Nat) : textW m W (k + 1) = textW m W k ++ (encT (quoted m k) (W.getD k []) ++ [sepW k]) := by
  unfold textW
  rw [List.range_succ, List.map_append, List.flatten_append]
  simp
theorem escq_len (c : Nat) : (escq c).length ≤ 2 := by unfold escq; split <;> simp
theorem sum_len_le {f : Nat → List Nat} (h : ∀ c, (f c).length ≤ 2) : ∀ w : List Nat, ((w.map f).map List.length).sum ≤ 2 * w.length
  | [] => by simp
  | c :: r => by
    have := sum_len_le h r
    have := h c
    simp only [List.map_cons, List.sum_cons, List.length_cons]
    omega
theorem flat_len_le {f : Nat → List Nat} (h : ∀ c, (f c).length ≤ 2) (w : List Nat) : (w.map f).flatten.length ≤ 2 * w.length := by
  rw [List.length_flatten]; exact sum_len_le h w
theorem encT_len (q : Bool) (w : List Nat) : (encT q w).length ≤ 2 * w.length + 2 := by
  unfold encT
  cases q with
  | true =>
    have := flat_len_le escq_len w
    simp only [if_true, List.length_cons, List.length_append, List.length_nil]
    omega
  | false =>
    have := flat_len_le (f := escb) (fun c => by simp [escb]) w
    simp only [Bool.false_eq_true, if_false]
    omega
theorem textW_len {m : Int} {W : List (List Nat)} (h : ∀ w ∈ W, w.length ≤ 6) : ∀ k, (textW m W k).length ≤ 15 * k
  | 0 => by simp [textW]
  | k + 1 => by
    have ih := textW_len (m := m) h k
    rw [textW_succ, List.length_append, List.length_append]
    have h1 := encT_len (quoted m k) (W.getD k [])
    have h2 : (W.getD k []).length ≤ 6 := by
      rw [List.getD_eq_getElem?_getD]
      cases e : W[k]? with
      | none => simp
      | some w => exact h w (List.mem_of_getElem? e)
    simp only [List.length_cons, List.length_nil]
    omega
theorem q_has (c : Nat) : (Builtin.Str.occurrences (Str.ofString "\"\\") (one c) 0 (Str.ofString "\"\\").length 1).isEmpty = !decide (c = 34 ∨ c = 92) := by
  have h := StrLaws.found_one (Str.ofString "\"\\") c
  have e : (c ∈ (Str.ofString "\"\\").cps.toList) ↔ (c = 34 ∨ c = 92) := by
    rw [show (Str.ofString "\"\\").cps.toList = [34, 92] by decide +kernel]; simp
  rw [decide_eq_decide.mpr e] at h
  rw [← h, Bool.not_not]; rfl
theorem sep_item (k : Nat) : Txt.item (Str.ofString " \n") ((k : Int) % 2) = one (sepW k) := by
  rw [show Str.ofString " \n" = strOf [32, 10] by decide +kernel]
  refine item_strOf (Int.natCast_nonneg (k % 2)) ?_
  unfold sepW
  have h : k % 2 = 0 ∨ k % 2 = 1 := Nat.mod_two_eq_zero_or_one k
  have e : ((k : Int) % 2).toNat = k % 2 := rfl
  rw [e]
  rcases h with h | h <;> rw [h] <;> simp
section
variable {w : World} {A : Around} {s : Shared} {E : Value → Shared → Prop} {Q : Value → Shared → Prop} {t u : Tok} {x y : Str} {a b : List Nat}
theorem addX (hx : x = strOf a) (hy : y = strOf b) (hz : a.length + b.length ≤ 100000) (h : ∀ t' k, Q (.str (strOf (a ++ b)) t') { s with toks := k }) : wpAny (model Pg w) A (binaryOp .Add (.str x t) (.str y u)) Q E s := by
  subst hx hy; exact addSS hz h
theorem iaddX (hx : x = strOf a) (hy : y = strOf b) (hz : a.length + b.length ≤ 100000) (h : ∀ t' k, Q (.str (strOf (a ++ b)) t') { s with toks := k }) : wpAny (model Pg w) A (inplaceOp .Add (.str x t) (.str y u)) Q E s := by
  subst hx hy; exact iaddSS hz h
end
theorem bs_one (c : Nat) : Str.ofString "\\" ++ one c = strOf [92, c] := by
  rw [show Str.ofString "\\" = strOf [92] by decide +kernel]; exact app_str [92] [c]
theorem dq_str : Str.ofString "\"" = strOf [34] := by decide +kernel
theorem cps_at {w : List Nat} {j c : Nat} (h : (strOf w).cps[j]? = some c) : w[j]? = some c := by simpa [strOf] using h
theorem cps_size (w : List Nat) : (strOf w).cps.size = w.length := by simp [strOf]
theorem q_yes {c : Nat} (h : decide (c = 34 ∨ c = 92) = true) : (Builtin.Str.occurrences (Str.ofString "\"\\") (one c) 0 (Str.ofString "\"\\").length 1).isEmpty = false := by rw [q_has, h]; rfl
theorem q_no {c : Nat} (h : decide (c = 34 ∨ c = 92) = false) : (Builtin.Str.occurrences (Str.ofString "\"\\") (one c) 0 (Str.ofString "\"\\").length 1).isEmpty = true := by rw [q_has, h]; rfl
-- C15
theorem sp_text {w : World} {g : Heap} (G : Gd w g) {wa : Addr} {its : List Value} {n : Nat} {m : Int} {t : Tok} {W : List (List Nat)} (hi : StrsAre its (W.map strOf)) (h6 : ∀ w ∈ W, w.length ≤ 6) (hW : W.length ≤ 10) (ha : ∀ w ∈ W, w.all (· < 128) = true) (hm0 : 0 ≤ m) :
    FSpec w g (.ref 200) [.ref wa, .int m t] 2 [(wa, listOf its.toArray n)] (fun v l => l = [(wa, listOf its.toArray n)] ∧ ∃ t, v = .str (strOf (textW m W W.length)) t) := by
  refine .of fun A s z Q E ar H ret => ?_
  refine' enter (binds := [((Str.ofString "words"), .ref wa), ((Str.ofString "manners"), .int m t)]) (bl := [((Str.ofString "manners"), .int m t), ((Str.ofString "words"), .ref wa)]) G H ar ?k1 ?k2 ?k3 ?k4 ?k5 ?k6 ?k7 ?k8 ?kb ?_
  case k1 => k_is
  case k2 => k_is
  case k3 => first | exact BindsTo.of_eq rfl | exact binds_K (G.X.keeps H.keep) rfl (by k_is) rfl rfl rfl
  case k4 => exact locs rfl
  case k5 => decide
  case k6 => exact rfl
  case k7 => exact rfl
  case k8 => exact rfl
  case kb => exact rfl
  intro L A' h₁ tk ar' D
  dsimp only [List.cons_append, List.nil_append] at D
  w_strict (walk1; k_fold; (iterate 3 walk1); dsimp only [qk]; clear qk; (try clear ek); walk1; k_fold; (iterate 8 walk1))
  (try dsimp only)
  rename Led _ _ _ _ _ => D
  rename EnumL _ _ _ _ _ => hE
  have hlen : its.length = W.length := by rw [hi.len_eq, List.length_map]
  refine it_enumL ar'.hh D at0 rfl hE fun D2 Y => ?_
  rw [hlen] at Y
  refine forF (n := W.length) (L := L) (s₀ := s) (fun i b l => ∃ (t1 : Tok), mp b (Str.ofString "text") = some (.str (strOf (textW m W i)) t1) ∧ mp b (Str.ofString "manners") = some (.int m t) ∧ l = (wa, listOf its.toArray n) :: z) (fun i b l hj e he => ?_) ?_ ?_ (Y _ _ _) ⟨_, by rw [str_nil]; rfl, rfl, rfl⟩ ((Sm.mk (h := h₁) (tk := tk)).go _ _) D2
  · obtain ⟨_, _, _, rfl⟩ := hj
    rw [List.mem_singleton.mp he]; simp
  · rintro i v q b l s2 tt hiW hv ⟨t1, hm1, hm2, rfl⟩ hs2 D4
    obtain ⟨T, vals, oT, ⟨ti, y, hy, rfl⟩, rfl, rfl, hcT, mT, hdT⟩ := hv
    clear D D2 Y hE
    obtain ⟨tw, rfl⟩ : ∃ tw, y = .str (strOf W[i]) tw := by
      obtain ⟨tw, h⟩ := hi.at (j := i) (y := strOf W[i]) (by rw [List.getElem?_map, List.getElem?_eq_getElem hiW]; rfl)
      rw [hy] at h
      exact ⟨tw, Option.some.inj h⟩
    have hmem : W[i] ∈ W := List.getElem_mem hiW
    have hw6 := h6 _ hmem
    have hwa := ha _ hmem
    have hgd : W.getD i [] = W[i] := by rw [List.getD_eq_getElem?_getD, List.getElem?_eq_getElem hiW]; rfl
    generalize W[i] = wd at *
    have htl := textW_len (m := m) h6 i
    dsimp only [List.cons_append, List.nil_append] at D4
    w_strict (walk_at "mine go")
    all_goals ((try dsimp only); rename Led _ _ _ _ _ => D)
    · rename (_ ≠ (0 : Int)) => hq
      have hq2 : quoted m i = true := by
        rw [Int.toNat_natCast, Int.fdiv_eq_ediv_of_nonneg _ (Int.le_of_lt (pow2_pos _))] at hq
        exact decide_eq_true hq
      refine it_str ar'.hh D fun I p s3 hs3 D2 Y Sf => ?_
      rw [cps_size] at Y
      refine CompAt.mk (n := wd.length) (l := _) (p := p) (fun j us l => l = _ ∧ StrsAre us (((wd.take j).map escq).map strOf)) ?_ (by omega) (Y _ _) Sf ⟨rfl, .nil⟩ D2 ?_ ?_
      · rintro j us l ⟨rfl, hy⟩
        refine ⟨?_, fun e he => nomatch he⟩
        rw [hy.len_eq, List.length_map, List.length_map]; exact List.length_take_le _ _
      · intro C j hj
        refine turnOf fun vv q bb us l s4 tl hv hJ hs4 D5 => ?_
        obtain ⟨⟨cc, uu, hcc, rfl⟩, rfl⟩ := hv
        rw [show (⟨#[cc]⟩ : Str) = one cc from rfl]
        obtain ⟨rfl, hus⟩ := hJ
        have hcw := cps_at hcc
        clear D D2
        dsimp only [List.cons_append, List.nil_append] at D5
        cases hqc : decide (cc = 34 ∨ cc = 92) with
        | true =>
          have hoc := q_yes hqc
          have hee : escq cc = [92, cc] := if_pos (of_decide_eq_true hqc)
          w_strict ((iterate 14 walk1))
          (try dsimp only)
          rename Led _ _ _ _ _ => D
          refine addX (b := [cc]) (a := [92]) (by decide +kernel) rfl (by simp) fun t5 k5 => ?_
          refine ⟨_, _, ⟨rfl, ?_⟩, hs4.go _ _, D⟩
          rw [take_map_snoc hcw, List.map_append, List.map_singleton, hee]
          exact StrsAre.snoc hus
        | false =>
          have hoc := q_no hqc
          have hee : escq cc = [cc] := if_neg (of_decide_eq_false hqc)
          w_strict ((iterate 12 walk1))
          (try dsimp only)
          rename Led _ _ _ _ _ => D
          refine ⟨_, _, ⟨rfl, ?_⟩, hs4.go _ _, D⟩
          rw [take_map_snoc hcw, List.map_append, List.map_singleton, hee]
          exact StrsAre.snoc hus
      · intro Dn us kk l s4 hJ hs4 D5
        obtain ⟨rfl, hus⟩ := hJ
        rw [List.take_length] at hus
        clear D D2
        w_strict (walk1)
        (try dsimp only)
        rename Led _ _ _ _ _ => D
        refine joinP D at0 hus (by have := sum_len_le escq_len wd; omega) fun t5 k5 => ?_
        refine addX (a := [34]) (b := (wd.map escq).flatten) (by decide +kernel) rfl (by have := flat_len_le escq_len wd; simp only [List.length_cons, List.length_nil]; omega) fun t6 k6 => ?_
        w_strict (walk1)
        (try dsimp only)
        rename Led _ _ _ _ _ => D
        refine addX (a := [34] ++ (wd.map escq).flatten) (b := [34]) rfl (by decide +kernel) (by have := flat_len_le escq_len wd; simp only [List.length_append, List.length_cons, List.length_nil]; omega) fun t7 k7 => ?_
        w_strict (skip)
        (try dsimp only)
        rename Led _ _ _ _ _ => D
        have hpl := encT_len (quoted m i) wd
        rw [hq2] at hpl
        refine iaddX (a := textW m W i) (b := encT true wd) rfl rfl (by omega) fun t8 k8 => ?_
        w_strict (walk1; dsimp only [qk]; clear qk; (try clear ek); walk1; dsimp only [qk]; clear qk; (try clear ek); walk1; k_fold; (iterate 8 walk1))
        (try dsimp only)
        rename Led _ _ _ _ _ => D
        refine sItemC (n := 2) (sep_item i) (by decide +kernel) (by decide) (by omega) (by omega) fun t9 k9 => ?_
        w_strict ((iterate 2 walk1); dsimp only [qk]; clear qk; (try clear ek); walk1)
        (try dsimp only)
        rename Led _ _ _ _ _ => D
        have heq : textW m W i ++ encT true wd ++ [sepW i] = textW m W (i + 1) := by rw [textW_succ, hgd, hq2, List.append_assoc]
        rw [app_one, heq] at D
        have D8 := D.drops 2
        refine ⟨_, (wa, listOf its.toArray n) :: z, ?_, (hs2.go _ _).trans hs3 |>.trans hs4 |>.go _ _, D8⟩
        exact ⟨_, rfl, hm2, rfl⟩
    · rename (_ = (0 : Int)) => hq
      have hq2 : quoted m i = false := by
        rw [Int.toNat_natCast, Int.fdiv_eq_ediv_of_nonneg _ (Int.le_of_lt (pow2_pos _))] at hq
        exact decide_eq_false fun h => h hq
      refine it_str ar'.hh D fun I p s3 hs3 D2 Y Sf => ?_
      rw [cps_size] at Y
      refine CompAt.mk (n := wd.length) (l := _) (p := p) (fun j us l => l = _ ∧ StrsAre us (((wd.take j).map escb).map strOf)) ?_ (by omega) (Y _ _) Sf ⟨rfl, .nil⟩ D2 ?_ ?_
      · rintro j us l ⟨rfl, hy⟩
        refine ⟨?_, fun e he => nomatch he⟩
        rw [hy.len_eq, List.length_map, List.length_map]; exact List.length_take_le _ _
      · intro C j hj
        refine turnOf fun vv q bb us l s4 tl hv hJ hs4 D5 => ?_
        obtain ⟨⟨cc, uu, hcc, rfl⟩, rfl⟩ := hv
        rw [show (⟨#[cc]⟩ : Str) = one cc from rfl]
        obtain ⟨rfl, hus⟩ := hJ
        have hcw := cps_at hcc
        clear D D2
        dsimp only [List.cons_append, List.nil_append] at D5
        w_strict ((iterate 7 walk1))
        (try dsimp only)
        rename Led _ _ _ _ _ => D
        refine addX (b := [cc]) (a := [92]) (by decide +kernel) rfl (by simp) fun t5 k5 => ?_
        refine ⟨_, _, ⟨rfl, ?_⟩, hs4.go _ _, D⟩
        rw [take_map_snoc hcw, List.map_append, List.map_singleton]
        exact StrsAre.snoc hus
      · intro Dn us kk l s4 hJ hs4 D5
        obtain ⟨rfl, hus⟩ := hJ
        rw [List.take_length] at hus
        clear D D2
        w_strict (walk1)
        (try dsimp only)
        rename Led _ _ _ _ _ => D
        refine joinP D at0 hus (by have := sum_len_le (f := escb) (fun c => by simp [escb]) wd; omega) fun t5 k5 => ?_
        w_strict (skip)
        (try dsimp only)
        rename Led _ _ _ _ _ => D
        have hpl := encT_len (quoted m i) wd
        rw [hq2] at hpl
        refine iaddX (a := textW m W i) (b := encT false wd) rfl rfl (by omega) fun t8 k8 => ?_
        w_strict (walk1; dsimp only [qk]; clear qk; (try clear ek); walk1; dsimp only [qk]; clear qk; (try clear ek); walk1; k_fold; (iterate 8 walk1))
        (try dsimp only)
        rename Led _ _ _ _ _ => D
        refine sItemC (n := 2) (sep_item i) (by decide +kernel) (by decide) (by omega) (by omega) fun t9 k9 => ?_
        w_strict ((iterate 2 walk1); dsimp only [qk]; clear qk; (try clear ek); walk1)
        (try dsimp only)
        rename Led _ _ _ _ _ => D
        have heq : textW m W i ++ encT false wd ++ [sepW i] = textW m W (i + 1) := by rw [textW_succ, hgd, hq2, List.append_assoc]
        rw [app_one, heq] at D
        have D8 := D.drops 2
        refine ⟨_, (wa, listOf its.toArray n) :: z, ?_, (hs2.go _ _).trans hs3 |>.trans hs4 |>.go _ _, D8⟩
        exact ⟨_, rfl, hm2, rfl⟩
  · rintro b l s2 tt ⟨t1, hm1, hm2, rfl⟩ hs2 D4
    clear D D2 Y hE
    dsimp only [List.cons_append, List.nil_append] at D4 ⊢
    w_strict (dsimp only [qk]; clear qk; (try clear ek); walk1; k_fold; (iterate 2 walk1); dsimp only [qk]; clear qk; (try clear ek))
    (try dsimp only)
    rename Led _ _ _ _ _ => D
    exact ret _ _ [_] hs2 (Hp.cutT (l0 := [_]) D.out) ⟨rfl, _, rfl⟩
-- Z1
section
open Builtin
/-- the parts of a zip object over two drawn iterators stand apart -/
structure ZAp (z TI TO i1 i2 : Addr) (f1 f2 : List Addr) : Prop where
  TIz : TI ≠ z
  TOz : TO ≠ z
  TITO : TI ≠ TO
  z1 : z ∉ f1
  z2 : z ∉ f2
  O1 : TO ∉ f1
  O2 : TO ∉ f2
  m1 : i1 ∈ f1
  m2 : i2 ∈ f2
  x12 : i1 ∉ f2
  x21 : i2 ∉ f1
  T1 : TI ≠ i1
  T2 : TI ≠ i2
section
variable {w : World} {A : Around} {E : Value → Shared → Prop} {s : Shared} {z TI TO i1 i2 : Addr} {f1 f2 : List Addr} {n1 n2 : Nat} {P1 P2 : Nat → Value → Prop} {S1 S2 : Nat → Heap → Prop}
theorem ZAp.a1 (D : ZAp z TI TO i1 i2 f1 f2) : i1 ≠ z := fun e => D.z1 (e ▸ D.m1)
theorem ZAp.a2 (D : ZAp z TI TO i1 i2 f1 f2) : i2 ≠ z := fun e => D.z2 (e ▸ D.m2)
theorem ZAp.b1 (D : ZAp z TI TO i1 i2 f1 f2) : i1 ≠ TO := fun e => D.O1 (e ▸ D.m1)
theorem ZAp.b2 (D : ZAp z TI TO i1 i2 f1 f2) : i2 ≠ TO := fun e => D.O2 (e ▸ D.m2)
theorem Draws.off {it : Addr} {fp : List Addr} {n : Nat} {P : Nat → Value → Prop} {St : Nat → Heap → Prop} (W : Draws Pg w A it fp n P St) {i : Nat} {h h' : Heap} {a : Addr} (st : St i h) (hs : Heap.SameBut a h h') (ha : a ∉ fp) : St i h' :=
  W.frame i h h' st fun b hb o e => (hs.2 b fun q => ha (q ▸ hb)).trans e
theorem zipGo (W1 : Draws Pg w A i1 f1 n1 P1 S1) (W2 : Draws Pg w A i2 f2 n2 P2 S2) (D : ZAp z TI TO i1 i2 f1 f2) {k : Nat} {a b : Value} {Q : Value → Shared → Prop} (hk1 : k < n1) (hk2 : k < n2)
    (hz : IsZip s.heap z TI TO .none) (hTI : IsPair s.heap TI (.ref i1) (.ref i2)) (hTO : IsPair s.heap TO a b) (st1 : S1 k s.heap) (st2 : S2 k s.heap)
    (hQ : ∀ x y h' tk, P1 k x → P2 k y → IsZip h' z TI TO (rawInt s.heap.objs.size) → IsPair h' TO x y → S1 (k + 1) h' → S2 (k + 1) h' → IsPair h' s.heap.objs.size x y → h'.objs.size = s.heap.objs.size + 1 →
      (∀ c o, c ≠ z → c ≠ TO → c ≠ i1 → c ≠ i2 → s.heap.get? c = some o → h'.get? c = some o) → Q (.ref s.heap.objs.size) { s with heap := h', toks := tk }) :
    wpAny (model Pg w) A (Builtin.«zip.__next__» ⟨[.ref z], []⟩) (fun fin s' => ∃ v, fin = .done (.ret v) ∧ Q v s') E s := by
  show wpAny _ _ (field (.ref z) 2 >>= _) _ _ _
  refine wpAny_bind (wpAny_field hz rfl (x := .bool false) rfl ?_)
  show wpAny _ _ (field (.ref z) 3 >>= _) _ _ _
  refine wpAny_bind (wpAny_field hz rfl (x := .ref TI) rfl (wpAny_bind (wpAny_seqItems hTI rfl ?_)))
  show wpAny _ _ (Builtin.SmallTypes.ownedTupleIsFree (.ref z) >>= _) _ _ _
  refine wpAny_bind ?_
  unfold Builtin.SmallTypes.ownedTupleIsFree
  refine wpAny_bind (wpAny_field hz rfl (x := .none) rfl (wpAny_pure ?_))
  simp only [if_true]
  refine wpAny_bind (wpAny_rule (wpAny_bind (wpAny_field hz rfl (x := .ref TO) rfl (wpAny_bind (wpAny_setField_rec hz (by simp) fun u1 hz1 e1 => wpAny_bind ?_)))))
  have hz1 : IsZip u1 z TI TO .ellipsis := hz1
  simp only [List.zipIdx_cons, List.zipIdx_nil, List.forIn_cons, List.forIn_nil]
  refine wpAny_bind (wpAny_bind (wpAny_onRaise ?_))
  show wpAny _ _ (Builtin.SmallTypes.nextOf (.ref i1) >>= _) _ _ _
  refine wpAny_bind (W1.item k _ _ _ hk1 (Draws.off W1 st1 e1 D.z1) fun x u2 tk2 px st1' e2 => wpAny_pure ?_)
  have hTO2 : IsPair u2 TO a b := e2.extBut _ _ D.b1.symm (e1.extBut _ _ D.TOz hTO)
  refine wpAny_bind (wpAny_seqItems hTO2 rfl (wpAny_bind (wpAny_updateSeq_pair hTO2 fun u3 hTO3 e3 => wpAny_bind (wpAny_letGo (wpAny_pure ?_)))))
  have hTO3 : IsPair u3 TO x b := hTO3
  refine wpAny_bind (wpAny_bind (wpAny_onRaise ?_))
  show wpAny _ _ (Builtin.SmallTypes.nextOf (.ref i2) >>= _) _ _ _
  refine wpAny_bind (W2.item k _ _ _ hk2 (Draws.off W2 (Draws.off W2 (Draws.off W2 st2 e1 D.z2) e2 D.x12) e3 D.O2) fun y u4 tk4 py st2' e4 => wpAny_pure ?_)
  have hTO4 : IsPair u4 TO x b := e4.extBut _ _ D.b2.symm hTO3
  refine wpAny_bind (wpAny_seqItems hTO4 rfl (wpAny_bind (wpAny_updateSeq_pair hTO4 fun u5 hTO5 e5 => wpAny_bind (wpAny_letGo (wpAny_pure (wpAny_pure ?_))))))
  have hTO5 : IsPair u5 TO x y := hTO5
  refine wpAny_bind (wpAny_seqItems hTO5 rfl (wpAny_bind (wpAny_newTuple ?_)))
  have hsz : u5.objs.size = s.heap.objs.size := by rw [e5.1, e4.1, e3.1, e2.1, e1.1]
  have hz5 : IsZip u5 z TI TO .ellipsis := e5.extBut _ _ D.TOz.symm (e4.extBut _ _ D.a2.symm (e3.extBut _ _ D.TOz.symm (e2.extBut _ _ D.a1.symm hz1)))
  have keep5 : ∀ c o, c ≠ z → c ≠ TO → c ≠ i1 → c ≠ i2 → s.heap.get? c = some o → u5.get? c = some o := fun c o q1 q2 q3 q4 e =>
    e5.extBut _ _ q2 (e4.extBut _ _ q4 (e3.extBut _ _ q2 (e2.extBut _ _ q3 (e1.extBut _ _ q1 e))))
  have s15 : S1 (k + 1) u5 := Draws.off W1 (Draws.off W1 (Draws.off W1 st1' e3 D.O1) e4 D.x21) e5 D.O1
  have s25 : S2 (k + 1) u5 := Draws.off W2 st2' e5 D.O2
  have zlt : z < u5.objs.size := Heap.lt_size hz5
  show wpAny _ _ (Builtin.SmallTypes.ownedTupleHandOut (.ref z) (.ref u5.objs.size) >>= _) _ _ _
  refine wpAny_bind ?_
  unfold Builtin.SmallTypes.ownedTupleHandOut
  have hz6 : IsZip (u5.push { cls := .type "tuple", data := .seq #[x, y] }) z TI TO .ellipsis := Heap.get?_push_of_some _ hz5
  refine wpAny_bind (wpAny_setField_rec hz6 (by simp) fun u7 hz7 e7 => ?_)
  have hz7 : IsZip u7 z TI TO (rawInt u5.objs.size) := hz7
  refine wpAny_setField_rec hz7 (by simp) fun u8 hz8 e8 => ?_
  have up : ∀ c o, c ≠ z → u5.get? c = some o → u8.get? c = some o := fun c o q e => e8.extBut _ _ q (e7.extBut _ _ q (Heap.get?_push_of_some _ e))
  have hT8 : IsPair u8 u5.objs.size x y := e8.extBut _ _ (Nat.ne_of_gt zlt) (e7.extBut _ _ (Nat.ne_of_gt zlt) (Heap.get?_push_size _ rfl))
  have sz8 : u8.objs.size = u5.objs.size + 1 := by rw [e8.1, e7.1, Heap.size_push]
  rw [hsz] at hz8 hT8 sz8
  refine wpAny_pure ⟨_, rfl, ?_⟩
  show Q (.ref u5.objs.size) _
  rw [hsz]
  exact hQ x y u8 tk4 px py hz8 (up _ _ D.TOz hTO5) (W1.frame _ _ _ s15 fun c hc o e => up c o (fun q => D.z1 (q ▸ hc)) e) (W2.frame _ _ _ s25 fun c hc o e => up c o (fun q => D.z2 (q ▸ hc)) e) hT8 sz8
    fun c o q1 q2 q3 q4 e => up c o q1 (keep5 c o q1 q2 q3 q4 e)
theorem zipEnd (W1 : Draws Pg w A i1 f1 n1 P1 S1) (D : ZAp z TI TO i1 i2 f1 f2) {a b : Value} {Q : Fin → Shared → Prop}
    (hz : IsZip s.heap z TI TO .none) (hTI : IsPair s.heap TI (.ref i1) (.ref i2)) (hTO : IsPair s.heap TO a b) (st1 : S1 n1 s.heap)
    (hE : ∀ h' e, (∀ c o, c ≠ z → c ≠ TO → c ≠ i1 → c ≠ i2 → s.heap.get? c = some o → h'.get? c = some o) → (∃ o, h'.get? e = some o ∧ o.cls = .type "StopIteration") → E (.ref e) { s with heap := h' }) :
    wpAny (model Pg w) A (Builtin.«zip.__next__» ⟨[.ref z], []⟩) Q E s := by
  show wpAny _ _ (field (.ref z) 2 >>= _) _ _ _
  refine wpAny_bind (wpAny_field hz rfl (x := .bool false) rfl ?_)
  show wpAny _ _ (field (.ref z) 3 >>= _) _ _ _
  refine wpAny_bind (wpAny_field hz rfl (x := .ref TI) rfl (wpAny_bind (wpAny_seqItems hTI rfl ?_)))
  show wpAny _ _ (Builtin.SmallTypes.ownedTupleIsFree (.ref z) >>= _) _ _ _
  refine wpAny_bind ?_
  unfold Builtin.SmallTypes.ownedTupleIsFree
  refine wpAny_bind (wpAny_field hz rfl (x := .none) rfl (wpAny_pure ?_))
  simp only [if_true]
  refine wpAny_bind (wpAny_rule (wpAny_bind (wpAny_field hz rfl (x := .ref TO) rfl (wpAny_bind (wpAny_setField_rec hz (by simp) fun u1 hz1 e1 => wpAny_bind ?_)))))
  have hz1 : IsZip u1 z TI TO .ellipsis := hz1
  simp only [List.zipIdx_cons, List.zipIdx_nil, List.forIn_cons, List.forIn_nil]
  refine wpAny_bind (wpAny_bind (wpAny_onRaise ?_))
  show wpAny _ _ (Builtin.SmallTypes.nextOf (.ref i1) >>= _) _ _ _
  refine wpAny_bind (W1.done _ _ _ (Draws.off W1 st1 e1 D.z1) fun u2 e ex he => ?_)
  obtain ⟨oe, hoe, hce⟩ := he
  have hz2 : IsZip u2 z TI TO .ellipsis := ex _ _ D.a1.symm hz1
  have ez : e ≠ z := fun q => by rw [q, hz2] at hoe; cases hoe; simp at hce
  exact wpAny_setField_rec hz2 (by simp) fun u3 _ e3 => hE u3 e (fun c o q1 _ q3 _ x => e3.extBut _ _ q1 (ex _ _ q3 (e1.extBut _ _ q1 x))) ⟨oe, e3.extBut _ _ ez hoe, hce⟩
end
end
-- Z2
section
open Builtin
section
variable {w : World} {A : Around} {z TI TO i1 i2 : Addr} {f1 f2 : List Addr} {n1 n2 : Nat} {P1 P2 : Nat → Value → Prop} {S1 S2 : Nat → Heap → Prop}
theorem zipW (hh : A.handled = none) (W1 : Draws Pg w A.in1 i1 f1 n1 P1 S1) (W2 : Draws Pg w A.in1 i2 f2 n2 P2 S2) (D : ZAp z TI TO i1 i2 f1 f2) (hn : n1 ≤ n2) (lt1 : ∀ k h, S1 k h → i1 < h.objs.size) (lt2 : ∀ k h, S2 k h → i2 < h.objs.size) :
    WalksT Pg w A z (z :: TI :: TO :: (f1 ++ f2)) [z, TO, i1, i2] n1 (fun k vals => ∃ x y, P1 k x ∧ P2 k y ∧ vals = #[x, y])
      (fun k h => IsZip h z TI TO .none ∧ IsPair h TI (.ref i1) (.ref i2) ∧ (∃ a b, IsPair h TO a b) ∧ S1 k h ∧ S2 k h)
      (fun k T h => IsZip h z TI TO (rawInt T) ∧ IsPair h TI (.ref i1) (.ref i2) ∧ (∃ a b, IsPair h TO a b) ∧ S1 (k + 1) h ∧ S2 (k + 1) h ∧ T ≠ z ∧ T ≠ TO ∧ T ≠ i1 ∧ T ≠ i2) where
  sub := fun c hc => by
    simp only [List.mem_cons, List.not_mem_nil, or_false, List.mem_append] at hc ⊢
    rcases hc with rfl | rfl | rfl | rfl
    · exact .inl rfl
    · exact .inr (.inr (.inl rfl))
    · exact .inr (.inr (.inr (.inl D.m1)))
    · exact .inr (.inr (.inr (.inr D.m2)))
  frame := fun k h h' hst hk => by
    obtain ⟨hz, hTI, ⟨a, b, hTO⟩, s1, s2⟩ := hst
    exact ⟨hk z (by simp) _ hz, hk TI (by simp) _ hTI, ⟨a, b, hk TO (by simp) _ hTO⟩, W1.frame _ _ _ s1 fun b hb o e => hk b (by simp [hb]) o e, W2.frame _ _ _ s2 fun b hb o e => hk b (by simp [hb]) o e⟩
  item := fun k s Q E hk hst hQ => by
    obtain ⟨hz, hTI, ⟨a, b, hTO⟩, s1, s2⟩ := hst
    have hT : s.TypeIs (.ref z) "zip" := ⟨_, hz, rfl⟩
    have old : ∀ {c o}, s.heap.get? c = some o → s.heap.objs.size ≠ c := fun e => Nat.ne_of_gt (Heap.lt_size e)
    unfold pyNext
    refine wpAny_bind (wpAny_attempt (wpAny_callSpecial?_slot (name := Str.ofString "__next__") hT F.slot_zip_next
      (wpAny_call_entry F.slot_zip_next hT F.entry_zip_next (zipGo W1 W2 D hk (by omega) hz hTI hTO s1 s2 fun x y h' tk px py a1 a2 a3 a4 a5 _ a7 => wpAny_pure ?_) (F.args_zip_next_1 _))))
    exact hQ s.heap.objs.size #[x, y] h' tk ⟨x, y, px, py, rfl⟩ (Nat.le_refl _) ⟨_, a5, rfl, _, rfl⟩
      ⟨a1, a7 _ _ D.TIz D.TITO D.T1 D.T2 hTI, ⟨_, _, a2⟩, a3, a4, old hz, old hTO, Nat.ne_of_gt (lt1 _ _ s1), Nat.ne_of_gt (lt2 _ _ s2)⟩
      fun c o hc e => a7 c o (fun x => hc (by simp [x])) (fun x => hc (by simp [x])) (fun x => hc (by simp [x])) (fun x => hc (by simp [x])) e
  go := fun elts k0 pos k T s Q E hm hQ => by
    obtain ⟨hz, hTI, ⟨a, b, hTO⟩, s1, s2, _⟩ := hm
    refine wpAny_letOwnedTupleGo_zip hz fun h' hz' hs' => hQ h' ⟨hz', hs'.extBut _ _ D.TIz hTI, ⟨a, b, hs'.extBut _ _ D.TOz hTO⟩, Draws.off W1 s1 hs' D.z1, Draws.off W2 s2 hs' D.z2⟩ fun c o hc e => hs'.extBut _ _ (fun x => hc (by simp [x])) e
  apart := fun k T h hm hT => by
    obtain ⟨_, _, _, _, _, t1, t2, t3, t4⟩ := hm
    simp only [List.mem_cons, List.not_mem_nil, or_false] at hT
    rcases hT with rfl | rfl | rfl | rfl
    · exact t1 rfl
    · exact t2 rfl
    · exact t3 rfl
    · exact t4 rfl
  done := fun s Q E hst hQ => by
    obtain ⟨hz, hTI, ⟨a, b, hTO⟩, s1, s2⟩ := hst
    have hT : s.TypeIs (.ref z) "zip" := ⟨_, hz, rfl⟩
    unfold pyNext
    refine wpAny_bind (wpAny_attempt (wpAny_callSpecial?_slot (name := Str.ofString "__next__") hT F.slot_zip_next
      (wpAny_call_entry F.slot_zip_next hT F.entry_zip_next (zipEnd W1 D hz hTI hTO s1 fun h' e hk he => ?_) (F.args_zip_next_1 _))))
    obtain ⟨o, ho, hc⟩ := he
    refine wpAny_bind (wpAny_isInstance (T := "StopIteration") (b := true) ⟨o, ho, hc⟩ isSubtype_stop ?_)
    exact wpAny_pure (hQ h' _ fun c o hc e => hk c o (fun x => hc (by simp [x])) (fun x => hc (by simp [x])) (fun x => hc (by simp [x])) (fun x => hc (by simp [x])) e)
  self := fun k s Q E hst hQ => wpAny_pyIter_zip hst.1 hQ
end
noncomputable abbrev zS1 (h : Heap) (l1 : Addr) : Heap := h.push { cls := .type "list_iterator", data := .fields #[.ref l1, .int 0 0] }
noncomputable abbrev zS2 (h : Heap) (l1 : Addr) (x : Str) (t : Tok) : Heap := (zS1 h l1).push { cls := .type (strIterType x), data := .fields #[.str x t, .int 0 0] }
noncomputable abbrev zS3 (h : Heap) (l1 : Addr) (x : Str) (t : Tok) : Heap := (zS2 h l1 x t).push { cls := .type "tuple", data := .seq #[.ref h.objs.size, .ref (zS1 h l1).objs.size] }
noncomputable abbrev zS4 (h : Heap) (l1 : Addr) (x : Str) (t : Tok) : Heap := (zS3 h l1 x t).push { cls := .type "tuple", data := .seq #[.none, .none] }
noncomputable abbrev zS5 (h : Heap) (l1 : Addr) (x : Str) (t : Tok) : Heap := (zS4 h l1 x t).push { cls := .type "zip", data := .fields #[.none, .bool false, .bool false, .ref (zS2 h l1 x t).objs.size, .ref (zS3 h l1 x t).objs.size] }
set_option maxHeartbeats 1000000 in
theorem zipNewLS (l1 : Addr) (xs : Array Value) (x : Str) (t : Tok) :
    Meets (Builtin.«zip.__new__» ⟨[.type "zip", .ref l1, .str x t], []⟩) (fun _ R s => s.heap.IsList l1 xs ∧ R (.ok (.ret (.ref (zS4 s.heap l1 x t).objs.size))) { s with heap := zS5 s.heap l1 x t }) :=
  .of_wp fun prog w A R s h => by
    obtain ⟨hp, g, d, tk, os⟩ := s; obtain ⟨hl1, h⟩ := h
    have hsub := sub_zip
    have hL1 : Heap.IsList (Shared.heap ⟨hp, g, d, tk, os⟩) l1 xs := hl1
    wp_walk using wpAny_pyIter_list hL1, wpAny_pyIter_strU
    exact ⟨_, rfl, h⟩
end
-- Z3
section
open Builtin
noncomputable abbrev zO (TI TO : Addr) : Obj := { cls := .type "zip", dict := none, data := .fields #[.none, .bool false, .bool false, .ref TI, .ref TO], slots := #[] }
noncomputable abbrev pO (a b : Value) : Obj := { cls := .type "tuple", data := .seq #[a, b] }
noncomputable abbrev liO (a : Addr) : Obj := { cls := .type "list_iterator", data := .fields #[.ref a, .int 0 0] }
noncomputable abbrev siO (x : Str) (t : Tok) : Obj := { cls := .type (strIterType x), data := .fields #[.str x t, .int 0 0] }
section
variable {w : World} {g : Heap} {A : Around} {s : Shared} {L : Addr} {m : Str → Option Value} {l : Lgr} {E : Value → Shared → Prop}
theorem zipLS {a : Addr} {vs : List Value} {k i : Nat} {x : Str} {t : Tok} {Q : Value → Shared → Prop} (D : Led g L m s.heap l) (hi : l[i]? = some (a, listOf vs.toArray k))
    (h : ∀ z TI TO i1 i2 h', Led g L m h' ((z, zO TI TO) :: (TO, pO .none .none) :: (TI, pO (.ref i1) (.ref i2)) :: (i2, siO x t) :: (i1, liO a) :: l) → Q (.ref z) { s with heap := h' }) :
    wpAny (model Pg w) A (call (.type "zip") [.ref a, .str x t]) Q E s := by
  have D1 := ((((D.push (liO a)).push (siO x t)).push (pO (.ref s.heap.objs.size) (.ref (zS1 s.heap a).objs.size))).push (pO .none .none)).push (zO (zS2 s.heap a x t).objs.size (zS3 s.heap a x t).objs.size)
  refine callType_new F.called_zip (by decide) (F.typeCall_zip_2 _ _) (F.newCall_zip_2 _ _) (fun obj => F.args_object_init_3 obj _ _) F.entry_zip_new (zipNewLS a vs.toArray x t) ⟨isList D hi, ?_⟩
  exact ⟨⟨_, (D1.nw _ (.head _)).1, rfl⟩, h _ _ _ _ _ _ D1⟩
/-- the items of zip(list, str) -/
noncomputable abbrev zipP (vs : List Value) (x : Str) (i : Nat) (v : Value) (q : Lgr) : Prop := ∃ T vals o, (∃ y1 y2, vs[i]? = some y1 ∧ (∃ c u, x.cps[i]? = some c ∧ y2 = .str ⟨#[c]⟩ u) ∧ vals = #[y1, y2]) ∧ v = .ref T ∧ q = [(T, o)] ∧ o.cls = .type "tuple" ∧ ∃ m, o.data = .seq vals m
theorem it_zip {a z TI TO i1 i2 : Addr} {vs : List Value} {k i : Nat} {x : Str} {t : Tok} {Q : Value → Shared → Prop} (ar : A.handled = none) (hx : x.cps.all (· < 128) = true) (hn : vs.length ≤ x.cps.size)
    (D : Led g L m s.heap ((z, zO TI TO) :: (TO, pO .none .none) :: (TI, pO (.ref i1) (.ref i2)) :: (i2, siO x t) :: (i1, liO a) :: l)) (hi : l[i]? = some (a, listOf vs.toArray k))
    (h : Led g L m s.heap (l ++ [(z, zO TI TO), (TO, pO .none .none), (TI, pO (.ref i1) (.ref i2)), (i2, siO x t), (i1, liO a)]) →
      (∀ elts k0 px, Yields w g A (.Tuple elts k0 px) (.ref z) [(a, listOf vs.toArray k)] (pl vs.length (zipP vs x)) [(z, zO TI TO), (TO, pO .none .none), (TI, pO (.ref i1) (.ref i2)), (i2, siO x t), (i1, liO a)]) → Q (.ref z) s) :
    wpAny (model Pg w) A (pyIter (.ref z)) Q E s := by
  have nd := D.nd
  have ham : a ∈ l.map (·.1) := List.mem_map.mpr ⟨_, List.mem_of_getElem? hi, rfl⟩
  simp only [List.map_cons, List.nodup_cons, List.mem_cons, not_or] at nd
  obtain ⟨⟨zO', zI, z2, z1, zl⟩, ⟨OI, O2, O1, Ol⟩, ⟨I2, I1, Il⟩, ⟨i21, i2l⟩, i1l, -⟩ := nd
  have az : a ≠ z := fun e => zl (e ▸ ham)
  have aO : a ≠ TO := fun e => Ol (e ▸ ham)
  have ai2 : a ≠ i2 := fun e => i2l (e ▸ ham)
  have ai1 : a ≠ i1 := fun e => i1l (e ▸ ham)
  have ad : ZAp z TI TO i1 i2 [i1, a] [i2] :=
    ⟨fun e => zI e.symm, fun e => zO' e.symm, fun e => OI e.symm, by simp [z1, az.symm], by simp [z2], by simp [O1, aO.symm], by simp [O2], by simp, by simp, by simp; exact fun e => i21 e.symm, by simp [i21, ai2.symm], I1, I2⟩
  have st : strIterType x = "str_ascii_iterator" := by unfold strIterType; rw [if_pos hx]
  have gz := (D.nw _ (.head _)).1
  have gO := (D.nw _ (.tail _ (.head _))).1
  have gI := (D.nw _ (.tail _ (.tail _ (.head _)))).1
  have g2 := (D.nw _ (.tail _ (.tail _ (.tail _ (.head _))))).1
  have g1 := (D.nw _ (.tail _ (.tail _ (.tail _ (.tail _ (.head _)))))).1
  have ga := (D.nw _ (.tail _ (.tail _ (.tail _ (.tail _ (.tail _ (List.mem_of_getElem? hi))))))).1
  have W1 := Draws.list (prog := Pg) (w := w) (A := A.in1) ar i1 a ai1 vs.toArray
  have W2 := Draws.strAscii (prog := Pg) (w := w) (A := A.in1) ar i2 x t
  have W := zipW (z := z) (TI := TI) (TO := TO) ar W1 W2 ad (by simpa using hn) (fun k h q => by obtain ⟨⟨_, e, _⟩, _⟩ := q; exact Heap.lt_size e) (fun k h q => by obtain ⟨_, e, _⟩ := q; exact Heap.lt_size e)
  simp only [List.size_toArray, List.getElem?_toArray] at W
  refine wpAny_pyIter_zip gz (h (D.perm (List.perm_append_comm (l₁ := [_, _, _, _, _]))) fun elts k0 px => ?_)
  refine Yields.of_walksT (S := [(a, listOf vs.toArray k)]) W (fun i h st b hb => ?_) vs.length 0 _ (by omega) (by simp) (by simp) (by simp) ⟨s.heap, fun p hp => ?_, fun p hp => by rw [List.mem_singleton.mp hp]; exact ga, gz, gI, ⟨_, _, gO⟩, ⟨⟨_, g1, rfl, rfl⟩, ⟨_, ga, rfl, k, rfl⟩⟩, ⟨_, g2, congrArg Value.type st, rfl⟩⟩
  · obtain ⟨e1, e2, ⟨_, _, e3⟩, ⟨⟨o4, e4, _⟩, ⟨o5, e5, _⟩⟩, ⟨o6, e6, _⟩⟩ := st
    simp only [List.mem_cons, List.mem_append, List.not_mem_nil, or_false] at hb
    rcases hb with rfl | rfl | rfl | (rfl | rfl) | rfl
    · exact ⟨_, e1⟩
    · exact ⟨_, e2⟩
    · exact ⟨_, e3⟩
    · exact ⟨_, e4⟩
    · exact ⟨_, e5⟩
    · exact ⟨_, e6⟩
  · simp only [List.mem_cons, List.not_mem_nil, or_false] at hp
    rcases hp with rfl | rfl | rfl | rfl | rfl
    · exact gz
    · exact gO
    · exact gI
    · exact g2
    · exact g1
end
end
theorem word63 : True := by
  k_with "call type:zip" => (k_dflt ((with_reducible rename Led _ _ _ _ _ => D0); (refine' zipLS D0 ?k1 ?_; (case k1 => walk_at "mine at"); k_whole; intro _ _ _ _ _ _ _; (try clear D0))))
  trivial
-- P10
/-- the pattern's items as the law reads them: the sign of 0 for the chosen, nothing for the others -/
structure ItemsAre (c0 : Nat) (X : Nat → Bool) (its : List Value) : Prop where
  len : its.length = 4
  yes : ∀ k, k < 4 → X k = true → ∃ t, its[k]? = some (.str (one c0) t)
  no : ∀ k, k < 4 → X k = false → its[k]? = some .none
noncomputable def fitB (c0 : Nat) (X : Nat → Bool) (word : List Nat) : Bool := (List.range 4).all fun k => !X k || word.getD k 0 == c0
theorem in_one {c d : Nat} {b : Bool} (h : decide (c = d) = b) : (Builtin.Str.occurrences (one d) (one c) 0 (one d).length 1).isEmpty = !b := by
  have h1 := StrLaws.found_one (one d) c
  have e : (c ∈ (one d).cps.toList) ↔ c = d := by simp [one]
  rw [decide_eq_decide.mpr e, h] at h1
  have h2 : (!(Builtin.Str.occurrences (one d) (one c) 0 (one d).length 1).isEmpty) = b := h1
  rw [← h2, Bool.not_not]
theorem fit_true {c0 : Nat} {X : Nat → Bool} {wd : List Nat} (h : ∀ k, k < 4 → X k = true → wd.getD k 0 = c0) : fitB c0 X wd = true := by
  unfold fitB
  rw [List.all_eq_true]
  intro k hk
  cases hX : X k with
  | false => rfl
  | true => rw [h k (List.mem_range.mp hk) hX]; simp
theorem fit_false {c0 : Nat} {X : Nat → Bool} {wd : List Nat} {k : Nat} (hk : k < 4) (hX : X k = true) (hne : wd.getD k 0 ≠ c0) : fitB c0 X wd = false := by
  unfold fitB
  rw [List.all_eq_false]
  refine ⟨k, List.mem_range.mpr hk, ?_⟩
  rw [hX]
  simpa using hne
theorem upto_succ {P : Nat → Prop} {i : Nat} (h : ∀ k, k < i → P k) (hi : P i) : ∀ k, k < i + 1 → P k := fun k hk => by
  rcases Nat.lt_or_eq_of_le (Nat.le_of_lt_succ hk) with h1 | rfl
  · exact h k h1
  · exact hi
-- C16
theorem sp_fits {w : World} {g : Heap} (G : Gd w g) {ia : Addr} {its : List Value} {n c0 : Nat} {X : Nat → Bool} {t : Tok} {wd : List Nat} (hi : ItemsAre c0 X its) (h4 : wd.length = 4) (ha : wd.all (· < 128) = true) :
    FSpec w g (.ref 221) [.ref ia, .str (strOf wd) t] 2 [(ia, listOf its.toArray n)] (fun v l => l = [(ia, listOf its.toArray n)] ∧ v = .bool (fitB c0 X wd)) := by
  refine .of fun A s z Q E ar H ret => ?_
  refine' enter (binds := [((Str.ofString "items"), .ref ia), ((Str.ofString "word"), .str (strOf wd) t)]) (bl := [((Str.ofString "word"), .str (strOf wd) t), ((Str.ofString "items"), .ref ia)]) G H ar ?k1 ?k2 ?k3 ?k4 ?k5 ?k6 ?k7 ?k8 ?kb ?_
  case k1 => k_is
  case k2 => k_is
  case k3 => first | exact BindsTo.of_eq rfl | exact binds_K (G.X.keeps H.keep) rfl (by k_is) rfl rfl rfl
  case k4 => exact locs rfl
  case k5 => decide
  case k6 => exact rfl
  case k7 => exact rfl
  case k8 => exact rfl
  case kb => exact rfl
  intro L A' h₁ tk ar' D
  dsimp only [List.cons_append, List.nil_append] at D
  w_strict (walk1; k_fold; (iterate 10 walk1))
  (try dsimp only)
  rename Led _ _ _ _ _ => D
  have hax : (strOf wd).cps.all (· < 128) = true := all_strOf ha
  refine it_zip ar'.hh hax (by rw [cps_size, h4, hi.len]; exact Nat.le_refl _) D at0 fun D2 Y => ?_
  rw [hi.len] at Y
  refine forF (n := 4) (L := L) (s₀ := s) (fun i b l => (∀ k, k < i → X k = true → wd.getD k 0 = c0) ∧ mp b (Str.ofString "items") = some (.ref ia) ∧ mp b (Str.ofString "word") = some (.str (strOf wd) t) ∧ l = (ia, listOf its.toArray n) :: z) (fun i b l hj e he => ?_) ?_ ?_ (Y _ _ _) ⟨fun k hk => absurd hk (Nat.not_lt_zero _), rfl, rfl, rfl⟩ ((Sm.mk (h := h₁) (tk := tk)).go _ _) D2
  · obtain ⟨_, _, _, rfl⟩ := hj
    rw [List.mem_singleton.mp he]; simp
  · rintro i v q b l s2 tt hi4 hv ⟨hok, hm1, hm2, rfl⟩ hs2 D4
    obtain ⟨T, vals, oT, ⟨y1, y2, hy1, ⟨cc, uu, hcc, rfl⟩, rfl⟩, rfl, rfl, hcT, mT, hdT⟩ := hv
    clear D D2 Y
    have hcw := cps_at hcc
    have hgd : wd.getD i 0 = cc := by rw [List.getD_eq_getElem?_getD, hcw]; rfl
    rw [show (⟨#[cc]⟩ : Str) = one cc from rfl] at hdT
    dsimp only [List.cons_append, List.nil_append] at D4
    cases hX : X i with
    | false =>
      have := hi.no i hi4 hX
      rw [hy1] at this
      cases this
      w_strict ((iterate 2 walk1); k_fold; (iterate 10 walk1); dsimp only [qk]; clear qk; (try clear ek); walk1)
      (try dsimp only)
      rename Led _ _ _ _ _ => D
      have D8 := D.drops 1
      exact ⟨((Str.ofString "sign"), _) :: ((Str.ofString "item"), _) :: b, (ia, listOf its.toArray n) :: z, ⟨upto_succ hok (fun h => by rw [hX] at h; cases h), hm1, hm2, rfl⟩, hs2.go _ _, D8⟩
    | true =>
      obtain ⟨t9, hy9⟩ := hi.yes i hi4 hX
      rw [hy1] at hy9
      cases hy9
      cases hq : decide (cc = c0) with
      | true =>
        have hoc : (Builtin.Str.occurrences (one c0) (one cc) 0 (one c0).length 1).isEmpty = false := in_one hq
        w_strict ((iterate 2 walk1); k_fold; (iterate 18 walk1); dsimp only [qk]; clear qk; (try clear ek); walk1)
        (try dsimp only)
        rename Led _ _ _ _ _ => D
        have D8 := D.drops 1
        exact ⟨((Str.ofString "sign"), _) :: ((Str.ofString "item"), _) :: b, (ia, listOf its.toArray n) :: z, ⟨upto_succ hok (fun _ => by rw [hgd]; exact of_decide_eq_true hq), hm1, hm2, rfl⟩, hs2.go _ _, D8⟩
      | false =>
        have hoc : (Builtin.Str.occurrences (one c0) (one cc) 0 (one c0).length 1).isEmpty = true := in_one hq
        w_strict ((iterate 2 walk1); k_fold; (iterate 19 walk1); k_fold; (iterate 2 walk1); dsimp only [qk]; clear qk; (try clear ek); dsimp only [qk]; clear qk; (try clear ek); dsimp only [qk]; clear qk; (try clear ek))
        (try dsimp only)
        rename Led _ _ _ _ _ => D
        exact ret _ _ [_] (hs2.go _ _) (Hp.cutT (l0 := [_]) (D.drops 1).out) ⟨rfl, congrArg Value.bool (fit_false hi4 hX (by rw [hgd]; exact of_decide_eq_false hq)).symm⟩
  · rintro b l s2 tt ⟨hok, hm1, hm2, rfl⟩ hs2 D4
    clear D D2 Y
    dsimp only [List.cons_append, List.nil_append] at D4 ⊢
    have hil := hi.len
    have hwl : (strOf wd).length = 4 := by rw [len_strOf, h4]
    have hz1 : its.length ≤ 1000 := by omega
    w_strict (walk1; k_fold; (iterate 17 walk1); dsimp only [qk]; clear qk; (try clear ek))
    (try dsimp only)
    rename Led _ _ _ _ _ => D
    have e : (((its.toArray.size : Nat) : Int) == (((strOf wd).length : Nat) : Int)) = true := by rw [List.size_toArray, hil, hwl]; rfl
    rw [e]
    exact ret _ _ [_] (hs2.go _ _) (Hp.cutT (l0 := [_]) D.out) ⟨rfl, congrArg Value.bool (fit_true hok).symm⟩
-- P11
section
open Builtin Builtin.Str
theorem gives_idx3 {x y : Str} {i : Int} {k : Nat} {r : List Nat} {t u v : Tok} (h : occurrences x y (fromIndex x.length i) x.length 1 = k :: r) : Gives («str.index» ⟨[.str x t, .str y u, .int i v], []⟩) (.int k) := by
  show Gives (match occurrences x y (fromIndex x.length i) (min x.length x.length) 1 with | i :: _ => retInt i | [] => (do rule "str.index.not-found"; raiseError "ValueError" "substring not found")) _
  rw [Nat.min_self, h]
  exact .of_eq rfl
theorem idxFrom {w : World} {A : Around} {s : Shared} {E Q : Value → Shared → Prop} {t u v : Tok} {T : List Nat} {c p k : Nat} (hpk : p ≤ k) (hk : T[k]? = some c) (hb : ∀ j, p ≤ j → j < k → T[j]? ≠ some c)
    (h : ∀ t tk, Q (.int (k : Int) t) { s with toks := tk }) : wpAny (model Pg w) A (call (.builtin "str.index") [.str (strOf T) t, .str (one c) u, .int (p : Int) v]) Q E s := by
  have hf : fromIndex (strOf T).length (p : Int) = p := by
    unfold fromIndex
    rw [if_neg (Int.not_lt.mpr (Int.natCast_nonneg p)), Int.max_eq_right (Int.natCast_nonneg p)]; rfl
  have at_ : ∀ j, (StrLaws.At (strOf T) (one c) (strOf T).length j ↔ T[j]? = some c) := fun j => by
    exact StrLaws.subAt_one (strOf T) c j
  have key : ∃ r, occurrences (strOf T) (one c) (fromIndex (strOf T).length (p : Int)) (strOf T).length 1 = k :: r := by
    rw [hf]
    rcases StrLaws.occ_head_from (strOf T) (one c) p 1 (Nat.le_refl 1) with ⟨_, hn⟩ | ⟨i, r, h0, hlo, hat, hn⟩
    · exact absurd ((at_ k).mpr hk) (hn k hpk)
    · have : i = k := by
        rcases Nat.lt_trichotomy i k with h1 | h1 | h1
        · exact absurd ((at_ i).mp hat) (hb i hlo h1)
        · exact h1
        · exact absurd ((at_ k).mpr hk) (hn k hpk h1)
      exact ⟨r, by rw [h0, this]⟩
  obtain ⟨r, hr⟩ := key
  exact call_gives F.slot_str_index (typeIs_str _ _ _) F.entry_str_index (F.args_str_index_3 _ _ _) (gives_idx3 hr) (h _ _)
/-- a text without its shields -/
noncomputable def bareF : List Nat → Bool → List Nat
  | [], _ => []
  | c :: r, sh => if c = 92 ∧ sh = false then bareF r true else c :: bareF r false
/-- what translate writes for the sign of 0 -/
noncomputable def tp (c : Nat) : List Nat := if c = 42 ∨ c = 63 then [91, c, 93] else if c = 91 then [91, 92, 91, 93] else if c = 97 ∨ c = 33 ∨ c = 34 then [c] else [92, c]
noncomputable def pc (c0 : Nat) (X : Nat → Bool) (k : Nat) : List Nat := if X k then tp c0 else [46]
noncomputable def preT : List Nat := [40, 63, 115, 58]
noncomputable def postT : List Nat := [41, 92, 90]
noncomputable def rest (c0 : Nat) (X : Nat → Bool) (k : Nat) : List Nat := (((List.range 4).drop k).map (pc c0 X)).flatten ++ postT
noncomputable def tT (c0 : Nat) (X : Nat → Bool) : List Nat := preT ++ rest c0 X 0
theorem rest_succ {c0 : Nat} {X : Nat → Bool} {k : Nat} (h : k < 4) : rest c0 X k = pc c0 X k ++ rest c0 X (k + 1) := by
  unfold rest
  have e : (List.range 4).drop k = k :: (List.range 4).drop (k + 1) := by
    rw [List.drop_eq_getElem_cons (by simpa using h)]; simp
  rw [e, List.map_cons, List.flatten_cons, List.append_assoc]
theorem rest_four (c0 : Nat) (X : Nat → Bool) : rest c0 X 4 = postT := rfl
theorem tp_len (c : Nat) : 1 ≤ (tp c).length ∧ (tp c).length ≤ 4 := by
  unfold tp; split
  · simp
  · split
    · simp
    · split <;> simp
theorem pc_len (c0 : Nat) (X : Nat → Bool) (k : Nat) : 1 ≤ (pc c0 X k).length ∧ (pc c0 X k).length ≤ 4 := by
  unfold pc; cases X k
  · simp
  · simpa using tp_len c0
theorem rest_len {c0 : Nat} {X : Nat → Bool} : ∀ {k : Nat}, k ≤ 4 → (4 - k) + 3 ≤ (rest c0 X k).length ∧ (rest c0 X k).length ≤ 4 * (4 - k) + 3 := by
  have h4 : (4 - 4) + 3 ≤ (rest c0 X 4).length ∧ (rest c0 X 4).length ≤ 4 * (4 - 4) + 3 := by simp [rest_four, postT]
  have step : ∀ k m, k < 4 → (m + 3 ≤ (rest c0 X (k + 1)).length ∧ (rest c0 X (k + 1)).length ≤ 4 * m + 3) → m + 1 + 3 ≤ (rest c0 X k).length ∧ (rest c0 X k).length ≤ 4 * (m + 1) + 3 := fun k m hk h => by
    rw [rest_succ hk, List.length_append]
    exact near_len h (pc_len c0 X k).1 (pc_len c0 X k).2
  have h3 := step 3 0 (by decide) h4
  have h2 := step 2 1 (by decide) h3
  have h1 := step 1 2 (by decide) h2
  have h0 := step 0 3 (by decide) h1
  exact fun {k} hk => AllN.get (P := fun k => (4 - k) + 3 ≤ (rest c0 X k).length ∧ (rest c0 X k).length ≤ 4 * (4 - k) + 3) (n := 5) ⟨⟨⟨⟨⟨trivial, h0⟩, h1⟩, h2⟩, h3⟩, h4⟩ k (Nat.lt_succ_of_le hk)
theorem drop_at {T : List Nat} {i c : Nat} (h : T[i]? = some c) : T.drop i = c :: T.drop (i + 1) := by
  obtain ⟨h1, h2⟩ := List.getElem?_eq_some_iff.mp h
  rw [List.drop_eq_getElem_cons h1, h2]
theorem one_eq (c d : Nat) (h : c = d) : (one c == one d) = true := by subst h; exact beq_self_eq_true _
theorem bs_lit : Str.ofString "\\" = one 92 := by decide +kernel
end
-- C17
inductive BareJ (T : List Nat) (z : Lgr) (i : Nat) (b : List (Str × Value)) (l : Lgr) : Prop
  | mk (acc : List Nat) (sh : Bool) (t1 : Tok) (h1 : acc.length ≤ i) (h2 : acc ++ bareF (T.drop i) sh = bareF T false) (h3 : mp b (Str.ofString "signs") = some (.str (strOf acc) t1)) (h4 : mp b (Str.ofString "shielded") = some (.bool sh)) (h5 : l = z) : BareJ T z i b l
theorem sp_bare {w : World} {g : Heap} (G : Gd w g) {T : List Nat} {t : Tok} (h4 : T.length ≤ 4) : FSpec w g (.ref 207) [.str (strOf T) t] 2 [] (fun v l => l = [] ∧ ∃ t, v = .str (strOf (bareF T false)) t) := by
  refine .of fun A s z Q E ar H ret => ?_
  refine' enter (binds := [((Str.ofString "text"), .str (strOf T) t)]) (bl := [((Str.ofString "text"), .str (strOf T) t)]) G H ar ?k1 ?k2 ?k3 ?k4 ?k5 ?k6 ?k7 ?k8 ?kb ?_
  case k1 => k_is
  case k2 => k_is
  case k3 => first | exact BindsTo.of_eq rfl | exact binds_K (G.X.keeps H.keep) rfl (by k_is) rfl rfl rfl
  case k4 => exact locs rfl
  case k5 => decide
  case k6 => exact rfl
  case k7 => exact rfl
  case k8 => exact rfl
  case kb => exact rfl
  intro L A' h₁ tk ar' D
  dsimp only [List.cons_append, List.nil_append] at D
  w_strict (walk1; k_fold; (iterate 9 walk1); dsimp only [qk]; clear qk; (try clear ek); walk1; k_fold; (iterate 2 walk1))
  (try dsimp only)
  rename Led _ _ _ _ _ => D
  have D := D.drops 1
  refine it_str ar'.hh D fun I p s3 hs3 D2 Y Sf => ?_
  rw [cps_size] at Y
  refine forF (n := T.length) (L := L) (s₀ := s) (BareJ T z) (fun i b l hj e he => by cases he) ?_ ?_ (Y _ _) ⟨[], false, _, Nat.zero_le _, rfl, by rw [← str_nil]; rfl, rfl, rfl⟩ (((Sm.mk (h := h₁) (tk := tk)).go _ _).trans hs3) D2
  · rintro i v q b l s2 tt hi4 hv ⟨acc, sh, t1, hal, hacc, hm1, hm2, rfl⟩ hs2 D4
    obtain ⟨⟨cc, uu, hcc, rfl⟩, rfl⟩ := hv
    rw [show (⟨#[cc]⟩ : Str) = one cc from rfl]
    clear D D2 Y Sf
    have hcw := cps_at hcc
    rw [drop_at hcw] at hacc
    dsimp only [List.cons_append, List.nil_append] at D4
    cases hq : decide (cc = 92) with
    | true =>
      have hc := of_decide_eq_true hq
      subst hc
      have he : (one 92 == Str.ofString "\\") = true := by rw [bs_lit]; exact one_eq _ _ rfl
      cases sh with
      | true =>
        w_strict ((iterate 3 walk1); k_fold; (iterate 16 walk1); k_fold; (iterate 5 walk1); dsimp only [qk]; clear qk; (try clear ek); walk1; k_fold; (iterate 3 walk1); dsimp only [qk]; clear qk; (try clear ek); walk1; dsimp only [qk]; clear qk; (try clear ek); walk1)
        (try dsimp only)
        rename Led _ _ _ _ _ => D
        rw [app_one] at D
        refine ⟨_, _, ⟨acc ++ [92], false, _, ?_, ?_, rfl, rfl, rfl⟩, hs2.go _ _, D⟩
        · rw [List.length_append, List.length_singleton]; omega
        · rw [← hacc]; simp [bareF]
      | false =>
        w_strict ((iterate 3 walk1); k_fold; (iterate 17 walk1); k_fold; (iterate 3 walk1); dsimp only [qk]; clear qk; (try clear ek); walk1; dsimp only [qk]; clear qk; (try clear ek); walk1)
        (try dsimp only)
        rename Led _ _ _ _ _ => D
        refine ⟨((Str.ofString "shielded"), .bool true) :: ((Str.ofString "sign"), .str (one 92) uu) :: b, _, ⟨acc, true, _, by omega, ?_, hm1, rfl, rfl⟩, hs2.go _ _, D⟩
        rw [← hacc]; simp [bareF]
    | false =>
      have hc := of_decide_eq_false hq
      have he : (one cc == Str.ofString "\\") = false := one_beq_false bs_lit hc
      w_strict ((iterate 3 walk1); k_fold; (iterate 10 walk1); k_fold; (iterate 5 walk1); dsimp only [qk]; clear qk; (try clear ek); walk1; k_fold; (iterate 3 walk1); dsimp only [qk]; clear qk; (try clear ek); walk1; dsimp only [qk]; clear qk; (try clear ek); walk1)
      (try dsimp only)
      rename Led _ _ _ _ _ => D
      rw [app_one] at D
      refine ⟨_, _, ⟨acc ++ [cc], false, _, ?_, ?_, rfl, rfl, rfl⟩, hs2.go _ _, D⟩
      · rw [List.length_append, List.length_singleton]; omega
      · rw [← hacc]; simp [bareF, hc]
  · rintro b l s2 tt ⟨acc, sh, t1, hal, hacc, hm1, hm2, rfl⟩ hs2 D4
    clear D D2 Y Sf
    dsimp only [List.cons_append, List.nil_append] at D4 ⊢
    w_strict (dsimp only [qk]; clear qk; (try clear ek); walk1; k_fold; (iterate 2 walk1); dsimp only [qk]; clear qk; (try clear ek))
    (try dsimp only)
    rename Led _ _ _ _ _ => D
    rw [List.drop_length] at hacc
    have hacc : acc ++ [] = bareF T false := hacc
    rw [List.append_nil] at hacc
    exact ret _ _ [] (hs2.go _ _) (Hp.cutT (l0 := []) D.out) ⟨rfl, _, by rw [← hacc]⟩
-- P12
section
open Builtin Builtin.Str
theorem sItemD {w : World} {A : Around} {s : Shared} {E : Value → Shared → Prop} {value slice : Expr} {x : Str} {t u : Tok} {n c : Nat} {k : Int} {Q : Value → Shared → Prop} (he : Txt.item x k = one c) (hn : x.length = n) (hz : n ≤ 1000000) (h0 : 0 ≤ k) (h1 : k < n) (h : ∀ t, Q (.str (one c) t) { s with toks := s.toks + 1 })
    (hs : subscripted slice false (.str x t) (.int k u) = operate [.str x t, .int k u] (getItem (.str x t) (.int k u)) := by with_unfolding_all rfl)
    (ht : ∀ r, letTemporaryGo value (.str x t) r = pure () := by intro _; with_unfolding_all rfl) :
    wpAny (model Pg w) A (subscriptTail value slice (.str x t) (.int k u)) Q E s := by
  subst hn
  have : sizeLine = 16777216 := sizeLine_eq
  exact item_str (fitsSsize_of (N := 16777216) (by omega) (by omega) (by decide)) (by omega) (by omega) (fun _ => by rw [he]; exact h _) hs ht
end
theorem word64 : True := by
  k_with "subscriptTail Name Name str int" => (k_dflt (refine' sItemD ?he ?hn ?hz ?h0 ?h1 ?_; (case he => assumption); (case hn => exact rfl); (case hz => assumption); (case h0 => first | exact Int.natCast_nonneg _ | omega); (case h1 => first | (with_reducible assumption) | exact lt_of_sub3 (by with_reducible assumption) | omega); k_whole; intro _))
  trivial
section
open Builtin Builtin.Str
theorem replOne {w : World} {A : Around} {s : Shared} {E : Value → Shared → Prop} {Q : Value → Shared → Prop} {c : Nat} {t : Tok} {k1 k2 : Nat} (h97 : c ≠ 97) (hk : 0 < k1) (hk2 : k1 < k2) (hr : Txt.replace (one c) (Str.ofString "a") (Str.ofString "") = one c) (h : ∀ t' k, Q (.str (one c) t') { s with toks := k }) :
    wpAny (model Pg w) A (call (.builtin "str.replace") [.str (one c) t, .str (Str.ofString "a") k1, .str (Str.ofString "") k2]) Q E s :=
  SC.replace (Nat.ne_of_gt hk) (Nat.ne_of_gt (Nat.lt_trans hk hk2)) (Nat.ne_of_lt hk2) (by decide +kernel) (by rw [len_one]; decide +kernel) fun t' k => by rw [hr]; exact h t' k
theorem itePT {p : Prop} [Decidable p] {P Q : Prop} (hp : p) (h : P) : if p then P else Q := by rw [if_pos hp]; exact h
theorem itePF {p : Prop} [Decidable p] {P Q : Prop} (hp : ¬ p) (h : Q) : if p then P else Q := by rw [if_neg hp]; exact h
theorem iteDT {p : Prop} [Decidable p] {P Q : Prop} (hp : p) (h : P) : if decide p = true then P else Q := by rw [if_pos (decide_eq_true hp)]; exact h
theorem iteDF {p : Prop} [Decidable p] {P Q : Prop} (hp : ¬ p) (h : Q) : if decide p = true then P else Q := by rw [if_neg (by rw [decide_eq_false hp]; decide)]; exact h
end
theorem word65 : True := by
  k_with "ite" => (with_reducible first
      | (refine' itePT ?k ?_; (case k => assumption))
      | (refine' itePF ?k ?_; (case k => assumption))
      | (refine' iteDT ?k ?_; (case k => assumption))
      | (refine' iteDF ?k ?_; (case k => assumption))
      | (refine' iteNT ?k ?_; (case k => assumption))
      | (refine' iteNF ?k ?_; (case k => assumption)))
  trivial
section
open Builtin Builtin.Str
/-- the items of the first k places -/
structure ItemsTo (c0 : Nat) (X : Nat → Bool) (k : Nat) (its : List Value) : Prop where
  len : its.length = k
  yes : ∀ j, j < k → X j = true → ∃ t, its[j]? = some (.str (one c0) t)
  no : ∀ j, j < k → X j = false → its[j]? = some .none
theorem ItemsTo.zero (c0 : Nat) (X : Nat → Bool) : ItemsTo c0 X 0 [] := ⟨rfl, fun _ h => absurd h (Nat.not_lt_zero _), fun _ h => absurd h (Nat.not_lt_zero _)⟩
theorem ItemsTo.are {c0 : Nat} {X : Nat → Bool} {its : List Value} (h : ItemsTo c0 X 4 its) : ItemsAre c0 X its := ⟨h.len, h.yes, h.no⟩
theorem ItemsTo.snoc {c0 : Nat} {X : Nat → Bool} {k : Nat} {its : List Value} {v : Value} (h : ItemsTo c0 X k its) (hv : (X k = true ∧ ∃ t, v = .str (one c0) t) ∨ (X k = false ∧ v = .none)) : ItemsTo c0 X (k + 1) (its ++ [v]) := by
  have last : (its ++ [v])[k]? = some v := by rw [List.getElem?_append_right (by have := h.len; omega), h.len]; simp
  have old : ∀ j, j < k → (its ++ [v])[j]? = its[j]? := fun j hj => List.getElem?_append_left (by have := h.len; omega)
  refine ⟨by rw [List.length_append, h.len]; rfl, fun j hj hX => ?_, fun j hj hX => ?_⟩
  · rcases Nat.lt_or_eq_of_le (Nat.le_of_lt_succ hj) with h1 | rfl
    · rw [old j h1]; exact h.yes j h1 hX
    · rcases hv with ⟨_, t, rfl⟩ | ⟨h2, _⟩
      · exact ⟨t, last⟩
      · rw [hX] at h2; cases h2
  · rcases Nat.lt_or_eq_of_le (Nat.le_of_lt_succ hj) with h1 | rfl
    · rw [old j h1]; exact h.no j h1 hX
    · rcases hv with ⟨h2, _⟩ | ⟨_, rfl⟩
      · rw [hX] at h2; cases h2
      · exact last
theorem get_drop {T : List Nat} {p j : Nat} {r : List Nat} (h : T.drop p = r) : T[p + j]? = r[j]? := by
  rw [← h, List.getElem?_drop]
theorem drop_more {T : List Nat} {p : Nat} {a r : List Nat} (h : T.drop p = a ++ r) : T.drop (p + a.length) = r := by
  rw [← List.drop_drop, h, List.drop_left]
theorem item_at {T : List Nat} {p c : Nat} (h : T[p]? = some c) : Txt.item (strOf T) (p : Int) = one c := item_strOf (by omega) (by rw [Int.toNat_natCast]; exact h)
/-- the sixteen signs' classes -/
inductive Cls : Nat → Prop
  | star {c} : c = 42 ∨ c = 63 → Cls c
  | open_ : Cls 91
  | plain {c} : c = 97 ∨ c = 33 ∨ c = 34 → Cls c
  | esc {c} : c ≠ 42 → c ≠ 63 → c ≠ 91 → c ≠ 97 → c ≠ 33 → c ≠ 34 → Cls c
theorem Cls.all (c : Nat) : Cls c := by
  by_cases h1 : c = 42 ∨ c = 63
  · exact .star h1
  · by_cases h2 : c = 91
    · subst h2; exact .open_
    · by_cases h3 : c = 97 ∨ c = 33 ∨ c = 34
      · exact .plain h3
      · exact .esc (fun e => h1 (.inl e)) (fun e => h1 (.inr e)) h2 (fun e => h3 (.inl e)) (fun e => h3 (.inr (.inl e))) (fun e => h3 (.inr (.inr e)))
theorem plain_tp {c : Nat} (h : c = 97 ∨ c = 33 ∨ c = 34) : tp c = [c] ∧ c ≠ 91 ∧ c ≠ 92 ∧ c ≠ 46 := by
  rcases h with rfl | rfl | rfl <;> exact ⟨rfl, by decide, by decide, by decide⟩
theorem esc_tps {c : Nat} (n1 : c ≠ 42) (n2 : c ≠ 63) (n3 : c ≠ 91) (n4 : c ≠ 97) (n5 : c ≠ 33) (n6 : c ≠ 34) : tp c = [92, c] := by
  unfold tp
  rw [if_neg (fun h => h.elim n1 n2), if_neg n3, if_neg (fun h => h.elim n4 fun h => h.elim n5 n6)]
theorem lt3 {pl m r N : Nat} (h : pl + (m + r) = N) (hr : 3 ≤ r) (hm : 1 ≤ m) : (pl : Int) < (N : Int) - 3 := by omega
theorem ge3 {pl N : Nat} (h : pl + 3 = N) : ¬ (pl : Int) < (N : Int) - 3 := by omega
theorem lit1 (c : Nat) {x : Str} (hx : x = one c) {d : Nat} (h : d ≠ c) : (one d == x) = false := one_beq_false hx h
theorem br_lit : Str.ofString "[" = one 91 := by decide +kernel
theorem cb_lit : Str.ofString "]" = one 93 := by decide +kernel
theorem dot_lit : Str.ofString "." = one 46 := by decide +kernel
theorem idxFromY {w : World} {A : Around} {s : Shared} {E Q : Value → Shared → Prop} {t u v : Tok} {T : List Nat} {y : Str} {c p k : Nat} (hy : y = one c) (hpk : p ≤ k) (hk : T[k]? = some c) (hb : ∀ j, p ≤ j → j < k → T[j]? ≠ some c)
    (h : ∀ t tk, Q (.int (k : Int) t) { s with toks := tk }) : wpAny (model Pg w) A (call (.builtin "str.index") [.str (strOf T) t, .str y u, .int (p : Int) v]) Q E s := by
  subst hy; exact idxFrom hpk hk hb h
section
variable (g : Heap) (s₀ : Shared) (L ia : Addr) (T : List Nat) (t : Tok) (c0 : Nat) (X : Nat → Bool) (z : Lgr)
inductive ItemJ (n : Nat) (s' : Shared) : Prop
  | mk (k pl nn : Nat) (its : List Value) (b : List (Str × Value)) (t1 : Tok) (h_0 : n = 4 - k) (h_1 : k ≤ 4) (h_2 : T.drop pl = rest c0 X k) (h_3 : pl + (rest c0 X k).length = T.length) (h_4 : ItemsTo c0 X k its) (h_5 : mp b (Str.ofString "items") = some (.ref ia)) (h_6 : mp b (Str.ofString "place") = some (.int (pl : Int) t1)) (h_7 : mp b (Str.ofString "text") = some (.str (strOf T) t)) (h_8 : Sm s₀ s') (h_9 : Led g L (mp b) s'.heap ((ia, listOf its.toArray nn) :: z)) : ItemJ n s'
end
theorem itemNxt {g : Heap} {s₀ s3 : Shared} {L ia : Addr} {T : List Nat} {t : Tok} {c0 : Nat} {X : Nat → Bool} {z : Lgr} {k pl nn' pl' : Nat} {its : List Value} {b' : List (Str × Value)} {v : Value} (hk : k < 4) (hdr : T.drop pl = rest c0 X k) (hlen : pl + (rest c0 X k).length = T.length) (hits : ItemsTo c0 X k its)
    (e : pl' = pl + (pc c0 X k).length) (hv : (X k = true ∧ ∃ t, v = .str (one c0) t) ∨ (X k = false ∧ v = .none)) (m1 : mp b' (Str.ofString "items") = some (.ref ia)) (m2 : ∃ t2, mp b' (Str.ofString "place") = some (.int (pl' : Int) t2)) (m3 : mp b' (Str.ofString "text") = some (.str (strOf T) t)) (hs : Sm s₀ s3)
    (D : Led g L (mp b') s3.heap ((ia, listOf (its ++ [v]).toArray nn') :: z)) : Nxt (ItemJ g s₀ L ia T t c0 X z) (4 - k) s3 := by
  rw [rest_succ hk] at hdr hlen
  rw [List.length_append] at hlen
  subst e
  obtain ⟨t2, m2⟩ := m2
  exact ⟨4 - (k + 1), sub_step hk, k + 1, _, nn', its ++ [v], b', t2, rfl, hk, drop_more hdr, (Nat.add_assoc _ _ _).trans hlen, hits.snoc hv, m1, m2, m3, hs, D⟩
theorem repl_one {c : Nat} (h : c ≠ 97) : Txt.replace (one c) (Str.ofString "a") (Str.ofString "") = one c := by
  rw [show Str.ofString "a" = (⟨#[97]⟩ : Str) by decide +kernel]
  have h1 := StrLaws.found_one (one c) 97
  have e : ¬ (97 ∈ (one c).cps.toList) := by simp [one]; exact fun q => h q.symm
  rw [decide_eq_false e] at h1
  have h2 : (Builtin.Str.occurrences (one c) ⟨#[97]⟩ 0 (one c).length 1).isEmpty = true := by simpa using h1
  have h3 : (Builtin.Str.occurrences (one c) ⟨#[97]⟩ 0 (one c).length ((one c).length + 1)).isEmpty = true := by
    rcases StrLaws.occ_head (one c) ⟨#[97]⟩ ((one c).length + 1) (by omega) with ⟨h0, _⟩ | ⟨i, r, h0, hat, _⟩
    · rw [h0]; rfl
    · exfalso
      have := (StrLaws.subAt_one (one c) 97 i).mp hat
      exact e (List.mem_of_getElem? this)
  have h10 : ((⟨#[97]⟩ : Str).length == 0) = false := rfl
  unfold Txt.replace
  rw [h10, h3]
  rfl
theorem slice_up {T : List Nat} {j : Nat} : Txt.slice (strOf T) none (some (j : Int)) = strOf (T.take j) := by
  have e : Txt.slice (strOf T) none (some (j : Int)) = Txt.slice (strOf T) (some ((0 : Nat) : Int)) (some (j : Int)) := by
    unfold Txt.slice
    rw [StrLaws.sliceIdx_none_lo]
    rfl
  rw [e, slice_nat]
  rfl
theorem idx_neg (l u : Option Int) (n : Nat) (h : 3 ≤ n) : strSliceIndices (some (-3)) none 1 n = strSliceIndices (some ((n - 3 : Nat) : Int)) (some (n : Int)) 1 n := by
  unfold strSliceIndices
  have e1 : ((-3 : Int) + (n : Int)) = ((n - 3 : Nat) : Int) := by rw [Int.ofNat_sub h, Int.add_comm]; rfl
  have n1 : ¬ (((n - 3 : Nat) : Int) < 0) := Int.not_lt.mpr (Int.natCast_nonneg _)
  have n2 : ¬ ((n : Int) < 0) := Int.not_lt.mpr (Int.natCast_nonneg _)
  have e2 : max (0 : Int) (min (n : Int) (n : Int)) = n := by rw [Int.min_self, Int.max_eq_right (Int.natCast_nonneg n)]
  simp only [show (1 : Int) > 0 by decide, if_true, show ((-3 : Int) < 0) by decide, if_neg n1, if_neg n2, e1, e2]
theorem slice_last {T : List Nat} (h : 3 ≤ T.length) : Txt.slice (strOf T) (some (-3)) none = strOf (T.drop (T.length - 3)) := by
  have e : Txt.slice (strOf T) (some (-3)) none = Txt.slice (strOf T) (some ((T.length - 3 : Nat) : Int)) (some (T.length : Int)) := by
    unfold Txt.slice
    rw [len_strOf, idx_neg none none _ h]
  rw [e, slice_nat, List.take_of_length_le (by rw [List.length_drop]; omega)]
end
-- C18
theorem sp_items {w : World} {g : Heap} (G : Gd w g) {c0 : Nat} {X : Nat → Bool} {t : Tok} : FSpec w g (.ref 214) [.str (strOf (tT c0 X)) t] 4 [] (fun v l => ∃ ia its n, v = .ref ia ∧ ItemsAre c0 X its ∧ l = [(ia, listOf its.toArray n)]) := by
  refine .of fun A s z Q E ar H ret => ?_
  obtain ⟨T, hT⟩ : ∃ T, T = tT c0 X := ⟨_, rfl⟩
  rw [← hT]
  have hr0 := rest_len (c0 := c0) (X := X) (k := 0) (by decide)
  have hTl : T.length = 4 + (rest c0 X 0).length := by rw [hT]; simp [tT, preT]; omega
  have hTd : T.drop 4 = rest c0 X 0 := by rw [hT]; rfl
  have hzl : (strOf T).length ≤ 1000000 := by rw [len_strOf]; omega
  have hzi : (((strOf T).length : Nat) : Int) < 9223372036854775808 := i64 hzl
  refine' enter (binds := [((Str.ofString "text"), .str (strOf T) t)]) (bl := [((Str.ofString "text"), .str (strOf T) t)]) G H ar ?k1 ?k2 ?k3 ?k4 ?k5 ?k6 ?k7 ?k8 ?kb ?_
  case k1 => k_is
  case k2 => k_is
  case k3 => first | exact BindsTo.of_eq rfl | exact binds_K (G.X.keeps H.keep) rfl (by k_is) rfl rfl rfl
  case k4 => exact locs rfl
  case k5 => decide
  case k6 => exact rfl
  case k7 => exact rfl
  case k8 => exact rfl
  case kb => exact rfl
  intro L A' h₁ tk ar' D
  dsimp only [List.cons_append, List.nil_append] at D
  w_strict (walk1; k_fold; (iterate 18 walk1); dsimp only [qk]; clear qk; (try clear ek); walk1; k_fold; walk1)
  (try dsimp only)
  rename Led _ _ _ _ _ => D
  rename_i ia _ _ _ _ _ _
  replace D := D.drops 1
  refine whileN (ItemJ g s L ia T t c0 X z) ?_ 4 ⟨0, 4, 0, [], _, _, rfl, by decide, hTd, hTl.symm, ItemsTo.zero c0 X, rfl, rfl, rfl, (Sm.mk (h := h₁) (tk := tk)).go _ _, D⟩
  rintro n s2 ⟨k, pl, nn, its, b, t1, rfl, hk4, hdr, hlen, hits, hm1, hm2, hm3, hs2, D2⟩
  clear D
  have hrl := rest_len (c0 := c0) (X := X) hk4
  have hil := hits.len
  have hz1 : its.length ≤ 1000 := by omega
  have hsl := len_strOf T
  rcases Nat.lt_or_eq_of_le hk4 with hk | rfl
  · have fin := fun {s3 : Shared} {nn' pl' : Nat} {b' : List (Str × Value)} {v : Value} => itemNxt (g := g) (s₀ := s) (s3 := s3) (L := L) (ia := ia) (T := T) (t := t) (z := z) (nn' := nn') (pl' := pl') (b' := b') (v := v) hk hdr hlen hits
    have hdr1 := hdr
    have hlen1 := hlen
    rw [rest_succ hk] at hdr1 hlen1
    rw [List.length_append] at hlen1
    have hpl := pc_len c0 X k
    have hrl2 := rest_len (c0 := c0) (X := X) (k := k + 1) hk
    cases hX : X k with
    | false =>
      have hpc : pc c0 X k = [46] := by unfold pc; rw [hX]; rfl
      rw [hpc] at hdr1 hlen1 hpl
      have he0 : Txt.item (strOf T) (pl : Int) = one 46 := item_at (by have := get_drop (j := 0) hdr1; rw [Nat.add_zero] at this; rw [this]; rfl)
      have e1 : (one 46 == Str.ofString "[") = false := lit1 91 br_lit (by decide)
      have e2 : (one 46 == Str.ofString "\\") = false := lit1 92 bs_lit (by decide)
      have e3 : (one 46 == Str.ofString ".") = true := by rw [dot_lit]; exact one_eq _ _ rfl
      have hlc : [46].length = 1 := rfl
      rw [hlc] at hlen1
      have hlt : (pl : Int) < ((strOf T).length : Nat) - 3 := by rw [hsl]; exact lt3 hlen1 (Nat.le_trans (Nat.le_add_left 3 _) hrl2.1) (by decide)
      w_strict ((iterate 16 walk1); k_fold; (iterate 6 walk1); dsimp only [qk]; clear qk; (try clear ek); walk1; k_fold; (iterate 8 walk1); k_fold; (iterate 8 walk1); k_fold; (iterate 8 walk1); k_fold; (iterate 10 walk1); dsimp only [qk]; clear qk; (try clear ek); dsimp only [qk]; clear qk; (try clear ek); walk1; dsimp only [qk]; clear qk; (try clear ek); walk1; dsimp only [qk]; clear qk; (try clear ek); walk1; k_fold; (iterate 5 walk1); dsimp only [qk]; clear qk; (try clear ek); walk1)
      (try dsimp only)
      rename Led _ _ _ _ _ => D
      simp only [List.push_toArray] at D
      refine fin (pl' := pl + 1) ?_ ?_ ?_ ?_ ?_ ?_ D
      · rw [hpc]; rfl
      · exact .inr ⟨hX, rfl⟩
      · exact hm1
      · exact ⟨_, rfl⟩
      · exact hm3
      · exact hs2.go _ _
    | true =>
      have hpc : pc c0 X k = tp c0 := by unfold pc; rw [hX]; rfl
      rw [hpc] at hdr1 hlen1 hpl fin
      cases Cls.all c0 with
      | plain hc =>
        have htp : tp c0 = [c0] := (plain_tp hc).1
        rw [htp] at hdr1 hlen1 hpl fin
        have he0 : Txt.item (strOf T) (pl : Int) = one c0 := item_at (by have := get_drop (j := 0) hdr1; rw [Nat.add_zero] at this; rw [this]; rfl)
        have e1 : (one c0 == Str.ofString "[") = false := lit1 91 br_lit (plain_tp hc).2.1
        have e2 : (one c0 == Str.ofString "\\") = false := lit1 92 bs_lit (plain_tp hc).2.2.1
        have e3 : (one c0 == Str.ofString ".") = false := lit1 46 dot_lit (plain_tp hc).2.2.2
        have hoc : (Builtin.Str.occurrences (Str.ofString "a!\"") (one c0) 0 (Str.ofString "a!\"").length 1).isEmpty = false := by
          rcases hc with rfl | rfl | rfl <;> decide +kernel
        have hlc : [c0].length = 1 := rfl
        rw [hlc] at hlen1
        have hlt : (pl : Int) < ((strOf T).length : Nat) - 3 := by rw [hsl]; exact lt3 hlen1 (Nat.le_trans (Nat.le_add_left 3 _) hrl2.1) (by decide)
        w_strict ((iterate 16 walk1); k_fold; (iterate 6 walk1); dsimp only [qk]; clear qk; (try clear ek); walk1; k_fold; (iterate 8 walk1); k_fold; (iterate 8 walk1); k_fold; (iterate 8 walk1); k_fold; (iterate 17 walk1); dsimp only [qk]; clear qk; (try clear ek); dsimp only [qk]; clear qk; (try clear ek); walk1; dsimp only [qk]; clear qk; (try clear ek); walk1; dsimp only [qk]; clear qk; (try clear ek); walk1; k_fold; (iterate 5 walk1); dsimp only [qk]; clear qk; (try clear ek); walk1)
        (try dsimp only)
        rename Led _ _ _ _ _ => D
        simp only [List.push_toArray] at D
        refine fin (pl' := pl + 1) ?_ ?_ ?_ ?_ ?_ ?_ D
        · rfl
        · exact .inl ⟨hX, _, rfl⟩
        · exact hm1
        · exact ⟨_, rfl⟩
        · exact hm3
        · exact hs2.go _ _
      | esc n1 n2 n3 n4 n5 n6 =>
        have htp : tp c0 = [92, c0] := esc_tps n1 n2 n3 n4 n5 n6
        rw [htp] at hdr1 hlen1 hpl fin
        have he0 : Txt.item (strOf T) (pl : Int) = one 92 := item_at (by have := get_drop (j := 0) hdr1; rw [Nat.add_zero] at this; rw [this]; rfl)
        have he5 : Txt.item (strOf T) ((pl : Int) + 1) = one c0 := item_at (p := pl + 1) (by have := get_drop (j := 1) hdr1; rw [this]; rfl)
        have e1 : (one 92 == Str.ofString "[") = false := lit1 91 br_lit (by decide)
        have e2 : (one 92 == Str.ofString "\\") = true := by rw [bs_lit]; exact one_eq _ _ rfl
        have hlc : [92, c0].length = 2 := rfl
        rw [hlc] at hlen1
        have hlt : (pl : Int) < ((strOf T).length : Nat) - 3 := by rw [hsl]; exact lt3 hlen1 (Nat.le_trans (Nat.le_add_left 3 _) hrl2.1) (by decide)
        w_strict ((iterate 16 walk1); k_fold; (iterate 6 walk1); dsimp only [qk]; clear qk; (try clear ek); walk1; k_fold; (iterate 8 walk1); k_fold; (iterate 8 walk1); k_fold; (iterate 5 walk1); dsimp only [qk]; clear qk; (try clear ek); walk1; k_fold; (iterate 18 walk1))
        (try dsimp only)
        rename Led _ _ _ _ _ => D
        refine replOne n4 (by omega) (by omega) (repl_one n4) fun t6 k6 => ?_
        w_strict ((iterate 3 walk1); dsimp only [qk]; clear qk; (try clear ek); dsimp only [qk]; clear qk; (try clear ek); walk1; dsimp only [qk]; clear qk; (try clear ek); walk1; k_fold; (iterate 5 walk1); dsimp only [qk]; clear qk; (try clear ek); walk1)
        (try dsimp only)
        rename Led _ _ _ _ _ => D
        simp only [List.push_toArray] at D
        refine fin (pl' := pl + 2) ?_ ?_ ?_ ?_ ?_ ?_ D
        · rfl
        · exact .inl ⟨hX, _, rfl⟩
        · exact hm1
        · exact ⟨_, rfl⟩
        · exact hm3
        · exact hs2.go _ _
      | star hc =>
        have htp : tp c0 = [91, c0, 93] := if_pos hc
        rw [htp] at hdr1 hlen1 hpl fin
        have he0 : Txt.item (strOf T) (pl : Int) = one 91 := item_at (by have := get_drop (j := 0) hdr1; rw [Nat.add_zero] at this; rw [this]; rfl)
        have e1 : (one 91 == Str.ofString "[") = true := by rw [br_lit]; exact one_eq _ _ rfl
        have hlc : [91, c0, 93].length = 3 := rfl
        rw [hlc] at hlen1
        have hlt : (pl : Int) < ((strOf T).length : Nat) - 3 := by rw [hsl]; exact lt3 hlen1 (Nat.le_trans (Nat.le_add_left 3 _) hrl2.1) (by decide)
        w_strict ((iterate 16 walk1); k_fold; (iterate 6 walk1); dsimp only [qk]; clear qk; (try clear ek); walk1; k_fold; (iterate 8 walk1); k_fold; (iterate 13 walk1))
        (try dsimp only)
        rename Led _ _ _ _ _ => D
        have g1 : T[pl + 1]? = some c0 := by have := get_drop (j := 1) hdr1; rw [this]; rfl
        have g2 : T[pl + 2]? = some 93 := by have := get_drop (j := 2) hdr1; rw [this]; rfl
        refine idxFromY (c := 93) (p := pl + 2) (k := pl + 2) cb_lit (Nat.le_refl _) g2 (fun j h1 h2 => absurd h1 (Nat.not_le.mpr h2)) fun t5 k5 => ?_
        have hsc : Txt.slice (strOf T) (some ((pl : Int) + 1)) (some ((pl + 2 : Nat) : Int)) = strOf [c0] := by
          have := slice_nat T (pl + 1) (pl + 2)
          rw [show pl + 2 - (pl + 1) = 1 from Nat.add_sub_add_left pl 2 1] at this
          rw [show ((pl : Int) + 1) = ((pl + 1 : Nat) : Int) from rfl, this, drop_at g1]; rfl
        w_strict (walk1; dsimp only [qk]; clear qk; (try clear ek); walk1; k_fold; (iterate 24 walk1))
        (try dsimp only)
        rename Led _ _ _ _ _ => D
        refine' useAtT (z := z) (p := []) 1 ((by rw [hsc]; exact sp_bare G (T := [c0]) (by simp))) ?uD ?up ar' ?uk ?_
        case uD => exact D
        case up => exact rfl
        case uk => omega
        intro t6 h' tk D5
        simp only [List.take_succ_cons, List.take_zero, List.cons_append, List.nil_append] at D5
        clear D
        skip
        w_strict ((iterate 3 walk1); k_fold; (iterate 3 walk1); dsimp only [qk]; clear qk; (try clear ek); walk1; k_unfold; (try dsimp only); (try clear qk); (try clear ek); walk1; k_fold; (iterate 5 walk1); dsimp only [qk]; clear qk; (try clear ek); walk1)
        (try dsimp only)
        rename Led _ _ _ _ _ => D
        simp only [List.push_toArray] at D
        refine fin (pl' := pl + 3) ?_ ?_ ?_ ?_ ?_ ?_ D
        · rfl
        · exact .inl ⟨hX, _, by rw [show bareF [c0] false = [c0] by simp only [bareF]; rw [if_neg (by rcases hc with rfl | rfl <;> decide)]]; rfl⟩
        · exact hm1
        · exact ⟨_, rfl⟩
        · exact hm3
        · exact hs2.go _ _
      | open_ =>
        have htp : tp 91 = [91, 92, 91, 93] := rfl
        rw [htp] at hdr1 hlen1 hpl fin
        have he0 : Txt.item (strOf T) (pl : Int) = one 91 := item_at (by have := get_drop (j := 0) hdr1; rw [Nat.add_zero] at this; rw [this]; rfl)
        have e1 : (one 91 == Str.ofString "[") = true := by rw [br_lit]; exact one_eq _ _ rfl
        have hlc : [91, 92, 91, 93].length = 4 := rfl
        rw [hlc] at hlen1
        have hlt : (pl : Int) < ((strOf T).length : Nat) - 3 := by rw [hsl]; exact lt3 hlen1 (Nat.le_trans (Nat.le_add_left 3 _) hrl2.1) (by decide)
        w_strict ((iterate 16 walk1); k_fold; (iterate 6 walk1); dsimp only [qk]; clear qk; (try clear ek); walk1; k_fold; (iterate 8 walk1); k_fold; (iterate 13 walk1))
        (try dsimp only)
        rename Led _ _ _ _ _ => D
        have g1 : T[pl + 1]? = some 92 := by have := get_drop (j := 1) hdr1; rw [this]; rfl
        have g2 : T[pl + 2]? = some 91 := by have := get_drop (j := 2) hdr1; rw [this]; rfl
        have g3 : T[pl + 3]? = some 93 := by have := get_drop (j := 3) hdr1; rw [this]; rfl
        refine idxFromY (c := 93) (p := pl + 2) (k := pl + 3) cb_lit (Nat.le_succ _) g3 (fun j h1 h2 => ?_) fun t5 k5 => ?_
        · have : j = pl + 2 := Nat.le_antisymm (Nat.le_of_lt_succ h2) h1
          rw [this, g2]; decide
        have hsc : Txt.slice (strOf T) (some ((pl : Int) + 1)) (some ((pl + 3 : Nat) : Int)) = strOf [92, 91] := by
          have := slice_nat T (pl + 1) (pl + 3)
          rw [show pl + 3 - (pl + 1) = 2 from Nat.add_sub_add_left pl 3 1] at this
          rw [show ((pl : Int) + 1) = ((pl + 1 : Nat) : Int) from rfl, this, drop_at g1, drop_at g2]; rfl
        w_strict (walk1; dsimp only [qk]; clear qk; (try clear ek); walk1; k_fold; (iterate 24 walk1))
        (try dsimp only)
        rename Led _ _ _ _ _ => D
        refine' useAtT (z := z) (p := []) 1 ((by rw [hsc]; exact sp_bare G (T := [92, 91]) (by decide))) ?uD ?up ar' ?uk ?_
        case uD => exact D
        case up => exact rfl
        case uk => omega
        intro t6 h' tk D5
        simp only [List.take_succ_cons, List.take_zero, List.cons_append, List.nil_append] at D5
        clear D
        skip
        w_strict ((iterate 3 walk1); k_fold; (iterate 3 walk1); dsimp only [qk]; clear qk; (try clear ek); walk1; k_unfold; (try dsimp only); (try clear qk); (try clear ek); walk1; k_fold; (iterate 5 walk1); dsimp only [qk]; clear qk; (try clear ek); walk1)
        (try dsimp only)
        rename Led _ _ _ _ _ => D
        simp only [List.push_toArray] at D
        refine fin (pl' := pl + 4) ?_ ?_ ?_ ?_ ?_ ?_ D
        · rfl
        · exact .inl ⟨hX, _, rfl⟩
        · exact hm1
        · exact ⟨_, rfl⟩
        · exact hm3
        · exact hs2.go _ _
  · have hlt : ¬ (pl : Int) < ((strOf T).length : Nat) - 3 := by rw [rest_four] at hlen; rw [hsl]; exact ge3 hlen
    have hs1 : Txt.slice (strOf T) none (some 4) = strOf preT := by
      rw [show (4 : Int) = ((4 : Nat) : Int) from rfl, slice_up, hT]; rfl
    have hs3 : Txt.slice (strOf T) (some (-3)) none = strOf postT := by
      rw [slice_last (by omega)]
      rw [rest_four] at hlen hdr
      rw [show T.length - 3 = pl from Nat.sub_eq_of_eq_add hlen.symm, hdr]
    have heq : (strOf (preT ++ postT) == Str.ofString "(?s:)\\Z") = true := by decide +kernel
    w_strict ((iterate 15 walk1); dsimp only [qk]; clear qk; (try clear ek); walk1; k_fold; (iterate 22 walk1))
    (try dsimp only)
    rename Led _ _ _ _ _ => D
    refine addX (a := preT) (b := postT) hs1 hs3 (by decide) fun t5 k5 => ?_
    w_strict ((iterate 5 walk1); dsimp only [qk]; clear qk; (try clear ek))
    (try dsimp only)
    rename Led _ _ _ _ _ => D
    exact ret _ _ [_] (hs2.go _ _) D.out ⟨ia, its, nn, rfl, hits.are, rfl⟩
-- X1
section
open Builtin Builtin.Str
noncomputable def chkE (es : Array DictEntry) : Bool := es.toList.all fun e => match e.key with | .int k _ => e.hash == hashInt k | _ => false
noncomputable def trYes (es : Array DictEntry) (c : Nat) : Bool := match findBy Value.isInt es (c : Int) with | some (.str x _) => x == strOf [92, c] | _ => false
noncomputable def trNo (es : Array DictEntry) (c : Nat) : Bool := (findBy Value.isInt es (c : Int)).isNone
theorem tr_tab (w : World) : ∃ o es ep, (hd.heap_1 w.params).lookup 98 = some o ∧ o.ExactDict ∧ o.data = .dict es ep ∧ chkE es = true ∧ ([93, 45, 46, 94, 126, 38, 35, 32, 92, 10].all (trYes es)) = true ∧ ([97, 33, 34].all (trNo es)) = true := by
  refine ⟨_, _, _, by k_is, ⟨rfl, rfl, rfl⟩, rfl, by decide +kernel, by decide +kernel, by decide +kernel⟩
theorem keysOf_chk {w : World} {es : Array DictEntry} (h : chkE es = true) : KeysOf (intKind Pg w) es := by
  intro e he
  have h1 := List.all_eq_true.mp h e (by simpa using he)
  cases hk : e.key with
  | int k t => rw [hk] at h1; exact ⟨k, by show Value.isInt k (.int k t) = true; simp [Value.isInt], (eq_of_beq h1 : e.hash = hashInt k)⟩
  | _ => rw [hk] at h1; cases h1
section
variable {w : World} {g : Heap} {A : Around} {s : Shared} {L : Addr} {m : Str → Option Value} {l : Lgr}
theorem tl_yes {es : Array DictEntry} {c : Nat} {Q : Mapped → Shared → Prop} {E : Value → Shared → Prop} (hm : s.heap.MapOf (intKind Pg w) 98 fun k => findBy Value.isInt es k) (hy : trYes es c = true) (h : ∀ tk, Q (.text (strOf [92, c])) { s with toks := tk }) :
    wpAny (model Pg w) A (tableLookup (.ref 98) c) Q E s := by
  obtain ⟨t, ht⟩ : ∃ t, findBy Value.isInt es (c : Int) = some (.str (strOf [92, c]) t) := by
    unfold trYes at hy
    cases q : findBy Value.isInt es (c : Int) with
    | none => rw [q] at hy; cases hy
    | some v =>
      rw [q] at hy
      cases v with
      | str x t => exact ⟨t, by rw [eq_of_beq hy]⟩
      | _ => cases hy
  unfold tableLookup
  refine wpAny_bind (wpAny_attempt (wpAny_bind (wpAny_mkInt (wpAny_getItem_of (knd := intKind Pg w) (k := (c : Int)) (intKind_is Pg w _ _) hm ht ?_))))
  dsimp only
  refine wpAny_bind (wpAny_of_eq (a := none) rfl ?_)
  dsimp only
  refine wpAny_bind (wpAny_of_eq (a := some (strOf [92, c])) rfl ?_)
  exact wpAny_pure (h _)
theorem sub_key : isSubtype (.type "KeyError") (.type "LookupError") = pure true := by rw [isSubtype_type]; kernel_rfl
theorem tl_no {es : Array DictEntry} {c : Nat} {Q : Mapped → Shared → Prop} {E : Value → Shared → Prop} (hh : A.handled = none) (hm : s.heap.MapOf (intKind Pg w) 98 fun k => findBy Value.isInt es k) (hd : (98 == sysModules) = false) (hy : trNo es c = true) (h : ∀ h' tk, (∀ b o, s.heap.get? b = some o → h'.get? b = some o) → Q .keep { s with heap := h', toks := tk }) :
    wpAny (model Pg w) A (tableLookup (.ref 98) c) Q E s := by
  have hn : findBy Value.isInt es (c : Int) = none := Option.isNone_iff_eq_none.mp hy
  unfold tableLookup
  refine wpAny_bind (wpAny_attempt (wpAny_bind (wpAny_mkInt (wpAny_getItem_missing_of (knd := intKind Pg w) (k := (c : Int)) (intKind_is Pg w _ _) hd hh hm hn fun h' e hnew => ?_))))
  dsimp only
  refine wpAny_bind (wpAny_isInstance (T := "KeyError") (b := true) ?_ sub_key ?_)
  · obtain ⟨ob, t, ho, hc, _⟩ := hnew.there
    exact ⟨ob, ho, hc⟩
  · rw [if_pos rfl]
    exact wpAny_bind (wpAny_rule (wpAny_pure (h h' _ hnew.keeps)))
theorem trAny {es : Array DictEntry} {c : Nat} {t : Tok} {r : List Nat} {Q E : Value → Shared → Prop} (hc : c < 128) (D : Led g L m s.heap l) (hr : r.length ≤ 10)
    (tl : ∀ (s1 : Shared) (Q : Mapped → Shared → Prop) (E : Value → Shared → Prop), (∀ b o, s.heap.get? b = some o → s1.heap.get? b = some o) → (∀ h' tk, (∀ b o, s1.heap.get? b = some o → h'.get? b = some o) → Q (if r = [c] then .keep else .text (strOf r)) { s1 with heap := h', toks := tk }) → wpAny (model Pg w) A.in1 (tableLookup (.ref 98) c) Q E s1)
    (hr2 : r = [c] ∨ r = [92, c]) (h : ∀ h' t' k, Led g L m h' l → Q (.str (strOf r) t') { s with heap := h', toks := k }) : wpAny (model Pg w) A (call (.builtin "str.translate") [.str (one c) t, .ref 98]) Q E s := by
  refine wpAny_call (codeAny_call_builtin F.slot_str_translate.plain F.entry_str_translate (F.slot_str_translate.check _ _ _ _ _ _ _ _ (typeIs_str _ _ _) (F.args_str_translate_2 _ _) ?_))
  have h1 : strOneArg "translate" ⟨[.str (one c) t, .ref 98], []⟩ = pure (.str (one c) t, one c, .ref 98) := rfl
  have h2 : ((one c).length == 0) = false := rfl
  have h3 : (one c).cps.all (· < 128) = true := by simp [one, hc]
  have h4 : (one c).cps = [c].toArray := rfl
  have h5 : tooLong 0 = false := by decide +kernel
  unfold «str.translate»
  rw [h1]
  simp only [pure_bind, h2, h3, Bool.false_eq_true, if_false]
  rw [h4]
  simp only [List.forIn_toArray, List.forIn_cons, List.forIn_nil, h5, Bool.false_eq_true, if_false, if_true, List.lookup_nil, bind_assoc, pure_bind]
  refine wpAny_bind (tl s _ _ (fun b o e => e) fun h' tk hk => ?_)
  have hz : sizeLine = 16777216 := sizeLine_eq
  rcases hr2 with rfl | rfl
  · rw [if_pos rfl]
    have h6 : tooLong (0 + 1) = false := by decide +kernel
    have e : (⟨List.foldl (fun acc (p : Str) => acc ++ p.cps) #[] [(⟨#[c]⟩ : Str)].reverse⟩ : Str) = strOf [c] := by simp [strOf]
    simp only [pure_bind, h6, Bool.false_eq_true, if_false, e]
    show wpAny _ _ (mkStr (strOf [c]) >>= fun v => ret v) _ _ _
    refine wpAny_bind (wpAny_mkStr (wpAny_pure ?_) (by rw [len_strOf, hz]; show 1 ≤ _; decide))
    exact h _ _ _ (D.keeps hk)
  · rw [if_neg (by simp)]
    have hl : ((strOf [92, c]).length == 1 && (strOf [92, c]).cps.all fun x => decide (x < 128)) = false := rfl
    simp only [hl, Bool.false_eq_true, if_false, bind_assoc, pure_bind]
    refine wpAny_bind (wpAny_rule ?_)
    refine wpAny_bind (tl _ _ _ hk fun h2 tk2 hk2 => ?_)
    rw [if_neg (by simp)]
    have h6 : tooLong (0 + (strOf [92, c]).length) = false := by rw [len_strOf]; show tooLong 2 = false; decide +kernel
    have e : (⟨List.foldl (fun acc (p : Str) => acc ++ p.cps) #[] [strOf [92, c]].reverse⟩ : Str) = strOf [92, c] := by simp [strOf]
    simp only [pure_bind, h6, Bool.false_eq_true, if_false, e]
    show wpAny _ _ (mkStr (strOf [92, c]) >>= fun v => ret v) _ _ _
    refine wpAny_bind (wpAny_mkStr (wpAny_pure ?_) (by rw [len_strOf, hz]; show 2 ≤ _; decide))
    exact h _ _ _ ((D.keeps hk).keeps hk2)
/-- what escape writes for a sign -/
noncomputable def escF (c : Nat) : List Nat := if c = 97 ∨ c = 33 ∨ c = 34 then [c] else [92, c]
theorem stock_lt : ∀ c ∈ [97, 33, 34, 93, 45, 46, 94, 126, 38, 35, 32, 92, 10], c < 128 ∧ (¬ (c = 97 ∨ c = 33 ∨ c = 34) → c ∈ [93, 45, 46, 94, 126, 38, 35, 32, 92, 10]) := by decide
theorem trW {c : Nat} {t : Tok} {Q E : Value → Shared → Prop} (G : Gd w g) (hh : A.handled = none) (D : Led g L m s.heap l) (hc : c ∈ [97, 33, 34, 93, 45, 46, 94, 126, 38, 35, 32, 92, 10])
    (h : ∀ h' t' k, Led g L m h' l → Q (.str (strOf (escF c)) t') { s with heap := h', toks := k }) : wpAny (model Pg w) A (call (.builtin "str.translate") [.str (one c) t, .ref 98]) Q E s := by
  obtain ⟨o, es, ep, hlk, hex, hdt, hk, hy, hn⟩ := tr_tab w
  have hmap : ∀ h : Heap, (∀ b o, g.get? b = some o → h.get? b = some o) → h.MapOf (intKind Pg w) 98 fun k => findBy Value.isInt es k := fun h hkp => ⟨o, es, ep, hkp _ _ (G.X 98 o hlk), hex, hdt, keysOf_chk hk, fun k => rfl⟩
  have hc128 : c < 128 := (stock_lt c hc).1
  have hd : (98 == sysModules) = false := by decide +kernel
  by_cases hp : c = 97 ∨ c = 33 ∨ c = 34
  · have hr : escF c = [c] := if_pos hp
    rw [hr] at h
    have hno : trNo es c = true := List.all_eq_true.mp hn c (by simpa using hp)
    refine trAny (es := es) (r := [c]) hc128 D (by simp) (fun s1 Q E hk1 hq => ?_) (.inl rfl) h
    refine tl_no hh (hmap _ fun b o e => hk1 b o (D.keep b o e)) hd hno fun h' tk hk' => ?_
    have := hq h' tk hk'
    rw [if_pos rfl] at this
    exact this
  · have hr : escF c = [92, c] := if_neg hp
    rw [hr] at h
    have hyes : trYes es c = true := List.all_eq_true.mp hy c ((stock_lt c hc).2 hp)
    refine trAny (es := es) (r := [92, c]) hc128 D (by simp) (fun s1 Q E hk1 hq => ?_) (.inr rfl) h
    refine tl_yes (hmap _ fun b o e => hk1 b o (D.keep b o e)) hyes fun tk => ?_
    have := hq s1.heap tk (fun b o e => e)
    rw [if_neg (by simp)] at this
    exact this
end
end
theorem word66 : True := by
  k_with "call builtin:str.translate" => (k_dflt ((with_reducible rename Led _ _ _ _ _ => D0); (refine' trW ?kG ?kA D0 ?k1 ?_; (case kG => assumption); (case kA => exact Ar.hh (by assumption)); (case k1 => assumption); k_whole; intro _ _ _ _; (try clear D0))))
  trivial
-- C19
theorem sp_escape {w : World} {g : Heap} (G : Gd w g) {c : Nat} {t : Tok} (hc : c ∈ [97, 33, 34, 93, 45, 46, 94, 126, 38, 35, 32, 92, 10]) : FSpec w g (.ref 108) [.str (one c) t] 2 [] (fun v l => l = [] ∧ ∃ t, v = .str (strOf (escF c)) t) := by
  refine .of fun A s z Q E ar H ret => ?_
  refine' enter (binds := [((Str.ofString "pattern"), .str (one c) t)]) (bl := [((Str.ofString "pattern"), .str (one c) t)]) G H ar ?k1 ?k2 ?k3 ?k4 ?k5 ?k6 ?k7 ?k8 ?kb ?_
  case k1 => k_is
  case k2 => k_is
  case k3 => first | exact BindsTo.of_eq rfl | exact binds_K (G.X.keeps H.keep) rfl (by k_is) rfl rfl rfl
  case k4 => exact locs rfl
  case k5 => decide
  case k6 => exact rfl
  case k7 => exact rfl
  case k8 => exact rfl
  case kb => exact rfl
  intro L A' h₁ tk ar' D
  dsimp only [List.cons_append, List.nil_append] at D
  w_strict (walk1; k_fold; (iterate 14 walk1); k_fold; (iterate 9 walk1); dsimp only [qk]; clear qk; (try clear ek); dsimp only [qk]; clear qk; (try clear ek))
  (try dsimp only)
  rename Led _ _ _ _ _ => D
  exact ret _ _ [] (Sm.mk (h := h₁) (tk := tk) |>.go _ _) D.out ⟨rfl, _, rfl⟩
-- X2
section
open Builtin
theorem md_get : typeLookup (.type "method_descriptor") "__get__" = pure (some (.builtin "method_descriptor.__get__")) := by rw [typeLookup_type, builtinLookup_eq_fast]; kernel_rfl
theorem md_set : typeLookup (.type "method_descriptor") "__set__" = pure none := by rw [typeLookup_type, builtinLookup_eq_fast]; kernel_rfl
theorem md_del : typeLookup (.type "method_descriptor") "__delete__" = pure none := by rw [typeLookup_type, builtinLookup_eq_fast]; kernel_rfl
theorem slot_md_get : Slot "method_descriptor" "__get__" "method_descriptor.__get__" :=
  .of (owner := "method_descriptor") (n := "__get__") (by rw [typeLookup_type, builtinLookup_eq_fast]; kernel_rfl) (by decide +kernel) (by decide +kernel) (by decide +kernel)
    (by first | exact .inl (by decide +kernel) | exact .inr (by decide +kernel)) (by rw [isSubtype_type]; kernel_rfl)
theorem entry_md_get : entryFor table "method_descriptor.__get__" = some Builtin.«method_descriptor.__get__» := entryFor_of_tree (by kernel_rfl)
theorem args_md_get (a b c : Value) : argsOk "method_descriptor.__get__" ⟨[a, b, c], []⟩ := by unfold argsOk; kernel_rfl
noncomputable abbrev boundO (id : String) (a : Addr) : Obj := { cls := .type "builtin_function_or_method", data := .fields #[.builtin id, .ref a] }
theorem own_app : ".".intercalate ("list.append".cutAt '.').dropLast = "list" := by decide +kernel
theorem sub_app : isSubtype (.type "list") (.type (".".intercalate ("list.append".cutAt '.').dropLast)) = pure true := by rw [own_app, isSubtype_type]; kernel_rfl
section
variable {prog : Program} {w : World} {A : Around} {E : Value → Shared → Prop} {h : Heap} {g : Array GenState} {d : Drawn} {t : Nat} {os : OsState} {a : Addr} {o : Obj}
theorem app_get {R : Result → Shared → Prop} (hx : h.get? a = some o) (hc : o.cls = .type "list") (hq : R (.ok (.ret (.ref h.objs.size))) ⟨h.push (boundO "list.append" a), g, d, t, os⟩) :
    codeAny (model prog w) A (.call (.builtin "method_descriptor.__get__") ⟨[.builtin "list.append", .ref a, .type "list"], []⟩) R ⟨h, g, d, t, os⟩ := by
  have hT : (⟨h, g, d, t, os⟩ : Shared).TypeIs (.ref a) "list" := ⟨_, hx, hc⟩
  have hT5 : (⟨h, g, d, t, os⟩ : Shared).TypeIs (.builtin "list.append") "method_descriptor" := F.type_list_append
  have f8 := sub_app
  refine codeAny_call_builtin slot_md_get.plain entry_md_get (slot_md_get.check _ _ _ _ _ _ _ _ hT5 (args_md_get _ _ _) ?_)
  repeat (any_goals (first | assumption | wp_step))
theorem app_entry {tk : Tok} {its : Array Value} {k : Nat} {Q : Fin → Shared → Prop} (hx : h.get? a = some (listOf its k)) (hq : Q (.done (.ret (.ref h.objs.size))) ⟨h.push (boundO "list.append" a), g, d, t, os⟩) :
    wpAny (model prog w) A (Builtin.«object.__getattribute__» ⟨[.ref a, .str (Str.ofString "append") tk], []⟩) Q E ⟨h, g, d, t, os⟩ := by
  have hT : (⟨h, g, d, t, os⟩ : Shared).TypeIs (.ref a) "list" := ⟨_, hx, rfl⟩
  have hT5 : (⟨h, g, d, t, os⟩ : Shared).TypeIs (.builtin "list.append") "method_descriptor" := F.type_list_append
  have f4 := F.slot_list_append.lookup
  have f5 := F.type_list_append
  have f6 := md_get
  have f7 := md_set
  have f9 := md_del
  repeat (any_goals (first | assumption | wp_step))
  refine app_get hx rfl ?_
  repeat (any_goals (first | assumption | wp_step))
theorem app_call {tk : Tok} {its : Array Value} {k : Nat} {R : Result → Shared → Prop} (hx : h.get? a = some (listOf its k)) (hq : R (.ok (.ret (.ref h.objs.size))) ⟨h.push (boundO "list.append" a), g, d, t, os⟩) :
    codeAny (model prog w) A (.call (.builtin "list.__getattribute__") ⟨[.ref a, .str (Str.ofString "append") tk], []⟩) R ⟨h, g, d, t, os⟩ :=
  codeAny_call_builtin F.slot_list_getattribute.plain F.entry_list_ga (F.slot_list_getattribute.check _ _ _ _ _ _ _ _ (show (⟨h, g, d, t, os⟩ : Shared).TypeIs (.ref a) "list" from ⟨_, hx, rfl⟩) (F.args_list_getattribute_2 _ _) (app_entry hx hq))
theorem app_attr {its : Array Value} {k : Nat} {ex : Bool} {Q : Value → Shared → Prop} (hx : h.get? a = some (listOf its k)) (hq : Q (.ref h.objs.size) ⟨h.push (boundO "list.append" a), g, d, t + 1, os⟩) :
    wpAny (model prog w) A (getAttr (.ref a) (Str.ofString "append") ex) Q E ⟨h, g, d, t, os⟩ := by
  have hT : ∀ t, (⟨h, g, d, t, os⟩ : Shared).TypeIs (.ref a) "list" := fun _ => ⟨_, hx, rfl⟩
  have f2 := F.slot_list_getattribute.lookup
  have f3 := F.slot_list_getattribute.bind (.ref a)
  unfold getAttr getAttrBy
  refine wpAny_bind (wpAny_mkText (wpAny_holding (wpAny_bind (wpAny_typeOf (hT _) (wpAny_bind (wpAny_of_eq f2 ?_))))))
  show wpAny _ _ (getAttrByItsOwn _ _ _ _ _ _) _ _ _
  unfold getAttrByItsOwn hookBefore callGetattribute boundAndCalled
  refine wpAny_bind (wpAny_of_eq (show (if onTheHeap (.type "list") then typeLookup (.type "list") "__getattr__" else pure none) = pure none from rfl) ?_)
  refine wpAny_bind (wpAny_attempt (wpAny_holding ?_))
  have e : (ex && onTheHeap (.builtin "list.__getattribute__")) = false := by cases ex <;> rfl
  rw [e]
  show wpAny _ _ (bindSpecial (.builtin "list.__getattribute__") (.ref a) >>= _) _ _ _
  refine wpAny_bind (wpAny_of_eq f3 ?_)
  refine wpAny_call (app_call hx ?_)
  dsimp only
  exact wpAny_pure hq
end
end
-- X3
section
open Builtin
theorem sub_list_module : isSubtype (.type "list") (.type "module") = pure false := by rw [isSubtype_type]; kernel_rfl
theorem bound_app (a b : Value) : (match Manifest.signature? "list.append" with | some sig => Bind.checkArgs "list.append" { sig with full := toString (Bind.lastOf "list") ++ toString "." ++ toString (Bind.lastOf "list.append") } ⟨[a, b], []⟩ | none => pure ()) = pure () := by kernel_rfl
theorem kind_app : builtinKind "list.append" = some .method := by kernel_rfl
theorem vargs_app : (Manifest.varargsMethods.contains "list.append" || false) = false := by decide +kernel
section
variable {w : World} {g : Heap} {A : Around} {s : Shared} {L : Addr} {m : Str → Option Value} {l : Lgr} {E : Value → Shared → Prop}
theorem keeps_B {q a : Addr} {id : String} (h : Heap) (X : h.get? q = some (boundO id a)) : ∃ k, (k = Keeper.frame ∨ k = Keeper.machine ∨ k = Keeper.boundFrame) ∧ Looks (model Pg w) h (keeperOf (.ref q)) k :=
  ⟨.machine, .inr (.inl rfl), (Looks.ld (part := none) X).andThen .now⟩
theorem check_app {a : Addr} {o : Obj} {v : Value} {Q : Unit → Shared → Prop} (ho : s.heap.get? a = some o) (hc : o.cls = .type "list") (hnc : ∀ c, o.data ≠ .cls c) (hq : Q () s) :
    wpAny (model Pg w) A (checkBoundCall "list.append" ⟨[.ref a, v], []⟩) Q E s := by
  unfold checkBoundCall
  have hT : s.TypeIs (.ref a) "list" := ⟨o, ho, hc⟩
  have hb := bound_app (.ref a) v
  cases e : Manifest.signature? "list.append" with
  | none => exact wpAny_pure hq
  | some sig =>
    rw [e] at hb
    dsimp only at hb ⊢
    rw [kind_app]
    dsimp only
    rw [if_neg (show ¬ ((Manifest.AttrKind.method != Manifest.AttrKind.method && Manifest.AttrKind.method != Manifest.AttrKind.classMethod) = true) by decide)]
    refine wpAny_bind (wpAny_isInstance hT sub_list_module ?_)
    rw [vargs_app]
    rw [if_neg Bool.false_ne_true]
    refine wpAny_bind (ks_wpAny_isType_inst ho hnc ?_)
    try dsimp only
    rw [if_neg Bool.false_ne_true]
    refine wpAny_bind (wpAny_typeOf hT ?_)
    dsimp only
    exact wpAny_of_eq hb hq
theorem call_app {q a : Addr} {its : Array Value} {n i j : Nat} {v : Value} {Q : Value → Shared → Prop} (D : Led g L m s.heap l) (hi : l[i]? = some (a, listOf its n)) (hj : l[j]? = some (q, boundO "list.append" a)) (hz : its.size ≤ 1000000)
    (h : ∀ h' n', Led g L m h' (l.set i (a, listOf (its.push v) n')) → Q .none { s with heap := h' }) : wpAny (model Pg w) A (call (.ref q) [v]) Q E s := by
  refine wpAny_call ?_
  refine codeAny_of_tree ?_
  show wpAny _ A.in1 (callAny (.ref q) ⟨[v], []⟩) _ _ s
  simp only [callAny]
  refine wpAny_bind (wpAny_load (D.at hj) ?_)
  dsimp only [boundO]
  refine wpAny_bind (check_app (D.at hi) rfl (fun _ => nofun) ?_)
  refine wpAny_pure ⟨plainId_quiet F.slot_list_append.plain _, ?_⟩
  refine codeAny_builtin F.entry_list_append ?_
  rw [Around.under_plainId F.slot_list_append.plain]
  show wpAny _ _ (updateSeq a (·.push v) >>= fun _ => ret .none) _ _ s
  refine wpAny_bind ?_
  have hsz : its.size ≤ sizeLine := by have : sizeLine = 16777216 := sizeLine_eq; omega
  have hz' : (its.push v).size ≤ sizeLine + 1 := by rw [Array.size_push]; omega
  refine wpAny_updateSeq (hz := hsz) (_hz' := hz') (D.at hi) rfl (wpAny_pure ?_)
  exact h _ (n + 1) (D.put hi (Heap.SameBut.update ..) (by rw [Heap.get?_update_self _ (D.at hi) (by rw [Obj.mapSeq_push_plain]; rfl), Obj.mapSeq_push_plain]))
/-- a call of the bound method, with its argument -/
theorem cwB {pos : Pos} {q a : Addr} {j : Nat} {e : Expr} {env : Env} {Q : Value → Shared → Prop} (D : Led g L m s.heap l) (hj : l[j]? = some (q, boundO "list.append" a))
    (h : wpAny (model Pg w) A (spliced (backTo pos (starEach [e] env))) (fun vs s₁ => s₁.heap.get? q = some (boundO "list.append" a) ∧ wpAny (model Pg w) A (call (.ref q) ([] ++ vs)) Q E s₁) E s)
    (he : starEach [e] env = (false, eval e env) :: starEach [] env := by rfl) :
    wpAny (model Pg w) A (callWith pos (.ref q) [] (backTo pos (starEach [e] env)) []) Q E s := by
  rw [he] at h ⊢
  exact callWith_of (P := fun h => h.get? q = some (boundO "list.append" a)) (by rfl) keeps_B (evalArgs_plain h)
/-- the bound method, made -/
theorem getB {a : Addr} {i : Nat} {its : Array Value} {k : Nat} {ex : Bool} {Q : Value → Shared → Prop} (D : Led g L m s.heap l) (hi : l[i]? = some (a, listOf its k)) (h : ∀ q h' tk, Led g L m h' ((q, boundO "list.append" a) :: l) → Q (.ref q) { s with heap := h', toks := tk }) :
    wpAny (model Pg w) A (getAttr (.ref a) (Str.ofString "append") ex) Q E s := by
  obtain ⟨hh, gg, d, t, os⟩ := s
  exact app_attr (D.at hi) (h _ _ _ (D.push _))
end
end
-- M23
theorem boundAt {g h : Heap} {L : Addr} {m : Str → Option Value} {l : Lgr} {q a : Addr} {i : Nat} (D : Led g L m h l) (hi : l[i]? = some (q, boundO "list.append" a)) : h.get? q = some (boundO "list.append" a) := D.at hi
theorem word67 : True := by
  k_with "getAttr ref" => (k_dflt ((with_reducible show wpAny _ _ (getAttr (Value.ref _) (PySem.Str.ofString "append") _) _ _ _); (with_reducible rename Led _ _ _ _ _ => D0); (refine' getB D0 ?k1 ?_; (case k1 => walk_at "mine at"); k_whole; intro _ _ _ _; (try clear D0))))
  trivial
theorem word68 : True := by
  k_with "callWith ref" => (k_dflt ((with_reducible rename Led _ _ _ _ _ => D0); (refine' cwB D0 ?k1 ?_ ?k3; (case k1 => walk_at "mine at"); (case k3 => exact rfl); k_whole)))
  trivial
theorem word69 : True := by
  k_with "And" => (((with_reducible show Heap.get? _ _ = some _ ∧ _); (with_reducible rename Led _ _ _ _ _ => D0); refine' And.intro (boundAt D0 ?k1) ?_; (case k1 => walk_at "mine at"); try dsimp only [List.nil_append, List.cons_append]))
  trivial
theorem word70 : True := by
  k_with "call ref" => (k_dflt ((with_reducible rename Led _ _ _ _ _ => D0); (refine' call_app D0 ?k1 ?k2 ?k3 ?_; (case k2 => walk_at "mine at"); (case k1 => walk_at "mine at"); (case k3 => walk_at "mine room"); k_whole; intro _ _ dZ; (try simp only [List.set_cons_zero, List.set_cons_succ] at dZ); (try clear D0))))
  trivial
-- X4
section
open Builtin
section
variable {w : World} {g : Heap} {A : Around} {n : Nat} {s : Shared} {L : Addr} {m : Str → Option Value} {l : Lgr} {E : Value → Shared → Prop}
/-- a lambda's function, made -/
theorem lamL {a c P : Addr} {i : Nat} {cn : Str} {cs : Scope} {ccd : Value} {cl clos : List (Str × Addr)} {name qual : Str} {params : Arguments} {body : Expr} {scope : Scope} {pos : Pos} {firstLine : Nat} {Q : Value → Shared → Prop} (G : Gd w g) (D : Led g L m s.heap l)
    (C : CodeHd g c P) (hcd : ccd = .ref c) (hi : l[i]? = some (P, tabObj #[])) (hcl : closureFor scope (envX cn cs L a ccd cl) = pure clos)
    (h : ∀ f c' oc vs t ctv pm h' tk, Led g L m h' ((f, kla_obj name qual params body scope clos pm c' ctv) :: (c', oc) :: l.set i (P, tabObj #[rawInt pos.line, rawInt pos.col, .ref c'])) →
      oc.data = .fields vs → vs[1]? = some (.str qual t) → Q (.ref f) { s with heap := h', toks := tk }) :
    wpAny (model Pg w) A (makeFunction name qual params (.expr body) scope (envX cn cs L a ccd cl) [] [] [] pos firstLine) Q E s := by
  obtain ⟨_, _, _, mg, _, T⟩ := G.T
  have hm := D.nw _ (List.mem_of_getElem? hi)
  have hgs := T.g.keeps D.keep
  obtain ⟨bm, ob, b1, b2, b3, b4, b5, b6⟩ := T.bmain
  have hgP : mainGlobals ≠ P := fun q => by
    obtain ⟨o, es, ep, e, hd, _⟩ := hgs
    rw [q, hm.1] at e; cases e; cases hd
  have hbP : bm ≠ P := fun q => by
    have e := D.keep _ _ b3
    rw [q, hm.1] at e; cases e; cases b4
  have hbG : bm ≠ mainGlobals := fun q => by
    obtain ⟨o, es, ep, e, hd, _⟩ := T.g
    rw [q, e] at b3; cases b3; rw [hd] at b6; cases b6
  refine kla_makeFunction (mg := mg) hcl rfl hgs hcd (C.keeps D.keep) hm.1 (by exact True.intro) rfl hgP ⟨bm, ob, b1, b2, hbG, hbP, D.keep _ _ b3, b4, b5, b6⟩ fun c' ctv h' tk hx hge hlt hrec htb => ?_
  obtain ⟨c₂, oc, vs, t, e2, hoc, hd, hv⟩ := hrec
  cases e2
  have gP := hm.2.2
  have LP : L ≠ P := hm.2.1.symm
  -- the ledger in h'
  have k1 : ∀ b o, b ≠ P → s.heap.get? b = some o → h'.get? b = some o := fun b o hb e => hx b o hb e
  have fresh : ∀ b, s.heap.objs.size ≤ b → g.get? b = none := fun b hb => by
    cases q : g.get? b with
    | none => rfl
    | some o => exact absurd (Heap.lt_size (D.keep _ _ q)) (Nat.not_lt.mpr hb)
  obtain ⟨hl, he⟩ := List.getElem?_eq_some_iff.mp hi
  have D1 : Led g L m h' (l.set i (P, tabObj (#[] ++ #[rawInt pos.line, rawInt pos.col, .ref c']))) := by
    refine ⟨D.ns.extBut hx LP, fun b o e => k1 b o (fun q => by rw [q, gP] at e; cases e) (D.keep b o e), D.gL, fun p hp => ?_, ?_⟩
    · obtain ⟨j, hj, rfl⟩ := List.getElem_of_mem hp
      rw [List.getElem_set]
      by_cases q : i = j
      · subst q; rw [if_pos rfl]; exact ⟨htb, hm.2⟩
      · rw [if_neg q]
        have hj' : j < l.length := by simpa using hj
        have z := D.nw _ (List.getElem_mem hj')
        refine ⟨k1 _ _ (fun e => q ?_) z.1, z.2⟩
        have nd := D.nd
        have hi1 : (l.map (·.1))[i]'(by simpa using hl) = P := by simp [he]
        have hj1 : (l.map (·.1))[j]'(by simpa using hj') = P := by simp [e]
        have pw := List.pairwise_iff_getElem.mp nd
        rcases Nat.lt_trichotomy i j with q1 | q1 | q1
        · exact absurd (hi1.trans hj1.symm) (pw i j (by simpa using hl) (by simpa using hj') q1)
        · exact q1
        · exact absurd (hj1.trans hi1.symm) (pw j i (by simpa using hj') (by simpa using hl) q1)
    · have e : (l.set i (P, tabObj (#[] ++ #[rawInt pos.line, rawInt pos.col, .ref c']))).map (·.1) = l.map (·.1) := by
        rw [List.map_set]
        refine List.ext_getElem (by simp) fun j h1 h2 => ?_
        rw [List.getElem_set]
        by_cases q : i = j
        · subst q; rw [if_pos rfl]; simp [he]
        · rw [if_neg q]
      rw [e]; exact D.nd
  have Lc : c' ≠ L := Nat.ne_of_gt (Nat.lt_of_lt_of_le D.ns.lt hge)
  have D2 : Led g L m h' ((c', oc) :: l.set i (P, tabObj (#[] ++ #[rawInt pos.line, rawInt pos.col, .ref c']))) := by
    refine ⟨D1.ns, D1.keep, D1.gL, fun p hp => ?_, ?_⟩
    · rcases List.mem_cons.mp hp with rfl | hp
      · exact ⟨hoc, Lc, fresh _ hge⟩
      · exact D1.nw p hp
    · rw [List.map_cons, List.nodup_cons]
      refine ⟨fun hm2 => ?_, D1.nd⟩
      obtain ⟨p, hp, e⟩ := List.mem_map.mp hm2
      have old : ∀ p ∈ l.set i (P, tabObj (#[] ++ #[rawInt pos.line, rawInt pos.col, .ref c'])), p.1 < s.heap.objs.size := fun p hp => by
        rcases List.mem_or_eq_of_mem_set hp with hp | rfl
        · exact Heap.lt_size (D.nw p hp).1
        · exact Heap.lt_size hm.1
      have h3 := old p hp
      rw [e] at h3
      exact absurd h3 (Nat.not_lt.mpr hge)
  have D3 := D2.push (kla_obj name qual params body scope clos ((mg "__name__").getD .none) c' ctv)
  rw [Array.empty_append] at D3
  exact h _ _ _ _ _ _ _ _ _ D3 hd hv
/-- made again: its code stands in the table -/
theorem lamHit {a c P c' : Addr} {i : Nat} {cn : Str} {cs : Scope} {ccd : Value} {cl clos : List (Str × Addr)} {name qual : Str} {params : Arguments} {body : Expr} {scope : Scope} {pos : Pos} {firstLine : Nat} {Q : Value → Shared → Prop} (G : Gd w g) (D : Led g L m s.heap l)
    (C : CodeHd g c P) (hcd : ccd = .ref c) (hi : l[i]? = some (P, tabObj #[rawInt pos.line, rawInt pos.col, .ref c'])) (hcl : closureFor scope (envX cn cs L a ccd cl) = pure clos)
    (h : ∀ f ctv pm h' tk, Led g L m h' ((f, kla_obj name qual params body scope clos pm c' ctv) :: l) → Q (.ref f) { s with heap := h', toks := tk }) :
    wpAny (model Pg w) A (makeFunction name qual params (.expr body) scope (envX cn cs L a ccd cl) [] [] [] pos firstLine) Q E s := by
  obtain ⟨_, _, _, mg, _, T⟩ := G.T
  have hm := D.nw _ (List.mem_of_getElem? hi)
  have hgs := T.g.keeps D.keep
  obtain ⟨bm, ob, b1, b2, b3, b4, b5, b6⟩ := T.bmain
  have hbP : bm ≠ P := fun q => by
    have e := D.keep _ _ b3
    rw [q, hm.1] at e; cases e; cases b4
  have hbG : bm ≠ mainGlobals := fun q => by
    obtain ⟨o, es, ep, e, hd, _⟩ := T.g
    rw [q, e] at b3; cases b3; rw [hd] at b6; cases b6
  refine kla_makeFunctionHit (mg := mg) (cv := .ref c') hcl rfl hgs hcd (C.keeps D.keep) hm.1 (by exact True.intro) (by simp [codeAmong, rawInt]) ⟨bm, ob, b1, b2, hbG, hbP, D.keep _ _ b3, b4, b5, b6⟩ fun ctv h' tk hk hsz => ?_
  exact h _ _ _ _ _ ((D.keeps hk).push _)
end
end
-- X5
section
open Builtin Builtin.Re
theorem slot_sub : Slot "re.Pattern" "sub" "re.Pattern.sub" :=
  .of (owner := "re.Pattern") (n := "sub") (by rw [typeLookup_type, builtinLookup_eq_fast]; kernel_rfl) (by decide +kernel) (by decide +kernel) (by decide +kernel)
    (by first | exact .inl (by decide +kernel) | exact .inr (by decide +kernel)) (by rw [isSubtype_type]; kernel_rfl)
theorem entry_sub : entryFor table "re.Pattern.sub" = some Builtin.«re.Pattern.sub» := entryFor_of_tree (by kernel_rfl)
theorem entry_loop : entryFor table "re.Pattern.sub.loop" = some Builtin.«re.Pattern.sub.loop» := entryFor_of_tree (by kernel_rfl)
theorem plain_sub : PlainAttrs "re.Pattern" :=
  ⟨⟨"object.__getattribute__", by rw [typeLookup_type, builtinLookup_eq_fast]; kernel_rfl, by decide +kernel⟩, by rw [typeLookup_type, builtinLookup_eq_fast]; kernel_rfl⟩
theorem type_sub : typeOf (.builtin "re.Pattern.sub") = pure (.type "method_descriptor") := by show builtinType _ = _; rw [builtinType_eq_fast]; kernel_rfl
theorem args_sub (a b c : Value) : argsOk "re.Pattern.sub" ⟨[a, b, c], []⟩ := by unfold argsOk; kernel_rfl
theorem fn_call : typeLookup (.type "function") "__call__" = pure (some (.builtin "function.__call__")) := by rw [typeLookup_type, builtinLookup_eq_fast]; kernel_rfl
theorem sub_str_ba : isSubtype (.type "str") (.type "bytearray") = pure false := by rw [isSubtype_type]; kernel_rfl
theorem re_pat (w : World) : ∃ p tp a b, (hd.heap_1 w.params).lookup 89 = some ⟨.type "re.Pattern", none, .fields #[.str p tp, .int 32 a, .int 1 b, .none, .none, .ref 88, .int 0 0], #[]⟩ := by
  refine ⟨_, _, _, _, by k_is⟩
noncomputable abbrev codeL : Array Nat := #[14, 14, 4, 1, 1, 9, 0, 64, 0, 1342177280, 0, 0, 0, 0, 0, 17, 0, 13, 11, 9, 0, 64, 0, 1342177280, 0, 0, 0, 0, 0, 17, 1, 1]
theorem re_code (w : World) : ∃ its n, (hd.heap_1 w.params).lookup 88 = some ⟨.type "tuple", none, .seq its n, #[]⟩ ∧ (its.map reRawOf).map Int.toNat = codeL := by
  refine ⟨_, _, by k_is, by decide +kernel⟩
noncomputable def runs : Nat → Sre.M → Option Sre.M
  | 0, _ => none
  | k + 1, m => let m := m.runFor reTurnSteps; if m.outcome.isSome then some m else runs k m
noncomputable def fails (k : Nat) (m : Sre.M) : Bool := match runs k m with | some f => (match f.outcome with | some .failed => true | _ => false) | none => false
theorem drive {M : Model} {A : Around} {s : Shared} {E : Value → Shared → Prop} {Q : Sre.M → Shared → Prop} : ∀ {k n : Nat} {m f : Sre.M}, runs k m = some f → k ≤ n → Q f s → wpAny M A (reDrive n m) Q E s
  | 0, _, _, _, h, _, _ => by cases h
  | k + 1, 0, _, _, _, hk, _ => by omega
  | k + 1, n + 1, m, f, h, hk, hq => by
    show wpAny M A (if ((m.runFor reTurnSteps).outcome.isSome) then pure (m.runFor reTurnSteps) else do rule "sre.turn"; reDrive n (m.runFor reTurnSteps)) Q E s
    simp only [runs] at h
    split at h
    · rename_i ho
      rw [if_pos ho]; cases h; exact wpAny_pure hq
    · rename_i ho
      rw [if_neg ho]
      exact wpAny_bind (wpAny_rule (drive h (by omega) hq))
theorem forR {M : Model} {A : Around} {s : Shared} {E : Value → Shared → Prop} {p : Nat → Bool} {t : Nat → String} {Q : PUnit → Shared → Prop} (hq : Q ⟨⟩ s) : ∀ l : List Nat,
    wpAny M A (forIn l PUnit.unit fun i r => if p i = true then do rule (t i); pure (ForInStep.yield PUnit.unit) else pure (ForInStep.yield PUnit.unit)) Q E s
  | [] => wpAny_pure hq
  | a :: l => by
    rw [List.forIn_cons]
    refine wpAny_bind ?_
    split
    · exact wpAny_bind (wpAny_rule (wpAny_pure (forR hq l)))
    · exact wpAny_pure (forR hq l)
theorem runE {M : Model} {A : Around} {s : Shared} {E : Value → Shared → Prop} {Q : Option Sre.M → Shared → Prop} {k : Nat} {m : Sre.M} (h : fails k m = true) (hk : k ≤ 1000) (hq : Q none s) : wpAny M A (reRunToEnd m) Q E s := by
  unfold fails at h
  cases e : runs k m with
  | none => rw [e] at h; cases h
  | some f =>
    rw [e] at h
    dsimp only at h
    have hf : f.outcome = some .failed := by
      split at h
      · assumption
      · cases h
    unfold reRunToEnd
    refine wpAny_bind (drive e (Nat.le_trans hk (by decide)) ?_)
    refine wpAny_bind ?_
    refine forR ?_ _
    rw [hf]
    exact wpAny_pure hq
theorem no_hit : ∀ c ∈ [42, 63, 91], fails 20 (Sre.forSearch codeL #[c] 1 0 1 false) = true := by decide +kernel
section
variable {w : World} {g : Heap} {A : Around} {s : Shared} {L : Addr} {m : Str → Option Value} {l : Lgr} {E : Value → Shared → Prop}
theorem whole {M : Model} {A : Around} {s : Shared} {E : Value → Shared → Prop} {c : Nat} {t tp a b : Tok} {p : Str} {its : Array Value} {n : Nat} {Q : ReTarget → Shared → Prop} (h1 : s.heap.get? 89 = some ⟨.type "re.Pattern", none, .fields #[.str p tp, .int 32 a, .int 1 b, .none, .none, .ref 88, .int 0 0], #[]⟩)
    (h2 : s.heap.get? 88 = some ⟨.type "tuple", none, .seq its n, #[]⟩) (h3 : (its.map reRawOf).map Int.toNat = codeL)
    (hq : Q { pattern := .ref 89, string := .str (one c) t, code := codeL, text := #[c], kind := 0, groups := 1, pos := 0, lim := 1 } s) : wpAny M A (reWholeTarget (.ref 89) (.str (one c) t)) Q E s := by
  unfold reWholeTarget
  refine wpAny_bind (wpAny_fieldsOf h1 rfl ?_)
  refine wpAny_bind (wpAny_of_eq (a := (#[c], 0)) rfl ?_)
  dsimp only
  have e1 : (reRawNat ((#[Value.str p tp, .int 32 a, .int 1 b, .none, .none, .ref 88, .int 0 0] : Array Value).getD 6 .none) == 0 && (0 : Nat) == 1) = false := rfl
  have e2 : (reRawNat ((#[Value.str p tp, .int 32 a, .int 1 b, .none, .none, .ref 88, .int 0 0] : Array Value).getD 6 .none) == 1 && (0 : Nat) == 0) = false := rfl
  simp only [e1, e2, Bool.false_eq_true, if_false, pure_bind]
  refine wpAny_bind (wpAny_of_eq (a := ()) rfl ?_)
  refine wpAny_bind ?_
  show wpAny _ _ (reRawItems (.ref 88)) _ _ _
  unfold reRawItems
  refine wpAny_bind (wpAny_seqItems h2 rfl (wpAny_pure (wpAny_pure ?_)))
  show Q { pattern := .ref 89, string := .str (one c) t, code := (its.map reRawOf).map Int.toNat, text := #[c], kind := 0, groups := 1, pos := 0, lim := 1 } s
  rw [h3]
  exact hq
theorem subLoop {c : Nat} {t : Tok} {f q : Addr} {R : Result → Shared → Prop} (hc : c ∈ [42, 63, 91]) (G : Gd w g) (D : Led g L m s.heap ((q, listOf #[] 0) :: l))
    (h : ∀ h' tk t', Led g L m h' l → R (.ok (.ret (.str (strOf [c]) t'))) { s with heap := h', toks := tk }) :
    codeAny (model Pg w) A (.builtin "re.Pattern.sub.loop" ⟨[.ref 89, .str (one c) t, .ref f, rawInt 1, rawInt 0, rawInt 0, rawInt 0, rawInt 0, .bool false, .ref q, .bool false], []⟩) R s := by
  obtain ⟨p, tp, a, b, h1⟩ := re_pat w
  obtain ⟨its, n, h2, h3⟩ := re_code w
  have k1 := D.keep _ _ (G.X 89 _ h1)
  have k2 := D.keep _ _ (G.X 88 _ h2)
  refine codeAny_builtin entry_loop ?_
  unfold «re.Pattern.sub.loop»
  dsimp only [rawInt]
  refine wpAny_bind (whole k1 k2 h3 ?_)
  rw [if_neg (show ¬ (((1 : Int) == 0) = true) by decide)]
  try refine wpAny_bind (wpAny_pure ?_)
  try dsimp only
  rw [if_neg (show ¬ (((0 : Int) != 0 && decide ((0 : Int) ≥ 0)) = true) by decide)]
  refine wpAny_bind (runE (no_hit c hc) (by decide) ?_)
  dsimp only
  rw [if_pos (show Int.toNat 0 < 1 by decide)]
  refine wpAny_bind ?_
  have hz : sizeLine = 16777216 := sizeLine_eq
  have hsl : ∀ (i j : Nat) (A : Around) (s : Shared) (Q E : Value → Shared → Prop), Q (.str (strOf ([c].extract i j)) s.toks) { s with toks := s.toks + 1 } → wpAny (model Pg w) A (reSlice #[c] 0 i j) Q E s := fun i j A s Q E hq => by
    show wpAny _ _ (mkStr ⟨(#[c] : Array Nat).extract i j⟩) _ _ _
    have e : (⟨(#[c] : Array Nat).extract i j⟩ : Str) = strOf ([c].extract i j) := by
      unfold strOf; congr 1; apply Array.toList_inj.mp; simp
    rw [e]
    refine wpAny_mkStr hq ?_
    rw [len_strOf, hz]
    have : ([c].extract i j).length ≤ 1 := by rw [List.extract_eq_take_drop, List.length_take]; exact Nat.le_trans (Nat.min_le_right _ _) (by rw [List.length_drop]; exact Nat.sub_le 1 i)
    omega
  refine hsl _ _ _ _ _ _ ?_
  refine wpAny_bind ?_
  have hi : ((q, listOf #[] 0) :: l)[0]? = some (q, listOf #[] 0) := rfl
  refine wpAny_updateSeq (hz := by simp) (_hz' := by simp [hz]) (D.at hi) rfl ?_
  have D1 := D.put (h' := s.heap.update q (Obj.mapSeq (·.push (.str (strOf ([c].extract (Int.toNat 0) 1)) s.toks)))) hi (Heap.SameBut.update ..) (by rw [Heap.get?_update_self _ (D.at hi) (by rw [Obj.mapSeq_push_plain]; rfl), Obj.mapSeq_push_plain])
  rw [List.set_cons_zero] at D1
  refine wpAny_bind (hsl _ _ _ _ _ _ ?_)
  refine wpAny_bind (wpAny_seqItems (o := listOf (#[].push (.str (strOf ([c].extract (Int.toNat 0) 1)) s.toks)) 1) (D1.at (i := 0) rfl) rfl ?_)
  rw [if_neg (show ¬ (((some (#[].push (.str (strOf ([c].extract (Int.toNat 0) 1)) s.toks) : Array Value)).getD #[]).isEmpty = true) by simp)]
  refine wpAny_bind ?_
  have e0 : strOf ([c].extract 0 0) = Str.ofString "" := by rw [str_nil]; rfl
  rw [e0]
  refine joinP (i := 0) (ps := [[c]]) (its := [.str (strOf [c]) s.toks]) (n := 1) D1 rfl ?_ (by simp) fun t' k => ?_
  · exact .cons (strOf [c]) s.toks .nil
  rw [if_neg Bool.false_ne_true]
  refine wpAny_pure ?_
  exact h _ _ _ (D1.drops 1)
theorem named_sub (a b : Value) : reNamed "re.Pattern.sub" "sub" ["repl", "string", "count"] 2 [a, b] [] = pure [some a, some b, none] := by kernel_rfl
theorem subCall {c : Nat} {t : Tok} {f : Addr} {fo : Obj} {i : Nat} {Q : Value → Shared → Prop} (hc : c ∈ [42, 63, 91]) (G : Gd w g) (D : Led g L m s.heap l) (hi : l[i]? = some (f, fo)) (hf : fo.cls = .type "function")
    (h : ∀ h' tk t', Led g L m h' l → Q (.str (strOf [c]) t') { s with heap := h', toks := tk }) :
    wpAny (model Pg w) A (call (.builtin "re.Pattern.sub") [.ref 89, .ref f, .str (one c) t]) Q E s := by
  obtain ⟨p, tp, a, b, h1⟩ := re_pat w
  obtain ⟨its, n, h2, h3⟩ := re_code w
  have k1 := D.keep _ _ (G.X 89 _ h1)
  have k2 := D.keep _ _ (G.X 88 _ h2)
  refine wpAny_call (codeAny_call_builtin slot_sub.plain entry_sub (slot_sub.check _ _ _ _ _ _ _ _ (show s.TypeIs (.ref 89) "re.Pattern" from ⟨_, k1, rfl⟩) (args_sub _ _ _) ?_))
  show wpAny _ _ (reSubstitute "re.Pattern.sub" "sub" false ⟨[.ref 89, .ref f, .str (one c) t], []⟩) _ _ _
  unfold reSubstitute
  dsimp only
  refine wpAny_bind (wpAny_of_eq (named_sub _ _) ?_)
  dsimp only
  refine wpAny_bind (wpAny_pure ?_)
  refine wpAny_bind (wpAny_specialOf (T := "function") ⟨fo, D.at hi, hf⟩ fn_call ?_)
  dsimp only [Option.isSome_some]
  refine wpAny_bind ?_
  refine wpAny_pure ?_
  rw [if_pos rfl]
  refine wpAny_bind (wpAny_pure ?_)
  dsimp only
  refine wpAny_bind (wpAny_holding (whole k1 k2 h3 ?_))
  rw [if_pos (show ((1 : Int) == 1) = true by decide)]
  unfold reNotHeld
  refine wpAny_bind (wpAny_bind (wpAny_isInstance_val rfl sub_str_ba ?_))
  rw [if_neg Bool.false_ne_true]
  try dsimp only
  refine wpAny_pure ?_
  refine wpAny_bind (newL (vs := []) D (fun q h1 D1 => ?_) (Nat.zero_le _))
  refine wpAny_pure ⟨plainId_quiet (by decide +kernel) _, ?_⟩
  exact subLoop hc G D1 fun h' tk t' D2 => h h' tk t' D2
theorem subMeth {pl : Sem Bool} {Q : Value × List Value → Shared → Prop} (G : Gd w g) (D : Led g L m s.heap l) (h : Q (.builtin "re.Pattern.sub", [.ref 89]) s) : wpAny (model Pg w) A (getMethod (.ref 89) (Str.ofString "sub") pl) Q E s := by
  obtain ⟨p, tp, a, b, h1⟩ := re_pat w
  have k1 := D.keep _ _ (G.X 89 _ h1)
  exact getMethod_builtin ⟨_, k1, rfl⟩ plain_sub slot_sub type_sub (fun a e => by cases e; exact ⟨_, k1, rfl⟩) h
theorem lamEval {args : Arguments} {body : Expr} {scope : Scope} {pos : Pos} {env : Env} {Q : Value → Shared → Prop} (hd0 : args.defaults = []) (hk0 : args.kw_defaults = [])
    (h : wpAny (model Pg w) A (makeFunction "<lambda>" (env.qual ++ "<lambda>") args (.expr body) scope env [] [] [] pos pos.line) Q E s) : wpAny (model Pg w) A (eval (.Lambda args body scope pos) env) Q E s := by
  have e : defaultsOf args env = ([], []) := by rw [defaultsOf_eq, hd0, hk0]; rfl
  show wpAny _ _ (do let dv ← evalAll (defaultsOf args env).1; let kdv ← holding dv (evalAllOpt (defaultsOf args env).2); makeFunction "<lambda>" (env.qual ++ "<lambda>") args (.expr body) scope env dv kdv [] pos pos.line) _ _ _
  rw [e]
  exact wpAny_bind (wpAny_pure (wpAny_bind (wpAny_holding (wpAny_pure h))))
end
end
theorem word71 : True := by
  k_with "getMethod ref" => (k_dflt ((with_reducible show wpAny _ _ (getMethod (Value.ref 89) (PySem.Str.ofString "sub") _) _ _ _); (with_reducible rename Led _ _ _ _ _ => D0); (refine' subMeth ?kG D0 ?_; (case kG => assumption); k_whole)))
  trivial
theorem word72 : True := by
  k_with "eval Lambda" => (k_dflt (refine' lamEval ?d0 ?k0 ?_; (case d0 => exact rfl); (case k0 => exact rfl)))
  trivial
theorem word73 : True := by
  k_with "call builtin:re.Pattern.sub" => (k_dflt ((with_reducible rename Led _ _ _ _ _ => D0); (refine' subCall ?kc ?kG D0 ?k1 ?k2 ?_; (case kG => assumption); (case kc => assumption); (case k1 => walk_at "mine at"); (case k2 => assumption); k_whole; intro _ _ _ _; (try clear D0))))
  trivial
-- P13
/-- what the law writes into a pattern for the sign of 0 -/
noncomputable def zp (c : Nat) : List Nat := if c = 42 ∨ c = 63 ∨ c = 91 then [91, c, 93] else [c]
noncomputable def pz (c0 : Nat) (X : Nat → Bool) (k : Nat) : List Nat := if X k then zp c0 else [63]
noncomputable def prest (c0 : Nat) (X : Nat → Bool) (k : Nat) : List Nat := (((List.range 4).drop k).map (pz c0 X)).flatten
noncomputable def patT (c0 : Nat) (X : Nat → Bool) : List Nat := prest c0 X 0
theorem pz_len (c0 : Nat) (X : Nat → Bool) (k : Nat) : (pz c0 X k).length ≤ 3 := by
  unfold pz zp
  split
  · split <;> simp
  · simp
theorem prest_succ {c0 : Nat} {X : Nat → Bool} {k : Nat} (hk : k < 4) : prest c0 X k = pz c0 X k ++ prest c0 X (k + 1) := by
  rcases four hk with rfl | rfl | rfl | rfl <;> rfl
theorem prest_four {c0 : Nat} {X : Nat → Bool} : prest c0 X 4 = [] := rfl
theorem prest_len {c0 : Nat} {X : Nat → Bool} : ∀ {k : Nat}, k ≤ 4 → (prest c0 X k).length ≤ 12 := by
  have h3 := fun k => pz_len c0 X k
  have e4 : (prest c0 X 4).length ≤ 0 := Nat.le_refl 0
  have e3 : (prest c0 X 3).length ≤ 3 := by rw [prest_succ (by decide), List.length_append]; exact Nat.add_le_add (h3 3) e4
  have e2 : (prest c0 X 2).length ≤ 6 := by rw [prest_succ (by decide), List.length_append]; exact Nat.add_le_add (h3 2) e3
  have e1 : (prest c0 X 1).length ≤ 9 := by rw [prest_succ (by decide), List.length_append]; exact Nat.add_le_add (h3 1) e2
  have e0 : (prest c0 X 0).length ≤ 12 := by rw [prest_succ (by decide), List.length_append]; exact Nat.add_le_add (h3 0) e1
  have w := fun {n m : Nat} (h : n ≤ m) (hm : m ≤ 12) => Nat.le_trans h hm
  exact fun {k} hk => AllN.get (P := fun k => (prest c0 X k).length ≤ 12) (n := 5) ⟨⟨⟨⟨⟨trivial, e0⟩, w e1 (by decide)⟩, w e2 (by decide)⟩, w e3 (by decide)⟩, w e4 (by decide)⟩ k (Nat.lt_succ_of_le hk)
structure PartsTo (c0 : Nat) (X : Nat → Bool) (k : Nat) (its : List Value) : Prop where
  len : its.length = k
  at_ : ∀ j, j < k → ∃ x t, its[j]? = some (.str x t) ∧ x = strOf (pc c0 X j)
theorem PartsTo.zero (c0 : Nat) (X : Nat → Bool) : PartsTo c0 X 0 [] := ⟨rfl, fun _ h => absurd h (Nat.not_lt_zero _)⟩
theorem PartsTo.snoc {c0 : Nat} {X : Nat → Bool} {k : Nat} {its : List Value} {x : Str} {t : Tok} (h : PartsTo c0 X k its) (hx : x = strOf (pc c0 X k)) : PartsTo c0 X (k + 1) (its ++ [.str x t]) := by
  refine ⟨by rw [List.length_append, h.len]; rfl, fun j hj => ?_⟩
  rcases Nat.lt_or_eq_of_le (Nat.le_of_lt_succ hj) with h1 | rfl
  · obtain ⟨y, u, e, hy⟩ := h.at_ j h1
    exact ⟨y, u, by rw [List.getElem?_append_left (by have := h.len; omega), e], hy⟩
  · exact ⟨x, t, by rw [List.getElem?_append_right (by have := h.len; omega), h.len]; simp, hx⟩
theorem len_succ {α : Type} {l : List α} {n : Nat} (h : l.length = n + 1) : ∃ a r, l = a :: r ∧ r.length = n := by
  cases l with
  | nil => cases h
  | cons a r => exact ⟨a, r, rfl, Nat.succ.inj h⟩
theorem PartsTo.strs {c0 : Nat} {X : Nat → Bool} {its : List Value} (h : PartsTo c0 X 4 its) : StrsAre its (((List.range 4).map (pc c0 X)).map strOf) := by
  obtain ⟨a, r, rfl, h3⟩ := len_succ h.len
  obtain ⟨b, r, rfl, h2⟩ := len_succ h3
  obtain ⟨c, r, rfl, h1⟩ := len_succ h2
  obtain ⟨d, r, rfl, h0⟩ := len_succ h1
  obtain rfl := List.eq_nil_of_length_eq_zero h0
  obtain ⟨x0, t0, e0, rfl⟩ := h.at_ 0 (by decide)
  obtain ⟨x1, t1, e1, rfl⟩ := h.at_ 1 (by decide)
  obtain ⟨x2, t2, e2, rfl⟩ := h.at_ 2 (by decide)
  obtain ⟨x3, t3, e3, rfl⟩ := h.at_ 3 (by decide)
  cases e0; cases e1; cases e2; cases e3
  exact .cons _ _ (.cons _ _ (.cons _ _ (.cons _ _ .nil)))
theorem ex_lit : Str.ofString "!" = one 33 := by decide +kernel
theorem st_lit : Str.ofString "*" = one 42 := by decide +kernel
theorem qu_lit : Str.ofString "?" = one 63 := by decide +kernel
theorem dot_str : Str.ofString "." = strOf [46] := by decide +kernel
theorem esc_tp {c : Nat} (hc : c ∈ [97, 33, 34, 93, 45, 46, 94, 126, 38, 35, 32, 92, 10]) : escF c = tp c := by
  revert c; decide
/-- what the table of the lambda holds -/
noncomputable def TabL (ln cl : Nat) (lt : Lgr) : Prop := lt = [(110, tabObj #[])] ∨ ∃ c' oc, lt = [(110, tabObj #[rawInt ln, rawInt cl, .ref c']), (c', oc)]
section
variable (g : Heap) (s₀ : Shared) (L ia q : Addr) (T : List Nat) (t u : Tok) (c0 : Nat) (X : Nat → Bool) (z : Lgr) (ln cl : Nat)
inductive TranJ (n : Nat) (s' : Shared) : Prop
  | mk (k pl nn : Nat) (its : List Value) (b : List (Str × Value)) (t1 t2 : Tok) (lt : Lgr) (h_0 : n = 4 - k) (h_1 : k ≤ 4) (h_2 : T.drop pl = prest c0 X k) (h_3 : pl + (prest c0 X k).length = T.length) (h_4 : PartsTo c0 X k its) (h_5 : mp b (Str.ofString "res") = some (.ref ia)) (h_6 : mp b (Str.ofString "add") = some (.ref q)) (h_7 : mp b (Str.ofString "i") = some (.int (pl : Int) t1)) (h_8 : mp b (Str.ofString "n") = some (.int (T.length : Nat) t2)) (h_9 : mp b (Str.ofString "pat") = some (.str (strOf T) t)) (h_10 : mp b (Str.ofString "QUESTION_MARK") = some (.str (Str.ofString ".") u)) (h_11 : TabL ln cl lt) (h_12 : Sm s₀ s') (h_13 : Led g L (mp b) s'.heap ((ia, listOf its.toArray nn) :: (q, boundO "list.append" ia) :: (lt ++ z))) : TranJ n s'
end
section
variable (g : Heap) (s₀ : Shared) (L ia q : Addr) (T : List Nat) (t u : Tok) (pl : Nat) (l : Lgr)
inductive InJ (n : Nat) (s' : Shared) : Prop
  | mk (j : Nat) (b : List (Str × Value)) (tj ti t2 : Tok) (h_0 : n = pl + 2 - j) (h_1 : pl + 1 ≤ j) (h_2 : j ≤ pl + 2) (h_3 : mp b (Str.ofString "j") = some (.int (j : Int) tj)) (h_4 : mp b (Str.ofString "i") = some (.int ((pl : Int) + 1) ti)) (h_5 : mp b (Str.ofString "res") = some (.ref ia)) (h_6 : mp b (Str.ofString "add") = some (.ref q)) (h_7 : mp b (Str.ofString "n") = some (.int (T.length : Nat) t2)) (h_8 : mp b (Str.ofString "pat") = some (.str (strOf T) t)) (h_9 : mp b (Str.ofString "QUESTION_MARK") = some (.str (Str.ofString ".") u)) (h_10 : Sm s₀ s') (h_11 : Led g L (mp b) s'.heap l) : InJ n s'
end
theorem inNxt {g : Heap} {s₀ s3 : Shared} {L ia q : Addr} {T : List Nat} {t u : Tok} {pl : Nat} {l : Lgr} {b : List (Str × Value)} (m1 : ∃ tj, mp b (Str.ofString "j") = some (.int (((pl + 2 : Nat) : Int)) tj)) (m2 : ∃ ti, mp b (Str.ofString "i") = some (.int ((pl : Int) + 1) ti)) (m3 : mp b (Str.ofString "res") = some (.ref ia)) (m4 : mp b (Str.ofString "add") = some (.ref q)) (m5 : ∃ t2, mp b (Str.ofString "n") = some (.int (T.length : Nat) t2)) (m6 : mp b (Str.ofString "pat") = some (.str (strOf T) t)) (m7 : mp b (Str.ofString "QUESTION_MARK") = some (.str (Str.ofString ".") u)) (hs : Sm s₀ s3) (D : Led g L (mp b) s3.heap l) : Nxt (InJ g s₀ L ia q T t u pl l) 1 s3 :=
  let ⟨tj, m1⟩ := m1; let ⟨ti, m2⟩ := m2; let ⟨t2, m5⟩ := m5; ⟨0, by decide, pl + 2, b, tj, ti, t2, by omega, by omega, by omega, m1, m2, m3, m4, m5, m6, m7, hs, D⟩
theorem tranNxt {g : Heap} {s₀ s3 : Shared} {L ia q : Addr} {T : List Nat} {t u : Tok} {c0 : Nat} {X : Nat → Bool} {z lt : Lgr} {ln cl : Nat} {k pl nn' pl' : Nat} {its : List Value} {b' : List (Str × Value)} {x : Str} {tx : Tok} (hk : k < 4) (hdr : T.drop pl = prest c0 X k) (hlen : pl + (prest c0 X k).length = T.length) (hits : PartsTo c0 X k its)
    (e : pl' = pl + (pz c0 X k).length) (hx : x = strOf (pc c0 X k)) (m1 : mp b' (Str.ofString "res") = some (.ref ia)) (m2 : mp b' (Str.ofString "add") = some (.ref q)) (m3 : ∃ t1, mp b' (Str.ofString "i") = some (.int (pl' : Int) t1)) (m4 : ∃ t2, mp b' (Str.ofString "n") = some (.int (T.length : Nat) t2)) (m5 : mp b' (Str.ofString "pat") = some (.str (strOf T) t)) (m6 : mp b' (Str.ofString "QUESTION_MARK") = some (.str (Str.ofString ".") u)) (hT : TabL ln cl lt) (hs : Sm s₀ s3)
    (D : Led g L (mp b') s3.heap ((ia, listOf (its ++ [Value.str x tx]).toArray nn') :: (q, boundO "list.append" ia) :: (lt ++ z))) : Nxt (TranJ g s₀ L ia q T t u c0 X z ln cl) (4 - k) s3 := by
  rw [prest_succ hk] at hdr hlen
  rw [List.length_append] at hlen
  subst e
  obtain ⟨t1, m3⟩ := m3
  obtain ⟨t2, m4⟩ := m4
  exact ⟨4 - (k + 1), sub_step hk, k + 1, _, nn', its ++ [Value.str x tx], b', t1, t2, lt, rfl, hk, drop_more hdr, (Nat.add_assoc _ _ _).trans hlen, hits.snoc hx, m1, m2, m3, m4, m5, m6, hT, hs, D⟩
theorem noOcc {x y : Str} {c d : Nat} (hx : x = one c) (hy : y = one d) (h : d ≠ c) : (Builtin.Str.occurrences x y 0 x.length 1).isEmpty = true := by
  subst hx; subst hy
  have h1 := StrLaws.found_one (one c) d
  have e : ¬ (d ∈ (one c).cps.toList) := by simp [one]; exact h
  rw [decide_eq_false e] at h1
  have h2 : (Builtin.Str.occurrences (one c) ⟨#[d]⟩ 0 (one c).length 1).isEmpty = true := by simpa using h1
  exact h2
theorem mi_lit : Str.ofString "-" = one 45 := by decide +kernel
theorem lamAny {w : World} {g : Heap} {A : Around} {s : Shared} {L : Addr} {m : Str → Option Value} {E : Value → Shared → Prop} {a : Addr} {ln cl : Nat} {e1 e2 : Addr × Obj} {lt z : Lgr} {cn : Str} {cs : Scope} {ccd : Value} {c0l : List (Str × Addr)} {name qual : Str} {params : Arguments} {body : Expr} {scope : Scope} {pos : Pos} {firstLine : Nat} {Q : Value → Shared → Prop} (G : Gd w g) (D : Led g L m s.heap (e1 :: e2 :: (lt ++ z)))
    (hT : TabL ln cl lt) (hln : pos.line = ln) (hcol : pos.col = cl) (hcd : ccd = .ref 114) (hcl : closureFor scope (envX cn cs L a ccd c0l) = pure [])
    (h : ∀ f fo lt' h' tk, fo.cls = .type "function" → TabL ln cl lt' → Led g L m h' ((f, fo) :: e1 :: e2 :: (lt' ++ z)) → Q (.ref f) { s with heap := h', toks := tk }) :
    wpAny (model Pg w) A (makeFunction name qual params (.expr body) scope (envX cn cs L a ccd c0l) [] [] [] pos firstLine) Q E s := by
  subst hln; subst hcol
  rcases hT with rfl | ⟨c', oc, rfl⟩
  · refine lamL (c := 114) (P := 110) (i := 2) (clos := []) G D G.c1 hcd rfl hcl fun f c' oc vs t ctv pm h' tk D2 hd hv => ?_
    refine h f _ [(110, tabObj #[rawInt pos.line, rawInt pos.col, .ref c']), (c', oc)] h' tk rfl (.inr ⟨c', oc, rfl⟩) (D2.perm (List.Perm.cons _ ?_))
    exact (List.perm_middle (l₁ := [e1, e2, (110, tabObj #[rawInt pos.line, rawInt pos.col, .ref c'])]) (a := (c', oc)) (l₂ := z)).symm
  · refine lamHit (c := 114) (P := 110) (i := 2) (clos := []) (c' := c') G D G.c1 hcd rfl hcl fun f ctv pm h' tk D2 => ?_
    exact h f _ _ h' tk rfl (.inr ⟨c', oc, rfl⟩) D2
theorem truthy1 {w : World} {A : Around} {s : Shared} {E : Value → Shared → Prop} {Q : Bool → Shared → Prop} {c : Nat} {t : Tok} (h : ∀ k, Q true { s with toks := k }) : wpAny (model Pg w) A (truthy (.str (strOf [c]) t)) Q E s :=
  KXt.truthy_pos (K := 1) (by rw [len_strOf]; exact Nat.le_refl 1) (by rw [len_strOf]; exact Nat.le_refl 1) (by decide) h
theorem inTS {w : World} {g : Heap} {A : Around} {s : Shared} {L : Addr} {m : Str → Option Value} {l : Lgr} {E : Value → Shared → Prop} {a : Addr} {its : Array Value} {ys : List Str} {n i : Nat} {k : Str} {t : Tok} {b : Bool} {Q : Value → Shared → Prop} (D : Led g L m s.heap l) (hi : l[i]? = some (a, tupOf its n)) (hs : StrsAre its.toList ys) (hb : ys.any (· == k) = b)
    (h : Q (.bool b) s) : wpAny (model Pg w) A (compareOp .In (.str k t) (.ref a)) Q E s := by
  subst hb
  exact in_tuple_strs ⟨_, D.at hi, rfl, n, rfl⟩ hs h
theorem fstr1 (c : Nat) : Str.empty ++ Str.ofString "[" ++ strOf [c] ++ Str.ofString "]" = strOf [91, c, 93] := by
  rw [br_lit, cb_lit]; rfl
theorem fstr2 (c : Nat) : Str.empty ++ Str.ofString "[" ++ strOf ([92] ++ [c]) ++ Str.ofString "]" = strOf [91, 92, c, 93] := by
  rw [br_lit, cb_lit]; rfl
theorem bs_str : Str.ofString "\\" = strOf [92] := by decide +kernel
theorem fl1 (c : Nat) : (Str.empty ++ Str.ofString "[" ++ strOf [c]).length ≤ sizeLine := by rw [sizeLine_eq, br_lit]; exact Nat.le_of_ble_eq_true rfl
theorem fl2 (c : Nat) : (Str.empty ++ Str.ofString "[" ++ strOf ([92] ++ [c])).length ≤ sizeLine := by rw [sizeLine_eq, br_lit]; exact Nat.le_of_ble_eq_true rfl
theorem fmtS {w : World} {A : Around} {s : Shared} {E : Value → Shared → Prop} {xs : List Nat} {t : Tok} {Q : Value → Shared → Prop} (hz : xs.length ≤ 1000) (h : ∀ t' tk, Q (.str (strOf xs) t') { s with toks := tk }) : wpAny (model Pg w) A (formatField (.str (strOf xs) t) Str.empty) Q E s :=
  PyProof.Rows.formatField_str h (by rw [len_strOf, sizeLine_eq]; omega)
theorem joinRB {w : World} {A : Around} {s : Shared} {E : Value → Shared → Prop} {out x : Str} {y : List Nat} {k : Nat} {pos : Pos} {env : Env} {Q : Value → Shared → Prop} (e : out ++ x = strOf y) (hz : y.length ≤ 1000) (h : ∀ t tk, Q (.str (strOf y) t) { s with toks := tk }) :
    wpAny (model Pg w) A (joinParts out (evalEach [.Constant (.str x) k pos] env)) Q E s := by
  have hl : (out ++ x).length ≤ sizeLine := by rw [e, len_strOf, sizeLine_eq]; omega
  refine PyProof.Rows.joinParts_consE (PyProof.Rows.joinParts_cons (wpAny_Constant_str ⟨hl, ?_⟩))
  rw [e] at hl ⊢
  exact PyProof.Rows.joinParts_nilE (PyProof.Rows.joinParts_nil (h _ _) hl)
theorem tp_sq {c : Nat} (hc : c ∈ [42, 63, 91]) (h : c ≠ 91) : tp c = [91, c, 93] := by
  unfold tp
  rw [if_pos (tp3 hc h)]
theorem item1 (c : Nat) : Txt.item (strOf [c]) 0 = one c := item_at (p := 0) rfl
theorem repl_bs {c : Nat} (h : c ≠ 92) : Txt.replace (one c) (Str.ofString "\\") (Str.ofString "\\\\") = one c := by
  rw [show Str.ofString "\\" = (⟨#[92]⟩ : Str) by decide +kernel]
  have h1 := StrLaws.found_one (one c) 92
  have e : ¬ (92 ∈ (one c).cps.toList) := by simp [one]; exact fun q => h q.symm
  rw [decide_eq_false e] at h1
  have h2 : (Builtin.Str.occurrences (one c) ⟨#[92]⟩ 0 (one c).length 1).isEmpty = true := by simpa using h1
  have h3 : (Builtin.Str.occurrences (one c) ⟨#[92]⟩ 0 (one c).length ((one c).length + 1)).isEmpty = true := by
    rcases StrLaws.occ_head (one c) ⟨#[92]⟩ ((one c).length + 1) (by omega) with ⟨h0, _⟩ | ⟨i, r, h0, hat, _⟩
    · rw [h0]; rfl
    · exfalso
      have := (StrLaws.subAt_one (one c) 92 i).mp hat
      exact e (List.mem_of_getElem? this)
  have h10 : ((⟨#[92]⟩ : Str).length == 0) = false := rfl
  unfold Txt.replace
  rw [h10, h3]
  rfl
theorem replBS {w : World} {A : Around} {s : Shared} {E : Value → Shared → Prop} {Q : Value → Shared → Prop} {c : Nat} {x : Str} {t : Tok} {k1 k2 : Nat} (hx : x = one c) (hc : c ≠ 92) (hk : 0 < k1) (hk2 : k1 < k2) (h : ∀ t' k, Q (.str (one c) t') { s with toks := k }) :
    wpAny (model Pg w) A (call (.builtin "str.replace") [.str x t, .str (Str.ofString "\\") k1, .str (Str.ofString "\\\\") k2]) Q E s := by
  subst hx
  exact SC.replace (Nat.ne_of_gt hk) (Nat.ne_of_gt (Nat.lt_trans hk hk2)) (Nat.ne_of_lt hk2) (by decide +kernel) (by rw [len_one]; decide +kernel) fun t' k => by rw [repl_bs hc]; exact h t' k
-- C20
theorem sp_trans {w : World} {g : Heap} (G : Gd w g) {c0 : Nat} {X : Nat → Bool} {lt0 : Lgr} {sa : Addr} {t u : Tok} (hc0 : c0 ∈ [97, 33, 34, 93, 45, 46, 94, 126, 38, 35, 32, 92, 10] ∨ c0 ∈ [42, 63, 91]) (hT0 : TabL 129 39 lt0) : FSpec w g (.ref 115) [.str (strOf (patT c0 X)) t, .ref sa, .str (Str.ofString ".") u] 4 lt0 (fun v l => ∃ ia its n lt, v = .ref ia ∧ PartsTo c0 X 4 its ∧ TabL 129 39 lt ∧ l = (ia, listOf its.toArray n) :: lt) := by
  refine .of fun A s z Q E ar H ret => ?_
  obtain ⟨T, hT⟩ : ∃ T, T = patT c0 X := ⟨_, rfl⟩
  rw [← hT]
  have hr0 := prest_len (c0 := c0) (X := X) (k := 0) (by decide)
  have hTl : T.length = (prest c0 X 0).length := by rw [hT]; rfl
  have hTd : T.drop 0 = prest c0 X 0 := by rw [hT]; rfl
  have hzl : (strOf T).length ≤ 1000000 := by rw [len_strOf]; omega
  have hzi : (((strOf T).length : Nat) : Int) < 9223372036854775808 := i64 hzl
  refine' enter (binds := [((Str.ofString "pat"), .str (strOf T) t), ((Str.ofString "STAR"), .ref sa), ((Str.ofString "QUESTION_MARK"), .str (Str.ofString ".") u)]) (bl := [((Str.ofString "QUESTION_MARK"), .str (Str.ofString ".") u), ((Str.ofString "STAR"), .ref sa), ((Str.ofString "pat"), .str (strOf T) t)]) G H ar ?k1 ?k2 ?k3 ?k4 ?k5 ?k6 ?k7 ?k8 ?kb ?_
  case k1 => k_is
  case k2 => k_is
  case k3 => first | exact BindsTo.of_eq rfl | exact binds_K (G.X.keeps H.keep) rfl (by k_is) rfl rfl rfl
  case k4 => exact locs rfl
  case k5 => decide
  case k6 => exact rfl
  case k7 => exact rfl
  case k8 => exact rfl
  case kb => exact rfl
  intro L A' h₁ tk ar' D
  obtain ⟨z0, hz0⟩ : ∃ z0, z0 = lt0 ++ z := ⟨_, rfl⟩
  rw [← hz0] at D
  w_strict (walk1; k_fold; (iterate 5 walk1); dsimp only [qk]; clear qk; (try clear ek); walk1; k_fold; (iterate 5 walk1); dsimp only [qk]; clear qk; (try clear ek); walk1; k_fold; (iterate 22 walk1); dsimp only [qk]; clear qk; (try clear ek); walk1; k_fold; walk1)
  (try dsimp only)
  rename Led _ _ _ _ _ => D
  rename_i ia _ _ q _ _ _ _ _ _ _ _
  replace D := D.drops 1
  replace D := D.perm (List.Perm.swap _ _ _)
  subst hz0
  refine whileN (TranJ g s L ia q T t u c0 X z 129 39) ?_ 4 ⟨0, 0, 0, [], _, _, _, lt0, rfl, by decide, hTd, by rw [hTl]; exact Nat.zero_add _, PartsTo.zero c0 X, rfl, rfl, rfl, by rw [← len_strOf T]; rfl, rfl, rfl, hT0, (Sm.mk (h := h₁) (tk := tk)).go _ _, D⟩
  rintro n s2 ⟨k, pl, nn, its, b, t1, t2, lt, rfl, hk4, hdr, hlen, hits, hm1, hm2, hm3, hm4, hm5, hm6, hTb, hs2, D2⟩
  clear D
  have hrl := prest_len (c0 := c0) (X := X) hk4
  have hil := hits.len
  have hz1 : its.length ≤ 1000 := by omega
  have hsl := len_strOf T
  rcases Nat.lt_or_eq_of_le hk4 with hk | rfl
  · have fin := fun {s3 : Shared} {nn' pl' : Nat} {b' : List (Str × Value)} {x : Str} {tx : Tok} {lt' : Lgr} => tranNxt (g := g) (s₀ := s) (s3 := s3) (L := L) (ia := ia) (q := q) (T := T) (t := t) (u := u) (z := z) (lt := lt') (ln := 129) (cl := 39) (nn' := nn') (pl' := pl') (b' := b') (x := x) (tx := tx) hk hdr hlen hits
    have hdr1 := hdr
    have hlen1 := hlen
    rw [prest_succ hk] at hdr1 hlen1
    rw [List.length_append] at hlen1
    have hrl2 := prest_len (c0 := c0) (X := X) (k := k + 1) hk
    cases hX : X k with
    | false =>
      have hpc : pz c0 X k = [63] := by unfold pz; rw [hX]; rfl
      rw [hpc] at hdr1 hlen1
      have he0 : Txt.item (strOf T) (pl : Int) = one 63 := item_at (by have := get_drop (j := 0) hdr1; rw [Nat.add_zero] at this; rw [this]; rfl)
      have e1 : (one 63 == Str.ofString "*") = false := by decide +kernel
      have e2 : (one 63 == Str.ofString "?") = true := by decide +kernel
      have hlc : [63].length = 1 := rfl
      rw [hlc] at hlen1
      have hlt : (pl : Int) < ((T.length : Nat) : Int) := lt_lenN 0 hlen1 (by decide)
      w_strict ((iterate 7 walk1); k_fold; (iterate 6 walk1); dsimp only [qk]; clear qk; (try clear ek); walk1; k_fold; (iterate 6 walk1); dsimp only [qk]; clear qk; (try clear ek); walk1; k_fold; (iterate 8 walk1); k_fold; (iterate 8 walk1); k_fold; (iterate 10 walk1); dsimp only [qk]; clear qk; (try clear ek); dsimp only [qk]; clear qk; (try clear ek); walk1; dsimp only [qk]; clear qk; (try clear ek); walk1)
      (try dsimp only)
      rename Led _ _ _ _ _ => D
      simp only [List.push_toArray] at D
      refine fin (pl' := pl + 1) ?_ ?_ ?_ ?_ ?_ ?_ ?_ ?_ hTb (hs2.go _ _) D
      · rw [hpc]; rfl
      · unfold pc; rw [hX]; exact dot_str
      · exact hm1
      · exact hm2
      · exact ⟨_, rfl⟩
      · exact ⟨_, hm4⟩
      · exact hm5
      · exact hm6
    | true =>
      rcases hc0 with hc0 | hc0
      · have hzp : zp c0 = [c0] := by unfold zp; rw [if_neg]; intro e; rcases e with rfl | rfl | rfl <;> revert hc0 <;> decide
        have hpc : pz c0 X k = [c0] := by unfold pz; rw [hX]; exact hzp
        have n42 : 42 ≠ c0 := by rintro rfl; revert hc0; decide
        have n63 : 63 ≠ c0 := by rintro rfl; revert hc0; decide
        have n91 : 91 ≠ c0 := by rintro rfl; revert hc0; decide
        rw [hpc] at hdr1 hlen1
        have he0 : Txt.item (strOf T) (pl : Int) = one c0 := item_at (by have := get_drop (j := 0) hdr1; rw [Nat.add_zero] at this; rw [this]; rfl)
        have e1 : (one c0 == Str.ofString "*") = false := lit1 42 st_lit (Ne.symm n42)
        have e2 : (one c0 == Str.ofString "?") = false := lit1 63 qu_lit (Ne.symm n63)
        have e3 : (one c0 == Str.ofString "[") = false := lit1 91 br_lit (Ne.symm n91)
        have hlc : [c0].length = 1 := rfl
        rw [hlc] at hlen1
        have hlt : (pl : Int) < ((T.length : Nat) : Int) := lt_lenN 0 hlen1 (by decide)
        w_strict ((iterate 7 walk1); k_fold; (iterate 6 walk1); dsimp only [qk]; clear qk; (try clear ek); walk1; k_fold; (iterate 6 walk1); dsimp only [qk]; clear qk; (try clear ek); walk1; k_fold; (iterate 8 walk1); k_fold; (iterate 8 walk1); k_fold; (iterate 8 walk1); k_fold; (iterate 12 walk1))
        (try dsimp only)
        rename Led _ _ _ _ _ => D
        refine' useAtT (z := (lt ++ z)) (p := []) 2 ((sp_escape G hc0)) ?uD ?up ar' ?uk ?_
        case uD => exact D
        case up => exact rfl
        case uk => omega
        intro t6 h' tk D5
        simp only [List.take_succ_cons, List.take_zero, List.cons_append, List.nil_append] at D5
        clear D
        skip
        w_strict ((iterate 4 walk1); dsimp only [qk]; clear qk; (try clear ek); dsimp only [qk]; clear qk; (try clear ek); walk1; dsimp only [qk]; clear qk; (try clear ek); walk1; dsimp only [qk]; clear qk; (try clear ek); walk1)
        (try dsimp only)
        rename Led _ _ _ _ _ => D
        simp only [List.push_toArray] at D
        refine fin (pl' := pl + 1) ?_ ?_ ?_ ?_ ?_ ?_ ?_ ?_ hTb (hs2.go _ _) D
        · rw [hpc]; rfl
        · unfold pc; rw [hX]; exact congrArg strOf (esc_tp hc0)
        · exact hm1
        · exact hm2
        · exact ⟨_, rfl⟩
        · exact ⟨_, hm4⟩
        · exact hm5
        · exact hm6
      · have hzp : zp c0 = [91, c0, 93] := by unfold zp; rw [if_pos]; simp only [List.mem_cons, List.not_mem_nil, or_false] at hc0; exact hc0
        have hpc : pz c0 X k = [91, c0, 93] := by unfold pz; rw [hX]; exact hzp
        rw [hpc] at hdr1 hlen1
        have he0 : Txt.item (strOf T) (pl : Int) = one 91 := item_at (by have := get_drop (j := 0) hdr1; rw [Nat.add_zero] at this; rw [this]; rfl)
        have he5 : Txt.item (strOf T) ((pl : Int) + 1) = one c0 := item_at (p := pl + 1) (by have := get_drop (j := 1) hdr1; rw [this]; rfl)
        have he6 : Txt.item (strOf T) ((pl : Int) + 1 + 1) = one 93 := item_at (p := pl + 2) (by have := get_drop (j := 2) hdr1; rw [this]; rfl)
        have e1 : (one 91 == Str.ofString "*") = false := by decide +kernel
        have e2 : (one 91 == Str.ofString "?") = false := by decide +kernel
        have e3 : (one 91 == Str.ofString "[") = true := by decide +kernel
        have n33 : 33 ≠ c0 := by rintro rfl; revert hc0; decide
        have n93 : 93 ≠ c0 := by rintro rfl; revert hc0; decide
        have e4 : (one c0 == Str.ofString "!") = false := lit1 33 ex_lit (Ne.symm n33)
        have e5 : (one c0 == Str.ofString "]") = false := lit1 93 cb_lit (Ne.symm n93)
        have e6 : (one 93 == Str.ofString "]") = true := by decide +kernel
        have hlc : [91, c0, 93].length = 3 := rfl
        rw [hlc] at hlen1
        have hlt : (pl : Int) < ((T.length : Nat) : Int) := lt_lenN 0 hlen1 (by decide)
        have hlt1 : (pl : Int) + 1 < ((T.length : Nat) : Int) := lt_lenN 1 hlen1 (by decide)
        w_strict ((iterate 7 walk1); k_fold; (iterate 6 walk1); dsimp only [qk]; clear qk; (try clear ek); walk1; k_fold; (iterate 6 walk1); dsimp only [qk]; clear qk; (try clear ek); walk1; k_fold; (iterate 8 walk1); k_fold; (iterate 8 walk1); k_fold; (iterate 8 walk1); k_fold; (iterate 3 walk1); dsimp only [qk]; clear qk; (try clear ek); walk1; k_fold; (iterate 20 walk1); dsimp only [qk]; clear qk; (try clear ek); walk1; k_fold; (iterate 20 walk1); dsimp only [qk]; clear qk; (try clear ek); walk1; k_fold; walk1)
        (try dsimp only)
        rename Led _ _ _ _ _ => D
        have hL : ∀ {j : Nat}, j = pl + 1 ∨ j = pl + 2 → ((j : Nat) : Int) < ((T.length : Nat) : Int) := fun hj => by rcases hj with rfl | rfl <;> exact lt_lenN _ hlen1 (by decide)
        refine whileN (InJ g s L ia q T t u pl ((ia, listOf its.toArray nn) :: (q, boundO "list.append" ia) :: (lt ++ z))) ?_ 1 ⟨pl + 1, ((Str.ofString "j"), .int ((pl : Int) + 1) _) :: ((Str.ofString "i"), .int ((pl : Int) + 1) _) :: ((Str.ofString "c"), .str (one 91) _) :: b, _, _, _, by omega, by omega, by omega, rfl, rfl, hm1, hm2, hm4, hm5, hm6, hs2.go _ _, D⟩
        clear D hm1 hm2 hm3 hm4 hm5 hm6
        rintro n s2 ⟨j, b, tj, ti, t2, rfl, hj1, hj2, hm0, hm3, hm1, hm2, hm4, hm5, hm6, hs2, D2⟩
        have hj : j = pl + 1 ∨ j = pl + 2 := one_two (by assumption) (by assumption)
        have hlt2 := hL hj
        clear hL
        rcases hj with rfl | rfl
        · have e7 : (one c0 != Str.ofString "]") = true := by rw [bne, e5]; rfl
          have : pl + 2 - (pl + 1) = 1 := Nat.add_sub_add_left pl 2 1
          rw [this]
          w_strict ((iterate 20 walk1); k_fold; (iterate 6 walk1); dsimp only [qk]; clear qk; (try clear ek); walk1)
          (try dsimp only)
          rename Led _ _ _ _ _ => D
          refine inNxt ?_ ?_ ?_ ?_ ?_ ?_ ?_ (hs2.go _ _) D
          · exact ⟨_, rfl⟩
          · exact ⟨_, hm3⟩
          · exact hm1
          · exact hm2
          · exact ⟨_, hm4⟩
          · exact hm5
          · exact hm6
        · have e7 : (one 93 != Str.ofString "]") = false := by decide +kernel
          have hge : ¬ ((T.length : Nat) : Int) ≤ ((pl + 2 : Nat) : Int) := Int.not_le.mpr (lt_lenN 2 hlen1 (by decide))
          have hsc : Txt.slice (strOf T) (some ((pl : Int) + 1)) (some ((pl + 2 : Nat) : Int)) = one c0 := by
            have g1 : T[pl + 1]? = some c0 := by have := get_drop (j := 1) hdr1; rw [this]; rfl
            have := slice_nat T (pl + 1) (pl + 2)
            rw [show pl + 2 - (pl + 1) = 1 from Nat.add_sub_add_left pl 2 1] at this
            rw [show ((pl : Int) + 1) = ((pl + 1 : Nat) : Int) from rfl, this, drop_at g1]; rfl
          have n45 : 45 ≠ c0 := by rintro rfl; revert hc0; decide
          have hoc : (Builtin.Str.occurrences (Txt.slice (strOf T) (some ((pl : Int) + 1)) (some ((pl + 2 : Nat) : Int))) (Str.ofString "-") 0 (Txt.slice (strOf T) (some ((pl : Int) + 1)) (some ((pl + 2 : Nat) : Int))).length 1).isEmpty = true := noOcc hsc mi_lit n45
          have n92 : c0 ≠ 92 := by rintro rfl; revert hc0; decide
          w_strict ((iterate 19 walk1); k_fold; (iterate 8 walk1); k_fold; (iterate 11 walk1); dsimp only [qk]; clear qk; (try clear ek); walk1; k_fold; (iterate 9 walk1); k_fold; (iterate 10 walk1))
          (try dsimp only)
          rename Led _ _ _ _ _ => D
          refine replBS hsc n92 (by omega) (by omega) fun t6 k6 => ?_
          w_strict (walk1; dsimp only [qk]; clear qk; (try clear ek); walk1; dsimp only [qk]; clear qk; (try clear ek); walk1; k_fold; (iterate 7 walk1))
          (try dsimp only)
          rename Led _ _ _ _ _ => D
          refine lamAny G D hTb ?_ ?_ ?_ ?_ fun f fo lt' h' tk hfo hTb' D6 => ?_
          · exact rfl
          · exact rfl
          · exact rfl
          · kernel_rfl!
          clear D
          w_strict ((iterate 5 walk1); dsimp only [qk]; clear qk; (try clear ek); walk1; k_fold; (iterate 6 walk1); dsimp only [qk]; clear qk; (try clear ek); walk1; k_fold; (iterate 4 walk1))
          (try dsimp only)
          rename Led _ _ _ _ _ => D
          refine truthy1 fun k7 => ?_
          have e8 : (strOf [c0] == Str.ofString "!") = false := e4
          have he9 := item1 c0
          w_strict ((iterate 3 walk1); k_fold; (iterate 8 walk1); k_fold; (iterate 5 walk1))
          (try dsimp only)
          rename Led _ _ _ _ _ => D
          refine sItemD (n := 1) (c := c0) he9 (by rw [len_strOf]; rfl) (by decide) (by decide) (by decide) fun t8 => ?_
          w_strict ((iterate 5 walk1); k_fold; (iterate 5 walk1))
          (try dsimp only)
          rename Led _ _ _ _ _ => D
          refine sItemD (n := 1) (c := c0) he9 (by rw [len_strOf]; rfl) (by decide) (by decide) (by decide) fun t9 => ?_
          w_strict ((iterate 7 walk1))
          (try dsimp only)
          rename Led _ _ _ _ _ => D
          by_cases h91 : c0 = 91
          · have e9 : ([Str.ofString "^", Str.ofString "["] : List Str).any (· == one c0) = true := by rw [h91]; decide +kernel
            refine inTS D (i := 0) rfl (.cons _ _ (.cons _ _ .nil)) e9 ?_
            w_strict ((iterate 3 walk1); k_fold; (iterate 4 walk1))
            (try dsimp only)
            rename Led _ _ _ _ _ => D
            refine addX (a := [92]) (b := [c0]) bs_str rfl (Nat.le_of_ble_eq_true rfl) fun t10 k10 => ?_
            w_strict (walk1; dsimp only [qk]; clear qk; (try clear ek); walk1; dsimp only [qk]; clear qk; (try clear ek); walk1; dsimp only [qk]; clear qk; (try clear ek); walk1; k_fold; (iterate 12 walk1))
            (try dsimp only)
            rename Led _ _ _ _ _ => D
            refine fmtS (xs := [92] ++ [c0]) (Nat.le_of_ble_eq_true rfl) fun t11 k11 => ?_
            refine And.intro (fl2 c0) ?_
            refine joinRB (y := [91, 92, c0, 93]) (fstr2 c0) (Nat.le_of_ble_eq_true rfl) fun t12 k12 => ?_
            w_strict ((iterate 4 walk1); dsimp only [qk]; clear qk; (try clear ek); dsimp only [qk]; clear qk; (try clear ek); walk1; dsimp only [qk]; clear qk; (try clear ek); walk1; dsimp only [qk]; clear qk; (try clear ek); walk1; k_unfold; (try dsimp only); (try clear qk); (try clear ek); walk1; k_unfold; (try dsimp only); (try clear qk); (try clear ek); walk1; k_unfold; (try dsimp only); (try clear qk); (try clear ek); walk1)
            (try dsimp only)
            rename Led _ _ _ _ _ => D
            simp only [List.push_toArray] at D
            replace D := D.drops 2
            refine fin (pl' := pl + 3) ?_ ?_ ?_ ?_ ?_ ?_ ?_ ?_ hTb' (hs2.go _ _) D
            · rw [hpc]; rfl
            · unfold pc; rw [hX]; rw [h91]; rfl
            · exact hm1
            · exact hm2
            · exact ⟨_, rfl⟩
            · exact ⟨_, hm4⟩
            · exact hm5
            · exact hm6
          · have e9 : ([Str.ofString "^", Str.ofString "["] : List Str).any (· == one c0) = false := by
              simp only [List.mem_cons, List.not_mem_nil, or_false] at hc0
              rcases hc0 with rfl | rfl | rfl
              · decide +kernel
              · decide +kernel
              · exact absurd rfl h91
            refine inTS D (i := 0) rfl (.cons _ _ (.cons _ _ .nil)) e9 ?_
            w_strict ((iterate 3 walk1); dsimp only [qk]; clear qk; (try clear ek); walk1; dsimp only [qk]; clear qk; (try clear ek); walk1; k_fold; (iterate 12 walk1))
            (try dsimp only)
            rename Led _ _ _ _ _ => D
            refine fmtS (xs := [c0]) (Nat.le_of_ble_eq_true rfl) fun t11 k11 => ?_
            refine And.intro (fl1 c0) ?_
            refine joinRB (y := [91, c0, 93]) (fstr1 c0) (Nat.le_of_ble_eq_true rfl) fun t12 k12 => ?_
            w_strict ((iterate 4 walk1); dsimp only [qk]; clear qk; (try clear ek); dsimp only [qk]; clear qk; (try clear ek); walk1; dsimp only [qk]; clear qk; (try clear ek); walk1; dsimp only [qk]; clear qk; (try clear ek); walk1; k_unfold; (try dsimp only); (try clear qk); (try clear ek); walk1; k_unfold; (try dsimp only); (try clear qk); (try clear ek); walk1; k_unfold; (try dsimp only); (try clear qk); (try clear ek); walk1)
            (try dsimp only)
            rename Led _ _ _ _ _ => D
            simp only [List.push_toArray] at D
            replace D := D.drops 2
            refine fin (pl' := pl + 3) ?_ ?_ ?_ ?_ ?_ ?_ ?_ ?_ hTb' (hs2.go _ _) D
            · rw [hpc]; rfl
            · unfold pc; rw [hX]; exact congrArg strOf (tp_sq hc0 h91).symm
            · exact hm1
            · exact hm2
            · exact ⟨_, rfl⟩
            · exact ⟨_, hm4⟩
            · exact hm5
            · exact hm6
  · rw [prest_four] at hlen
    obtain ⟨hlt, heq⟩ := no_end (p := pl) (n := T.length) hlen
    w_strict (walk_at "mine go")
    (try dsimp only)
    rename Led _ _ _ _ _ => D
    replace D := (D.perm (List.Perm.swap _ _ _)).drops 1
    exact ret _ _ ((ia, listOf its.toArray nn) :: lt) hs2 D.out ⟨ia, its, nn, lt, rfl, hits, hTb, rfl⟩
-- C21
theorem pre_str (y : List Nat) : Str.empty ++ Str.ofString "(?s:" ++ strOf y = strOf (preT ++ y) := by
  rw [show Str.ofString "(?s:" = strOf preT by decide +kernel, show Str.empty = strOf [] from rfl, app_str, app_str]; rfl
theorem join_str (c0 : Nat) (X : Nat → Bool) : Str.empty ++ Str.ofString "(?s:" ++ strOf ((List.range 4).map (pc c0 X)).flatten ++ Str.ofString ")\\Z" = strOf (tT c0 X) := by
  rw [pre_str, show Str.ofString ")\\Z" = strOf postT by decide +kernel, app_str]
  exact congrArg strOf (List.append_assoc _ _ _)
theorem tT_len (c0 : Nat) (X : Nat → Bool) : (tT c0 X).length = 7 + ((((List.range 4).map (pc c0 X)).map List.length).sum) := by
  unfold tT rest
  rw [List.length_append, List.length_append, List.length_flatten, List.drop_zero]
  have h1 : preT.length = 4 := rfl
  have h2 : postT.length = 3 := rfl
  omega
inductive JoinJ (g : Heap) (s₀ : Shared) (L ia ra sa q : Addr) (its : List Value) (nn : Nat) (z : Lgr) (n : Nat) (s' : Shared) : Prop
  | mk (k n2 : Nat) (b : List (Str × Value)) (t1 t2 : Tok) (h_0 : n = 4 - k) (h_1 : k ≤ 4) (h_2 : mp b (Str.ofString "res") = some (.ref ra)) (h_3 : mp b (Str.ofString "add") = some (.ref q)) (h_4 : mp b (Str.ofString "i") = some (.int (k : Nat) t1)) (h_5 : mp b (Str.ofString "n") = some (.int (its.toArray.size : Nat) t2)) (h_6 : mp b (Str.ofString "inp") = some (.ref ia)) (h_7 : mp b (Str.ofString "STAR") = some (.ref sa)) (h_8 : Sm s₀ s') (h_9 : Led g L (mp b) s'.heap ((q, boundO "list.append" ra) :: (ra, listOf (its.take k).toArray n2) :: (ia, listOf its.toArray nn) :: z)) : JoinJ g s₀ L ia ra sa q its nn z n s'
theorem sp_join {w : World} {g : Heap} (G : Gd w g) {c0 : Nat} {X : Nat → Bool} {ia sa : Addr} {its : List Value} {nn : Nat} (hits : PartsTo c0 X 4 its) : FSpec w g (.ref 122) [.ref ia, .ref sa] 2 [(ia, listOf its.toArray nn)] (fun v l => l = [] ∧ ∃ t, v = .str (strOf (tT c0 X)) t) := by
  refine .of fun A s z Q E ar H ret => ?_
  have hfl : ((((List.range 4).map (pc c0 X)).map List.length).sum) ≤ 100 := by
    have h4 : ∀ k, (pc c0 X k).length ≤ 4 := fun k => (pc_len c0 X k).2
    have a0 := h4 0; have a1 := h4 1; have a2 := h4 2; have a3 := h4 3
    show (pc c0 X 0).length + ((pc c0 X 1).length + ((pc c0 X 2).length + ((pc c0 X 3).length + 0))) ≤ 100
    omega
  have hil := hits.len
  have hz1 : its.length ≤ 1000 := by omega
  refine' enter (binds := [((Str.ofString "inp"), .ref ia), ((Str.ofString "STAR"), .ref sa)]) (bl := [((Str.ofString "STAR"), .ref sa), ((Str.ofString "inp"), .ref ia)]) G H ar ?k1 ?k2 ?k3 ?k4 ?k5 ?k6 ?k7 ?k8 ?kb ?_
  case k1 => k_is
  case k2 => k_is
  case k3 => first | exact BindsTo.of_eq rfl | exact binds_K (G.X.keeps H.keep) rfl (by k_is) rfl rfl rfl
  case k4 => exact locs rfl
  case k5 => decide
  case k6 => exact rfl
  case k7 => exact rfl
  case k8 => exact rfl
  case kb => exact rfl
  intro L A' h₁ tk ar' D
  dsimp only [List.cons_append, List.nil_append] at D
  w_strict (walk1; k_fold; (iterate 5 walk1); dsimp only [qk]; clear qk; (try clear ek); walk1; k_fold; (iterate 5 walk1); dsimp only [qk]; clear qk; (try clear ek); walk1; k_fold; (iterate 22 walk1); dsimp only [qk]; clear qk; (try clear ek); walk1; k_fold; walk1)
  (try dsimp only)
  rename Led _ _ _ _ _ => D
  rename_i ra _ _ q _ _ _ _ _ _ _ _ _ _
  replace D := D.drops 1
  refine whileN (JoinJ g s L ia ra sa q its nn z) ?_ 4 ⟨0, 0, _, _, _, rfl, by decide, rfl, rfl, rfl, rfl, rfl, rfl, (Sm.mk (h := h₁) (tk := tk)).go _ _, D⟩
  rintro n s2 ⟨k, n2, b, t1, t2, rfl, hk4, hm1, hm2, hm3, hm4, hm5, hm6, hs2, D2⟩
  clear D
  have hsz : its.toArray.size = 4 := hil
  rcases Nat.lt_or_eq_of_le hk4 with hk | rfl
  · obtain ⟨x, t, e, hx⟩ := hits.at_ k hk
    have hlt : (k : Int) < ((its.toArray.size : Nat) : Int) := by omega
    have e' : its[(k : Int).toNat]? = some (.str x t) := e
    w_strict ((iterate 12 walk1))
    (try dsimp only)
    rename Led _ _ _ _ _ => D
    refine itemL D (i := 2) rfl (by omega) (by omega) e' ?_
    w_strict (walk1)
    (try dsimp only)
    rename Led _ _ _ _ _ => D
    refine wpAny_of_eq (a := .bool true) rfl ?_
    w_strict ((iterate 5 walk1); k_fold; (iterate 8 walk1))
    (try dsimp only)
    rename Led _ _ _ _ _ => D
    refine itemL D (i := 2) rfl (by omega) (by omega) e' ?_
    w_strict ((iterate 4 walk1); k_fold; (iterate 5 walk1); dsimp only [qk]; clear qk; (try clear ek); walk1)
    (try dsimp only)
    rename Led _ _ _ _ _ => D
    simp only [List.push_toArray] at D
    have ht : its.take k ++ [Value.str x t] = its.take (k + 1) := by rw [List.take_add_one, e]; rfl
    rw [ht] at D
    exact ⟨4 - (k + 1), sub_step (by assumption), k + 1, _, ((Str.ofString "i"), .int ((k : Int) + 1) _) :: b, _, _, rfl, hk, hm1, hm2, rfl, hm4, hm5, hm6, hs2.go _ _, D⟩
  · have hlt : ¬ ((4 : Nat) : Int) < ((its.toArray.size : Nat) : Int) := by omega
    w_strict ((iterate 9 walk1); k_fold; walk1)
    (try dsimp only)
    rename Led _ _ _ _ _ => D
    refine whileN (fun n s' => n = 0 ∧ JoinJ g s L ia ra sa q its nn z 0 s') ?_ 0 ⟨rfl, 4, n2, b, t1, t2, rfl, by decide, hm1, hm2, hm3, hm4, hm5, hm6, hs2.go _ _, D⟩
    clear hs2 hm1 hm2 hm3 hm4 hm5 hm6 D hk4
    rintro n s2 ⟨rfl, k, n2, b, t1, t2, h0, hk4, hm1, hm2, hm3, hm4, hm5, hm6, hs2, D2⟩
    have hk : k = 4 := by omega
    subst hk
    have heq : ((4 : Nat) : Int) = ((its.toArray.size : Nat) : Int) := by omega
    w_strict (walk_at "mine go")
    (try dsimp only)
    rename Led _ _ _ _ _ => D
    have hits2 : StrsAre (its.take 4) (((List.range 4).map (pc c0 X)).map strOf) := by rw [List.take_of_length_le (by omega)]; exact hits.strs
    refine joinP (i := 1) (ps := (List.range 4).map (pc c0 X)) D rfl hits2 ?hz fun t5 k5 => ?_
    case hz => omega
    w_strict (walk1; dsimp only [qk]; clear qk; (try clear ek); walk1; k_fold; (iterate 8 walk1))
    (try dsimp only)
    rename Led _ _ _ _ _ => D
    refine fmtS (xs := ((List.range 4).map (pc c0 X)).flatten) (by rw [List.length_flatten]; omega) fun t11 k11 => ?_
    refine And.intro (by rw [pre_str, len_strOf, sizeLine_eq, List.length_append, List.length_flatten]; have : preT.length = 4 := rfl; omega) ?_
    refine joinRB (y := tT c0 X) (join_str c0 X) (by rw [tT_len]; omega) fun t12 k12 => ?_
    w_strict (dsimp only [qk]; clear qk; (try clear ek))
    (try dsimp only)
    rename Led _ _ _ _ _ => D
    exact ret _ _ [] (hs2.go _ _) (D.drops 3).out ⟨rfl, _, rfl⟩
-- X6
section
open Builtin
theorem mro_object : mroOf (.type "object") = pure [.type "object"] := by rw [mroOf_type]; kernel_rfl
theorem lookup_object_new : typeLookup (.type "object") "__new__" = pure (some (.builtin "object.__new__")) := by rw [typeLookup_type, builtinLookup_eq_fast]; kernel_rfl
theorem called_object : TypeCalled "object" "object.__new__" "object.__init__" where
  notType := by decide
  canCreate := by decide +kernel
  mro := ⟨_, _, mro_object⟩
  made := madeBy_type mro_object lookup_object_new (by decide +kernel)
  plain := by decide +kernel
  sub := by rw [isSubtype_type]; kernel_rfl
  init := .of (owner := "object") (n := "__init__") (by rw [typeLookup_type, builtinLookup_eq_fast]; kernel_rfl) (by decide +kernel) (by decide +kernel) (by decide +kernel)
    (by first | exact .inl (by decide +kernel) | exact .inr (by decide +kernel)) (by rw [isSubtype_type]; kernel_rfl)
theorem entry_onew : entryFor table "object.__new__" = some Builtin.«object.__new__» := entryFor_of_tree (by kernel_rfl)
theorem ctc_object : checkTypeCall "object" ⟨[], []⟩ = pure () := by kernel_rfl
theorem cbc_object : checkBuiltinCall "object.__new__" ⟨[.type "object"], []⟩ = pure () := by kernel_rfl
theorem args_oinit (a : Value) : argsOk "object.__init__" ⟨[a], []⟩ := by unfold argsOk; kernel_rfl
theorem mh_object : Bind.madeHere "object.__new__" (.type "object") = pure () := by
  unfold Bind.madeHere
  have e : Bind.staticBase (.type "object") = pure (.type "object") := by first | rfl | kernel_rfl
  rw [e]
  simp only [pure_bind, called_object.made]
  first | rfl | kernel_rfl | (simp; rfl)
theorem noNew_object : (Manifest.find? "object").elim false (·.mro.any fun t => (Manifest.find? t).elim false (·.noNew)) = false := by decide +kernel
theorem hasDict_object : typeHasDict (.type "object") = false := by decide +kernel
theorem dies_object : diesByItsTypesDel "object" = false := by decide +kernel
noncomputable abbrev plainO : Obj := { cls := .type "object", data := .plain }
theorem onew_meets : Meets (Builtin.«object.__new__» ⟨[.type "object"], []⟩) (fun _ R s => R (.ok (.ret (.ref s.heap.objs.size))) { s with heap := s.heap.push plainO }) :=
  .of_wp fun prog w A R s h => by
    obtain ⟨hp, g, d, tk, os⟩ := s
    have f2 := mh_object
    unfold «object.__new__»
    dsimp only
    refine wpAny_bind (wpAny_pure ?_)
    rw [if_neg (by decide)]
    rw [if_neg (by rw [noNew_object]; decide)]
    refine wpAny_bind (wpAny_of_eq f2 ?_)
    dsimp only [List.isEmpty_nil]
    rw [if_neg (show ¬ ((!true || !true) = true) by decide), hasDict_object, if_neg Bool.false_ne_true]
    refine wpAny_bind (wpAny_pure ?_)
    refine wpAny_bind ?_
    show wpAny _ _ (newObjAsIs _ _ _) _ _ _
    unfold newObjAsIs
    refine wpAny_bind (wpAny_alloc (wpAny_pure ?_))
    rw [dies_object, if_neg Bool.false_ne_true]
    exact wpAny_pure ⟨_, rfl, h⟩
theorem call_object {prog : Program} {w : World} {A : Around} {E : Value → Shared → Prop} {s : Shared} {Q : Value → Shared → Prop} (h : Q (.ref s.heap.objs.size) { s with heap := s.heap.push plainO }) : wpAny (model prog w) A (call (.type "object") []) Q E s := by
  refine callType_meets (Q₁ := fun v s₁ => v = .ref s.heap.objs.size ∧ s₁ = { s with heap := s.heap.push plainO }) called_object ctc_object cbc_object entry_onew F.entry_object_init onew_meets ⟨rfl, rfl⟩ ?_
  rintro obj s₁ ⟨rfl, rfl⟩
  refine ⟨⟨_, Heap.get?_push_size _ rfl, rfl⟩, args_oinit _, _, .of_wp (S := fun _ R s => R (.ok (.ret .none)) s) fun prog w A R s hs => wpAny_pure ⟨_, rfl, hs⟩, rfl, h⟩
end
-- M24
theorem objL {w : World} {g : Heap} {A : Around} {s : Shared} {L : Addr} {m : Str → Option Value} {l : Lgr} {E Q : Value → Shared → Prop} (D : Led g L m s.heap l) (h : ∀ a h', Led g L m h' ((a, plainO) :: l) → Q (.ref a) { s with heap := h' }) : wpAny (model Pg w) A (call (.type "object") []) Q E s :=
  call_object (h _ _ (D.push _))
theorem word74 : True := by
  k_with "call type:object" => (k_dflt ((with_reducible rename Led _ _ _ _ _ => D0); (refine' objL D0 ?_; k_whole; intro _ _ _; (try clear D0))))
  trivial
-- C22
theorem sp_translate {w : World} {g : Heap} (G : Gd w g) {c0 : Nat} {X : Nat → Bool} {lt0 : Lgr} {t : Tok} (hc0 : c0 ∈ [97, 33, 34, 93, 45, 46, 94, 126, 38, 35, 32, 92, 10] ∨ c0 ∈ [42, 63, 91]) (hT0 : TabL 129 39 lt0) : FSpec w g (.ref 96) [.str (strOf (patT c0 X)) t] 6 lt0 (fun v l => TabL 129 39 l ∧ ∃ t, v = .str (strOf (tT c0 X)) t) := by
  refine .of fun A s z Q E ar H ret => ?_
  refine' enter (binds := [((Str.ofString "pat"), .str (strOf (patT c0 X)) t)]) (bl := [((Str.ofString "pat"), .str (strOf (patT c0 X)) t)]) G H ar ?k1 ?k2 ?k3 ?k4 ?k5 ?k6 ?k7 ?k8 ?kb ?_
  case k1 => k_is
  case k2 => k_is
  case k3 => first | exact BindsTo.of_eq rfl | exact binds_K (G.X.keeps H.keep) rfl (by k_is) rfl rfl rfl
  case k4 => exact locs rfl
  case k5 => decide
  case k6 => exact rfl
  case k7 => exact rfl
  case k8 => exact rfl
  case kb => exact rfl
  intro L A' h₁ tk ar' D
  w_strict (walk1; k_fold; (iterate 6 walk1); dsimp only [qk]; clear qk; (try clear ek); walk1; k_fold; (iterate 12 walk1))
  (try dsimp only)
  rename Led _ _ _ _ _ => D
  refine' useAt (z := z) (p := lt0) 1 (sp_trans G hc0 hT0) ?uD ?up ar' ?uk ?_
  case uD => exact D
  case up => exact rfl
  case uk => omega
  intro v h' tk l' D5 hv'
  obtain ⟨ia, its, n, lt, rfl, hits, hTb, rfl⟩ := hv'
  simp only [List.take_succ_cons, List.take_zero, List.cons_append, List.nil_append] at D5
  clear D
  w_strict (walk1; dsimp only [qk]; clear qk; (try clear ek); walk1; k_fold; (iterate 10 walk1))
  (try dsimp only)
  rename Led _ _ _ _ _ => D
  refine' useAtT (z := lt ++ z) (p := [(ia, listOf its.toArray n)]) 1 (sp_join G hits) ?uD ?up ar' ?uk ?_
  case uD => exact D
  case up => exact rfl
  case uk => omega
  intro t2 h' tk D5
  simp only [List.take_succ_cons, List.take_zero, List.cons_append, List.nil_append] at D5
  clear D
  w_strict (dsimp only [qk]; clear qk; (try clear ek))
  (try dsimp only)
  rename Led _ _ _ _ _ => D
  exact ret _ _ lt ((Sm.mk (h := h₁) (tk := tk)).go _ _) (D.drops 1).out ⟨hTb, _, rfl⟩
-- P14
theorem countI {w : World} {g : Heap} {A : Around} {s : Shared} {L : Addr} {m : Str → Option Value} {l : Lgr} {E : Value → Shared → Prop} {a : Addr} {its : List Value} {ns : List Int} {n i : Nat} {k : Int} {t : Tok} {Q : Value → Shared → Prop} (D : Led g L m s.heap l) (hi : l[i]? = some (a, listOf its.toArray n)) (hs : IntsAre its ns)
    (h : ∀ t tk, Q (.int ((ns.count k : Nat) : Int) t) { s with toks := tk }) : wpAny (model Pg w) A (call (.builtin "list.count") [.ref a, .int k t]) Q E s :=
  count_list_ints (isList D hi) hs (h _ _)
theorem bit_int (v : Int) (k : Nat) : v.fdiv (2 ^ k) % 2 = if bit v k then 1 else 0 := by
  have := bitv v k
  rw [Int.fmod_eq_emod_of_nonneg _ (by decide)] at this
  exact this
theorem count_bits (X : Nat → Bool) (n : Nat) : (((List.range n).map fun k => if X k then (1 : Int) else 0).count 0) = num n (fun g => !X g) := by
  unfold num
  induction n with
  | zero => rfl
  | succ n ih =>
    rw [List.range_succ, List.map_append, List.count_append, ih, List.filter_append, List.length_append]
    congr 1
    cases h : X n <;> simp [h]
noncomputable def colW (c0 c1 : Nat) (M : Nat → Nat → Bool) (s : Nat) : List Nat := (List.range 4).map fun g => sel c0 c1 (M g s)
theorem fit_near {c0 c1 : Nat} (h01 : c0 ≠ c1) (M : Nat → Nat → Bool) (X : Nat → Bool) (s : Nat) : fitB c0 X (colW c0 c1 M s) = !near M X s := by
  have h : ∀ k, (sel c0 c1 (M k s) == c0) = !M k s := fun k => by
    unfold sel
    cases M k s with
    | true => exact beq_eq_false_iff_ne.mpr (Ne.symm h01)
    | false => exact beq_self_eq_true _
  have e : fitB c0 X (colW c0 c1 M s) = ((!X 0 || sel c0 c1 (M 0 s) == c0) && ((!X 1 || sel c0 c1 (M 1 s) == c0) && ((!X 2 || sel c0 c1 (M 2 s) == c0) && ((!X 3 || sel c0 c1 (M 3 s) == c0) && true)))) := rfl
  have e2 : near M X s = ((X 0 && M 0 s) || ((X 1 && M 1 s) || ((X 2 && M 2 s) || ((X 3 && M 3 s) || false)))) := rfl
  rw [e, e2, h, h, h, h]
  cases X 0 <;> cases X 1 <;> cases X 2 <;> cases X 3 <;> simp
theorem near_num (M : Nat → Nat → Bool) (X : Nat → Bool) : ((List.range 6).filter (near M X)).length = num 6 (near M X) := rfl
theorem colW_all {c0 c1 : Nat} (h0 : c0 < 128) (h1 : c1 < 128) (M : Nat → Nat → Bool) (s : Nat) : (colW c0 c1 M s).all (· < 128) = true := by
  unfold colW
  rw [List.all_eq_true]
  intro x hx
  obtain ⟨g, _, rfl⟩ := List.mem_map.mp hx
  unfold sel
  split <;> exact decide_eq_true (by assumption)
-- C23
theorem sp_sum {w : World} {g : Heap} (G : Gd w g) {c0 c1 : Nat} (h01 : c0 ≠ c1) (h0 : c0 < 128) (h1 : c1 < 128) {M : Nat → Nat → Bool} {ca : Addr} {ic : List Value} {nc : Nat} {ch : Int} {lt0 : Lgr} {t u : Tok} (hc0 : c0 ∈ [97, 33, 34, 93, 45, 46, 94, 126, 38, 35, 32, 92, 10] ∨ c0 ∈ [42, 63, 91]) (hT0 : TabL 129 39 lt0) (hc : ColsAre c0 c1 M ic) :
    FSpec w g (.ref 248) [.ref ca, .str (strOf (zp c0)) t, .int ch u] 8 ((ca, listOf ic.toArray nc) :: lt0) (fun v l => ∃ lt, TabL 129 39 lt ∧ (∃ t, v = .int (ksum M (bit ch) : Nat) t) ∧ l = (ca, listOf ic.toArray nc) :: lt) := by
  refine .of fun A s z Q E ar H ret => ?_
  refine' enterC (binds := [((Str.ofString "columns"), .ref ca), ((Str.ofString "zero"), .str (strOf (zp c0)) t), ((Str.ofString "choice"), .int ch u)]) (bl := [((Str.ofString "columns"), .ref ca)]) (cs := fun L => [(L + 1 + 1 + 1, none), (L + 1 + 1, some (.int ch u)), (L + 1, some (.str (strOf (zp c0)) t))]) G H ar ?k1 ?k2 ?k3 ?k4 ?k5 ?k6 ?k7 ?k8 ?kb ?kc ?_
  case k1 => k_is
  case k2 => k_is
  case k3 => first | exact BindsTo.of_eq rfl | exact binds_K (G.X.keeps H.keep) rfl (by k_is) rfl rfl rfl
  case k4 => exact rfl
  case k5 => decide +kernel
  case k6 => exact rfl
  case k7 => exact rfl
  case k8 => exact rfl
  case kb => intro _; kernel_rfl!
  case kc => intro _; kernel_rfl!
  intro L A' h₁ tk cells ar' D Y
  obtain ⟨o1, _, rfl, d1, o2, _, rfl, d2, o3, _, rfl, d3, rfl⟩ := Y
  dsimp only [List.cons_append, List.nil_append] at D
  w_strict (walk1; k_fold)
  (try dsimp only)
  rename Led _ _ _ _ _ => D
  refine' compAs (g := g) (L := L) (cl := [((Str.ofString "choice"), L + 1 + 1)]) ?a0 ?a1 ?a2 ?a3 ?a4 ?a5 ?b0 ?b1 ?b2 ?_
  case a0 => exact rfl
  case a1 => kernel_rfl!
  case a2 => decide
  case a3 => exact rfl
  case a4 => decide
  case a5 => intro _; exact rfl
  case b0 => exact rfl
  case b1 => exact rfl
  case b2 => kernel_rfl!
  w_strict ((iterate 7 walk1))
  (try dsimp only)
  rename Led _ _ _ _ _ => D
  refine it_range (n := 4) ar'.hh D at0 (by decide) (by decide) fun I p s' hs D2 Y Sf => ?_
  refine CompAs.mk (n := 4) (l := _) (p := p) (fun i ys l => l = _ ∧ IntsAre ys ((List.range i).map fun k => if bit ch k then (1 : Int) else 0)) ?_ (by decide) (Y _ _) Sf ⟨rfl, .nil⟩ D2 ?_ ?_
  · rintro i ys l ⟨rfl, hy⟩
    refine ⟨?_, fun e he => nomatch he⟩
    rw [hy.length, List.length_map, List.length_range]; exact Nat.le_refl _
  · intro C i hi
    refine turnOf fun vv q bb ys l s2 tl hv hJ hs2 D3 => ?_
    obtain ⟨⟨t2, rfl⟩, rfl⟩ := hv
    obtain ⟨rfl, hys⟩ := hJ
    rw [zero_one]
    clear D D2
    dsimp only [List.cons_append, List.nil_append] at D3
    w_strict ((iterate 14 walk1))
    (try dsimp only)
    rename Led _ _ _ _ _ => D
    refine ⟨_, _, ⟨rfl, ?_⟩, hs2.go _ _, D⟩
    rw [map_snoc_range, ← bit_int]
    exact intsAre_append hys (.cons _ _ .nil)
  · intro Dn ys kk l s6 hJ hs6 D3
    obtain ⟨rfl, hys⟩ := hJ
    clear D D2
    (try dsimp only [List.cons_append, List.nil_append] at D3 ⊢)
    w_strict (dsimp only [qk]; clear qk; (try clear ek); walk1; k_fold; (iterate 14 walk1))
    (try dsimp only)
    rename Led _ _ _ _ _ => D
    refine' compE (g := g) (cl := [((Str.ofString "zero"), L + 1)]) ?a1 ?a2 ?a3 ?a4 ?a5 ?_
    case a1 => kernel_rfl!
    case a2 => decide
    case a3 => exact rfl
    case a4 => decide
    case a5 => intro _; exact rfl
    w_strict (walk1)
    (try dsimp only)
    rename Led _ _ _ _ _ => D
    have hyl := hys.length
    rw [List.length_map, List.length_range] at hyl
    refine it_list ar'.hh D (i := 0) rfl rfl fun I2 p2 s7 hs7 D4 Y2 Sf2 => ?_
    rw [hyl] at Y2
    refine CompAt.mk (n := 4) (l := _) (p := p2) (fun i us l => l = _ ∧ StrsAre us (((List.range i).map (pz c0 (bit ch))).map strOf)) ?_ (by omega) (Y2 _ _) Sf2 ⟨rfl, .nil⟩ D4 ?_ ?_
    · rintro i us l ⟨rfl, hy⟩
      refine ⟨?_, fun e he => by rw [List.mem_singleton.mp he]; simp⟩
      rw [hy.len_eq, List.length_map, List.length_map, List.length_range]; exact Nat.le_refl _
    · intro C i hi
      refine turnOf fun vv q bb us l s8 tl hv hJ hs8 D5 => ?_
      obtain ⟨hvv, rfl⟩ := hv
      obtain ⟨rfl, hus⟩ := hJ
      obtain ⟨t9, rfl⟩ : ∃ t9, vv = .int (if bit ch i then (1 : Int) else 0) t9 := by
        obtain ⟨t9, h⟩ := intsAt hys (k := i) (y := if bit ch i then (1 : Int) else 0) (by rw [List.getElem?_map, List.getElem?_range hi]; rfl)
        rw [hvv] at h
        exact ⟨t9, Option.some.inj h⟩
      clear D D4
      dsimp only [List.cons_append, List.nil_append] at D5
      cases hX : bit ch i with
      | true =>
        w_strict ((iterate 10 walk1))
        (try dsimp only)
        rename Led _ _ _ _ _ => D
        refine ⟨_, _, ⟨rfl, ?_⟩, hs8.go _ _, D⟩
        rw [map_snoc_range, List.map_append, List.map_singleton, show pz c0 (bit ch) i = zp c0 by unfold pz; rw [hX]; rfl]
        exact StrsAre.snoc hus
      | false =>
        w_strict ((iterate 10 walk1))
        (try dsimp only)
        rename Led _ _ _ _ _ => D
        refine ⟨_, _, ⟨rfl, ?_⟩, hs8.go _ _, D⟩
        rw [map_snoc_range, List.map_append, List.map_singleton, show pz c0 (bit ch) i = [63] by unfold pz; rw [hX]; rfl]
        exact StrsAre.snoc hus
    · intro Dn2 us k2 l s8 hJ hs8 D5
      obtain ⟨rfl, hus⟩ := hJ
      clear D D4
      w_strict (walk1)
      (try dsimp only)
      rename Led _ _ _ _ _ => D
      have hpl := fun k => pz_len c0 (bit ch) k
      refine joinP D at0 hus (by show (pz c0 (bit ch) 0).length + ((pz c0 (bit ch) 1).length + ((pz c0 (bit ch) 2).length + ((pz c0 (bit ch) 3).length + 0))) ≤ _; have := hpl 0; have := hpl 1; have := hpl 2; have := hpl 3; omega) fun t11 k11 => ?_
      rw [show ((List.range 4).map (pz c0 (bit ch))).flatten = patT c0 (bit ch) from rfl]
      w_strict ((iterate 2 walk1))
      (try dsimp only)
      rename Led _ _ _ _ _ => D
      refine' useAt (z := z) (p := lt0) 7 (sp_translate G hc0 hT0) ?uD ?up ar' ?uk ?_
      case uD => exact D
      case up => exact rfl
      case uk => omega
      intro v h' tk l' D5 hv'
      obtain ⟨hT1, t12, rfl⟩ := hv'
      simp only [List.take_succ_cons, List.take_zero, List.cons_append, List.nil_append] at D5
      clear D
      w_strict ((iterate 2 walk1))
      (try dsimp only)
      rename Led _ _ _ _ _ => D
      refine' useAt (z := l' ++ z) (p := []) 7 (sp_items G (c0 := c0) (X := bit ch)) ?uD ?up ar' ?uk ?_
      case uD => exact D
      case up => exact rfl
      case uk => omega
      intro v2 h2' tk2 l2' D6 hv2
      obtain ⟨ia, its, n9, rfl, hits, rfl⟩ := hv2
      simp only [List.take_succ_cons, List.take_zero, List.cons_append, List.nil_append] at D6
      clear D
      w_strict (walk1; dsimp only [qk]; clear qk; (try clear ek); walk1; k_fold; (iterate 9 walk1))
      (try dsimp only)
      rename Led _ _ _ _ _ => D
      rename Obj.data _ = Data.cell (some (Value.ref _)) => hoI
      rename Obj => oI
      refine countI D at1 hys fun t13 k13 => ?_
      rw [count_bits (bit ch) 4]
      w_strict ((iterate 4 walk1))
      (try dsimp only)
      rename Led _ _ _ _ _ => D
      refine' compE (g := g) (cl := [((Str.ofString "items"), L + 1 + 1 + 1)]) ?a1 ?a2 ?a3 ?a4 ?a5 ?_
      case a1 => kernel_rfl!
      case a2 => decide
      case a3 => exact rfl
      case a4 => decide
      case a5 => intro _; exact rfl
      w_strict (walk1)
      (try dsimp only)
      rename Led _ _ _ _ _ => D
      have hcl := hc.len_eq
      rw [List.length_map, List.length_range] at hcl
      refine it_list ar'.hh D (i := 6) rfl rfl fun I3 p3 s9 hs9 D7 Y3 Sf3 => ?_
      rw [hcl] at Y3
      refine CompAt.mk (n := 6) (l := _) (p := p3) (fun i us l => l = _ ∧ us.length = ((List.range i).filter (near M (bit ch))).length) ?_ (by omega) (Y3 _ _) Sf3 ⟨rfl, rfl⟩ D7 ?_ ?_
      · rintro i us l ⟨rfl, hy⟩
        refine ⟨?_, fun e he => by rw [List.mem_singleton.mp he]; simp⟩
        rw [hy]
        have := List.length_filter_le (near M (bit ch)) (List.range i)
        rw [List.length_range] at this
        exact this
      · intro C i hi
        refine turnOf fun vv q bb us l s10 tl hv hJ hs10 D8 => ?_
        obtain ⟨hvv, rfl⟩ := hv
        obtain ⟨rfl, hus2⟩ := hJ
        obtain ⟨t14, rfl⟩ : ∃ t14, vv = .str (strOf (colW c0 c1 M i)) t14 := by
          obtain ⟨t14, h⟩ := hc.at (j := i) (y := strOf (colW c0 c1 M i)) (by rw [List.getElem?_map, List.getElem?_range hi]; rfl)
          rw [hvv] at h
          exact ⟨t14, Option.some.inj h⟩
        clear D D7
        dsimp only [List.cons_append, List.nil_append] at D8
        have hfn := fit_near h01 M (bit ch) i
        w_strict ((iterate 14 walk1))
        (try dsimp only)
        rename Led _ _ _ _ _ => D
        refine' useAt (z := l' ++ z ++ tl) (p := [(ia, listOf its.toArray n9)]) 7 (sp_fits G hits (by unfold colW; rw [List.length_map]; rfl) (colW_all h0 h1 M i)) ?uD ?up ar' ?uk ?_
        case uD => exact D
        case up => exact rfl
        case uk => omega
        intro v3 h3' tk3 l3' D9 hv3
        obtain ⟨rfl, rfl⟩ := hv3
        simp only [List.take_succ_cons, List.take_zero, List.cons_append, List.nil_append] at D9
        clear D
        rw [hfn]
        cases hn : near M (bit ch) i with
        | true =>
          w_strict ((iterate 3 walk1))
          (try dsimp only)
          rename Led _ _ _ _ _ => D
          refine ⟨_, _, ⟨rfl, ?_⟩, hs10.go _ _, D⟩
          rw [seatsList_snoc, hn, if_pos rfl, List.length_append, List.length_append, hus2]
          rfl
        | false =>
          w_strict ((iterate 2 walk1))
          (try dsimp only)
          rename Led _ _ _ _ _ => D
          refine ⟨_, _, ⟨rfl, ?_⟩, hs10.go _ _, D⟩
          rw [seatsList_snoc, hn, if_neg (by decide), List.append_nil]
          exact hus2
      · intro Dn3 us3 k3 l s10 hJ hs10 D8
        obtain ⟨rfl, hus2⟩ := hJ
        clear D D7
        have hz1 : us3.length ≤ 1000 := by
          have := List.length_filter_le (near M (bit ch)) (List.range 6)
          rw [List.length_range] at this
          omega
        w_strict ((iterate 3 walk1); dsimp only [qk]; clear qk; (try clear ek))
        (try dsimp only)
        rename Led _ _ _ _ _ => D
        have hv : ((num 4 (fun g => !bit ch g) : Nat) : Int) + ((us3.toArray.size : Nat) : Int) = ((ksum M (bit ch) : Nat) : Int) := by
          rw [List.size_toArray, hus2]; rfl
        have D10 := (D.pick [7] 9).out
        simp only [pick, List.filterMap_cons, List.filterMap_nil, List.getElem?_cons_zero, List.getElem?_cons_succ, List.drop_succ_cons, List.drop_zero, List.cons_append, List.nil_append] at D10
        rw [hv]
        exact ret _ _ _ ((((((Sm.mk (h := h₁) (tk := tk)).go _ _).trans hs).trans hs6).go _ _ |>.trans hs7 |>.trans hs8 |>.go _ _ |>.trans hs9 |>.trans hs10 |>.go _ _)) D10 ⟨l', hT1, ⟨_, rfl⟩, rfl⟩
-- P15
/-- the text behind the first k words -/
noncomputable def restW (m : Int) (W : List (List Nat)) (k : Nat) : List Nat := (((List.range W.length).drop k).map fun j => encT (quoted m j) (W.getD j []) ++ [sepW j]).flatten
theorem restW_zero (m : Int) (W : List (List Nat)) : restW m W 0 = textW m W W.length := rfl
theorem restW_end (m : Int) (W : List (List Nat)) : restW m W W.length = [] := by
  unfold restW
  rw [List.drop_eq_nil_of_le (by simp)]; rfl
theorem restW_succ {m : Int} {W : List (List Nat)} {k : Nat} (hk : k < W.length) : restW m W k = encT (quoted m k) (W.getD k []) ++ (sepW k :: restW m W (k + 1)) := by
  unfold restW
  rw [List.drop_eq_getElem_cons (by simpa using hk), List.map_cons, List.flatten_cons, List.getElem_range, List.append_assoc]
  rfl
theorem wsC_sep (k : Nat) : wsC (sepW k) := by
  unfold wsC sepW
  split
  · exact .inr rfl
  · exact .inl rfl
theorem qb_word : ∀ (w r : List Nat), QB ((w.map escq).flatten ++ 34 :: r) w r
  | [], r => .stop r
  | c :: w, r => by
    rw [List.map_cons, List.flatten_cons, List.append_assoc]
    by_cases h : c = 34 ∨ c = 92
    · rw [show escq c = [92, c] from if_pos h]
      exact .esc c (qb_word w r)
    · rw [show escq c = [c] from if_neg h]
      exact .plain c (fun e => h (.inl e)) (fun e => h (.inr e)) (qb_word w r)
theorem bb_word : ∀ (w : List Nat) (c : Nat) (r : List Nat), wsC c → BB ((w.map escb).flatten ++ c :: r) w r
  | [], c, r, h => .stop c r h
  | d :: w, c, r, h => by
    rw [List.map_cons, List.flatten_cons, List.append_assoc]
    exact .esc d (bb_word w c r h)
/-- what is left when k words have been read -/
noncomputable def After (m : Int) (W : List (List Nat)) (k : Nat) (r : List Nat) : Prop := r = restW m W k ∨ ∃ c, wsC c ∧ r = c :: restW m W k
theorem After.tok {m : Int} {W : List (List Nat)} {k : Nat} {r : List Nat} (hk : k < W.length) (hne : W.getD k [] ≠ []) (h : After m W k r) : ∃ r', Tk r (W.getD k []) r' ∧ After m W (k + 1) r' := by
  have key : ∃ r', Tk (restW m W k) (W.getD k []) r' ∧ After m W (k + 1) r' := by
    rw [restW_succ hk]
    generalize W.getD k [] = w at *
    unfold encT
    cases quoted m k with
    | true =>
      refine ⟨sepW k :: restW m W (k + 1), ?_, .inr ⟨_, wsC_sep k, rfl⟩⟩
      rw [if_pos rfl, List.cons_append, List.append_assoc]
      exact .quote (qb_word w _)
    | false =>
      refine ⟨restW m W (k + 1), ?_, .inl rfl⟩
      rw [if_neg (by decide)]
      cases w with
      | nil => exact absurd rfl hne
      | cons d w =>
        rw [List.map_cons, List.flatten_cons, List.append_assoc]
        exact .bare d (bb_word w _ _ (wsC_sep k))
  rcases h with rfl | ⟨c, hc, rfl⟩
  · exact key
  · obtain ⟨r', h1, h2⟩ := key
    exact ⟨r', .skip c hc h1, h2⟩
theorem After.last {m : Int} {W : List (List Nat)} {r : List Nat} (h : After m W W.length r) : Tk r [] [] := by
  rcases h with rfl | ⟨c, hc, rfl⟩
  · rw [restW_end]; exact .done
  · rw [restW_end]; exact .skip c hc .done
theorem textW_all {m : Int} {W : List (List Nat)} (h : ∀ w ∈ W, w.all (· < 128) = true) (k : Nat) : (textW m W k).all (· < 128) = true := by
  unfold textW
  rw [List.all_flatten, List.all_map, List.all_eq_true]
  intro j _
  show (encT (quoted m j) (W.getD j []) ++ [sepW j]).all _ = true
  have hw : (W.getD j []).all (· < 128) = true := by
    rw [List.getD_eq_getElem?_getD]
    cases e : W[j]? with
    | none => rfl
    | some w => exact h w (List.mem_of_getElem? e)
  generalize W.getD j [] = w at hw
  rw [List.all_append, Bool.and_eq_true]
  refine ⟨?_, by unfold sepW; split <;> rfl⟩
  have h1 : ∀ {f : Nat → List Nat}, (∀ c, c < 128 → (f c).all (· < 128) = true) → (w.map f).flatten.all (· < 128) = true := fun hf => by
    rw [List.all_flatten, List.all_map, List.all_eq_true]
    intro c hc
    exact hf c (of_decide_eq_true (List.all_eq_true.mp hw c hc))
  have h92 : decide (92 < 128) = true := rfl
  unfold encT
  cases quoted m j with
  | true =>
    rw [if_pos rfl, List.all_cons, List.all_append, Bool.and_eq_true, Bool.and_eq_true]
    refine ⟨rfl, h1 fun c hc => ?_, rfl⟩
    unfold escq
    split
    · rw [List.all_cons, List.all_cons, decide_eq_true hc]; rfl
    · rw [List.all_cons, decide_eq_true hc]; rfl
  | false =>
    rw [if_neg (by decide)]
    refine h1 fun c hc => ?_
    unfold escb
    rw [List.all_cons, List.all_cons, decide_eq_true hc]; rfl
-- P16
/-- the law's own def, out of the head -/
noncomputable def fdOf {q : Program} {loose : List Str} {XP : (Str → Option Value) → Heap → Prop} {YP : World → Heap → Prop} {r : RowW} {d : DefRec} {kwd : List (Str × Expr)} {run : Value → List Value → Sem Value} {P : Prop} (_h : WalkO q loose XP YP r d kwd run → P) : DefRec := d
noncomputable def lawFd : DefRec := fdOf (head hd (left0 lookB lookC))
/-- the script's three numbers -/
noncomputable def drawnL (ns : List Int) : List Int := (ns.take 3).map (· % 1000000)
theorem numbers3 (ns : List Int) : ∃ n0 n1 n2 : Int, drawnL ns ++ [3265, 38667, 358].drop (drawnL ns).length = [n0, n1, n2] ∧ 0 ≤ n0 ∧ n0 < 1000000 ∧ 0 ≤ n1 ∧ n1 < 1000000 ∧ 0 ≤ n2 ∧ n2 < 1000000 := by
  have hb : ∀ a : Int, 0 ≤ a % 1000000 ∧ a % 1000000 < 1000000 := fun a => mod_in a (by decide)
  match ns with
  | [] => exact ⟨_, _, _, rfl, by decide, by decide, by decide, by decide, by decide, by decide⟩
  | [a] => exact ⟨_, _, _, rfl, (hb a).1, (hb a).2, by decide, by decide, by decide, by decide⟩
  | [a, b] => exact ⟨_, _, _, rfl, (hb a).1, (hb a).2, (hb b).1, (hb b).2, by decide, by decide⟩
  | a :: b :: c :: _ => exact ⟨_, _, _, rfl, (hb a).1, (hb a).2, (hb b).1, (hb b).2, (hb c).1, (hb c).2⟩
theorem octets3 {x y z : Int} (hx : 0 ≤ x ∧ x < 256) (hy : 0 ≤ y ∧ y < 256) (hz : 0 ≤ z ∧ z < 256) : ∃ a b c : UInt8, byteArr [x, y, z] = #[a, b, c] ∧ (a.toNat : Int) = x ∧ (b.toNat : Int) = y ∧ (c.toNat : Int) = z := by
  have key : ∀ v : Int, 0 ≤ v ∧ v < 256 → ((v.toNat.toUInt8).toNat : Int) = v := fun v h => by
    rw [Nat.toUInt8, UInt8.toNat_ofNat', Nat.mod_eq_of_lt (toNat_lt h.1 h.2)]; exact Int.toNat_of_nonneg h.1
  exact ⟨_, _, _, rfl, key x hx, key y hy, key z hz⟩
noncomputable def b64u (v : Int) : UInt8 := b64L.getD v.toNat 0
theorem b64u_lt (v : Int) : (b64u v).toNat < 128 := by
  unfold b64u
  rw [List.getD_eq_getElem?_getD]
  cases e : b64L[v.toNat]? with
  | none => decide
  | some x =>
    have : ∀ x ∈ b64L, x.toNat < 128 := by decide
    exact this x (List.mem_of_getElem? e)
theorem cd_u (v : Int) : (cd v).toNat.toUInt8 = b64u v := by
  show (((b64L.getD v.toNat 0).toNat : Nat) : Int).toNat.toUInt8 = _
  rw [Int.toNat_natCast]
  exact UInt8.ofNat_toNat
theorem b64arr (A B C : Int) : byteArr (ltI A B C 3) = [b64u (V6 A B C 0), b64u (V6 A B C 1), b64u (V6 A B C 2), b64u (V6 A B C 3)].toArray := by
  unfold byteArr ltI
  simp only [List.map_cons, List.map_nil, cd_u]
/-- the four letters -/
noncomputable def ltr4 (A B C : Int) : List Nat := (List.range 4).map fun k => (b64u (V6 A B C k)).toNat
theorem dec64 {w : World} {A' : Around} {s : Shared} {E Q : Value → Shared → Prop} {t u : Tok} {A B C : Int} (h : ∀ t' k, Q (.str (strOf (ltr4 A B C)) t') { s with toks := k }) :
    wpAny (model Pg w) A' (call (.builtin "bytes.decode") [.bytes (byteArr (ltI A B C 3)) t, .str (Str.ofString "ascii") u]) Q E s := by
  rw [b64arr]
  exact decW (x := strOf (ltr4 A B C)) (n := 4) (fun id => dec4 (b64u_lt _) (b64u_lt _) (b64u_lt _) (b64u_lt _)) (by rw [len_strOf]; show 4 ≤ 1000; decide) h
noncomputable def abc64 : List Nat := b64L.map (·.toNat)
theorem abc64_eq : Str.ofString "ABCDEFGHIJKLMNOPQRSTUVWXYZabcdefghijklmnopqrstuvwxyz0123456789+/" = strOf abc64 := by decide +kernel
theorem find64 : ∀ k, k < 64 → Txt.find (Str.ofString "ABCDEFGHIJKLMNOPQRSTUVWXYZabcdefghijklmnopqrstuvwxyz0123456789+/") (one (b64L.getD k 0).toNat) = k ∧ (Builtin.Str.occurrences (Str.ofString "ABCDEFGHIJKLMNOPQRSTUVWXYZabcdefghijklmnopqrstuvwxyz0123456789+/") (one (b64L.getD k 0).toNat) 0 (Str.ofString "ABCDEFGHIJKLMNOPQRSTUVWXYZabcdefghijklmnopqrstuvwxyz0123456789+/").length 1).isEmpty = false := by decide +kernel
theorem idx64 {w : World} {A : Around} {s : Shared} {E Q : Value → Shared → Prop} {t u : Tok} {v : Int} (hh : A.handled = none) (h0 : 0 ≤ v) (h1 : v < 64) (h : ∀ t tk, Q (.int v t) { s with toks := tk }) :
    wpAny (model Pg w) A (call (.builtin "str.index") [.str (Str.ofString "ABCDEFGHIJKLMNOPQRSTUVWXYZabcdefghijklmnopqrstuvwxyz0123456789+/") t, .str (one (b64u v).toNat) u]) Q E s := by
  have key := find64 v.toNat (toNat_lt h0 h1)
  rw [show (b64L.getD v.toNat 0) = b64u v from rfl, Int.toNat_of_nonneg h0] at key
  refine index_or hh (fun h1 _ => ?_) (fun _ _ => ?_)
  · rw [key.1] at h1; omega
  · rw [key.1]; exact h _ _
theorem upB_lt : ∀ d, d < 16 → (upB d).toNat < 128 := by decide
theorem find16 : ∀ d, d < 16 → Txt.find (Str.ofString "0123456789ABCDEF") (one (upB d).toNat) = d ∧ (Builtin.Str.occurrences (Str.ofString "0123456789ABCDEF") (one (upB d).toNat) 0 (Str.ofString "0123456789ABCDEF").length 1).isEmpty = false := by decide +kernel
theorem idx16 {w : World} {A : Around} {s : Shared} {E Q : Value → Shared → Prop} {t u : Tok} {v : Int} (hh : A.handled = none) (h0 : 0 ≤ v) (h1 : v < 16) (h : ∀ t tk, Q (.int v t) { s with toks := tk }) :
    wpAny (model Pg w) A (call (.builtin "str.index") [.str (Str.ofString "0123456789ABCDEF") t, .str (one (upB v.toNat).toNat) u]) Q E s := by
  have key := find16 v.toNat (toNat_lt h0 h1)
  rw [Int.toNat_of_nonneg h0] at key
  refine index_or hh (fun h1 _ => ?_) (fun _ _ => ?_)
  · rw [key.1] at h1; omega
  · rw [key.1]; exact h _ _
/-- the six figures -/
noncomputable def fig6 (V : Nat → Int) : List Nat := (List.range 6).map fun j => (upB (fig V j).toNat).toNat
theorem dec16 {w : World} {A' : Around} {s : Shared} {E Q : Value → Shared → Prop} {t u : Tok} {V : Nat → Int} {a b c : UInt8} (ha : (a.toNat : Int) = 16 * fig V 0 + fig V 1) (hb : (b.toNat : Int) = 16 * fig V 2 + fig V 3) (hc : (c.toNat : Int) = 16 * fig V 4 + fig V 5)
    (h : ∀ t' k, Q (.str (strOf (fig6 V)) t') { s with toks := k }) : wpAny (model Pg w) A' (call (.builtin "bytes.decode") [.bytes (upL a b c).toArray t, .str (Str.ofString "ascii") u]) Q E s := by
  have f := fig_in V
  obtain ⟨a1, a2⟩ := two_figs (f 0) (f 1) ha
  obtain ⟨b1, b2⟩ := two_figs (f 2) (f 3) hb
  obtain ⟨c1, c2⟩ := two_figs (f 4) (f 5) hc
  have l := fun j => upB_lt (fig V j).toNat (toNat_lt (f j).1 (f j).2)
  have e : upL a b c = [upB (fig V 0).toNat, upB (fig V 1).toNat, upB (fig V 2).toNat, upB (fig V 3).toNat, upB (fig V 4).toNat, upB (fig V 5).toNat] := by
    unfold upL
    rw [a1, a2, b1, b2, c1, c2]
  rw [e]
  exact decW (x := strOf (fig6 V)) (n := 6) (fun id => dec6 (l 0) (l 1) (l 2) (l 3) (l 4) (l 5)) (by rw [len_strOf]; show 6 ≤ 1000; decide) h
/-- the table -/
noncomputable def matV (V : Nat → Int) (g s : Nat) : Bool := bit (V g) (5 - s)
theorem word_row (c0 c1 : Nat) (V : Nat → Int) (g : Nat) : word c0 c1 (V g) 6 = (List.range 6).map fun s => sel c0 c1 (matV V g s) := rfl
theorem fig_bit (V : Nat → Int) (s g : Nat) (hg : g < 4) : bit (fig V s) (3 - g) = matV V g s := by
  have key : AllN (fun g => fig V s / 2 ^ (3 - g) % 2 = V g / 2 ^ (5 - s) % 2) 4 := by
    rw [fig_eq]
    have h := fun x k => half x (two2 (x := V k / 2 ^ (5 - s))).1 two2.2
    have d : ∀ x : Int, x / 2 ^ 2 = x / 2 / 2 ∧ x / 2 ^ 3 = x / 2 / 2 / 2 := fun x => by
      rw [Int.ediv_ediv_of_nonneg (by decide), Int.ediv_ediv_of_nonneg (by decide)]
      exact ⟨rfl, rfl⟩
    refine ⟨⟨⟨⟨trivial, ?_⟩, ?_⟩, ?_⟩, ?_⟩
    · show _ / 2 ^ 3 % 2 = _
      rw [(d _).2, (h _ _).1, (h _ _).1, (h _ _).1, Int.emod_emod]
    · show _ / 2 ^ 2 % 2 = _
      rw [(d _).1, (h _ _).1, (h _ _).1, (h _ _).2]
    · show _ / 2 ^ 1 % 2 = _
      rw [Int.pow_one, (h _ _).1, (h _ _).2]
    · show _ / 2 ^ 0 % 2 = _
      rw [Int.pow_zero, Int.ediv_one, (h _ _).2]
  unfold matV bit
  rw [key.get g hg]
theorem word_col (c0 c1 : Nat) (V : Nat → Int) (s : Nat) : word c0 c1 (fig V s) 4 = colW c0 c1 (matV V) s := by
  unfold word colW
  refine List.map_congr_left fun g hg => ?_
  rw [List.mem_range] at hg
  rw [show 4 - 1 - g = 3 - g from rfl, fig_bit V s g hg]
/-- the ten words -/
noncomputable def words (c0 c1 : Nat) (V : Nat → Int) : List (List Nat) := ((List.range 4).map fun k => word c0 c1 (V k) 6) ++ (List.range 6).map fun j => word c0 c1 (fig V j) 4
-- P17
theorem pick_take (its : List Value) (k : Nat) : slicePick its.toArray none (some (k : Int)) none = (its.take k).toArray := by
  rw [kms_pick_eq]
  congr 1
  unfold kms_pick kms_lo kms_hi
  dsimp only
  rw [if_neg (by omega), List.drop_zero, Nat.sub_zero, Int.toNat_natCast]
  show its.take (min k its.length) = _
  rcases Nat.le_total k its.length with h | h
  · rw [Nat.min_eq_left h]
  · rw [Nat.min_eq_right h, List.take_length, List.take_of_length_le h]
theorem pick_drop (its : List Value) (k : Nat) : slicePick its.toArray (some (k : Int)) none none = (its.drop k).toArray := by
  rw [kms_pick_eq]
  congr 1
  unfold kms_pick kms_lo kms_hi
  dsimp only
  rw [if_neg (by omega), Int.toNat_natCast]
  show List.take (its.length - min k its.length) (its.drop (min k its.length)) = _
  rcases Nat.le_total k its.length with h | h
  · rw [Nat.min_eq_left h, List.take_of_length_le (by rw [List.length_drop]; omega)]
  · rw [Nat.min_eq_right h, List.drop_length, List.drop_eq_nil_of_le h, List.take_nil]
theorem pick_run (its : List Value) (a b : Nat) (h : b ≤ its.length) : slicePick its.toArray (some (a : Int)) (some (b : Int)) none = ((its.take b).drop a).toArray := by
  rw [kms_pick_eq]
  congr 1
  unfold kms_pick kms_lo kms_hi
  dsimp only
  rw [if_neg (by omega), if_neg (by omega), Int.toNat_natCast, Int.toNat_natCast]
  show List.take (min b its.length - min a its.length) (its.drop (min a its.length)) = _
  rw [Nat.min_eq_left h, List.drop_take]
  rcases Nat.le_total a its.length with h2 | h2
  · rw [Nat.min_eq_left h2]
  · rw [Nat.min_eq_right h2, List.drop_length, List.drop_eq_nil_of_le h2, List.take_nil, List.take_nil]
section
variable {w : World} {g : Heap} {A : Around} {s : Shared} {L : Addr} {m : Str → Option Value} {l : Lgr} {E : Value → Shared → Prop}
/-- a slice of a list of the ground -/
theorem sliceGL {a : Addr} {its : List Value} {vl vu : Value} {lo hi : Option Int} {value slice : Expr} {r : List Value} {Q : Value → Shared → Prop} (D : Led g L m s.heap l) (hl : g.IsList a its.toArray) (pl : IsPart vl lo) (pu : IsPart vu hi) (hz : its.length ≤ 100000)
    (hr : slicePick its.toArray lo hi none = r.toArray) (h : ∀ c h', Led g L m h' ((c, listOf r.toArray 0) :: l) → Q (.ref c) { s with heap := h' })
    (hs : subscripted slice false (.ref a) (.ref s.heap.objs.size) = operate [.ref s.heap.objs.size, .ref a] (getItem (.ref a) (.ref s.heap.objs.size)) := by with_unfolding_all rfl)
    (ht : ∀ r, letTemporaryGo value (.ref a) r = pure () := by intro _; with_unfolding_all rfl) :
    wpAny (model Pg w) A (subscriptTail value slice (.ref a) (.ref s.heap.objs.size)) Q E { s with heap := s.heap.push { cls := .type "slice", data := .fields #[vl, vu, .none] } } := by
  obtain ⟨o, ho, hrest⟩ := hl
  exact slice_list D.fr0 D.wide ⟨o, D.keep _ _ ho, hrest⟩ pl pu (fun h' F N => h _ h' (D.grow' (Nat.le_succ _) F (by rw [hr] at N; exact N))) hs ht (by simp only [List.size_toArray, sizeLine_eq]; omega)
end
theorem compAs0 {w : World} {g : Heap} {A : Around} {m : Str → Option Value} {l : Lgr} {elt iter : Expr} {x y : Str} {px py : Pos} {ifs : List Expr} {scope : Scope} {pos spos : Pos} {env : Env} {s : Shared} {Q : Flow → Shared → Prop} {E : Value → Shared → Prop} {L : Addr} (_D : Led g L m s.heap l)
    (hsw : swapsWith (.ListComp elt [⟨.Name x px, iter, ifs, 0⟩] scope pos) (some (.Name y py)) spos.line env = pure true)
    (hclos : closureFor scope env = pure []) (hcell : ∀ y ∈ scope.names, y.2 ≠ .cell) (hkind : scope.kind = .function) (hnames : ∀ y ∈ scope.names, y.2 = .local → scope.names.lookup y.1 = some .local)
    (hs : ∀ x, foldedSetIterable iter env x = pure x) (hL : env.locals = L) (hk : env.scope.kind = .function) (hy : env.kindOf y = some .local)
    (h : wpAny (model Pg w) A (eval iter env) (fun xv s₁ => wpAny (model Pg w) A (pyIter xv) (fun it s₂ => CompAs w g A x px ifs elt scope [] env y L Q it s₂) NoE s₁) NoE s) :
    wpAny (model Pg w) A (exec (.Assign [.Name y py] (.ListComp elt [⟨.Name x px, iter, ifs, 0⟩] scope pos) spos) env) Q E s := compAs hsw hclos hcell hkind hnames hs hL hk hy h
theorem word75 : True := by
  k_with "exec Assign cons ListComp" => (k_dflt ((with_reducible rename Led _ _ _ _ _ => D0); refine' compAs0 D0 ?a0 ?a1 ?a2 ?a3 ?a4 ?a5 ?b0 ?b1 ?b2 ?_; (case a1 => kernel_rfl!); (case a0 => exact rfl); (case a2 => decide); (case a3 => exact rfl); (case a4 => decide); (case a5 => intro _; exact rfl); (case b0 => exact rfl); (case b1 => exact rfl); (case b2 => kernel_rfl!); k_whole))
  trivial
/-- the law's frame -/
noncomputable def lawEnv (L fa : Addr) (cd : Value) : Env := envOfC lawFd.name lawFd.scope L fa cd
theorem asDrop {M : Model} {A : Around} {env : Env} {Q : Flow → Shared → Prop} {E : Value → Shared → Prop} {s : Shared} {rest : List Stmt} {k : Nat} (e : lawFd.body.drop k = rest) (h : wpAny M A (execs (lawFd.body.drop k) env) Q E s) : wpAny M A (execs rest env) Q E s := e ▸ h
theorem pair_facts {a b c0 c1 : Nat} (hab : a ≠ b) (ha : a < 16) (hb : b < 16) (h0 : stock.cps[a]? = some c0) (h1 : stock.cps[b]? = some c1) :
    c0 ≠ c1 ∧ c0 < 128 ∧ c1 < 128 ∧ (c0 ∈ [97, 33, 34, 93, 45, 46, 94, 126, 38, 35, 32, 92, 10] ∨ c0 ∈ [42, 63, 91]) := by
  have k1 : ∀ a, a < 16 → ∀ b, b < 16 → a ≠ b → stock.cps.getD a 0 ≠ stock.cps.getD b 0 := by decide +kernel
  have k2 : ∀ a, a < 16 → stock.cps.getD a 0 < 128 ∧ (stock.cps.getD a 0 ∈ [97, 33, 34, 93, 45, 46, 94, 126, 38, 35, 32, 92, 10] ∨ stock.cps.getD a 0 ∈ [42, 63, 91]) := by decide +kernel
  have e0 : stock.cps.getD a 0 = c0 := by rw [Array.getD_eq_getD_getElem?, h0]; rfl
  have e1 : stock.cps.getD b 0 = c1 := by rw [Array.getD_eq_getD_getElem?, h1]; rfl
  subst e0; subst e1
  exact ⟨k1 a ha b hb hab, (k2 a ha).1, (k2 b hb).1, (k2 a ha).2⟩
-- L1
theorem law_1 {w : World} {g : Heap} (G : Gd w g) {sa L fa : Addr} {cd : Value} {vs : List Value} {ns : List Int} {A : Around} {s : Shared} {z : Lgr} {o1 : Obj} {v1 : Option Value} {l6 l5 l4 l3 l2 : Addr × Obj} {Q : Flow → Shared → Prop} (hl : g.IsList sa vs.toArray) (hi : IntsAre vs ns) (hz : ns.length ≤ 63) (ar' : Ar A 12)
    (D : Led g L (mp [((Str.ofString "script"), .ref sa)]) s.heap (l6 :: l5 :: l4 :: l3 :: l2 :: (L + 1, o1) :: z)) (d1 : o1.data = .cell v1)
    (next : ∀ (s' : Shared) (da na : Addr) (its : List Value) (nn : Nat) (n2 : Int) (a b c : UInt8) (c0 c1 : Nat) (o1' : Obj) (t1 t2 : Tok) (n0 n1 : Int), Sm s s' → 0 ≤ n2 → IntsAre its [n0, n1, n2] → (c0 ≠ c1 ∧ c0 < 128 ∧ c1 < 128 ∧ (c0 ∈ [97, 33, 34, 93, 45, 46, 94, 126, 38, 35, 32, 92, 10] ∨ c0 ∈ [42, 63, 91])) →
      o1'.data = .cell (some (.str ⟨#[c0, c1]⟩ t2)) → Led g L (mp [((Str.ofString "octets"), .bytes #[a, b, c] t1), ((Str.ofString "numbers"), .ref na), ((Str.ofString "drawn"), .ref da), ((Str.ofString "script"), .ref sa)]) s'.heap ((na, listOf its.toArray nn) :: l6 :: l5 :: l4 :: l3 :: l2 :: (L + 1, o1') :: z) →
      wpAny (model Pg w) A (execs (lawFd.body.drop 4) (lawEnv L fa cd)) Q NoE s') :
    wpAny (model Pg w) A (execs lawFd.body (lawEnv L fa cd)) Q NoE s := by
  dsimp only [lawFd, fdOf]
  obtain ⟨hp0, ge0, dr0, tk0, os0⟩ := s
  dsimp only at D
  w_strict (walk1; k_fold; (iterate 8 walk1))
  (try dsimp only)
  rename Led _ _ _ _ _ => D
  refine' sliceGL (s := ⟨_, _, _, _, _⟩) (lo := none) (hi := some 3) (r := vs.take 3) D hl ?p1 ?p2 ?hz3 ?p4 ?_ ?p5 ?p6
  case p1 => exact .none
  case p2 => exact .int _ _
  case p4 => exact pick_take vs 3
  case p5 => with_unfolding_all rfl
  case p6 => intro _; with_unfolding_all rfl
  case hz3 => have := hi.length; omega
  intro sl h1 D1
  clear D
  w_strict (skip)
  (try dsimp only)
  rename Led _ _ _ _ _ => D
  have hvl := hi.length
  refine it_list ar'.hh D at0 rfl fun I p s' hs D2 Y Sf => ?_
  have hk3 : (vs.take 3).length ≤ 3 := List.length_take_le _ _
  refine CompAs.mk (n := (vs.take 3).length) (l := _) (p := p) (fun i ys l => l = _ ∧ IntsAre ys ((ns.take i).map (· % 1000000))) ?_ (by omega) (Y _ _) Sf ⟨rfl, .nil⟩ D2 ?_ ?_
  · rintro i ys l ⟨rfl, hy⟩
    refine ⟨?_, fun e he => by rw [List.mem_singleton.mp he]; simp⟩
    rw [hy.length, List.length_map]; exact List.length_take_le _ _
  · intro C i hi3
    refine turnOf fun vv q bb ys l s2 tl hv hJ hs2 D3 => ?_
    obtain ⟨hvv, rfl⟩ := hv
    obtain ⟨rfl, hys⟩ := hJ
    rw [List.length_take] at hi3
    obtain ⟨t9, rfl⟩ : ∃ t9, vv = .int (ns[i]'(by omega)) t9 := by
      obtain ⟨t9, h⟩ := intsAt hi (k := i) (y := ns[i]'(by omega)) (List.getElem?_eq_getElem _)
      rw [List.getElem?_take_of_lt (by omega), h] at hvv
      exact ⟨t9, (Option.some.inj hvv).symm⟩
    clear D D2
    dsimp only [List.cons_append, List.nil_append] at D3
    w_strict ((iterate 17 walk1))
    (try dsimp only)
    rename Led _ _ _ _ _ => D
    refine ⟨_, _, ⟨rfl, ?_⟩, hs2.go _ _, D⟩
    rw [take_map_snoc (List.getElem?_eq_getElem (by omega))]
    exact intsAre_append hys (.cons _ _ .nil)
  · intro Dn ys kk l s6 hJ hs6 D3
    obtain ⟨rfl, hys⟩ := hJ
    clear D D2
    have hys' : IntsAre ys (drawnL ns) := by
      have e : ns.take (vs.take 3).length = ns.take 3 := by
        rw [List.length_take, hvl]
        rcases Nat.le_total 3 ns.length with h | h
        · rw [Nat.min_eq_left h]
        · rw [Nat.min_eq_right h, List.take_length, List.take_of_length_le h]
      rw [e] at hys
      exact hys
    clear hys
    have hyl := hys'.length
    have hz1 : ys.length ≤ 1000 := by rw [hyl]; unfold drawnL; rw [List.length_map]; have := List.length_take_le 3 ns; omega
    (try dsimp only [List.cons_append, List.nil_append] at D3 ⊢)
    obtain ⟨hp1, ge1, dr1, tk1, os1⟩ := s6
    dsimp only at D3
    w_strict (walk1; k_fold; (iterate 24 walk1))
    (try dsimp only)
    rename Led _ _ _ _ _ => D
    refine kba_turn (value' := .Name (Str.ofString "_") ⟨0, 0, 0, 0⟩) (fun _ => rfl) ?_
    refine' sliceLL (s := ⟨_, _, _, _, _⟩) (lo := some ((ys.toArray.size : Nat) : Int)) (hi := none) D at0 ?p1 ?p2 ?p3 (pick_drop _ _) ?_ ?p5 ?p6
    case p1 => exact .int _ _
    case p2 => exact .none
    case p3 => exact Nat.le_of_ble_eq_true rfl
    case p5 => with_unfolding_all rfl
    case p6 => intro _; with_unfolding_all rfl
    intro c2 h2 D2
    clear D
    w_strict (skip)
    (try dsimp only)
    rename Led _ _ _ _ _ => D2
    refine addLL D2 at2 at0 (by rw [List.length_drop]; show _ + (3 - _) ≤ _; omega) fun na h3 D3 => ?_
    clear D2
    rw [List.size_toArray] at D3
    obtain ⟨n0, n1, n2, hn, hb0, hb1, hb2, hb3, hb4, hb5⟩ := numbers3 ns
    have hin : IntsAre (ys ++ List.drop ys.length [Value.int 3265 tk1, Value.int 38667 (tk1 + 1), Value.int 358 (tk1 + 1 + 1)]) [n0, n1, n2] := by
      rw [← hn, hyl]
      refine intsAre_append hys' ?_
      have key : ∀ k : Nat, IntsAre (List.drop k [Value.int 3265 tk1, Value.int 38667 (tk1 + 1), Value.int 358 (tk1 + 1 + 1)]) ([3265, 38667, 358].drop k) := fun k => by
        match k with
        | 0 => exact .cons _ _ (.cons _ _ (.cons _ _ .nil))
        | 1 => exact .cons _ _ (.cons _ _ .nil)
        | 2 => exact .cons _ _ .nil
        | k + 3 => rw [List.drop_eq_nil_of_le (by simp), List.drop_eq_nil_of_le (by simp)]; exact .nil
      exact key _
    generalize ys ++ List.drop ys.length [Value.int 3265 tk1, Value.int 38667 (tk1 + 1), Value.int 358 (tk1 + 1 + 1)] = nits at *
    have hnl := hin.length
    have hz2 : nits.length ≤ 1000 := by rw [hnl]; exact Nat.le_of_ble_eq_true rfl
    have D4 := D3.pick [0] 5
    simp only [pick, List.filterMap_cons, List.filterMap_nil, List.getElem?_cons_zero, List.getElem?_cons_succ, List.drop_succ_cons, List.drop_zero, List.cons_append, List.nil_append] at D4
    clear D3
    w_strict (walk1; dsimp only [qk]; clear qk; (try clear ek); walk1; k_fold; (iterate 11 walk1))
    (try dsimp only)
    rename Led _ _ _ _ _ => D4
    refine itemI D4 at0 hin (by decide) (by decide) rfl fun t10 => ?_
    w_strict ((iterate 8 walk1))
    (try dsimp only)
    rename Led _ _ _ _ _ => D4
    refine itemI D4 at0 hin (by decide) (by decide) rfl fun t11 => ?_
    w_strict ((iterate 9 walk1))
    (try dsimp only)
    rename Led _ _ _ _ _ => D4
    refine itemI D4 at0 hin (by decide) (by decide) rfl fun t12 => ?_
    w_strict ((iterate 5 walk1))
    (try dsimp only)
    rename Led _ _ _ _ _ => D
    obtain ⟨a, b, c, habc, ha, hb, hc⟩ := octets3 (x := n0 % 256) (y := n0 / 256 % 256) (z := n1 % 256) (mod256 _) (mod256 _) (mod256 _)
    refine bytesL (its := [_, _, _]) (ns := [n0 % 256, n0 / 256 % 256, n1 % 256]) ar'.hh D at0 (.cons _ _ (.cons _ _ (.cons _ _ .nil))) ?_ (Nat.le_of_ble_eq_true rfl) fun h9 t9 k9 D9 => ?_
    · intro n hn
      simp only [List.mem_cons, List.not_mem_nil, or_false] at hn
      rcases hn with rfl | rfl | rfl <;> exact mod256 _
    rw [habc]
    clear D
    w_strict (walk1; dsimp only [qk]; clear qk; (try clear ek); walk1; k_fold; (iterate 9 walk1))
    (try dsimp only)
    rename Led _ _ _ _ _ => D
    replace D := D.drops 1
    refine itemI D at0 hin (by decide) (by decide) rfl fun t13 => ?_
    w_strict ((iterate 4 walk1))
    (try dsimp only)
    rename Led _ _ _ _ _ => D
    refine' useAt (z := _) (p := []) 0 (sp_pair G (n := n1 / 256) (Int.ediv_nonneg hb2 (by decide)) (by omega)) ?uD ?up ar' ?uk ?_
    case uD => exact D
    case up => exact rfl
    case uk => omega
    intro v h' tk l' D5 hv'
    obtain ⟨rfl, ai, bi, hab, hai, hbi, c0, c1, t14, e0, e1, rfl⟩ := hv'
    simp only [List.take_zero, List.nil_append, List.drop_succ_cons, List.drop_zero] at D5
    clear D
    w_strict (first | walk1 | (dsimp only; walk1))
    try dsimp only
    rename Led _ _ _ _ _ => D
    rename Obj.data _ = Data.cell (some (Value.str _ _)) => ho1
    skip
    refine asDrop (k := 4) rfl ?_
    exact next _ _ _ _ _ n2 a b c c0 c1 _ _ _ n0 n1 (((Sm.mk (s := ⟨hp0, ge0, dr0, tk0, os0⟩) (h := h1) (tk := tk0 + 1)).trans hs).trans hs6 |>.go _ _) hb4 hin (pair_facts hab hai hbi e0 e1) ho1 D
-- L2
theorem V6_in (A B C : Int) (k : Nat) : 0 ≤ V6 A B C k ∧ V6 A B C k < 64 := ⟨Int.emod_nonneg _ (by decide), Int.emod_lt_of_pos _ (by decide)⟩
theorem law_2 {w : World} {g : Heap} (G : Gd w g) {sa L fa da na : Addr} {cd : Value} {its : List Value} {nn : Nat} {a b c : UInt8} {A : Around} {s : Shared} {z : Lgr} {o1 : Obj} {t1 : Tok} {l6 l5 l4 l3 l2 : Addr × Obj} {Q : Flow → Shared → Prop} (ar' : Ar A 12) 
    (D : Led g L (mp [((Str.ofString "octets"), .bytes #[a, b, c] t1), ((Str.ofString "numbers"), .ref na), ((Str.ofString "drawn"), .ref da), ((Str.ofString "script"), .ref sa)]) s.heap ((na, listOf its.toArray nn) :: l6 :: l5 :: l4 :: l3 :: l2 :: (L + 1, o1) :: z))
    (next : ∀ (s' : Shared) (bb : List (Str × Value)) (va : Addr) (ys : List Value) (yn : Nat) (tt : Tok) (V : Nat → Int), V = V6 (a.toNat : Int) (b.toNat : Int) (c.toNat : Int) → (∀ k, 0 ≤ V k ∧ V k < 64) → Sm s s' → IntsAre ys ((List.range 4).map V) →
      mp bb (Str.ofString "octets") = some (.bytes #[a, b, c] t1) → mp bb (Str.ofString "numbers") = some (.ref na) → mp bb (Str.ofString "values") = some (.ref va) → mp bb (Str.ofString "figures") = some (.str (strOf (fig6 V)) tt) →
      Led g L (mp bb) s'.heap ((va, listOf ys.toArray yn) :: (na, listOf its.toArray nn) :: l6 :: l5 :: l4 :: l3 :: l2 :: (L + 1, o1) :: z) →
      wpAny (model Pg w) A (execs (lawFd.body.drop 6) (lawEnv L fa cd)) Q NoE s') :
    wpAny (model Pg w) A (execs (lawFd.body.drop 4) (lawEnv L fa cd)) Q NoE s := by
  dsimp only [lawFd, fdOf, List.drop_succ_cons, List.drop_zero]
  obtain ⟨hp0, ge0, dr0, tk0, os0⟩ := s
  dsimp only at D
  obtain ⟨V, hV⟩ : ∃ V, V = V6 (a.toNat : Int) (b.toNat : Int) (c.toNat : Int) := ⟨_, rfl⟩
  have hVin : ∀ k, 0 ≤ V k ∧ V k < 64 := fun k => by rw [hV]; exact V6_in _ _ _ k
  w_strict (walk1; k_fold; (iterate 9 walk1))
  (try dsimp only)
  rename Led _ _ _ _ _ => D
  refine' useAtT (z := _) (p := []) 0 (sp_b64encode G (a := a) (b := b) (c := c)) ?uD ?up ar' ?uk ?_
  case uD => exact D
  case up => exact rfl
  case uk => omega
  intro t3 h' tk D5
  simp only [List.take_zero, List.nil_append, List.drop_zero] at D5
  clear D
  w_strict ((iterate 5 walk1))
  (try dsimp only)
  rename Led _ _ _ _ _ => D
  refine dec64 fun t4 k4 => ?_
  w_strict (skip)
  (try dsimp only)
  rename Led _ _ _ _ _ => D
  refine it_str ar'.hh D fun I p s' hs D2 Y Sf => ?_
  rw [cps_size, show (ltr4 (a.toNat : Int) (b.toNat : Int) (c.toNat : Int)).length = 4 from rfl] at Y
  refine CompAs.mk (n := 4) (l := _) (p := p) (fun i ys l => l = _ ∧ IntsAre ys ((List.range i).map V)) ?_ (by decide) (Y _ _) Sf ⟨rfl, .nil⟩ D2 ?_ ?_
  · rintro i ys l ⟨rfl, hy⟩
    refine ⟨?_, fun e he => nomatch he⟩
    rw [hy.length, List.length_map, List.length_range]; exact Nat.le_refl _
  · intro C i hi
    refine turnOf fun vv q bb ys l s2 tl hv hJ hs2 D3 => ?_
    obtain ⟨⟨cc, uu, hcc, rfl⟩, rfl⟩ := hv
    obtain ⟨rfl, hys⟩ := hJ
    obtain rfl : cc = (b64u (V i)).toNat := by
      have := cps_at hcc
      unfold ltr4 at this
      rw [List.getElem?_map, List.getElem?_range hi, ← hV] at this
      exact (Option.some.inj this).symm
    rw [show (⟨#[(b64u (V i)).toNat]⟩ : Str) = one (b64u (V i)).toNat from rfl]
    clear D D2
    dsimp only [List.cons_append, List.nil_append] at D3
    w_strict ((iterate 8 walk1))
    (try dsimp only)
    rename Led _ _ _ _ _ => D
    refine' useAtT (z := _) (p := []) 0 (sp_alphabet G) ?uD ?up ar' ?uk ?_
    case uD => exact D
    case up => exact rfl
    case uk => omega
    intro t5 h' tk D6
    simp only [List.take_zero, List.nil_append, List.drop_zero] at D6
    clear D
    w_strict ((iterate 5 walk1))
    (try dsimp only)
    rename Led _ _ _ _ _ => D
    refine idx64 ar'.hh (hVin i).1 (hVin i).2 fun t6 k6 => ?_
    refine ⟨_, _, ⟨rfl, ?_⟩, hs2.go _ _, D⟩
    rw [map_snoc_range]
    exact intsAre_append hys (.cons _ _ .nil)
  · intro Dn ys kk l s6 hJ hs6 D3
    obtain ⟨rfl, hys⟩ := hJ
    clear D D2
    (try dsimp only [List.cons_append, List.nil_append] at D3 ⊢)
    obtain ⟨hp1, ge1, dr1, tk1, os1⟩ := s6
    dsimp only at D3
    w_strict (dsimp only [qk]; clear qk; (try clear ek); walk1; k_fold; (iterate 13 walk1))
    (try dsimp only)
    rename Led _ _ _ _ _ => D
    refine' useAtT (z := _) (p := [(Dn, listOf ys.toArray kk)]) 0 (sp_turned G hys) ?uD ?up ar' ?uk ?_
    case uD => exact D
    case up => exact rfl
    case uk => omega
    intro t7 h' tk D6
    have hf := fig_in V
    obtain ⟨x, y, u, hxy, hx, hy, hu⟩ := octets3 (x := 16 * fig V 0 + fig V 1) (y := 16 * fig V 2 + fig V 3) (z := 16 * fig V 4 + fig V 5) (by have := hf 0; have := hf 1; constructor <;> omega) (by have := hf 2; have := hf 3; constructor <;> omega) (by have := hf 4; have := hf 5; constructor <;> omega)
    rw [hxy]
    simp only [List.take_zero, List.nil_append, List.cons_append, List.drop_zero] at D6
    clear D
    w_strict ((iterate 2 walk1))
    (try dsimp only)
    rename Led _ _ _ _ _ => D
    refine' useAtT (z := _) (p := []) 0 (sp_b16 G (a := x) (b := y) (c := u)) ?uD ?up ar' ?uk ?_
    case uD => exact D
    case up => exact rfl
    case uk => omega
    intro t8 h' tk D6
    simp only [List.take_zero, List.nil_append, List.drop_zero] at D6
    clear D
    w_strict ((iterate 5 walk1))
    (try dsimp only)
    rename Led _ _ _ _ _ => D
    refine dec16 hx hy hu fun t9 k9 => ?_
    w_strict (first | walk1 | (dsimp only; walk1))
    try dsimp only
    rename Led _ _ _ _ _ => D
    refine asDrop (k := 6) rfl ?_
    exact next _ _ _ _ _ _ V hV hVin (((Sm.mk (s := ⟨hp0, ge0, dr0, tk0, os0⟩) (h := hp0) (tk := tk0)).go _ _ |>.trans hs).trans hs6 |>.go _ _) hys rfl rfl rfl rfl D
-- L3
theorem law_3 {w : World} {g : Heap} (G : Gd w g) {L fa na va : Addr} {cd : Value} {its ys : List Value} {nn yn : Nat} {n0 n1 n2 : Int} {a b c : UInt8} {c0 c1 : Nat} {A : Around} {s : Shared} {z : Lgr} {o1 : Obj} {t1 t2 t3 : Tok} {l6 l5 l4 l3 l2 : Addr × Obj} {Q : Flow → Shared → Prop} {bb : List (Str × Value)} {V : Nat → Int} (ar' : Ar A 12) (h2 : 0 ≤ n2) (hin : IntsAre its [n0, n1, n2])
    (h0 : c0 < 128) (h1 : c1 < 128) (d1 : o1.data = .cell (some (.str ⟨#[c0, c1]⟩ t2))) (hys : IntsAre ys ((List.range 4).map V))
    (m1 : mp bb (Str.ofString "octets") = some (.bytes #[a, b, c] t1)) (m2 : mp bb (Str.ofString "numbers") = some (.ref na)) (m3 : mp bb (Str.ofString "values") = some (.ref va)) (m4 : mp bb (Str.ofString "figures") = some (.str (strOf (fig6 V)) t3))
    (D : Led g L (mp bb) s.heap ((va, listOf ys.toArray yn) :: (na, listOf its.toArray nn) :: l6 :: l5 :: l4 :: l3 :: l2 :: (L + 1, o1) :: z))
    (next : ∀ (s' : Shared) (bb : List (Str × Value)) (wa : Addr) (ws : List Value) (wn : Nat) (tt : Tok), Sm s s' → StrsAre ws ((words c0 c1 V).map strOf) →
      mp bb (Str.ofString "octets") = some (.bytes #[a, b, c] t1) → mp bb (Str.ofString "written") = some (.ref wa) → mp bb (Str.ofString "text") = some (.str (strOf (textW n2 (words c0 c1 V) 10)) tt) →
      Led g L (mp bb) s'.heap ((wa, listOf ws.toArray wn) :: l6 :: l5 :: l4 :: l3 :: l2 :: (L + 1, o1) :: z) →
      wpAny (model Pg w) A (execs (lawFd.body.drop 9) (lawEnv L fa cd)) Q NoE s') :
    wpAny (model Pg w) A (execs (lawFd.body.drop 6) (lawEnv L fa cd)) Q NoE s := by
  dsimp only [lawFd, fdOf, List.drop_succ_cons, List.drop_zero]
  obtain ⟨hp0, ge0, dr0, tk0, os0⟩ := s
  dsimp only at D
  have hyl := hys.length
  rw [List.length_map, List.length_range] at hyl
  w_strict (walk1; k_fold)
  (try dsimp only)
  rename Led _ _ _ _ _ => D
  refine' compAs (g := g) (L := L) (cl := [((Str.ofString "pair"), L + 1)]) ?a0 ?a1 ?a2 ?a3 ?a4 ?a5 ?b0 ?b1 ?b2 ?_
  case a0 => exact rfl
  case a1 => kernel_rfl!
  case a2 => decide
  case a3 => exact rfl
  case a4 => decide
  case a5 => intro _; exact rfl
  case b0 => exact rfl
  case b1 => exact rfl
  case b2 => kernel_rfl!
  w_strict (walk1)
  (try dsimp only)
  rename Led _ _ _ _ _ => D
  refine it_list ar'.hh D at0 rfl fun I p s' hs D2 Y Sf => ?_
  rw [hyl] at Y
  refine CompAs.mk (n := 4) (l := _) (p := p) (fun i us l => l = _ ∧ StrsAre us (((List.range i).map fun k => word c0 c1 (V k) 6).map strOf)) ?_ (by decide) (Y _ _) Sf ⟨rfl, .nil⟩ D2 ?_ ?_
  · rintro i us l ⟨rfl, hy⟩
    refine ⟨?_, fun e he => by rw [List.mem_singleton.mp he]; simp⟩
    rw [hy.len_eq, List.length_map, List.length_map, List.length_range]; exact Nat.le_refl _
  · intro C i hi
    refine turnOf fun vv q b2 us l s2 tl hv hJ hs2 D3 => ?_
    obtain ⟨hvv, rfl⟩ := hv
    obtain ⟨rfl, hus⟩ := hJ
    obtain ⟨t9, rfl⟩ : ∃ t9, vv = .int (V i) t9 := by
      obtain ⟨t9, h⟩ := intsAt hys (k := i) (y := V i) (by rw [List.getElem?_map, List.getElem?_range hi]; rfl)
      rw [hvv] at h
      exact ⟨t9, Option.some.inj h⟩
    clear D D2
    dsimp only [List.cons_append, List.nil_append] at D3
    w_strict ((iterate 15 walk1))
    (try dsimp only)
    rename Led _ _ _ _ _ => D
    refine' useAtT (z := _) (p := []) 0 (sp_word G (v := V i) (c0 := c0) (c1 := c1) (n := 6) (.inl rfl)) ?uD ?up ar' ?uk ?_
    case uD => exact D
    case up => exact rfl
    case uk => omega
    intro t5 h' tk D6
    simp only [List.take_zero, List.nil_append, List.drop_zero] at D6
    clear D
    refine ⟨_, _, ⟨rfl, ?_⟩, hs2.go _ _, D6⟩
    rw [map_snoc_range, List.map_append, List.map_singleton]
    exact StrsAre.snoc hus
  · intro Dn us kk l s6 hJ hs6 D3
    obtain ⟨rfl, hus⟩ := hJ
    clear D D2
    (try dsimp only [List.cons_append, List.nil_append] at D3 ⊢)
    obtain ⟨hp1, ge1, dr1, tk1, os1⟩ := s6
    dsimp only at D3
    w_strict (dsimp only [qk]; clear qk; (try clear ek); walk1; k_fold; (iterate 3 walk1))
    (try dsimp only)
    rename Led _ _ _ _ _ => D
    refine' compE (g := g) (cl := [((Str.ofString "pair"), L + 1)]) ?a1 ?a2 ?a3 ?a4 ?a5 ?_
    case a1 => kernel_rfl!
    case a2 => decide
    case a3 => exact rfl
    case a4 => decide
    case a5 => intro _; exact rfl
    w_strict (walk1)
    (try dsimp only)
    rename Led _ _ _ _ _ => D
    refine it_str ar'.hh D fun I3 p3 s9 hs9 D7 Y3 Sf3 => ?_
    rw [cps_size, show (fig6 V).length = 6 from rfl] at Y3
    refine CompAt.mk (n := 6) (l := _) (p := p3) (fun i xs l => l = _ ∧ StrsAre xs (((List.range i).map fun j => word c0 c1 (fig V j) 4).map strOf)) ?_ (by decide) (Y3 _ _) Sf3 ⟨rfl, .nil⟩ D7 ?_ ?_
    · rintro i xs l ⟨rfl, hy⟩
      refine ⟨?_, fun e he => nomatch he⟩
      rw [hy.len_eq, List.length_map, List.length_map, List.length_range]; exact Nat.le_refl _
    · intro C i hi
      refine turnOf fun vv q b2 xs l s10 tl hv hJ hs10 D8 => ?_
      obtain ⟨⟨cc, uu, hcc, rfl⟩, rfl⟩ := hv
      obtain ⟨rfl, hxs⟩ := hJ
      obtain rfl : cc = (upB (fig V i).toNat).toNat := by
        have := cps_at hcc
        unfold fig6 at this
        rw [List.getElem?_map, List.getElem?_range hi] at this
        exact (Option.some.inj this).symm
      rw [show (⟨#[(upB (fig V i).toNat).toNat]⟩ : Str) = one (upB (fig V i).toNat).toNat from rfl]
      clear D D7
      dsimp only [List.cons_append, List.nil_append] at D8
      w_strict ((iterate 15 walk1))
      (try dsimp only)
      rename Led _ _ _ _ _ => D
      refine idx16 ar'.hh (fig_in V i).1 (fig_in V i).2 fun t6 k6 => ?_
      w_strict ((iterate 6 walk1))
      (try dsimp only)
      rename Led _ _ _ _ _ => D
      refine' useAtT (z := _) (p := []) 0 (sp_word G (v := fig V i) (c0 := c0) (c1 := c1) (n := 4) (.inr rfl)) ?uD ?up ar' ?uk ?_
      case uD => exact D
      case up => exact rfl
      case uk => omega
      intro t5 h' tk D6
      simp only [List.take_zero, List.nil_append, List.drop_zero] at D6
      clear D
      refine ⟨_, _, ⟨rfl, ?_⟩, hs10.go _ _, D6⟩
      rw [map_snoc_range, List.map_append, List.map_singleton]
      exact StrsAre.snoc hxs
    · intro Dn3 xs k3 l s10 hJ hs10 D8
      obtain ⟨rfl, hxs⟩ := hJ
      clear D D7
      obtain ⟨hp3, ge3, dr3, tk3, os3⟩ := s10
      dsimp only at D8
      have hul := hus.len_eq
      have hxl := hxs.len_eq
      simp only [List.length_map, List.length_range] at hul hxl
      refine addLL D8 at1 at0 (by omega) fun wa h3 D9 => ?_
      clear D8
      have hws : StrsAre (us ++ xs) ((words c0 c1 V).map strOf) := by
        unfold words
        rw [List.map_append]
        exact StrsAre.append' hus hxs
      generalize us ++ xs = ws at *
      have D10 := D9.pick [0, 4] 5
      simp only [pick, List.filterMap_cons, List.filterMap_nil, List.getElem?_cons_zero, List.getElem?_cons_succ, List.drop_succ_cons, List.drop_zero, List.cons_append, List.nil_append] at D10
      clear D9
      w_strict (walk1; dsimp only [qk]; clear qk; (try clear ek); walk1; k_fold; (iterate 10 walk1))
      (try dsimp only)
      rename Led _ _ _ _ _ => D10
      refine itemI D10 at1 hin (by decide) (by decide) rfl fun t10 => ?_
      w_strict ((iterate 2 walk1))
      (try dsimp only)
      rename Led _ _ _ _ _ => D
      have hw6 : ∀ x ∈ words c0 c1 V, x.length ≤ 6 := by
        intro x hx
        unfold words at hx
        rcases List.mem_append.mp hx with hx | hx <;> obtain ⟨k, _, rfl⟩ := List.mem_map.mp hx <;> (unfold word; rw [List.length_map, List.length_range]; decide)
      have hwa : ∀ x ∈ words c0 c1 V, x.all (· < 128) = true := by
        have key : ∀ v n, (word c0 c1 v n).all (· < 128) = true := fun v n => by
          unfold word
          rw [List.all_map, List.all_eq_true]
          intro j _
          show decide (sel c0 c1 _ < 128) = true
          unfold sel
          split <;> exact decide_eq_true (by assumption)
        intro x hx
        unfold words at hx
        rcases List.mem_append.mp hx with hx | hx <;> obtain ⟨k, _, rfl⟩ := List.mem_map.mp hx <;> exact key _ _
      refine' useAtT (z := _) (p := [(wa, listOf ws.toArray 0)]) 0 (sp_text G hws hw6 (Nat.le_of_ble_eq_true rfl) hwa h2) ?uD ?up ar' ?uk ?_
      case uD => exact D
      case up => exact rfl
      case uk => omega
      intro t8 h' tk D6
      simp only [List.take_zero, List.nil_append, List.drop_zero, List.cons_append] at D6
      clear D
      w_strict (first | walk1 | (dsimp only; walk1))
      try dsimp only
      rename Led _ _ _ _ _ => D
      have D11 := D.pick [0] 2
      refine asDrop (k := 9) rfl ?_
      exact next _ (((Str.ofString "text"), _) :: ((Str.ofString "written"), _) :: ((Str.ofString "across"), _) :: bb) _ _ _ _ (((((Sm.mk (s := ⟨hp0, ge0, dr0, tk0, os0⟩) (h := hp0) (tk := tk0)).trans hs).trans hs6).trans hs9).trans hs10 |>.go _ _) hws m1 rfl rfl D11
-- P18
section
open Builtin Builtin.Str StrLaws
section
theorem occ_count (T : List Nat) (c lim : Nat) (hl : T.length < lim) : ∀ (n k : Nat) (st : Array Nat × Nat), k + n = T.length + 1 → st.2 ≤ k → st.1.size ≤ k →
    (forIn (List.range' k n) st (occBody (strOf T) ⟨#[c]⟩ T.length lim)).run.fst.size = st.1.size + (T.drop k).count c
  | 0, k, st, hk, _, _ => by
    rw [List.drop_eq_nil_of_le (by omega)]; rfl
  | n + 1, k, st, hk, hf, hs => by
    rw [List.range'_succ, List.forIn_cons]
    have key := StrLaws.subAt_one (strOf T) c k
    rw [len_strOf, show (strOf T).cps.toList = T from rfl] at key
    unfold occBody
    by_cases hc : T[k]? = some c
    · have h2 := key.mpr hc
      rw [if_pos ⟨⟨⟨by omega, hf⟩, h2.1⟩, h2.2⟩]
      obtain ⟨hk1, he⟩ := List.getElem?_eq_some_iff.mp hc
      have ih := occ_count T c lim hl n (k + 1) (st.1.push k, k + (⟨#[c]⟩ : Str).length) (by omega) (Nat.le_refl _) (by simp only [Array.size_push]; omega)
      refine Eq.trans ih ?_
      rw [Array.size_push, List.drop_eq_getElem_cons hk1, he, List.count_cons_self]
      omega
    · have h2 := fun h => hc (key.mp h)
      rw [if_neg (fun h => h2 ⟨h.1.2, h.2⟩)]
      have ih := occ_count T c lim hl n (k + 1) st (by omega) (by omega) (by omega)
      refine Eq.trans ih ?_
      rcases Nat.lt_or_ge k T.length with hk1 | hk1
      · rw [List.drop_eq_getElem_cons hk1, List.count_cons_of_ne (fun e => hc (by rw [List.getElem?_eq_getElem hk1, e]))]
      · rw [List.drop_eq_nil_of_le hk1, List.drop_eq_nil_of_le (by omega)]
theorem count_one (T : List Nat) (c : Nat) : Txt.count (strOf T) (one c) = ((T.count c : Nat) : Int) := by
  unfold Txt.count
  rw [StrLaws.occ_eq, len_strOf]
  have := occ_count T c (T.length + 1) (Nat.lt_succ_self _) (T.length + 1 - 0) 0 (#[], 0) (Nat.zero_add _) (Nat.le_refl _) (Nat.le_refl _)
  rw [Array.length_toList]
  congr 1
  refine Eq.trans this ?_
  simp
end
theorem countNL {w : World} {A : Around} {s : Shared} {E Q : Value → Shared → Prop} {T : List Nat} {t u : Tok} (h : ∀ t tk, Q (.int (cnt T) t) { s with toks := tk }) : wpAny (model Pg w) A (call (.builtin "str.count") [.str (strOf T) t, .str (Str.ofString "\n") u]) Q E s := by
  refine SC.count ?_
  rw [show Str.ofString "\n" = one 10 by decide +kernel, count_one]
  exact h _ _
theorem cntNL (T : List Nat) : Txt.count (strOf T) (Str.ofString "\n") = cnt T := by
  rw [show Str.ofString "\n" = one 10 by decide +kernel, count_one]; rfl
theorem strOk_ascii {T : List Nat} (h : T.all (· < 128) = true) : PyData.strOk (strOf T) = true := by
  show (strOf T).cps.all _ = true
  rw [Array.all_eq_true']
  intro c hc
  have hc2 : c ∈ T := by simpa [strOf] using hc
  have := of_decide_eq_true (List.all_eq_true.mp h c hc2)
  exact decide_eq_true (by omega)
theorem canLay_strs : ∀ {W : List (List Nat)}, (∀ x ∈ W, x.all (· < 128) = true) → PyData.canLayAll0 ((W.map strOf).map PyData.str) = true
  | [], _ => rfl
  | x :: W, h => by
    show (PyData.canLay0 (.str (strOf x)) && PyData.canLayAll0 ((W.map strOf).map PyData.str)) = true
    rw [canLay_strs fun y hy => h y (.tail _ hy), Bool.and_true]
    simp only [PyData.canLay0]
    exact strOk_ascii (h x (.head _))
theorem depth_strs : ∀ (ys : List Str), PyData.depthAll (ys.map PyData.str) = 0
  | [] => rfl
  | y :: ys => by
    show max (PyData.depth (.str y)) (PyData.depthAll (ys.map PyData.str)) = 0
    rw [depth_strs ys]; rfl
section
variable {w : World} {g : Heap} {A : Around} {s : Shared} {L : Addr} {m : Str → Option Value} {l : Lgr} {E : Value → Shared → Prop} {Q : Value → Shared → Prop}
theorem reads_strs {a : Addr} {vs : List Value} {n i : Nat} {ys : List Str} (D : Led g L m s.heap l) (hi : l[i]? = some (a, listOf vs.toArray n)) (hs : StrsAre vs ys) : PySem.Reads s.heap (.ref a) (.list (ys.map PyData.str)) [a] :=
  PySem.Reads.list (D.at hi) rfl rfl (by simpa using hs.reads s.heap)
theorem neSame {a b : Value} {d : PyData} {as bs : List Addr} (ra : PySem.Reads s.heap a d as) (rb : PySem.Reads s.heap b d bs) (hd : SeqAt.shaped d = true) (hu : A.units + 64 < cLine) (h : Q (.bool false) s) : wpAny (model Pg w) A (compareOp .NotEq a b) Q E s := by
  refine ne_dataH ra rb hd hd hu ?_
  rw [SeqAt.eqv_refl d (SeqAt.canLay_of_shaped hd)]
  exact h
/-- two lists of the same texts -/
theorem neSS {a b : Addr} {x y : List Value} {n k i j : Nat} {W : List (List Nat)} (D : Led g L m s.heap l) (hi : l[i]? = some (a, listOf x.toArray n)) (hj : l[j]? = some (b, listOf y.toArray k)) (hx : StrsAre x (W.map strOf)) (hy : StrsAre y (W.map strOf)) (ha : ∀ v ∈ W, v.all (· < 128) = true) (hu : A.units + 64 < cLine)
    (h : Q (.bool false) s) : wpAny (model Pg w) A (compareOp .NotEq (.ref a) (.ref b)) Q E s := by
  refine neSame (reads_strs D hi hx) (reads_strs D hj hy) ?_ hu h
  unfold SeqAt.shaped
  rw [Bool.and_eq_true]
  refine ⟨by simp only [PyData.canLay0]; exact canLay_strs ha, decide_eq_true ?_⟩
  simp only [PyData.depth, depth_strs]
  decide
/-- two lists of the same ints -/
theorem neII {a b : Addr} {x y : List Value} {n k i j : Nat} {ns : List Int} (D : Led g L m s.heap l) (hi : l[i]? = some (a, listOf x.toArray n)) (hj : l[j]? = some (b, listOf y.toArray k)) (hx : IntsAre x ns) (hy : IntsAre y ns) (hu : A.units + 64 < cLine)
    (h : Q (.bool false) s) : wpAny (model Pg w) A (compareOp .NotEq (.ref a) (.ref b)) Q E s :=
  neSame (reads_of_ints (isList D hi) hx) (reads_of_ints (isList D hj) hy) (shaped_ints ns) hu h
/-- two pairs of a list of texts and an int -/
theorem neTT {T U a b : Addr} {x y : List Value} {n k n2 k2 i j i2 j2 : Nat} {v : Int} {t u : Tok} {W : List (List Nat)} (D : Led g L m s.heap l) (hT : l[i2]? = some (T, tupOf #[.ref a, .int v t] n2)) (hU : l[j2]? = some (U, tupOf #[.ref b, .int v u] k2))
    (hi : l[i]? = some (a, listOf x.toArray n)) (hj : l[j]? = some (b, listOf y.toArray k)) (hx : StrsAre x (W.map strOf)) (hy : StrsAre y (W.map strOf)) (ha : ∀ v ∈ W, v.all (· < 128) = true) (hu : A.units + 64 < cLine)
    (h : Q (.bool false) s) : wpAny (model Pg w) A (compareOp .NotEq (.ref T) (.ref U)) Q E s := by
  refine neSame (d := .tuple [.list ((W.map strOf).map PyData.str), .int v]) (PySem.Reads.tuple (D.at hT) rfl rfl (.cons (reads_strs D hi hx) (.cons (.int _ _) .nil))) (PySem.Reads.tuple (D.at hU) rfl rfl (.cons (reads_strs D hj hy) (.cons (.int _ _) .nil))) ?_ hu h
  unfold SeqAt.shaped
  rw [Bool.and_eq_true]
  refine ⟨by simp only [PyData.canLay0, PyData.canLayAll0, canLay_strs ha]; rfl, decide_eq_true ?_⟩
  simp only [PyData.depth, PyData.depthAll, depth_strs]
  decide
end
theorem words_len (c0 c1 : Nat) (V : Nat → Int) : (words c0 c1 V).length = 10 := rfl
end
-- L4
theorem word76 : True := by
  k_with "getAttr ref" => (k_dflt ((with_reducible show wpAny _ _ (getAttr (Value.ref _) (PySem.Str.ofString "lineno") _) _ _ _); (with_reducible rename Led _ _ _ _ _ => D0); refine' attrGet ?kG D0 ?k1 ?k2 ?k3 ?k4 ?k5 ?k6 ?k7 ?k8 ?_; (case kG => assumption); (case k1 => walk_at "mine at"); (case k2 => walk_at "mine at"); (case k3 => k_is); (case k4 => k_is); (case k5 => k_is); (case k6 => k_is); (case k7 => k_get); (case k8 => k_handed); k_whole; intro _))
  trivial
theorem words_ne (c0 c1 : Nat) (V : Nat → Int) (k : Nat) (hk : k < 10) : (words c0 c1 V).getD k [] ≠ [] := by
  have key : ∀ v n, word c0 c1 v (n + 1) ≠ [] := fun v n e => by
    have := congrArg List.length e
    unfold word at this
    rw [List.length_map, List.length_range] at this
    cases this
  have a : AllN (fun k => (words c0 c1 V).getD k [] ≠ []) 10 := by
    iterate 10 refine And.intro ?_ (key _ _)
    trivial
  exact a.get k hk
theorem words_le (c0 c1 : Nat) (V : Nat → Int) : ∀ x ∈ words c0 c1 V, x.length ≤ 6 := by
  intro x hx
  unfold words at hx
  rcases List.mem_append.mp hx with hx | hx <;> obtain ⟨k, _, rfl⟩ := List.mem_map.mp hx <;> (unfold word; rw [List.length_map, List.length_range]; decide)
theorem words_all {c0 c1 : Nat} (h0 : c0 < 128) (h1 : c1 < 128) (V : Nat → Int) : ∀ x ∈ words c0 c1 V, x.all (· < 128) = true := by
  have key : ∀ v n, (word c0 c1 v n).all (· < 128) = true := fun v n => by
    unfold word
    rw [List.all_map, List.all_eq_true]
    intro j _
    show decide (sel c0 c1 _ < 128) = true
    unfold sel
    split <;> exact decide_eq_true (by assumption)
  intro x hx
  unfold words at hx
  rcases List.mem_append.mp hx with hx | hx <;> obtain ⟨k, _, rfl⟩ := List.mem_map.mp hx <;> exact key _ _
/-- what has been read -/
noncomputable def readW (W : List (List Nat)) (i : Nat) : List Str := ((W ++ [[]]).take i).map strOf
theorem readW_snoc {W : List (List Nat)} {i : Nat} {x : List Nat} (h : (W ++ [[]])[i]? = some x) : readW W (i + 1) = readW W i ++ [strOf x] := take_map_snoc h
theorem law_4 {w : World} {g : Heap} (G : Gd w g) {L fa wa : Addr} {cd : Value} {ws : List Value} {wn : Nat} {n2 : Int} {c0 c1 : Nat} {A : Around} {s : Shared} {z : Lgr} {o1 o2 : Obj} {v2 : Option Value} {vo : Value} {t2 t3 : Tok} {l6 l5 l4 l3 : Addr × Obj} {Q : Flow → Shared → Prop} {bb : List (Str × Value)} {V : Nat → Int} (ar' : Ar A 12)
    (h0 : c0 < 128) (h1 : c1 < 128) (d2 : o2.data = .cell v2) (hws : StrsAre ws ((words c0 c1 V).map strOf))
    (m1 : mp bb (Str.ofString "octets") = some vo) (m2 : mp bb (Str.ofString "written") = some (.ref wa)) (m3 : mp bb (Str.ofString "text") = some (.str (strOf (textW n2 (words c0 c1 V) 10)) t3))
    (D : Led g L (mp bb) s.heap ((wa, listOf ws.toArray wn) :: l6 :: l5 :: l4 :: l3 :: (L + 1 + 1, o2) :: (L + 1, o1) :: (166, tabObj #[]) :: z))
    (next : ∀ (s' : Shared) (bb : List (Str × Value)) (ra : Addr) (rs : List Value) (rn : Nat) (c' : Addr) (oc o2' : Obj), Sm s s' → CodeOk oc → StrsAre rs ((words c0 c1 V ++ [[]]).map strOf) →
      mp bb (Str.ofString "octets") = some vo → mp bb (Str.ofString "read") = some (.ref ra) →
      Led g L (mp bb) s'.heap ((ra, listOf rs.toArray rn) :: l6 :: l5 :: l4 :: l3 :: (L + 1 + 1, o2') :: (L + 1, o1) :: (166, tabObj #[rawInt 221, rawInt 4, .ref c']) :: (c', oc) :: z) →
      wpAny (model Pg w) A (execs (lawFd.body.drop 12) (lawEnv L fa cd)) Q NoE s') :
    wpAny (model Pg w) A (execs (lawFd.body.drop 9) (lawEnv L fa cd)) Q NoE s := by
  dsimp only [lawFd, fdOf, List.drop_succ_cons, List.drop_zero]
  obtain ⟨hp0, ge0, dr0, tk0, os0⟩ := s
  dsimp only at D
  obtain ⟨W, hW⟩ : ∃ W, W = words c0 c1 V := ⟨_, rfl⟩
  have hWl : W.length = 10 := by rw [hW]; rfl
  have hWne : ∀ k, k < 10 → W.getD k [] ≠ [] := by rw [hW]; exact words_ne c0 c1 V
  have hW6 : ∀ x ∈ W, x.length ≤ 6 := by rw [hW]; exact words_le c0 c1 V
  have hWa : ∀ x ∈ W, x.all (· < 128) = true := by rw [hW]; exact words_all h0 h1 V
  rw [← hW] at next m3 hws
  clear hW
  obtain ⟨T, hT⟩ : ∃ T, T = textW n2 W 10 := ⟨_, rfl⟩
  rw [← hT] at m3
  have hTa : T.all (· < 128) = true := by rw [hT]; exact textW_all hWa 10
  have hTl : T.length ≤ 1000 := by rw [hT]; have := textW_len (m := n2) hW6 10; omega
  w_strict (walk1; k_fold; (iterate 8 walk1))
  (try dsimp only)
  rename Led _ _ _ _ _ => D
  refine' useAt (z := _) (p := [(166, tabObj #[])]) 7 (sp_lexer G hTa hTl) ?uD ?up ar' ?uk ?_
  case uD => exact D
  case up => exact rfl
  case uk => omega
  intro v h' tk l' D5 hv'
  obtain ⟨c', oc, a, f, R, l0, rfl, hco, rd, hlex, rfl⟩ := hv'
  simp only [List.take_succ_cons, List.take_zero, List.nil_append, List.cons_append] at D5
  clear D
  w_strict (walk1; dsimp only [qk]; clear qk; (try clear ek); walk1; k_fold)
  (try dsimp only)
  rename Led _ _ _ _ _ => D
  rename Obj.data _ = Data.cell (some (Value.ref a)) => hoL
  rename Obj => oL
  refine' compAs (g := g) (L := L) (cl := [((Str.ofString "lexer"), L + 1 + 1)]) ?a0 ?a1 ?a2 ?a3 ?a4 ?a5 ?b0 ?b1 ?b2 ?_
  case a0 => exact rfl
  case a1 => kernel_rfl!
  case a2 => decide
  case a3 => exact rfl
  case a4 => decide
  case a5 => intro _; exact rfl
  case b0 => exact rfl
  case b1 => exact rfl
  case b2 => kernel_rfl!
  w_strict ((iterate 7 walk1))
  (try dsimp only)
  rename Led _ _ _ _ _ => D
  refine it_range (n := 11) ar'.hh D at0 (by decide) (by decide) fun I p s' hs D2 Y Sf => ?_
  refine CompAs.mk (n := 11) (l := _) (p := p) (fun i ys l => ∃ (p : Nat) (line : Int) (l0 : Lgr), LexAt w a f R p line [] l0 ∧ ((i ≤ 10 ∧ After n2 W i (T.drop p)) ∨ (i = 11 ∧ T.drop p = [])) ∧ line + cnt (T.drop p) = 1 + cnt T ∧ StrsAre ys (readW W i) ∧
    l = _ :: (wa, listOf ws.toArray wn) :: l6 :: l5 :: l4 :: l3 :: (L + 1 + 1, oL) :: (L + 1, o1) :: (166, tabObj #[rawInt 221, rawInt 4, .ref c']) :: (l0 ++ z)) ?_ (by decide) (Y _ _) Sf ⟨0, 1, l0, hlex, .inl ⟨by decide, .inl ?k0⟩, rfl, .nil, rfl⟩ D2 ?_ ?_
  case k0 => rw [restW_zero, hWl, ← hT]; rfl
  · rintro i ys l ⟨p, line, l0, _, _, _, hy, rfl⟩
    refine ⟨?_, fun e he => nomatch he⟩
    unfold readW at hy
    rw [hy.len_eq, List.length_map]; exact List.length_take_le _ _
  · intro C i hi
    refine turnOf fun vv q b2 ys l s2 tl hv hJ hs2 D3 => ?_
    obtain ⟨⟨t9, rfl⟩, rfl⟩ := hv
    obtain ⟨p, line, l0, hl, hA, hline, hys, rfl⟩ := hJ
    clear D D2 hlex
    obtain ⟨tok, r', htok, hTk, hA2, htl⟩ : ∃ tok r', (W ++ [[]])[i]? = some tok ∧ Tk (T.drop p) tok r' ∧ ((i + 1 ≤ 10 ∧ After n2 W (i + 1) r') ∨ (i + 1 = 11 ∧ r' = [])) ∧ tok.length ≤ 1000 := by
      rcases hA with ⟨_, hA⟩ | ⟨h11, _⟩
      · rcases Nat.lt_or_ge i 10 with h10 | h10
        · obtain ⟨r', h1, h2⟩ := hA.tok (by omega) (hWne i h10)
          have e1 : W[i]? = some (W.getD i []) := by rw [List.getD_eq_getElem?_getD, List.getElem?_eq_getElem (by omega)]; rfl
          refine ⟨_, r', by rw [List.getElem?_append_left (by omega)]; exact e1, h1, .inl ⟨by omega, h2⟩, ?_⟩
          have := hW6 _ (List.mem_of_getElem? e1)
          omega
        · have h10' : i = 10 := by omega
          subst h10'
          rw [← hWl] at hA
          refine ⟨[], [], by rw [List.getElem?_append_right (by omega), hWl]; rfl, hA.last, .inr ⟨rfl, rfl⟩, Nat.zero_le _⟩
      · omega
    obtain ⟨dx, pb, sx, dx2, pb2, its, n, k1, k2, k3, k4, t1, t2, j1, j2, j3, j4, j5, t3, t4, lf, hR, hq, rfl⟩ := id hl
    obtain ⟨cl, od, fd, sl, r, rfl⟩ := rd.fn _ _ hR
    dsimp only [List.cons_append, List.nil_append] at D3
    w_strict ((iterate 8 walk1))
    (try dsimp only)
    rename Led _ _ _ _ _ => D
    refine' useAt (z := z ++ tl) (p := _ :: _ :: _ :: _ :: _ :: _ :: _ :: r) 9 (sp_lex (t := tok) (r := r') G rd hl hTk htl) ?uD ?up ar' ?uk ?_
    case uD => exact D
    case up => simp only [List.drop_succ_cons, List.drop_zero, List.cons_append, List.append_assoc]
    case uk => omega
    intro v h' tk l' D6 hv'
    obtain ⟨⟨k, rfl⟩, p', line', hl2, hdr, hln⟩ := hv'
    simp only [List.take_succ_cons, List.take_zero, List.cons_append, List.nil_append] at D6
    clear D
    rw [← List.append_assoc] at D6
    have q1 : (i + 1 ≤ 10 ∧ After n2 W (i + 1) (T.drop p')) ∨ (i + 1 = 11 ∧ T.drop p' = []) := by rw [hdr]; exact hA2
    have q2 : line' + cnt (T.drop p') = 1 + cnt T := by rw [hdr, hln]; exact hline
    have q3 : StrsAre (ys ++ [.str (strOf tok) k]) (readW W (i + 1)) := by rw [readW_snoc htok]; exact StrsAre.snoc hys
    clear hdr hln hA2 hTk hA hl hline
    try dsimp only
    exact ⟨((Str.ofString "turn"), .int (0 + (i : Int) * 1) t9) :: b2, _ :: (wa, listOf ws.toArray wn) :: l6 :: l5 :: l4 :: l3 :: (L + 1 + 1, oL) :: (L + 1, o1) :: (166, tabObj #[rawInt 221, rawInt 4, .ref c']) :: (l' ++ z), ⟨p', line', l', hl2, q1, q2, q3, rfl⟩, hs2.go _ _, D6⟩
  · intro Dn ys kk l s6 hJ hs6 D3
    obtain ⟨p, line, l0, hl, hA, hline, hys, rfl⟩ := hJ
    clear D D2 hlex
    have hd0 : T.drop p = [] := by
      rcases hA with ⟨h, _⟩ | ⟨_, h⟩
      · omega
      · exact h
    rw [hd0] at hline
    obtain rfl : line = 1 + cnt T := by
      have : cnt [] = 0 := rfl
      omega
    have hys2 : StrsAre ys ((W ++ [[]]).map strOf) := by
      have e : readW W 11 = (W ++ [[]]).map strOf := by
        unfold readW
        rw [List.take_of_length_le (by rw [List.length_append, hWl]; exact Nat.le_refl _)]
      rw [e] at hys
      exact hys
    obtain ⟨dx, pb, sx, dx2, pb2, its, n, k1, k2, k3, k4, t1, t2, j1, j2, j3, j4, j5, t3, t4, lf, hR, hq, rfl⟩ := id hl
    obtain ⟨cl, od, fd, sl, r, rfl⟩ := rd.fn _ _ hR
    obtain ⟨hp1, ge1, dr1, tk1, os1⟩ := s6
    (try dsimp only [List.cons_append, List.nil_append] at D3 ⊢)
    w_strict (walk1; k_fold; (iterate 20 walk1))
    (try dsimp only)
    rename Led _ _ _ _ _ => D
    have hyl := hys2.len_eq
    have hwl := hws.len_eq
    rw [List.length_map] at hwl
    refine addLL D at4 at0 (by rw [hwl, hWl]; exact Nat.le_of_ble_eq_true rfl) fun sa h3 D4 => ?_
    clear D
    w_strict ((iterate 14 walk1))
    (try dsimp only)
    rename Led _ _ _ _ _ => D4
    rw [cntNL] at D4
    have hws2 : ∀ tk : Tok, StrsAre (ws ++ [Value.str (Str.ofString "") tk]) ((W ++ [[]]).map strOf) := fun tk => by
      rw [List.map_append, show ([[]] : List (List Nat)).map strOf = [Str.ofString ""] by rw [str_nil]; rfl]
      exact StrsAre.snoc hws
    refine neTT (W := W ++ [[]]) D4 at3 at0 at4 at1 hys2 (hws2 _) ?_ (by have := ar'.un; omega) ?_
    · intro v hv
      rcases List.mem_append.mp hv with hv | hv
      · exact hWa v hv
      · rw [List.mem_singleton.mp hv]; rfl
    iterate 3 (w_strict (first | walk1 | (dsimp only; walk1)))
    try dsimp only
    have D10 := D4.pick [4, 7, 8, 9, 10, 11, 12, 13, 20] 21
    simp only [pick, List.filterMap_cons, List.filterMap_nil, List.getElem?_cons_zero, List.getElem?_cons_succ, List.drop_succ_cons, List.drop_zero, List.cons_append, List.nil_append] at D10
    have D11 := D10.sub (l' := (Dn, listOf ys.toArray kk) :: l6 :: l5 :: l4 :: l3 :: (L + 1 + 1, oL) :: (L + 1, o1) :: (166, tabObj #[rawInt 221, rawInt 4, .ref c']) :: (c', oc) :: z) ((((((((((List.sublist_append_right r z).cons_cons _).cons_cons _).cons_cons _).cons_cons _).cons_cons _).cons_cons _).cons_cons _).cons_cons _).cons_cons _)
    skip
    refine asDrop (k := 12) rfl ?_
    exact next _ (((Str.ofString "read"), _) :: bb) _ _ _ c' oc oL (((Sm.mk (s := ⟨hp0, ge0, dr0, tk0, os0⟩) (h := hp0) (tk := tk0)).go _ _ |>.trans hs).trans hs6 |>.go _ _) hco hys2 m1 rfl D11
-- P19
noncomputable def maskR (P : Nat → Bool) (n : Nat) : List Int := ((List.range n).filter P).map fun k => (2 : Int) ^ (7 - k)
theorem maskR_snoc (P : Nat → Bool) (n : Nat) : maskR P (n + 1) = maskR P n ++ (if P n = true then [(2 : Int) ^ (7 - n)] else []) := by
  unfold maskR
  rw [seatsList_snoc (p := P) n]
  cases P n <;> simp
theorem filter_sum (P : Nat → Bool) (f : Nat → Int) : ∀ l : List Nat, ((l.filter P).map f).sum = (l.map fun k => if P k then f k else 0).sum
  | [] => rfl
  | a :: l => by
    rw [List.filter_cons, List.map_cons, List.sum_cons, ← filter_sum P f l]
    cases P a <;> simp
theorem emod_mul_ediv (y : Int) {a b : Int} (ha : 0 < a) : y % (a * b) / a = y / a % b := by
  rw [Int.emod_def, Int.emod_def, Int.sub_eq_add_neg, Int.mul_assoc, ← Int.mul_neg, Int.add_mul_ediv_left _ _ (Int.ne_of_gt ha), ← Int.sub_eq_add_neg, Int.ediv_ediv_of_nonneg (Int.le_of_lt ha)]
theorem low (x : Int) (n : Nat) : x % 2 ^ (n + 1) = x / 2 ^ n % 2 * 2 ^ n + x % 2 ^ n := by
  have h := Int.mul_ediv_add_emod (x % (2 ^ n * 2)) (2 ^ n)
  rw [emod_mul_ediv _ (pow2_pos n), Int.emod_emod_of_dvd _ (Int.dvd_mul_right _ 2), Int.mul_comm] at h
  rw [Int.pow_succ]
  exact h.symm
theorem oct_bits (X : Int) (h0 : 0 ≤ X) (h1 : X < 256) : (maskR (fun k => bit X (7 - k)) 8).sum = X := by
  unfold maskR
  rw [filter_sum]
  have e : ∀ n : Nat, (if bit X n = true then (2 : Int) ^ n else 0) = X / 2 ^ n % 2 * 2 ^ n := fun n => by
    unfold bit
    rcases Int.emod_two_eq (X / 2 ^ n) with h | h <;> rw [h] <;> simp
  simp only [e]
  have k : X = X % 2 ^ 8 := (Int.emod_eq_of_lt h0 h1).symm
  rw [low X 7, low X 6, low X 5, low X 4, low X 3, low X 2, low X 1, low X 0, Int.pow_zero, Int.emod_one] at k
  exact k.symm
theorem bit_mod (x : Int) (e : Nat) {n m : Nat} (h : m < n) : bit (x / 2 ^ e % 2 ^ n) m = bit x (e + m) := by
  unfold bit
  congr 1
  have hn : (2 : Int) ^ n = 2 ^ m * (2 * 2 ^ (n - m - 1)) := by
    rw [Int.mul_comm 2, ← Int.pow_succ, ← Int.pow_add]; congr 1; omega
  rw [hn, emod_mul_ediv _ (pow2_pos m), Int.emod_emod_of_dvd _ (Int.dvd_mul_right 2 _), Int.ediv_ediv_of_nonneg (Int.le_of_lt (pow2_pos e)), ← Int.pow_add]
noncomputable abbrev N3 (A B C : Int) : Int := A * 65536 + B * 256 + C
theorem V6_bits (A B C : Int) (k : Nat) : V6 A B C k = N3 A B C / 2 ^ (6 * (3 - k)) % 2 ^ 6 := by
  unfold V6
  rw [Int.pow_mul]; rfl
theorem nx3_bits {A B C : Int} (b0 : 0 ≤ B) (b1 : B < 256) (c0 : 0 ≤ C) (c1 : C < 256) (a0 : 0 ≤ A) (a1 : A < 256) : ∀ j, j < 3 → nx3 A B C j = N3 A B C / 2 ^ (8 * (2 - j)) % 2 ^ 8
  | 0, _ => nx3_0 b0 b1 c0 c1 a0 a1
  | 1, _ => (nx3_12 b0 b1 c0 c1).1
  | 2, _ => (nx3_12 b0 b1 c0 c1).2
theorem oct_bit {A B C : Int} (a0 : 0 ≤ A) (a1 : A < 256) (b0 : 0 ≤ B) (b1 : B < 256) (c0 : 0 ≤ C) (c1 : C < 256) {j k : Nat} (hj : j < 3) (hk : k < 8) : matV (V6 A B C) ((8 * j + k) / 6) ((8 * j + k) % 6) = bit (nx3 A B C j) (7 - k) := by
  rw [nx3_bits b0 b1 c0 c1 a0 a1 j hj, bit_mod _ _ (by omega)]
  unfold matV
  have e : ∀ j, j < 3 → ∀ k, k < 8 → 5 - (8 * j + k) % 6 < 6 ∧ 6 * (3 - (8 * j + k) / 6) + (5 - (8 * j + k) % 6) = 8 * (2 - j) + (7 - k) := by decide
  rw [V6_bits, bit_mod _ _ (e j hj k hk).1, (e j hj k hk).2]
theorem nx3_in {A B C : Int} (a0 : 0 ≤ A) (a1 : A < 256) (b0 : 0 ≤ B) (b1 : B < 256) (c0 : 0 ≤ C) (c1 : C < 256) (j : Nat) : 0 ≤ nx3 A B C j ∧ nx3 A B C j < 256 := by
  match j with
  | 0 => exact ⟨a0, a1⟩
  | 1 => exact ⟨b0, b1⟩
  | _ + 2 => exact ⟨c0, c1⟩
theorem oct_sum {A B C : Int} (a0 : 0 ≤ A) (a1 : A < 256) (b0 : 0 ≤ B) (b1 : B < 256) (c0 : 0 ≤ C) (c1 : C < 256) {j : Nat} (hj : j < 3) : (maskR (fun k => matV (V6 A B C) ((8 * j + k) / 6) ((8 * j + k) % 6)) 8).sum = nx3 A B C j := by
  have h := nx3_in a0 a1 b0 b1 c0 c1 j
  rw [← oct_bits _ h.1 h.2]
  congr 1
  unfold maskR
  congr 1
  refine List.filter_congr fun k hk => ?_
  rw [oct_bit a0 a1 b0 b1 c0 c1 hj (List.mem_range.mp hk)]
/-- the four rows, end to end -/
noncomputable def signsT (c0 c1 : Nat) (M : Nat → Nat → Bool) : List Nat := ((List.range 4).map fun g => (List.range 6).map fun s => sel c0 c1 (M g s)).flatten
theorem signs_at (c0 c1 : Nat) (M : Nat → Nat → Bool) {p : Nat} (h : p < 24) : (signsT c0 c1 M)[p]? = some (sel c0 c1 (M (p / 6) (p % 6))) := by
  have a : AllN (fun p => (signsT c0 c1 M)[p]? = some (sel c0 c1 (M (p / 6) (p % 6)))) 24 := by
    iterate 24 refine And.intro ?_ rfl
    trivial
  exact a.get p h
theorem one_sel {c0 c1 : Nat} (h : c0 ≠ c1) (b : Bool) : (one (sel c0 c1 b) == one c1) = b := by
  cases b with
  | true => exact beq_self_eq_true _
  | false => exact one_beq_false rfl h
theorem list3 (a b c : UInt8) : (#[a, b, c] : Array UInt8).toList.map (fun x => (x.toNat : Int)) = (List.range 3).map (nx3 (a.toNat : Int) (b.toNat : Int) (c.toNat : Int)) := rfl
theorem rows_of {c0 c1 : Nat} {V : Nat → Int} {rs : List Value} (h : StrsAre rs ((words c0 c1 V ++ [[]]).map strOf)) : RowsAre c0 c1 (matV V) (rs.take 4) := by
  have := StrsAre.take' h 4
  exact this
theorem cols_of {c0 c1 : Nat} {V : Nat → Int} {rs : List Value} (h : StrsAre rs ((words c0 c1 V ++ [[]]).map strOf)) : ColsAre c0 c1 (matV V) ((rs.take 10).drop 4) := by
  have := StrsAre.drop' (StrsAre.take' h 10) 4
  have e : (((words c0 c1 V ++ [[]]).map strOf).take 10).drop 4 = ((List.range 6).map fun j => word c0 c1 (fig V j) 4).map strOf := rfl
  rw [e] at this
  unfold ColsAre
  have e2 : ((List.range 6).map fun s => strOf ((List.range 4).map fun g => sel c0 c1 (matV V g s))) = ((List.range 6).map fun j => word c0 c1 (fig V j) 4).map strOf := by
    rw [List.map_map]
    refine List.map_congr_left fun s _ => ?_
    show strOf (colW c0 c1 (matV V) s) = strOf (word c0 c1 (fig V s) 4)
    rw [word_col]
  rw [e2]
  exact this
theorem unpack2C {w : World} {g : Heap} {A : Around} {s : Shared} {L : Addr} {m : Str → Option Value} {l : Lgr} {E : Value → Shared → Prop} {x y : Str} {px py pos : Pos} {k0 : Nat} {env : Env} {T : Addr} {o : Obj} {a b : Value} {n i : Nat} {Q : Unit → Shared → Prop} (hh : A.handled = none) (D : Led g L m s.heap l) (hi : l[i]? = some (T, o)) (hc : o.cls = .type "tuple") (hd : o.data = .seq #[a, b] n)
    (h : ∀ h', Led g L m h' l → wpAny (model Pg w) A (storeName env x a) (fun _ s₂ => wpAny (model Pg w) A (storeName env y b) Q E s₂) E { s with heap := h' }) : wpAny (model Pg w) A (assign (.Tuple [.Name x px, .Name y py] k0 pos) env (.ref T)) Q E s := by
  refine wpAny_assign_Tuple hh ⟨o, D.at hi, hc, n, hd⟩ rfl rfl fun h' hx' => ?_
  have D1 : Led g L m h' l := D.keeps fun c oc e => hx' c oc (Nat.ne_of_lt (Heap.lt_size e)) e
  refine wpAny_assignInOrder_more (wpAny_assign_Name (wpAny_mono (h h' D1) (fun _ s₂ h2 => ?_) fun _ _ e => e))
  exact wpAny_assignInOrder_more (wpAny_assign_Name (wpAny_mono h2 (fun _ s₃ h3 => wpAny_assignInOrder_none h3) fun _ _ e => e))
-- L5
theorem law_5 {w : World} {g : Heap} (G : Gd w g) {L fa ra : Addr} {cd : Value} {rs : List Value} {rn : Nat} {c0 c1 : Nat} {A : Around} {s : Shared} {z : Lgr} {o1 o3 o4 o5 : Obj} {v3 v4 v5 : Option Value} {vo : Value} {l6 l2 : Addr × Obj} {Q : Flow → Shared → Prop} {bb : List (Str × Value)} {V : Nat → Int} (ar' : Ar A 12)
    (d3 : o3.data = .cell v3) (d4 : o4.data = .cell v4) (d5 : o5.data = .cell v5) (hrs : StrsAre rs ((words c0 c1 V ++ [[]]).map strOf))
    (m1 : mp bb (Str.ofString "octets") = some vo) (m2 : mp bb (Str.ofString "read") = some (.ref ra))
    (D : Led g L (mp bb) s.heap ((ra, listOf rs.toArray rn) :: l6 :: (L + 1 + 1 + 1 + 1 + 1, o5) :: (L + 1 + 1 + 1 + 1, o4) :: (L + 1 + 1 + 1, o3) :: l2 :: (L + 1, o1) :: z))
    (next : ∀ (s' : Shared) (bb : List (Str × Value)) (rA cA : Addr) (ir ic : List Value) (nr nc : Nat) (o3' o4' o5' : Obj) (tt : Tok), Sm s s' → RowsAre c0 c1 (matV V) ir → ColsAre c0 c1 (matV V) ic → o3'.data = .cell (some (.ref rA)) → o4'.data = .cell (some (.ref cA)) → o5'.data = .cell (some (.str (strOf (signsT c0 c1 (matV V))) tt)) →
      mp bb (Str.ofString "octets") = some vo →
      Led g L (mp bb) s'.heap ((rA, listOf ir.toArray nr) :: (cA, listOf ic.toArray nc) :: l6 :: (L + 1 + 1 + 1 + 1 + 1, o5') :: (L + 1 + 1 + 1 + 1, o4') :: (L + 1 + 1 + 1, o3') :: l2 :: (L + 1, o1) :: z) →
      wpAny (model Pg w) A (execs (lawFd.body.drop 14) (lawEnv L fa cd)) Q NoE s') :
    wpAny (model Pg w) A (execs (lawFd.body.drop 12) (lawEnv L fa cd)) Q NoE s := by
  dsimp only [lawFd, fdOf, List.drop_succ_cons, List.drop_zero]
  obtain ⟨hp0, ge0, dr0, tk0, os0⟩ := s
  dsimp only at D
  have hrl := hrs.len_eq
  rw [List.length_map, List.length_append, words_len] at hrl
  w_strict (walk1; k_fold; (iterate 10 walk1))
  (try dsimp only)
  rename Led _ _ _ _ _ => D
  refine' sliceLL (s := ⟨_, _, _, _, _⟩) (lo := none) (hi := some ((4 : Nat) : Int)) D at0 ?p1 ?p2 ?p3 (pick_take _ _) ?_ ?p5 ?p6
  case p1 => exact .none
  case p2 => exact .int _ _
  case p3 => rw [hrl]; exact Nat.le_of_ble_eq_true rfl
  case p5 => with_unfolding_all rfl
  case p6 => intro _; with_unfolding_all rfl
  intro rA h1 D1
  clear D
  w_strict ((iterate 9 walk1))
  (try dsimp only)
  rename Led _ _ _ _ _ => D1
  refine' sliceLL (s := ⟨_, _, _, _, _⟩) (lo := some ((4 : Nat) : Int)) (hi := some ((10 : Nat) : Int)) D1 at1 ?p1 ?p2 ?p3 (pick_run _ _ _ ?p4) ?_ ?p5 ?p6
  case p1 => exact .int _ _
  case p2 => exact .int _ _
  case p3 => rw [hrl]; exact Nat.le_of_ble_eq_true rfl
  case p4 => rw [hrl]; exact Nat.le_of_ble_eq_true rfl
  case p5 => with_unfolding_all rfl
  case p6 => intro _; with_unfolding_all rfl
  intro cA h2 D2
  clear D1
  have hR := rows_of hrs
  have hC := cols_of hrs
  generalize rs.take 4 = ir at *
  generalize (rs.take 10).drop 4 = ic at *
  w_strict ((iterate 2 walk1))
  (try dsimp only)
  rename Led _ _ _ _ _ => D2
  refine unpack2C ar'.hh D2 at0 rfl rfl fun h4 D3 => ?_
  clear D2
  w_strict ((iterate 2 walk1); dsimp only [qk]; clear qk; (try clear ek); walk1; k_fold; (iterate 8 walk1))
  (try dsimp only)
  rename Led _ _ _ _ _ => D3
  rename Obj.data _ = Data.cell (some (Value.ref rA)) => ho3
  rename Obj.data _ = Data.cell (some (Value.ref cA)) => ho4
  refine joinP (ps := (List.range 4).map fun g => (List.range 6).map fun s => sel c0 c1 (matV V g s)) D3 at2 hR (Nat.le_of_ble_eq_true rfl) fun t5 k5 => ?_
  w_strict (first | walk1 | (dsimp only; walk1))
  try dsimp only
  rename Led _ _ _ _ _ => D
  rename Obj.data _ = Data.cell (some (Value.str _ _)) => ho5
  have D10 := D.pick [2, 1] 4
  simp only [pick, List.filterMap_cons, List.filterMap_nil, List.getElem?_cons_zero, List.getElem?_cons_succ, List.drop_succ_cons, List.drop_zero, List.cons_append, List.nil_append] at D10
  refine asDrop (k := 14) rfl ?_
  exact next _ bb rA cA ir ic 0 0 _ _ _ _ ((Sm.mk (s := ⟨hp0, ge0, dr0, tk0, os0⟩) (h := hp0) (tk := tk0)).go _ _) hR hC ho3 ho4 ho5 m1 D10
-- L6
theorem law_6 {w : World} {g : Heap} (G : Gd w g) {L fa : Addr} {cd : Value} {a b c : UInt8} {c0 c1 : Nat} {A : Around} {s : Shared} {z : Lgr} {o1 o5 : Obj} {t1 t2 t5 : Tok} {l8 l7 l6 l4 l3 l2 : Addr × Obj} {Q : Flow → Shared → Prop} {bb : List (Str × Value)} {V : Nat → Int} (ar' : Ar A 12)
    (hV : V = V6 (a.toNat : Int) (b.toNat : Int) (c.toNat : Int)) (h01 : c0 ≠ c1) (d1 : o1.data = .cell (some (.str ⟨#[c0, c1]⟩ t2))) (d5 : o5.data = .cell (some (.str (strOf (signsT c0 c1 (matV V))) t5)))
    (m1 : mp bb (Str.ofString "octets") = some (.bytes #[a, b, c] t1))
    (D : Led g L (mp bb) s.heap (l8 :: l7 :: l6 :: (L + 1 + 1 + 1 + 1 + 1, o5) :: l4 :: l3 :: l2 :: (L + 1, o1) :: z))
    (next : ∀ (s' : Shared), Sm s s' → Led g L (mp bb) s'.heap (l8 :: l7 :: l6 :: (L + 1 + 1 + 1 + 1 + 1, o5) :: l4 :: l3 :: l2 :: (L + 1, o1) :: z) → wpAny (model Pg w) A (execs (lawFd.body.drop 15) (lawEnv L fa cd)) Q NoE s') :
    wpAny (model Pg w) A (execs (lawFd.body.drop 14) (lawEnv L fa cd)) Q NoE s := by
  dsimp only [lawFd, fdOf, List.drop_succ_cons, List.drop_zero]
  obtain ⟨hp0, ge0, dr0, tk0, os0⟩ := s
  dsimp only at D
  have hsl : (strOf (signsT c0 c1 (matV V))).length = 24 := by rw [len_strOf]; rfl
  w_strict (walk1; k_fold; (iterate 2 walk1))
  (try dsimp only)
  rename Led _ _ _ _ _ => D
  refine' compEC (g := g) (cl := [((Str.ofString "signs"), L + 1 + 1 + 1 + 1 + 1), ((Str.ofString "pair"), L + 1)]) (y := (Str.ofString "j")) ?a1 ?a2 ?a3 ?a4 ?a5 ?a6 ?_
  case a1 => kernel_rfl!
  case a2 => intro _; exact rfl
  case a3 => intro _; exact rfl
  case a4 => exact rfl
  case a5 => decide
  case a6 => intro _; exact rfl
  w_strict ((iterate 7 walk1))
  (try dsimp only)
  rename Led _ _ _ _ _ => D
  refine it_range (n := 3) ar'.hh D at0 (by decide) (by decide) fun I p s' hs D2 Y Sf => ?_
  refine CompAtC.mk (n := 3) (l := _) (p := p) (fun C i ys l => ∃ oc vc, oc.data = .cell vc ∧ l = (C + 1, oc) :: _ ∧ IntsAre ys ((List.range i).map (nx3 (a.toNat : Int) (b.toNat : Int) (c.toNat : Int)))) ?_ (by decide) (Y _ _) Sf (fun C => ⟨_, none, rfl, rfl, .nil⟩) D2 ?_ ?_
  · rintro C i ys l ⟨oc, vc, _, rfl, hy⟩
    refine ⟨?_, fun e he => nomatch he⟩
    rw [hy.length, List.length_map, List.length_range]; exact Nat.le_refl _
  · intro C i hi3
    refine turnOf fun vv q b2 ys l s2 tl hv hJ hs2 D3 => ?_
    obtain ⟨⟨t6, rfl⟩, rfl⟩ := hv
    obtain ⟨oc, vc, hoc, rfl, hys⟩ := hJ
    rw [zero_one]
    clear D D2
    dsimp only [List.cons_append, List.nil_append] at D3
    w_strict ((iterate 8 walk1))
    (try dsimp only)
    rename Led _ _ _ _ _ => D
    rename Obj.data _ = Data.cell (some (Value.int _ _)) => hoj
    rename Obj => oj
    refine' compE (g := g) (cl := [((Str.ofString "signs"), L + 1 + 1 + 1 + 1 + 1), ((Str.ofString "pair"), L + 1), ((Str.ofString "j"), C + 1)]) ?a1 ?a2 ?a3 ?a4 ?a5 ?_
    case a1 => kernel_rfl!
    case a2 => decide
    case a3 => exact rfl
    case a4 => decide
    case a5 => intro _; exact rfl
    w_strict ((iterate 7 walk1))
    (try dsimp only)
    rename Led _ _ _ _ _ => D
    refine it_range (n := 8) ar'.hh D at0 (by decide) (by decide) fun I2 p2 s7 hs7 D6 Y2 Sf2 => ?_
    refine CompAt.mk (n := 8) (l := _) (p := p2) (fun k us l => l = _ ∧ IntsAre us (maskR (fun k => matV V ((8 * i + k) / 6) ((8 * i + k) % 6)) k)) ?_ (by decide) (Y2 _ _) Sf2 ⟨rfl, .nil⟩ D6 ?_ ?_
    · rintro k us l ⟨rfl, hy⟩
      refine ⟨?_, fun e he => nomatch he⟩
      have h1 := hy.length
      have h2 := List.length_filter_le (fun k => matV V ((8 * i + k) / 6) ((8 * i + k) % 6)) (List.range k)
      rw [List.length_range] at h2
      rw [maskR, List.length_map] at h1
      omega
    · intro C2 k hk
      refine turnOf fun vv q b3 us l s8 tl2 hv hJ hs8 D7 => ?_
      obtain ⟨⟨t8, rfl⟩, rfl⟩ := hv
      obtain ⟨rfl, hus⟩ := hJ
      rw [zero_one]
      clear D D6
      dsimp only [List.cons_append, List.nil_append] at D7
      have hcmp : (Txt.item (strOf (signsT c0 c1 (matV V))) (8 * (i : Int) + (k : Int)) == Txt.item ⟨#[c0, c1]⟩ 1) = matV V ((8 * i + k) / 6) ((8 * i + k) % 6) := by
        rw [show (8 * (i : Int) + (k : Int)) = ((8 * i + k : Nat) : Int) from rfl, item_at (signs_at c0 c1 (matV V) (p := 8 * i + k) (by omega))]
        exact one_sel h01 _
      cases hM : matV V ((8 * i + k) / 6) ((8 * i + k) % 6) with
      | true =>
        rw [hM] at hcmp
        w_strict ((iterate 28 walk1))
        (try dsimp only)
        rename Led _ _ _ _ _ => D
        refine ⟨_, _, ⟨rfl, ?_⟩, hs8.go _ _, D⟩
        rw [maskR_snoc, hM, if_pos rfl, show (7 - (k : Int)).toNat = 7 - k from Int.toNat_sub 7 k]
        exact intsAre_append hus (.cons _ _ .nil)
      | false =>
        rw [hM] at hcmp
        w_strict ((iterate 21 walk1))
        (try dsimp only)
        rename Led _ _ _ _ _ => D
        refine ⟨_, _, ⟨rfl, ?_⟩, hs8.go _ _, D⟩
        rw [maskR_snoc, hM, if_neg (by decide), List.append_nil]
        exact hus
    · intro Dn us kk l s8 hJ hs8 D7
      obtain ⟨rfl, hus⟩ := hJ
      clear D D6
      have hsum := oct_sum (A := (a.toNat : Int)) (B := (b.toNat : Int)) (C := (c.toNat : Int)) (Int.natCast_nonneg _) (by have := a.toNat_lt; omega) (Int.natCast_nonneg _) (by have := b.toNat_lt; omega) (Int.natCast_nonneg _) (by have := c.toNat_lt; omega) hi3
      rw [← hV] at hsum
      w_strict ((iterate 2 walk1))
      (try dsimp only)
      rename Led _ _ _ _ _ => D
      refine ⟨_, _, ⟨oj, _, hoj, rfl, ?_⟩, ((hs2.go _ _).trans hs7).trans hs8 |>.go _ _, D.drops 2⟩
      rw [map_snoc_range, ← hsum]
      exact intsAre_append hys (.cons _ _ .nil)
  · intro C Dn ys kk l s8 hJ hs8 D7
    obtain ⟨oc, vc, hoc, rfl, hys⟩ := hJ
    clear D D2
    obtain ⟨hp1, ge1, dr1, tk1, os1⟩ := s8
    dsimp only at D7
    w_strict ((iterate 6 walk1))
    (try dsimp only)
    rename Led _ _ _ _ _ => D
    refine listBy ar'.hh D (Nat.le_of_ble_eq_true rfl) fun la h9 tk9 its9 n9 hi9 D9 => ?_
    rw [list3] at hi9
    clear D
    refine neII D9 at1 at0 hys hi9 (by have := ar'.un; omega) ?_
    iterate 3 (w_strict (first | walk1 | (dsimp only; walk1)))
    try dsimp only
    have D10 := D9.drops 4
    refine asDrop (k := 15) rfl ?_
    exact next _ (((Sm.mk (s := ⟨hp0, ge0, dr0, tk0, os0⟩) (h := hp0) (tk := tk0)).go _ _ |>.trans hs).trans hs8 |>.go _ _) D10
-- L7
theorem law_7 {w : World} {g : Heap} (G : Gd w g) {L fa rA cA : Addr} {cd : Value} {ir ic : List Value} {nr nc : Nat} {c0 c1 : Nat} {A : Around} {s : Shared} {z : Lgr} {o3 o4 : Obj} {l6 l5 l2 l1 : Addr × Obj} {Q : Flow → Shared → Prop} {bb : List (Str × Value)} {M : Nat → Nat → Bool} (ar' : Ar A 12)
    (h0 : c0 < 128) (h1 : c1 < 128) (hr : RowsAre c0 c1 M ir) (hc : ColsAre c0 c1 M ic) (d3 : o3.data = .cell (some (.ref rA))) (d4 : o4.data = .cell (some (.ref cA)))
    (D : Led g L (mp bb) s.heap ((rA, listOf ir.toArray nr) :: (cA, listOf ic.toArray nc) :: l6 :: l5 :: (L + 1 + 1 + 1 + 1, o4) :: (L + 1 + 1 + 1, o3) :: l2 :: l1 :: z))
    (next : ∀ (s' : Shared), Sm s s' → Led g L (mp bb) s'.heap ((rA, listOf ir.toArray nr) :: (cA, listOf ic.toArray nc) :: l6 :: l5 :: (L + 1 + 1 + 1 + 1, o4) :: (L + 1 + 1 + 1, o3) :: l2 :: l1 :: z) → wpAny (model Pg w) A (execs (lawFd.body.drop 16) (lawEnv L fa cd)) Q NoE s') :
    wpAny (model Pg w) A (execs (lawFd.body.drop 15) (lawEnv L fa cd)) Q NoE s := by
  dsimp only [lawFd, fdOf, List.drop_succ_cons, List.drop_zero]
  obtain ⟨hp0, ge0, dr0, tk0, os0⟩ := s
  dsimp only at D
  have hrl := hr.len_eq
  rw [List.length_map, List.length_range] at hrl
  w_strict (walk1; k_fold; (iterate 3 walk1))
  (try dsimp only)
  rename Led _ _ _ _ _ => D
  refine' compEC (g := g) (cl := [((Str.ofString "rows"), L + 1 + 1 + 1)]) (y := (Str.ofString "j")) ?a1 ?a2 ?a3 ?a4 ?a5 ?a6 ?_
  case a1 => kernel_rfl!
  case a2 => intro _; exact rfl
  case a3 => intro _; exact rfl
  case a4 => exact rfl
  case a5 => decide
  case a6 => intro _; exact rfl
  w_strict ((iterate 7 walk1))
  (try dsimp only)
  rename Led _ _ _ _ _ => D
  refine it_range (n := 6) ar'.hh D at0 (by decide) (by decide) fun I p s' hs D2 Y Sf => ?_
  refine CompAtC.mk (n := 6) (l := _) (p := p) (fun C i ys l => ∃ oc vc, oc.data = .cell vc ∧ l = (C + 1, oc) :: _ ∧ StrsAre ys (((List.range i).map (colW c0 c1 M)).map strOf)) ?_ (by decide) (Y _ _) Sf (fun C => ⟨_, none, rfl, rfl, .nil⟩) D2 ?_ ?_
  · rintro C i ys l ⟨oc, vc, _, rfl, hy⟩
    refine ⟨?_, fun e he => nomatch he⟩
    rw [hy.len_eq, List.length_map, List.length_map, List.length_range]; exact Nat.le_refl _
  · intro C i hi6
    refine turnOf fun vv q b2 ys l s2 tl hv hJ hs2 D3 => ?_
    obtain ⟨⟨t6, rfl⟩, rfl⟩ := hv
    obtain ⟨oc, vc, hoc, rfl, hys⟩ := hJ
    rw [show (0 + (i : Int) * 1) = (i : Int) by omega]
    clear D D2
    dsimp only [List.cons_append, List.nil_append] at D3
    w_strict ((iterate 9 walk1))
    (try dsimp only)
    rename Led _ _ _ _ _ => D
    rename Obj.data _ = Data.cell (some (Value.int _ _)) => hoj
    rename Obj => oj
    refine' compE (g := g) (cl := [((Str.ofString "j"), C + 1)]) ?a1 ?a2 ?a3 ?a4 ?a5 ?_
    case a1 => kernel_rfl!
    case a2 => decide
    case a3 => exact rfl
    case a4 => decide
    case a5 => intro _; exact rfl
    w_strict (walk1)
    (try dsimp only)
    rename Led _ _ _ _ _ => D
    refine it_list ar'.hh D at2 rfl fun I2 p2 s7 hs7 D6 Y2 Sf2 => ?_
    rw [hrl] at Y2
    refine CompAt.mk (n := 4) (l := _) (p := p2) (fun k us l => l = _ ∧ StrsAre us ((((List.range k).map fun g => sel c0 c1 (M g i))).map one)) ?_ (by decide) (Y2 _ _) Sf2 ⟨rfl, .nil⟩ D6 ?_ ?_
    · rintro k us l ⟨rfl, hy⟩
      refine ⟨?_, fun e he => by rw [List.mem_singleton.mp he]; simp⟩
      rw [hy.len_eq, List.length_map, List.length_map, List.length_range]; exact Nat.le_refl _
    · intro C2 k hk
      refine turnOf fun vv q b3 us l s8 tl2 hv hJ hs8 D7 => ?_
      obtain ⟨hvv, rfl⟩ := hv
      obtain ⟨rfl, hus⟩ := hJ
      obtain ⟨t9, rfl⟩ : ∃ t9, vv = .str (strOf ((List.range 6).map fun s => sel c0 c1 (M k s))) t9 := by
        obtain ⟨t9, h⟩ := hr.at (j := k) (y := strOf ((List.range 6).map fun s => sel c0 c1 (M k s))) (by rw [List.getElem?_map, List.getElem?_range hk]; rfl)
        rw [hvv] at h
        exact ⟨t9, Option.some.inj h⟩
      clear D D6
      dsimp only [List.cons_append, List.nil_append] at D7
      have hit : Txt.item (strOf ((List.range 6).map fun s => sel c0 c1 (M k s))) (i : Int) = one (sel c0 c1 (M k i)) := item_at (range_at _ hi6)
      have hl6 : (strOf ((List.range 6).map fun s => sel c0 c1 (M k s))).length = 6 := by rw [len_strOf]; rfl
      w_strict ((iterate 8 walk1))
      (try dsimp only)
      rename Led _ _ _ _ _ => D
      rw [hit]
      refine ⟨_, _, ⟨rfl, ?_⟩, hs8.go _ _, D⟩
      rw [map_snoc_range, List.map_append, List.map_singleton]
      exact StrsAre.snoc hus
    · intro Dn us kk l s8 hJ hs8 D7
      obtain ⟨rfl, hus⟩ := hJ
      clear D D6
      w_strict (walk1)
      (try dsimp only)
      rename Led _ _ _ _ _ => D
      refine joinO D at0 hus (Nat.le_of_ble_eq_true rfl) fun t11 k11 => ?_
      refine ⟨_, _, ⟨oj, _, hoj, rfl, ?_⟩, ((hs2.go _ _).trans hs7).trans hs8 |>.go _ _, D.drops 1⟩
      rw [show (List.range 4).map (fun g => sel c0 c1 (M g i)) = colW c0 c1 M i from rfl, map_snoc_range (colW c0 c1 M) i, List.map_append, List.map_singleton]
      exact StrsAre.snoc hys
  · intro C Dn ys kk l s8 hJ hs8 D7
    obtain ⟨oc, vc, hoc, rfl, hys⟩ := hJ
    clear D D2
    obtain ⟨hp1, ge1, dr1, tk1, os1⟩ := s8
    dsimp only at D7
    w_strict (skip)
    (try dsimp only)
    rename Led _ _ _ _ _ => D
    refine neSS (W := (List.range 6).map (colW c0 c1 M)) D at4 at0 hc hys ?_ (by have := ar'.un; omega) ?_
    · intro v hv
      obtain ⟨j, _, rfl⟩ := List.mem_map.mp hv
      exact colW_all h0 h1 M j
    iterate 3 (w_strict (first | walk1 | (dsimp only; walk1)))
    try dsimp only
    have D10 := D.drops 3
    refine asDrop (k := 16) rfl ?_
    exact next _ (((Sm.mk (s := ⟨hp0, ge0, dr0, tk0, os0⟩) (h := hp0) (tk := tk0)).go _ _ |>.trans hs).trans hs8 |>.go _ _) D10
-- L8
theorem star_in {c : Nat} (h : c ∈ [42, 63, 91]) : (Builtin.Str.occurrences (Str.ofString "*?[") (one c) 0 (Str.ofString "*?[").length 1).isEmpty = false := by
  have key : ∀ c ∈ [42, 63, 91], (Builtin.Str.occurrences (Str.ofString "*?[") (one c) 0 (Str.ofString "*?[").length 1).isEmpty = false := by decide +kernel
  exact key c h
theorem star_out {c : Nat} (h : c ∈ [97, 33, 34, 93, 45, 46, 94, 126, 38, 35, 32, 92, 10]) : (Builtin.Str.occurrences (Str.ofString "*?[") (one c) 0 (Str.ofString "*?[").length 1).isEmpty = true := by
  have key : ∀ c ∈ [97, 33, 34, 93, 45, 46, 94, 126, 38, 35, 32, 92, 10], (Builtin.Str.occurrences (Str.ofString "*?[") (one c) 0 (Str.ofString "*?[").length 1).isEmpty = true := by decide +kernel
  exact key c h
theorem zp_in {c : Nat} (h : c ∈ [42, 63, 91]) : Str.ofString "[" ++ one c ++ Str.ofString "]" = strOf (zp c) := by
  simp only [List.mem_cons, List.not_mem_nil, or_false] at h
  rw [zp, if_pos h, br_lit, cb_lit]; rfl
theorem zp_out {c : Nat} (h : c ∈ [97, 33, 34, 93, 45, 46, 94, 126, 38, 35, 32, 92, 10]) : one c = strOf (zp c) := by
  have n : ¬ (c = 42 ∨ c = 63 ∨ c = 91) := by rintro (rfl | rfl | rfl) <;> revert h <;> decide
  rw [zp, if_neg n]; rfl
theorem law_8 {w : World} {g : Heap} (G : Gd w g) {L fa rA c' : Addr} {cd : Value} {ir : List Value} {nr : Nat} {c0 c1 : Nat} {A : Around} {s : Shared} {z : Lgr} {o1 o3 o6 oc : Obj} {v6 : Option Value} {t2 : Tok} {l5 l4 l2 : Addr × Obj} {Q : Flow → Shared → Prop} {bb : List (Str × Value)} {M : Nat → Nat → Bool} (ar' : Ar A 12)
    (hco : CodeOk oc) (h01 : c0 ≠ c1) (h0 : c0 < 128) (h1 : c1 < 128) (hc0 : c0 ∈ [97, 33, 34, 93, 45, 46, 94, 126, 38, 35, 32, 92, 10] ∨ c0 ∈ [42, 63, 91]) (hr : RowsAre c0 c1 M ir) (d1 : o1.data = .cell (some (.str ⟨#[c0, c1]⟩ t2))) (d3 : o3.data = .cell (some (.ref rA))) (d6 : o6.data = .cell v6)
    (D : Led g L (mp bb) s.heap ((rA, listOf ir.toArray nr) :: (166, tabObj #[rawInt 221, rawInt 4, .ref c']) :: (c', oc) :: (L + 1 + 1 + 1 + 1 + 1 + 1, o6) :: l5 :: l4 :: (L + 1 + 1 + 1, o3) :: l2 :: (L + 1, o1) :: z))
    (next : ∀ (s' : Shared) (bb : List (Str × Value)) (ha : Addr) (ih : List Value) (nh : Nat) (Hd : Nat → Option Nat) (o6' : Obj) (tt : Tok), Sm s s' → HoldsAre Hd ih → Good M 4 Hd → o6'.data = .cell (some (.str (strOf (zp c0)) tt)) → mp bb (Str.ofString "holders") = some (.ref ha) →
      Led g L (mp bb) s'.heap ((rA, listOf ir.toArray nr) :: (ha, listOf ih.toArray nh) :: (166, tabObj #[rawInt 221, rawInt 4, .ref c']) :: (c', oc) :: (L + 1 + 1 + 1 + 1 + 1 + 1, o6') :: l5 :: l4 :: (L + 1 + 1 + 1, o3) :: l2 :: (L + 1, o1) :: z) →
      wpAny (model Pg w) A (execs (lawFd.body.drop 18) (lawEnv L fa cd)) Q NoE s') :
    wpAny (model Pg w) A (execs (lawFd.body.drop 16) (lawEnv L fa cd)) Q NoE s := by
  dsimp only [lawFd, fdOf, List.drop_succ_cons, List.drop_zero]
  obtain ⟨hp0, ge0, dr0, tk0, os0⟩ := s
  dsimp only at D
  have hit1 : Txt.item ⟨#[c0, c1]⟩ 1 = one c1 := rfl
  have hit0 : Txt.item ⟨#[c0, c1]⟩ 0 = one c0 := rfl
  w_strict (walk1; k_fold; (iterate 13 walk1))
  (try dsimp only)
  rename Led _ _ _ _ _ => D
  rw [hit1]
  refine' useAt (z := _) (p := [(rA, listOf ir.toArray nr), (166, tabObj #[rawInt 221, rawInt 4, .ref c']), (c', oc)]) 0 (sp_seated G hco h01 h0 h1 hr) ?uD ?up ar' ?uk ?_
  case uD => exact D
  case up => exact rfl
  case uk => omega
  intro v h' tk l' D5 hv'
  obtain ⟨ha, ih, nh, Hd, rfl, hh, hgood, rfl⟩ := hv'
  simp only [List.take_zero, List.nil_append, List.cons_append] at D5
  clear D
  have D6 := D5.pick [1, 0] 2
  simp only [pick, List.filterMap_cons, List.filterMap_nil, List.getElem?_cons_zero, List.getElem?_cons_succ, List.drop_succ_cons, List.drop_zero, List.cons_append, List.nil_append] at D6
  clear D5
  w_strict (first | walk1 | (dsimp only; walk1))
  iterate 2 (w_strict (first | walk1 | (dsimp only; walk1)))
  rename Led _ _ _ _ _ => D
  rcases hc0 with hc0 | hc0
  · have hoc := star_out hc0
    rw [← hit0] at hoc
    w_strict (repeat' ((fail_if_success (with_reducible show wpAny _ _ (execs (_ :: _) _) _ _ _)); first | walk1 | (dsimp only; walk1)))
    try dsimp only
    rename Led _ _ _ _ _ => D
    rename Obj.data _ = Data.cell (some (Value.str _ _)) => ho6
    rename Obj => o6'
    rw [hit0, zp_out hc0] at ho6
    refine asDrop (k := 18) rfl ?_
    exact next _ (((Str.ofString "holders"), _) :: bb) ha ih nh Hd _ _ ((Sm.mk (s := ⟨hp0, ge0, dr0, tk0, os0⟩) (h := hp0) (tk := tk0)).go _ _) hh hgood ho6 rfl D
  · have hoc := star_in hc0
    rw [← hit0] at hoc
    w_strict (repeat' ((fail_if_success (with_reducible show wpAny _ _ (execs (_ :: _) _) _ _ _)); first | walk1 | (dsimp only; walk1)))
    try dsimp only
    rename Led _ _ _ _ _ => D
    rename Obj.data _ = Data.cell (some (Value.str _ _)) => ho6
    rename Obj => o6'
    rw [hit0, zp_in hc0] at ho6
    refine asDrop (k := 18) rfl ?_
    exact next _ (((Str.ofString "holders"), _) :: bb) ha ih nh Hd _ _ ((Sm.mk (s := ⟨hp0, ge0, dr0, tk0, os0⟩) (h := hp0) (tk := tk0)).go _ _) hh hgood ho6 rfl D
-- P20
theorem mask4 : ∀ a b c d : Bool, let S := ((((((if a then [0] else []) ++ (if b then [1] else [])) ++ (if c then [2] else [])) ++ (if d then [3] else [])) : List Nat).map fun k => (2 : Int) ^ k).sum
    (0 ≤ S ∧ S < 16) ∧ bit S 0 = a ∧ bit S 1 = b ∧ bit S 2 = c ∧ bit S 3 = d := by decide
theorem mask_bits (C : Nat → Bool) : 0 ≤ (mask C 4).sum ∧ (mask C 4).sum < 16 ∧ ∀ k, k < 4 → bit (mask C 4).sum k = C k := by
  have e : mask C 4 = (((((if C 0 then [0] else []) ++ (if C 1 then [1] else [])) ++ (if C 2 then [2] else [])) ++ (if C 3 then [3] else [])) : List Nat).map fun k => (2 : Int) ^ k := by
    unfold mask
    rw [seatsList_snoc, seatsList_snoc, seatsList_snoc, seatsList_snoc]; rfl
  rw [e]
  have h := mask4 (C 0) (C 1) (C 2) (C 3)
  exact ⟨h.1.1, h.1.2, fun k hk => AllN.get (P := fun k => bit _ k = C k) (n := 4) ⟨⟨⟨⟨trivial, h.2.1⟩, h.2.2.1⟩, h.2.2.2.1⟩, h.2.2.2.2⟩ k hk⟩
theorem num_congr {n : Nat} {p q : Nat → Bool} (h : ∀ x, x < n → p x = q x) : num n p = num n q := by
  unfold num
  rw [List.filter_congr fun x hx => h x (List.mem_range.mp hx)]
theorem ksum_congr (M : Nat → Nat → Bool) {X Y : Nat → Bool} (h : ∀ g, g < 4 → X g = Y g) : ksum M X = ksum M Y := by
  unfold ksum
  rw [num_congr fun g hg => by rw [h g hg]]
  congr 1
  refine num_congr fun s _ => ?_
  have : ∀ X, near M X s = ((X 0 && M 0 s) || ((X 1 && M 1 s) || ((X 2 && M 2 s) || ((X 3 && M 3 s) || false)))) := fun _ => rfl
  rw [this, this, h 0 (by decide), h 1 (by decide), h 2 (by decide), h 3 (by decide)]
noncomputable def sumK (M : Nat → Nat → Bool) (ch : Nat) : Int := ((ksum M (bit (ch : Int)) : Nat) : Int)
theorem least_eq {M : Nat → Nat → Bool} {Hd : Nat → Option Nat} {B : List Nat} (m : Mat M Hd) (hb : Brought M Hd 4 B) : sumK M (mask (fun k => decide (k ∈ B)) 4).sum.toNat = ((num 4 (sits Hd) : Nat) : Int) := by
  have hm := mask_bits fun k => decide (k ∈ B)
  unfold sumK
  rw [Int.toNat_of_nonneg hm.1, ksum_congr M hm.2.2, konig_eq m]
  · intro g hg hs
    exact decide_eq_true (hb.all g hg hs)
  · intro g _ hC s hs hM
    obtain ⟨g', h1, h2⟩ := hb.cl g (of_decide_eq_true hC) s hs hM
    exact ⟨g', decide_eq_true h1, h2⟩
theorem min_eq {M : Nat → Nat → Bool} {Hd : Nat → Option Nat} {v : Int} (m : Mat M Hd) {k : Nat} (hk : k < 16) (he : sumK M k = ((num 4 (sits Hd) : Nat) : Int)) (h1 : v ∈ (List.range 16).map (sumK M)) (h2 : ∀ a, a ∈ (List.range 16).map (sumK M) → v ≤ a) : v = ((num 4 (sits Hd) : Nat) : Int) := by
  have a1 := h2 _ (List.mem_map_of_mem (List.mem_range.mpr hk))
  rw [he] at a1
  obtain ⟨c, _, rfl⟩ := List.mem_map.mp h1
  have := konig_le m (bit (c : Int))
  unfold sumK at *
  omega
-- L9
theorem law_9 {w : World} {g : Heap} (G : Gd w g) {L fa rA cA ha c' : Addr} {cd : Value} {ir ic ih : List Value} {nr nc nh : Nat} {c0 c1 : Nat} {A : Around} {s : Shared} {z lt0 : Lgr} {o1 o3 o4 o6 oc : Obj} {t2 t6 : Tok} {l5 l2 : Addr × Obj} {Q : Flow → Shared → Prop} {bb : List (Str × Value)} {M : Nat → Nat → Bool} {Hd : Nat → Option Nat} (ar' : Ar A 12)
    (hco : CodeOk oc) (h01 : c0 ≠ c1) (h0 : c0 < 128) (h1 : c1 < 128) (hc0 : c0 ∈ [97, 33, 34, 93, 45, 46, 94, 126, 38, 35, 32, 92, 10] ∨ c0 ∈ [42, 63, 91]) (hr : RowsAre c0 c1 M ir) (hc : ColsAre c0 c1 M ic) (hh : HoldsAre Hd ih) (hgood : Good M 4 Hd) (hT0 : TabL 129 39 lt0)
    (d1 : o1.data = .cell (some (.str ⟨#[c0, c1]⟩ t2))) (d3 : o3.data = .cell (some (.ref rA))) (d4 : o4.data = .cell (some (.ref cA))) (d6 : o6.data = .cell (some (.str (strOf (zp c0)) t6))) (m1 : mp bb (Str.ofString "holders") = some (.ref ha))
    (D : Led g L (mp bb) s.heap ((rA, listOf ir.toArray nr) :: (ha, listOf ih.toArray nh) :: (166, tabObj #[rawInt 221, rawInt 4, .ref c']) :: (c', oc) :: (L + 1 + 1 + 1 + 1 + 1 + 1, o6) :: l5 :: (L + 1 + 1 + 1 + 1, o4) :: (L + 1 + 1 + 1, o3) :: l2 :: (L + 1, o1) :: (cA, listOf ic.toArray nc) :: (lt0 ++ z)))
    (next : ∀ (s' : Shared) (bb : List (Str × Value)) (lt l : Lgr), Sm s s' → TabL 129 39 lt → Led g L (mp bb) s'.heap ((166, tabObj #[rawInt 221, rawInt 4, .ref c']) :: (lt ++ l)) → Q (.ret (.bool true)) s') :
    wpAny (model Pg w) A (execs (lawFd.body.drop 18) (lawEnv L fa cd)) Q NoE s := by
  dsimp only [lawFd, fdOf, List.drop_succ_cons, List.drop_zero]
  obtain ⟨hp0, ge0, dr0, tk0, os0⟩ := s
  dsimp only at D
  have hit1 : Txt.item ⟨#[c0, c1]⟩ 1 = one c1 := rfl
  w_strict (walk1; k_fold)
  (try dsimp only)
  rename Led _ _ _ _ _ => D
  refine' compAs (g := g) (L := L) (cl := [((Str.ofString "zero"), L + 1 + 1 + 1 + 1 + 1 + 1), ((Str.ofString "columns"), L + 1 + 1 + 1 + 1)]) ?a0 ?a1 ?a2 ?a3 ?a4 ?a5 ?b0 ?b1 ?b2 ?_
  case a0 => exact rfl
  case a1 => kernel_rfl!
  case a2 => decide
  case a3 => exact rfl
  case a4 => decide
  case a5 => intro _; exact rfl
  case b0 => exact rfl
  case b1 => exact rfl
  case b2 => kernel_rfl!
  w_strict ((iterate 7 walk1))
  (try dsimp only)
  rename Led _ _ _ _ _ => D
  refine it_range (n := 16) ar'.hh D at0 (by decide) (by decide) fun I p s' hs D2 Y Sf => ?_
  refine CompAs.mk (n := 16) (l := _) (p := p) (fun i ys l => ∃ lt, TabL 129 39 lt ∧ IntsAre ys ((List.range i).map (sumK M)) ∧
    l = _ :: (rA, listOf ir.toArray nr) :: (ha, listOf ih.toArray nh) :: (166, tabObj #[rawInt 221, rawInt 4, .ref c']) :: (c', oc) :: (L + 1 + 1 + 1 + 1 + 1 + 1, o6) :: l5 :: (L + 1 + 1 + 1 + 1, o4) :: (L + 1 + 1 + 1, o3) :: l2 :: (L + 1, o1) :: (cA, listOf ic.toArray nc) :: (lt ++ z)) ?_ (by decide) (Y _ _) Sf ⟨lt0, hT0, .nil, rfl⟩ D2 ?_ ?_
  · rintro i ys l ⟨lt, _, hy, rfl⟩
    refine ⟨?_, fun e he => nomatch he⟩
    rw [hy.length, List.length_map, List.length_range]; exact Nat.le_refl _
  · intro C i hi
    refine turnOf fun vv q b2 ys l s2 tl hv hJ hs2 D3 => ?_
    obtain ⟨⟨t9, rfl⟩, rfl⟩ := hv
    obtain ⟨lt, hT1, hys, rfl⟩ := hJ
    rw [show (0 + (i : Int) * 1) = (i : Int) by omega]
    clear D D2
    dsimp only [List.cons_append, List.nil_append] at D3
    w_strict ((iterate 15 walk1))
    (try dsimp only)
    rename Led _ _ _ _ _ => D
    refine' useAt (z := z ++ tl) (p := (cA, listOf ic.toArray nc) :: lt) 11 (sp_sum G h01 h0 h1 hc0 hT1 hc) ?uD ?up ar' ?uk ?_
    case uD => exact D
    case up => simp only [List.drop_succ_cons, List.drop_zero, List.cons_append, List.append_assoc]
    case uk => omega
    intro v h' tk l' D6 hv'
    obtain ⟨lt', hT2, ⟨t7, rfl⟩, rfl⟩ := hv'
    simp only [List.take_succ_cons, List.take_zero, List.cons_append, List.nil_append, ← List.append_assoc] at D6
    clear D
    try dsimp only
    refine ⟨_, _, ⟨lt', hT2, ?_, rfl⟩, hs2.go _ _, D6⟩
    rw [map_snoc_range]
    exact intsAre_append hys (.cons _ _ .nil)
  · intro Dn ys kk l s6 hJ hs6 D3
    obtain ⟨lt, hT1, hys, rfl⟩ := hJ
    clear D D2
    obtain ⟨hp1, ge1, dr1, tk1, os1⟩ := s6
    (try dsimp only [List.cons_append, List.nil_append] at D3 ⊢)
    w_strict (dsimp only [qk]; clear qk; (try clear ek); walk1; k_fold; (iterate 17 walk1))
    (try dsimp only)
    rename Led _ _ _ _ _ => D
    rw [hit1]
    refine' useAt (z := _) (p := [(rA, listOf ir.toArray nr), (ha, listOf ih.toArray nh), (166, tabObj #[rawInt 221, rawInt 4, .ref c']), (c', oc)]) 2 (sp_choice G hco h01 h0 h1 hgood hr hh) ?uD ?up ar' ?uk ?_
    case uD => exact D
    case up => exact rfl
    case uk => omega
    intro v h' tk l' D6 hv'
    obtain ⟨⟨B, t7, hB, rfl⟩, rfl⟩ := hv'
    simp only [List.take_succ_cons, List.take_zero, List.cons_append, List.nil_append] at D6
    clear D
    have hm := mask_bits fun k => decide (k ∈ B)
    have hleast := least_eq hgood.mat hB
    have hk16 : (mask (fun k => decide (k ∈ B)) 4).sum.toNat < 16 := by omega
    refine itemI D6 at0 hys hm.1 (by omega) (range_at _ hk16) fun t8 => ?_
    rw [hleast]
    have D7 := D6.pick [0, 8, 11, 4, 12, 3] 13
    simp only [pick, List.filterMap_cons, List.filterMap_nil, List.getElem?_cons_zero, List.getElem?_cons_succ, List.drop_succ_cons, List.drop_zero, List.cons_append, List.nil_append] at D7
    clear D6
    w_strict (walk1; dsimp only [qk]; clear qk; (try clear ek); walk1; k_fold; (iterate 16 walk1))
    (try dsimp only)
    rename Led _ _ _ _ _ => D7
    rw [hit1]
    refine' useAt (z := _) (p := [(cA, listOf ic.toArray nc), (ha, listOf ih.toArray nh)]) 4 (sp_count G hgood.mat hc hh) ?uD ?up ar' ?uk ?_
    case uD => exact D7
    case up => exact rfl
    case uk => omega
    intro v h' tk l' D8 hv'
    obtain ⟨⟨t9, rfl⟩, rfl⟩ := hv'
    simp only [List.take_succ_cons, List.take_zero, List.cons_append, List.nil_append] at D8
    clear D7
    w_strict (walk_at "mine go")
    all_goals (try dsimp only)
    all_goals (rename (_ ∈ List.map (sumK M) (List.range 16)) => q1; rename (∀ a : Int, a ∈ List.map (sumK M) (List.range 16) → _) => q2)
    all_goals have e := min_eq hgood.mat hk16 hleast q1 q2
    · rename Led _ _ _ _ _ => D9
      rw [e, beq_self_eq_true]
      have D10 := D9.pick [3] 6
      simp only [pick, List.filterMap_cons, List.filterMap_nil, List.getElem?_cons_zero, List.getElem?_cons_succ, List.drop_succ_cons, List.drop_zero, List.cons_append, List.nil_append] at D10
      exact next _ _ lt z ((((Sm.mk (s := ⟨hp0, ge0, dr0, tk0, os0⟩) (h := hp0) (tk := tk0)).go _ _).trans hs).trans hs6 |>.go _ _) hT1 D10
    · exact absurd e.symm (by assumption)
-- L10
theorem law_all {w : World} {g : Heap} (G : Gd w g) {sa L fa : Addr} {cd : Value} {vs : List Value} {ns : List Int} {A : Around} {s : Shared} {o1 o2 o3 o4 o5 o6 : Obj} {v1 v2 v3 v4 v5 v6 : Option Value} {Q : Flow → Shared → Prop} (hl : g.IsList sa vs.toArray) (hi : IntsAre vs ns) (hz : ns.length ≤ 63) (ar' : Ar A 12)
    (d1 : o1.data = .cell v1) (d2 : o2.data = .cell v2) (d3 : o3.data = .cell v3) (d4 : o4.data = .cell v4) (d5 : o5.data = .cell v5) (d6 : o6.data = .cell v6)
    (D : Led g L (mp [(Str.ofString "script", .ref sa)]) s.heap [(L + 1 + 1 + 1 + 1 + 1 + 1, o6), (L + 1 + 1 + 1 + 1 + 1, o5), (L + 1 + 1 + 1 + 1, o4), (L + 1 + 1 + 1, o3), (L + 1 + 1, o2), (L + 1, o1), (166, tabObj #[]), (110, tabObj #[])])
    (fin : ∀ (s' : Shared) (c' : Addr) (bb : List (Str × Value)) (lt l : Lgr), Sm s s' → TabL 129 39 lt → Led g L (mp bb) s'.heap ((166, tabObj #[rawInt 221, rawInt 4, .ref c']) :: (lt ++ l)) → Q (.ret (.bool true)) s') :
    wpAny (model Pg w) A (execs lawFd.body (lawEnv L fa cd)) Q NoE s := by
  refine law_1 G hl hi hz ar' D d1 fun s1 da na its nn n2 a b c c0 c1 o1' t1 t2 n0 n1 hs1 h2 hin hp ho1 D1 => ?_
  obtain ⟨h01, h0, h1, hc0⟩ := hp
  clear D
  refine law_2 G ar' D1 fun s2 bb va ys yn tt V hV hVin hs2 hys m1 m2 m3 m4 D2 => ?_
  clear D1
  refine law_3 G ar' h2 hin h0 h1 ho1 hys m1 m2 m3 m4 D2 fun s3 bb3 wa ws wn t3 hs3 hws k1 k2 k3 D3 => ?_
  clear D2 m1 m2 m3 m4
  refine law_4 (t2 := t2) G ar' h0 h1 d2 hws k1 k2 k3 D3 fun s4 bb4 ra rs rn c' oc o2' hs4 hco hrs q1 q2 D4 => ?_
  clear D3 k1 k2 k3
  refine law_5 G ar' d3 d4 d5 hrs q1 q2 D4 fun s5 bb5 rA cA ir ic nr nc o3' o4' o5' t5 hs5 hR hC ho3 ho4 ho5 r1 D5 => ?_
  clear D4 q1 q2
  refine law_6 G ar' hV h01 ho1 ho5 r1 D5 fun s6 hs6 D6 => ?_
  clear D5
  refine law_7 G ar' h0 h1 hR hC ho3 ho4 D6 fun s7 hs7 D7 => ?_
  clear D6
  have D7' := D7.pick [0, 8, 9, 2, 3, 4, 5, 6, 7, 1] 10
  simp only [pick, List.filterMap_cons, List.filterMap_nil, List.getElem?_cons_zero, List.getElem?_cons_succ, List.drop_succ_cons, List.drop_zero, List.cons_append, List.nil_append] at D7'
  clear D7
  refine law_8 G ar' hco h01 h0 h1 hc0 hR ho1 ho3 d6 D7' fun s8 bb8 ha ih nh Hd o6' t6 hs8 hh hgood ho6 mh D8 => ?_
  clear D7'
  refine law_9 (lt0 := [(110, tabObj #[])]) (z := []) G ar' hco h01 h0 h1 hc0 hR hC hh hgood (.inl rfl) ho1 ho3 ho4 ho6 mh D8 fun s9 bb9 lt l hs9 hT D9 => ?_
  exact fin s9 c' bb9 lt l ((((((((hs1.trans hs2).trans hs3).trans hs4).trans hs5).trans hs6).trans hs7).trans hs8).trans hs9) hT D9
-- L11
noncomputable def Desc : Nat → List Nat → Prop
  | _, [] => True
  | a, b :: r => b < a ∧ Desc b r
theorem Desc.nodup : ∀ {l : List Nat} {a : Nat}, Desc a l → (a :: l).Nodup ∧ ∀ x ∈ l, x < a
  | [], _, _ => ⟨List.nodup_cons.mpr ⟨List.not_mem_nil, List.nodup_nil⟩, fun _ h => nomatch h⟩
  | b :: r, a, h => by
    have q := Desc.nodup h.2
    have lt : ∀ x ∈ b :: r, x < a := fun x hx => by
      rcases List.mem_cons.mp hx with e | e
      · exact e ▸ h.1
      · exact Nat.lt_trans (q.2 x e) h.1
    exact ⟨List.nodup_cons.mpr ⟨fun m => Nat.lt_irrefl _ (lt a m), q.1⟩, lt⟩
theorem nd8 (L : Nat) (h1 : 110 < L) (h2 : 166 < L) : [L + 1 + 1 + 1 + 1 + 1 + 1, L + 1 + 1 + 1 + 1 + 1, L + 1 + 1 + 1 + 1, L + 1 + 1 + 1, L + 1 + 1, L + 1, 166, 110].Nodup := by
  have h : Desc (L + 1 + 1 + 1 + 1 + 1 + 1) [L + 1 + 1 + 1 + 1 + 1, L + 1 + 1 + 1 + 1, L + 1 + 1 + 1, L + 1 + 1, L + 1, 166, 110] :=
    ⟨Nat.lt_succ_self _, Nat.lt_succ_self _, Nat.lt_succ_self _, Nat.lt_succ_self _, Nat.lt_succ_self _, Nat.lt_succ_of_lt h2, by decide, trivial⟩
  exact h.nodup.1
theorem ar_caller (env : Env) : Ar (callerA.deeper env) 12 := ⟨rfl, by show callerA.depth + 1 + 12 < recursionLimit; decide, by show callerA.units + 3 + 40 * 12 < cLine; decide⟩
theorem law_top {w : World} {g : Heap} (G : Gd w g) {sa L fa : Addr} {cd : Value} {vs : List Value} {ns : List Int} {A : Around} {s : Shared} {m : Str → Option Value} {o1 o2 o3 o4 o5 o6 : Obj} {v1 v2 v3 v4 v5 v6 : Option Value} {Q : Flow → Shared → Prop} {E : Value → Shared → Prop} (hl : g.IsList sa vs.toArray) (hi : IntsAre vs ns) (hz : ns.length ≤ 63) (ar' : Ar A 12)
    (F : Fr g L s.heap m) (N : News g L s.heap [(L + 1 + 1 + 1 + 1 + 1 + 1, o6), (L + 1 + 1 + 1 + 1 + 1, o5), (L + 1 + 1 + 1 + 1, o4), (L + 1 + 1 + 1, o3), (L + 1 + 1, o2), (L + 1, o1), (110, tabObj #[]), (166, tabObj #[])]) (hm : m = mp [(Str.ofString "script", .ref sa)]) (hlow : 110 < L ∧ 166 < L)
    (d6 : o6.data = .cell v6) (d5 : o5.data = .cell v5) (d4 : o4.data = .cell v4) (d3 : o3.data = .cell v3) (d2 : o2.data = .cell v2) (d1 : o1.data = .cell v1)
    (fin : ∀ (s' : Shared) (m' : Str → Option Value) (p1 p2 : Array Value), Sm s s' → Fr g L s'.heap m' → s'.heap.get? 110 = some (tabObj p1) → s'.heap.get? 166 = some (tabObj p2) → Q (.ret (.bool true)) s') :
    wpAny (model Pg w) A (execs lawFd.body (lawEnv L fa cd)) Q E s := by
  subst hm
  refine noE (law_all G hl hi hz ar' d1 d2 d3 d4 d5 d6 ⟨F.ns, F.keep, Heap.get?_none_of_le F.above, fun p hp => N p ?_, ?_⟩ fun s' c' bb lt l hs hT D => ?_)
  · simp only [List.mem_cons, List.not_mem_nil, or_false] at hp ⊢
    rcases hp with h | h | h | h | h | h | h | h <;> simp [h]
  · exact nd8 L hlow.1 hlow.2
  · have k2 := D.at (i := 0) rfl
    have k1 : ∃ p1, s'.heap.get? 110 = some (tabObj p1) := by
      rcases hT with rfl | ⟨c2, oc, rfl⟩
      · exact ⟨_, D.at (i := 1) rfl⟩
      · exact ⟨_, D.at (i := 1) rfl⟩
    obtain ⟨p1, k1⟩ := k1
    exact fin s' _ p1 _ hs ⟨D.ns, D.keep, F.above⟩ k1 k2
theorem wordless : True := by
  k_with_none
  trivial
end Mine
theorem PySem.Challenge.cw_in0161_01_holds : PySem.Challenge.rw_in0161_01.Holds := by
  refine Mine.head Mine.hd (Mine.left0 Mine.lookB Mine.lookC) (by
    k_go0
    rename World => w
    rename Fr _ _ _ _ => F
    rename News _ _ _ _ => N
    rename Frag.In _ (ghostOf _ _) => X
    rename Top topProg _ _ _ _ (ghostOf _ _) => T
    rename IntsAre _ _ => hI
    rename ¬ _ => hlen
    rename _ ∧ _ => hlow
    rename Shared.gens _ = #[] => hgens
    rename CodeHd _ (170, 166).fst _ => c2
    rename CodeHd _ (114, 110).fst _ => c1
    have G : Mine.Gd w _ := ⟨X, ⟨_, _, _, _, _, T⟩, c1, c2⟩
    refine' Mine.law_top G lifted hI ?hz ?ar F N ?hm hlow ?d6 ?d5 ?d4 ?d3 ?d2 ?d1 ?fin
    case hz => omega
    case ar => exact Mine.ar_caller _
    case hm => kernel_rfl!
    case d6 => assumption
    case d5 => assumption
    case d4 => assumption
    case d3 => assumption
    case d2 => assumption
    case d1 => assumption
    case fin =>
      rintro s' m' p1 p2 ⟨h', tk', rfl⟩ F2 k1 k2
      refine ⟨goodW_bool F2 hgens (raisesW_false ?_) ?_, ⟨p1, k1⟩, ⟨p2, k2⟩, trivial⟩
      · wrow_none_raised
      · wrow_post)
