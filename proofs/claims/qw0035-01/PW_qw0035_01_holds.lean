import PyProof.Rows.All
import Wide.All
import OpenK.AllK
import Wide.FinOn
import PySem.Challenge.RW_qw0035_01
open PySem PySem.W PyProof.Rows
set_option Elab.async false
namespace Mine
noncomputable section
set_option maxRecDepth 100000
set_option maxHeartbeats 8000000
set_option pp.deepTerms false
set_option pp.deepTerms.threshold 8
set_option pp.maxSteps 3000
set_option linter.unusedVariables false
local macro_rules | `(tactic| walk_at $s:str) => `(tactic| k_extra $(Lean.Syntax.mkStrLit ("my " ++ s.getString)))
local macro_rules | `(tactic| lcg_off) => `(tactic| walk_at "lcg_off")
local macro_rules | `(tactic| lcg_src) => `(tactic| walk_at "lcg_src")
open PySem.W.X PySem.W.XRun in
local macro_rules | `(tactic| x_close) => `(tactic| walk_at "x_close")
noncomputable def keepI : List Nat := [0, 2, 3, 4, 8, 9, 11, 12, 13, 14, 16, 18, 20, 21, 23, 25, 27, 28, 29, 31, 32, 33, 34, 35, 36, 37, 38, 39, 40, 41, 42, 43, 44, 45, 46, 47, 48]
/-- the statements of the text that stand fast: the head's own choice, by their places -/
noncomputable def viewP : Program := { PySem.Challenge.pw_qw0035_01 with main := { PySem.Challenge.pw_qw0035_01.main with body := keepI.filterMap fun i => PySem.Challenge.pw_qw0035_01.main.body[i]? } }
noncomputable abbrev looseP : List Str := [Str.ofString "b2a_base64", Str.ofString "b64encode", Str.ofString "_urlsafe_encode_translation"]
noncomputable def pwT : Program := by
  refine' (?f : (x : Program) → PySem.Challenge.pw_qw0035_01 = x → Program) _ ?h
  case h =>
    delta PySem.Challenge.pw_qw0035_01
    rewrite [Str.ofString_eq_byList]
    dsimp only [Str.ofStringByList, String.reduceToList, List.map, Char.reduceToNat]
    exact rfl
  case f => exact fun x _ => x
theorem pwT_eq : PySem.Challenge.pw_qw0035_01 = pwT := by kernel_rfl
/-- the run of the top over the heap as a tree, with a test and a step of any make -/
noncomputable def topRunT (ok : Thread → Bool) (st : SharedT → Thread → Option (SharedT × Thread)) : Nat → SharedT → Thread → Option SharedT
  | 0, _, _ => none
  | n + 1, s, t => match through t, ok t with
    | true, _ => some s
    | false, false => none
    | false, true => match st s t with
      | none => none
      | some x => topRunT ok st n x.1 x.2
theorem topRun_ofT {tb : String → Option Builtin} {p : Program} {w : World} {n₀ : Nat} {ann : Option Value} {r : SharedT} (n : Nat) : ∀ s t, topRunT (stepOk n₀ ann) (stepT (denote tb) p w) n s t = some r → topRun tb p w n₀ ann n s.abs t = some r.abs := by
  induction n with
  | zero => intro _ _ h; exact nomatch h
  | succ n ih =>
    intro s t h
    rw [topRunT] at h
    rw [topRun]
    cases a : through t <;> cases b : stepOk n₀ ann t <;> rw [a, b] at h <;> dsimp only at h ⊢
    · cases h
    · cases c : stepT (denote tb) p w s t with
      | none => rw [c] at h; cases h
      | some x =>
        rw [c] at h
        rw [stepT_spec (s' := x.1) (t' := x.2) c]
        exact ih _ _ h
    · cases h; rfl
    · cases h; rfl
open BT in
noncomputable def tree0 (P : Params) : BT := .node (boot_o_0 P) (.node (boot_o_1 P) (.node (boot_o_3 P) (.node (boot_o_7 P) nil nil) nil) (.node (boot_o_5 P) (.node (boot_o_9 P) nil nil) nil)) (.node (boot_o_2 P) (.node (boot_o_4 P) (.node (boot_o_8 P) nil nil) nil) (.node (boot_o_6 P) (.node (boot_o_10 P) nil nil) nil))
noncomputable def s0T (w : World) (os : OsState) : SharedT := ⟨tree0 w.params, 11, (boot_heap w.params).life, #[], boot_drawn, boot_toks, os⟩
theorem s0T_abs (w : World) (os : OsState) : (s0T w os).abs = ⟨boot_heap w.params, #[], boot_drawn, boot_toks, os⟩ := by kernel_rfl
theorem opening_ok : opening pwT = plainProg pwT.main.scope.names := by kernel_rfl
theorem fence_ok (s : Shared) : fenceModules? pwT s = some s := by kernel_rfl
theorem boot_size (P : Params) : ((boot_heap P).isNs mainGlobals && (#[] : Array GenState).size == 0, (boot_heap P).objs.size, (boot_heap P).nsMap mainGlobals "__annotations__") = (true, 11, some (.ref 6)) := by kernel_rfl
/-- the top's run, and by the library's quick twins -/
noncomputable def topS (w : World) (os : OsState) : Option SharedT := topRunT (stepOk 11 (some (.ref 6))) (stepT (denote treeTable) pwT w) 3864 (s0T w os) (topStub pwT)
noncomputable def topQ (w : World) (os : OsState) : Option SharedT := topRunT (PySem.W.Fast.tw6613529449190102663 11 (some (.ref 6))) (PySem.W.Fast.tw10156331382660048174 (PySem.W.Fast.tw11892475500146522536 PySem.W.Fast.tw14364793385576792824) pwT w) 3864 (s0T w os) (topStub pwT)
theorem topQ_eq : topQ = topS := by
  unfold topQ topS
  rw [← PySem.W.Fast.te6613529449190102663, ← PySem.W.Fast.te10156331382660048174, ← PySem.W.Fast.te11892475500146522536, ← PySem.W.Fast.te14364793385576792824]
noncomputable def statQ : List Str → Heap → Heap → Bool := by
  refine' (?f : (x : List Str → Heap → Heap → Bool) → staticsOk = x → List Str → Heap → Heap → Bool) _ ?h
  case h =>
    delta staticsOk
    simp only [PySem.W.Fast.te1584917186373303978, PySem.W.Fast.te14846217769314788766]
    rewrite [Str.ofString_eq_byList]
    dsimp only [Str.ofStringByList, String.reduceToList, List.map, Char.reduceToNat]
    exact rfl
  case f => exact fun x _ => x
theorem statQ_eq : staticsOk = statQ := by
  delta staticsOk statQ
  simp only [PySem.W.Fast.te1584917186373303978, PySem.W.Fast.te14846217769314788766]
  rewrite [Str.ofString_eq_byList]
  dsimp only [Str.ofStringByList, String.reduceToList, List.map, Char.reduceToNat]
noncomputable def namesQ (p : Program) (h : Heap) : Bool := h.isNs mainGlobals && (h.nsKeys mainGlobals).all fun k => PySem.W.Fast.tw12749700546528644094.contains k || (PySem.W.Fast.tw18344453789297297638 p).contains k
theorem namesQ_eq : namesBound = namesQ := by
  delta namesBound namesQ
  rw [← PySem.W.Fast.te12749700546528644094, ← PySem.W.Fast.te18344453789297297638]
noncomputable def viewT : Program := { pwT with main := { pwT.main with body := keepI.filterMap fun i => pwT.main.body[i]? } }
theorem viewT_eq : viewP = viewT := by
  unfold viewP viewT
  rw [pwT_eq]
noncomputable def looseT : List Str := by
  refine' (?f : (x : List Str) → looseP = x → List Str) _ ?h
  case h =>
    delta looseP
    rewrite [Str.ofString_eq_byList]
    dsimp only [Str.ofStringByList, String.reduceToList, List.map, Char.reduceToNat]
    exact rfl
  case f => exact fun x _ => x
theorem looseT_eq : looseP = looseT := by kernel_rfl
theorem mods_eq : importedModules pwT.main.body = [] := by kernel_rfl
theorem recs_eq : RowW.records (OpenRow.toRowW (OpenLaw.row PySem.Challenge.rw_qw0035_01)) = [] := by rfl
/-- what is asked of the top's end, and by the twins -/
noncomputable def endS (w : World) (s : Shared) := (staticsOk [] (boot_heap w.params) s.heap && namesBound pwT s.heap && gensDone s && laidKept (boot_heap w.params) s.heap, openSeen viewT looseT [] (fun s => xlAt viewT [] s && recOk [] s) true s)
noncomputable def endQ (w : World) (s : Shared) := (statQ [] (boot_heap w.params) s.heap && namesQ pwT s.heap && gensDone s && laidKept (boot_heap w.params) s.heap, PySem.W.Fast.tw4187177175401517315 viewT looseT [] (fun s => xlAt viewT [] s && recOk [] s) true s)
theorem endQ_eq : endQ = endS := by
  unfold endQ endS
  rw [← statQ_eq, ← namesQ_eq, ← PySem.W.Fast.te4187177175401517315]
theorem top_of {w : World} {s : Shared} {r : SharedT} (es : s = (s0T w s.os).abs) (a : topS w s.os = some r) (l : (endS w r.abs).1 = true) : topFrom treeTable pwT w 3864 s = some r.abs := by
  have h := boot_size w.params
  have z1 : s.heap = boot_heap w.params := by rw [es, s0T_abs]
  have z2 : s.gens = #[] := by rw [es, s0T_abs]
  unfold topFrom
  rw [z1, z2, (Prod.mk.inj h).1, (Prod.mk.inj (Prod.mk.inj h).2).1, (Prod.mk.inj (Prod.mk.inj h).2).2, es]
  have b := topRun_ofT _ _ _ a
  rw [b, Option.bind_some, mods_eq, show (staticsOk [] (boot_heap w.params) r.abs.heap && namesBound pwT r.abs.heap && gensDone r.abs && laidKept (boot_heap w.params) r.abs.heap) = true from l]
theorem shared_of {s : Shared} {H : Heap} {G : Array GenState} {D : Drawn} {K : Nat} (f : (s.heap, s.gens, s.drawn, s.toks) = (H, G, D, K)) : s = ⟨H, G, D, K, s.os⟩ := by
  cases f; rfl
theorem end_of (h : ∀ w os, (topS w os).map (fun s => endS w s.abs) = some (true, openGood viewT looseT)) {α : Type} {Yf : Shared → α} {Ya : World → α} (g : ∀ w os, (topS w os).map (fun s => Yf s.abs) = some (Ya w)) :
    LeftO pwT viewT looseT (fun s => xlAt viewT [] s && recOk [] s) Yf Ya 3864 := by
  intro w
  obtain ⟨s, e, f⟩ := Option.map_eq_some_iff.mp (boot_open (N := 3864) opening_ok rfl fence_ok w)
  obtain ⟨r, a, l⟩ := Option.map_eq_some_iff.mp (h w s.os)
  have y := g w s.os
  rw [a] at y
  unfold openEnds
  rw [e, Option.bind_some, top_of ((shared_of f).trans (s0T_abs w s.os).symm) a (congrArg Prod.fst l), mods_eq]
  exact congrArg some (Prod.ext (congrArg Prod.snd l) (Option.some.inj y))
theorem end_ok (w os) : (topQ w os).map (fun s => endQ w s.abs) = some (true, openGood viewT looseT) := by kernel_rfl
theorem left_of {α : Type} {Yf : Shared → α} {Ya : World → α} (g : ∀ w os, (topQ w os).map (fun s => Yf s.abs) = some (Ya w)) :
    LeftO (OpenLaw.row PySem.Challenge.rw_qw0035_01).prog viewP looseP (fun s => xlAt viewP [] s && recOk (RowW.records (OpenRow.toRowW (OpenLaw.row PySem.Challenge.rw_qw0035_01))) s) Yf Ya 3864 := by
  rw [viewT_eq, looseT_eq, recs_eq, show (OpenLaw.row PySem.Challenge.rw_qw0035_01).prog = pwT from pwT_eq]
  rw [topQ_eq] at g
  have h := end_ok
  rw [topQ_eq, endQ_eq] at h
  exact end_of h g
noncomputable def headOf (said : PySem.Challenge.rw_qw0035_01.row.wellSaid = true) (H : Hook) (hl) (hw) (hc) := holds_open (r := OpenLaw.row PySem.Challenge.rw_qw0035_01) (q := viewP) (loose := looseP) (Xt := fun s => xlAt viewP [] s && recOk (RowW.records (OpenRow.toRowW (OpenLaw.row PySem.Challenge.rw_qw0035_01))) s) (XP := XL viewP []) (Yf := Hook.obs H) (Ya := Hook.val H) (YP := Hook.says H) (N := 3864) hl (Hook.of H) (Hook.keeps H) (fun s e => xl_of s (Bool.and_eq_true_iff.mp e).1) XL.keeps (by rfl) (by rfl) (by rfl) (fun s e => recFacts_of (Bool.and_eq_true_iff.mp e).2) (by rfl) said (by decide +kernel) ⟨rfl, rfl, rfl, rfl, rfl, by decide +kernel⟩ hw hc
local macro_rules | `(tactic| o_head $H) => `(tactic| refine headOf (by assumption) $H (left_of fun _ _ => by kernel_rfl) ?hw ?hc)
noncomputable def lawT : OpenLaw := by
  refine' (?f : (x : OpenLaw) → PySem.Challenge.rw_qw0035_01 = x → OpenLaw) _ ?h
  case h =>
    delta PySem.Challenge.rw_qw0035_01
    rewrite [pwT_eq]
    exact rfl
  case f => exact fun x _ => x
theorem lawT_eq : PySem.Challenge.rw_qw0035_01 = lawT := by
  delta PySem.Challenge.rw_qw0035_01
  rewrite [pwT_eq]
  exact rfl
theorem law_ofT (r : lawT.row.wellSaid = true → lawT.row.Holds) : OpenLaw.Holds lawT := by
  o_law
  exact r (by assumption)
theorem law_of (r : PySem.Challenge.rw_qw0035_01.row.wellSaid = true → PySem.Challenge.rw_qw0035_01.row.Holds) : OpenLaw.Holds PySem.Challenge.rw_qw0035_01 := by
  rewrite [lawT_eq] at r ⊢
  exact law_ofT r
local macro_rules | `(tactic| o_law) => `(tactic| refine law_of fun said => ?_)
open_top hd for PySem.Challenge.rw_qw0035_01
example : True := by
  w_top off
  trivial

section
open PySem.Builtin PySem.Calls
theorem slot_translate : Slot "bytes" "translate" "bytes.translate" :=
  .of (owner := "bytes") (n := "translate") (by rw [typeLookup_type, builtinLookup_eq_fast]; kernel_rfl) (by decide +kernel) (by decide +kernel) (by decide +kernel)
    (by first | exact .inl (by decide +kernel) | exact .inr (by decide +kernel)) (by rw [isSubtype_type]; kernel_rfl)
theorem type_translate : typeOf (.builtin "bytes.translate") = pure (.type "method_descriptor") := by show builtinType _ = _; rw [builtinType_eq_fast]; kernel_rfl
theorem entry_translate : entryFor table "bytes.translate" = some Builtin.«bytes.translate» := entryFor_of_tree (by kernel_rfl)
theorem args_translate (a b : Value) : argsOk "bytes.translate" ⟨[a, b], []⟩ := by unfold argsOk; kernel_rfl
noncomputable def trans (tb b : Array UInt8) : Array UInt8 := b.map fun c => tb.getD c.toNat c
theorem filter_none (b : Array UInt8) : b.filter (fun x => !(#[] : Array UInt8).contains x) = b := by
  have : (fun x : UInt8 => !(#[] : Array UInt8).contains x) = fun _ => true := by funext x; simp
  rw [this]; simp
theorem meets_translate {tb b : Array UInt8} {t t2 : Tok} (hs : tb.size = 256) :
    Meets (Builtin.«bytes.translate» ⟨[.bytes b t, .bytes tb t2], []⟩) (fun _ R s => b.size ≤ sizeLine ∧ ∀ t' k, R (.ok (.ret (.bytes (trans tb b) t'))) { s with toks := k }) := by
  refine .of_wp fun prog w A R s hS => ?_
  obtain ⟨hsz, h⟩ := hS
  show wpAny _ _ (Bytes.bytesLike _ (.bytes tb t2) >>= fun r => _) _ _ s
  refine wpAny_bind (wpAny_of_eq KBd.like_eq ?_)
  rw [if_neg (by rw [hs]; decide)]
  refine wpAny_bind (wpAny_pure ?_)
  refine wpAny_bind (wpAny_pure ?_)
  refine wpAny_bind (wpAny_of_eq (show Bytes.payload (.bytes b t) = pure b from rfl) ?_)
  dsimp only
  rw [filter_none]
  show wpAny _ _ (if (trans tb b == b) = true then (do rule _; let v ← Bytes.Kind.same .bytes (.bytes b t); ret v) else (do let v ← Bytes.Kind.new .bytes (trans tb b); ret v)) _ _ s
  by_cases e : (trans tb b == b) = true
  · rw [if_pos e]
    have e' : trans tb b = b := eq_of_beq e
    refine wpAny_bind (wpAny_rule ?_)
    have hsame : Bytes.Kind.same .bytes (.bytes b t) = pure (.bytes b t) := by
      unfold Bytes.Kind.same
      rw [show typeOf (.bytes b t) = pure (.type "bytes") from rfl]
      rfl
    rw [hsame]
    refine wpAny_bind (wpAny_pure (wpAny_pure ?_))
    have := h t s.toks
    rw [e'] at this
    exact ⟨_, rfl, this⟩
  · rw [if_neg e]
    refine wpAny_bind ?_
    exact wpAny_mkBytes (wpAny_pure ⟨_, rfl, h _ _⟩) (by unfold trans; rw [Array.size_map]; exact hsz)
theorem call_translate {prog : Program} {w : World} {A : Around} {E : Value → Shared → Prop} {s : Shared} {tb b : Array UInt8} {t t2 : Tok} {Q : Value → Shared → Prop} (hs : tb.size = 256) (hb : b.size ≤ 16777216)
    (h : ∀ t' k, Q (.bytes (trans tb b) t') { s with toks := k }) : wpAny (model prog w) A (call (.builtin "bytes.translate") [.bytes b t, .bytes tb t2]) Q E s :=
  call_meets slot_translate (typeIs_bytes _ _ _) entry_translate (args_translate _ _) (meets_translate hs) ⟨by rw [sizeLine_eq]; exact hb, h⟩
theorem method_translate {M : Model} {A : Around} {E : Value → Shared → Prop} {s : Shared} {b : Array UInt8} {t : Tok} {pl : Sem Bool} {Q : Value × List Value → Shared → Prop} (h : Q (.builtin "bytes.translate", [.bytes b t]) s) : wpAny M A (getMethod (.bytes b t) "translate" pl) Q E s := by
  with_reducible exact KBd.method_of (.bytes b t) (typeIs_bytes _ _ _) slot_translate type_translate KBd.noRef h

theorem plain_maketrans : plainId "bytes.maketrans" = true := by decide +kernel
theorem entry_maketrans : entryFor table "bytes.maketrans" = some Builtin.«bytes.maketrans» := entryFor_of_tree (by kernel_rfl)
theorem args_maketrans (a b : Value) : argsOk "bytes.maketrans" ⟨[a, b], []⟩ := by unfold argsOk; kernel_rfl
noncomputable def urlTab : Array UInt8 := #[0, 1, 2, 3, 4, 5, 6, 7, 8, 9, 10, 11, 12, 13, 14, 15, 16, 17, 18, 19, 20, 21, 22, 23, 24, 25, 26, 27, 28, 29, 30, 31, 32, 33, 34, 35, 36, 37, 38, 39, 40, 41, 42, 45, 44, 45, 46, 95, 48, 49, 50, 51, 52, 53, 54, 55, 56, 57, 58, 59, 60, 61, 62, 63, 64, 65, 66, 67, 68, 69, 70, 71, 72, 73, 74, 75, 76, 77, 78, 79, 80, 81, 82, 83, 84, 85, 86, 87, 88, 89, 90, 91, 92, 93, 94, 95, 96, 97, 98, 99, 100, 101, 102, 103, 104, 105, 106, 107, 108, 109, 110, 111, 112, 113, 114, 115, 116, 117, 118, 119, 120, 121, 122, 123, 124, 125, 126, 127, 128, 129, 130, 131, 132, 133, 134, 135, 136, 137, 138, 139, 140, 141, 142, 143, 144, 145, 146, 147, 148, 149, 150, 151, 152, 153, 154, 155, 156, 157, 158, 159, 160, 161, 162, 163, 164, 165, 166, 167, 168, 169, 170, 171, 172, 173, 174, 175, 176, 177, 178, 179, 180, 181, 182, 183, 184, 185, 186, 187, 188, 189, 190, 191, 192, 193, 194, 195, 196, 197, 198, 199, 200, 201, 202, 203, 204, 205, 206, 207, 208, 209, 210, 211, 212, 213, 214, 215, 216, 217, 218, 219, 220, 221, 222, 223, 224, 225, 226, 227, 228, 229, 230, 231, 232, 233, 234, 235, 236, 237, 238, 239, 240, 241, 242, 243, 244, 245, 246, 247, 248, 249, 250, 251, 252, 253, 254, 255]
theorem urlTab_is : ([((43 : UInt8), (45 : UInt8)), (47, 95)].foldl (fun (t : Array UInt8) (p : UInt8 × UInt8) => t.setIfInBounds p.1.toNat p.2) ((Array.range 256).map (·.toUInt8))) = urlTab := by decide +kernel
theorem meets_maketrans {t t2 : Tok} :
    Meets (Builtin.«bytes.maketrans» ⟨[.bytes #[43, 47] t, .bytes #[45, 95] t2], []⟩) (fun _ R s => ∀ t' k, R (.ok (.ret (.bytes urlTab t'))) { s with toks := k }) := by
  refine .of_wp fun prog w A R s h => ?_
  show wpAny _ _ (Bytes.bytesLike _ (.bytes #[43, 47] t) >>= fun r => _) _ _ s
  refine wpAny_bind (wpAny_of_eq KBd.like_eq ?_)
  show wpAny _ _ (Bytes.bytesLike _ (.bytes #[45, 95] t2) >>= fun r => _) _ _ s
  refine wpAny_bind (wpAny_of_eq KBd.like_eq ?_)
  rw [if_neg (by decide)]
  refine wpAny_bind ?_
  have e : ((#[(43 : UInt8), 47].toList.zip #[(45 : UInt8), 95].toList).foldl (fun (t : Array UInt8) (x : UInt8 × UInt8) => match x with | (f, x) => t.setIfInBounds f.toNat x) ((Array.range 256).map (·.toUInt8))) = urlTab := by decide +kernel
  show wpAny _ _ (mkBytes _) _ _ _
  rw [e]
  exact wpAny_mkBytes (wpAny_pure ⟨_, rfl, h _ _⟩) (by decide)
theorem call_maketrans {prog : Program} {w : World} {A : Around} {E : Value → Shared → Prop} {s : Shared} {t t2 : Tok} {Q : Value → Shared → Prop}
    (h : ∀ t' k, Q (.bytes urlTab t') { s with toks := k }) : wpAny (model prog w) A (call (.builtin "bytes.maketrans") [.bytes #[43, 47] t, .bytes #[45, 95] t2]) Q E s :=
  wpAny_call (codeAny_call_builtin plain_maketrans entry_maketrans (wpAny_of_eq (show checkBuiltinCall "bytes.maketrans" ⟨[.bytes #[43, 47] t, .bytes #[45, 95] t2], []⟩ = pure () by kernel_rfl) (meets_maketrans prog w A (wants Q E) s h)))

theorem lat_find (b : Array UInt8) (p : Nat) : _codecs.latin1Decoder.find true b p = .text [(b.getD p 0).toNat] (p + 1) := rfl
theorem dec_latin (id : String) (b : Array UInt8) (hb : b.size ≤ sizeLine) : _codecs.runDecoder id _codecs.latin1Decoder none true b 0 [] = pure (b.map (·.toNat), b.size) := by
  unfold _codecs.runDecoder
  dsimp only
  rw [Std.Legacy.Range.forIn_eq_forIn_range']
  have key : ∀ (n k : Nat) (out : Array Nat), k + n = b.size → out = (b.map (·.toNat)).extract 0 k → ∀ F : Nat → Nat × Array Nat × _codecs.Faults → Sem (ForInStep (Nat × Array Nat × _codecs.Faults)),
      (∀ x st, st.2.1.size ≤ sizeLine → st.1 < b.size → F x st = pure (.yield (st.1 + 1, st.2.1 ++ [(b.getD st.1 0).toNat].toArray, st.2.2))) →
      ∀ f, forIn (List.range' k n 1) (k, out, f) F = (pure (b.size, b.map (·.toNat), f) : Sem _) := by
    intro n
    induction n with
    | zero =>
      intro k out hk ho F hF f
      have : k = b.size := by omega
      subst this
      rw [ho, List.range'_zero, List.forIn_nil]
      congr 3
      have : b.size = (b.map (·.toNat)).size := by simp
      rw [this, Array.extract_size]
    | succ n ih =>
      intro k out hk ho F hF f
      rw [List.range'_succ, List.forIn_cons, hF k (k, out, f) (by rw [ho]; simp; omega) (by show k < b.size; omega), pure_bind]
      dsimp only
      refine ih (k + 1) _ (by omega) ?_ F hF f
      rw [ho]
      have hk' : k < b.size := by omega
      apply Array.ext'
      simp [Array.toList_extract, List.take_add_one, hk']
  have e : List.range' [:b.size].start [:b.size].size [:b.size].step = List.range' 0 b.size 1 := by simp [Std.Legacy.Range.size]
  rw [e, key b.size 0 #[] (by omega) (by simp)]
  · rfl
  · intro x st h1 h2
    rw [if_neg (by omega), if_neg (by omega), lat_find]
theorem args_decode2 (a b : Value) : argsOk "bytes.decode" ⟨[a, b], []⟩ := by unfold argsOk; kernel_rfl
theorem road_latin {id : String} {b : Array UInt8} : _codecs.decodeRoad id b (PySem.Str.ofString "latin-1") none [] = (_codecs.runDecoder id _codecs.latin1Decoder none true b 0 [] >>= fun r => mkStr ⟨r.1⟩) := by kernel_rfl
theorem entry_latin {c : UInt8} {cs : List UInt8} {t t2 : Tok} : «bytes.decode» ⟨[.bytes (c :: cs).toArray t, .str (PySem.Str.ofString "latin-1") t2], []⟩ = (mkStr (PySem.Str.ofString "utf-8") >>= fun _ => mkStr (PySem.Str.ofString "latin-1") >>= fun e => mkStr (PySem.Str.ofString "bytes.decode") >>= fun d =>
    call (.builtin "_codecs.decode.text") [.bytes (c :: cs).toArray t, e, .none, d] >>= fun v => ret v) := by kernel_rfl
theorem meets_text_latin {b : Array UInt8} {t t1 t2 : Tok} {d : PySem.Str} :
    Meets («_codecs.decode.text» ⟨[.bytes b t, .str (PySem.Str.ofString "latin-1") t1, .none, .str d t2], []⟩) (fun _ R s => b.size ≤ sizeLine ∧ R (.ok (.ret (.str ⟨b.map (·.toNat)⟩ s.toks))) { s with toks := s.toks + 1 }) := by
  refine .of_wp fun prog w A R s hS => ?_
  obtain ⟨hsz, h⟩ := hS
  show wpAny _ _ (Bytes.bytesLike _ (.bytes b t) >>= fun r => _) _ _ s
  refine wpAny_bind (wpAny_of_eq KBd.like_eq ?_)
  refine wpAny_bind (wpAny_of_eq KBd.held_eq ?_)
  show wpAny _ _ (_codecs.decodeRoad _ b (PySem.Str.ofString "latin-1") none [] >>= fun v => _) _ _ s
  rw [road_latin, dec_latin _ _ hsz]
  refine wpAny_bind (wpAny_bind (wpAny_pure ?_))
  exact wpAny_mkStr (wpAny_pure ⟨_, rfl, h⟩) (by show (b.map _).size ≤ _; rw [Array.size_map]; exact hsz)
theorem meets_decode_latin {c : UInt8} {cs : List UInt8} {t t2 : Tok} :
    Meets («bytes.decode» ⟨[.bytes (c :: cs).toArray t, .str (PySem.Str.ofString "latin-1") t2], []⟩) (fun _ R s => (c :: cs).toArray.size ≤ sizeLine ∧ ∀ t' k, R (.ok (.ret (.str ⟨(c :: cs).toArray.map (·.toNat)⟩ t'))) { s with toks := k }) := by
  refine .of_wp fun prog w A R s hS => ?_
  obtain ⟨hsz, h⟩ := hS
  rw [entry_latin]
  refine wpAny_bind (wpAny_mkStr ?_ (by decide))
  refine wpAny_bind (wpAny_mkStr ?_ (by decide))
  refine wpAny_bind (wpAny_mkStr ?_ (by decide))
  exact wpAny_bind (call_function_meets KBd.kind_text KBd.plain_text KBd.entry_text (KBd.args_text _ _ _ _) meets_text_latin ⟨hsz, wpAny_pure ⟨_, rfl, h _ _⟩⟩)
theorem call_decode_latin {prog : Program} {w : World} {A : Around} {E : Value → Shared → Prop} {s : Shared} {b : Array UInt8} {t t2 : Tok} {Q : Value → Shared → Prop} (h0 : 0 < b.size) (hb : b.size ≤ 16777216)
    (h : ∀ t' k, Q (.str ⟨b.map (·.toNat)⟩ t') { s with toks := k }) : wpAny (model prog w) A (call (.builtin "bytes.decode") [.bytes b t, .str (PySem.Str.ofString "latin-1") t2]) Q E s := by
  obtain ⟨l⟩ := b
  cases l with
  | nil => exact absurd h0 (by decide)
  | cons c cs => exact call_meets FB.slot_bytes_decode (typeIs_bytes _ _ _) FB.entry_bytes_decode (args_decode2 _ _) meets_decode_latin ⟨by rw [sizeLine_eq]; exact hb, h⟩
end

example : True := by
  k_with_none
  trivial
/-- the around of a call within a def: nothing handled, the frames known -/
noncomputable abbrev aTop (dp un : Nat) (gd : Option (List Code)) (outer : List Env) : Around := { handled := none, depth := dp, frames := some outer, guards := gd, units := un }

/-- a def that leaves all that it finds as it stands -/
noncomputable def SpecP (w : World) (f : Addr) (vs : List Value) (kw : List (Str × Value)) (dd : Nat) (Pre : Heap → Prop) (Post : Value → Heap → Heap → Prop) : Prop :=
  PySem.Challenge.rw_qw0035_01 = PySem.Challenge.rw_qw0035_01 →
  ∀ (dp un : Nat) (gd : Option (List Code)) (outer : List Env) (base : Heap) (s : Shared) (Q E : Value → Shared → Prop) (p : Program) (loose : List Str) (mean : ExcName → Option Value) (mg mb : Str → Option Value),
    Below (aTop dp un gd outer) base outer s.heap → (hd.heap_1 w.params).In s.heap → Top p loose mean mg mb s.heap → Pre s.heap → dp + dd < recursionLimit → un + 8 * dd < cLine →
    (∀ r h' tk', (∀ b o, s.heap.get? b = some o → h'.get? b = some o) → Post r s.heap h' → Q r { s with heap := h', toks := tk' }) →
    wpAny (model PySem.Challenge.rw_qw0035_01.prog w) (aTop dp un gd outer) (call (.ref f) vs kw) Q E s

section
variable {prog : Program} {w : World} {A : Around} {base : Heap} {outer : List Env} {s : Shared} {K : Frag} {p : Program} {loose : List Str} {mean : ExcName → Option Value} {mg mb : Str → Option Value}
  {R : Result → Shared → Prop} {name qual : Str} {params : Arguments} {body : List Stmt} {scope : Scope} {dV kV doc pm cdv ct oc : Value} {an od : Option Addr} {osl : Array (Option Value)} {f : Addr} {args : Args} {binds : List (Str × Value)}
theorem enterP (X : K.In s.heap) (T : Top p loose mean mg mb s.heap)
    (ho : K.lookup f = some ⟨oc, od, .func (fnOf name qual params body scope dV kV doc pm an cdv ct), osl⟩) (hcd : codeIn K cdv qual = true) (hroom : A.depth < recursionLimit)
    (hbind : BindsTo s (fnOf name qual params body scope dV kV doc pm an cdv ct) args binds) (hloc : ∀ y ∈ binds, scope.names.lookup y.1 = some .local)
    (h : ∀ L' h₁, Fr s.heap L' h₁ (fun y => binds.reverse.lookup y) → News s.heap L' h₁ [] →
      wpAny (model prog w) (A.deeper (envOf qual scope L' f cdv)) (execs body (envOf qual scope L' f cdv))
        (fun fl s' => R (.ok (.ret (match fl with | .ret v => v | _ => .none))) s')
        (fun e s' => wpAny (model prog w) (A.deeper (envOf qual scope L' f cdv)) (leaving (envOf qual scope L' f cdv) e) (fun _ s'' => R (.error e) s'') (fun e' s'' => R (.error e') s'') s')
        { s with heap := h₁, toks := s.toks + binds.length })
    (hco : scope.isCoroutine = false) (hgen : scope.isGenerator = false) (hk : scope.kind = .function)
    (hcell : ∀ x ∈ scope.names, x.2 ≠ .cell) : codeAny (model prog w) A (.call (.ref f) args) R s :=
  codeAny_call_def (fd := fnOf name qual params body scope dV kV doc pm an cdv ct) (body := body) (binds := binds) hroom (X _ _ ho) rfl T.nolimit (codeRec_of X hcd) rfl hbind hcell hloc
    (fun h₁ hns hk₁ => h _ h₁ ⟨hns, hk₁, Nat.le_refl _⟩ News.nil) hco hgen hk

theorem enterPC (X : K.In s.heap) (T : Top p loose mean mg mb s.heap)
    (ho : K.lookup f = some ⟨oc, od, .func (fnOf name qual params body scope dV kV doc pm an cdv ct), osl⟩) (hcd : codeIn K cdv qual = true) (hroom : A.depth < recursionLimit)
    (hbind : BindsTo s (fnOf name qual params body scope dV kV doc pm an cdv ct) args binds) (hkind : (binds.all fun y => scope.names.lookup y.1 == some .local || scope.names.lookup y.1 == some .cell) = true)
    (hnd : ((cellsFrom 0 scope.names []).map (·.1)).Nodup)
    (h : ∀ L' h₁ tk cells, Fr s.heap L' h₁ (bindL (envOfC qual scope L' f cdv).kindOf binds fun _ => none) → News s.heap L' h₁ cells →
      CellsAre (bindC (envOfC qual scope L' f cdv).kindOf binds fun _ => none) (cellsFrom (L' + 1) scope.names []) cells →
      wpAny (model prog w) (A.deeper (envOfC qual scope L' f cdv)) (execs body (envOfC qual scope L' f cdv))
        (fun fl s' => R (.ok (.ret (match fl with | .ret v => v | _ => .none))) s')
        (fun e s' => wpAny (model prog w) (A.deeper (envOfC qual scope L' f cdv)) (leaving (envOfC qual scope L' f cdv) e) (fun _ s'' => R (.error e) s'') (fun e' s'' => R (.error e') s'') s')
        { s with heap := h₁, toks := tk })
    (hco : scope.isCoroutine = false) (hgen : scope.isGenerator = false) (hk : scope.kind = .function) : codeAny (model prog w) A (.call (.ref f) args) R s := by
  refine codeAny_call_function hroom (X _ _ ho) rfl hco hgen rfl (codeRec_of X hcd) (hbind _ _ _ _ ?_)
  refine wpAny_newFunctionEnv_cells hk (kindsX hkind _) fun env' he s' x => ?_
  subst he
  refine ⟨T.nolimit.keeps x.toInCall.keep, codeAny_func ?_⟩
  obtain ⟨h₁, tk, rfl, _⟩ := x.done
  have hk₁ := x.toInCall.keep
  obtain ⟨cells, NC, Y⟩ := Cl.news (h₀ := s.heap) (Nat.le_refl _) fun n c hm => ⟨x.cell n c (lookup_of_mem_nodup (cellsFrom_names scope.names 0 (s.heap.objs.size + 1) [] [] rfl ▸ hnd) hm), x.above n c hm⟩
  exact h s.heap.objs.size h₁ tk cells ⟨x.toInCall.ns, hk₁, Nat.le_refl _⟩ NC Y
end

theorem fr_after {h₀ h h' : Heap} {L : Addr} {m : Str → Option Value} (F : Fr h₀ L h m) (k : ∀ b o, h.get? b = some o → h'.get? b = some o) : Fr h₀ L h' m :=
  ⟨F.ns.keeps k, fun b o e => k b o (F.keep b o e), F.above⟩
theorem news_after {h₀ h h' : Heap} {L : Addr} {news : List (Addr × Obj)} (N : News h₀ L h news) (k : ∀ b o, h.get? b = some o → h'.get? b = some o) : News h₀ L h' news :=
  fun q hq => ⟨k _ _ (N q hq).1, (N q hq).2⟩
theorem news_more {h₀ h h' : Heap} {L l : Addr} {m : Str → Option Value} {o : Obj} {news : List (Addr × Obj)} (F : Fr h₀ L h m) (N : News h₀ L h' news) (hl : h'.get? l = some o) (hn : h.get? l = none) : News h₀ L h' ((l, o) :: news) := fun q hq => by
  rcases List.mem_cons.mp hq with rfl | hq
  · refine ⟨hl, fun e => ?_, ?_⟩
    · subst e
      obtain ⟨oL, _, _, hL, _⟩ := F.ns
      rw [hL] at hn; cases hn
    · cases e : h₀.get? l with
      | none => rfl
      | some o' => rw [F.keep _ _ e] at hn; cases hn
  · exact N q hq
theorem news_ne {h₀ h : Heap} {L l : Addr} {news : List (Addr × Obj)} (N : News h₀ L h news) (hn : h.get? l = none) : ∀ q ∈ news, q.1 ≠ l := fun q hq e => by
  have := (N q hq).1
  rw [e, hn] at this; cases this

theorem useP {w : World} {f : Addr} {vs : List Value} {kw : List (Str × Value)} {dd : Nat} {Pre : Heap → Prop} {Post : Value → Heap → Heap → Prop} (S : SpecP w f vs kw dd Pre Post)
    {dp un : Nat} {gd : Option (List Code)} {outer : List Env} {A₀ : Around} {base h₀ : Heap} {L a : Addr} {cn : Str} {cs : Scope} {ccd : Value} {cl : List (Str × Addr)} {m : Str → Option Value} {news : List (Addr × Obj)} {s : Shared} {Q E : Value → Shared → Prop} {p : Program} {loose : List Str} {mean : ExcName → Option Value} {mg mb : Str → Option Value}
    (B : Below A₀ base outer h₀) (F : Fr h₀ L s.heap m) (X : (hd.heap_1 w.params).In h₀) (N : News h₀ L s.heap news) (T : Top p loose mean mg mb h₀) (hk : cs.kind = .function) (hpre : Pre s.heap) (hdp : dp + dd < recursionLimit) (hun : un + 8 * dd < cLine)
    (h : ∀ r h' tk', Fr h₀ L h' m → News h₀ L h' news → Post r s.heap h' → (∀ b o, s.heap.get? b = some o → h'.get? b = some o) → Q r { s with heap := h', toks := tk' }) :
    wpAny (model PySem.Challenge.rw_qw0035_01.prog w) (ktrTop dp un gd cn cs L a ccd cl outer) (call (.ref f) vs kw) Q E s := by
  have B' : Below (A₀.deeper (envX cn cs L a ccd cl)) base (envX cn cs L a ccd cl :: outer) s.heap := by
    have hnew : base.get? L = none := by
      cases hq : base.get? L with
      | none => rfl
      | some o => exact absurd (Nat.lt_of_lt_of_le (Heap.lt_size (B.stays L o hq)) F.above) (Nat.lt_irrefl _)
    refine ⟨Around.frames_deeper B.stack, fun b o e => F.keep b o (B.stays b o e), ?_⟩
    exact .cons (by show cs.kind ≠ .module; rw [hk]; decide) rfl F.ns hnew (B.frames.of_keeps fun b o e _ => ⟨o, F.keep b o e, rfl⟩)
  refine S rfl dp un gd (envX cn cs L a ccd cl :: outer) base s Q E p loose mean mg mb ⟨rfl, B'.stays, B'.frames⟩ (X.keeps F.keep) (T.keeps F.keep) hpre hdp hun ?_
  intro r h' tk' k po
  exact h r h' tk' (fr_after F k) (news_after N k) po k
theorem lim0 {d N R : Nat} (h : d + N < R) : d < R := Nat.lt_of_le_of_lt (Nat.le_add_right _ _) h
theorem lim1 {d a N R : Nat} (h : d + N < R) (hk : a.ble N = true) : d + a < R := Nat.lt_of_le_of_lt (Nat.add_le_add_left (Nat.le_of_ble_eq_true hk) _) h
theorem lim2 {d a b N R : Nat} (h : d + N < R) (hk : (a + b).ble N = true) : d + a + b < R := Nat.add_assoc d a b ▸ lim1 h hk
theorem lim3 {d a b c N R : Nat} (h : d + N < R) (hk : (a + b + c).ble N = true) : d + a + b + c < R := by
  rw [Nat.add_assoc d a b, Nat.add_assoc d]
  exact lim1 h hk
theorem ne_up {a b c : Nat} (h : a < b) : a ≠ b + c := Nat.ne_of_lt (Nat.lt_of_lt_of_le h (Nat.le_add_right _ _))
theorem ne_up' {a b c : Nat} (h : a < b) : b + c ≠ a := (ne_up h).symm
theorem pickR {pick_a pick_b : Prop} (pick_h : pick_a ∧ pick_b) : pick_b := pick_h.2
theorem pickL {pick_a pick_b : Prop} (pick_h : pick_a ∧ pick_b) : pick_a := pick_h.1
theorem foldFr {h₀ h : Heap} {L : Addr} {m : Str → Option Value} {G : Prop} (F : Fr h₀ L h m) (k : let mk := m; Fr h₀ L h mk → G) : G := k F
theorem genState {M : Model} {A : Around} {α : Type} {T : Sem α} {Q : α → Shared → Prop} {E : Value → Shared → Prop} {s₀ σ : Shared} {h : Heap} {k : Tok} (e : σ = ⟨h, s₀.gens, s₀.drawn, k, s₀.os⟩) (H : ∀ k', wpAny M A T Q E ⟨h, s₀.gens, s₀.drawn, k', s₀.os⟩) : wpAny M A T Q E σ := e ▸ H k
theorem allNe_cons {l : Addr} {p : Addr × Obj} {r : List (Addr × Obj)} (h : p.1 ≠ l) (t : ∀ q ∈ r, q.1 ≠ l) : ∀ q ∈ p :: r, q.1 ≠ l := List.forall_mem_cons.mpr ⟨h, t⟩
theorem allNe_nil {l : Addr} : ∀ q ∈ ([] : List (Addr × Obj)), q.1 ≠ l := fun _ h => nomatch h

local macro_rules | `(tactic| k_room) => `(tactic| ktr_room)
local macro_rules | `(tactic| k_units) => `(tactic| ktr_units)
local macro_rules | `(tactic| k_ne) => `(tactic| walk_at "pick_ne")
local macro_rules | `(tactic| ktr_room) => `(tactic| walk_at "pick_lim")
local macro_rules | `(tactic| ktr_units) => `(tactic| walk_at "pick_lim")
local macro_rules | `(tactic| size_fits) => `(tactic| walk_at "size_fits")
local macro_rules | `(tactic| k_all) => `(tactic| walk_at "pick_all")
example : True := by
  (k_with "my my_enter" => ((refine wpAny_call ?_; k_dflt (first
      | (refine' enterP ?k3_q1 ?k5_q1 ?k6_q1 ?k7_q1 ?k8_q1 ?k9_q1 ?kB_q1 ?_ ?c2_q1 ?c3_q1 ?c4_q1 ?c5_q1; (case k3_q1 => k_asm); (case k5_q1 => k_asm); (case k6_q1 => k_is); (case k7_q1 => k_is); (case k8_q1 => k_room); (case k9_q1 => first | exact BindsTo.of_eq (binds := [(_, _)]) rfl | exact BindsTo.of_eq (binds := [(_, _), (_, _)]) rfl | exact BindsTo.of_eq rfl | exact binds_K (by k_in) rfl (by k_is) rfl rfl rfl | fail "my_enter: no rule for these arguments"); (case c5_q1 => decide); (case kB_q1 => exact locs rfl); (case c2_q1 => exact rfl); (case c3_q1 => exact rfl); (case c4_q1 => exact rfl); k_whole; intro L' h' F' N'; (try dsimp only); (try k_fold))
      | (refine' enterPC ?k3_q1 ?k5_q1 ?k6_q1 ?k7_q1 ?k8_q1 ?k9_q1 ?kB_q1 ?kD_q1 ?_ ?c2_q1 ?c3_q1 ?c4_q1; (case k3_q1 => k_asm); (case k5_q1 => k_asm); (case k6_q1 => k_is); (case k7_q1 => k_is); (case k8_q1 => k_room); (case k9_q1 => first | exact BindsTo.of_eq (binds := [(_, _)]) rfl | exact BindsTo.of_eq (binds := [(_, _), (_, _)]) rfl | exact BindsTo.of_eq rfl | exact binds_K (by k_in) rfl (by k_is) rfl rfl rfl | fail "my_enter: no rule for these arguments"); (case kB_q1 => exact rfl); (case kD_q1 => decide +kernel); (case c2_q1 => exact rfl); (case c3_q1 => exact rfl); (case c4_q1 => exact rfl); k_whole; intro L' h' tk' cells' F' N' Y'; k_cells Y'; (try simp only [List.cons_append, List.nil_append, List.append_nil] at N'); (try dsimp only); (try k_fold))))))
  trivial
example : True := by
  (k_with "my call type:type" => (((with_reducible show wpAny _ _ (call _ [Value.bytes _ _]) _ _ _); refine call_type_of (Tx := "bytes") rfl (by decide +kernel) ?_)))
  trivial
example : True := by
  (k_with "my my_steps" => (repeat' (first | (k_unfold; (try dsimp only)) | ((fail_if_success (with_reducible show InvEndN _ _ _ _ _ _ _)); first | walk1 | (dsimp only; walk1) | (leave1; try dsimp only)) | fail "no step")))
  trivial
example : True := by
  (k_with "my use_cases" => (((case kB => first | k_asm | fail "use: below"); (case kF => first | k_asm | fail "use: frame"); (case kX => first | k_asm | fail "use: written part"); (case kN => first | k_asm | fail "use: ledger"); (case kT => first | k_asm | fail "use: top"); (case kk => first | exact rfl | assumption | fail "use: kind"); (case kd => first | ktr_room | fail "use: room"); (case ku => first | ktr_units | fail "use: units"))))
  trivial
example : True := by
  (k_with "my my_enterT" => ((refine wpAny_call ?_; k_dflt (first
      | (refine' enterT ?ksub_q5 ?ksz_q5 ?k3_q5 ?k5_q5 ?kt_q5 ?kg_q5 ?k6_q5 ?k7_q5 ?k8_q5 ?k9_q5 ?kB_q5 ?_ ?c2_q5 ?c3_q5 ?c4_q5 ?c5_q5; (case ksub_q5 => assumption); (case ksz_q5 => assumption); (case kt_q5 => assumption); (case kg_q5 => assumption); (case k3_q5 => k_asm); (case k5_q5 => k_asm); (case k6_q5 => k_is); (case k7_q5 => k_is); (case k8_q5 => k_room); (case k9_q5 => first | exact BindsTo.of_eq (binds := [(_, _)]) rfl | exact BindsTo.of_eq (binds := [(_, _), (_, _)]) rfl | exact BindsTo.of_eq rfl | exact binds_K (by k_in) rfl (by k_is) rfl rfl rfl | fail "my_enter: no rule for these arguments"); (case c5_q5 => decide); (case kB_q5 => exact locs rfl); (case c2_q5 => exact rfl); (case c3_q5 => exact rfl); (case c4_q5 => exact rfl); k_whole; intro L' h' F' N' l0; (replace l0 := ltN l0); (try dsimp only); (try k_fold))
      | (refine' enterTC ?ksub_q5 ?ksz_q5 ?k3_q5 ?k5_q5 ?kt_q5 ?kg_q5 ?k6_q5 ?k7_q5 ?k8_q5 ?k9_q5 ?kB_q5 ?kD_q5 ?_ ?c2_q5 ?c3_q5 ?c4_q5; (case ksub_q5 => assumption); (case ksz_q5 => assumption); (case kt_q5 => assumption); (case kg_q5 => assumption); (case k3_q5 => k_asm); (case k5_q5 => k_asm); (case k6_q5 => k_is); (case k7_q5 => k_is); (case k8_q5 => k_room); (case k9_q5 => first | exact BindsTo.of_eq (binds := [(_, _)]) rfl | exact BindsTo.of_eq (binds := [(_, _), (_, _)]) rfl | exact BindsTo.of_eq rfl | exact binds_K (by k_in) rfl (by k_is) rfl rfl rfl | fail "my_enter: no rule for these arguments"); (case kB_q5 => exact rfl); (case kD_q5 => decide +kernel); (case c2_q5 => exact rfl); (case c3_q5 => exact rfl); (case c4_q5 => exact rfl); k_whole; intro L' h' tk' cells' F' N' Y' l0; (replace l0 := ltN l0); k_cells Y'; (try simp only [List.cons_append, List.nil_append, List.append_nil] at N'); (try dsimp only); (try k_fold))))))
  trivial
example : True := by
  (k_with "my execs cons" => (((with_reducible refine wpAny_execs_cons ?_); (try dsimp only); (try k_fold); (try ((rename Fr _ _ _ _ => F9); (refine foldFr F9 ?_); (intro mk9 F8); (clear F9))))))
  trivial
example : True := by
  (k_with "my size_fits" => (exact Nat.le_of_ble_eq_true rfl))
  trivial
example : True := by
  (k_with "my pick_chain" => (((iterate 15 (try (first | with_reducible assumption | apply pickR))); done)))
  trivial
example : True := by
  (k_with "my pick_one" => ((first | with_reducible assumption | (apply pickL; walk_at "pick_chain") | walk_at "pick_chain")))
  trivial
example : True := by
  (k_with "my pick_ne" => ((refine neN ?_; (try dsimp only); (first | with_reducible assumption | (refine Nat.ne_of_lt ?_; (simp only [*]; done)) | (refine Nat.ne_of_gt ?_; (simp only [*]; done)) | (simp only [*, ne_eq, not_false_eq_true]; done) | (refine Ne.symm ?_; (simp only [*, ne_eq, not_false_eq_true]; done)) | (refine ne_up ?_; (simp only [*]; done)) | (refine ne_up' ?_; (simp only [*]; done))))))
  trivial
example : True := by
  (k_with "my pick_lim" => ((first
      | (refine' lim1 ?h_q11 ?k_q11; (case h_q11 => assumption); (case k_q11 => exact rfl))
      | (refine' lim2 ?h_q11 ?k_q11; (case h_q11 => assumption); (case k_q11 => exact rfl))
      | (refine' lim0 ?h_q11; (case h_q11 => assumption))
      | (refine' lim3 ?h_q11 ?k_q11; (case h_q11 => assumption); (case k_q11 => exact rfl)))))
  trivial
example : True := by
  (k_with "my pick_all" => ((first | exact allNe_nil | (refine' allNe_cons ?a_q12 ?b_q12; (case a_q12 => k_ne); (case b_q12 => k_all)))))
  trivial
example : True := by
  (k_with "my eval Name" => ((k_here; (with_reducible show wpAny _ _ (eval (Expr.Name _ _) (compEnvC _ _ _ _)) _ _ _); k_dflt (first | refine LCgL.ld_own (by with_reducible assumption) (by k_mem) (by with_reducible assumption) (by with_reducible assumption) ?_ | refine LCgL.ld_global (by with_reducible assumption) (by with_reducible assumption) (by with_reducible assumption) (by k_is) ?_ | refine LCgL.ld_built (by with_reducible assumption) (by with_reducible assumption) (by with_reducible assumption) (by k_is) (by boot_by_name) (by decide) ?_))))
  trivial

noncomputable def worth (b0 b1 b2 b3 b4 b5 : UInt8) (n : Int) : Int :=
  Int.fmod (Int.fmod ((Int.fmod (((b5.toNat : Int) * n + (b4.toNat : Int)) * n + (b3.toNat : Int)) 16777216 * n + (b2.toNat : Int)) * n + (b1.toNat : Int)) 16777216 * n + (b0.toNat : Int)) 16777216
noncomputable def lastsB (b1 b2 b3 b4 b5 : UInt8) : Bool := decide (b1.toNat % 2 = 1) && (decide ((b2.toNat + b4.toNat) % 2 = 0) && decide ((b3.toNat + b5.toNat) % 2 = 0))
noncomputable def signs : Str := Str.ofString "ABCDEFGHIJKLMNOPQRSTUVWXYZabcdefghijklmnopqrstuvwxyz0123456789-_"
noncomputable def signS (n : Int) : Str := Txt.item (Str.ofString "ABCDEFGHIJKLMNOPQRSTUVWXYZabcdefghijklmnopqrstuvwxyz0123456789-_") n
/-- how often 64 goes into d, four at most -/
noncomputable def alikeZ (d : Int) : Int := if d % 64 ≠ 0 then 0 else if d % 4096 ≠ 0 then 1 else if d % 262144 ≠ 0 then 2 else if d % 16777216 ≠ 0 then 3 else 4

theorem worth_spec (w : World) (b0 b1 b2 b3 b4 b5 : UInt8) (n : Int) (tk tk2 : Tok) (h0 : 0 ≤ n) (h1 : n < 16777216) :
    SpecP w 237 [.bytes #[b0,b1,b2,b3,b4,b5] tk, .int n tk2] [] 1 (fun _ => True) (fun r _ _ => ∃ t, r = .int (worth b0 b1 b2 b3 b4 b5 n) t) := by
  unfold SpecP
  k_fill
  intro _ dp un gd outer base s Q E p loose mean mg mb B X T hpre hdp hun hret
  walk_at "my_enter"
  k_steps
  all_goals exact hret _ _ _ (Fr.keep (by assumption)) ⟨_, rfl⟩

theorem fm2 (x : Nat) (y : Int) (hy : 0 ≤ y): ((x : Int).fmod y) = (x : Int) % y := by
  rw [Int.fmod_eq_emod_of_nonneg _ hy]

theorem lasts1 {b1 b2 b3 b4 b5 : UInt8} (h1 : ((b1.toNat : Int)).fmod 2 = 1) (h2 : ((b2.toNat : Int) + (b4.toNat : Int)).fmod 2 = 0) : (((b3.toNat : Int) + (b5.toNat : Int)).fmod 2 == 0) = lastsB b1 b2 b3 b4 b5 := by
  rw [Int.fmod_eq_emod_of_nonneg _ (by decide)] at *
  unfold lastsB
  rw [decide_eq_true (by omega), decide_eq_true (by omega), Bool.true_and, Bool.true_and]
  rw [Bool.eq_iff_iff]; simp only [beq_iff_eq, decide_eq_true_eq]; omega
theorem lasts2 {b1 b2 b3 b4 b5 : UInt8} (h1 : ((b1.toNat : Int)).fmod 2 = 1) (h2 : ((b2.toNat : Int) + (b4.toNat : Int)).fmod 2 ≠ 0) : (((b2.toNat : Int) + (b4.toNat : Int)).fmod 2 == 0) = lastsB b1 b2 b3 b4 b5 := by
  unfold lastsB
  rw [Int.fmod_eq_emod_of_nonneg _ (by decide)] at *
  rw [decide_eq_true (by omega), decide_eq_false (p := (b2.toNat + b4.toNat) % 2 = 0) (by omega), Bool.true_and, Bool.false_and]
  simpa using h2
theorem lasts3 {b1 b2 b3 b4 b5 : UInt8} (h1 : ((b1.toNat : Int)).fmod 2 ≠ 1) : (((b1.toNat : Int)).fmod 2 == 1) = lastsB b1 b2 b3 b4 b5 := by
  unfold lastsB
  rw [Int.fmod_eq_emod_of_nonneg _ (by decide)] at *
  rw [decide_eq_false (p := b1.toNat % 2 = 1) (by omega), Bool.false_and]
  simpa using h1

theorem lasts_spec (w : World) (b0 b1 b2 b3 b4 b5 : UInt8) (tk : Tok) :
    SpecP w 244 [.bytes #[b0,b1,b2,b3,b4,b5] tk] [] 1 (fun _ => True) (fun r _ _ => r = .bool (lastsB b1 b2 b3 b4 b5)) := by
  unfold SpecP
  k_fill
  intro _ dp un gd outer base s Q E p loose mean mg mb B X T hpre hdp hun hret
  walk_at "my_enter"
  k_steps
  · exact hret _ _ _ (Fr.keep (by assumption)) (congrArg Value.bool (lasts1 (b1 := b1) (b2 := b2) (b3 := b3) (b4 := b4) (b5 := b5) (by assumption) (by assumption)))
  · exact hret _ _ _ (Fr.keep (by assumption)) (congrArg Value.bool (lasts2 (b1 := b1) (b2 := b2) (b3 := b3) (b4 := b4) (b5 := b5) (by assumption) (by assumption)))
  · exact hret _ _ _ (Fr.keep (by assumption)) (congrArg Value.bool (lasts3 (b1 := b1) (b2 := b2) (b3 := b3) (b4 := b4) (b5 := b5) (by assumption)))

theorem three_spec (w : World) (n : Int) (tk : Tok) (h0 : 0 ≤ n) (h1 : n < 16777216) :
    SpecP w 218 [.int n tk] [] 1 (fun _ => True) (fun r h h' => ∃ l t1 t2 t3, r = .ref l ∧ h'.get? l = some (W.listOf #[.int (n.fdiv 65536) t1, .int ((n.fdiv 256).fmod 256) t2, .int (n.fmod 256) t3] 0) ∧ h.get? l = none) := by
  unfold SpecP
  k_fill
  intro _ dp un gd outer base s Q E p loose mean mg mb B X T hpre hdp hun hret
  walk_at "my_enter"
  k_steps
  exact hret _ _ _ (Fr.keep (by assumption)) ⟨_, _, _, _, rfl, News.get (by k_asm) (by k_mem), News.fresh (by k_asm) (by k_mem)⟩

theorem sign_spec (w : World) (n : Int) (tk : Tok) (h0 : 0 ≤ n) (h1 : n < 64) :
    SpecP w 251 [.int n tk] [] 1 (fun _ => True) (fun r _ _ => ∃ t, r = .str (signS n) t) := by
  unfold SpecP
  k_fill
  intro _ dp un gd outer base s Q E p loose mean mg mb B X T hpre hdp hun hret
  walk_at "my_enter"
  k_steps
  all_goals exact hret _ _ _ (Fr.keep (by assumption)) ⟨_, rfl⟩

theorem alike_one {d j : Int} (h0 : 0 ≤ j) (h4 : j < 4) : (if j < 4 then if (d.fmod (64 ^ (j + 1).toNat) == 0) = true then true else false else false) = decide (d % 64 ^ (j + 1).toNat = 0) := by
  rw [if_pos h4, Int.fmod_eq_emod_of_nonneg _ (Int.le_of_lt (Int.pow_pos (by decide)))]
  by_cases h : d % 64 ^ (j + 1).toNat = 0 <;> simp [h]
theorem alike_is {d k : Int} (h0 : 0 ≤ k) (h4 : k ≤ max 0 4) (hall : ∀ j : Int, 0 ≤ j → j < k → (if j < 4 then if (d.fmod (64 ^ (j + 1).toNat) == 0) = true then true else false else false) = true)
    (hst : (if k < 4 then if (d.fmod (64 ^ (k + 1).toNat) == 0) = true then true else false else false) = false) : k = alikeZ d := by
  have all' : ∀ j : Int, 0 ≤ j → j < k → d % 64 ^ (j + 1).toNat = 0 := fun j a b => by
    have := hall j a b; rw [alike_one a (by omega)] at this; exact of_decide_eq_true this
  have st' : k < 4 → ¬ d % 64 ^ (k + 1).toNat = 0 := fun h => by
    rw [alike_one h0 h] at hst; exact of_decide_eq_false hst
  have c : k = 0 ∨ k = 1 ∨ k = 2 ∨ k = 3 ∨ k = 4 := by omega
  have a0 : 0 < k → d % 64 = 0 := fun h => by simpa using all' 0 (by omega) h
  have a1 : 1 < k → d % 4096 = 0 := fun h => by simpa using all' 1 (by omega) h
  have a2 : 2 < k → d % 262144 = 0 := fun h => by simpa using all' 2 (by omega) h
  have a3 : 3 < k → d % 16777216 = 0 := fun h => by simpa using all' 3 (by omega) h
  unfold alikeZ
  rcases c with rfl | rfl | rfl | rfl | rfl
  · have := st' (by omega); simp at this; simp [this]
  · have := st' (by omega); simp at this; simp [this, a0]
  · have := st' (by omega); simp at this; simp [this, a0, a1]
  · have := st' (by omega); simp at this; simp [this, a0, a1, a2]
  · simp [a0, a1, a2, a3]

theorem alike_spec (w : World) (n n2 : Int) (tk tk2 : Tok) (h0 : 0 ≤ n) (h1 : n < 16777216) (h2 : 0 ≤ n2) (h3 : n2 < 16777216) :
    SpecP w 282 [.int n tk, .int n2 tk2] [] 1 (fun _ => True) (fun r _ _ => ∃ t, r = .int (alikeZ (n - n2)) t) := by
  unfold SpecP
  k_fill
  intro _ dp un gd outer base s Q E p loose mean mg mb B X T hpre hdp hun hret
  walk_at "my_enter"
  k_steps
  all_goals exact hret _ _ _ (Fr.keep (by assumption)) ⟨_, congrArg (Value.int · _) (alike_is (by assumption) (by assumption) (by assumption) (by assumption))⟩

example : True := by
  k_with_none
  trivial
example : True := by
  (k_with "my my_enter" => ((refine wpAny_call ?_; k_dflt (first
      | (refine' enterP ?k3_q1 ?k5_q1 ?k6_q1 ?k7_q1 ?k8_q1 ?k9_q1 ?kB_q1 ?_ ?c2_q1 ?c3_q1 ?c4_q1 ?c5_q1; (case k3_q1 => k_asm); (case k5_q1 => k_asm); (case k6_q1 => k_is); (case k7_q1 => k_is); (case k8_q1 => k_room); (case k9_q1 => first | exact BindsTo.of_eq (binds := [(_, _)]) rfl | exact BindsTo.of_eq (binds := [(_, _), (_, _)]) rfl | exact BindsTo.of_eq rfl | exact binds_K (by k_in) rfl (by k_is) rfl rfl rfl | fail "my_enter: no rule for these arguments"); (case c5_q1 => decide); (case kB_q1 => exact locs rfl); (case c2_q1 => exact rfl); (case c3_q1 => exact rfl); (case c4_q1 => exact rfl); k_whole; intro L' h' F' N'; (try dsimp only); (try k_fold))
      | (refine' enterPC ?k3_q1 ?k5_q1 ?k6_q1 ?k7_q1 ?k8_q1 ?k9_q1 ?kB_q1 ?kD_q1 ?_ ?c2_q1 ?c3_q1 ?c4_q1; (case k3_q1 => k_asm); (case k5_q1 => k_asm); (case k6_q1 => k_is); (case k7_q1 => k_is); (case k8_q1 => k_room); (case k9_q1 => first | exact BindsTo.of_eq (binds := [(_, _)]) rfl | exact BindsTo.of_eq (binds := [(_, _), (_, _)]) rfl | exact BindsTo.of_eq rfl | exact binds_K (by k_in) rfl (by k_is) rfl rfl rfl | fail "my_enter: no rule for these arguments"); (case kB_q1 => exact rfl); (case kD_q1 => decide +kernel); (case c2_q1 => exact rfl); (case c3_q1 => exact rfl); (case c4_q1 => exact rfl); k_whole; intro L' h' tk' cells' F' N' Y'; k_cells Y'; (try simp only [List.cons_append, List.nil_append, List.append_nil] at N'); (try dsimp only); (try k_fold))))))
  trivial
example : True := by
  (k_with "my call type:type" => (((with_reducible show wpAny _ _ (call _ [Value.bytes _ _]) _ _ _); refine call_type_of (Tx := "bytes") rfl (by decide +kernel) ?_)))
  trivial
example : True := by
  (k_with "my my_steps" => (repeat' (first | (k_unfold; (try dsimp only)) | ((fail_if_success (with_reducible show InvEndN _ _ _ _ _ _ _)); first | walk1 | (dsimp only; walk1) | (leave1; try dsimp only)) | fail "no step")))
  trivial
example : True := by
  (k_with "my use_cases" => (((case kB => first | k_asm | fail "use: below"); (case kF => first | k_asm | fail "use: frame"); (case kX => first | k_asm | fail "use: written part"); (case kN => first | k_asm | fail "use: ledger"); (case kT => first | k_asm | fail "use: top"); (case kk => first | exact rfl | assumption | fail "use: kind"); (case kd => first | ktr_room | fail "use: room"); (case ku => first | ktr_units | fail "use: units"))))
  trivial
example : True := by
  (k_with "my my_enterT" => ((refine wpAny_call ?_; k_dflt (first
      | (refine' enterT ?ksub_q5 ?ksz_q5 ?k3_q5 ?k5_q5 ?kt_q5 ?kg_q5 ?k6_q5 ?k7_q5 ?k8_q5 ?k9_q5 ?kB_q5 ?_ ?c2_q5 ?c3_q5 ?c4_q5 ?c5_q5; (case ksub_q5 => assumption); (case ksz_q5 => assumption); (case kt_q5 => assumption); (case kg_q5 => assumption); (case k3_q5 => k_asm); (case k5_q5 => k_asm); (case k6_q5 => k_is); (case k7_q5 => k_is); (case k8_q5 => k_room); (case k9_q5 => first | exact BindsTo.of_eq (binds := [(_, _)]) rfl | exact BindsTo.of_eq (binds := [(_, _), (_, _)]) rfl | exact BindsTo.of_eq rfl | exact binds_K (by k_in) rfl (by k_is) rfl rfl rfl | fail "my_enter: no rule for these arguments"); (case c5_q5 => decide); (case kB_q5 => exact locs rfl); (case c2_q5 => exact rfl); (case c3_q5 => exact rfl); (case c4_q5 => exact rfl); k_whole; intro L' h' F' N' l0; (replace l0 := ltN l0); (try dsimp only); (try k_fold))
      | (refine' enterTC ?ksub_q5 ?ksz_q5 ?k3_q5 ?k5_q5 ?kt_q5 ?kg_q5 ?k6_q5 ?k7_q5 ?k8_q5 ?k9_q5 ?kB_q5 ?kD_q5 ?_ ?c2_q5 ?c3_q5 ?c4_q5; (case ksub_q5 => assumption); (case ksz_q5 => assumption); (case kt_q5 => assumption); (case kg_q5 => assumption); (case k3_q5 => k_asm); (case k5_q5 => k_asm); (case k6_q5 => k_is); (case k7_q5 => k_is); (case k8_q5 => k_room); (case k9_q5 => first | exact BindsTo.of_eq (binds := [(_, _)]) rfl | exact BindsTo.of_eq (binds := [(_, _), (_, _)]) rfl | exact BindsTo.of_eq rfl | exact binds_K (by k_in) rfl (by k_is) rfl rfl rfl | fail "my_enter: no rule for these arguments"); (case kB_q5 => exact rfl); (case kD_q5 => decide +kernel); (case c2_q5 => exact rfl); (case c3_q5 => exact rfl); (case c4_q5 => exact rfl); k_whole; intro L' h' tk' cells' F' N' Y' l0; (replace l0 := ltN l0); k_cells Y'; (try simp only [List.cons_append, List.nil_append, List.append_nil] at N'); (try dsimp only); (try k_fold))))))
  trivial
example : True := by
  (k_with "my execs cons" => (((with_reducible refine wpAny_execs_cons ?_); (try dsimp only); (try k_fold); (try ((rename Fr _ _ _ _ => F9); (refine foldFr F9 ?_); (intro mk9 F8); (clear F9))))))
  trivial
example : True := by
  (k_with "my size_fits" => (exact Nat.le_of_ble_eq_true rfl))
  trivial
example : True := by
  (k_with "my pick_chain" => (((iterate 15 (try (first | with_reducible assumption | apply pickR))); done)))
  trivial
example : True := by
  (k_with "my pick_one" => ((first | with_reducible assumption | (apply pickL; walk_at "pick_chain") | walk_at "pick_chain")))
  trivial
example : True := by
  (k_with "my pick_ne" => ((refine neN ?_; (try dsimp only); (first | with_reducible assumption | (refine Nat.ne_of_lt ?_; (simp only [*]; done)) | (refine Nat.ne_of_gt ?_; (simp only [*]; done)) | (simp only [*, ne_eq, not_false_eq_true]; done) | (refine Ne.symm ?_; (simp only [*, ne_eq, not_false_eq_true]; done)) | (refine ne_up ?_; (simp only [*]; done)) | (refine ne_up' ?_; (simp only [*]; done))))))
  trivial
example : True := by
  (k_with "my pick_lim" => ((first
      | (refine' lim1 ?h_q11 ?k_q11; (case h_q11 => assumption); (case k_q11 => exact rfl))
      | (refine' lim2 ?h_q11 ?k_q11; (case h_q11 => assumption); (case k_q11 => exact rfl))
      | (refine' lim0 ?h_q11; (case h_q11 => assumption))
      | (refine' lim3 ?h_q11 ?k_q11; (case h_q11 => assumption); (case k_q11 => exact rfl)))))
  trivial
example : True := by
  (k_with "my pick_all" => ((first | exact allNe_nil | (refine' allNe_cons ?a_q12 ?b_q12; (case a_q12 => k_ne); (case b_q12 => k_all)))))
  trivial
example : True := by
  (k_with "my eval Name" => ((k_here; (with_reducible show wpAny _ _ (eval (Expr.Name _ _) (compEnvC _ _ _ _)) _ _ _); k_dflt (first | refine LCgL.ld_own (by with_reducible assumption) (by k_mem) (by with_reducible assumption) (by with_reducible assumption) ?_ | refine LCgL.ld_global (by with_reducible assumption) (by with_reducible assumption) (by with_reducible assumption) (by k_is) ?_ | refine LCgL.ld_built (by with_reducible assumption) (by with_reducible assumption) (by with_reducible assumption) (by k_is) (by boot_by_name) (by decide) ?_))))
  trivial

section
theorem buffer_spec (w : World) (bs : Array UInt8) (tk : Tok) : SpecP w 28 [.bytes bs tk] [] 1 (fun _ => True) (fun r _ _ => r = .bytes bs tk) := by
  unfold SpecP
  k_fill
  intro _ dp un gd outer base s Q E p loose mean mg mb B X T hpre hdp hun hret
  walk_at "my_enter"
  k_steps
  all_goals exact hret _ _ _ (Fr.keep (by assumption)) rfl

theorem truth_spec (w : World) : SpecP w 35 [.bool false] [] 1 (fun _ => True) (fun r _ _ => r = .bool false) := by
  unfold SpecP
  k_fill
  intro _ dp un gd outer base s Q E p loose mean mg mb B X T hpre hdp hun hret
  walk_at "my_enter"
  k_steps
  all_goals exact hret _ _ _ (Fr.keep (by assumption)) rfl


noncomputable def B64L : List UInt8 := [65, 66, 67, 68, 69, 70, 71, 72, 73, 74, 75, 76, 77, 78, 79, 80, 81, 82, 83, 84, 85, 86, 87, 88, 89, 90, 97, 98, 99, 100, 101, 102, 103, 104, 105, 106, 107, 108, 109, 110, 111, 112, 113, 114, 115, 116, 117, 118, 119, 120, 121, 122, 48, 49, 50, 51, 52, 53, 54, 55, 56, 57, 43, 47]
noncomputable def b64At (i : Int) : Int := ((B64L.getD i.toNat 0).toNat : Int)
theorem b64_item {prog : Program} {w : World} {A : Around} {E : Value → Shared → Prop} {s : Shared} {i : Int} {t ui : Tok} {value slice : Expr} {Q : Value → Shared → Prop} (h0 : 0 ≤ i) (h1 : i < 64)
    (h : Q (.int (b64At i) s.toks) { s with toks := s.toks + 1 })
    (hs : subscripted slice false (.bytes B64L.toArray t) (.int i ui) = operate [.bytes B64L.toArray t, .int i ui] (getItem (.bytes B64L.toArray t) (.int i ui)) := by with_unfolding_all rfl)
    (ht : ∀ r, letTemporaryGo value (.bytes B64L.toArray t) r = pure () := by intro _; with_unfolding_all rfl) : wpAny (model prog w) A (subscriptTail value slice (.bytes B64L.toArray t) (.int i ui)) Q E s :=
  bytes_item_K (by decide) h0 (by have : B64L.length = 64 := rfl; rw [this]; exact h1) rfl h hs ht

/-- one octet more: the signs written so far, how many bits are left over, the last two octets -/
noncomputable def b64Step (c : List Int × Int × Int) (n : Int) : List Int × Int × Int :=
  let d := Builtin.bitAnd (Builtin.bitOr (c.2.2 * 2 ^ 8) n) 65535
  if c.2.1 = 0 then (c.1 ++ [b64At (Builtin.bitAnd (d.fdiv (2 ^ 2)) 63)], 2, d)
  else if c.2.1 = 2 then (c.1 ++ [b64At (Builtin.bitAnd (d.fdiv (2 ^ 4)) 63)], 4, d)
  else (c.1 ++ [b64At (Builtin.bitAnd (d.fdiv (2 ^ 6)) 63)] ++ [b64At (Builtin.bitAnd (d.fdiv (2 ^ 0)) 63)], 0, d)
noncomputable def b64Fold (ns : List Int) : List Int × Int × Int := ns.foldl b64Step ([], 0, 0)
theorem b64Fold_snoc (ns : List Int) (n : Int) : b64Fold (ns ++ [n]) = b64Step (b64Fold ns) n := by unfold b64Fold; rw [List.foldl_append]; rfl

noncomputable abbrev BSt := List Value × List Int × Nat × Int × Tok × Int × Tok
noncomputable def b64Tail (c : List Int × Int × Int) : List Int :=
  if c.2.1 = 2 then c.1 ++ [b64At (Builtin.bitAnd c.2.2 3 * 2 ^ 4)] ++ [61] ++ [61] else if c.2.1 = 4 then c.1 ++ [b64At (Builtin.bitAnd c.2.2 15 * 2 ^ 2)] ++ [61] else c.1
noncomputable def b64Enc (bs : Array UInt8) : List Int := b64Tail (b64Fold (KBw.bInts bs))
@[irreducible] noncomputable def b64Inv (pre out : List Int) (lb lc : Int) : Prop := b64Fold pre = (out, lb, lc) ∧ (lb = 0 ∨ lb = 2 ∨ lb = 4) ∧ out.length ≤ 2 * pre.length ∧ 0 ≤ lc ∧ lc < 65536 ∧ ∀ x ∈ out, 0 ≤ x ∧ x < 256
theorem b64Inv_start : b64Inv [] [] 0 0 := by unfold b64Inv; simp [b64Fold]

example : True := by
  (k_with "my subscriptTail Name BinOp bytes int" => ((refine b64_item ?ba_q14 ?bb_q14 ?_; (case ba_q14 => exact (bitAnd_range _ (by decide)).1); (case bb_q14 => exact Int.lt_of_le_of_lt (bitAnd_range _ (by decide)).2 (by decide)))))
  trivial
theorem all_snoc {P : Int → Prop} {out : List Int} {a : Int} (h : ∀ x ∈ out, P x) (ha : P a) : ∀ x ∈ out ++ [a], P x := fun x hx => by
  rcases List.mem_append.mp hx with q | q
  · exact h x q
  · rw [List.mem_singleton.mp q]; exact ha
theorem b64At_in (i : Int) : 0 ≤ b64At i ∧ b64At i < 256 := by
  unfold b64At
  have := (B64L.getD i.toNat 0).toNat_lt
  omega
theorem b64Inv_turn0 {pre out : List Int} {lc n : Int} (h : b64Inv pre out 0 lc) : b64Inv (pre ++ [n]) (out ++ [b64At (Builtin.bitAnd ((Builtin.bitAnd (Builtin.bitOr (lc * 2 ^ 8) n) 65535).fdiv (2 ^ 2)) 63)]) 2 (Builtin.bitAnd (Builtin.bitOr (lc * 2 ^ 8) n) 65535) := by
  unfold b64Inv at h ⊢
  obtain ⟨h1, _, h3, _, _, h6⟩ := h
  have hr := bitAnd_range (Builtin.bitOr (lc * 2 ^ 8) n) (y := 65535) (by decide)
  refine ⟨by rw [b64Fold_snoc, h1]; rfl, by decide, by simp only [List.length_append, List.length_cons, List.length_nil]; omega, hr.1, by omega, by first | exact all_snoc h6 (b64At_in _) | exact all_snoc (all_snoc h6 (b64At_in _)) (b64At_in _)⟩
theorem b64Inv_turn2 {pre out : List Int} {lc n : Int} (h : b64Inv pre out 2 lc) : b64Inv (pre ++ [n]) (out ++ [b64At (Builtin.bitAnd ((Builtin.bitAnd (Builtin.bitOr (lc * 2 ^ 8) n) 65535).fdiv (2 ^ 4)) 63)]) 4 (Builtin.bitAnd (Builtin.bitOr (lc * 2 ^ 8) n) 65535) := by
  unfold b64Inv at h ⊢
  obtain ⟨h1, _, h3, _, _, h6⟩ := h
  have hr := bitAnd_range (Builtin.bitOr (lc * 2 ^ 8) n) (y := 65535) (by decide)
  refine ⟨by rw [b64Fold_snoc, h1]; rfl, by decide, by simp only [List.length_append, List.length_cons, List.length_nil]; omega, hr.1, by omega, by first | exact all_snoc h6 (b64At_in _) | exact all_snoc (all_snoc h6 (b64At_in _)) (b64At_in _)⟩
theorem b64Inv_turn4 {pre out : List Int} {lc n : Int} (h : b64Inv pre out 4 lc) : b64Inv (pre ++ [n]) (out ++ [b64At (Builtin.bitAnd ((Builtin.bitAnd (Builtin.bitOr (lc * 2 ^ 8) n) 65535).fdiv (2 ^ 6)) 63)] ++ [b64At (Builtin.bitAnd ((Builtin.bitAnd (Builtin.bitOr (lc * 2 ^ 8) n) 65535).fdiv (2 ^ 0)) 63)]) 0 (Builtin.bitAnd (Builtin.bitOr (lc * 2 ^ 8) n) 65535) := by
  unfold b64Inv at h ⊢
  obtain ⟨h1, _, h3, _, _, h6⟩ := h
  have hr := bitAnd_range (Builtin.bitOr (lc * 2 ^ 8) n) (y := 65535) (by decide)
  refine ⟨by rw [b64Fold_snoc, h1]; rfl, by decide, by simp only [List.length_append, List.length_cons, List.length_nil]; omega, hr.1, by omega, by first | exact all_snoc h6 (b64At_in _) | exact all_snoc (all_snoc h6 (b64At_in _)) (b64At_in _)⟩
theorem ints_snoc {vs : List Value} {ns : List Int} {n : Int} {t : Tok} (h : IntsAre vs ns) : IntsAre (vs ++ [.int n t]) (ns ++ [n]) := by
  induction h with
  | nil => exact .cons _ _ .nil
  | cons _ _ _ ih => exact .cons _ _ ih
theorem b2a_fit {vs : List Value} {v : Value} (h : vs.length ≤ 2000) : vs.toArray.size ≤ sizeLine := by rw [sizeLine_eq, List.size_toArray]; omega
theorem b2a_fit2 {vs : List Value} {v : Value} (h : vs.length ≤ 2000) : (vs.toArray.push v).size ≤ sizeLine := by rw [sizeLine_eq, Array.size_push, List.size_toArray]; omega
theorem b2a_fit3 {vs : List Value} {v u : Value} (h : vs.length ≤ 2000) : ((vs.toArray.push v).push u).size ≤ sizeLine := by rw [sizeLine_eq, Array.size_push, Array.size_push, List.size_toArray]; omega
example : True := by
  (k_with "my call builtin:list.append" => ((refine append_K (by k_asm) (by k_asm) (Upd.head (by first | assumption | exact List.forall_mem_nil _)) ?_ (by first | exact b2a_fit (by assumption) | exact b2a_fit2 (by assumption) | exact b2a_fit3 (by assumption)); intro h' F' N'; (try k_sweep))))
  trivial
theorem three_bits {x : Int} : 0 ≤ Builtin.bitAnd x 3 * 2 ^ 4 ∧ Builtin.bitAnd x 3 * 2 ^ 4 < 64 := by have := bitAnd_range x (y := 3) (by decide); omega
theorem four_bits {x : Int} : 0 ≤ Builtin.bitAnd x 15 * 2 ^ 2 ∧ Builtin.bitAnd x 15 * 2 ^ 2 < 64 := by have := bitAnd_range x (y := 15) (by decide); omega
example : True := by
  (k_with "my subscriptTail Name BinOp bytes int" => (first | (refine b64_item ?ba_q16 ?bb_q16 ?_; (case ba_q16 => exact three_bits.1); (case bb_q16 => exact three_bits.2)) | (refine b64_item ?ba_q16 ?bb_q16 ?_; (case ba_q16 => exact four_bits.1); (case bb_q16 => exact four_bits.2))))
  trivial
theorem mask_small (x : Int) {y : Int} (hy : 0 ≤ y) (h2 : y < 1000) : (Builtin.bitAnd x y).natAbs < 2 ^ 64 := by have := bitAnd_range x hy; omega
example : True := by
  (k_with "my binaryOp LShift int int" => (((with_reducible show wpAny _ _ (binaryOp _ (Value.int (Builtin.bitAnd _ _) _) _) _ _ _); refine lshift_int_small (by decide) (by decide) (mask_small _ (by decide) (by decide)) ?_)))
  trivial
theorem fit3 {vs : List Value} {a b c : Value} (h : vs.length ≤ 2000) : (vs ++ [a] ++ [b] ++ [c]).length ≤ sizeLine := by rw [sizeLine_eq]; simp only [List.length_append, List.length_cons, List.length_nil]; omega
theorem fit2 {vs : List Value} {a b : Value} (h : vs.length ≤ 2000) : (vs ++ [a] ++ [b]).length ≤ sizeLine := by rw [sizeLine_eq]; simp only [List.length_append, List.length_cons, List.length_nil]; omega
theorem fit0 {vs : List Value} (h : vs.length ≤ 2000) : vs.length ≤ sizeLine := by rw [sizeLine_eq]; omega
example : True := by
  (k_with "my execs cons" => (((with_reducible refine wpAny_execs_cons ?_); (try dsimp only); (try (with_reducible refine genState (s₀ := s) rfl ?_; intro tk9)); (try k_fold))))
  trivial
theorem b2a_spec (w : World) (bs : Array UInt8) (tk : Tok) (hsz : bs.size ≤ 1000) : SpecP w 43 [.bytes bs tk] [(Str.ofString "newline", .bool false)] 2 (fun _ => True) (fun r _ _ => ∃ t, r = .bytes ((b64Enc bs).map fun n => n.toNat.toUInt8).toArray t) := by
  unfold SpecP
  k_fill
  intro _ dp un gd outer base s Q E p loose mean mg mb B X T hpre hdp hun hret
  walk_at "my_enter"
  k_steps
  rename Fr _ _ _ _ => hF
  rename News _ _ _ _ => hN
  refine' KStb.kst_bytes (σ := BSt) (fun c => [(_, W.listOf c.1.toArray c.2.2.1)]) (fun c => [(Str.ofString "leftbits", Value.int c.2.2.2.1 c.2.2.2.2.1), (Str.ofString "leftchar", Value.int c.2.2.2.2.2.1 c.2.2.2.2.2.2)])
    (fun c => IntsAre c.1 c.2.1) [] (fun pre c => b64Inv pre c.2.1 c.2.2.2.1 c.2.2.2.2.2.1) ([], [], 0, 0, ?t1, 0, ?t2) rfl rfl rfl hF hN ?kf ?kk ?kp ?turn ?done
  case kk => exact List.forall_mem_cons.mpr ⟨by with_unfolding_all rfl, List.forall_mem_cons.mpr ⟨by with_unfolding_all rfl, List.forall_mem_nil _⟩⟩
  case kf => exact IntsAre.nil
  case kp => exact b64Inv_start
  case turn =>
    rintro ⟨vs, out, nn, lb, tlb, lc, tlc⟩ pre post n t u h tk own hks hlen hn0 hn1 hoff hf hI hF' hN'
    dsimp only at hf hI hF' hN'
    have hI2 := hI
    unfold b64Inv at hI2
    obtain ⟨hI1, hI3, _, hI4, hI5, hI6⟩ := hI2
    dsimp only [kstB] at hF'
    simp only [List.map_cons, List.map_nil] at hoff
    simp only [List.cons_append, List.nil_append] at hN'
    have hne : ∀ q ∈ own, q.1 ≠ _ := fun q hq => hoff q hq _ (List.mem_singleton.mpr rfl)
    have hvl : vs.length ≤ 2000 := by
      rw [hf.length]
      have : pre.length < bs.size := by rw [KBw.ints_length] at hlen; exact hlen
      omega
    (try k_fold)
    rcases hI3 with rfl | rfl | rfl
    · walk_at "my_steps"
      rename News _ _ _ _ => hNe
      simp only [List.push_toArray] at hNe
      refine' InvEndN.intro (by assumption) hNe ⟨(vs ++ [_], out ++ [_], nn + 1, 2, _, _, _), rfl, ?fa, List.forall_mem_cons.mpr ⟨by with_unfolding_all rfl, List.forall_mem_cons.mpr ⟨by with_unfolding_all rfl, List.forall_mem_nil _⟩⟩, ?ot, ?pp⟩ (by with_unfolding_all rfl) (List.forall_mem_cons.mpr ⟨List.Mem.head _, List.forall_mem_nil _⟩) (fun q hq => List.Mem.tail _ hq)
      case fa => exact ints_snoc hf
      case pp => exact b64Inv_turn0 hI
      case ot =>
        intro z h1 h2 _
        have a := h2 _ (List.Mem.head _)
        have b := h2 _ (List.Mem.tail _ (List.Mem.head _))
        simp only [h1, a, b, if_false]
        simp
    · walk_at "my_steps"
      rename News _ _ _ _ => hNe
      simp only [List.push_toArray] at hNe
      refine' InvEndN.intro (by assumption) hNe ⟨(vs ++ [_], out ++ [_], nn + 1, 4, _, _, _), rfl, ?fa, List.forall_mem_cons.mpr ⟨by with_unfolding_all rfl, List.forall_mem_cons.mpr ⟨by with_unfolding_all rfl, List.forall_mem_nil _⟩⟩, ?ot, ?pp⟩ (by with_unfolding_all rfl) (List.forall_mem_cons.mpr ⟨List.Mem.head _, List.forall_mem_nil _⟩) (fun q hq => List.Mem.tail _ hq)
      case fa => exact ints_snoc hf
      case pp => exact b64Inv_turn2 hI
      case ot =>
        intro z h1 h2 _
        have a := h2 _ (List.Mem.head _)
        have b := h2 _ (List.Mem.tail _ (List.Mem.head _))
        simp only [h1, a, b, if_false]
        simp
    · walk_at "my_steps"
      rename News _ _ _ _ => hNe
      simp only [List.push_toArray] at hNe
      refine' InvEndN.intro (by assumption) hNe ⟨(vs ++ [_] ++ [_], out ++ [_] ++ [_], nn + 1 + 1, 0, _, _, _), rfl, ?fa, List.forall_mem_cons.mpr ⟨by with_unfolding_all rfl, List.forall_mem_cons.mpr ⟨by with_unfolding_all rfl, List.forall_mem_nil _⟩⟩, ?ot, ?pp⟩ (by with_unfolding_all rfl) (List.forall_mem_cons.mpr ⟨List.Mem.head _, List.forall_mem_nil _⟩) (fun q hq => List.Mem.tail _ hq)
      case fa => exact ints_snoc (ints_snoc hf)
      case pp => exact b64Inv_turn4 hI
      case ot =>
        intro z h1 h2 _
        have a := h2 _ (List.Mem.head _)
        have b := h2 _ (List.Mem.tail _ (List.Mem.head _))
        simp only [h1, a, b, if_false]
        simp
  case done =>
    rintro ⟨vs, out, nn, lb, tlb, lc, tlc⟩ u h tk hlen hf hI hF' hN'
    dsimp only at hf hI hF' hN'
    have hI2 := hI
    unfold b64Inv at hI2
    obtain ⟨hI1, hI3, _, hI4, hI5, hI6⟩ := hI2
    dsimp only [kstB] at hF'
    have hvl : vs.length ≤ 2000 := by
      rw [hf.length]
      have : (KBw.bInts bs).length = bs.size := KBw.ints_length bs
      omega
    (try k_fold)
    rcases hI3 with rfl | rfl | rfl
    all_goals walk_at "my_steps"
    · refine' hret _ _ _ (Fr.keep (by assumption)) ⟨?tt, ?_⟩
      rotate_left
      · unfold b64Enc b64Tail
        rw [hI1]
        rfl
    · rename News _ _ _ _ => hNe
      simp only [List.push_toArray] at hNe
      refine' bytes_K ?F ?N ?l ?i ?r ?z ?h ?_
      case F => k_asm
      case N => exact hNe
      case l => is_list
      case i => exact ints_snoc (ints_snoc (ints_snoc hf))
      case r => exact all_snoc (all_snoc (all_snoc hI6 (b64At_in _)) (by decide)) (by decide)
      case z => exact fit3 hvl
      case h => exact rfl
      intro h' t k F' N' _
      refine hret _ _ _ (Fr.keep F') ⟨t, ?_⟩
      · unfold b64Enc b64Tail
        rw [hI1]
        rfl
    · rename News _ _ _ _ => hNe
      simp only [List.push_toArray] at hNe
      refine' bytes_K ?F ?N ?l ?i ?r ?z ?h ?_
      case F => k_asm
      case N => exact hNe
      case l => is_list
      case i => exact ints_snoc (ints_snoc hf)
      case r => exact all_snoc (all_snoc hI6 (b64At_in _)) (by decide)
      case z => exact fit2 hvl
      case h => exact rfl
      intro h' t k F' N' _
      refine hret _ _ _ (Fr.keep F') ⟨t, ?_⟩
      · unfold b64Enc b64Tail
        rw [hI1]
        rfl
end

example : True := by
  k_with_none
  trivial
example : True := by
  (k_with "my my_enter" => ((refine wpAny_call ?_; k_dflt (first
      | (refine' enterP ?k3_q1 ?k5_q1 ?k6_q1 ?k7_q1 ?k8_q1 ?k9_q1 ?kB_q1 ?_ ?c2_q1 ?c3_q1 ?c4_q1 ?c5_q1; (case k3_q1 => k_asm); (case k5_q1 => k_asm); (case k6_q1 => k_is); (case k7_q1 => k_is); (case k8_q1 => k_room); (case k9_q1 => first | exact BindsTo.of_eq (binds := [(_, _)]) rfl | exact BindsTo.of_eq (binds := [(_, _), (_, _)]) rfl | exact BindsTo.of_eq rfl | exact binds_K (by k_in) rfl (by k_is) rfl rfl rfl | fail "my_enter: no rule for these arguments"); (case c5_q1 => decide); (case kB_q1 => exact locs rfl); (case c2_q1 => exact rfl); (case c3_q1 => exact rfl); (case c4_q1 => exact rfl); k_whole; intro L' h' F' N'; (try dsimp only); (try k_fold))
      | (refine' enterPC ?k3_q1 ?k5_q1 ?k6_q1 ?k7_q1 ?k8_q1 ?k9_q1 ?kB_q1 ?kD_q1 ?_ ?c2_q1 ?c3_q1 ?c4_q1; (case k3_q1 => k_asm); (case k5_q1 => k_asm); (case k6_q1 => k_is); (case k7_q1 => k_is); (case k8_q1 => k_room); (case k9_q1 => first | exact BindsTo.of_eq (binds := [(_, _)]) rfl | exact BindsTo.of_eq (binds := [(_, _), (_, _)]) rfl | exact BindsTo.of_eq rfl | exact binds_K (by k_in) rfl (by k_is) rfl rfl rfl | fail "my_enter: no rule for these arguments"); (case kB_q1 => exact rfl); (case kD_q1 => decide +kernel); (case c2_q1 => exact rfl); (case c3_q1 => exact rfl); (case c4_q1 => exact rfl); k_whole; intro L' h' tk' cells' F' N' Y'; k_cells Y'; (try simp only [List.cons_append, List.nil_append, List.append_nil] at N'); (try dsimp only); (try k_fold))))))
  trivial
example : True := by
  (k_with "my call type:type" => (((with_reducible show wpAny _ _ (call _ [Value.bytes _ _]) _ _ _); refine call_type_of (Tx := "bytes") rfl (by decide +kernel) ?_)))
  trivial
example : True := by
  (k_with "my my_steps" => (repeat' (first | (k_unfold; (try dsimp only)) | ((fail_if_success (with_reducible show InvEndN _ _ _ _ _ _ _)); first | walk1 | (dsimp only; walk1) | (leave1; try dsimp only)) | fail "no step")))
  trivial
example : True := by
  (k_with "my use_cases" => (((case kB => first | k_asm | fail "use: below"); (case kF => first | k_asm | fail "use: frame"); (case kX => first | k_asm | fail "use: written part"); (case kN => first | k_asm | fail "use: ledger"); (case kT => first | k_asm | fail "use: top"); (case kk => first | exact rfl | assumption | fail "use: kind"); (case kd => first | ktr_room | fail "use: room"); (case ku => first | ktr_units | fail "use: units"))))
  trivial
example : True := by
  (k_with "my my_enterT" => ((refine wpAny_call ?_; k_dflt (first
      | (refine' enterT ?ksub_q5 ?ksz_q5 ?k3_q5 ?k5_q5 ?kt_q5 ?kg_q5 ?k6_q5 ?k7_q5 ?k8_q5 ?k9_q5 ?kB_q5 ?_ ?c2_q5 ?c3_q5 ?c4_q5 ?c5_q5; (case ksub_q5 => assumption); (case ksz_q5 => assumption); (case kt_q5 => assumption); (case kg_q5 => assumption); (case k3_q5 => k_asm); (case k5_q5 => k_asm); (case k6_q5 => k_is); (case k7_q5 => k_is); (case k8_q5 => k_room); (case k9_q5 => first | exact BindsTo.of_eq (binds := [(_, _)]) rfl | exact BindsTo.of_eq (binds := [(_, _), (_, _)]) rfl | exact BindsTo.of_eq rfl | exact binds_K (by k_in) rfl (by k_is) rfl rfl rfl | fail "my_enter: no rule for these arguments"); (case c5_q5 => decide); (case kB_q5 => exact locs rfl); (case c2_q5 => exact rfl); (case c3_q5 => exact rfl); (case c4_q5 => exact rfl); k_whole; intro L' h' F' N' l0; (replace l0 := ltN l0); (try dsimp only); (try k_fold))
      | (refine' enterTC ?ksub_q5 ?ksz_q5 ?k3_q5 ?k5_q5 ?kt_q5 ?kg_q5 ?k6_q5 ?k7_q5 ?k8_q5 ?k9_q5 ?kB_q5 ?kD_q5 ?_ ?c2_q5 ?c3_q5 ?c4_q5; (case ksub_q5 => assumption); (case ksz_q5 => assumption); (case kt_q5 => assumption); (case kg_q5 => assumption); (case k3_q5 => k_asm); (case k5_q5 => k_asm); (case k6_q5 => k_is); (case k7_q5 => k_is); (case k8_q5 => k_room); (case k9_q5 => first | exact BindsTo.of_eq (binds := [(_, _)]) rfl | exact BindsTo.of_eq (binds := [(_, _), (_, _)]) rfl | exact BindsTo.of_eq rfl | exact binds_K (by k_in) rfl (by k_is) rfl rfl rfl | fail "my_enter: no rule for these arguments"); (case kB_q5 => exact rfl); (case kD_q5 => decide +kernel); (case c2_q5 => exact rfl); (case c3_q5 => exact rfl); (case c4_q5 => exact rfl); k_whole; intro L' h' tk' cells' F' N' Y' l0; (replace l0 := ltN l0); k_cells Y'; (try simp only [List.cons_append, List.nil_append, List.append_nil] at N'); (try dsimp only); (try k_fold))))))
  trivial
example : True := by
  (k_with "my execs cons" => (((with_reducible refine wpAny_execs_cons ?_); (try dsimp only); (try k_fold); (try ((rename Fr _ _ _ _ => F9); (refine foldFr F9 ?_); (intro mk9 F8); (clear F9))))))
  trivial
example : True := by
  (k_with "my size_fits" => (exact Nat.le_of_ble_eq_true rfl))
  trivial
example : True := by
  (k_with "my pick_chain" => (((iterate 15 (try (first | with_reducible assumption | apply pickR))); done)))
  trivial
example : True := by
  (k_with "my pick_one" => ((first | with_reducible assumption | (apply pickL; walk_at "pick_chain") | walk_at "pick_chain")))
  trivial
example : True := by
  (k_with "my pick_ne" => ((refine neN ?_; (try dsimp only); (first | with_reducible assumption | (refine Nat.ne_of_lt ?_; (simp only [*]; done)) | (refine Nat.ne_of_gt ?_; (simp only [*]; done)) | (simp only [*, ne_eq, not_false_eq_true]; done) | (refine Ne.symm ?_; (simp only [*, ne_eq, not_false_eq_true]; done)) | (refine ne_up ?_; (simp only [*]; done)) | (refine ne_up' ?_; (simp only [*]; done))))))
  trivial
example : True := by
  (k_with "my pick_lim" => ((first
      | (refine' lim1 ?h_q11 ?k_q11; (case h_q11 => assumption); (case k_q11 => exact rfl))
      | (refine' lim2 ?h_q11 ?k_q11; (case h_q11 => assumption); (case k_q11 => exact rfl))
      | (refine' lim0 ?h_q11; (case h_q11 => assumption))
      | (refine' lim3 ?h_q11 ?k_q11; (case h_q11 => assumption); (case k_q11 => exact rfl)))))
  trivial
example : True := by
  (k_with "my pick_all" => ((first | exact allNe_nil | (refine' allNe_cons ?a_q12 ?b_q12; (case a_q12 => k_ne); (case b_q12 => k_all)))))
  trivial
example : True := by
  (k_with "my eval Name" => ((k_here; (with_reducible show wpAny _ _ (eval (Expr.Name _ _) (compEnvC _ _ _ _)) _ _ _); k_dflt (first | refine LCgL.ld_own (by with_reducible assumption) (by k_mem) (by with_reducible assumption) (by with_reducible assumption) ?_ | refine LCgL.ld_global (by with_reducible assumption) (by with_reducible assumption) (by with_reducible assumption) (by k_is) ?_ | refine LCgL.ld_built (by with_reducible assumption) (by with_reducible assumption) (by with_reducible assumption) (by k_is) (by boot_by_name) (by decide) ?_))))
  trivial

section
example : True := by
  (k_with "my getMethod bytes" => ((with_reducible refine method_translate ?_)))
  trivial
example : True := by
  (k_with "my getMethod type:bytes" => ((k_here; refine' method_type ?F_q20 ?X_q20 ?m_q20 (by decide +kernel) ?e_q20 ?h_q20 ?_; (case F_q20 => k_asm); (case X_q20 => k_asm); (case m_q20 => kernel_rfl); (case e_q20 => k_dflt k_is); (case h_q20 => k_handed))))
  trivial
example : True := by
  (k_with "my call builtin:bytes.maketrans" => ((refine call_maketrans ?_; intro _ _)))
  trivial
theorem b64Fold_len (ns : List Int) : ∀ c : List Int × Int × Int, (ns.foldl b64Step c).1.length ≤ c.1.length + 2 * ns.length := by
  induction ns with
  | nil => intro c; simp
  | cons n r ih =>
    intro c
    have h1 : (b64Step c n).1.length ≤ c.1.length + 2 := by
      unfold b64Step
      dsimp only
      split
      · simp
      · split <;> simp
    have := ih (b64Step c n)
    rw [List.foldl_cons, List.length_cons]
    omega
theorem b64Enc_fit {bs : Array UInt8} (h : bs.size ≤ 1000) : (b64Enc bs).length ≤ 16777216 := by
  have h1 := b64Fold_len (KBw.bInts bs) ([], 0, 0)
  rw [KBw.ints_length] at h1
  have h2 : (b64Enc bs).length ≤ (b64Fold (KBw.bInts bs)).1.length + 3 := by
    unfold b64Enc b64Tail
    split
    · simp
    · split <;> simp
  unfold b64Fold at h2
  have : ([] : List Int).length = 0 := rfl
  dsimp only at h1
  omega
example : True := by
  (k_with "my call builtin:bytes.translate" => ((refine call_translate ?hs_q22 ?hb_q22 ?_; (case hs_q22 => (show urlTab.size = 256; decide +kernel)); (case hb_q22 => (show Array.size _ ≤ _; (rw [List.size_toArray, List.length_map]); exact b64Enc_fit (by assumption))); intro _ _)))
  trivial
theorem enc_spec (w : World) (bs : Array UInt8) (tk tk2 : Tok) (hsz : bs.size ≤ 1000) : SpecP w 51 [.bytes bs tk, .bytes #[45, 95] tk2] [] 3 (fun _ => True) (fun r _ _ => ∃ t, r = .bytes (trans urlTab ((b64Enc bs).map fun n => n.toNat.toUInt8).toArray) t) := by
  unfold SpecP
  k_fill
  intro _ dp un gd outer base s Q E p loose mean mg mb B X T hpre hdp hun hret
  walk_at "my_enter"
  k_with "call ref" => (k_dflt (refine' useP (b2a_spec _ _ _ hsz) ?kB ?kF ?kX ?kN ?kT ?kk ?kp ?kd ?ku ?_; (walk_at "use_cases"); (case kp => trivial); (intro r9 h9 tk9 F9 N9 P9 K9; obtain ⟨t9, rfl⟩ := P9; (try dsimp only); (try k_fold))))
  walk_at "my_steps"
  all_goals exact hret _ _ _ (Fr.keep (by assumption)) ⟨_, rfl⟩

theorem url_spec (w : World) (bs : Array UInt8) (tk : Tok) (hsz : bs.size ≤ 1000) : SpecP w 58 [.bytes bs tk] [] 4 (fun _ => True) (fun r _ _ => ∃ t, r = .bytes (trans urlTab ((b64Enc bs).map fun n => n.toNat.toUInt8).toArray) t) := by
  unfold SpecP
  k_fill
  intro _ dp un gd outer base s Q E p loose mean mg mb B X T hpre hdp hun hret
  walk_at "my_enter"
  k_with "call ref" => (k_dflt (refine' useP (b2a_spec _ _ _ hsz) ?kB ?kF ?kX ?kN ?kT ?kk ?kp ?kd ?ku ?_; (walk_at "use_cases"); (case kp => trivial); (intro r9 h9 tk9 F9 N9 P9 K9; obtain ⟨t9, rfl⟩ := P9; (try dsimp only); (try k_fold))))
  walk_at "my_steps"
  all_goals exact hret _ _ _ (Fr.keep (by assumption)) ⟨_, rfl⟩
end

example : True := by
  k_with_none
  trivial
example : True := by
  (k_with "my my_enter" => ((refine wpAny_call ?_; k_dflt (first
      | (refine' enterP ?k3_q1 ?k5_q1 ?k6_q1 ?k7_q1 ?k8_q1 ?k9_q1 ?kB_q1 ?_ ?c2_q1 ?c3_q1 ?c4_q1 ?c5_q1; (case k3_q1 => k_asm); (case k5_q1 => k_asm); (case k6_q1 => k_is); (case k7_q1 => k_is); (case k8_q1 => k_room); (case k9_q1 => first | exact BindsTo.of_eq (binds := [(_, _)]) rfl | exact BindsTo.of_eq (binds := [(_, _), (_, _)]) rfl | exact BindsTo.of_eq rfl | exact binds_K (by k_in) rfl (by k_is) rfl rfl rfl | fail "my_enter: no rule for these arguments"); (case c5_q1 => decide); (case kB_q1 => exact locs rfl); (case c2_q1 => exact rfl); (case c3_q1 => exact rfl); (case c4_q1 => exact rfl); k_whole; intro L' h' F' N'; (try dsimp only); (try k_fold))
      | (refine' enterPC ?k3_q1 ?k5_q1 ?k6_q1 ?k7_q1 ?k8_q1 ?k9_q1 ?kB_q1 ?kD_q1 ?_ ?c2_q1 ?c3_q1 ?c4_q1; (case k3_q1 => k_asm); (case k5_q1 => k_asm); (case k6_q1 => k_is); (case k7_q1 => k_is); (case k8_q1 => k_room); (case k9_q1 => first | exact BindsTo.of_eq (binds := [(_, _)]) rfl | exact BindsTo.of_eq (binds := [(_, _), (_, _)]) rfl | exact BindsTo.of_eq rfl | exact binds_K (by k_in) rfl (by k_is) rfl rfl rfl | fail "my_enter: no rule for these arguments"); (case kB_q1 => exact rfl); (case kD_q1 => decide +kernel); (case c2_q1 => exact rfl); (case c3_q1 => exact rfl); (case c4_q1 => exact rfl); k_whole; intro L' h' tk' cells' F' N' Y'; k_cells Y'; (try simp only [List.cons_append, List.nil_append, List.append_nil] at N'); (try dsimp only); (try k_fold))))))
  trivial
example : True := by
  (k_with "my call type:type" => (((with_reducible show wpAny _ _ (call _ [Value.bytes _ _]) _ _ _); refine call_type_of (Tx := "bytes") rfl (by decide +kernel) ?_)))
  trivial
example : True := by
  (k_with "my my_steps" => (repeat' (first | (k_unfold; (try dsimp only)) | ((fail_if_success (with_reducible show InvEndN _ _ _ _ _ _ _)); first | walk1 | (dsimp only; walk1) | (leave1; try dsimp only)) | fail "no step")))
  trivial
example : True := by
  (k_with "my use_cases" => (((case kB => first | k_asm | fail "use: below"); (case kF => first | k_asm | fail "use: frame"); (case kX => first | k_asm | fail "use: written part"); (case kN => first | k_asm | fail "use: ledger"); (case kT => first | k_asm | fail "use: top"); (case kk => first | exact rfl | assumption | fail "use: kind"); (case kd => first | ktr_room | fail "use: room"); (case ku => first | ktr_units | fail "use: units"))))
  trivial
example : True := by
  (k_with "my my_enterT" => ((refine wpAny_call ?_; k_dflt (first
      | (refine' enterT ?ksub_q5 ?ksz_q5 ?k3_q5 ?k5_q5 ?kt_q5 ?kg_q5 ?k6_q5 ?k7_q5 ?k8_q5 ?k9_q5 ?kB_q5 ?_ ?c2_q5 ?c3_q5 ?c4_q5 ?c5_q5; (case ksub_q5 => assumption); (case ksz_q5 => assumption); (case kt_q5 => assumption); (case kg_q5 => assumption); (case k3_q5 => k_asm); (case k5_q5 => k_asm); (case k6_q5 => k_is); (case k7_q5 => k_is); (case k8_q5 => k_room); (case k9_q5 => first | exact BindsTo.of_eq (binds := [(_, _)]) rfl | exact BindsTo.of_eq (binds := [(_, _), (_, _)]) rfl | exact BindsTo.of_eq rfl | exact binds_K (by k_in) rfl (by k_is) rfl rfl rfl | fail "my_enter: no rule for these arguments"); (case c5_q5 => decide); (case kB_q5 => exact locs rfl); (case c2_q5 => exact rfl); (case c3_q5 => exact rfl); (case c4_q5 => exact rfl); k_whole; intro L' h' F' N' l0; (replace l0 := ltN l0); (try dsimp only); (try k_fold))
      | (refine' enterTC ?ksub_q5 ?ksz_q5 ?k3_q5 ?k5_q5 ?kt_q5 ?kg_q5 ?k6_q5 ?k7_q5 ?k8_q5 ?k9_q5 ?kB_q5 ?kD_q5 ?_ ?c2_q5 ?c3_q5 ?c4_q5; (case ksub_q5 => assumption); (case ksz_q5 => assumption); (case kt_q5 => assumption); (case kg_q5 => assumption); (case k3_q5 => k_asm); (case k5_q5 => k_asm); (case k6_q5 => k_is); (case k7_q5 => k_is); (case k8_q5 => k_room); (case k9_q5 => first | exact BindsTo.of_eq (binds := [(_, _)]) rfl | exact BindsTo.of_eq (binds := [(_, _), (_, _)]) rfl | exact BindsTo.of_eq rfl | exact binds_K (by k_in) rfl (by k_is) rfl rfl rfl | fail "my_enter: no rule for these arguments"); (case kB_q5 => exact rfl); (case kD_q5 => decide +kernel); (case c2_q5 => exact rfl); (case c3_q5 => exact rfl); (case c4_q5 => exact rfl); k_whole; intro L' h' tk' cells' F' N' Y' l0; (replace l0 := ltN l0); k_cells Y'; (try simp only [List.cons_append, List.nil_append, List.append_nil] at N'); (try dsimp only); (try k_fold))))))
  trivial
example : True := by
  (k_with "my execs cons" => (((with_reducible refine wpAny_execs_cons ?_); (try dsimp only); (try k_fold); (try ((rename Fr _ _ _ _ => F9); (refine foldFr F9 ?_); (intro mk9 F8); (clear F9))))))
  trivial
example : True := by
  (k_with "my size_fits" => (exact Nat.le_of_ble_eq_true rfl))
  trivial
example : True := by
  (k_with "my pick_chain" => (((iterate 15 (try (first | with_reducible assumption | apply pickR))); done)))
  trivial
example : True := by
  (k_with "my pick_one" => ((first | with_reducible assumption | (apply pickL; walk_at "pick_chain") | walk_at "pick_chain")))
  trivial
example : True := by
  (k_with "my pick_ne" => ((refine neN ?_; (try dsimp only); (first | with_reducible assumption | (refine Nat.ne_of_lt ?_; (simp only [*]; done)) | (refine Nat.ne_of_gt ?_; (simp only [*]; done)) | (simp only [*, ne_eq, not_false_eq_true]; done) | (refine Ne.symm ?_; (simp only [*, ne_eq, not_false_eq_true]; done)) | (refine ne_up ?_; (simp only [*]; done)) | (refine ne_up' ?_; (simp only [*]; done))))))
  trivial
example : True := by
  (k_with "my pick_lim" => ((first
      | (refine' lim1 ?h_q11 ?k_q11; (case h_q11 => assumption); (case k_q11 => exact rfl))
      | (refine' lim2 ?h_q11 ?k_q11; (case h_q11 => assumption); (case k_q11 => exact rfl))
      | (refine' lim0 ?h_q11; (case h_q11 => assumption))
      | (refine' lim3 ?h_q11 ?k_q11; (case h_q11 => assumption); (case k_q11 => exact rfl)))))
  trivial
example : True := by
  (k_with "my pick_all" => ((first | exact allNe_nil | (refine' allNe_cons ?a_q12 ?b_q12; (case a_q12 => k_ne); (case b_q12 => k_all)))))
  trivial
example : True := by
  (k_with "my eval Name" => ((k_here; (with_reducible show wpAny _ _ (eval (Expr.Name _ _) (compEnvC _ _ _ _)) _ _ _); k_dflt (first | refine LCgL.ld_own (by with_reducible assumption) (by k_mem) (by with_reducible assumption) (by with_reducible assumption) ?_ | refine LCgL.ld_global (by with_reducible assumption) (by with_reducible assumption) (by with_reducible assumption) (by k_is) ?_ | refine LCgL.ld_built (by with_reducible assumption) (by with_reducible assumption) (by with_reducible assumption) (by k_is) (by boot_by_name) (by decide) ?_))))
  trivial

section
/-- the code table of `_law_stream` holds the code of `_law_read` -/
noncomputable def Filled (h : Heap) : Prop := ∃ c, h.get? 201 = some (tabObj #[rawInt 189, rawInt 4, .ref c]) ∧ h.CodeRec (.ref c) (Str.ofString "_law_stream.<locals>._law_read")
theorem Filled.keeps {h h' : Heap} (x : Filled h) (k : ∀ b o, h.get? b = some o → h'.get? b = some o) : Filled h' := let ⟨c, e, y⟩ := x; ⟨c, k _ _ e, y.keeps k⟩
theorem codeRec_base {h₀ h : Heap} {L : Addr} {m : Str → Option Value} {v : Value} {q : Str} (y : h₀.CodeRec v q) (F : Fr h₀ L h m) : h.CodeRec v q := y.keeps F.keep
theorem tab_base {h₀ h : Heap} {L P : Addr} {o : Obj} {m : Str → Option Value} (y : h₀.get? P = some o) (F : Fr h₀ L h m) : h.get? P = some o := F.keep _ _ y
section
variable {M : Model} {A : Around} {E : Value → Shared → Prop} {s : Shared} {h₀ : Heap} {L a c P : Addr} {m mg mb : Str → Option Value} {cn : Str} {cs : Scope} {ccd : Value} {cl : List (Str × Addr)} {news : List (Addr × Obj)}
  {p : Program} {loose : List Str} {mean : ExcName → Option Value} {name qual : Str} {params : Arguments} {body : List Stmt} {scope : Scope} {ps : Array Value} {pos : Pos} {firstLine : Nat} {clos : List (Str × Addr)}
theorem nestHit_B {Q : Value → Shared → Prop} {c' : Addr} (F : Fr h₀ L s.heap m) (N : News h₀ L s.heap news) (T : Top p loose mean mg mb h₀) (C : CodeHd h₀ c P) (hcd : ccd = .ref c) (hP : h₀.get? P = some (tabObj ps)) (ht : TriplesOk ps.toList) (hf : codeAmong pos ps.toList = some (.ref c'))
    (hcl : closureFor scope (envX cn cs L a ccd cl) = pure clos)
    (h : ∀ f ctv doc h' tk, Fr h₀ L h' m → News h₀ L h' ((f, fnMade name qual params body scope clos doc ((mg "__name__").getD .none) c' ctv) :: news) → (∀ q ∈ news, q.1 < f) → Q (.ref f) { s with heap := h', toks := tk }) :
    wpAny M A (makeFunction name qual params (.stmts body) scope (envX cn cs L a ccd cl) [] [] [] pos firstLine) Q E s := by
  have hm := F.keep _ _ hP
  have hgs := T.g.keeps F.keep
  obtain ⟨bm, ob, b1, b2, b3, b4, b5, b6⟩ := T.bmain
  have hbP : bm ≠ P := fun q => by
    have e := F.keep _ _ b3
    rw [q, hm] at e; cases e; cases b4
  have hbG : bm ≠ mainGlobals := fun q => by
    obtain ⟨o, es, ep, e, hd, _⟩ := T.g
    rw [q, e] at b3; cases b3; rw [hd] at b6; cases b6
  refine makeFunction_hit (mg := mg) hcl rfl hgs hcd (C.keeps F.keep) hm ht hf ⟨bm, ob, b1, b2, hbG, hbP, F.keep _ _ b3, b4, b5, b6⟩ fun ctv doc h' tk hk hsz => ?_
  have hLs : L < h'.objs.size := Nat.lt_of_lt_of_le F.ns.lt hsz
  have fresh : ∀ b, L < b → h₀.get? b = none := fun b hb => Heap.get?_none_of_le (Nat.le_trans F.above (Nat.le_of_lt hb))
  refine h h'.objs.size ctv doc _ tk ⟨(F.ns.keeps hk).push _, fun b o e => Heap.get?_push_of_some _ (hk b o (F.keep b o e)), F.above⟩ (fun q hq => ?_) (fun q hq => Nat.lt_of_lt_of_le (Heap.lt_size (N q hq).1) hsz)
  rcases List.mem_cons.mp hq with rfl | hq
  · exact ⟨Heap.get?_push_size _ rfl, Nat.ne_of_gt hLs, fresh _ hLs⟩
  · exact ⟨Heap.get?_push_of_some _ (hk _ _ (N q hq).1), (N q hq).2⟩
end
example : True := by
  (k_with "my exec FunctionDef" => ((k_here; k_dflt (refine' nestDef_K ?d0_q23 ?k0_q23 ?a0_q23 ?_; (case d0_q23 => exact rfl); (case k0_q23 => exact rfl); (case a0_q23 => exact rfl)); (k_dflt (refine' nestHit_B (P := 201) ?F_q23 ?N_q23 ?T_q23 ?C_q23 ?cd_q23 ?hP_q23 ?t_q23 ?n_q23 ?cl_q23 ?_; (case F_q23 => k_asm); (case N_q23 => k_asm); (case T_q23 => k_asm); (case cd_q23 => exact rfl); (case C_q23 => exact codeHd_of_K (by k_asm) (by kernel_rfl)); (case hP_q23 => exact tab_base (by assumption) (by assumption)); (case t_q23 => kn_triples); (case n_q23 => kn_hit); (case cl_q23 => exact rfl); k_whole); intro f' ct' dc' h' tk' F' N' l1; (try dsimp only at N'); (try k_lt l1)))))
  trivial
example : True := by
  (k_with "my call ref" => ((k_here; k_dflt (refine wpAny_call ?_; (refine' code_nest ?k1_q24 ?k2_q24 ?k3_q24 ?k4_q24 ?k5_q24 ?kA_q24 ?kF_q24 ?kK_q24 ?k6_q24 ?k7_q24 ?k8_q24 ?k9_q24 ?kB_q24 ?_ ?c2_q24 ?c3_q24 ?c4_q24 ?c5_q24; (case kA_q24 => exact rfl); (case kF_q24 => exact rfl); (case kK_q24 => exact rfl); (case k1_q24 => k_asm); (case k2_q24 => k_asm); (case k3_q24 => k_asm); (case k4_q24 => k_asm); (case k5_q24 => k_asm); (case k6_q24 => k_mem); (case k7_q24 => (repeat (first | assumption | refine codeRec_base ?_ (by assumption)))); (case k8_q24 => k_room); (case k9_q24 => exact BindsTo.of_eq rfl); (case c5_q24 => decide); (case kB_q24 => exact locs rfl); (case c2_q24 => exact rfl); (case c3_q24 => exact rfl); (case c4_q24 => exact rfl); k_whole; intro g' L' h' FG' F' N' B' X' T'; (try dsimp only); (try k_lift B'); (try k_fold))))))
  trivial
example : True := by
  (k_with "my callWith ref" => ((k_here; k_dflt (first
      | (refine' callWith_F ?k1_q25 ?_; (case k1_q25 => exact FnAt.of (by k_asm) (by k_mem)); k_whole)
      | (refine' callWith_F0 ?k1_q25 ?_; (case k1_q25 => exact FnAt.of (by k_asm) (by k_mem)); k_whole; try dsimp only [List.nil_append, List.cons_append])))))
  trivial
example : True := by
  (k_with "my eval Name" => ((k_here; k_dflt (refine' nameX_F ?N_q26 ?c_q26 ?m_q26 ?d_q26 ?_ ?a_q26 ?b_q26; (case a_q26 => rfl); (case b_q26 => rfl); (case N_q26 => k_asm); (case c_q26 => rfl); (case m_q26 => k_mem); (case d_q26 => k_asm); k_whole))))
  trivial
example : True := by
  (k_with "my binaryOp Add bytes bytes" => ((refine KBy.add_bytes ?hz_q27 ?_; (case hz_q27 => first | (simp; done) | (simp; omega) | fail "hz"); intro _ _)))
  trivial
section
variable {prog : Program} {w : World} {A : Around} {E : Value → Shared → Prop} {s : Shared} {value slice : PySem.Expr} {b c : Array UInt8} {t ti tj : Tok} {h₀ : Heap} {L : Addr} {m : PySem.Str → Option Value} {news : List (Addr × Obj)} {i j : Int} {Q : Value → Shared → Prop}
theorem slice_to (hF : Fr h₀ L s.heap m) (hN : News h₀ L s.heap news) (hz : b.size ≤ 16777216) (e : KBy.picked b (some i) (some j) = c)
    (h : ∀ h' t' k, Fr h₀ L h' m → News h₀ L h' news → Q (.bytes c t') { s with heap := h', toks := k })
    (hs : subscripted slice false (.bytes b t) (.ref s.heap.objs.size) = operate [.ref s.heap.objs.size, .bytes b t] (getItem (.bytes b t) (.ref s.heap.objs.size)) := by with_unfolding_all rfl)
    (ht : ∀ r, letTemporaryGo value (.bytes b t) r = pure () := by intro _; with_unfolding_all rfl) :
    wpAny (model prog w) A (subscriptTail value slice (.bytes b t) (.ref s.heap.objs.size)) Q E { s with heap := s.heap.push { cls := .type "slice", data := .fields #[.int i ti, .int j tj, .none] } } :=
  KBc.slice_K hF hN rfl (.int _ _) (.int _ _) (by rw [KBw.ints_length]; exact hz) (fun h' t' k F N _ => by rw [e]; exact h h' t' k F N) hs ht
end
theorem pick_at {b c : Array UInt8} {i j : Int} {n k : Nat} (hi : i = n) (hj : j = n + k) (hn : n + k ≤ b.size) (e : b.extract n (n + k) = c) : KBy.picked b (some i) (some j) = c := by
  rw [KBc.picked_eq, ← e]
  subst hi hj
  show ((b.toList.drop (clipAt b.size n)).take (clipAt b.size ((n : Int) + k) - clipAt b.size n)).toArray = _
  rw [show ((n : Int) + k) = ((n + k : Nat) : Int) by omega, clipAt_nat, clipAt_nat, Nat.min_eq_left hn, Nat.min_eq_left (by omega)]
  apply Array.ext'
  simp
theorem pick_first {x : UInt8} {bs : Array UInt8} : KBy.picked (#[x] ++ bs) (some 0) (some (0 + 1)) = #[x] := pick_at (n := 0) (k := 1) rfl rfl (by simp) (by apply Array.ext'; simp)
theorem pick_rest {x : UInt8} {bs : Array UInt8} {i j : Int} (hi : i = 1) (hj : j = 1 + bs.size) : KBy.picked (#[x] ++ bs) (some i) (some j) = bs := pick_at (n := 1) (k := bs.size) hi hj (by simp) (by apply Array.ext'; simp)
example : True := by
  (k_with "my subscriptTail" => (((with_reducible show wpAny _ _ (subscriptTail _ (Expr.Slice _ _ none _) (Value.bytes _ _) (Value.ref _)) _ _ _); (with_reducible rename Fr _ _ _ _ => F'); (with_reducible rename News _ _ _ _ => N'); (refine' slice_to (s := ⟨_, _, _, _, _⟩) F' N' ?hz_q28 ?e_q28 ?_; (case hz_q28 => first | (simp; done) | (simp; omega) | fail "hz"); (case e_q28 => first | exact pick_first | (refine pick_rest ?hi_q28 ?hj_q28; (case hi_q28 => first | (simp; done) | (simp; omega) | fail "hi"); (case hj_q28 => first | (simp; done) | (simp; omega) | fail "hj")) | fail "e"); intro _ _ _ _ _))))
  trivial
theorem truthy_one {prog : Program} {w : World} {A : Around} {E : Value → Shared → Prop} {s : Shared} {x : UInt8} {t : Tok} {Q : Bool → Shared → Prop} (h : Q true { s with toks := s.toks + 1 + 1 }) : wpAny (model prog w) A (truthy (.bytes #[x] t)) Q E s :=
  KBw.truthy_K (ks := [(x.toNat : Int)]) rfl (Nat.le_of_ble_eq_true rfl) h
example : True := by
  (k_with "my truthy bytes" => ((refine truthy_one ?_)))
  trivial
example : True := by
  (k_with "my call builtin:bytes.decode" => ((refine call_decode_latin ?h0_q30 ?hz_q30 ?_; (case h0_q30 => assumption); (case hz_q30 => omega); intro _ _)))
  trivial
example : True := by
  (k_with "my ite" => ((refine ite_pos ?hc_q31 ?_; (case hc_q31 => first | exact rfl | (simp; done) | fail "no"))))
  trivial
example : True := by
  (k_with "my getMethod ref" => ((k_here; k_dflt (refine' kmu_own ?k1_q32 ?k2_q32 ?k3_q32 ?k4_q32 ?k5_q32 ?_; (case k1_q32 => k_asm); (case k2_q32 => k_asm); (case k3_q32 => k_inst); (case k4_q32 => k_is); (case k5_q32 => k_is); k_whole))))
  trivial
example : True := by
  (k_with "my execs cons" => (((with_reducible refine wpAny_execs_cons ?_); (try dsimp only); (try (with_reducible refine genState (s₀ := s) rfl ?_; intro tk9)); (try k_fold); (try ((rename Fr _ _ _ _ => F9); (refine foldFr F9 ?_); (intro mk9 F8); (clear F9))))))
  trivial
theorem text_spec (w : World) (bs : Array UInt8) (tk : Tok) (h0 : 0 < bs.size) (hsz : bs.size < 256) : SpecP w 258 [.bytes bs tk] [] 6 Filled (fun r _ _ => ∃ t, r = .str ⟨bs.map (·.toNat)⟩ t) := by
  unfold SpecP
  k_fill
  intro _ dp un gd outer base s Q E p loose mean mg mb B X T hpre hdp hun hret
  obtain ⟨cC, hcT, hcC⟩ := hpre
  walk_at "my_enter"
  walk_at "my_steps"
  all_goals exact hret _ _ _ (Fr.keep (by assumption)) ⟨_, rfl⟩
end

example : True := by
  k_with_none
  trivial
example : True := by
  (k_with "my my_enter" => ((refine wpAny_call ?_; k_dflt (first
      | (refine' enterP ?k3_q1 ?k5_q1 ?k6_q1 ?k7_q1 ?k8_q1 ?k9_q1 ?kB_q1 ?_ ?c2_q1 ?c3_q1 ?c4_q1 ?c5_q1; (case k3_q1 => k_asm); (case k5_q1 => k_asm); (case k6_q1 => k_is); (case k7_q1 => k_is); (case k8_q1 => k_room); (case k9_q1 => first | exact BindsTo.of_eq (binds := [(_, _)]) rfl | exact BindsTo.of_eq (binds := [(_, _), (_, _)]) rfl | exact BindsTo.of_eq rfl | exact binds_K (by k_in) rfl (by k_is) rfl rfl rfl | fail "my_enter: no rule for these arguments"); (case c5_q1 => decide); (case kB_q1 => exact locs rfl); (case c2_q1 => exact rfl); (case c3_q1 => exact rfl); (case c4_q1 => exact rfl); k_whole; intro L' h' F' N'; (try dsimp only); (try k_fold))
      | (refine' enterPC ?k3_q1 ?k5_q1 ?k6_q1 ?k7_q1 ?k8_q1 ?k9_q1 ?kB_q1 ?kD_q1 ?_ ?c2_q1 ?c3_q1 ?c4_q1; (case k3_q1 => k_asm); (case k5_q1 => k_asm); (case k6_q1 => k_is); (case k7_q1 => k_is); (case k8_q1 => k_room); (case k9_q1 => first | exact BindsTo.of_eq (binds := [(_, _)]) rfl | exact BindsTo.of_eq (binds := [(_, _), (_, _)]) rfl | exact BindsTo.of_eq rfl | exact binds_K (by k_in) rfl (by k_is) rfl rfl rfl | fail "my_enter: no rule for these arguments"); (case kB_q1 => exact rfl); (case kD_q1 => decide +kernel); (case c2_q1 => exact rfl); (case c3_q1 => exact rfl); (case c4_q1 => exact rfl); k_whole; intro L' h' tk' cells' F' N' Y'; k_cells Y'; (try simp only [List.cons_append, List.nil_append, List.append_nil] at N'); (try dsimp only); (try k_fold))))))
  trivial
example : True := by
  (k_with "my call type:type" => (((with_reducible show wpAny _ _ (call _ [Value.bytes _ _]) _ _ _); refine call_type_of (Tx := "bytes") rfl (by decide +kernel) ?_)))
  trivial
example : True := by
  (k_with "my my_steps" => (repeat' (first | (k_unfold; (try dsimp only)) | ((fail_if_success (with_reducible show InvEndN _ _ _ _ _ _ _)); first | walk1 | (dsimp only; walk1) | (leave1; try dsimp only)) | fail "no step")))
  trivial
example : True := by
  (k_with "my use_cases" => (((case kB => first | k_asm | fail "use: below"); (case kF => first | k_asm | fail "use: frame"); (case kX => first | k_asm | fail "use: written part"); (case kN => first | k_asm | fail "use: ledger"); (case kT => first | k_asm | fail "use: top"); (case kk => first | exact rfl | assumption | fail "use: kind"); (case kd => first | ktr_room | fail "use: room"); (case ku => first | ktr_units | fail "use: units"))))
  trivial
example : True := by
  (k_with "my my_enterT" => ((refine wpAny_call ?_; k_dflt (first
      | (refine' enterT ?ksub_q5 ?ksz_q5 ?k3_q5 ?k5_q5 ?kt_q5 ?kg_q5 ?k6_q5 ?k7_q5 ?k8_q5 ?k9_q5 ?kB_q5 ?_ ?c2_q5 ?c3_q5 ?c4_q5 ?c5_q5; (case ksub_q5 => assumption); (case ksz_q5 => assumption); (case kt_q5 => assumption); (case kg_q5 => assumption); (case k3_q5 => k_asm); (case k5_q5 => k_asm); (case k6_q5 => k_is); (case k7_q5 => k_is); (case k8_q5 => k_room); (case k9_q5 => first | exact BindsTo.of_eq (binds := [(_, _)]) rfl | exact BindsTo.of_eq (binds := [(_, _), (_, _)]) rfl | exact BindsTo.of_eq rfl | exact binds_K (by k_in) rfl (by k_is) rfl rfl rfl | fail "my_enter: no rule for these arguments"); (case c5_q5 => decide); (case kB_q5 => exact locs rfl); (case c2_q5 => exact rfl); (case c3_q5 => exact rfl); (case c4_q5 => exact rfl); k_whole; intro L' h' F' N' l0; (replace l0 := ltN l0); (try dsimp only); (try k_fold))
      | (refine' enterTC ?ksub_q5 ?ksz_q5 ?k3_q5 ?k5_q5 ?kt_q5 ?kg_q5 ?k6_q5 ?k7_q5 ?k8_q5 ?k9_q5 ?kB_q5 ?kD_q5 ?_ ?c2_q5 ?c3_q5 ?c4_q5; (case ksub_q5 => assumption); (case ksz_q5 => assumption); (case kt_q5 => assumption); (case kg_q5 => assumption); (case k3_q5 => k_asm); (case k5_q5 => k_asm); (case k6_q5 => k_is); (case k7_q5 => k_is); (case k8_q5 => k_room); (case k9_q5 => first | exact BindsTo.of_eq (binds := [(_, _)]) rfl | exact BindsTo.of_eq (binds := [(_, _), (_, _)]) rfl | exact BindsTo.of_eq rfl | exact binds_K (by k_in) rfl (by k_is) rfl rfl rfl | fail "my_enter: no rule for these arguments"); (case kB_q5 => exact rfl); (case kD_q5 => decide +kernel); (case c2_q5 => exact rfl); (case c3_q5 => exact rfl); (case c4_q5 => exact rfl); k_whole; intro L' h' tk' cells' F' N' Y' l0; (replace l0 := ltN l0); k_cells Y'; (try simp only [List.cons_append, List.nil_append, List.append_nil] at N'); (try dsimp only); (try k_fold))))))
  trivial
example : True := by
  (k_with "my execs cons" => (((with_reducible refine wpAny_execs_cons ?_); (try dsimp only); (try k_fold); (try ((rename Fr _ _ _ _ => F9); (refine foldFr F9 ?_); (intro mk9 F8); (clear F9))))))
  trivial
example : True := by
  (k_with "my size_fits" => (exact Nat.le_of_ble_eq_true rfl))
  trivial
example : True := by
  (k_with "my pick_chain" => (((iterate 15 (try (first | with_reducible assumption | apply pickR))); done)))
  trivial
example : True := by
  (k_with "my pick_one" => ((first | with_reducible assumption | (apply pickL; walk_at "pick_chain") | walk_at "pick_chain")))
  trivial
example : True := by
  (k_with "my pick_ne" => ((refine neN ?_; (try dsimp only); (first | with_reducible assumption | (refine Nat.ne_of_lt ?_; (simp only [*]; done)) | (refine Nat.ne_of_gt ?_; (simp only [*]; done)) | (simp only [*, ne_eq, not_false_eq_true]; done) | (refine Ne.symm ?_; (simp only [*, ne_eq, not_false_eq_true]; done)) | (refine ne_up ?_; (simp only [*]; done)) | (refine ne_up' ?_; (simp only [*]; done))))))
  trivial
example : True := by
  (k_with "my pick_lim" => ((first
      | (refine' lim1 ?h_q11 ?k_q11; (case h_q11 => assumption); (case k_q11 => exact rfl))
      | (refine' lim2 ?h_q11 ?k_q11; (case h_q11 => assumption); (case k_q11 => exact rfl))
      | (refine' lim0 ?h_q11; (case h_q11 => assumption))
      | (refine' lim3 ?h_q11 ?k_q11; (case h_q11 => assumption); (case k_q11 => exact rfl)))))
  trivial
example : True := by
  (k_with "my pick_all" => ((first | exact allNe_nil | (refine' allNe_cons ?a_q12 ?b_q12; (case a_q12 => k_ne); (case b_q12 => k_all)))))
  trivial
example : True := by
  (k_with "my eval Name" => ((k_here; (with_reducible show wpAny _ _ (eval (Expr.Name _ _) (compEnvC _ _ _ _)) _ _ _); k_dflt (first | refine LCgL.ld_own (by with_reducible assumption) (by k_mem) (by with_reducible assumption) (by with_reducible assumption) ?_ | refine LCgL.ld_global (by with_reducible assumption) (by with_reducible assumption) (by with_reducible assumption) (by k_is) ?_ | refine LCgL.ld_built (by with_reducible assumption) (by with_reducible assumption) (by with_reducible assumption) (by k_is) (by boot_by_name) (by decide) ?_))))
  trivial

theorem and_high (k : Nat) : ∀ (a n : Int), 0 ≤ n → n < 2 ^ k → Builtin.bitAnd (a * 2 ^ k) n = 0 := by
  induction k with
  | zero =>
    intro a n h0 h1
    have : n = 0 := by simp at h1; omega
    subst this
    rw [bitAnd_comm]
    have := bitAnd_range (a * 2 ^ 0) (y := 0) (by decide)
    rw [bitAnd_comm]; omega
  | succ k ih =>
    intro a n h0 h1
    rw [kbt_halves]
    have e : a * 2 ^ (k + 1) = 2 * (a * 2 ^ k) := by rw [Int.pow_succ]; rw [← Int.mul_assoc, Int.mul_comm]
    have e1 : a * 2 ^ (k + 1) / 2 = a * 2 ^ k := by rw [e]; omega
    have e2 : a * 2 ^ (k + 1) % 2 = 0 := by rw [e]; omega
    have h2 : n / 2 < 2 ^ k := by rw [Int.pow_succ] at h1; omega
    rw [e1, e2, ih a (n / 2) (by omega) h2]
    simp
theorem or_byte {a n : Int} (h0 : 0 ≤ n) (h1 : n < 256) : Builtin.bitOr (a * 2 ^ 8) n = a * 256 + n := by
  rw [bitOr_and, and_high 8 a n h0 (by simpa using h1)]
  have : (2 : Int) ^ 8 = 256 := by decide
  rw [this]; omega
theorem step_d {lc n : Int} (h0 : 0 ≤ n) (h1 : n < 256) : Builtin.bitAnd (Builtin.bitOr (lc * 2 ^ 8) n) 65535 = (lc * 256 + n) % 65536 := by
  rw [or_byte h0 h1, bitAnd_m16]
section
variable {out : List Int} {lc n : Int}
theorem fdiv_pos (x : Int) {y : Int} (h : 0 ≤ y) : x.fdiv y = x / y := Int.fdiv_eq_ediv_of_nonneg _ h
theorem st0 (h0 : 0 ≤ n) (h1 : n < 256) : b64Step (out, 0, lc) n = (out ++ [b64At ((lc * 256 + n) % 65536 / 4 % 64)], 2, (lc * 256 + n) % 65536) := by
  unfold b64Step
  dsimp only
  rw [if_pos rfl]
  try dsimp only
  rw [step_d h0 h1, bitAnd_m6, show (2 : Int) ^ 2 = 4 by decide, fdiv_pos _ (by decide)]
theorem st2 (h0 : 0 ≤ n) (h1 : n < 256) : b64Step (out, 2, lc) n = (out ++ [b64At ((lc * 256 + n) % 65536 / 16 % 64)], 4, (lc * 256 + n) % 65536) := by
  unfold b64Step
  dsimp only
  rw [if_neg (by decide), if_pos rfl]
  try dsimp only
  rw [step_d h0 h1, bitAnd_m6, show (2 : Int) ^ 4 = 16 by decide, fdiv_pos _ (by decide)]
theorem st4 (h0 : 0 ≤ n) (h1 : n < 256) : b64Step (out, 4, lc) n = (out ++ [b64At ((lc * 256 + n) % 65536 / 64 % 64)] ++ [b64At ((lc * 256 + n) % 65536 % 64)], 0, (lc * 256 + n) % 65536) := by
  unfold b64Step
  dsimp only
  rw [if_neg (by decide), if_neg (by decide)]
  try dsimp only
  rw [step_d h0 h1, bitAnd_m6, bitAnd_m6, show (2 : Int) ^ 6 = 64 by decide, show (2 : Int) ^ 0 = 1 by decide, fdiv_pos _ (by decide), fdiv_pos _ (by decide), Int.ediv_one]
end
theorem ddv {x a b c : Int} (ha : 0 ≤ a) (hc : a * b = c) : x / a / b = x / c := hc ▸ Int.ediv_ediv_of_nonneg ha
theorem dgi (x : Int) {a b c : Int} (ha : 0 ≤ a) (hc : a * b = c) : x % c = x / a % b * a + x % a := by
  subst hc
  rw [Int.emod_def x (a * b), ← Int.ediv_ediv_of_nonneg ha, Int.emod_def (x / a) b, Int.emod_def x a, Int.sub_mul]
  generalize x / a / b = r
  generalize x / a = q
  rw [show b * r * a = a * b * r by rw [Int.mul_comm, Int.mul_assoc], Int.mul_comm q a]
  omega
theorem ddm (x : Int) {a b c : Int} (ha : 0 < a) (hc : a * b = c) : x % c / a = x / a % b := by
  rw [dgi x (Int.le_of_lt ha) hc, Int.add_comm, Int.add_mul_ediv_right _ _ (Int.ne_of_gt ha), Int.ediv_eq_zero_of_lt (Int.emod_nonneg _ (Int.ne_of_gt ha)) (Int.emod_lt_of_pos _ ha), Int.zero_add]
/-- a digit below what is added in whole -/
theorem lowm (k x : Int) {m c d : Int} (hd : m * c = d) : (k * d + x) % c = x % c := by
  subst hd
  rw [Int.add_comm, ← Int.mul_assoc]; exact Int.add_mul_emod_self_right _ _ _
theorem highd (k x : Int) {a m d : Int} (ha : 0 < a) (hd : m * a = d) : (k * d + x) / a = k * m + x / a := by
  subst hd
  rw [Int.add_comm, ← Int.mul_assoc, Int.add_mul_ediv_right _ _ (Int.ne_of_gt ha), Int.add_comm]
theorem small_mod {x c : Int} (h0 : 0 ≤ x) (h1 : x < c) : x % c = x := Int.emod_eq_of_lt h0 h1
theorem small_div {x a c : Int} (ha : 0 < a) (h1 : x < c * a) : x / a < c := Int.ediv_lt_of_lt_mul ha h1
section
variable {lc x y z : Int}
theorem s3a (hx : 0 ≤ x) (hx' : x < 256) : (lc * 256 + x) % 65536 / 4 % 64 = x / 4 := by
  rw [ddm _ (a := 4) (b := 16384) (by decide) (by decide), Int.emod_emod_of_dvd _ (by decide : (64 : Int) ∣ 16384), highd lc x (a := 4) (m := 64) (by decide) (by decide), lowm lc (x / 4) (m := 1) (by decide)]
  exact small_mod (Int.ediv_nonneg hx (by decide)) (small_div (by decide) hx')
/-- the second figure, of whatever stood before -/
theorem s3b {W : Int} (hy : 0 ≤ y) (hy' : y < 256) : (W * 256 + y) % 65536 / 16 % 64 = W % 4 * 16 + y / 16 := by
  rw [ddm _ (a := 16) (b := 4096) (by decide) (by decide), Int.emod_emod_of_dvd _ (by decide : (64 : Int) ∣ 4096), highd W y (a := 16) (m := 16) (by decide) (by decide),
    dgi _ (a := 16) (b := 4) (c := 64) (by decide) (by decide), highd W (y / 16) (a := 16) (m := 1) (by decide) (by decide), lowm W (y / 16) (m := 1) (by decide), Int.mul_one,
    ddv (by decide) (show (16 : Int) * 16 = 256 by decide), Int.ediv_eq_zero_of_lt hy hy', Int.add_zero]
  rw [small_mod (Int.ediv_nonneg hy (by decide)) (small_div (c := 16) (by decide) hy')]
theorem s3c {W : Int} (hz : 0 ≤ z) (hz' : z < 256) : (W * 256 + z) % 65536 / 64 % 64 = W % 16 * 4 + z / 64 := by
  rw [ddm _ (a := 64) (b := 1024) (by decide) (by decide), Int.emod_emod_of_dvd _ (by decide : (64 : Int) ∣ 1024), highd W z (a := 64) (m := 4) (by decide) (by decide),
    dgi _ (a := 4) (b := 16) (c := 64) (by decide) (by decide), highd W (z / 64) (a := 4) (m := 1) (by decide) (by decide), lowm W (z / 64) (m := 1) (by decide), Int.mul_one,
    ddv (by decide) (show (64 : Int) * 4 = 256 by decide), Int.ediv_eq_zero_of_lt hz hz', Int.add_zero]
  rw [small_mod (Int.ediv_nonneg hz (by decide)) (small_div (c := 4) (by decide) hz')]
theorem s3d {W m c : Int} (hd : m * c = 256) (hk : c ∣ 65536) : (W * 256 + z) % 65536 % c = z % c := by
  rw [Int.emod_emod_of_dvd _ hk, lowm W z hd]
theorem s3e {W : Int} : ((W * 256 + y) % 65536 * 256 + z) % 65536 = (y * 256 + z) % 65536 := by
  rw [dgi ((W * 256 + y) % 65536 * 256 + z) (a := 256) (b := 256) (by decide) (by decide), dgi (y * 256 + z) (a := 256) (b := 256) (by decide) (by decide),
    highd _ z (a := 256) (m := 1) (by decide) (by decide), highd y z (a := 256) (m := 1) (by decide) (by decide), lowm _ z (m := 1) (by decide), lowm y z (m := 1) (by decide),
    Int.mul_one, Int.mul_one, Int.add_emod, s3d (m := 1) (by decide) (by decide), ← Int.add_emod]
end
section
variable {n : Int}
theorem p4a (h0 : 0 ≤ n) (h1 : n < 16777216) : n / 65536 / 4 = n / 262144 % 64 := by
  rw [ddv (by decide) (show (65536 : Int) * 4 = 262144 by decide)]
  exact (small_mod (Int.ediv_nonneg h0 (by decide)) (small_div (by decide) h1)).symm
theorem p4b : n / 65536 % 4 * 16 + n / 256 % 256 / 16 = n / 4096 % 64 := by
  rw [dgi (n / 4096) (a := 16) (b := 4) (c := 64) (by decide) (by decide), ddm (n / 256) (a := 16) (b := 16) (by decide) (by decide), ddv (by decide) (show (4096 : Int) * 16 = 65536 by decide), ddv (by decide) (show (256 : Int) * 16 = 4096 by decide)]
theorem p4c : n / 256 % 256 % 16 * 4 + n % 256 / 64 = n / 64 % 64 := by
  rw [dgi (n / 64) (a := 4) (b := 16) (c := 64) (by decide) (by decide), ddm n (a := 64) (b := 4) (by decide) (by decide), ddv (by decide) (show (64 : Int) * 4 = 256 by decide), Int.emod_emod_of_dvd _ (by decide : (16 : Int) ∣ 256)]
theorem p4d : n % 256 % 64 = n % 64 := Int.emod_emod_of_dvd _ (by decide)
end
theorem pairs {k d : Int} (h0 : 0 ≤ d) (h1 : d < 64) : (k * 64 + d) / 64 = k ∧ (k * 64 + d) % 64 = d :=
  ⟨by rw [highd k d (a := 64) (m := 1) (by decide) (by decide), Int.mul_one, Int.ediv_eq_zero_of_lt h0 h1, Int.add_zero], by rw [lowm k d (m := 1) (by decide), small_mod h0 h1]⟩
theorem val_parts {a b c d n : Int} (hn : n = (((0 * 64 + a) * 64 + b) * 64 + c) * 64 + d) (ha : 0 ≤ a ∧ a < 64) (hb : 0 ≤ b ∧ b < 64) (hc : 0 ≤ c ∧ c < 64) (hd : 0 ≤ d ∧ d < 64) (h0 : 0 ≤ n) (h1 : n < 16777216) :
    n / 65536 / 4 = a ∧ n / 65536 % 4 * 16 + n / 256 % 256 / 16 = b ∧ n / 256 % 256 % 16 * 4 + n % 256 / 64 = c ∧ n % 256 % 64 = d ∧ n / 65536 % 4 * 16 = b / 16 * 16 ∧ n / 256 % 256 % 16 * 4 = c / 4 * 4 := by
  rw [p4a h0 h1, p4b, p4c, p4d]
  have e3 : n / 64 = ((0 * 64 + a) * 64 + b) * 64 + c := by rw [hn]; exact (pairs hd.1 hd.2).1
  have e2 : n / 4096 = (0 * 64 + a) * 64 + b := by rw [← ddv (a := 64) (b := 64) (by decide) (by decide), e3]; exact (pairs hc.1 hc.2).1
  have e1 : n / 262144 = 0 * 64 + a := by rw [← ddv (a := 4096) (b := 64) (by decide) (by decide), e2]; exact (pairs hb.1 hb.2).1
  refine ⟨by rw [e1]; exact (pairs ha.1 ha.2).2, by rw [e2]; exact (pairs hb.1 hb.2).2, by rw [e3]; exact (pairs hc.1 hc.2).2, by rw [hn]; exact (pairs hd.1 hd.2).2, ?_, ?_⟩
  · rw [← ddv (a := 4096) (b := 16) (c := 65536) (by decide) (by decide), e2, highd _ b (a := 16) (m := 4) (by decide) (by decide), lowm _ (b / 16) (m := 1) (by decide), small_mod (Int.ediv_nonneg hb.1 (by decide)) (small_div (c := 4) (by decide) hb.2)]
  · rw [Int.emod_emod_of_dvd _ (by decide : (16 : Int) ∣ 256), ← ddv (a := 64) (b := 4) (c := 256) (by decide) (by decide), e3, highd _ c (a := 4) (m := 16) (by decide) (by decide), lowm _ (c / 4) (m := 1) (by decide), small_mod (Int.ediv_nonneg hc.1 (by decide)) (small_div (c := 16) (by decide) hc.2)]
/-- three octets more, from a whole number of triples on -/
theorem step3 {out : List Int} {lc x y z : Int} (hl : 0 ≤ lc) (hx : 0 ≤ x) (hx' : x < 256) (hy : 0 ≤ y) (hy' : y < 256) (hz : 0 ≤ z) (hz' : z < 256) :
    [x, y, z].foldl b64Step (out, 0, lc) = (out ++ [b64At (x / 4), b64At (x % 4 * 16 + y / 16), b64At (y % 16 * 4 + z / 64), b64At (z % 64)], 0, (y * 256 + z) % 65536) := by
  rw [List.foldl_cons, st0 hx hx', List.foldl_cons, st2 hy hy', List.foldl_cons, st4 hz hz', List.foldl_nil]
  have e1 := s3a (lc := lc) hx hx'
  have e2 : ((lc * 256 + x) % 65536 * 256 + y) % 65536 / 16 % 64 = x % 4 * 16 + y / 16 := by rw [s3b hy hy', s3d (m := 64) (by decide) (by decide)]
  have e3 : (((lc * 256 + x) % 65536 * 256 + y) % 65536 * 256 + z) % 65536 / 64 % 64 = y % 16 * 4 + z / 64 := by rw [s3c hz hz', s3d (m := 16) (by decide) (by decide)]
  have e4 : (((lc * 256 + x) % 65536 * 256 + y) % 65536 * 256 + z) % 65536 % 64 = z % 64 := s3d (m := 4) (by decide) (by decide)
  have e5 : (((lc * 256 + x) % 65536 * 256 + y) % 65536 * 256 + z) % 65536 = (y * 256 + z) % 65536 := s3e
  rw [e1, e2, e3, e4, e5]
  simp only [List.append_assoc, List.cons_append, List.nil_append]
theorem step1 {out : List Int} {lc x : Int} (hl : 0 ≤ lc) (hx : 0 ≤ x) (hx' : x < 256) :
    b64Tail ([x].foldl b64Step (out, 0, lc)) = out ++ [b64At (x / 4), b64At (x % 4 * 16), 61, 61] := by
  rw [List.foldl_cons, st0 hx hx', List.foldl_nil]
  unfold b64Tail
  rw [if_pos rfl]
  try dsimp only
  rw [bitAnd_m2, show (2 : Int) ^ 4 = 16 by decide]
  have e1 := s3a (lc := lc) hx hx'
  have e2 : (lc * 256 + x) % 65536 % 4 = x % 4 := s3d (m := 64) (by decide) (by decide)
  rw [e1, e2]
  simp only [List.append_assoc, List.cons_append, List.nil_append]
theorem step2 {out : List Int} {lc x y : Int} (hl : 0 ≤ lc) (hx : 0 ≤ x) (hx' : x < 256) (hy : 0 ≤ y) (hy' : y < 256) :
    b64Tail ([x, y].foldl b64Step (out, 0, lc)) = out ++ [b64At (x / 4), b64At (x % 4 * 16 + y / 16), b64At (y % 16 * 4), 61] := by
  rw [List.foldl_cons, st0 hx hx', List.foldl_cons, st2 hy hy', List.foldl_nil]
  unfold b64Tail
  rw [if_neg (by show ¬ (4 : Int) = 2; decide), if_pos rfl]
  try dsimp only
  rw [bitAnd_m4, show (2 : Int) ^ 2 = 4 by decide]
  have e1 := s3a (lc := lc) hx hx'
  have e2 : ((lc * 256 + x) % 65536 * 256 + y) % 65536 / 16 % 64 = x % 4 * 16 + y / 16 := by rw [s3b hy hy', s3d (m := 64) (by decide) (by decide)]
  have e3 : ((lc * 256 + x) % 65536 * 256 + y) % 65536 % 16 = y % 16 := s3d (m := 16) (by decide) (by decide)
  rw [e1, e2, e3]
  simp only [List.append_assoc, List.cons_append, List.nil_append]
theorem bInts_bytes : ∀ {l : List Int}, (∀ x ∈ l, 0 ≤ x ∧ x < 256) → KBw.bInts ((l.map fun n => n.toNat.toUInt8).toArray) = l := by
  intro l
  induction l with
  | nil => intro _; rfl
  | cons a r ih =>
    intro h
    have ih' := ih fun x hx => h x (.tail _ hx)
    unfold KBw.bInts at ih' ⊢
    simp only [List.map_cons, List.map_map] at ih' ⊢
    rw [ih']
    congr 1
    exact byte_back (h a (.head _)).1 (h a (.head _)).2
theorem trans_list (tb : Array UInt8) (l : List UInt8) : trans tb l.toArray = (l.map fun c => tb.getD c.toNat c).toArray := by
  unfold trans
  simp
/-- the octet that is written for a figure -/
noncomputable def sgB (i : Int) : UInt8 := urlTab.getD (b64At i).toNat.toUInt8.toNat (b64At i).toNat.toUInt8
noncomputable def sgC (i : Int) : Nat := (sgB i).toNat
noncomputable def pathB (n : Int) : Array UInt8 := #[sgB (n / 262144 % 64), sgB (n / 4096 % 64), sgB (n / 64 % 64), sgB (n % 64)]
theorem oct3_in {n : Int} (h0 : 0 ≤ n) (h1 : n < 16777216) : ∀ x ∈ [n / 65536, n / 256 % 256, n % 256], 0 ≤ x ∧ x < 256 :=
  List.forall_mem_cons.mpr ⟨⟨Int.ediv_nonneg h0 (by decide), small_div (c := 256) (by decide) h1⟩, List.forall_mem_cons.mpr ⟨⟨Int.emod_nonneg _ (by decide), Int.emod_lt_of_pos _ (by decide)⟩, List.forall_mem_cons.mpr ⟨⟨Int.emod_nonneg _ (by decide), Int.emod_lt_of_pos _ (by decide)⟩, fun _ h => nomatch h⟩⟩⟩
theorem path_octets (n : Int) (h0 : 0 ≤ n) (h1 : n < 16777216) : trans urlTab ((b64Enc (([n.fdiv 65536, (n.fdiv 256).fmod 256, n.fmod 256].map fun n => n.toNat.toUInt8).toArray)).map fun n => n.toNat.toUInt8).toArray = pathB n := by
  have e1 : n.fdiv 65536 = n / 65536 := fdiv_pos _ (by decide)
  have e2 : (n.fdiv 256).fmod 256 = n / 256 % 256 := by rw [fdiv_pos _ (by decide), Int.fmod_eq_emod_of_nonneg _ (by decide)]
  have e3 : n.fmod 256 = n % 256 := Int.fmod_eq_emod_of_nonneg _ (by decide)
  rw [e1, e2, e3]
  unfold b64Enc b64Fold
  rw [bInts_bytes (oct3_in h0 h1)]
  rw [step3 (by decide) (oct3_in h0 h1 _ (.head _)).1 (oct3_in h0 h1 _ (.head _)).2 (oct3_in h0 h1 _ (.tail _ (.head _))).1 (oct3_in h0 h1 _ (.tail _ (.head _))).2 (oct3_in h0 h1 _ (.tail _ (.tail _ (.head _)))).1 (oct3_in h0 h1 _ (.tail _ (.tail _ (.head _)))).2]
  unfold b64Tail
  rw [if_neg (by show ¬ (0 : Int) = 2; decide), if_neg (by show ¬ (0 : Int) = 4; decide)]
  dsimp only
  rw [List.nil_append, trans_list, List.map_map]
  have f1 : n / 65536 / 4 = n / 262144 % 64 := p4a h0 h1
  have f2 : n / 65536 % 4 * 16 + n / 256 % 256 / 16 = n / 4096 % 64 := p4b
  have f3 : n / 256 % 256 % 16 * 4 + n % 256 / 64 = n / 64 % 64 := p4c
  have f4 : n % 256 % 64 = n % 64 := p4d
  rw [f1, f2, f3, f4]
  rfl

example : True := by
  k_with_none
  trivial
theorem pigeon : ∀ (n : Nat) (f : Nat → Nat), (∀ i, i < n + 1 → f i < n) → ∃ i j, i < j ∧ j < n + 1 ∧ f i = f j := by
  intro n
  induction n with
  | zero => intro f h; exact absurd (h 0 (by omega)) (by omega)
  | succ n ih =>
    intro f h
    by_cases hc : ∃ i, i < n + 1 ∧ f i = f (n + 1)
    · obtain ⟨i, h1, h2⟩ := hc
      exact ⟨i, n + 1, h1, by omega, h2⟩
    · have hne : ∀ i, i < n + 1 → f i ≠ f (n + 1) := fun i hi e => hc ⟨i, hi, e⟩
      obtain ⟨i, j, h1, h2, h3⟩ := ih (fun i => if f (n + 1) < f i then f i - 1 else f i) (fun i hi => by
        have a := h i (by omega)
        have b := h (n + 1) (by omega)
        have c := hne i hi
        split <;> omega)
      refine ⟨i, j, h1, by omega, ?_⟩
      have a := hne i (by omega)
      have b := hne j h2
      split at h3 <;> split at h3 <;> omega
/-- the sum itself -/
noncomputable def poly (c0 c1 c2 c3 c4 c5 n : Int) : Int := c0 + n * (c1 + n * (c2 + n * (c3 + n * (c4 + n * c5))))
/-- the sum's slope between two places -/
noncomputable def slope (c1 c2 c3 c4 c5 x y : Int) : Int := c1 + c2 * (x + y) + c3 * (x * x + x * y + y * y) + c4 * (x * x * x + x * x * y + x * y * y + y * y * y) + c5 * (x * x * x * x + x * x * x * y + x * x * y * y + x * y * y * y + y * y * y * y)
theorem poly_diff (c0 c1 c2 c3 c4 c5 x y : Int) : poly c0 c1 c2 c3 c4 c5 x - poly c0 c1 c2 c3 c4 c5 y = (x - y) * slope c1 c2 c3 c4 c5 x y := by
  unfold poly slope
  grind
theorem horner (a n b M : Int) : (a % M * n + b) % M = (a * n + b) % M := by
  rw [Int.add_emod, Int.mul_emod, Int.emod_emod_of_dvd a (Int.dvd_refl M), ← Int.mul_emod, ← Int.add_emod]
theorem worth_poly (b0 b1 b2 b3 b4 b5 : UInt8) (n : Int) : worth b0 b1 b2 b3 b4 b5 n = poly b0.toNat b1.toNat b2.toNat b3.toNat b4.toNat b5.toNat n % 16777216 := by
  unfold worth
  simp only [Int.fmod_eq_emod_of_nonneg _ (show (0 : Int) ≤ 16777216 by decide)]
  rw [horner]
  have h2 : ∀ a b c d : Int, (a % 16777216 * n + b) * n + c = a % 16777216 * (n * n) + (b * n + c) := fun a b c d => by
    rw [Int.add_mul, Int.mul_assoc]; omega
  have e : ((((((b5.toNat : Int) * n + b4.toNat) * n + b3.toNat) % 16777216 * n + b2.toNat) * n + b1.toNat) * n + b0.toNat) = (((b5.toNat : Int) * n + b4.toNat) * n + b3.toNat) % 16777216 * (n * n * n) + ((b2.toNat * n + b1.toNat) * n + b0.toNat) := by
    simp only [Int.add_mul, Int.mul_assoc]; omega
  rw [e, horner]
  congr 1
  unfold poly
  grind

theorem odd_cut (m : Nat) : ∀ (a q : Int), q % 2 = 1 → (a * q) % 2 ^ m = 0 → a % 2 ^ m = 0 := by
  induction m with
  | zero => intro a q _ _; simp
  | succ m ih =>
    intro a q hq h
    have h2 : (a * q) % 2 = 0 := by
      have := Int.emod_emod_of_dvd (a * q) (show (2 : Int) ∣ 2 ^ (m + 1) from ⟨2 ^ m, by rw [Int.pow_succ, Int.mul_comm]⟩)
      rw [h] at this; simpa using this.symm
    have ha : a % 2 = 0 := by
      rw [Int.mul_emod, hq, Int.mul_one] at h2
      omega
    obtain ⟨b, rfl⟩ : ∃ b, a = 2 * b := ⟨a / 2, by omega⟩
    have hb : (b * q) % 2 ^ m = 0 := by
      rw [Int.mul_assoc, Int.pow_succ, Int.mul_comm (2 ^ m) 2, Int.mul_emod_mul_of_pos _ _ (by decide)] at h
      omega
    rw [Int.pow_succ, Int.mul_comm (2 ^ m) 2, Int.mul_emod_mul_of_pos _ _ (by decide), ih b q hq hb]
    rfl
noncomputable def par (x : Int) : Bool := x % 2 == 1
theorem par_add (a b : Int) : par (a + b) = (par a ^^ par b) := by
  unfold par
  rcases Int.emod_two_eq a with h | h <;> rcases Int.emod_two_eq b with h' | h' <;> rw [Int.add_emod, h, h'] <;> rfl
theorem par_mul (a b : Int) : par (a * b) = (par a && par b) := by
  unfold par
  rcases Int.emod_two_eq a with h | h <;> rcases Int.emod_two_eq b with h' | h' <;> rw [Int.mul_emod, h, h'] <;> rfl
theorem par_true {x : Int} : par x = true ↔ x % 2 = 1 := by unfold par; simp
theorem par_false {x : Int} : par x = false ↔ x % 2 = 0 := by unfold par; rw [beq_eq_false_iff_ne]; omega
theorem slope_par (c1 c2 c3 c4 c5 x y : Int) : par (slope c1 c2 c3 c4 c5 x y) = (par c1 ^^ (par (c2 + c4) && par (x + y)) ^^ (par (c3 + c5) && (par x || par y))) := by
  unfold slope
  simp only [par_add, par_mul]
  generalize par c1 = a1
  generalize par c2 = a2
  generalize par c3 = a3
  generalize par c4 = a4
  generalize par c5 = a5
  generalize par x = a6
  generalize par y = a7
  revert a1 a2 a3 a4 a5 a6 a7
  decide
theorem slope_odd {c1 c2 c3 c4 c5 : Int} (h1 : c1 % 2 = 1) (h2 : (c2 + c4) % 2 = 0) (h3 : (c3 + c5) % 2 = 0) (x y : Int) : slope c1 c2 c3 c4 c5 x y % 2 = 1 := by
  rw [← par_true, slope_par, par_true.mpr h1, par_false.mpr h2, par_false.mpr h3]
  rfl
section
variable (b0 b1 b2 b3 b4 b5 : UInt8)
theorem lasts_cast {b1 b2 b3 b4 b5 : Nat} : (b1 % 2 = 1 ∧ (b2 + b4) % 2 = 0 ∧ (b3 + b5) % 2 = 0) ↔ ((b1 : Int) % 2 = 1 ∧ ((b2 : Int) + (b4 : Int)) % 2 = 0 ∧ ((b3 : Int) + (b5 : Int)) % 2 = 0) := by
  refine and_congr ?_ (and_congr ?_ ?_)
  · rw [show (b1 : Int) % 2 = ((b1 % 2 : Nat) : Int) from rfl]; exact Int.ofNat_inj.symm
  · rw [show ((b2 : Int) + (b4 : Int)) % 2 = (((b2 + b4) % 2 : Nat) : Int) from rfl]; exact Int.ofNat_inj.symm
  · rw [show ((b3 : Int) + (b5 : Int)) % 2 = (((b3 + b5) % 2 : Nat) : Int) from rfl]; exact Int.ofNat_inj.symm
theorem lasts_iff : lastsB b1 b2 b3 b4 b5 = true ↔ (b1.toNat : Int) % 2 = 1 ∧ ((b2.toNat : Int) + b4.toNat) % 2 = 0 ∧ ((b3.toNat : Int) + b5.toNat) % 2 = 0 := by
  unfold lastsB
  simp only [Bool.and_eq_true, decide_eq_true_eq]
  exact lasts_cast
theorem pow64 (k : Nat) : (64 : Int) ^ k = 2 ^ (6 * k) := by rw [show (64 : Int) = 2 ^ 6 by decide, ← Int.pow_mul]
theorem diff_mod {M : Int} (hM : M ∣ 16777216) (x y : Int) : (worth b0 b1 b2 b3 b4 b5 x - worth b0 b1 b2 b3 b4 b5 y) % M = ((x - y) * slope b1.toNat b2.toNat b3.toNat b4.toNat b5.toNat x y) % M := by
  rw [worth_poly, worth_poly, Int.sub_emod, Int.emod_emod_of_dvd _ hM, Int.emod_emod_of_dvd _ hM, ← Int.sub_emod, poly_diff]
theorem alike_worth (hl : lastsB b1 b2 b3 b4 b5 = true) (x y : Int) : alikeZ (worth b0 b1 b2 b3 b4 b5 x - worth b0 b1 b2 b3 b4 b5 y) = alikeZ (x - y) := by
  obtain ⟨h1, h2, h3⟩ := (lasts_iff b1 b2 b3 b4 b5).mp hl
  have key : ∀ m : Nat, (2 : Int) ^ m ∣ 16777216 → ((worth b0 b1 b2 b3 b4 b5 x - worth b0 b1 b2 b3 b4 b5 y) % 2 ^ m = 0 ↔ (x - y) % 2 ^ m = 0) := fun m hm => by
    rw [diff_mod b0 b1 b2 b3 b4 b5 hm]
    constructor
    · exact odd_cut m _ _ (slope_odd h1 h2 h3 x y)
    · intro h; rw [Int.mul_emod, h, Int.zero_mul, Int.zero_emod]
  have k1 := key 6 ⟨262144, by decide⟩
  have k2 := key 12 ⟨4096, by decide⟩
  have k3 := key 18 ⟨64, by decide⟩
  have k4 := key 24 ⟨1, by decide⟩
  rw [show (2 : Int) ^ 6 = 64 by decide] at k1
  rw [show (2 : Int) ^ 12 = 4096 by decide] at k2
  rw [show (2 : Int) ^ 18 = 262144 by decide] at k3
  rw [show (2 : Int) ^ 24 = 16777216 by decide] at k4
  unfold alikeZ
  simp only [ne_eq, k1, k2, k3, k4]
noncomputable def fig (n : Int) : Int := worth b0 b1 b2 b3 b4 b5 n % 64
theorem fig_in (n : Int) : 0 ≤ fig b0 b1 b2 b3 b4 b5 n ∧ fig b0 b1 b2 b3 b4 b5 n < 64 := by unfold fig; omega
theorem fig_eq_iff (x y : Int) : fig b0 b1 b2 b3 b4 b5 x = fig b0 b1 b2 b3 b4 b5 y ↔ ((x - y) * slope b1.toNat b2.toNat b3.toNat b4.toNat b5.toNat x y) % 64 = 0 := by
  rw [← diff_mod b0 b1 b2 b3 b4 b5 (M := 64) ⟨262144, by decide⟩]
  unfold fig
  exact Int.emod_eq_emod_iff_emod_sub_eq_zero
theorem fig_inj (hl : lastsB b1 b2 b3 b4 b5 = true) {x y : Int} (hx : 0 ≤ x) (hx' : x < 64) (hy : 0 ≤ y) (hy' : y < 64) (h : fig b0 b1 b2 b3 b4 b5 x = fig b0 b1 b2 b3 b4 b5 y) : x = y := by
  obtain ⟨h1, h2, h3⟩ := (lasts_iff b1 b2 b3 b4 b5).mp hl
  rw [fig_eq_iff] at h
  have := odd_cut 6 (x - y) _ (slope_odd h1 h2 h3 x y) (by rw [show (2 : Int) ^ 6 = 64 by decide]; exact h)
  rw [show (2 : Int) ^ 6 = 64 by decide] at this
  omega
/-- Rivest, the other half: a sum that does not last has a figure twice -/
theorem fig_twice (hl : lastsB b1 b2 b3 b4 b5 = false) : ∃ i j : Nat, i < j ∧ j < 64 ∧ fig b0 b1 b2 b3 b4 b5 i = fig b0 b1 b2 b3 b4 b5 j := by
  have sl : ∀ x y : Int, ((x - y) % 32 = 0) → par (slope b1.toNat b2.toNat b3.toNat b4.toNat b5.toNat x y) = false → fig b0 b1 b2 b3 b4 b5 x = fig b0 b1 b2 b3 b4 b5 y := fun x y hd hp => by
    rw [fig_eq_iff]
    obtain ⟨k, hk⟩ : ∃ k, x - y = 32 * k := ⟨(x - y) / 32, by omega⟩
    have hs := par_false.mp hp
    obtain ⟨q, hq⟩ : ∃ q, slope b1.toNat b2.toNat b3.toNat b4.toNat b5.toNat x y = 2 * q := ⟨slope b1.toNat b2.toNat b3.toNat b4.toNat b5.toNat x y / 2, by omega⟩
    rw [hk, hq]
    have : 32 * k * (2 * q) = 64 * (k * q) := by
      rw [Int.mul_assoc, Int.mul_left_comm k 2 q, ← Int.mul_assoc]; omega
    rw [this]
    omega
  by_cases e1 : par b1.toNat = true
  · by_cases e2 : par ((b3.toNat : Int) + b5.toNat) = true
    · refine ⟨1, 33, by omega, by omega, sl _ _ (by decide) ?_⟩
      rw [slope_par, e1, e2]
      have : par (((1 : Nat) : Int) + ((33 : Nat) : Int)) = false := by decide
      have t : par ((33 : Nat) : Int) = true := by decide
      rw [this, t, Bool.or_true]
      cases par ((b2.toNat : Int) + b4.toNat) <;> rfl
    · have e2' : par ((b3.toNat : Int) + b5.toNat) = false := by simpa using e2
      have e3 : par ((b2.toNat : Int) + b4.toNat) = true := by
        cases e3 : par ((b2.toNat : Int) + b4.toNat) with
        | true => rfl
        | false =>
          have := (lasts_iff b1 b2 b3 b4 b5).mpr ⟨par_true.mp e1, par_false.mp e3, par_false.mp e2'⟩
          rw [this] at hl; cases hl
      have hpar : ∀ x : Int, (fig b0 b1 b2 b3 b4 b5 x - fig b0 b1 b2 b3 b4 b5 0) % 2 = 0 := fun x => by
        have hp : par (x * slope b1.toNat b2.toNat b3.toNat b4.toNat b5.toNat x 0) = false := by
          rw [par_mul, slope_par, e1, e2', e3]
          rw [show x + 0 = x by omega]
          cases par x <;> rfl
        have d := diff_mod b0 b1 b2 b3 b4 b5 (M := 2) ⟨8388608, by decide⟩ x 0
        rw [show x - 0 = x by omega, par_false.mp hp] at d
        unfold fig
        omega
      obtain ⟨i, j, h1, h2, h3⟩ := pigeon 32 (fun i => ((fig b0 b1 b2 b3 b4 b5 i) / 2).toNat) (fun i _ => by
        have := fig_in b0 b1 b2 b3 b4 b5 i
        omega)
      refine ⟨i, j, h1, by omega, ?_⟩
      have a := hpar i
      have b := hpar j
      have c := fig_in b0 b1 b2 b3 b4 b5 i
      have d := fig_in b0 b1 b2 b3 b4 b5 j
      omega
  · have e1' : par (b1.toNat : Int) = false := by simpa using e1
    refine ⟨0, 32, by omega, by omega, sl _ _ (by decide) ?_⟩
    rw [slope_par, e1']
    have : par ((0 : Nat) : Int) = false := by decide
    have t : par ((32 : Nat) : Int) = false := by decide
    have u : par (((0 : Nat) : Int) + ((32 : Nat) : Int)) = false := by decide
    rw [this, t, u]
    simp
end

example : True := by
  k_with_none
  trivial
noncomputable def One (c : Nat) : Str := ⟨#[c]⟩
theorem sgB_ne : ∀ i : Fin 64, sgB (i : Nat) ≠ 47 := by decide +kernel
theorem sgC_ne (i : Int) (h0 : 0 ≤ i) (h1 : i < 64) : sgC i ≠ 47 := by
  intro e
  have := sgB_ne ⟨i.toNat, by omega⟩
  have e2 : ((i.toNat : Nat) : Int) = i := by omega
  dsimp only at this
  rw [e2] at this
  exact this (UInt8.toNat_inj.mp e)
theorem sgC_mod (i : Int) : sgC (i % 64) ≠ 47 := sgC_ne _ (by omega) (by omega)
theorem slash_is : Str.ofString "/" = ⟨#[47]⟩ := by decide +kernel
theorem one_head {c : Nat} (h : c ≠ 47) : ((#[c] : Array Nat) == #[47]) = false := by simp [h]
theorem sw_one {c : Nat} (h : c ≠ 47) : Txt.startswith (One c) (Str.ofString "/") = false := by
  rw [slash_is]
  show (decide (0 + 1 ≤ 1) && ((#[c] : Array Nat).extract 0 (0 + 1) == #[47])) = false
  simp [h]
noncomputable def P1 (a : Nat) : Str := ⟨#[47, a]⟩
noncomputable def P2 (a b : Nat) : Str := ⟨#[47, a, 47, b]⟩
noncomputable def P3 (a b c : Nat) : Str := ⟨#[47, a, 47, b, 47, c]⟩
noncomputable def P4 (a b c d : Nat) : Str := ⟨#[47, a, 47, b, 47, c, 47, d]⟩
theorem ew_slash : Txt.endswith (Str.ofString "/") (Str.ofString "/") = true := by decide +kernel
theorem ew_1 {a : Nat} (h : a ≠ 47) : Txt.endswith (P1 a) (Str.ofString "/") = false := by
  rw [slash_is]
  show (decide (0 + 1 ≤ 2) && ((#[47, a] : Array Nat).extract (2 - 1) (2 - 1 + 1) == #[47])) = false
  simp [h]
theorem ew_2 {a b : Nat} (h : b ≠ 47) : Txt.endswith (P2 a b) (Str.ofString "/") = false := by
  rw [slash_is]
  show (decide (0 + 1 ≤ 4) && ((#[47, a, 47, b] : Array Nat).extract (4 - 1) (4 - 1 + 1) == #[47])) = false
  simp [h]
theorem ew_3 {a b c : Nat} (h : c ≠ 47) : Txt.endswith (P3 a b c) (Str.ofString "/") = false := by
  rw [slash_is]
  show (decide (0 + 1 ≤ 6) && ((#[47, a, 47, b, 47, c] : Array Nat).extract (6 - 1) (6 - 1 + 1) == #[47])) = false
  simp [h]
theorem slash_one (c : Nat) : Str.ofString "/" ++ One c = P1 c := by rw [slash_is]; rfl
theorem len_slash : (Str.ofString "/").length = 1 := by decide +kernel
theorem sign_one64 : ∀ i : Fin 64, Txt.item (Str.ofString "ABCDEFGHIJKLMNOPQRSTUVWXYZabcdefghijklmnopqrstuvwxyz0123456789-_") ((i : Nat) : Int) = One (sgC ((i : Nat) : Int)) := by decide +kernel
theorem sign_one (i : Int) (h0 : 0 ≤ i) (h1 : i < 64) : signS i = One (sgC i) := by
  have := sign_one64 ⟨i.toNat, by omega⟩
  have e2 : ((i.toNat : Nat) : Int) = i := by omega
  dsimp only at this
  rw [e2] at this
  exact this
/-- the first c names of a number's path -/
noncomputable def frontT (n c : Int) : Str := if c = 0 then ⟨#[47]⟩ else if c = 1 then P1 (sgC (n % 64)) else if c = 2 then P2 (sgC (n % 64)) (sgC (n / 64 % 64)) else if c = 3 then P3 (sgC (n % 64)) (sgC (n / 64 % 64)) (sgC (n / 4096 % 64))
  else P4 (sgC (n % 64)) (sgC (n / 64 % 64)) (sgC (n / 4096 % 64)) (sgC (n / 262144 % 64))
theorem join0 : Str.ofString "/" ++ Txt.join (Str.ofString "/") [] = ⟨#[47]⟩ := by decide +kernel
theorem join1 (a : Nat) : Str.ofString "/" ++ Txt.join (Str.ofString "/") [One a] = P1 a := by rw [slash_is]; rfl
theorem join2 (a b : Nat) : Str.ofString "/" ++ Txt.join (Str.ofString "/") [One a, One b] = P2 a b := by rw [slash_is]; rfl
theorem join3 (a b c : Nat) : Str.ofString "/" ++ Txt.join (Str.ofString "/") [One a, One b, One c] = P3 a b c := by rw [slash_is]; rfl
theorem join4 (a b c d : Nat) : Str.ofString "/" ++ Txt.join (Str.ofString "/") [One a, One b, One c, One d] = P4 a b c d := by rw [slash_is]; rfl
theorem figs (n : Int) : (n.fdiv (64 ^ Int.toNat (0 + ((0 : Nat) : Int)))).fmod 64 = n % 64 ∧ (n.fdiv (64 ^ Int.toNat (0 + ((1 : Nat) : Int)))).fmod 64 = n / 64 % 64 ∧ (n.fdiv (64 ^ Int.toNat (0 + ((2 : Nat) : Int)))).fmod 64 = n / 4096 % 64 ∧ (n.fdiv (64 ^ Int.toNat (0 + ((3 : Nat) : Int)))).fmod 64 = n / 262144 % 64 := by
  refine ⟨?_, ?_, ?_, ?_⟩
  · rw [show (64 : Int) ^ Int.toNat (0 + ((0 : Nat) : Int)) = 1 by decide, fdiv_pos _ (by decide), Int.fmod_eq_emod_of_nonneg _ (by decide), Int.ediv_one]
  · rw [show (64 : Int) ^ Int.toNat (0 + ((1 : Nat) : Int)) = 64 by decide, fdiv_pos _ (by decide), Int.fmod_eq_emod_of_nonneg _ (by decide)]
  · rw [show (64 : Int) ^ Int.toNat (0 + ((2 : Nat) : Int)) = 4096 by decide, fdiv_pos _ (by decide), Int.fmod_eq_emod_of_nonneg _ (by decide)]
  · rw [show (64 : Int) ^ Int.toNat (0 + ((3 : Nat) : Int)) = 262144 by decide, fdiv_pos _ (by decide), Int.fmod_eq_emod_of_nonneg _ (by decide)]

example : True := by
  k_with_none
  trivial
example : True := by
  (k_with "my my_enter" => ((refine wpAny_call ?_; k_dflt (first
      | (refine' enterP ?k3_q1 ?k5_q1 ?k6_q1 ?k7_q1 ?k8_q1 ?k9_q1 ?kB_q1 ?_ ?c2_q1 ?c3_q1 ?c4_q1 ?c5_q1; (case k3_q1 => k_asm); (case k5_q1 => k_asm); (case k6_q1 => k_is); (case k7_q1 => k_is); (case k8_q1 => k_room); (case k9_q1 => first | exact BindsTo.of_eq (binds := [(_, _)]) rfl | exact BindsTo.of_eq (binds := [(_, _), (_, _)]) rfl | exact BindsTo.of_eq rfl | exact binds_K (by k_in) rfl (by k_is) rfl rfl rfl | fail "my_enter: no rule for these arguments"); (case c5_q1 => decide); (case kB_q1 => exact locs rfl); (case c2_q1 => exact rfl); (case c3_q1 => exact rfl); (case c4_q1 => exact rfl); k_whole; intro L' h' F' N'; (try dsimp only); (try k_fold))
      | (refine' enterPC ?k3_q1 ?k5_q1 ?k6_q1 ?k7_q1 ?k8_q1 ?k9_q1 ?kB_q1 ?kD_q1 ?_ ?c2_q1 ?c3_q1 ?c4_q1; (case k3_q1 => k_asm); (case k5_q1 => k_asm); (case k6_q1 => k_is); (case k7_q1 => k_is); (case k8_q1 => k_room); (case k9_q1 => first | exact BindsTo.of_eq (binds := [(_, _)]) rfl | exact BindsTo.of_eq (binds := [(_, _), (_, _)]) rfl | exact BindsTo.of_eq rfl | exact binds_K (by k_in) rfl (by k_is) rfl rfl rfl | fail "my_enter: no rule for these arguments"); (case kB_q1 => exact rfl); (case kD_q1 => decide +kernel); (case c2_q1 => exact rfl); (case c3_q1 => exact rfl); (case c4_q1 => exact rfl); k_whole; intro L' h' tk' cells' F' N' Y'; k_cells Y'; (try simp only [List.cons_append, List.nil_append, List.append_nil] at N'); (try dsimp only); (try k_fold))))))
  trivial
example : True := by
  (k_with "my call type:type" => (((with_reducible show wpAny _ _ (call _ [Value.bytes _ _]) _ _ _); refine call_type_of (Tx := "bytes") rfl (by decide +kernel) ?_)))
  trivial
example : True := by
  (k_with "my my_steps" => (repeat' (first | (k_unfold; (try dsimp only)) | ((fail_if_success (with_reducible show InvEndN _ _ _ _ _ _ _)); first | walk1 | (dsimp only; walk1) | (leave1; try dsimp only)) | fail "no step")))
  trivial
example : True := by
  (k_with "my use_cases" => (((case kB => first | k_asm | fail "use: below"); (case kF => first | k_asm | fail "use: frame"); (case kX => first | k_asm | fail "use: written part"); (case kN => first | k_asm | fail "use: ledger"); (case kT => first | k_asm | fail "use: top"); (case kk => first | exact rfl | assumption | fail "use: kind"); (case kd => first | ktr_room | fail "use: room"); (case ku => first | ktr_units | fail "use: units"))))
  trivial
example : True := by
  (k_with "my my_enterT" => ((refine wpAny_call ?_; k_dflt (first
      | (refine' enterT ?ksub_q5 ?ksz_q5 ?k3_q5 ?k5_q5 ?kt_q5 ?kg_q5 ?k6_q5 ?k7_q5 ?k8_q5 ?k9_q5 ?kB_q5 ?_ ?c2_q5 ?c3_q5 ?c4_q5 ?c5_q5; (case ksub_q5 => assumption); (case ksz_q5 => assumption); (case kt_q5 => assumption); (case kg_q5 => assumption); (case k3_q5 => k_asm); (case k5_q5 => k_asm); (case k6_q5 => k_is); (case k7_q5 => k_is); (case k8_q5 => k_room); (case k9_q5 => first | exact BindsTo.of_eq (binds := [(_, _)]) rfl | exact BindsTo.of_eq (binds := [(_, _), (_, _)]) rfl | exact BindsTo.of_eq rfl | exact binds_K (by k_in) rfl (by k_is) rfl rfl rfl | fail "my_enter: no rule for these arguments"); (case c5_q5 => decide); (case kB_q5 => exact locs rfl); (case c2_q5 => exact rfl); (case c3_q5 => exact rfl); (case c4_q5 => exact rfl); k_whole; intro L' h' F' N' l0; (replace l0 := ltN l0); (try dsimp only); (try k_fold))
      | (refine' enterTC ?ksub_q5 ?ksz_q5 ?k3_q5 ?k5_q5 ?kt_q5 ?kg_q5 ?k6_q5 ?k7_q5 ?k8_q5 ?k9_q5 ?kB_q5 ?kD_q5 ?_ ?c2_q5 ?c3_q5 ?c4_q5; (case ksub_q5 => assumption); (case ksz_q5 => assumption); (case kt_q5 => assumption); (case kg_q5 => assumption); (case k3_q5 => k_asm); (case k5_q5 => k_asm); (case k6_q5 => k_is); (case k7_q5 => k_is); (case k8_q5 => k_room); (case k9_q5 => first | exact BindsTo.of_eq (binds := [(_, _)]) rfl | exact BindsTo.of_eq (binds := [(_, _), (_, _)]) rfl | exact BindsTo.of_eq rfl | exact binds_K (by k_in) rfl (by k_is) rfl rfl rfl | fail "my_enter: no rule for these arguments"); (case kB_q5 => exact rfl); (case kD_q5 => decide +kernel); (case c2_q5 => exact rfl); (case c3_q5 => exact rfl); (case c4_q5 => exact rfl); k_whole; intro L' h' tk' cells' F' N' Y' l0; (replace l0 := ltN l0); k_cells Y'; (try simp only [List.cons_append, List.nil_append, List.append_nil] at N'); (try dsimp only); (try k_fold))))))
  trivial
example : True := by
  (k_with "my execs cons" => (((with_reducible refine wpAny_execs_cons ?_); (try dsimp only); (try k_fold); (try ((rename Fr _ _ _ _ => F9); (refine foldFr F9 ?_); (intro mk9 F8); (clear F9))))))
  trivial
example : True := by
  (k_with "my size_fits" => (exact Nat.le_of_ble_eq_true rfl))
  trivial
example : True := by
  (k_with "my pick_chain" => (((iterate 15 (try (first | with_reducible assumption | apply pickR))); done)))
  trivial
example : True := by
  (k_with "my pick_one" => ((first | with_reducible assumption | (apply pickL; walk_at "pick_chain") | walk_at "pick_chain")))
  trivial
example : True := by
  (k_with "my pick_ne" => ((refine neN ?_; (try dsimp only); (first | with_reducible assumption | (refine Nat.ne_of_lt ?_; (simp only [*]; done)) | (refine Nat.ne_of_gt ?_; (simp only [*]; done)) | (simp only [*, ne_eq, not_false_eq_true]; done) | (refine Ne.symm ?_; (simp only [*, ne_eq, not_false_eq_true]; done)) | (refine ne_up ?_; (simp only [*]; done)) | (refine ne_up' ?_; (simp only [*]; done))))))
  trivial
example : True := by
  (k_with "my pick_lim" => ((first
      | (refine' lim1 ?h_q11 ?k_q11; (case h_q11 => assumption); (case k_q11 => exact rfl))
      | (refine' lim2 ?h_q11 ?k_q11; (case h_q11 => assumption); (case k_q11 => exact rfl))
      | (refine' lim0 ?h_q11; (case h_q11 => assumption))
      | (refine' lim3 ?h_q11 ?k_q11; (case h_q11 => assumption); (case k_q11 => exact rfl)))))
  trivial
example : True := by
  (k_with "my pick_all" => ((first | exact allNe_nil | (refine' allNe_cons ?a_q12 ?b_q12; (case a_q12 => k_ne); (case b_q12 => k_all)))))
  trivial
example : True := by
  (k_with "my eval Name" => ((k_here; (with_reducible show wpAny _ _ (eval (Expr.Name _ _) (compEnvC _ _ _ _)) _ _ _); k_dflt (first | refine LCgL.ld_own (by with_reducible assumption) (by k_mem) (by with_reducible assumption) (by with_reducible assumption) ?_ | refine LCgL.ld_global (by with_reducible assumption) (by with_reducible assumption) (by with_reducible assumption) (by k_is) ?_ | refine LCgL.ld_built (by with_reducible assumption) (by with_reducible assumption) (by with_reducible assumption) (by k_is) (by boot_by_name) (by decide) ?_))))
  trivial

section
open PySem.W.X PySem.W.XRun in
example : True := by
  (k_with "my x_close" => ((apply_assumption)))
  trivial
open PySem.W.X PySem.W.XRun in
theorem sub_str {prog : Program} {w : World} {A : Around} {E : Value → Shared → Prop} {s : Shared} {D : Addr} {n : Nat} {Q : Value → Shared → Prop} (hD : s.heap.get? D = some ⟨.type "tuple", none, .seq #[.type "str", .type "bytes"] n, #[]⟩) (h : ∀ k, Q (.bool true) { s with toks := k }) :
    wpAny (model prog w) A (call (.builtin "issubclass") [.type "str", .ref D]) Q E s := by
  x_run
example : True := by
  (k_with "my call builtin:issubclass" => ((refine sub_str (News.get (by k_asm) (by k_mem)) ?_; intro _)))
  trivial
theorem fspath_spec (w : World) (x : Str) (tk : Tok) : SpecP w 173 [.str x tk] [] 1 (fun _ => True) (fun r _ _ => r = .str x tk) := by
  unfold SpecP
  k_fill
  intro _ dp un gd outer base s Q E p loose mean mg mb B X T hpre hdp hun hret
  walk_at "my_enter"
  walk_at "my_steps"
  all_goals exact hret _ _ _ (Fr.keep (by assumption)) rfl
theorem sep_spec (w : World) (x : Str) (tk : Tok) : SpecP w 187 [.str x tk] [] 1 (fun _ => True) (fun r _ _ => ∃ t, r = .str (Str.ofString "/") t) := by
  unfold SpecP
  k_fill
  intro _ dp un gd outer base s Q E p loose mean mg mb B X T hpre hdp hun hret
  walk_at "my_enter"
  walk_at "my_steps"
  all_goals exact hret _ _ _ (Fr.keep (by assumption)) ⟨_, rfl⟩
theorem news_tail {h₀ h : Heap} {L : Addr} {q : Addr × Obj} {news : List (Addr × Obj)} (N : News h₀ L h (q :: news)) : News h₀ L h news := fun x hx => N x (.tail _ hx)
noncomputable def pathT (n : Int) : Str := ⟨#[sgC (n / 262144 % 64), sgC (n / 4096 % 64), sgC (n / 64 % 64), sgC (n % 64)]⟩
theorem path_str (n : Int) : (⟨(pathB n).map (·.toNat)⟩ : Str) = pathT n := by unfold pathB pathT sgC; simp
theorem len4 {prog : Program} {w : World} {A : Around} {E : Value → Shared → Prop} {s : Shared} {a b c d : Nat} {t : Tok} {Q : Value → Shared → Prop} (h : ∀ t' k, Q (.int 4 t') { s with toks := k }) :
    wpAny (model prog w) A (call (.builtin "len") [.str ⟨#[a, b, c, d]⟩ t]) Q E s := by
  refine PyProof.Rows.len_str (by show ¬ (((4 : Nat) : Int) ≥ 2 ^ 63); decide) ?_
  exact h _ _
theorem three_in {n : Int} (h0 : 0 ≤ n) (h1 : n < 16777216) : ∀ x ∈ [n.fdiv 65536, (n.fdiv 256).fmod 256, n.fmod 256], 0 ≤ x ∧ x < 256 := by
  simp only [List.forall_mem_cons, Int.fdiv_eq_ediv_of_nonneg _ (show (0 : Int) ≤ 65536 by decide), Int.fdiv_eq_ediv_of_nonneg _ (show (0 : Int) ≤ 256 by decide), Int.fmod_eq_emod_of_nonneg _ (show (0 : Int) ≤ 256 by decide)]
  refine ⟨by omega, by omega, by omega, fun x hx => nomatch hx⟩
example : True := by
  (k_with "my call type:bytes" => ((k_dflt (refine' bytes_K ?F_q36 ?N_q36 ?l_q36 ?i_q36 ?r_q36 ?z_q36 ?h_q36 ?_; (case F_q36 => k_asm); (case N_q36 => k_asm); (case l_q36 => is_list); (case i_q36 => exact .cons _ _ (.cons _ _ (.cons _ _ .nil))); (case r_q36 => exact three_in (by assumption) (by assumption)); (case z_q36 => exact Nat.le_of_ble_eq_true rfl); (case h_q36 => exact rfl)); intro h' t' k' F' N' _; (try k_sweep))))
  trivial
example : True := by
  (k_with "my call builtin:len" => (((with_reducible show wpAny _ _ (call _ [Value.str (pathT _) _]) _ _ _); k_dflt (refine len4 ?_); intro _ _)))
  trivial
section
variable {prog : Program} {w : World} {A : Around} {E : Value → Shared → Prop} {s : Shared} {a b c d : Nat} {t u : Tok} {i : Int} {value slice : Expr} {Q : Value → Shared → Prop}
theorem item4 {k : Int} {r : Nat} (hi : i = k) (h0 : 0 ≤ k) (h1 : k < 4) (hr : Txt.item ⟨#[a, b, c, d]⟩ k = One r) (h : Q (.str (One r) s.toks) { s with toks := s.toks + 1 })
    (hs : subscripted slice false (.str ⟨#[a, b, c, d]⟩ t) (.int i u) = operate [.str ⟨#[a, b, c, d]⟩ t, .int i u] (getItem (.str ⟨#[a, b, c, d]⟩ t) (.int i u)) := by with_unfolding_all rfl)
    (ht : ∀ r, letTemporaryGo value (.str ⟨#[a, b, c, d]⟩ t) r = pure () := by intro _; with_unfolding_all rfl) :
    wpAny (model prog w) A (subscriptTail value slice (.str ⟨#[a, b, c, d]⟩ t) (.int i u)) Q E s := by
  subst hi
  exact KXi.item (n := 4) rfl (by omega) (by omega) (by decide) (fun _ => by rw [hr]; exact h) hs ht
theorem item4_0 (hi : i = 0) (h : Q (.str (One a) s.toks) { s with toks := s.toks + 1 })
    (hs : subscripted slice false (.str ⟨#[a, b, c, d]⟩ t) (.int i u) = operate [.str ⟨#[a, b, c, d]⟩ t, .int i u] (getItem (.str ⟨#[a, b, c, d]⟩ t) (.int i u)) := by with_unfolding_all rfl)
    (ht : ∀ r, letTemporaryGo value (.str ⟨#[a, b, c, d]⟩ t) r = pure () := by intro _; with_unfolding_all rfl) :
    wpAny (model prog w) A (subscriptTail value slice (.str ⟨#[a, b, c, d]⟩ t) (.int i u)) Q E s := item4 hi (by decide) (by decide) rfl h hs ht
theorem item4_1 (hi : i = 1) (h : Q (.str (One b) s.toks) { s with toks := s.toks + 1 })
    (hs : subscripted slice false (.str ⟨#[a, b, c, d]⟩ t) (.int i u) = operate [.str ⟨#[a, b, c, d]⟩ t, .int i u] (getItem (.str ⟨#[a, b, c, d]⟩ t) (.int i u)) := by with_unfolding_all rfl)
    (ht : ∀ r, letTemporaryGo value (.str ⟨#[a, b, c, d]⟩ t) r = pure () := by intro _; with_unfolding_all rfl) :
    wpAny (model prog w) A (subscriptTail value slice (.str ⟨#[a, b, c, d]⟩ t) (.int i u)) Q E s := item4 hi (by decide) (by decide) rfl h hs ht
theorem item4_2 (hi : i = 2) (h : Q (.str (One c) s.toks) { s with toks := s.toks + 1 })
    (hs : subscripted slice false (.str ⟨#[a, b, c, d]⟩ t) (.int i u) = operate [.str ⟨#[a, b, c, d]⟩ t, .int i u] (getItem (.str ⟨#[a, b, c, d]⟩ t) (.int i u)) := by with_unfolding_all rfl)
    (ht : ∀ r, letTemporaryGo value (.str ⟨#[a, b, c, d]⟩ t) r = pure () := by intro _; with_unfolding_all rfl) :
    wpAny (model prog w) A (subscriptTail value slice (.str ⟨#[a, b, c, d]⟩ t) (.int i u)) Q E s := item4 hi (by decide) (by decide) rfl h hs ht
theorem item4_3 (hi : i = 3) (h : Q (.str (One d) s.toks) { s with toks := s.toks + 1 })
    (hs : subscripted slice false (.str ⟨#[a, b, c, d]⟩ t) (.int i u) = operate [.str ⟨#[a, b, c, d]⟩ t, .int i u] (getItem (.str ⟨#[a, b, c, d]⟩ t) (.int i u)) := by with_unfolding_all rfl)
    (ht : ∀ r, letTemporaryGo value (.str ⟨#[a, b, c, d]⟩ t) r = pure () := by intro _; with_unfolding_all rfl) :
    wpAny (model prog w) A (subscriptTail value slice (.str ⟨#[a, b, c, d]⟩ t) (.int i u)) Q E s := item4 hi (by decide) (by decide) rfl h hs ht
end
example : True := by
  (k_with "my subscriptTail" => (((with_reducible show wpAny _ _ (subscriptTail _ _ (Value.str (pathT _) _) (Value.int _ _)) _ _ _); k_dflt (first | refine item4_0 (by decide) ?_ | refine item4_1 (by decide) ?_ | refine item4_2 (by decide) ?_ | refine item4_3 (by decide) ?_))))
  trivial
example : True := by
  (k_with "my CompSrc" => ((k_here; k_dflt (first
      | (refine LCg.CompSrc.ledger (by rfl) (by k_asm) (by k_asm) (by k_mem) (by first | size_fits | exact Nat.le_of_ble_eq_true rfl) ?_; intro g'; lcg_lit)
      | (refine LCg.CompSrc.range (by rfl) (by k_asm) (by k_asm) (by assumption) (by first | decide | rfl) (by first | rfl | decide) (by first | size_fits | exact Nat.le_of_ble_eq_true rfl) ?_; intro g'; lcg_lit)))))
  trivial
section
variable {prog : Program} {w : World} {A : Around} {E : Value → Shared → Prop} {s : Shared} {x y z : Str} {t u : Tok} {Q : Value → Shared → Prop}
theorem add_to (e : x ++ y = z) (hsz : x.length + y.length ≤ 1000) (h : ∀ t' k, Q (.str z t') { s with toks := k }) : wpAny (model prog w) A (binaryOp .Add (.str x t) (.str y u)) Q E s :=
  SB.add (fun t' k => by rw [e]; exact h t' k) (by rw [sizeLine_eq]; omega)
theorem iadd_to (e : x ++ y = z) (hsz : x.length + y.length ≤ 1000) (h : ∀ t' k, Q (.str z t') { s with toks := k }) : wpAny (model prog w) A (inplaceOp .Add (.str x t) (.str y u)) Q E s :=
  SB.iadd (fun t' k => by rw [e]; exact h t' k) (by rw [sizeLine_eq]; omega)
end
section
variable {prog : Program} {w : World} {A : Around} {E : Value → Shared → Prop} {s : Shared} {a b c d : Nat} {t u : Tok} {Q : Value → Shared → Prop} {QB : Bool → Shared → Prop}
theorem iadd_s1 (h : ∀ t' k, Q (.str (P1 a) t') { s with toks := k }) : wpAny (model prog w) A (inplaceOp .Add (.str (Str.ofString "/") t) (.str (One a) u)) Q E s :=
  iadd_to (slash_one _) (by rw [len_slash]; exact (show 1 + 1 ≤ 1000 by decide)) h
theorem add_s1 (h : ∀ t' k, Q (.str (P1 a) t') { s with toks := k }) : wpAny (model prog w) A (binaryOp .Add (.str (Str.ofString "/") t) (.str (One a) u)) Q E s :=
  add_to (slash_one _) (by rw [len_slash]; exact (show 1 + 1 ≤ 1000 by decide)) h
theorem iadd_12 (h : ∀ t' k, Q (.str (P2 a b) t') { s with toks := k }) : wpAny (model prog w) A (inplaceOp .Add (.str (P1 a) t) (.str (P1 b) u)) Q E s := iadd_to rfl (show 2 + 2 ≤ 1000 by decide) h
theorem iadd_23 (h : ∀ t' k, Q (.str (P3 a b c) t') { s with toks := k }) : wpAny (model prog w) A (inplaceOp .Add (.str (P2 a b) t) (.str (P1 c) u)) Q E s := iadd_to rfl (show 4 + 2 ≤ 1000 by decide) h
theorem iadd_34 (h : ∀ t' k, Q (.str (P4 a b c d) t') { s with toks := k }) : wpAny (model prog w) A (inplaceOp .Add (.str (P3 a b c) t) (.str (P1 d) u)) Q E s := iadd_to rfl (show 6 + 2 ≤ 1000 by decide) h
theorem tr_1 (h : ∀ k, QB true { s with toks := k }) : wpAny (model prog w) A (truthy (.str (P1 a) t)) QB E s := KXt.truthy_pos (K := 10) (show 1 ≤ 2 by decide) (show 2 ≤ 10 by decide) (by decide) h
theorem tr_2 (h : ∀ k, QB true { s with toks := k }) : wpAny (model prog w) A (truthy (.str (P2 a b) t)) QB E s := KXt.truthy_pos (K := 10) (show 1 ≤ 4 by decide) (show 4 ≤ 10 by decide) (by decide) h
theorem tr_3 (h : ∀ k, QB true { s with toks := k }) : wpAny (model prog w) A (truthy (.str (P3 a b c) t)) QB E s := KXt.truthy_pos (K := 10) (show 1 ≤ 6 by decide) (show 6 ≤ 10 by decide) (by decide) h
end
example : True := by
  (k_with "my inplaceOp Add str str" => (((with_reducible (first | refine iadd_s1 ?_ | refine iadd_12 ?_ | refine iadd_23 ?_ | refine iadd_34 ?_)); intro _ _)))
  trivial
example : True := by
  (k_with "my binaryOp Add str str" => (((with_reducible (refine add_s1 ?_)); intro _ _)))
  trivial
example : True := by
  (k_with "my truthy str" => (((with_reducible (first | refine tr_1 ?_ | refine tr_2 ?_ | refine tr_3 ?_)); intro _)))
  trivial
example : True := by
  (k_with "my ite" => (first
      | (refine ite_neg ?hc_q43 ?_; (case hc_q43 => (first | (rw [sw_one (sgC_mod _)]; exact Bool.false_ne_true) | (rw [ew_1 (sgC_mod _)]; exact Bool.false_ne_true) | (rw [ew_2 (sgC_mod _)]; exact Bool.false_ne_true) | (rw [ew_3 (sgC_mod _)]; exact Bool.false_ne_true))))
      | (refine ite_pos ?hc_q43 ?_; (case hc_q43 => exact ew_slash))))
  trivial
theorem path_spec (w : World) (n : Int) (tk : Tok) (h0 : 0 ≤ n) (h1 : n < 16777216) : SpecP w 270 [.int n tk] [] 9 Filled (fun r _ _ => ∃ t, r = .str ⟨#[47, sgC (n % 64), 47, sgC (n / 64 % 64), 47, sgC (n / 4096 % 64), 47, sgC (n / 262144 % 64)]⟩ t) := by
  unfold SpecP
  k_fill
  intro _ dp un gd outer base s Q E p loose mean mg mb B X T hpre hdp hun hret
  walk_at "my_enter"
  k_with "call ref" => (k_dflt (first
    | (refine' useP (fspath_spec _ _ _) ?kB ?kF ?kX ?kN ?kT ?kk ?kp ?kd ?ku ?_; (walk_at "use_cases"); (case kp => trivial); (intro r9 h9 tk9 F9 N9 P9 K9; obtain rfl := P9; (try dsimp only); (try k_fold)))
    | (refine' useP (sep_spec _ _ _) ?kB ?kF ?kX ?kN ?kT ?kk ?kp ?kd ?ku ?_; (walk_at "use_cases"); (case kp => trivial); (intro r9 h9 tk9 F9 N9 P9 K9; obtain ⟨t9, rfl⟩ := P9; (try dsimp only); (try k_fold)))
    | (refine' useP (three_spec _ _ _ h0 h1) ?kB ?kF ?kX ?kN ?kT ?kk ?kp ?kd ?ku ?_; (walk_at "use_cases"); (case kp => trivial); (intro r9 h9 tk9 F9 N9 P9 K9; obtain ⟨l9, t91, t92, t93, rfl, hg9, hn9⟩ := P9; (replace N9 := news_more (by assumption) N9 hg9 hn9); (try dsimp only); (try k_fold)))
    | (refine' useP (url_spec _ _ _ ?sz) ?kB ?kF ?kX ?kN ?kT ?kk ?kp ?kd ?ku ?_; (case sz => exact Nat.le_of_ble_eq_true rfl); (walk_at "use_cases"); (case kp => trivial); (intro r9 h9 tk9 F9 N9 P9 K9; obtain ⟨t9, rfl⟩ := P9; (rw [path_octets _ h0 h1]); (try dsimp only); (try k_fold)))
    | (refine' useP (text_spec _ _ _ ?sz1 ?sz2) ?kB ?kF ?kX ?kN ?kT ?kk ?kp ?kd ?ku ?_; (case sz1 => exact Nat.le_of_ble_eq_true rfl); (case sz2 => exact Nat.le_of_ble_eq_true rfl); (walk_at "use_cases"); (case kp => exact Filled.keeps hpre (Fr.keep (by assumption))); (intro r9 h9 tk9 F9 N9 P9 K9; obtain ⟨t9, rfl⟩ := P9; (rw [path_str]); (replace N9 := news_tail N9); (try dsimp only); (try k_fold)))))
  walk_at "my_steps"
  all_goals exact hret _ _ _ (Fr.keep (by assumption)) ⟨_, rfl⟩
end

example : True := by
  k_with_none
  trivial
example : True := by
  (k_with "my my_enter" => ((refine wpAny_call ?_; k_dflt (first
      | (refine' enterP ?k3_q1 ?k5_q1 ?k6_q1 ?k7_q1 ?k8_q1 ?k9_q1 ?kB_q1 ?_ ?c2_q1 ?c3_q1 ?c4_q1 ?c5_q1; (case k3_q1 => k_asm); (case k5_q1 => k_asm); (case k6_q1 => k_is); (case k7_q1 => k_is); (case k8_q1 => k_room); (case k9_q1 => first | exact BindsTo.of_eq (binds := [(_, _)]) rfl | exact BindsTo.of_eq (binds := [(_, _), (_, _)]) rfl | exact BindsTo.of_eq rfl | exact binds_K (by k_in) rfl (by k_is) rfl rfl rfl | fail "my_enter: no rule for these arguments"); (case c5_q1 => decide); (case kB_q1 => exact locs rfl); (case c2_q1 => exact rfl); (case c3_q1 => exact rfl); (case c4_q1 => exact rfl); k_whole; intro L' h' F' N'; (try dsimp only); (try k_fold))
      | (refine' enterPC ?k3_q1 ?k5_q1 ?k6_q1 ?k7_q1 ?k8_q1 ?k9_q1 ?kB_q1 ?kD_q1 ?_ ?c2_q1 ?c3_q1 ?c4_q1; (case k3_q1 => k_asm); (case k5_q1 => k_asm); (case k6_q1 => k_is); (case k7_q1 => k_is); (case k8_q1 => k_room); (case k9_q1 => first | exact BindsTo.of_eq (binds := [(_, _)]) rfl | exact BindsTo.of_eq (binds := [(_, _), (_, _)]) rfl | exact BindsTo.of_eq rfl | exact binds_K (by k_in) rfl (by k_is) rfl rfl rfl | fail "my_enter: no rule for these arguments"); (case kB_q1 => exact rfl); (case kD_q1 => decide +kernel); (case c2_q1 => exact rfl); (case c3_q1 => exact rfl); (case c4_q1 => exact rfl); k_whole; intro L' h' tk' cells' F' N' Y'; k_cells Y'; (try simp only [List.cons_append, List.nil_append, List.append_nil] at N'); (try dsimp only); (try k_fold))))))
  trivial
example : True := by
  (k_with "my call type:type" => (((with_reducible show wpAny _ _ (call _ [Value.bytes _ _]) _ _ _); refine call_type_of (Tx := "bytes") rfl (by decide +kernel) ?_)))
  trivial
example : True := by
  (k_with "my my_steps" => (repeat' (first | (k_unfold; (try dsimp only)) | ((fail_if_success (with_reducible show InvEndN _ _ _ _ _ _ _)); first | walk1 | (dsimp only; walk1) | (leave1; try dsimp only)) | fail "no step")))
  trivial
example : True := by
  (k_with "my use_cases" => (((case kB => first | k_asm | fail "use: below"); (case kF => first | k_asm | fail "use: frame"); (case kX => first | k_asm | fail "use: written part"); (case kN => first | k_asm | fail "use: ledger"); (case kT => first | k_asm | fail "use: top"); (case kk => first | exact rfl | assumption | fail "use: kind"); (case kd => first | ktr_room | fail "use: room"); (case ku => first | ktr_units | fail "use: units"))))
  trivial
example : True := by
  (k_with "my my_enterT" => ((refine wpAny_call ?_; k_dflt (first
      | (refine' enterT ?ksub_q5 ?ksz_q5 ?k3_q5 ?k5_q5 ?kt_q5 ?kg_q5 ?k6_q5 ?k7_q5 ?k8_q5 ?k9_q5 ?kB_q5 ?_ ?c2_q5 ?c3_q5 ?c4_q5 ?c5_q5; (case ksub_q5 => assumption); (case ksz_q5 => assumption); (case kt_q5 => assumption); (case kg_q5 => assumption); (case k3_q5 => k_asm); (case k5_q5 => k_asm); (case k6_q5 => k_is); (case k7_q5 => k_is); (case k8_q5 => k_room); (case k9_q5 => first | exact BindsTo.of_eq (binds := [(_, _)]) rfl | exact BindsTo.of_eq (binds := [(_, _), (_, _)]) rfl | exact BindsTo.of_eq rfl | exact binds_K (by k_in) rfl (by k_is) rfl rfl rfl | fail "my_enter: no rule for these arguments"); (case c5_q5 => decide); (case kB_q5 => exact locs rfl); (case c2_q5 => exact rfl); (case c3_q5 => exact rfl); (case c4_q5 => exact rfl); k_whole; intro L' h' F' N' l0; (replace l0 := ltN l0); (try dsimp only); (try k_fold))
      | (refine' enterTC ?ksub_q5 ?ksz_q5 ?k3_q5 ?k5_q5 ?kt_q5 ?kg_q5 ?k6_q5 ?k7_q5 ?k8_q5 ?k9_q5 ?kB_q5 ?kD_q5 ?_ ?c2_q5 ?c3_q5 ?c4_q5; (case ksub_q5 => assumption); (case ksz_q5 => assumption); (case kt_q5 => assumption); (case kg_q5 => assumption); (case k3_q5 => k_asm); (case k5_q5 => k_asm); (case k6_q5 => k_is); (case k7_q5 => k_is); (case k8_q5 => k_room); (case k9_q5 => first | exact BindsTo.of_eq (binds := [(_, _)]) rfl | exact BindsTo.of_eq (binds := [(_, _), (_, _)]) rfl | exact BindsTo.of_eq rfl | exact binds_K (by k_in) rfl (by k_is) rfl rfl rfl | fail "my_enter: no rule for these arguments"); (case kB_q5 => exact rfl); (case kD_q5 => decide +kernel); (case c2_q5 => exact rfl); (case c3_q5 => exact rfl); (case c4_q5 => exact rfl); k_whole; intro L' h' tk' cells' F' N' Y' l0; (replace l0 := ltN l0); k_cells Y'; (try simp only [List.cons_append, List.nil_append, List.append_nil] at N'); (try dsimp only); (try k_fold))))))
  trivial
example : True := by
  (k_with "my execs cons" => (((with_reducible refine wpAny_execs_cons ?_); (try dsimp only); (try k_fold); (try ((rename Fr _ _ _ _ => F9); (refine foldFr F9 ?_); (intro mk9 F8); (clear F9))))))
  trivial
example : True := by
  (k_with "my size_fits" => (exact Nat.le_of_ble_eq_true rfl))
  trivial
example : True := by
  (k_with "my pick_chain" => (((iterate 15 (try (first | with_reducible assumption | apply pickR))); done)))
  trivial
example : True := by
  (k_with "my pick_one" => ((first | with_reducible assumption | (apply pickL; walk_at "pick_chain") | walk_at "pick_chain")))
  trivial
example : True := by
  (k_with "my pick_ne" => ((refine neN ?_; (try dsimp only); (first | with_reducible assumption | (refine Nat.ne_of_lt ?_; (simp only [*]; done)) | (refine Nat.ne_of_gt ?_; (simp only [*]; done)) | (simp only [*, ne_eq, not_false_eq_true]; done) | (refine Ne.symm ?_; (simp only [*, ne_eq, not_false_eq_true]; done)) | (refine ne_up ?_; (simp only [*]; done)) | (refine ne_up' ?_; (simp only [*]; done))))))
  trivial
example : True := by
  (k_with "my pick_lim" => ((first
      | (refine' lim1 ?h_q11 ?k_q11; (case h_q11 => assumption); (case k_q11 => exact rfl))
      | (refine' lim2 ?h_q11 ?k_q11; (case h_q11 => assumption); (case k_q11 => exact rfl))
      | (refine' lim0 ?h_q11; (case h_q11 => assumption))
      | (refine' lim3 ?h_q11 ?k_q11; (case h_q11 => assumption); (case k_q11 => exact rfl)))))
  trivial
example : True := by
  (k_with "my pick_all" => ((first | exact allNe_nil | (refine' allNe_cons ?a_q12 ?b_q12; (case a_q12 => k_ne); (case b_q12 => k_all)))))
  trivial
example : True := by
  (k_with "my eval Name" => ((k_here; (with_reducible show wpAny _ _ (eval (Expr.Name _ _) (compEnvC _ _ _ _)) _ _ _); k_dflt (first | refine LCgL.ld_own (by with_reducible assumption) (by k_mem) (by with_reducible assumption) (by with_reducible assumption) ?_ | refine LCgL.ld_global (by with_reducible assumption) (by with_reducible assumption) (by with_reducible assumption) (by k_is) ?_ | refine LCgL.ld_built (by with_reducible assumption) (by with_reducible assumption) (by with_reducible assumption) (by k_is) (by boot_by_name) (by decide) ?_))))
  trivial

section
example : True := by
  (k_with "my CompSrc" => ((k_here; k_dflt (first
      | (refine LCg.CompSrc.range (by rfl) (by k_asm) (by k_asm) (by assumption) (by first | decide | rfl) (by first | rfl | decide) (by first | size_fits | exact Nat.le_of_ble_eq_true rfl) ?_; intro g'; lcg_lit)))))
  trivial
theorem item_sign (i : Int) : Txt.item (Str.ofString "ABCDEFGHIJKLMNOPQRSTUVWXYZabcdefghijklmnopqrstuvwxyz0123456789-_") (i % 64) = One (sgC (i % 64)) := sign_one _ (by omega) (by omega)
example : True := by
  (k_with "my execs cons" => (((with_reducible refine wpAny_execs_cons ?_); (try dsimp only); (try (with_reducible refine genState (s₀ := s) rfl ?_; intro tk9)); (try k_fold); (try ((rename Fr _ _ _ _ => F9); (refine foldFr F9 ?_); (intro mk9 F8); (clear F9))))))
  trivial
theorem front_spec (w : World) (n c : Int) (tk tk2 : Tok) (h0 : 0 ≤ n) (h1 : n < 16777216) (hc : c = 0 ∨ c = 1 ∨ c = 2 ∨ c = 3 ∨ c = 4) : SpecP w 275 [.int n tk, .int c tk2] [] 3 (fun _ => True) (fun r _ _ => ∃ t, r = .str (frontT n c) t) := by
  unfold SpecP
  k_fill
  intro _ dp un gd outer base s Q E p loose mean mg mb B X T hpre hdp hun hret
  obtain ⟨f0, f1, f2, f3⟩ := figs n
  rcases hc with rfl | rfl | rfl | rfl | rfl
  all_goals walk_at "my_enter"
  all_goals walk_at "my_steps"
  all_goals refine hret _ _ _ (Fr.keep (by assumption)) ⟨_, congrArg (Value.str · _) ?_⟩
  · exact join0
  · rw [f0, item_sign]; exact join1 _
  · rw [f0, f1, item_sign, item_sign]; exact join2 _ _
  · rw [f0, f1, f2, item_sign, item_sign, item_sign]; exact join3 _ _ _
  · rw [f0, f1, f2, f3, item_sign, item_sign, item_sign, item_sign]; exact join4 _ _ _ _
end

example : True := by
  k_with_none
  trivial
example : True := by
  (k_with "my my_enter" => ((refine wpAny_call ?_; k_dflt (first
      | (refine' enterP ?k3_q1 ?k5_q1 ?k6_q1 ?k7_q1 ?k8_q1 ?k9_q1 ?kB_q1 ?_ ?c2_q1 ?c3_q1 ?c4_q1 ?c5_q1; (case k3_q1 => k_asm); (case k5_q1 => k_asm); (case k6_q1 => k_is); (case k7_q1 => k_is); (case k8_q1 => k_room); (case k9_q1 => first | exact BindsTo.of_eq (binds := [(_, _)]) rfl | exact BindsTo.of_eq (binds := [(_, _), (_, _)]) rfl | exact BindsTo.of_eq rfl | exact binds_K (by k_in) rfl (by k_is) rfl rfl rfl | fail "my_enter: no rule for these arguments"); (case c5_q1 => decide); (case kB_q1 => exact locs rfl); (case c2_q1 => exact rfl); (case c3_q1 => exact rfl); (case c4_q1 => exact rfl); k_whole; intro L' h' F' N'; (try dsimp only); (try k_fold))
      | (refine' enterPC ?k3_q1 ?k5_q1 ?k6_q1 ?k7_q1 ?k8_q1 ?k9_q1 ?kB_q1 ?kD_q1 ?_ ?c2_q1 ?c3_q1 ?c4_q1; (case k3_q1 => k_asm); (case k5_q1 => k_asm); (case k6_q1 => k_is); (case k7_q1 => k_is); (case k8_q1 => k_room); (case k9_q1 => first | exact BindsTo.of_eq (binds := [(_, _)]) rfl | exact BindsTo.of_eq (binds := [(_, _), (_, _)]) rfl | exact BindsTo.of_eq rfl | exact binds_K (by k_in) rfl (by k_is) rfl rfl rfl | fail "my_enter: no rule for these arguments"); (case kB_q1 => exact rfl); (case kD_q1 => decide +kernel); (case c2_q1 => exact rfl); (case c3_q1 => exact rfl); (case c4_q1 => exact rfl); k_whole; intro L' h' tk' cells' F' N' Y'; k_cells Y'; (try simp only [List.cons_append, List.nil_append, List.append_nil] at N'); (try dsimp only); (try k_fold))))))
  trivial
example : True := by
  (k_with "my call type:type" => (((with_reducible show wpAny _ _ (call _ [Value.bytes _ _]) _ _ _); refine call_type_of (Tx := "bytes") rfl (by decide +kernel) ?_)))
  trivial
example : True := by
  (k_with "my my_steps" => (repeat' (first | (k_unfold; (try dsimp only)) | ((fail_if_success (with_reducible show InvEndN _ _ _ _ _ _ _)); first | walk1 | (dsimp only; walk1) | (leave1; try dsimp only)) | fail "no step")))
  trivial
example : True := by
  (k_with "my use_cases" => (((case kB => first | k_asm | fail "use: below"); (case kF => first | k_asm | fail "use: frame"); (case kX => first | k_asm | fail "use: written part"); (case kN => first | k_asm | fail "use: ledger"); (case kT => first | k_asm | fail "use: top"); (case kk => first | exact rfl | assumption | fail "use: kind"); (case kd => first | ktr_room | fail "use: room"); (case ku => first | ktr_units | fail "use: units"))))
  trivial
example : True := by
  (k_with "my my_enterT" => ((refine wpAny_call ?_; k_dflt (first
      | (refine' enterT ?ksub_q5 ?ksz_q5 ?k3_q5 ?k5_q5 ?kt_q5 ?kg_q5 ?k6_q5 ?k7_q5 ?k8_q5 ?k9_q5 ?kB_q5 ?_ ?c2_q5 ?c3_q5 ?c4_q5 ?c5_q5; (case ksub_q5 => assumption); (case ksz_q5 => assumption); (case kt_q5 => assumption); (case kg_q5 => assumption); (case k3_q5 => k_asm); (case k5_q5 => k_asm); (case k6_q5 => k_is); (case k7_q5 => k_is); (case k8_q5 => k_room); (case k9_q5 => first | exact BindsTo.of_eq (binds := [(_, _)]) rfl | exact BindsTo.of_eq (binds := [(_, _), (_, _)]) rfl | exact BindsTo.of_eq rfl | exact binds_K (by k_in) rfl (by k_is) rfl rfl rfl | fail "my_enter: no rule for these arguments"); (case c5_q5 => decide); (case kB_q5 => exact locs rfl); (case c2_q5 => exact rfl); (case c3_q5 => exact rfl); (case c4_q5 => exact rfl); k_whole; intro L' h' F' N' l0; (replace l0 := ltN l0); (try dsimp only); (try k_fold))
      | (refine' enterTC ?ksub_q5 ?ksz_q5 ?k3_q5 ?k5_q5 ?kt_q5 ?kg_q5 ?k6_q5 ?k7_q5 ?k8_q5 ?k9_q5 ?kB_q5 ?kD_q5 ?_ ?c2_q5 ?c3_q5 ?c4_q5; (case ksub_q5 => assumption); (case ksz_q5 => assumption); (case kt_q5 => assumption); (case kg_q5 => assumption); (case k3_q5 => k_asm); (case k5_q5 => k_asm); (case k6_q5 => k_is); (case k7_q5 => k_is); (case k8_q5 => k_room); (case k9_q5 => first | exact BindsTo.of_eq (binds := [(_, _)]) rfl | exact BindsTo.of_eq (binds := [(_, _), (_, _)]) rfl | exact BindsTo.of_eq rfl | exact binds_K (by k_in) rfl (by k_is) rfl rfl rfl | fail "my_enter: no rule for these arguments"); (case kB_q5 => exact rfl); (case kD_q5 => decide +kernel); (case c2_q5 => exact rfl); (case c3_q5 => exact rfl); (case c4_q5 => exact rfl); k_whole; intro L' h' tk' cells' F' N' Y' l0; (replace l0 := ltN l0); k_cells Y'; (try simp only [List.cons_append, List.nil_append, List.append_nil] at N'); (try dsimp only); (try k_fold))))))
  trivial
example : True := by
  (k_with "my execs cons" => (((with_reducible refine wpAny_execs_cons ?_); (try dsimp only); (try k_fold); (try ((rename Fr _ _ _ _ => F9); (refine foldFr F9 ?_); (intro mk9 F8); (clear F9))))))
  trivial
example : True := by
  (k_with "my size_fits" => (exact Nat.le_of_ble_eq_true rfl))
  trivial
example : True := by
  (k_with "my pick_chain" => (((iterate 15 (try (first | with_reducible assumption | apply pickR))); done)))
  trivial
example : True := by
  (k_with "my pick_one" => ((first | with_reducible assumption | (apply pickL; walk_at "pick_chain") | walk_at "pick_chain")))
  trivial
example : True := by
  (k_with "my pick_ne" => ((refine neN ?_; (try dsimp only); (first | with_reducible assumption | (refine Nat.ne_of_lt ?_; (simp only [*]; done)) | (refine Nat.ne_of_gt ?_; (simp only [*]; done)) | (simp only [*, ne_eq, not_false_eq_true]; done) | (refine Ne.symm ?_; (simp only [*, ne_eq, not_false_eq_true]; done)) | (refine ne_up ?_; (simp only [*]; done)) | (refine ne_up' ?_; (simp only [*]; done))))))
  trivial
example : True := by
  (k_with "my pick_lim" => ((first
      | (refine' lim1 ?h_q11 ?k_q11; (case h_q11 => assumption); (case k_q11 => exact rfl))
      | (refine' lim2 ?h_q11 ?k_q11; (case h_q11 => assumption); (case k_q11 => exact rfl))
      | (refine' lim0 ?h_q11; (case h_q11 => assumption))
      | (refine' lim3 ?h_q11 ?k_q11; (case h_q11 => assumption); (case k_q11 => exact rfl)))))
  trivial
example : True := by
  (k_with "my pick_all" => ((first | exact allNe_nil | (refine' allNe_cons ?a_q12 ?b_q12; (case a_q12 => k_ne); (case b_q12 => k_all)))))
  trivial
example : True := by
  (k_with "my eval Name" => ((k_here; (with_reducible show wpAny _ _ (eval (Expr.Name _ _) (compEnvC _ _ _ _)) _ _ _); k_dflt (first | refine LCgL.ld_own (by with_reducible assumption) (by k_mem) (by with_reducible assumption) (by with_reducible assumption) ?_ | refine LCgL.ld_global (by with_reducible assumption) (by with_reducible assumption) (by with_reducible assumption) (by k_is) ?_ | refine LCgL.ld_built (by with_reducible assumption) (by with_reducible assumption) (by with_reducible assumption) (by k_is) (by boot_by_name) (by decide) ?_))))
  trivial

section
theorem slot_map_iter : Slot "map" "__iter__" "map.__iter__" :=
  .of (owner := "map") (n := "__iter__") (by rw [typeLookup_type, builtinLookup_eq_fast]; kernel_rfl) (by decide +kernel) (by decide +kernel) (by decide +kernel)
    (by first | exact .inl (by decide +kernel) | exact .inr (by decide +kernel)) (by rw [isSubtype_type]; kernel_rfl)
theorem slot_map_next : Slot "map" "__next__" "map.__next__" :=
  .of (owner := "map") (n := "__next__") (by rw [typeLookup_type, builtinLookup_eq_fast]; kernel_rfl) (by decide +kernel) (by decide +kernel) (by decide +kernel)
    (by first | exact .inl (by decide +kernel) | exact .inr (by decide +kernel)) (by rw [isSubtype_type]; kernel_rfl)
theorem entry_map_next : entryFor table "map.__next__" = some Builtin.«map.__next__» := entryFor_of_tree (by kernel_rfl)
theorem entry_map_iter : entryFor table "map.__iter__" = some Builtin.«dict_keyiterator.__iter__» :=
  entryFor_alias (id' := "dict_keyiterator.__iter__") (by kernel_rfl) (by first | rfl | decide +kernel | (unfold String.splitOn; simp +decide [String.splitOnAux])) (by decide +kernel) (by kernel_rfl)
theorem map_no_len : typeLookup (.type "map") "__len__" = pure none := by rw [typeLookup_type, builtinLookup_eq_fast]; kernel_rfl
theorem map_no_hint : typeLookup (.type "map") "__length_hint__" = pure none := by rw [typeLookup_type, builtinLookup_eq_fast]; kernel_rfl
theorem owner_map : Manifest.owners.lookup (String.ofList ['p', 'a', 'm'].reverse) = some Manifest.sig_map := by kernel_rfl
theorem args_map_next_1 (a : Value) : argsOk "map.__next__" ⟨[a], []⟩ := by
  unfold argsOk; rw [signature?_of (id := "map.__next__") (n := ['_', '_', 't', 'x', 'e', 'n', '_', '_']) (o := ['p', 'a', 'm']) (by kernel_rfl) owner_map]; kernel_rfl
theorem args_map_iter_1 (a : Value) : argsOk "map.__iter__" ⟨[a], []⟩ := by
  unfold argsOk; rw [signature?_of (id := "map.__iter__") (n := ['_', '_', 'r', 'e', 't', 'i', '_', '_']) (o := ['p', 'a', 'm']) (by kernel_rfl) owner_map]; kernel_rfl
noncomputable abbrev mapObj (tp : Addr) (f : Value) : Obj := { cls := .type "map", dict := none, data := .fields #[.ref tp, f], slots := #[] }
noncomputable abbrev oneObj (it : Addr) : Obj := { cls := .type "tuple", dict := none, data := .seq #[.ref it], slots := #[] }
section
variable {prog : Program} {w : World} {A : Around} {E : Value → Shared → Prop} {s : Shared}
theorem map_next_item {m tp it l : Addr} {f : Value} {k : Nat} {xs : Array Value} {x : Value} {Q : Option Value → Shared → Prop} (h1 : tp ≠ it) (h2 : m ≠ it)
    (hm : s.heap.get? m = some (mapObj tp f)) (hT : s.heap.get? tp = some (oneObj it)) (hi : s.heap.IsListIter it l k) (hl : s.heap.IsList l xs) (hx : xs[k]? = some x)
    (hf : ∀ h₁ Q₁ E₁, h₁.IsListIter it l (k + 1) → Heap.SameBut it s.heap h₁ → (∀ h' tk, (∀ b o, h₁.get? b = some o → h'.get? b = some o) → Q₁ x { s with heap := h', toks := tk }) → wpAny (model prog w) A.in1 (call f [x]) Q₁ E₁ { s with heap := h₁ })
    (hQ : ∀ h' tk, h'.IsListIter it l (k + 1) → (∀ b o, b ≠ it → s.heap.get? b = some o → h'.get? b = some o) → Q (some x) { s with heap := h', toks := tk }) :
    wpAny (model prog w) A (pyNext (.ref m)) Q E s := by
  have hTy : s.TypeIs (.ref m) "map" := ⟨_, hm, rfl⟩
  unfold pyNext
  refine wpAny_bind (wpAny_attempt (wpAny_callSpecial?_slot (name := Str.ofString "__next__") hTy slot_map_next (wpAny_call_entry slot_map_next hTy entry_map_next ?_ (args_map_next_1 _))))
  show wpAny _ _ (field (.ref m) 0 >>= _) _ _ _
  refine wpAny_bind (wpAny_field hm rfl (x := .ref tp) rfl ?_)
  refine wpAny_bind (wpAny_seqItems hT rfl ?_)
  simp only [List.forIn_toArray, List.forIn_cons, List.forIn_nil]
  refine wpAny_bind (wpAny_bind (wpAny_bind (wpAny_holding ?_)))
  refine wpAny_nextOf_list_item hi hl hx fun h₁ hi₁ hs₁ => ?_
  refine wpAny_pure (wpAny_pure ?_)
  have hm₁ : h₁.get? m = some (mapObj tp f) := hs₁.extBut _ _ h2 hm
  refine wpAny_bind (wpAny_field (s := { s with heap := h₁ }) hm₁ rfl (x := f) rfl ?_)
  refine wpAny_bind (wpAny_holding (hf h₁ _ _ hi₁ hs₁ fun h' tk hk => ?_))
  refine wpAny_bind (wpAny_letGo (wpAny_pure ⟨_, rfl, wpAny_pure ?_⟩))
  exact hQ h' tk (hi₁.at fun o e => hk _ _ e) fun b o hb e => hk _ _ (hs₁.extBut _ _ hb e)
theorem map_next_end {m tp it l : Addr} {f : Value} {k : Nat} {xs : Array Value} {Q : Option Value → Shared → Prop} (hh : A.handled = none)
    (hm : s.heap.get? m = some (mapObj tp f)) (hT : s.heap.get? tp = some (oneObj it)) (hi : s.heap.IsListIter it l k) (hl : s.heap.IsList l xs) (hx : xs[k]? = none)
    (hQ : ∀ h', (∀ b o, b ≠ it → s.heap.get? b = some o → h'.get? b = some o) → Q none { s with heap := h' }) :
    wpAny (model prog w) A (pyNext (.ref m)) Q E s := by
  have hTy : s.TypeIs (.ref m) "map" := ⟨_, hm, rfl⟩
  unfold pyNext
  refine wpAny_bind (wpAny_attempt (wpAny_callSpecial?_slot (name := Str.ofString "__next__") hTy slot_map_next (wpAny_call_entry slot_map_next hTy entry_map_next ?_ (args_map_next_1 _))))
  show wpAny _ _ (field (.ref m) 0 >>= _) _ _ _
  refine wpAny_bind (wpAny_field hm rfl (x := .ref tp) rfl ?_)
  refine wpAny_bind (wpAny_seqItems hT rfl ?_)
  simp only [List.forIn_toArray, List.forIn_cons, List.forIn_nil]
  refine wpAny_bind (wpAny_bind (wpAny_bind (wpAny_holding ?_)))
  refine wpAny_nextOf_list_end hh hi hl hx fun h₁ e hs₁ he => ?_
  obtain ⟨o, ho, hc⟩ := he
  refine wpAny_bind (wpAny_isInstance (T := "StopIteration") (b := true) ⟨o, ho, hc⟩ isSubtype_stop ?_)
  exact wpAny_pure (hQ _ hs₁)
theorem map_iter {m tp : Addr} {f : Value} {Q : Value → Shared → Prop} (hm : s.heap.get? m = some (mapObj tp f)) (h : Q (.ref m) s) : wpAny (model prog w) A (pyIter (.ref m)) Q E s := by
  have hT : s.TypeIs (.ref m) "map" := ⟨_, hm, rfl⟩
  refine wpAny_pyIter_slot hT slot_map_iter (wpAny_call_entry slot_map_iter hT entry_map_iter ?_ (args_map_iter_1 _))
  show wpAny _ _ (ret (.ref m)) _ _ s
  exact wpAny_pure ⟨_, rfl, "map", _, hT, slot_map_next.lookup, h⟩
end

section
variable {prog : Program} {w : World} {A : Around} {R : Result → Shared → Prop}
/-- what a call of f on an item must do, with heap h0 kept but for it -/
noncomputable def MapCall (prog : Program) (w : World) (A : Around) (h0 : Heap) (it : Addr) (g : Array GenState) (d : Drawn) (os : OsState) (f x : Value) : Prop :=
  ∀ (h : Heap) (tk : Nat) (Q E : Value → Shared → Prop), (∀ b o, b ≠ it → h0.get? b = some o → h.get? b = some o) →
    (∀ h' tk', (∀ b o, h.get? b = some o → h'.get? b = some o) → Q x { heap := h', gens := g, drawn := d, toks := tk', os := os }) →
    wpAny (model prog w) A (call f [x]) Q E { heap := h, gens := g, drawn := d, toks := tk, os := os }
theorem map_loop {h0 : Heap} {m tp it l S : Addr} {f res : Value} {xs : Array Value} {g : Array GenState} {d : Drawn} {os : OsState} (hh : A.handled = none) (h1 : tp ≠ it) (h2 : m ≠ it) (h3 : l ≠ it) (hS0 : h0.get? S = none) (hSi : S ≠ it)
    (hm : h0.get? m = some (mapObj tp f)) (hT : h0.get? tp = some (oneObj it)) (hl : h0.IsList l xs) (hn : xs.size ≤ 1000)
    (hf : ∀ x ∈ xs.toList, MapCall prog w A.in1.in1 h0 it g d os f x) :
    ∀ (n k : Nat) (h : Heap) (tk : Nat), xs.size - k = n → k ≤ xs.size → (∀ b o, b ≠ it → h0.get? b = some o → h.get? b = some o) → h.IsListIter it l k →
      (∃ c, h.get? S = some { cls := .type "list", dict := none, data := .seq (xs.toList.take k).toArray c, slots := #[] }) →
      (∀ h' tk' c', (∀ b o, b ≠ it → h0.get? b = some o → h'.get? b = some o) → h'.get? S = some { cls := .type "list", dict := none, data := .seq xs c', slots := #[] } → R (.ok (.ret res)) { heap := h', gens := g, drawn := d, toks := tk', os := os }) →
      codeAny (model prog w) A (.builtin "list.extend.loop" ⟨[.ref S, .ref m, res], []⟩) R { heap := h, gens := g, drawn := d, toks := tk, os := os } := by
  intro n
  induction n with
  | zero =>
    intro k h tk hk hk2 keep hi hS hR
    obtain ⟨c, hS⟩ := hS
    have hin : k = xs.size := by omega
    subst hin
    refine codeAny_builtin F.entry_extend_loop ?_
    rw [Around.under_plainId F.plain_extend_loop _]
    show wpAny _ A.in1 (pyNext (.ref m) >>= _) _ _ _
    refine wpAny_bind (map_next_end hh (keep _ _ h2 hm) (keep _ _ h1 hT) hi (hl.at fun o e => keep _ o h3 e) (Array.getElem?_eq_none (Nat.le_refl _)) fun h' hk' => ?_)
    refine wpAny_pure (hR h' tk c (fun b o hb e => hk' b o hb (keep b o hb e)) ?_)
    rw [hk' S _ hSi hS, List.take_of_length_le (by simp)]
  | succ n ih =>
    intro k h tk hk hk2 keep hi hS hR
    obtain ⟨c, hS⟩ := hS
    have hlt : k < xs.size := by omega
    refine codeAny_builtin F.entry_extend_loop ?_
    rw [Around.under_plainId F.plain_extend_loop _]
    show wpAny _ A.in1 (pyNext (.ref m) >>= _) _ _ _
    refine wpAny_bind (map_next_item h1 h2 (keep _ _ h2 hm) (keep _ _ h1 hT) hi (hl.at fun o e => keep _ o h3 e) (Array.getElem?_eq_getElem hlt) (fun h₁ Q₁ E₁ _ hs q => hf _ (by simp) h₁ tk Q₁ E₁ (fun b o hb e => hs.extBut _ _ hb (keep b o hb e)) q) fun h' tk' hi' hk' => ?_)
    have hS' := hk' S _ hSi hS
    show wpAny _ A.in1 (updateSeq S (·.push xs[k]) >>= _) _ _ _
    refine wpAny_bind ?_
    have hne : ∀ b o, h0.get? b = some o → S ≠ b := fun b o e x => by rw [x] at hS0; rw [hS0] at e; cases e
    refine wpAny_updateSeq hS' rfl (wpAny_pure ⟨plainId_quiet F.plain_extend_loop _, ih (k + 1) _ _ (by omega) hlt (fun b o hb e => (Heap.get?_update_other _ _ (hne b o e)).trans (hk' b o hb (keep b o hb e))) (hi'.at fun o e => (Heap.get?_update_other _ _ hSi).trans e) ?_ hR⟩) ?_ ?_
    · rw [Heap.get?_update_self _ hS' rfl]
      simp [Obj.mapSeq, List.take_add_one, hlt]
    · rw [sizeLine_eq]; simp; omega
    · rw [sizeLine_eq]; simp; omega
end

section
variable {prog : Program} {w : World} {A : Around} {E : Value → Shared → Prop}
theorem map_collect {h0 : Heap} {m tp it l : Addr} {f : Value} {xs : Array Value} {g : Array GenState} {d : Drawn} {os : OsState} {tk : Nat} {Q : List Value → Shared → Prop} (hh : A.handled = none) (h1 : tp ≠ it) (h2 : m ≠ it) (h3 : l ≠ it)
    (hm : h0.get? m = some (mapObj tp f)) (hT : h0.get? tp = some (oneObj it)) (hi : h0.IsListIter it l 0) (hl : h0.IsList l xs) (hn : xs.size ≤ 1000)
    (hf : ∀ x ∈ xs.toList, MapCall prog w A.in1.in1 h0 it g d os f x)
    (hQ : ∀ (h' : Heap) (tk' : Nat), (∀ b o, b ≠ it → h0.get? b = some o → h'.get? b = some o) → Q xs.toList { heap := h', gens := g, drawn := d, toks := tk', os := os }) :
    wpAny (model prog w) A (collect (.ref m)) Q E { heap := h0, gens := g, drawn := d, toks := tk, os := os } := by
  have ltm : m < h0.objs.size := Heap.lt_size hm
  have lti : it < h0.objs.size := by obtain ⟨_, e, _⟩ := hi; exact Heap.lt_size e
  have hSI : h0.objs.size ≠ m := Nat.ne_of_gt ltm
  have hS0 : h0.get? h0.objs.size = none := by
    cases e : h0.get? h0.objs.size with
    | none => rfl
    | some o => exact absurd (Heap.lt_size e) (Nat.lt_irrefl _)
  have hTy : ∀ (h : Heap) (k : Nat), h.get? m = some (mapObj tp f) → Shared.TypeIs { heap := h, gens := g, drawn := d, toks := k, os := os } (.ref m) "map" := fun h k e => ⟨_, e, rfl⟩
  have hm₁ : (h0.push { cls := .type "list", data := .seq ([] : List Value).toArray }).get? m = some (mapObj tp f) := Heap.get?_push_of_some _ hm
  unfold collect
  refine wpAny_bind (wpAny_runValue (codeAny_builtin F.entry_proto_collect ?_))
  rw [Around.under_plainId F.plain_proto_collect _]
  show wpAny _ A.in1 (newList [] >>= fun l => again (.builtin "list.__iadd__" ⟨[l, .ref m], []⟩)) _ _ _
  refine wpAny_bind (wpAny_newObj_type ?_)
  refine wpAny_pure ⟨plainId_quiet F.plain_list_iadd _, codeAny_builtin F.entry_list_iadd ?_⟩
  rw [Around.under_plainId F.plain_list_iadd _]
  show wpAny _ A.in1 (Builtin.List.listExtendWith (.ref h0.objs.size) (.ref m) (.ref h0.objs.size)) _ _ _
  unfold Builtin.List.listExtendWith
  refine wpAny_bind (wpAny_typeOf (hTy _ _ hm₁) ?_)
  have g1 : Builtin.List.listSameRef (.ref h0.objs.size) (.ref m) = false := by simp [Builtin.List.listSameRef, hSI]
  have g2 : (Value.type "map" == Value.type "list") = false := by decide
  have g3 : (Value.type "map" == Value.type "tuple") = false := by decide
  simp only [g1, g2, g3, Bool.or_false, Bool.false_eq_true, if_false]
  refine wpAny_bind (map_iter hm₁ ?_)
  refine wpAny_bind (wpAny_holding ?_)
  unfold Builtin.List.listLengthHint
  refine wpAny_bind (wpAny_specialOf (hTy _ _ hm₁) map_no_len ?_)
  show wpAny _ A.in1 (specialOf (Value.ref m) (Str.ofString "__length_hint__") >>= _) _ _ _
  refine wpAny_bind (wpAny_specialOf (hTy _ _ hm₁) map_no_hint ?_)
  refine wpAny_pure ?_
  show wpAny _ A.in1 (rule "list.extend.makes-room" >>= fun _ => Builtin.List.listTouch (.ref h0.objs.size) >>= fun _ =>
    again (.builtin "list.extend.loop" ⟨[.ref h0.objs.size, .ref m, .ref h0.objs.size], []⟩)) _ _ _
  refine wpAny_bind (wpAny_rule ?_)
  have hS₁ : (h0.push { cls := .type "list", data := .seq ([] : List Value).toArray }).get? h0.objs.size = some { cls := .type "list", data := .seq ([] : List Value).toArray } := Heap.get?_push_size _ rfl
  refine wpAny_bind ?_
  show wpAny _ A.in1 (updateSeq h0.objs.size (·.push .none) >>= fun _ => updateSeq h0.objs.size (·.pop)) _ _ _
  refine wpAny_bind (wpAny_updateSeq hS₁ rfl ?_)
  have hS₂ := Heap.get?_update_self (Obj.mapSeq (·.push Value.none)) hS₁ rfl
  refine wpAny_updateSeq hS₂ rfl ?_
  have hS₃ := Heap.get?_update_self (Obj.mapSeq (·.pop)) hS₂ rfl
  have oth : ∀ b o, b ≠ h0.objs.size → (h0.push { cls := .type "list", data := .seq ([] : List Value).toArray }).get? b = some o →
      (((h0.push { cls := .type "list", data := .seq ([] : List Value).toArray }).update h0.objs.size (Obj.mapSeq (·.push Value.none))).update h0.objs.size (Obj.mapSeq (·.pop))).get? b = some o :=
    fun b o hb e => (Heap.get?_update_other _ _ (Ne.symm hb)).trans ((Heap.get?_update_other _ _ (Ne.symm hb)).trans e)
  have kp : ∀ b o, h0.get? b = some o → (((h0.push { cls := .type "list", data := .seq ([] : List Value).toArray }).update h0.objs.size (Obj.mapSeq (·.push Value.none))).update h0.objs.size (Obj.mapSeq (·.pop))).get? b = some o :=
    fun b o e => oth b o (Nat.ne_of_lt (Heap.lt_size e)) (Heap.get?_push_of_some _ e)
  refine wpAny_pure ⟨plainId_quiet F.plain_extend_loop _, map_loop (h0 := h0) (xs := xs) hh h1 h2 h3 hS0 (Nat.ne_of_gt lti) hm hT hl hn hf _ 0 _ _ rfl (Nat.zero_le _) (fun b o _ e => kp b o e) (hi.at fun o e => kp _ _ e) ?_ fun h' tk' c' keep hS' => ?_⟩
  · exact ⟨_, hS₃⟩
  · show wpAny _ A (load h0.objs.size >>= _) _ _ _
    refine wpAny_bind (wpAny_load hS' ?_)
    exact wpAny_pure (hQ h' tk' keep)
theorem map_tuple {h0 : Heap} {m tp it l : Addr} {f : Value} {xs : Array Value} {g : Array GenState} {d : Drawn} {os : OsState} {tk : Nat} {Q : Value → Shared → Prop} (hh : A.handled = none) (h1 : tp ≠ it) (h2 : m ≠ it) (h3 : l ≠ it)
    (hm : h0.get? m = some (mapObj tp f)) (hT : h0.get? tp = some (oneObj it)) (hi : h0.IsListIter it l 0) (hl : h0.IsList l xs) (hn : xs.size ≤ 1000)
    (hf : ∀ x ∈ xs.toList, MapCall prog w A.in1.in1.in1.in1 h0 it g d os f x)
    (hQ : ∀ (h' : Heap) (tk' : Nat), (∀ b o, b ≠ it → h0.get? b = some o → h'.get? b = some o) → Q (.ref h'.objs.size) { heap := h'.push { cls := .type "tuple", data := .seq xs }, gens := g, drawn := d, toks := tk', os := os }) :
    wpAny (model prog w) A (call (.type "tuple") [.ref m]) Q E { heap := h0, gens := g, drawn := d, toks := tk, os := os } := by
  refine callType_codes (Q₁ := fun obj s₁ => s₁.TypeIs obj "tuple" ∧ Q obj s₁) F.called_tuple (F.typeCall_tuple_1 _) F.entry_object_init ?_ fun obj s₁ h₁ => ?_
  · refine codeAny_of_tree ?_
    show wpAny _ A.in1.in1 (do checkBuiltinCall "tuple.__new__" ⟨[.type "tuple", .ref m], []⟩; again (.builtin "tuple.__new__" ⟨[.type "tuple", .ref m], []⟩)) _ _ _
    refine wpAny_bind (wpAny_of_eq (F.newCall_tuple_1 _) (wpAny_pure ⟨plainId_quiet F.plain_tuple_new _, codeAny_builtin F.entry_tuple_new ?_⟩))
    rw [Around.under_plainId F.plain_tuple_new _]
    have hsub := sub_tuple_self
    have hinit := init_tuple_lookup
    have hmh := madeHere_tuple
    have hTI : Shared.TypeIs { heap := h0, gens := g, drawn := d, toks := tk, os := os } (.ref m) "map" := ⟨_, hm, rfl⟩
    have C : ∀ {Q' : List Value → Shared → Prop} {E' : Value → Shared → Prop}, (∀ (h' : Heap) (tk' : Nat), (∀ b o, b ≠ it → h0.get? b = some o → h'.get? b = some o) → Q' xs.toList { heap := h', gens := g, drawn := d, toks := tk', os := os }) → wpAny (model prog w) A.in1.in1 (collect (.ref m)) Q' E' { heap := h0, gens := g, drawn := d, toks := tk, os := os } := fun hq => map_collect (A := A.in1.in1) (xs := xs) (l := l) hh h1 h2 h3 hm hT hi hl hn hf hq
    wp_walk using wpAny_typeOf hTI, C
    intro h' tk' keep
    show wpAny _ _ (Builtin.Tuple.tupleExact xs.toList.toArray >>= fun v => ret v) _ _ _
    unfold Builtin.Tuple.tupleExact
    refine wpAny_bind (wpAny_newObj_type ?_ (by show xs.toList.toArray.size ≤ sizeLine; rw [sizeLine_eq]; simp; omega))
    refine wpAny_pure ?_
    have e : xs.toList.toArray = xs := by simp
    rw [e]
    exact ⟨⟨_, Heap.get?_push_size _ rfl, rfl⟩, hQ h' tk' keep⟩
  · exact ⟨h₁.1, F.args_object_init_2 obj _, object_init_meets F.called_tuple.init.lookup F.called_tuple.made (by decide) prog w A.in1 _ s₁ ⟨h₁.1, rfl, h₁.2⟩⟩
end

section
open PySem.W.X PySem.W.XRun
theorem mem_keep {h₀ h : Heap} {news : List (Addr × Obj)} (D : Mem h₀ h [] news) : ∀ b o, h₀.get? b = some o → h.get? b = some o := fun b o e => D.keep b o e (Bool.or_true _)
theorem mem_new {h₀ h : Heap} {chg news : List (Addr × Obj)} (D : Mem h₀ h chg news) (i : Nat) {a : Addr} {o : Obj} (hi : news[i]? = some (a, o)) : h₀.get? a = none := by
  cases e : h₀.get? a with
  | none => rfl
  | some ob => exact absurd rfl (D.ne_old i a o hi a ob e)
example : True := by
  (k_with "my x_close" => ((apply_assumption <;> first | exact mem_keep (by assumption) | exact Mem.at (by assumption) 0 _ _ rfl | exact Mem.at (by assumption) 1 _ _ rfl | exact Mem.at (by assumption) 2 _ _ rfl | exact mem_new (by assumption) 0 rfl | exact mem_new (by assumption) 1 rfl | exact mem_new (by assumption) 2 rfl)))
  trivial
theorem map_make {prog : Program} {w : World} {A : Around} {s : Shared} {E : Value → Shared → Prop} {l f : Addr} {n : Nat} {its : Array Value} {Q : Value → Shared → Prop}
    (hl : s.heap.get? l = some ⟨.type "list", none, .seq its n, #[]⟩)
    (hQ : ∀ (m tp it : Addr) (h' : Heap), (∀ b o, s.heap.get? b = some o → h'.get? b = some o) → h'.get? m = some (mapObj tp (.ref f)) → h'.get? tp = some (oneObj it) → h'.get? it = some ⟨.type "list_iterator", none, .fields #[.ref l, .int 0 0], #[]⟩ → s.heap.get? m = none → s.heap.get? tp = none → s.heap.get? it = none → Q (.ref m) { s with heap := h' }) :
    wpAny (model prog w) A (call (.type "map") [.ref f, .ref l]) Q E s := by
  x_run
end
section
variable {w : World} {dp un : Nat} {gd : Option (List Code)} {outer : List Env} {A₀ : Around} {base h₀ : Heap} {L a : Addr} {cn : Str} {cs : Scope} {ccd : Value} {cl : List (Str × Addr)} {mm : Str → Option Value} {news : List (Addr × Obj)} {s : Shared} {Q E : Value → Shared → Prop} {p : Program} {loose : List Str} {mean : ExcName → Option Value} {mg mb : Str → Option Value}
theorem map_K {prog : Program} {A : Around} {l f : Addr} {its : Array Value} {n : Nat} (F : Fr h₀ L s.heap mm) (N : News h₀ L s.heap news) (hl : s.heap.get? l = some ⟨.type "list", none, .seq its n, #[]⟩)
    (h : ∀ m tp it h', Fr h₀ L h' mm → News h₀ L h' ((m, mapObj tp (.ref f)) :: (tp, oneObj it) :: (it, ⟨.type "list_iterator", none, .fields #[.ref l, .int 0 0], #[]⟩) :: news) → l ≠ it → (∀ q ∈ news, q.1 ≠ it) → h'.IsList l its → Q (.ref m) { s with heap := h' }) :
    wpAny (model prog w) A (call (.type "map") [.ref f, .ref l]) Q E s := by
  refine map_make hl fun m tp it h' k h1 h2 h3 n1 n2 n3 => ?_
  refine h m tp it h' (fr_after F k) (news_more F (news_more F (news_more F (news_after N k) h3 n3) h2 n2) h1 n1) ?_ (news_ne N n3) ⟨_, k _ _ hl, rfl, _, rfl⟩
  rintro rfl
  rw [hl] at n3; cases n3
theorem tupmap_K {m tp it l : Addr} {its : Array Value} (B : Below A₀ base outer h₀) (F : Fr h₀ L s.heap mm) (X : (hd.heap_1 w.params).In h₀) (N : News h₀ L s.heap ((m, mapObj tp (.ref 173)) :: (tp, oneObj it) :: (it, ⟨.type "list_iterator", none, .fields #[.ref l, .int 0 0], #[]⟩) :: news)) (T : Top p loose mean mg mb h₀) (hk : cs.kind = .function)
    (hw : ∀ q ∈ news, q.1 ≠ it) (hl : s.heap.IsList l its) (hli : l ≠ it) (hn : its.size ≤ 1000) (hs : ∀ x ∈ its.toList, ∃ z t, x = .str z t) (hdp : dp + 1 < recursionLimit) (hun : un + 12 < cLine)
    (fsp : ∀ z t, SpecP w 173 [.str z t] [] 1 (fun _ => True) (fun r _ _ => r = .str z t))
    (h : ∀ t h' tk', Fr h₀ L h' mm → News h₀ L h' ((t, ⟨.type "tuple", none, .seq its 0, #[]⟩) :: news) → Q (.ref t) { s with heap := h', toks := tk' }) :
    wpAny (model PySem.Challenge.rw_qw0035_01.prog w) (ktrTop dp un gd cn cs L a ccd cl outer) (call (.type "tuple") [.ref m]) Q E s := by
  have g1 := N.get (.head _)
  have g2 := N.get (.tail _ (.head _))
  have g3 := N.get (.tail _ (.tail _ (.head _)))
  have e0 : h₀.get? it = none := (N _ (.tail _ (.tail _ (.head _)))).2.2
  have eL : it ≠ L := (N _ (.tail _ (.tail _ (.head _)))).2.1
  have t1 : tp ≠ it := fun e => by rw [e] at g2; rw [g2] at g3; simp at g3
  have t2 : m ≠ it := fun e => by rw [e] at g1; rw [g1] at g3; simp at g3
  have kp : ∀ h', (∀ b o, b ≠ it → s.heap.get? b = some o → h'.get? b = some o) → Fr h₀ L h' mm := fun h' k => by
    have ne : ∀ b o, h₀.get? b = some o → b ≠ it := fun b o e x => by rw [x, e0] at e; cases e
    refine ⟨?_, fun b o e => k b o (ne b o e) (F.keep b o e), F.above⟩
    exact F.ns.at fun o e => k L o (Ne.symm eL) e
  obtain ⟨h, g, d, tk, os⟩ := s
  refine map_tuple (xs := its) (l := l) rfl t1 t2 hli g1 g2 ⟨_, g3, rfl, rfl⟩ hl hn (fun x hx => ?_) fun h' tk' k => ?_
  · obtain ⟨z, t, rfl⟩ := hs x hx
    intro h2 tk2 Q2 E2 k2 q2
    have F2 := kp h2 k2
    have B' : Below (A₀.deeper (envX cn cs L a ccd cl)) base (envX cn cs L a ccd cl :: outer) h2 := by
      have hnew : base.get? L = none := by
        cases hq : base.get? L with
        | none => rfl
        | some o => exact absurd (Nat.lt_of_lt_of_le (Heap.lt_size (B.stays L o hq)) F2.above) (Nat.lt_irrefl _)
      refine ⟨Around.frames_deeper B.stack, fun b o e => F2.keep b o (B.stays b o e), ?_⟩
      exact .cons (by show cs.kind ≠ .module; rw [hk]; decide) rfl F2.ns hnew (B.frames.of_keeps fun b o e _ => ⟨o, F2.keep b o e, rfl⟩)
    refine fsp z t rfl dp (un + 4) gd (envX cn cs L a ccd cl :: outer) base ⟨h2, g, d, tk2, os⟩ Q2 E2 p loose mean mg mb ⟨rfl, B'.stays, B'.frames⟩ (X.keeps F2.keep) (T.keeps F2.keep) trivial hdp (by omega) ?_
    intro r h3 tk3 k3 er
    rw [er]
    exact q2 h3 tk3 k3
  · have F2 := kp h' k
    have N2 : News h₀ L h' news := fun q hq => ⟨k _ _ (hw q hq) (N q (.tail _ (.tail _ (.tail _ hq)))).1, (N q (.tail _ (.tail _ (.tail _ hq)))).2⟩
    exact h _ _ _ (F2.push _) (N2.push F2 _ rfl)
end
end

example : True := by
  k_with_none
  trivial
example : True := by
  (k_with "my my_enter" => ((refine wpAny_call ?_; k_dflt (first
      | (refine' enterP ?k3_q1 ?k5_q1 ?k6_q1 ?k7_q1 ?k8_q1 ?k9_q1 ?kB_q1 ?_ ?c2_q1 ?c3_q1 ?c4_q1 ?c5_q1; (case k3_q1 => k_asm); (case k5_q1 => k_asm); (case k6_q1 => k_is); (case k7_q1 => k_is); (case k8_q1 => k_room); (case k9_q1 => first | exact BindsTo.of_eq (binds := [(_, _)]) rfl | exact BindsTo.of_eq (binds := [(_, _), (_, _)]) rfl | exact BindsTo.of_eq rfl | exact binds_K (by k_in) rfl (by k_is) rfl rfl rfl | fail "my_enter: no rule for these arguments"); (case c5_q1 => decide); (case kB_q1 => exact locs rfl); (case c2_q1 => exact rfl); (case c3_q1 => exact rfl); (case c4_q1 => exact rfl); k_whole; intro L' h' F' N'; (try dsimp only); (try k_fold))
      | (refine' enterPC ?k3_q1 ?k5_q1 ?k6_q1 ?k7_q1 ?k8_q1 ?k9_q1 ?kB_q1 ?kD_q1 ?_ ?c2_q1 ?c3_q1 ?c4_q1; (case k3_q1 => k_asm); (case k5_q1 => k_asm); (case k6_q1 => k_is); (case k7_q1 => k_is); (case k8_q1 => k_room); (case k9_q1 => first | exact BindsTo.of_eq (binds := [(_, _)]) rfl | exact BindsTo.of_eq (binds := [(_, _), (_, _)]) rfl | exact BindsTo.of_eq rfl | exact binds_K (by k_in) rfl (by k_is) rfl rfl rfl | fail "my_enter: no rule for these arguments"); (case kB_q1 => exact rfl); (case kD_q1 => decide +kernel); (case c2_q1 => exact rfl); (case c3_q1 => exact rfl); (case c4_q1 => exact rfl); k_whole; intro L' h' tk' cells' F' N' Y'; k_cells Y'; (try simp only [List.cons_append, List.nil_append, List.append_nil] at N'); (try dsimp only); (try k_fold))))))
  trivial
example : True := by
  (k_with "my call type:type" => (((with_reducible show wpAny _ _ (call _ [Value.bytes _ _]) _ _ _); refine call_type_of (Tx := "bytes") rfl (by decide +kernel) ?_)))
  trivial
example : True := by
  (k_with "my my_steps" => (repeat' (first | (k_unfold; (try dsimp only)) | ((fail_if_success (with_reducible show InvEndN _ _ _ _ _ _ _)); first | walk1 | (dsimp only; walk1) | (leave1; try dsimp only)) | fail "no step")))
  trivial
example : True := by
  (k_with "my use_cases" => (((case kB => first | k_asm | fail "use: below"); (case kF => first | k_asm | fail "use: frame"); (case kX => first | k_asm | fail "use: written part"); (case kN => first | k_asm | fail "use: ledger"); (case kT => first | k_asm | fail "use: top"); (case kk => first | exact rfl | assumption | fail "use: kind"); (case kd => first | ktr_room | fail "use: room"); (case ku => first | ktr_units | fail "use: units"))))
  trivial
example : True := by
  (k_with "my my_enterT" => ((refine wpAny_call ?_; k_dflt (first
      | (refine' enterT ?ksub_q5 ?ksz_q5 ?k3_q5 ?k5_q5 ?kt_q5 ?kg_q5 ?k6_q5 ?k7_q5 ?k8_q5 ?k9_q5 ?kB_q5 ?_ ?c2_q5 ?c3_q5 ?c4_q5 ?c5_q5; (case ksub_q5 => assumption); (case ksz_q5 => assumption); (case kt_q5 => assumption); (case kg_q5 => assumption); (case k3_q5 => k_asm); (case k5_q5 => k_asm); (case k6_q5 => k_is); (case k7_q5 => k_is); (case k8_q5 => k_room); (case k9_q5 => first | exact BindsTo.of_eq (binds := [(_, _)]) rfl | exact BindsTo.of_eq (binds := [(_, _), (_, _)]) rfl | exact BindsTo.of_eq rfl | exact binds_K (by k_in) rfl (by k_is) rfl rfl rfl | fail "my_enter: no rule for these arguments"); (case c5_q5 => decide); (case kB_q5 => exact locs rfl); (case c2_q5 => exact rfl); (case c3_q5 => exact rfl); (case c4_q5 => exact rfl); k_whole; intro L' h' F' N' l0; (replace l0 := ltN l0); (try dsimp only); (try k_fold))
      | (refine' enterTC ?ksub_q5 ?ksz_q5 ?k3_q5 ?k5_q5 ?kt_q5 ?kg_q5 ?k6_q5 ?k7_q5 ?k8_q5 ?k9_q5 ?kB_q5 ?kD_q5 ?_ ?c2_q5 ?c3_q5 ?c4_q5; (case ksub_q5 => assumption); (case ksz_q5 => assumption); (case kt_q5 => assumption); (case kg_q5 => assumption); (case k3_q5 => k_asm); (case k5_q5 => k_asm); (case k6_q5 => k_is); (case k7_q5 => k_is); (case k8_q5 => k_room); (case k9_q5 => first | exact BindsTo.of_eq (binds := [(_, _)]) rfl | exact BindsTo.of_eq (binds := [(_, _), (_, _)]) rfl | exact BindsTo.of_eq rfl | exact binds_K (by k_in) rfl (by k_is) rfl rfl rfl | fail "my_enter: no rule for these arguments"); (case kB_q5 => exact rfl); (case kD_q5 => decide +kernel); (case c2_q5 => exact rfl); (case c3_q5 => exact rfl); (case c4_q5 => exact rfl); k_whole; intro L' h' tk' cells' F' N' Y' l0; (replace l0 := ltN l0); k_cells Y'; (try simp only [List.cons_append, List.nil_append, List.append_nil] at N'); (try dsimp only); (try k_fold))))))
  trivial
example : True := by
  (k_with "my execs cons" => (((with_reducible refine wpAny_execs_cons ?_); (try dsimp only); (try k_fold); (try ((rename Fr _ _ _ _ => F9); (refine foldFr F9 ?_); (intro mk9 F8); (clear F9))))))
  trivial
example : True := by
  (k_with "my size_fits" => (exact Nat.le_of_ble_eq_true rfl))
  trivial
example : True := by
  (k_with "my pick_chain" => (((iterate 15 (try (first | with_reducible assumption | apply pickR))); done)))
  trivial
example : True := by
  (k_with "my pick_one" => ((first | with_reducible assumption | (apply pickL; walk_at "pick_chain") | walk_at "pick_chain")))
  trivial
example : True := by
  (k_with "my pick_ne" => ((refine neN ?_; (try dsimp only); (first | with_reducible assumption | (refine Nat.ne_of_lt ?_; (simp only [*]; done)) | (refine Nat.ne_of_gt ?_; (simp only [*]; done)) | (simp only [*, ne_eq, not_false_eq_true]; done) | (refine Ne.symm ?_; (simp only [*, ne_eq, not_false_eq_true]; done)) | (refine ne_up ?_; (simp only [*]; done)) | (refine ne_up' ?_; (simp only [*]; done))))))
  trivial
example : True := by
  (k_with "my pick_lim" => ((first
      | (refine' lim1 ?h_q11 ?k_q11; (case h_q11 => assumption); (case k_q11 => exact rfl))
      | (refine' lim2 ?h_q11 ?k_q11; (case h_q11 => assumption); (case k_q11 => exact rfl))
      | (refine' lim0 ?h_q11; (case h_q11 => assumption))
      | (refine' lim3 ?h_q11 ?k_q11; (case h_q11 => assumption); (case k_q11 => exact rfl)))))
  trivial
example : True := by
  (k_with "my pick_all" => ((first | exact allNe_nil | (refine' allNe_cons ?a_q12 ?b_q12; (case a_q12 => k_ne); (case b_q12 => k_all)))))
  trivial
example : True := by
  (k_with "my eval Name" => ((k_here; (with_reducible show wpAny _ _ (eval (Expr.Name _ _) (compEnvC _ _ _ _)) _ _ _); k_dflt (first | refine LCgL.ld_own (by with_reducible assumption) (by k_mem) (by with_reducible assumption) (by with_reducible assumption) ?_ | refine LCgL.ld_global (by with_reducible assumption) (by with_reducible assumption) (by with_reducible assumption) (by k_is) ?_ | refine LCgL.ld_built (by with_reducible assumption) (by with_reducible assumption) (by with_reducible assumption) (by k_is) (by boot_by_name) (by decide) ?_))))
  trivial

section
open PyProof.Rows.LCg
noncomputable def TupSrc (h₀ : Heap) (ax : Addr) (its : Array Value) (news : List (Addr × Obj)) : Prop := ∃ o, (ax, o) ∈ news ∧ o.cls = .type "tuple" ∧ ∃ n, o.data = .seq its n
section
variable {prog : Program} {w : World} {A : Around} {E : Value → Shared → Prop} {s : Shared} {h₀ : Heap} {L : Addr} {m : Str → Option Value} {env : Env}
theorem TupSrc.tup {h : Heap} {ax : Addr} {its : Array Value} {news : List (Addr × Obj)} (x : TupSrc h₀ ax its news) (N : News h₀ L h news) : h.IsTuple ax its := by
  obtain ⟨o, hm, r⟩ := x
  exact ⟨o, (N _ hm).1, r⟩
theorem tup_st {ax I : Addr} {its : Array Value} : ∀ i (h h' : Heap) (o : Obj) (nw : List (Addr × Obj)), (h.IsTupleIter I ax i ∧ h.IsTuple ax its) → h.get? I = some o → h'.get? I = some o → (∀ b o, h₀.get? b = some o → h'.get? b = some o) → News h₀ L h' nw → TupSrc h₀ ax its nw → (h'.IsTupleIter I ax i ∧ h'.IsTuple ax its) :=
  fun i h h' o nw st e e' k N S => ⟨by obtain ⟨o', q, r⟩ := st.1; rw [e] at q; cases q; exact ⟨o, e', r⟩, S.tup N⟩
noncomputable def TupGoal (prog : Program) (w : World) (A : Around) (h₀ : Heap) (L : Addr) (m : Str → Option Value) (env : Env) (elt : Expr) (x : Str) (scope : Scope) (cl : List (Str × Addr)) (Fin : Shared → List Value → List (Addr × Obj) → Prop) (xv : Value) (s₁ : Shared) : Prop :=
  ∃ ax its news, xv = .ref ax ∧ A.handled = none ∧ Fr h₀ L s₁.heap m ∧ News h₀ L s₁.heap news ∧ TupSrc h₀ ax its news ∧ its.size ≤ sizeLine ∧
      ∀ s₂ : Shared, (∃ h, s₂ = { s₁ with heap := h }) → CompRest prog w A h₀ L m env elt x scope cl s₂ (TupSrc h₀ ax its) (fun i v => its[i]? = some v) (Fin s₂) its.size 0 [] news
theorem TupGoal.intro {elt : Expr} {x : Str} {scope : Scope} {cl : List (Str × Addr)} {Fin : Shared → List Value → List (Addr × Obj) → Prop} {ax : Addr} {its : Array Value} {k : Nat} {news : List (Addr × Obj)} {s₁ : Shared}
    (hh : A.handled = none) (F : Fr h₀ L s₁.heap m) (N : News h₀ L s₁.heap news) (hm : (ax, ({ cls := .type "tuple", data := .seq its k } : Obj)) ∈ news) (hsz : its.size ≤ sizeLine)
    (h : ∀ g, CompRest prog w A h₀ L m env elt x scope cl { s₁ with heap := g } (TupSrc h₀ ax its) (fun i v => its[i]? = some v) (Fin { s₁ with heap := g }) its.size 0 [] news) :
    TupGoal prog w A h₀ L m env elt x scope cl Fin (.ref ax) s₁ := ⟨ax, its, news, rfl, hh, F, N, ⟨_, hm, rfl, _, rfl⟩, hsz, fun _ ⟨g, e⟩ => e ▸ h g⟩
theorem Assign_ListComp_T {elt iter : Expr} {x y : Str} {px py : Pos} {scope : Scope} {cl : List (Str × Addr)} {pos spos : Pos} {Q : Flow → Shared → Prop} (F₀ : Fr h₀ L s.heap m) (hLe : env.locals = L)
    (hsw : swapsWith (.ListComp elt [⟨.Name x px, iter, [], 0⟩] scope pos) (some (.Name y py)) spos.line env = pure true)
    (hclos : closureFor scope env = pure cl) (hcell : ∀ z ∈ scope.names, z.2 ≠ .cell) (hkind : scope.kind = .function)
    (hnames : ∀ z ∈ scope.names, z.2 = .local → scope.names.lookup z.1 = some .local) (hx : scope.names.lookup x = some .local)
    (hy : env.kindOf y = some .local) (hp : (env.scope.kind == .class || (env.scope.kind == .module && env.locals != env.globals)) = false)
    (h : wpAny (model prog w) A (eval iter env) (TupGoal prog w A h₀ L m env elt x scope cl (fun s₂ => FinA h₀ L m s₂ y Q)) E s)
    (hs : ∀ x, foldedSetIterable iter env x = pure x := by intro _; rfl) :
    wpAny (model prog w) A (exec (.Assign [.Name y py] (.ListComp elt [⟨.Name x px, iter, [], 0⟩] scope pos) spos) env) Q E s := by
  subst hLe
  rw [exec_Assign_Name_used _ _ _ _ hsw]
  refine wpAny_bind (wpAny_standAt (wpAny_bind ?_))
  show wpAny _ A (do let _ ← comprehension (.ListComp elt [⟨.Name x px, iter, [], 0⟩] scope pos) scope env _ (newList []) false (eval iter env) (some (assign (.Name y py) env))) _ _ s
  refine wpAny_bind (wpAny_mono (wpAny_comprehension_free (use := some (assign (.Name y py) env)) (Q := fun _ s' => Q .next s') rfl hs hclos hkind hnames
    (wpAny_mono h (fun xv s₁ h₁ => ?_) fun _ _ e => e)) (fun _ s' hq => wpAny_pure (wpAny_pure hq)) fun _ _ e => e)
  obtain ⟨ax, its, news, rfl, hh, F, N, S, hsz, R⟩ := h₁
  have hl := S.tup N
  have hlt : ax < s₁.heap.objs.size := by obtain ⟨_, e, _⟩ := hl; exact Heap.lt_size e
  refine wpAny_pyIter_tuple hl ?_
  have up : ∀ b o, s₁.heap.get? b = some o → (s₁.heap.push { cls := .type "tuple_iterator", data := .fields #[.ref ax, .int 0 0] }).get? b = some o := fun b o e => Heap.get?_push_of_some _ e
  refine block_U (Walks.tuple hh s₁.heap.objs.size ax (Nat.ne_of_lt hlt) its) hsz (fun i h st => by obtain ⟨o, e, _⟩ := st.1; exact ⟨o, e⟩) tup_st hcell hkind hx ⟨⟨_, Heap.get?_push_size _ rfl, rfl, rfl⟩, hl.push _⟩ (fun b hb => ?_)
    (F.keeps up) (N.grown up) (Nat.ne_of_lt F.ns.lt) (next_is_new F) (fun p hp => Nat.ne_of_lt (Heap.lt_size (N p hp).1)) S (R _ ⟨_, rfl⟩) ?_
  · show b < (s₁.heap.push _).objs.size
    rw [Heap.size_push]
    rcases List.mem_cons.mp hb with rfl | hb
    · exact Nat.lt_succ_self _
    · rw [List.mem_singleton.mp hb]; exact Nat.lt_succ_of_lt hlt
  · intro D C h' tk m' ys news' F' N' o1 hn hC₀ hD₀ hCL hDL hCD offC fin
    show wpAny _ A (assign (.Name y py) env (.ref D)) _ _ _
    refine wpAny_assign_Name (wpAny_storeName_local hy F'.ns (fun h₂ hn₂ hs₂ => ?_) hp)
    have hL₀ : h₀.get? env.locals = none := Heap.get?_none_of_le F'.above
    have F₂ : Fr h₀ env.locals h₂ (fun z => if z = y then some (.ref D) else m z) := ⟨hn₂, fun b o e => hs₂.extBut b o (fun q => by rw [q, hL₀] at e; cases e) (F'.keep b o e), F'.above⟩
    refine ⟨m', hn.sameBut hs₂ hCL, fun h'' hs'' => fin D h'' _ (F₂.change hs'' hCL hC₀) (fun p hp => ?_) o1⟩
    have z : h₂.get? p.1 = some p.2 := hs₂.extBut _ _ (N' p hp).2.1 (N' p hp).1
    refine ⟨hs''.extBut _ _ ?_ z, (N' p hp).2⟩
    rcases List.mem_cons.mp hp with rfl | hp
    · exact Ne.symm hCD
    · exact offC p hp
end
end

example : True := by
  k_with_none
  trivial
example : True := by
  (k_with "my my_enter" => ((refine wpAny_call ?_; k_dflt (first
      | (refine' enterP ?k3_q1 ?k5_q1 ?k6_q1 ?k7_q1 ?k8_q1 ?k9_q1 ?kB_q1 ?_ ?c2_q1 ?c3_q1 ?c4_q1 ?c5_q1; (case k3_q1 => k_asm); (case k5_q1 => k_asm); (case k6_q1 => k_is); (case k7_q1 => k_is); (case k8_q1 => k_room); (case k9_q1 => first | exact BindsTo.of_eq (binds := [(_, _)]) rfl | exact BindsTo.of_eq (binds := [(_, _), (_, _)]) rfl | exact BindsTo.of_eq rfl | exact binds_K (by k_in) rfl (by k_is) rfl rfl rfl | fail "my_enter: no rule for these arguments"); (case c5_q1 => decide); (case kB_q1 => exact locs rfl); (case c2_q1 => exact rfl); (case c3_q1 => exact rfl); (case c4_q1 => exact rfl); k_whole; intro L' h' F' N'; (try dsimp only); (try k_fold))
      | (refine' enterPC ?k3_q1 ?k5_q1 ?k6_q1 ?k7_q1 ?k8_q1 ?k9_q1 ?kB_q1 ?kD_q1 ?_ ?c2_q1 ?c3_q1 ?c4_q1; (case k3_q1 => k_asm); (case k5_q1 => k_asm); (case k6_q1 => k_is); (case k7_q1 => k_is); (case k8_q1 => k_room); (case k9_q1 => first | exact BindsTo.of_eq (binds := [(_, _)]) rfl | exact BindsTo.of_eq (binds := [(_, _), (_, _)]) rfl | exact BindsTo.of_eq rfl | exact binds_K (by k_in) rfl (by k_is) rfl rfl rfl | fail "my_enter: no rule for these arguments"); (case kB_q1 => exact rfl); (case kD_q1 => decide +kernel); (case c2_q1 => exact rfl); (case c3_q1 => exact rfl); (case c4_q1 => exact rfl); k_whole; intro L' h' tk' cells' F' N' Y'; k_cells Y'; (try simp only [List.cons_append, List.nil_append, List.append_nil] at N'); (try dsimp only); (try k_fold))))))
  trivial
example : True := by
  (k_with "my call type:type" => (((with_reducible show wpAny _ _ (call _ [Value.bytes _ _]) _ _ _); refine call_type_of (Tx := "bytes") rfl (by decide +kernel) ?_)))
  trivial
example : True := by
  (k_with "my my_steps" => (repeat' (first | (k_unfold; (try dsimp only)) | ((fail_if_success (with_reducible show InvEndN _ _ _ _ _ _ _)); first | walk1 | (dsimp only; walk1) | (leave1; try dsimp only)) | fail "no step")))
  trivial
example : True := by
  (k_with "my use_cases" => (((case kB => first | k_asm | fail "use: below"); (case kF => first | k_asm | fail "use: frame"); (case kX => first | k_asm | fail "use: written part"); (case kN => first | k_asm | fail "use: ledger"); (case kT => first | k_asm | fail "use: top"); (case kk => first | exact rfl | assumption | fail "use: kind"); (case kd => first | ktr_room | fail "use: room"); (case ku => first | ktr_units | fail "use: units"))))
  trivial
example : True := by
  (k_with "my my_enterT" => ((refine wpAny_call ?_; k_dflt (first
      | (refine' enterT ?ksub_q5 ?ksz_q5 ?k3_q5 ?k5_q5 ?kt_q5 ?kg_q5 ?k6_q5 ?k7_q5 ?k8_q5 ?k9_q5 ?kB_q5 ?_ ?c2_q5 ?c3_q5 ?c4_q5 ?c5_q5; (case ksub_q5 => assumption); (case ksz_q5 => assumption); (case kt_q5 => assumption); (case kg_q5 => assumption); (case k3_q5 => k_asm); (case k5_q5 => k_asm); (case k6_q5 => k_is); (case k7_q5 => k_is); (case k8_q5 => k_room); (case k9_q5 => first | exact BindsTo.of_eq (binds := [(_, _)]) rfl | exact BindsTo.of_eq (binds := [(_, _), (_, _)]) rfl | exact BindsTo.of_eq rfl | exact binds_K (by k_in) rfl (by k_is) rfl rfl rfl | fail "my_enter: no rule for these arguments"); (case c5_q5 => decide); (case kB_q5 => exact locs rfl); (case c2_q5 => exact rfl); (case c3_q5 => exact rfl); (case c4_q5 => exact rfl); k_whole; intro L' h' F' N' l0; (replace l0 := ltN l0); (try dsimp only); (try k_fold))
      | (refine' enterTC ?ksub_q5 ?ksz_q5 ?k3_q5 ?k5_q5 ?kt_q5 ?kg_q5 ?k6_q5 ?k7_q5 ?k8_q5 ?k9_q5 ?kB_q5 ?kD_q5 ?_ ?c2_q5 ?c3_q5 ?c4_q5; (case ksub_q5 => assumption); (case ksz_q5 => assumption); (case kt_q5 => assumption); (case kg_q5 => assumption); (case k3_q5 => k_asm); (case k5_q5 => k_asm); (case k6_q5 => k_is); (case k7_q5 => k_is); (case k8_q5 => k_room); (case k9_q5 => first | exact BindsTo.of_eq (binds := [(_, _)]) rfl | exact BindsTo.of_eq (binds := [(_, _), (_, _)]) rfl | exact BindsTo.of_eq rfl | exact binds_K (by k_in) rfl (by k_is) rfl rfl rfl | fail "my_enter: no rule for these arguments"); (case kB_q5 => exact rfl); (case kD_q5 => decide +kernel); (case c2_q5 => exact rfl); (case c3_q5 => exact rfl); (case c4_q5 => exact rfl); k_whole; intro L' h' tk' cells' F' N' Y' l0; (replace l0 := ltN l0); k_cells Y'; (try simp only [List.cons_append, List.nil_append, List.append_nil] at N'); (try dsimp only); (try k_fold))))))
  trivial
example : True := by
  (k_with "my execs cons" => (((with_reducible refine wpAny_execs_cons ?_); (try dsimp only); (try k_fold); (try ((rename Fr _ _ _ _ => F9); (refine foldFr F9 ?_); (intro mk9 F8); (clear F9))))))
  trivial
example : True := by
  (k_with "my size_fits" => (exact Nat.le_of_ble_eq_true rfl))
  trivial
example : True := by
  (k_with "my pick_chain" => (((iterate 15 (try (first | with_reducible assumption | apply pickR))); done)))
  trivial
example : True := by
  (k_with "my pick_one" => ((first | with_reducible assumption | (apply pickL; walk_at "pick_chain") | walk_at "pick_chain")))
  trivial
example : True := by
  (k_with "my pick_ne" => ((refine neN ?_; (try dsimp only); (first | with_reducible assumption | (refine Nat.ne_of_lt ?_; (simp only [*]; done)) | (refine Nat.ne_of_gt ?_; (simp only [*]; done)) | (simp only [*, ne_eq, not_false_eq_true]; done) | (refine Ne.symm ?_; (simp only [*, ne_eq, not_false_eq_true]; done)) | (refine ne_up ?_; (simp only [*]; done)) | (refine ne_up' ?_; (simp only [*]; done))))))
  trivial
example : True := by
  (k_with "my pick_lim" => ((first
      | (refine' lim1 ?h_q11 ?k_q11; (case h_q11 => assumption); (case k_q11 => exact rfl))
      | (refine' lim2 ?h_q11 ?k_q11; (case h_q11 => assumption); (case k_q11 => exact rfl))
      | (refine' lim0 ?h_q11; (case h_q11 => assumption))
      | (refine' lim3 ?h_q11 ?k_q11; (case h_q11 => assumption); (case k_q11 => exact rfl)))))
  trivial
example : True := by
  (k_with "my pick_all" => ((first | exact allNe_nil | (refine' allNe_cons ?a_q12 ?b_q12; (case a_q12 => k_ne); (case b_q12 => k_all)))))
  trivial
example : True := by
  (k_with "my eval Name" => ((k_here; (with_reducible show wpAny _ _ (eval (Expr.Name _ _) (compEnvC _ _ _ _)) _ _ _); k_dflt (first | refine LCgL.ld_own (by with_reducible assumption) (by k_mem) (by with_reducible assumption) (by with_reducible assumption) ?_ | refine LCgL.ld_global (by with_reducible assumption) (by with_reducible assumption) (by with_reducible assumption) (by k_is) ?_ | refine LCgL.ld_built (by with_reducible assumption) (by with_reducible assumption) (by with_reducible assumption) (by k_is) (by boot_by_name) (by decide) ?_))))
  trivial

section
theorem cut_uniq : ∀ (u p v w : List Nat), 47 ∉ u → 47 ∉ p → u ++ 47 :: v = p ++ 47 :: w → u = p ∧ v = w
  | [], [], _, _, _, _, h => ⟨rfl, by simpa using h⟩
  | [], y :: p, _, _, _, h2, h => by simp at h h2; exact absurd h.1 h2.1
  | x :: u, [], _, _, h1, _, h => by simp at h h1; exact absurd h.1.symm h1.1
  | x :: u, y :: p, v, w, h1, h2, h => by
    simp at h h1 h2
    obtain ⟨e1, e2⟩ := cut_uniq u p v w h1.2 h2.2 h.2
    exact ⟨by rw [h.1, e1], e2⟩
theorem join_peel {p : Str} {ps : List Str} {u v : List Nat} (hp : 47 ∉ p.cps.toList) (hu : 47 ∉ u) (h : (Str.join ⟨#[47]⟩ (p :: ps)).cps.toList = u ++ 47 :: v) : p.cps.toList = u ∧ ps ≠ [] ∧ (Str.join ⟨#[47]⟩ ps).cps.toList = v := by
  cases ps with
  | nil =>
    have h : p.cps.toList = u ++ 47 :: v := h
    rw [h] at hp; simp at hp
  | cons q qs =>
    have h : (p ++ ⟨#[47]⟩ ++ Str.join ⟨#[47]⟩ (q :: qs)).cps.toList = u ++ 47 :: v := h
    have h' : p.cps.toList ++ 47 :: (Str.join ⟨#[47]⟩ (q :: qs)).cps.toList = u ++ 47 :: v := by
      rw [← h]
      show _ = ((p.cps ++ #[47]) ++ (Str.join ⟨#[47]⟩ (q :: qs)).cps).toList
      simp
    obtain ⟨e1, e2⟩ := cut_uniq _ _ _ _ hp hu h'
    exact ⟨e1, nofun, e2⟩
theorem join_last {p : Str} {ps : List Str} {u : List Nat} (hu : 47 ∉ u) (h : (Str.join ⟨#[47]⟩ (p :: ps)).cps.toList = u) : p.cps.toList = u ∧ ps = [] := by
  cases ps with
  | nil => exact ⟨h, rfl⟩
  | cons q qs =>
    have h : (p ++ ⟨#[47]⟩ ++ Str.join ⟨#[47]⟩ (q :: qs)).cps.toList = u := h
    refine absurd ?_ hu
    rw [← h]
    show _ ∈ ((p.cps ++ #[47]) ++ (Str.join ⟨#[47]⟩ (q :: qs)).cps).toList
    simp
theorem str_of {x : Str} {l : List Nat} (h : x.cps.toList = l) : x = ⟨l.toArray⟩ := by
  cases x with | mk c => simp at h; subst h; simp
theorem split4 (a b c d : Nat) (ha : a ≠ 47) (hb : b ≠ 47) (hc : c ≠ 47) (hd : d ≠ 47) : Txt.split (P4 a b c d) (Str.ofString "/") = [⟨#[]⟩, One a, One b, One c, One d] := by
  rw [slash_is]
  have j := StrLaws.join_split (P4 a b c d) ⟨#[47]⟩
  have f := StrLaws.split_free (P4 a b c d) 47
  generalize Txt.split (P4 a b c d) ⟨#[47]⟩ = ps at j f
  replace j : (Str.join ⟨#[47]⟩ ps).cps.toList = [] ++ 47 :: ([a] ++ 47 :: ([b] ++ 47 :: ([c] ++ 47 :: [d]))) := by rw [j]; rfl
  match ps, j, f with
  | [], j, _ => simp [Str.join] at j; exact absurd (congrArg List.length j) (by show ¬ (0 = _); simp)
  | p0 :: ps, j, f =>
    obtain ⟨e0, n0, j⟩ := join_peel (f _ (.head _)) (by simp) j
    match ps, n0, j, f with
    | p1 :: ps, _, j, f =>
      obtain ⟨e1, n1, j⟩ := join_peel (f _ (.tail _ (.head _))) (by simp; omega) j
      match ps, n1, j, f with
      | p2 :: ps, _, j, f =>
        obtain ⟨e2, n2, j⟩ := join_peel (f _ (.tail _ (.tail _ (.head _)))) (by simp; omega) j
        match ps, n2, j, f with
        | p3 :: ps, _, j, f =>
          obtain ⟨e3, n3, j⟩ := join_peel (f _ (.tail _ (.tail _ (.tail _ (.head _))))) (by simp; omega) j
          match ps, n3, j, f with
          | p4 :: ps, _, j, f =>
            obtain ⟨e4, rfl⟩ := join_last (by simp; omega) j
            rw [str_of e0, str_of e1, str_of e2, str_of e3, str_of e4]
            rfl
theorem split1 (a : Nat) (ha : a ≠ 47) : Txt.split (P1 a) (Str.ofString "/") = [⟨#[]⟩, One a] := by
  rw [slash_is]
  have j := StrLaws.join_split (P1 a) ⟨#[47]⟩
  have f := StrLaws.split_free (P1 a) 47
  generalize Txt.split (P1 a) ⟨#[47]⟩ = ps at j f
  replace j : (Str.join ⟨#[47]⟩ ps).cps.toList = [] ++ 47 :: [a] := by rw [j]; rfl
  match ps, j, f with
  | [], j, _ => simp [Str.join] at j; exact absurd (congrArg List.length j) (by show ¬ (0 = _); simp)
  | p0 :: ps, j, f =>
    obtain ⟨e0, n0, j⟩ := join_peel (f _ (.head _)) (by simp) j
    match ps, n0, j, f with
    | p1 :: ps, _, j, f =>
      obtain ⟨e1, rfl⟩ := join_last (by simp; omega) j
      rw [str_of e0, str_of e1]
      rfl
end

example : True := by
  k_with_none
  trivial
section
open PyProof.Rows.LCg
section
variable {prog : Program} {w : World} {A : Around} {E : Value → Shared → Prop} {s : Shared}
theorem pyHash_true {Q : Int → Shared → Prop} (h : Q 1 { s with toks := s.toks + 1 }) : wpAny (model prog w) A (pyHash (.bool true)) Q E s := by
  unfold pyHash
  have hv : [Value.bool true].any Value.onHeap = false := rfl
  refine wpAny_bind ?_
  rw [cRoomFor, if_neg (by rw [hv]; exact Bool.false_ne_true)]; refine wpAny_pure ?_
  refine wpAny_bind (wpAny_specialOf (PySem.typeIs_bool s true) F.slot_bool_hash.lookup ?_)
  show wpAny _ _ (if (some (Value.builtin "int.__hash__") == some Value.none) = true then _ else _) Q E s
  rw [if_neg (by rw [beq_builtin_none]; exact Bool.false_ne_true)]
  refine wpAny_bind (wpAny_specialOf (PySem.typeIs_bool s true) F.slot_bool_hash.lookup ?_)
  show wpAny _ _ (callSpecialIfBoundUnlessNone? (.bool true) "__hash__" _ >>= _) Q E s
  refine wpAny_bind (wpAny_callSpecialIfBoundUnlessNone?_slot (PySem.typeIs_bool s true) F.slot_bool_hash
    (wpAny_call_entry F.slot_bool_hash (PySem.typeIs_bool s true) entry_int_hash
      (show wpAny _ _ (do ret (← mkInt (rawHash 1))) _ _ s from wpAny_ret_mkInt ?_) (args_int_hash _)))
  exact wpAny_pure h
theorem eqBool_true {Q : Bool → Shared → Prop} (h : Q true s) : wpAny (model prog w) A (eqBool (.bool true) (.bool true)) Q E s := by
  unfold eqBool
  refine wpAny_holding ?_
  rw [if_pos (by decide)]
  exact wpAny_bind (wpAny_rule (wpAny_pure h))
noncomputable abbrev setO0 (led : Bool) : Obj := { cls := .type "set", dict := none, data := .set #[] 0 (.fresh 0 0 led), slots := #[] }
noncomputable abbrev setO1 (led : Bool) : Obj := { cls := .type "set", dict := none, data := .set #[(1, .bool true)] 1 { mask := 7, place := #[1], dummies := #[], finger := 0, led, moves := 0, plain := true }, slots := #[] }
theorem lay0 (led : Bool) : layNew (.fresh 0 0 led) #[] 1 (.bool true) = (#[(1, .bool true)], { mask := 7, place := #[1], dummies := #[], finger := 0, led, moves := 0, plain := true }, false, false) := by
  cases led <;> kernel_rfl
theorem set_add0 {a : Addr} {led : Bool} {Q : Value → Shared → Prop} (ho : s.heap.get? a = some (setO0 led))
    (h : ∀ h', Heap.SameBut a s.heap h' → h'.get? a = some (setO1 led) → Q .none { s with heap := h', toks := s.toks + 1 }) :
    wpAny (model prog w) A (call (.builtin "set.add") [.ref a, .bool true]) Q E s := by
  refine wpAny_call_entry F.slot_set_add ⟨_, ho, rfl⟩ F.entry_set_add ?_ (F.args_set_add_2 _ _)
  unfold Builtin.«set.add» Builtin.Frozenset.oneOther
  simp only [List.isEmpty_nil, bind_assoc]
  unfold Builtin.Frozenset.addrOf setAdd
  refine wpAny_bind (wpAny_pure ?_)
  try dsimp only
  refine wpAny_bind (wpAny_pure ?_)
  try dsimp only
  refine wpAny_bind ?_
  refine wpAny_holding ?_
  refine wpAny_bind (pyHash_true ?_)
  unfold setAddHashed setAddHashedIn
  refine wpAny_holding (wpAny_bind (wpAny_setState_of (s := { s with toks := s.toks + 1 }) ho rfl rfl ?_))
  dsimp only
  rw [show byScan (.bool true) #[] = true from by decide +kernel]
  simp only [↓reduceIte]
  unfold setAddByScan
  refine wpAny_bind ?_
  refine wpAny_bind (wpAny_rule ?_)
  refine wpAny_bind (show wpAny _ _ (pure ScanMet.absent) _ _ _ from wpAny_pure ?_)
  dsimp only
  rw [lay0]
  dsimp only
  refine wpAny_bind (wpAny_pure ?_)
  simp only [↓reduceIte]
  refine wpAny_bind (show wpAny _ _ (pure true) _ _ _ from wpAny_pure ?_)
  simp only [↓reduceIte]
  refine wpAny_bind (wpAny_storeSet_of (s := { s with toks := s.toks + 1 }) ho rfl ?_ (by decide))
  refine wpAny_pure (wpAny_pure (wpAny_pure ⟨_, rfl, h _ (Heap.SameBut.update _ _ _) ?_⟩))
  exact Heap.get?_update_self _ ho rfl
theorem set_add1 {a : Addr} {led : Bool} {Q : Value → Shared → Prop} (ho : s.heap.get? a = some (setO1 led)) (h : Q .none { s with toks := s.toks + 1 }) :
    wpAny (model prog w) A (call (.builtin "set.add") [.ref a, .bool true]) Q E s := by
  refine wpAny_call_entry F.slot_set_add ⟨_, ho, rfl⟩ F.entry_set_add ?_ (F.args_set_add_2 _ _)
  unfold Builtin.«set.add» Builtin.Frozenset.oneOther
  simp only [List.isEmpty_nil, bind_assoc]
  unfold Builtin.Frozenset.addrOf setAdd
  refine wpAny_bind (wpAny_pure ?_)
  try dsimp only
  refine wpAny_bind (wpAny_pure ?_)
  try dsimp only
  refine wpAny_bind ?_
  refine wpAny_holding ?_
  refine wpAny_bind (pyHash_true ?_)
  unfold setAddHashed setAddHashedIn
  refine wpAny_holding (wpAny_bind (wpAny_setState_of (s := { s with toks := s.toks + 1 }) ho rfl rfl ?_))
  dsimp only
  rw [show byScan (.bool true) #[(1, .bool true)] = true from by decide +kernel]
  simp only [↓reduceIte]
  unfold setAddByScan
  refine wpAny_bind ?_
  refine wpAny_bind (wpAny_rule ?_)
  refine wpAny_bind (show wpAny _ _ (setScanFrom a (.bool true) 1 true [(1, .bool true)] 0) _ _ _ from ?_)
  unfold setScanFrom
  rw [if_pos (by decide)]
  refine wpAny_bind (wpAny_setEpoch_of (s := { s with toks := s.toks + 1 }) ho rfl rfl ?_)
  refine wpAny_bind (eqBool_true ?_)
  dsimp only
  simp only [Bool.and_self, ↓reduceIte]
  exact wpAny_pure (wpAny_pure (wpAny_pure (wpAny_pure ⟨_, rfl, h⟩)))

theorem slot_setit_next : Slot "set_iterator" "__next__" "set_iterator.__next__" :=
  .of (owner := "set_iterator") (n := "__next__") (by rw [typeLookup_type, builtinLookup_eq_fast]; kernel_rfl) (by decide +kernel) (by decide +kernel) (by decide +kernel)
    (by first | exact .inl (by decide +kernel) | exact .inr (by decide +kernel)) (by rw [isSubtype_type]; kernel_rfl)
theorem entry_setit_next : entryFor table "set_iterator.__next__" = some Builtin.«set_iterator.__next__» := entryFor_of_tree (by kernel_rfl)
theorem entry_set_iter : entryFor table "set.__iter__" = some Builtin.«frozenset.__iter__» :=
  entryFor_alias (id' := "frozenset.__iter__") (by kernel_rfl) rfl (by decide +kernel) (by kernel_rfl)
theorem owner_setit : Manifest.owners.lookup (String.ofList ['r','o','t','a','r','e','t','i','_','t','e','s'].reverse) = some Manifest.sig_set_iterator := by kernel_rfl
theorem args_setit_next_1 (a : Value) : argsOk "set_iterator.__next__" ⟨[a], []⟩ := by
  unfold argsOk; rw [signature?_of (id := "set_iterator.__next__") (n := ['_', '_', 't', 'x', 'e', 'n', '_', '_']) (o := ['r','o','t','a','r','e','t','i','_','t','e','s']) (by kernel_rfl) owner_setit]; kernel_rfl
noncomputable abbrev setIt (D : Addr) (a b : Nat) : Obj := { cls := .type "set_iterator", dict := none, data := .fields #[rawInt a, rawInt b, .ref D, rawInt 1, rawInt 1], slots := #[] }
theorem pick_one (f : Nat → Nat) (x : Int × Value) : pickOrder f #[x] = #[x] := by
  unfold pickOrder pickOrder.go
  simp [Nat.mod_one, pickOrder.go]
section
variable {D : Addr}
theorem setWalk_1 {Q : Array (Int × Value) → Shared → Prop} (hb : w.params.followText "set-order" = true) {led : Bool} (ho : s.heap.get? D = some (setO1 led)) (h : Q #[(1, .bool true)] s) :
    wpAny (model prog w) A (setWalk D) Q E s := by
  unfold setWalk setsByText
  refine wpAny_bind (wpAny_setState_of ho rfl rfl ?_)
  dsimp only
  refine wpAny_bind (wpAny_bind (wpAny_askSetting (wpAny_pure ?_)))
  show wpAny _ _ (if (w.params.followText "set-order") = true then _ else _) _ _ _
  rw [hb, if_pos rfl]
  refine wpAny_bind (wpAny_askSetting (wpAny_pure ?_))
  rw [pick_one]; exact h
theorem setNext_0 {Q : Option (Value × Nat) → Shared → Prop} (ho : s.heap.get? D = some (setO1 (!w.params.followText "set-order"))) (h : Q (some (.bool true, if w.params.followText "set-order" then 0 else 2)) s) :
    wpAny (model prog w) A (setNext D 0 0 1) Q E s := by
  unfold setNext setsByText
  refine wpAny_bind (wpAny_setState_of ho rfl rfl ?_)
  dsimp only
  refine wpAny_bind (wpAny_bind (wpAny_askSetting (wpAny_pure ?_)))
  show wpAny _ _ (if (w.params.followText "set-order") = true then _ else _) _ _ _
  cases hb : w.params.followText "set-order" with
  | false =>
    rw [hb] at h
    exact wpAny_pure h
  | true =>
    rw [hb] at h ho
    rw [if_pos rfl, if_neg (by decide)]
    exact wpAny_bind (setWalk_1 hb ho (wpAny_pure h))
theorem setNext_1 {Q : Option (Value × Nat) → Shared → Prop} {n : Nat} (hn : n = if w.params.followText "set-order" then 0 else 2) (ho : s.heap.get? D = some (setO1 (!w.params.followText "set-order"))) (h : Q none s) :
    wpAny (model prog w) A (setNext D n 1 1) Q E s := by
  subst hn
  unfold setNext setsByText
  refine wpAny_bind (wpAny_setState_of ho rfl rfl ?_)
  dsimp only
  refine wpAny_bind (wpAny_bind (wpAny_askSetting (wpAny_pure ?_)))
  show wpAny _ _ (if (w.params.followText "set-order") = true then _ else _) _ _ _
  cases hb : w.params.followText "set-order" with
  | false => exact wpAny_pure h
  | true =>
    rw [hb] at ho
    rw [if_pos rfl, if_neg (by decide)]
    exact wpAny_bind (setWalk_1 hb ho (wpAny_pure h))
theorem set_iter {Q : Value → Shared → Prop} (ho : s.heap.get? D = some (setO1 (!w.params.followText "set-order"))) (h : Q (.ref s.heap.objs.size) { s with heap := s.heap.push (setIt D 0 0) }) :
    wpAny (model prog w) A (pyIter (.ref D)) Q E s := by
  have hT : s.TypeIs (.ref D) "set" := ⟨_, ho, rfl⟩
  refine wpAny_pyIter_slot hT F.slot_set_iter (wpAny_call_entry F.slot_set_iter hT entry_set_iter ?_ (F.args_set_iter_1 _))
  unfold Builtin.«frozenset.__iter__» Builtin.Frozenset.slot0 slotArgs Builtin.Frozenset.addrOf Builtin.Frozenset.sizeOf
  refine wpAny_bind (wpAny_pure ?_)
  dsimp only
  refine wpAny_bind (wpAny_bind (wpAny_setEntries_of ho rfl rfl (wpAny_pure ?_)))
  unfold setDrawn setsByText
  refine wpAny_bind (wpAny_bind (wpAny_setState_of ho rfl rfl ?_))
  dsimp only
  refine wpAny_bind (wpAny_bind (wpAny_askSetting (wpAny_pure (wpAny_pure ?_))))
  rw [if_neg (by rw [Bool.and_eq_true]; rintro ⟨_, e⟩; exact Bool.false_ne_true e)]
  · refine wpAny_bind (wpAny_pure (wpAny_bind (wpAny_setEpoch_of ho rfl rfl ?_)))
    exact wpAny_bind (wpAny_newObj_type (wpAny_pure ⟨_, rfl, "set_iterator", _, ⟨_, Heap.get?_push_size _ rfl, rfl⟩, slot_setit_next.lookup, h⟩))
theorem setit_next_0 {I : Addr} {Q : Option Value → Shared → Prop} (hne : D ≠ I) (ho : s.heap.get? D = some (setO1 (!w.params.followText "set-order"))) (hi : s.heap.get? I = some (setIt D 0 0))
    (h : ∀ h', Heap.SameBut I s.heap h' → h'.get? I = some (setIt D (if w.params.followText "set-order" then 0 else 2) 1) → Q (some (.bool true)) { s with heap := h' }) :
    wpAny (model prog w) A (pyNext (.ref I)) Q E s := by
  have hT : s.TypeIs (.ref I) "set_iterator" := ⟨_, hi, rfl⟩
  unfold pyNext
  refine wpAny_bind (wpAny_attempt (wpAny_callSpecial?_slot (name := Str.ofString "__next__") hT slot_setit_next (wpAny_call_entry slot_setit_next hT entry_setit_next ?_ (args_setit_next_1 _))))
  unfold Builtin.«set_iterator.__next__» slotArgs
  refine wpAny_bind (wpAny_pure ?_)
  refine wpAny_bind (wpAny_fieldsOf hi rfl ?_)
  dsimp only
  refine wpAny_bind (wpAny_setEntries_of ho rfl rfl ?_)
  rw [if_neg (by decide)]
  dsimp only [rawInt]
  refine wpAny_bind (setNext_0 ho ?_)
  dsimp only
  refine wpAny_bind (wpAny_setField_rec hi (by simp) fun h₁ g₁ sb₁ => ?_)
  refine wpAny_bind (wpAny_setField_rec (s := { s with heap := h₁ }) g₁ (by simp) fun h₂ g₂ sb₂ => ?_)
  refine wpAny_pure ⟨_, rfl, wpAny_pure (h h₂ (sb₁.trans sb₂) ?_)⟩
  exact g₂
theorem setit_next_1 {I : Addr} {n : Nat} {Q : Option Value → Shared → Prop} (hh : A.handled = none) (hn : n = if w.params.followText "set-order" then 0 else 2) (hne : D ≠ I) (ho : s.heap.get? D = some (setO1 (!w.params.followText "set-order"))) (hi : s.heap.get? I = some (setIt D n 1))
    (hQ : ∀ h', Heap.ExtBut I s.heap h' → Q none { s with heap := h' }) :
    wpAny (model prog w) A (pyNext (.ref I)) Q E s := by
  have hT : s.TypeIs (.ref I) "set_iterator" := ⟨_, hi, rfl⟩
  unfold pyNext
  refine wpAny_bind (wpAny_attempt (wpAny_callSpecial?_slot (name := Str.ofString "__next__") hT slot_setit_next (wpAny_call_entry slot_setit_next hT entry_setit_next ?_ (args_setit_next_1 _))))
  unfold Builtin.«set_iterator.__next__» slotArgs
  refine wpAny_bind (wpAny_pure ?_)
  refine wpAny_bind (wpAny_fieldsOf hi rfl ?_)
  dsimp only
  refine wpAny_bind (wpAny_setEntries_of ho rfl rfl ?_)
  rw [if_neg (by decide)]
  dsimp only [rawInt]
  refine wpAny_bind (setNext_1 (by simpa using hn) ho ?_)
  dsimp only
  refine wpAny_bind (wpAny_setField hi rfl (by simp) ?_)
  show wpAny _ _ (newExc (.type "StopIteration") [] >>= _) _ _ _
  refine wpAny_bind ?_
  simp only [newExc, newTuple]
  refine wpAny_bind (wpAny_newObj_type ?_ (by size_fits))
  refine wpAny_bind (m := firstArgMember _ _) (wpAny_of_eq (a := Value.none) (by first | rfl | (simp only [firstArgMember]; rfl)) ?_)
  refine wpAny_newObj_type ?_ (by size_fits)
  simp only [raiseNew]
  refine wpAny_bind (wpAny_handled ?_)
  rw [show A.in1.handled = none from hh]
  refine wpAny_bind (wpAny_pure (wpAny_throw ?_))
  refine wpAny_bind (wpAny_isInstance (T := "StopIteration") (b := true) ⟨_, Heap.get?_push_size _ rfl, rfl⟩ isSubtype_stop ?_)
  exact wpAny_pure (hQ _ (((Heap.SameBut.update ..).extBut.push _).push _))
theorem unpack_set {Q : List Value → Shared → Prop} (hh : A.handled = none) (ho : s.heap.get? D = some (setO1 (!w.params.followText "set-order")))
   (h : ∀ h', (∀ b o, s.heap.get? b = some o → h'.get? b = some o) → Q [.bool true] { s with heap := h' }) :
    wpAny (model prog w) A (unpackItems (.ref D) 1 none) Q E s := by
  have hT : s.TypeIs (.ref D) "set" := ⟨_, ho, rfl⟩
  unfold unpackItems notIterableAtAll
  refine wpAny_bind (wpAny_bind (wpAny_specialOf hT F.slot_set_iter.lookup (wpAny_pure ?_)))
  rw [if_neg Bool.false_ne_true]
  refine wpAny_bind (wpAny_holding (set_iter ho ?_))
  have hDI : D ≠ s.heap.objs.size := Nat.ne_of_lt (Heap.lt_size ho)
  have up : ∀ b o, s.heap.get? b = some o → (s.heap.push (setIt D 0 0)).get? b = some o := fun b o e => Heap.get?_push_of_some _ e
  refine wpAny_bind (wpAny_holding ?_)
  unfold draw
  refine wpAny_bind (setit_next_0 (s := { s with heap := s.heap.push (setIt D 0 0) }) hDI (up _ _ ho) (Heap.get?_push_size _ rfl) fun h₁ sb₁ g₁ => ?_)
  dsimp only
  refine wpAny_bind (wpAny_holding (wpAny_pure (wpAny_pure ?_)))
  rw [if_neg (by decide)]
  refine wpAny_bind (wpAny_holding (setit_next_1 (s := { s with heap := h₁ }) hh rfl hDI (sb₁.extBut _ _ hDI (up _ _ ho)) g₁ fun h₂ eb₂ => ?_))
  rw [if_neg (by decide)]
  refine wpAny_pure (h h₂ fun b o e => ?_)
  have hb : b ≠ s.heap.objs.size := Nat.ne_of_lt (Heap.lt_size e)
  exact eb₂ _ _ hb (sb₁.extBut _ _ hb (up _ _ e))
end
theorem compTurn_set (elt target iter : Expr) (scope : Scope) (pos : Pos) (it acc : Value) (env : Env) :
    compTurn (.SetComp elt [⟨target, iter, [], 0⟩] scope pos) 0 it acc env = (standAt iter.pos >>= fun _ => pyNext it >>= fun r => match r with
      | none => pure (.done .next)
      | some v => letOwnedTupleGo target it v >>= fun _ => assign target env v >>= fun _ =>
        (eval elt env >>= fun x => standAt elt.pos >>= fun _ => call (.builtin "set.add") [acc, x] >>= fun _ => pure ()) >>= fun _ =>
          again (.compLoop (.SetComp elt [⟨target, iter, [], 0⟩] scope pos) 0 it acc env)) := by rfl
theorem codeAny_compLoop_set {elt target iter : Expr} {scope : Scope} {pos : Pos} {it acc : Value} {env : Env} {R : Result → Shared → Prop} (I : Nat → Shared → Prop)
    (turn : ∀ n s, I n s → wpAny (model prog w) A (pyNext it) (fun r s₁ => match r with
      | none => R (.ok .next) s₁
      | some v => wpAny (model prog w) A (assign target env v) (fun _ s₂ => wpAny (model prog w) A (eval elt env) (fun x s₄ =>
              wpAny (model prog w) A (call (.builtin "set.add") [acc, x]) (fun _ s₅ => ∃ m, m < n ∧ I m s₅) (notedBy (model prog w) A env fun e s' => R (.error e) s') s₄) (notedBy (model prog w) A env fun e s' => R (.error e) s') s₂)
            (notedBy (model prog w) A env fun e s' => R (.error e) s') s₁) (notedBy (model prog w) A env fun e s' => R (.error e) s') s)
    (n : Nat) (h : I n s) (ht : ∀ v, letOwnedTupleGo target it v = pure () := by intro _; rfl) :
    codeAny (model prog w) A (.compLoop (.SetComp elt [⟨target, iter, [], 0⟩] scope pos) 0 it acc env) R s := by
  refine codeAny_loop rfl I (fun n s hI => ?_) n h
  show wpAny _ A ((compTurn (.SetComp elt [⟨target, iter, [], 0⟩] scope pos) 0 it acc env).onRaise (fun x => do noteFrame x env; theTreesLotGoes x)) _ _ s
  refine wpAny_noted ?_
  rw [compTurn_set]
  refine wpAny_bind (wpAny_standAt (wpAny_bind (wpAny_mono (turn n s hI) (fun r s₁ h₁ => ?_) fun _ _ h' => h')))
  cases r with
  | none => exact wpAny_pure h₁
  | some v =>
    refine wpAny_bind (wpAny_of_eq (ht v) ?_)
    refine wpAny_bind (wpAny_mono h₁ (fun _ s₂ h₂ => ?_) fun _ _ h' => h')
    exact wpAny_bind (wpAny_bind (wpAny_mono h₂ (fun x s₄ h₄ => wpAny_bind (wpAny_standAt (wpAny_bind (wpAny_mono h₄ (fun _ s₅ h₅ => wpAny_pure (wpAny_pure ⟨rfl, h₅⟩)) fun _ _ h' => h')))) fun _ _ h' => h'))
theorem codeAny_compStart_set {elt target iter ifs rest scope pos it acc env} {R : Result → Shared → Prop}
    (h0 : codeAny (model prog w) A (.compLoop (.SetComp elt (⟨target, iter, ifs, 0⟩ :: rest) scope pos) 0 it acc env) R s)
    (h : wpAny (model prog w) A (pyIter it) (fun it' s' => codeAny (model prog w) A (.compLoop (.SetComp elt (⟨target, iter, ifs, 0⟩ :: rest) scope pos) 0 it' acc env) R s')
      (notedBy (model prog w) A env fun x s' => R (.error x) s') s) :
    codeAny (model prog w) A (.compStart (.SetComp elt (⟨target, iter, ifs, 0⟩ :: rest) scope pos) 0 it acc env) R s := by
  refine codeAny_of_tree ?_
  show wpAny _ _ ((compStart (.SetComp elt (⟨target, iter, ifs, 0⟩ :: rest) scope pos) 0 it acc env).onRaise (fun x => do noteFrame x env; standAt theWindowsPlace)) _ _ s
  refine wpAny_notedAt ?_
  unfold compStart
  show wpAny _ _ (ask >>= _) _ _ s
  refine wpAny_bind (wpAny_askSetting (wpAny_ite ?_))
  split
  · first
      | exact wpAny_bind (wpAny_pure (wpAny_pure (And.intro rfl h0)))
      | exact wpAny_pure (And.intro rfl h0)
  · first
      | exact wpAny_bind (wpAny_rule (wpAny_bind (wpAny_standAt (wpAny_bind (wpAny_mono h (fun it' s' h' => wpAny_pure (And.intro rfl h')) fun _ _ x => x)))))
      | (refine wpAny_bind (wpAny_rule ?_); show wpAny _ _ (standAt iter.pos >>= _) _ _ s; exact wpAny_bind (wpAny_standAt (wpAny_bind (wpAny_mono h (fun it' s' h' => wpAny_pure (And.intro rfl h')) fun _ _ x => x))))
theorem newSet_led {Q : Value → Shared → Prop} (h : Q (.ref s.heap.objs.size) { s with heap := s.heap.push (setO0 (!w.params.followText "set-order")) }) : wpAny (model prog w) A (newSet (.type "set")) Q E s := by
  unfold newSet setsByText
  refine wpAny_bind (wpAny_bind (wpAny_askSetting (wpAny_pure ?_)))
  dsimp only
  simp only [newObj]
  exact wpAny_bind (wpAny_alloc (wpAny_pure h))
end
end

example : True := by
  k_with_none
  trivial
section
open PyProof.Rows.LCg
section
variable {prog : Program} {w : World} {A : Around} {E : Value → Shared → Prop} {s : Shared} {h₀ : Heap} {L : Addr} {m : Str → Option Value} {env : Env}
noncomputable def SetEnd (h : Heap) (s₀ : Shared) (y : Value) (s' : Shared) : Prop := y = .bool true ∧ ∃ tk', s' = { s₀ with heap := h, toks := tk' }
theorem SetEnd.intro {h : Heap} {s₀ : Shared} {b : Bool} {tk : Nat} (e : b = true) : SetEnd h s₀ (.bool b) { s₀ with heap := h, toks := tk } := ⟨by rw [e], _, rfl⟩
noncomputable def SetGoal (prog : Program) (w : World) (A : Around) (h₀ : Heap) (L : Addr) (m : Str → Option Value) (env : Env) (elt : Expr) (x : Str) (scope : Scope) (cl : List (Str × Addr)) (Q : Value → Shared → Prop) (xv : Value) (s₁ : Shared) : Prop :=
  ∃ ax its news, xv = .ref ax ∧ A.handled = none ∧ Fr h₀ L s₁.heap m ∧ News h₀ L s₁.heap news ∧ TupSrc h₀ ax its news ∧ its.size ≤ sizeLine ∧ 0 < its.size ∧
    (∀ v ∈ its.toList, ∀ C oC m₂ h tk (E' : Value → Shared → Prop), NsObj oC m₂ → m₂ x = some v → Fr h₀ L h m → News h₀ L h ((C, oC) :: news) → (∀ p ∈ news, p.1 ≠ C) →
      wpAny (model prog w) A (eval elt (compEnvC scope cl C env)) (SetEnd h s₁) E' { s₁ with heap := h, toks := tk }) ∧
    (∀ D h' tk, Fr h₀ L h' m → News h₀ L h' ((D, setO1 (!w.params.followText "set-order")) :: news) → (∀ p ∈ news, p.1 ≠ D) → Q (.ref D) { s₁ with heap := h', toks := tk })
theorem SetGoal.intro {elt : Expr} {x : Str} {scope : Scope} {cl : List (Str × Addr)} {Q : Value → Shared → Prop} {ax : Addr} {its : Array Value} {k : Nat} {news : List (Addr × Obj)} {s₁ : Shared}
    (hh : A.handled = none) (F : Fr h₀ L s₁.heap m) (N : News h₀ L s₁.heap news) (hm : (ax, ({ cls := .type "tuple", data := .seq its k } : Obj)) ∈ news) (hsz : its.size ≤ sizeLine) (h0 : 0 < its.size)
    (he : ∀ v ∈ its.toList, ∀ C oC m₂ h tk (E' : Value → Shared → Prop), NsObj oC m₂ → m₂ x = some v → Fr h₀ L h m → News h₀ L h ((C, oC) :: news) → (∀ p ∈ news, p.1 ≠ C) →
      wpAny (model prog w) A (eval elt (compEnvC scope cl C env)) (SetEnd h s₁) E' { s₁ with heap := h, toks := tk })
    (hQ : ∀ D h' tk, Fr h₀ L h' m → News h₀ L h' ((D, setO1 (!w.params.followText "set-order")) :: news) → (∀ p ∈ news, p.1 ≠ D) → Q (.ref D) { s₁ with heap := h', toks := tk }) :
    SetGoal prog w A h₀ L m env elt x scope cl Q (.ref ax) s₁ := ⟨ax, its, news, rfl, hh, F, N, ⟨_, hm, rfl, _, rfl⟩, hsz, h0, he, hQ⟩
/-- the set as it stands behind i turns -/
noncomputable def setAt (led : Bool) : Nat → Obj
  | 0 => setO0 led
  | _ => setO1 led
theorem SetComp_T {elt iter : Expr} {x : Str} {px : Pos} {scope : Scope} {cl : List (Str × Addr)} {pos : Pos} {Q : Value → Shared → Prop} (F₀ : Fr h₀ L s.heap m)
    (hclos : closureFor scope env = pure cl) (hcell : ∀ z ∈ scope.names, z.2 ≠ .cell) (hkind : scope.kind = .function)
    (hnames : ∀ z ∈ scope.names, z.2 = .local → scope.names.lookup z.1 = some .local) (hx : scope.names.lookup x = some .local)
    (h : wpAny (model prog w) A (eval iter env) (SetGoal prog w A h₀ L m env elt x scope cl Q) E s)
    (hs : ∀ x, foldedSetIterable iter env x = pure x := by intro _; rfl) :
    wpAny (model prog w) A (eval (.SetComp elt [⟨.Name x px, iter, [], 0⟩] scope pos) env) Q E s := by
  rw [arm_eval_SetComp]
  show wpAny _ A (comprehension (.SetComp elt [⟨.Name x px, iter, [], 0⟩] scope pos) scope env _ (newSet (.type "set")) false (eval iter env)) _ _ s
  refine wpAny_comprehension_free (use := none) rfl hs hclos hkind hnames (wpAny_mono h (fun xv s₁ h₁ => ?_) fun _ _ e => e)
  obtain ⟨ax, its, news, rfl, hh, F, N, S, hsz, h0, he, hQ⟩ := h₁
  have hl := S.tup N
  have hlt : ax < s₁.heap.objs.size := by obtain ⟨_, e, _⟩ := hl; exact Heap.lt_size e
  refine wpAny_pyIter_tuple hl ?_
  generalize hI : s₁.heap.objs.size = I
  generalize hH1 : s₁.heap.push { cls := .type "tuple_iterator", data := .fields #[.ref ax, .int 0 0] } = H1
  have hH1s : H1.objs.size = I + 1 := by rw [← hH1, Heap.size_push, hI]
  refine newSet_led ?_
  dsimp only
  rw [hH1s]
  generalize hH2 : H1.push (setO0 (!w.params.followText "set-order")) = H2
  have hH2s : H2.objs.size = I + 2 := by rw [← hH2, Heap.size_push, hH1s]
  refine wpAny_newFunctionEnv hcell (by intro y hy; simp at hy) (fun h₁ hns₁ hsb₁ => ?_) hkind
  dsimp only at hns₁ hsb₁ ⊢
  rw [hH2s] at hns₁ hsb₁ ⊢
  generalize hD : I + 1 = D at *
  generalize hC : I + 2 = C at *
  have W := Walks.tuple (prog := prog) (w := w) (A := A) hh I ax (Nat.ne_of_lt (hI ▸ hlt)) its
  have lt1 : ∀ b o, s₁.heap.get? b = some o → b < I := fun b o e => hI ▸ Heap.lt_size e
  have axI : ax < I := hI ▸ hlt
  have hID : I ≠ D := by rw [← hD]; exact Nat.ne_of_lt (Nat.lt_succ_self _)
  have hIC : I ≠ C := by rw [← hC]; exact Nat.ne_of_lt (Nat.lt_succ_of_lt (Nat.lt_succ_self _))
  have hDC : D ≠ C := by rw [← hC, ← hD]; exact Nat.ne_of_lt (Nat.lt_succ_self _)
  have bD : ∀ b, b < I → b ≠ D := fun b hb => by rw [← hD]; exact Nat.ne_of_lt (Nat.lt_succ_of_lt hb)
  have bC : ∀ b, b < I → b ≠ C := fun b hb => by rw [← hC]; exact Nat.ne_of_lt (Nat.lt_succ_of_lt (Nat.lt_succ_of_lt hb))
  have old2 : ∀ b o, s₁.heap.get? b = some o → H2.get? b = some o := fun b o e => hH2 ▸ Heap.get?_push_of_some _ (hH1 ▸ Heap.get?_push_of_some _ e)
  have push2 : ∀ b o, H2.get? b = some o → b ≠ C → h₁.get? b = some o := fun b o e hb => hsb₁.extBut b o hb (Heap.get?_push_of_some _ e)
  have old : ∀ b o, s₁.heap.get? b = some o → h₁.get? b = some o := fun b o e => push2 b o (old2 b o e) (bC b (lt1 b o e))
  have hI1 : h₁.get? I = some { cls := .type "tuple_iterator", data := .fields #[.ref ax, .int 0 0] } := push2 _ _ (hH2 ▸ Heap.get?_push_of_some _ (hH1 ▸ hI ▸ Heap.get?_push_size _ rfl)) hIC
  have hD1 : h₁.get? D = some (setO0 (!w.params.followText "set-order")) := push2 _ _ (by rw [← hH2, ← hH1s]; exact Heap.get?_push_size _ rfl) hDC
  have fresh₀ : ∀ a, I ≤ a → h₀.get? a = none := fun a ha => by
    cases e : h₀.get? a with
    | none => rfl
    | some o' => exact absurd (lt1 _ _ (F.keep a o' e)) (Nat.not_lt.mpr ha)
  have hC₀ : h₀.get? C = none := fresh₀ C (by rw [← hC]; exact Nat.le_add_right _ _)
  have hD₀ : h₀.get? D = none := fresh₀ D (by rw [← hD]; exact Nat.le_add_right _ _)
  have hLI : L < I := hI ▸ F.ns.lt
  have loop : ∀ s₃ : Shared, s₃ = { s₁ with heap := h₁, toks := s₁.toks + ([] : List (Str × Value)).length } →
      codeAny (model prog w) A (.compLoop (.SetComp elt [⟨.Name x px, iter, [], 0⟩] scope pos) 0 (.ref I) (.ref D) (compEnvC scope cl C env))
        (compPost (model prog w) A E none Q (.ref D) C) s₃ := by
    rintro s₃ rfl
    refine codeAny_compLoop_set
      (fun k s' => ∃ h' tk i m', s' = { s₁ with heap := h', toks := tk } ∧ i ≤ its.size ∧ k = its.size + 1 - i ∧ (h'.IsTupleIter I ax i ∧ h'.IsTuple ax its) ∧ (∀ b o, s₁.heap.get? b = some o → h'.get? b = some o) ∧ h'.get? D = some (setAt (!w.params.followText "set-order") i) ∧ h'.Ns C m') ?_ (its.size + 1)
      ⟨h₁, _, 0, _, rfl, Nat.zero_le _, rfl, ⟨⟨_, hI1, rfl, rfl⟩, hl.at fun o e => old _ _ e⟩, old, hD1, hns₁⟩
    rintro k s' ⟨h', tk, i, m', rfl, hi, rfl, hst', keep', hD', hn'⟩
    by_cases hlt : i < its.size
    · refine W.item i _ _ _ hlt hst' fun v h₂ tk₂ hPv hst₂ hk₂ => ?_
      refine wpAny_assign_Name (wpAny_storeName_local (lookup_relabel_local hx) (hn'.at' fun o e => hk₂ _ o (by simpa using Ne.symm hIC) e) (fun h₃ hn₃ hs₃ => ?_) (by simp [compEnvC, relabel, hkind]))
      obtain ⟨oC, heC, hoC⟩ := ns_obj hn₃
      have keep₃ : ∀ b o, s₁.heap.get? b = some o → h₃.get? b = some o := fun b o e => hs₃.extBut b o (bC b (lt1 b o e)) (hk₂ b o (by simpa using Nat.ne_of_lt (lt1 b o e)) (keep' b o e))
      have hD₃ : h₃.get? D = some (setAt (!w.params.followText "set-order") i) := hs₃.extBut _ _ hDC (hk₂ _ _ (by simpa using Ne.symm hID) hD')
      have hst₃ : h₃.IsTupleIter I ax (i + 1) ∧ h₃.IsTuple ax its := W.frame _ _ _ hst₂ fun b hb o e => hs₃.extBut b o (by
        rcases List.mem_cons.mp hb with rfl | hb
        · exact hIC
        · rw [List.mem_singleton.mp hb]; exact bC _ axI) e
      have F₃ : Fr h₀ L h₃ m := F.keeps keep₃
      have N₃ : News h₀ L h₃ ((C, oC) :: news) := fun p hp => by
        rcases List.mem_cons.mp hp with rfl | hp
        · exact ⟨heC, Ne.symm (bC L hLI), hC₀⟩
        · exact ⟨keep₃ _ _ (N p hp).1, (N p hp).2⟩
      refine wpAny_mono (he v (Array.mem_toList_iff.mpr (Array.mem_of_getElem? hPv)) C oC _ h₃ _ _ hoC (by simp) F₃ N₃ (fun p hp => bC _ (lt1 _ _ (N p hp).1))) (fun y s₄ h₄ => ?_) fun _ _ e => e
      obtain ⟨rfl, tk₄, rfl⟩ := h₄
      cases i with
      | zero =>
        refine set_add0 (led := !w.params.followText "set-order") hD₃ fun h₅ hs₅ hD₅ => ?_
        refine ⟨its.size, by omega, h₅, _, 1, _, rfl, by omega, rfl, W.frame _ _ _ hst₃ fun b hb o e => hs₅.extBut b o (by
          rcases List.mem_cons.mp hb with rfl | hb
          · exact hID
          · rw [List.mem_singleton.mp hb]; exact bD _ axI) e, fun b o e => hs₅.extBut b o (bD b (lt1 b o e)) (keep₃ b o e), hD₅, hn₃.sameBut hs₅ (Ne.symm hDC)⟩
      | succ j =>
        refine set_add1 (led := !w.params.followText "set-order") hD₃ ?_
        exact ⟨its.size + 1 - (j + 2), by omega, h₃, _, j + 2, _, rfl, by omega, rfl, hst₃, keep₃, hD₃, hn₃⟩
    · obtain rfl : i = its.size := Nat.le_antisymm hi (Nat.not_lt.mp hlt)
      refine W.done _ _ _ hst' fun h₂ tk₂ hk₂ => ?_
      refine ⟨_, hn'.at' fun o e => hk₂ _ o (by simpa using Ne.symm hIC) e, fun h'' hs'' => ?_⟩
      have keep₂ : ∀ b o, s₁.heap.get? b = some o → h''.get? b = some o := fun b o e => hs''.extBut b o (bC b (lt1 b o e)) (hk₂ b o (by simpa using Nat.ne_of_lt (lt1 b o e)) (keep' b o e))
      refine hQ D h'' _ (F.keeps keep₂) (fun p hp => ?_) fun p hp => bD _ (lt1 _ _ (N p hp).1)
      rcases List.mem_cons.mp hp with rfl | hp
      · refine ⟨hs''.extBut _ _ hDC (hk₂ _ _ (by simpa using Ne.symm hID) ?_), Ne.symm (bD L hLI), hD₀⟩
        rw [hD']
        obtain ⟨j, hj⟩ : ∃ j, its.size = j + 1 := ⟨its.size - 1, by omega⟩
        rw [hj]; rfl
      · exact ⟨keep₂ _ _ (N p hp).1, (N p hp).2⟩
  exact codeAny_compStart_set (loop _ rfl) (W.self 0 _ _ _ ⟨⟨_, hI1, rfl, rfl⟩, hl.at fun o e => old _ _ e⟩ (loop _ rfl))
end
end

example : True := by
  k_with_none
  trivial
section
/-- lists of texts in their order -/
noncomputable def lexLt : List Str → List Str → Bool
  | [], [] => false
  | [], _ :: _ => true
  | _ :: _, [] => false
  | x :: xs, y :: ys => if (x == y) = true then lexLt xs ys else decide (x.cps.toList < y.cps.toList)
noncomputable def sv (xs : List (Str × Tok)) : Array Value := (xs.map fun p => Value.str p.1 p.2).toArray
noncomputable def tx (xs : List (Str × Tok)) : List Str := xs.map (·.1)
theorem sv_get (xs : List (Str × Tok)) (i : Nat) : (sv xs)[i]? = (xs.drop i).head?.map (fun p => Value.str p.1 p.2) := by
  unfold sv
  simp [List.head?_drop]
theorem sv_size (xs : List (Str × Tok)) : (sv xs).size = xs.length := by unfold sv; simp
section
variable {prog : Program} {w : World} {A : Around} {E : Value → Shared → Prop} {s : Shared} {x y : Str} {t u : Tok}
theorem rich_lt_str {Q : Value → Shared → Prop} (h : Q (.bool (decide (x.cps.toList < y.cps.toList))) s) : wpAny (model prog w) A (richCompare .Lt (.str x t) (.str y u)) Q E s := lt_str h
theorem rich_gt_str {Q : Value → Shared → Prop} (h : Q (.bool (decide (y.cps.toList < x.cps.toList))) s) : wpAny (model prog w) A (richCompare .Gt (.str x t) (.str y u)) Q E s :=
  wpAny_richCompare_same (op := .Gt) (T := "str") (typeIs_str s x t) (typeIs_str s y u) PyProof.Rows.slot_str_gt
    (wpAny_call_entry PyProof.Rows.slot_str_gt (typeIs_str s x t) PyProof.Rows.entry_str_gt (show wpAny _ _ (ret (.bool (decide (y.cps.toList < x.cps.toList)))) _ _ s from wpAny_pure ⟨_, rfl, by simp, h⟩) (PyProof.Rows.args_str_gt _ _))
end
open AutoSeq1 (wpAny_loadPart')
theorem lt_loop (a b : Addr) (xs ys : List (Str × Tok)) (n n2 : Nat) : ∀ (ra rb : List (Str × Tok)) (i : Nat), xs.drop i = ra → ys.drop i = rb → i ≤ xs.length → i ≤ ys.length → Meets (Builtin.«list.__eq__.loop» ⟨[.ref a, .ref b, rawInt i, rawInt 0], []⟩)
      (fun _ R s => s.heap.get? a = some { cls := .type "list", dict := none, data := .seq (sv xs) n, slots := #[] } ∧ s.heap.get? b = some { cls := .type "list", dict := none, data := .seq (sv ys) n2, slots := #[] } ∧
        R (.ok (.ret (.bool (lexLt (tx ra) (tx rb))))) s) := by
  intro ra
  induction ra with
  | nil =>
    intro rb i ha hb hi hj prog w A R s h
    obtain ⟨hp, g, d, tk, os⟩ := s; obtain ⟨hl, hm, h⟩ := h
    wp_walk using wpAny_loadPart' hl, wpAny_loadPart' hm
    have e1 : (sv xs)[((i : Nat) : Int).toNat]? = none := by rw [Int.toNat_natCast, sv_get, ha]; rfl
    have z : xs.length = i := by have := congrArg List.length ha; simp at this; omega
    rw [e1]
    cases rb with
    | nil =>
      have e2 : (sv ys)[((i : Nat) : Int).toNat]? = none := by rw [Int.toNat_natCast, sv_get, hb]; rfl
      rw [e2]
      wp_walk using wpAny_loadPart' hl, wpAny_loadPart' hm
      have z2 : ys.length = i := by have := congrArg List.length hb; simp at this; omega
      show R (.ok (.ret (.bool (decide ((sv xs).size < (sv ys).size))))) _
      rw [sv_size, sv_size, z, z2]
      simpa [lexLt, tx] using h
    | cons q r =>
      have e2 : (sv ys)[((i : Nat) : Int).toNat]? = some (.str q.1 q.2) := by rw [Int.toNat_natCast, sv_get, hb]; rfl
      rw [e2]
      wp_walk using wpAny_loadPart' hl, wpAny_loadPart' hm
      have z2 : i < ys.length := by have := congrArg List.length hb; simp at this; omega
      show R (.ok (.ret (.bool (decide ((sv xs).size < (sv ys).size))))) _
      rw [sv_size, sv_size, z, decide_eq_true z2]
      exact h
  | cons p ra ih =>
    intro rb i ha hb hi hj prog w A R s h
    obtain ⟨hp, g, d, tk, os⟩ := s; obtain ⟨hl, hm, h⟩ := h
    wp_walk using wpAny_loadPart' hl, wpAny_loadPart' hm
    have e1 : (sv xs)[((i : Nat) : Int).toNat]? = some (.str p.1 p.2) := by rw [Int.toNat_natCast, sv_get, ha]; rfl
    have z : i < xs.length := by have := congrArg List.length ha; simp at this; omega
    rw [e1]
    cases rb with
    | nil =>
      have e2 : (sv ys)[((i : Nat) : Int).toNat]? = none := by rw [Int.toNat_natCast, sv_get, hb]; rfl
      rw [e2]
      wp_walk using wpAny_loadPart' hl, wpAny_loadPart' hm
      have z2 : ys.length = i := by have := congrArg List.length hb; simp at this; omega
      show R (.ok (.ret (.bool (decide ((sv xs).size < (sv ys).size))))) _
      rw [sv_size, sv_size, z2, decide_eq_false (by omega)]
      exact h
    | cons q rb =>
      have e2 : (sv ys)[((i : Nat) : Int).toNat]? = some (.str q.1 q.2) := by rw [Int.toNat_natCast, sv_get, hb]; rfl
      have z2 : i < ys.length := by have := congrArg List.length hb; simp at this; omega
      rw [e2]
      refine wpAny_bind (eqBool_str ?_)
      have hc : ((i : Int) + 1) = ((i + 1 : Nat) : Int) := by push_cast; rfl
      cases hq : (p.1 == q.1) with
      | true =>
        wp_walk
        rw [hc]
        have h' : R (.ok (.ret (.bool (lexLt (tx ra) (tx rb))))) { heap := hp, gens := g, drawn := d, toks := tk, os := os } := by
          have : lexLt (tx (p :: ra)) (tx (q :: rb)) = lexLt (tx ra) (tx rb) := by show (if (p.1 == q.1) = true then _ else _) = _; rw [hq, if_pos rfl]; rfl
          rw [this] at h; exact h
        exact ⟨plainId_quiet MeetsSeq3.plain_eq_loop _, codeAny_builtin MeetsSeq3.entry_eq_loop (by
          rw [Around.under_plainId MeetsSeq3.plain_eq_loop _]
          exact ih rb (i + 1) (by rw [← List.drop_drop, ha]; rfl) (by rw [← List.drop_drop, hb]; rfl) z z2 prog w A R _ ⟨hl, hm, h'⟩)⟩
      | false =>
        wp_walk using wpAny_loadPart' hl, wpAny_loadPart' hm
        rw [e1, e2]
        refine wpAny_bind (rich_lt_str ?_)
        have : lexLt (tx (p :: ra)) (tx (q :: rb)) = decide (p.1.cps.toList < q.1.cps.toList) := by show (if (p.1 == q.1) = true then _ else _) = _; rw [hq]; rfl
        rw [this] at h
        exact wpAny_pure h
theorem gt_loop (a b : Addr) (xs ys : List (Str × Tok)) (n n2 : Nat) : ∀ (ra rb : List (Str × Tok)) (i : Nat), xs.drop i = ra → ys.drop i = rb → i ≤ xs.length → i ≤ ys.length → Meets (Builtin.«list.__eq__.loop» ⟨[.ref a, .ref b, rawInt i, rawInt 4], []⟩)
      (fun _ R s => s.heap.get? a = some { cls := .type "list", dict := none, data := .seq (sv xs) n, slots := #[] } ∧ s.heap.get? b = some { cls := .type "list", dict := none, data := .seq (sv ys) n2, slots := #[] } ∧
        R (.ok (.ret (.bool (lexLt (tx rb) (tx ra))))) s) := by
  intro ra
  induction ra with
  | nil =>
    intro rb i ha hb hi hj prog w A R s h
    obtain ⟨hp, g, d, tk, os⟩ := s; obtain ⟨hl, hm, h⟩ := h
    wp_walk using wpAny_loadPart' hl, wpAny_loadPart' hm
    have e1 : (sv xs)[((i : Nat) : Int).toNat]? = none := by rw [Int.toNat_natCast, sv_get, ha]; rfl
    have z : xs.length = i := by have := congrArg List.length ha; simp at this; omega
    rw [e1]
    cases rb with
    | nil =>
      have e2 : (sv ys)[((i : Nat) : Int).toNat]? = none := by rw [Int.toNat_natCast, sv_get, hb]; rfl
      rw [e2]
      wp_walk using wpAny_loadPart' hl, wpAny_loadPart' hm
      have z2 : ys.length = i := by have := congrArg List.length hb; simp at this; omega
      show R (.ok (.ret (.bool (decide ((sv xs).size > (sv ys).size))))) _
      rw [sv_size, sv_size, z, z2]
      simpa [lexLt, tx] using h
    | cons q r =>
      have e2 : (sv ys)[((i : Nat) : Int).toNat]? = some (.str q.1 q.2) := by rw [Int.toNat_natCast, sv_get, hb]; rfl
      rw [e2]
      wp_walk using wpAny_loadPart' hl, wpAny_loadPart' hm
      have z2 : i < ys.length := by have := congrArg List.length hb; simp at this; omega
      show R (.ok (.ret (.bool (decide ((sv xs).size > (sv ys).size))))) _
      rw [sv_size, sv_size, z, decide_eq_false (by omega)]
      exact h
  | cons p ra ih =>
    intro rb i ha hb hi hj prog w A R s h
    obtain ⟨hp, g, d, tk, os⟩ := s; obtain ⟨hl, hm, h⟩ := h
    wp_walk using wpAny_loadPart' hl, wpAny_loadPart' hm
    have e1 : (sv xs)[((i : Nat) : Int).toNat]? = some (.str p.1 p.2) := by rw [Int.toNat_natCast, sv_get, ha]; rfl
    have z : i < xs.length := by have := congrArg List.length ha; simp at this; omega
    rw [e1]
    cases rb with
    | nil =>
      have e2 : (sv ys)[((i : Nat) : Int).toNat]? = none := by rw [Int.toNat_natCast, sv_get, hb]; rfl
      rw [e2]
      wp_walk using wpAny_loadPart' hl, wpAny_loadPart' hm
      have z2 : ys.length = i := by have := congrArg List.length hb; simp at this; omega
      show R (.ok (.ret (.bool (decide ((sv xs).size > (sv ys).size))))) _
      rw [sv_size, sv_size, z2, decide_eq_true (by omega)]
      exact h
    | cons q rb =>
      have e2 : (sv ys)[((i : Nat) : Int).toNat]? = some (.str q.1 q.2) := by rw [Int.toNat_natCast, sv_get, hb]; rfl
      have z2 : i < ys.length := by have := congrArg List.length hb; simp at this; omega
      rw [e2]
      refine wpAny_bind (eqBool_str ?_)
      have hc : ((i : Int) + 1) = ((i + 1 : Nat) : Int) := by push_cast; rfl
      have hsy : (q.1 == p.1) = (p.1 == q.1) := by rw [Bool.eq_iff_iff, beq_iff_eq, beq_iff_eq]; exact eq_comm
      cases hq : (p.1 == q.1) with
      | true =>
        have hqs := hsy.trans hq
        wp_walk
        rw [hc]
        have h' : R (.ok (.ret (.bool (lexLt (tx rb) (tx ra))))) { heap := hp, gens := g, drawn := d, toks := tk, os := os } := by
          have : lexLt (tx (q :: rb)) (tx (p :: ra)) = lexLt (tx rb) (tx ra) := by show (if (q.1 == p.1) = true then _ else _) = _; rw [hqs, if_pos rfl]; rfl
          rw [this] at h; exact h
        exact ⟨plainId_quiet MeetsSeq3.plain_eq_loop _, codeAny_builtin MeetsSeq3.entry_eq_loop (by
          rw [Around.under_plainId MeetsSeq3.plain_eq_loop _]
          exact ih rb (i + 1) (by rw [← List.drop_drop, ha]; rfl) (by rw [← List.drop_drop, hb]; rfl) z z2 prog w A R _ ⟨hl, hm, h'⟩)⟩
      | false =>
        have hqs := hsy.trans hq
        wp_walk using wpAny_loadPart' hl, wpAny_loadPart' hm
        rw [e1, e2]
        refine wpAny_bind (rich_gt_str ?_)
        have : lexLt (tx (q :: rb)) (tx (p :: ra)) = decide (q.1.cps.toList < p.1.cps.toList) := by show (if (q.1 == p.1) = true then _ else _) = _; rw [hqs]; rfl
        rw [this] at h
        exact wpAny_pure h

section
variable {prog : Program} {w : World} {A : Around} {E : Value → Shared → Prop} {s : Shared} {a b : Addr} {xs ys : List (Str × Tok)} {n n2 : Nat} {Q : Value → Shared → Prop}
theorem list_lt_meets : Meets (Builtin.«list.__lt__» ⟨[.ref a, .ref b], []⟩)
      (fun _ R s => s.heap.get? a = some { cls := .type "list", dict := none, data := .seq (sv xs) n, slots := #[] } ∧ s.heap.get? b = some { cls := .type "list", dict := none, data := .seq (sv ys) n2, slots := #[] } ∧
        R (.ok (.ret (.bool (lexLt (tx xs) (tx ys))))) s) := by
  intro prog w A R s h
  obtain ⟨hp, g, d, tk, os⟩ := s; obtain ⟨hl, hb, h⟩ := h
  have f3 := AutoSeq1.sub_list_list
  wp_walk using wpAny_loadPart' hl, wpAny_loadPart' hb
  exact ⟨plainId_quiet MeetsSeq3.plain_eq_loop _, codeAny_builtin MeetsSeq3.entry_eq_loop (by
    rw [Around.under_plainId MeetsSeq3.plain_eq_loop _]
    exact lt_loop a b xs ys n n2 xs ys 0 rfl rfl (Nat.zero_le _) (Nat.zero_le _) prog w A R _ ⟨hl, hb, h⟩)⟩
theorem list_gt_meets : Meets (Builtin.«list.__gt__» ⟨[.ref a, .ref b], []⟩)
      (fun _ R s => s.heap.get? a = some { cls := .type "list", dict := none, data := .seq (sv xs) n, slots := #[] } ∧ s.heap.get? b = some { cls := .type "list", dict := none, data := .seq (sv ys) n2, slots := #[] } ∧
        R (.ok (.ret (.bool (lexLt (tx ys) (tx xs))))) s) := by
  intro prog w A R s h
  obtain ⟨hp, g, d, tk, os⟩ := s; obtain ⟨hl, hb, h⟩ := h
  have f3 := AutoSeq1.sub_list_list
  wp_walk using wpAny_loadPart' hl, wpAny_loadPart' hb
  exact ⟨plainId_quiet MeetsSeq3.plain_eq_loop _, codeAny_builtin MeetsSeq3.entry_eq_loop (by
    rw [Around.under_plainId MeetsSeq3.plain_eq_loop _]
    exact gt_loop a b xs ys n n2 xs ys 0 rfl rfl (Nat.zero_le _) (Nat.zero_le _) prog w A R _ ⟨hl, hb, h⟩)⟩
theorem rich_lt_lists (ha : s.heap.get? a = some { cls := .type "list", dict := none, data := .seq (sv xs) n, slots := #[] }) (hb : s.heap.get? b = some { cls := .type "list", dict := none, data := .seq (sv ys) n2, slots := #[] }) (hu : A.units < cLine)
    (h : Q (.bool (lexLt (tx xs) (tx ys))) s) : wpAny (model prog w) A (richCompare .Lt (.ref a) (.ref b)) Q E s :=
  richCompare_meets_room (op := .Lt) ⟨_, ha, rfl⟩ ⟨_, hb, rfl⟩ F.slot_list_lt F.entry_list_lt (F.args_list_lt_2 _ _) list_lt_meets ⟨ha, hb, ⟨(fun x => nomatch x), h⟩⟩ hu
theorem rich_gt_lists (ha : s.heap.get? a = some { cls := .type "list", dict := none, data := .seq (sv xs) n, slots := #[] }) (hb : s.heap.get? b = some { cls := .type "list", dict := none, data := .seq (sv ys) n2, slots := #[] }) (hu : A.units < cLine)
    (h : Q (.bool (lexLt (tx ys) (tx xs))) s) : wpAny (model prog w) A (richCompare .Gt (.ref a) (.ref b)) Q E s :=
  richCompare_meets_room (op := .Gt) ⟨_, ha, rfl⟩ ⟨_, hb, rfl⟩ F.slot_list_gt F.entry_list_gt (F.args_list_gt_2 _ _) list_gt_meets ⟨ha, hb, ⟨(fun x => nomatch x), h⟩⟩ hu
end
/-- what is compared holds its answer at every heap that keeps h0 but for two objects -/
noncomputable def CmpIn (prog : Program) (w : World) (A : Around) (op : CmpOp) (its : Array Value) (bt : Nat → Nat → Bool) (h0 : Heap) (I S : Addr) : Prop :=
  ∀ (i j : Nat) (vi vj : Value) (s : Shared) (Q E : Value → Shared → Prop), its[i]? = some vi → its[j]? = some vj → (∀ b o, b ≠ I → b ≠ S → h0.get? b = some o → s.heap.get? b = some o) → Q (.bool (bt i j)) s → wpAny (model prog w) A (richCompare op vi vj) Q E s
noncomputable def bestAt (bt : Nat → Nat → Bool) : Nat → Nat
  | 0 => 0
  | k + 1 => if bt (k + 1) (bestAt bt k) = true then k + 1 else bestAt bt k

section
variable {prog : Program} {w : World} {A : Around} {R : Result → Shared → Prop} {s₀ : Shared} {h0 : Heap} {I S l : Addr} {its : Array Value} {bt : Nat → Nat → Bool}
theorem min_go (hh : A.handled = none) (hlI : l ≠ I) (hSI : S ≠ I) (hSl : S ≠ l) (hcmp : CmpIn prog w A.in1 .Lt its bt h0 I S)
    (hR : ∀ h' tk v, its[bestAt bt (its.size - 1)]? = some v → (∀ b o, b ≠ I → b ≠ S → h0.get? b = some o → h'.get? b = some o) → R (.ok (.ret v)) { s₀ with heap := h', toks := tk }) :
    ∀ (k j : Nat) (s : Shared) (vb : Value) (c : Nat), (∃ h tk, s = { s₀ with heap := h, toks := tk }) → its.size - (j + 1) = k → j + 1 ≤ its.size → s.heap.IsListIter I l (j + 1) → s.heap.IsList l its → its[bestAt bt j]? = some vb →
    s.heap.get? S = some { cls := .type "list", dict := none, data := .seq #[vb, vb] c, slots := #[] } → (∀ b o, b ≠ I → b ≠ S → h0.get? b = some o → s.heap.get? b = some o) →
    codeAny (model prog w) A (.builtin "min.loop" ⟨[.ref I, .none, .ref S], []⟩) R s := by
  have W := Walks.list (prog := prog) (w := w) (A := A.in1) hh I l hlI its
  have hname : (toString "min" ++ toString ".loop" : String) = "min.loop" := by decide
  intro k
  induction k with
  | zero =>
    rintro j _ vb c ⟨hp₁, tk₁, rfl⟩ hk hj hit hl hb hS kp
    refine codeAny_builtin F.entry_min_loop ?_
    rw [Around.under_plainId F.plain_min_loop _]
    show wpAny _ A.in1 (seqItems? (.ref S) >>= _) _ _ _
    refine wpAny_bind (wpAny_seqItems hS rfl ?_)
    show wpAny _ A.in1 (tryCatch (pyNext (.ref I)) _ >>= _) _ _ _
    refine wpAny_bind (wpAny_tryCatch (W.done _ _ _ ⟨(show its.size = j + 1 by omega) ▸ hit, hl⟩ fun h' tk hk' => ?_))
    have hS' := hk' S _ (by simpa using hSI) hS
    show wpAny _ A.in1 (updateSeq S (fun _ => #[]) >>= _) _ _ _
    refine wpAny_bind ?_
    refine wpAny_updateSeq hS' rfl (wpAny_bind (wpAny_letGo (wpAny_pure ?_)))
    refine hR _ tk vb (by rw [show its.size - 1 = j by omega]; exact hb) (fun b o hbI hbS e => ?_)
    exact (Heap.get?_update_other _ _ (Ne.symm hbS)).trans (hk' b o (by simpa using hbI) (kp b o hbI hbS e))
  | succ k ih =>
    rintro j _ vb c ⟨hp₁, tk₁, rfl⟩ hk hj hit hl hb hS kp
    have hlt : j + 1 < its.size := by omega
    refine codeAny_builtin F.entry_min_loop ?_
    rw [Around.under_plainId F.plain_min_loop _]
    show wpAny _ A.in1 (seqItems? (.ref S) >>= _) _ _ _
    refine wpAny_bind (wpAny_seqItems hS rfl ?_)
    show wpAny _ A.in1 (tryCatch (pyNext (.ref I)) _ >>= _) _ _ _
    refine wpAny_bind (wpAny_tryCatch (W.item (j + 1) _ _ _ hlt ⟨hit, hl⟩ fun v h' tk hP hst' hk' => ?_))
    have hS' := hk' S _ (by simpa using hSI) hS
    have kp' : ∀ b o, b ≠ I → b ≠ S → h0.get? b = some o → h'.get? b = some o := fun b o h1 h2 e => hk' b o (by simpa using h1) (kp b o h1 h2 e)
    show wpAny _ A.in1 (tryCatch (holding [v, v] (richCompare .Lt v vb >>= _)) _ >>= _) _ _ _
    refine wpAny_bind (wpAny_tryCatch (wpAny_holding (wpAny_bind (hcmp (j + 1) (bestAt bt j) v vb _ _ _ hP hb kp' ?_))))
    refine wpAny_bind (wpAny_holding (wpAny_truthy_bool ?_))
    refine wpAny_bind (wpAny_letGo (wpAny_pure ?_))
    cases hq : bt (j + 1) (bestAt bt j) with
    | true =>
      simp only [if_true]
      refine wpAny_bind ?_
      refine wpAny_updateSeq hS' rfl (wpAny_bind (wpAny_letGo ?_))
      rw [hname]
      refine wpAny_pure ⟨plainId_quiet F.plain_min_loop _, ih (j + 1) _ v _ ⟨_, _, rfl⟩ (by omega) hlt (hst'.1.at fun o e => (Heap.get?_update_other _ _ hSI).trans e) (hst'.2.at fun o e => (Heap.get?_update_other _ _ hSl).trans e) (by simp only [bestAt, hq, if_true]; exact hP) (Heap.get?_update_self _ hS' rfl)
        fun b o h1 h2 e => (Heap.get?_update_other _ _ (Ne.symm h2)).trans (kp' b o h1 h2 e)⟩
    | false =>
      simp only [Bool.false_eq_true, if_false]
      refine wpAny_bind (wpAny_letGo ?_)
      rw [hname]
      exact wpAny_pure ⟨plainId_quiet F.plain_min_loop _, ih (j + 1) _ vb c ⟨_, _, rfl⟩ (by omega) hlt hst'.1 hst'.2 (by simp only [bestAt, hq, Bool.false_eq_true, if_false]; exact hb) hS' kp'⟩
end
section
variable {prog : Program} {w : World} {A : Around} {E : Value → Shared → Prop} {s : Shared} {l : Addr} {its : Array Value} {bt : Nat → Nat → Bool} {Q : Value → Shared → Prop}
theorem min_list (hh : A.handled = none) (hl : s.heap.IsList l its) (h0 : 0 < its.size) (hcmp : CmpIn prog w A.in1 .Lt its bt s.heap s.heap.objs.size (s.heap.objs.size + 1))
    (hQ : ∀ h' tk v, its[bestAt bt (its.size - 1)]? = some v → (∀ b o, s.heap.get? b = some o → h'.get? b = some o) → Q v { s with heap := h', toks := tk }) :
    wpAny (model prog w) A (call (.builtin "min") [.ref l]) Q E s := by
  have hname : (toString "min" ++ toString ".loop" : String) = "min.loop" := by decide
  have hll : l < s.heap.objs.size := by obtain ⟨_, e, _⟩ := hl; exact Heap.lt_size e
  refine call_function_tree F.kind_min F.plain_min F.entry_min (F.args_min1 _) ?_
  show wpAny _ A.in1 (Builtin.Builtins.bindParams "min" ["key", "default"] 0 ⟨[], []⟩ >>= _) _ _ s
  refine wpAny_bind (wpAny_of_eq (show Builtin.Builtins.bindParams "min" ["key", "default"] 0 ⟨[], []⟩ = pure [none, none] from rfl) ?_)
  refine wpAny_bind (wpAny_pure ?_)
  refine wpAny_bind (wpAny_pyIter_list hl ?_)
  refine wpAny_bind (wpAny_newObj_type ?_)
  generalize hI : s.heap.objs.size = I at *
  have hl1 : ∀ b o, s.heap.get? b = some o → b < I := fun b o e => hI ▸ Heap.lt_size e
  generalize hH1 : s.heap.push { cls := .type "list_iterator", data := .fields #[.ref l, .int 0 0] } = H1
  have hH1s : H1.objs.size = I + 1 := by rw [← hH1, Heap.size_push, hI]
  dsimp only
  rw [hH1s]
  have it1 : H1.get? I = some { cls := .type "list_iterator", data := .fields #[.ref l, .int 0 0] } := hH1 ▸ hI ▸ Heap.get?_push_size _ rfl
  have up1 : ∀ b o, s.heap.get? b = some o → H1.get? b = some o := fun b o e => hH1 ▸ Heap.get?_push_of_some _ e
  have W := Walks.list (prog := prog) (w := w) (A := A.in1) hh I l (Nat.ne_of_lt hll) its
  rw [hname]
  refine wpAny_pure ⟨plainId_quiet F.plain_min_loop _, codeAny_builtin F.entry_min_loop ?_⟩
  rw [Around.under_plainId F.plain_min_loop _]
  generalize hH2 : H1.push { cls := .type "list", data := .seq ([] : List Value).toArray } = H2
  have hS2 : H2.get? (I + 1) = some { cls := .type "list", data := .seq ([] : List Value).toArray } := by rw [← hH2, ← hH1s]; exact Heap.get?_push_size _ rfl
  have up2 : ∀ b o, H1.get? b = some o → H2.get? b = some o := fun b o e => hH2 ▸ Heap.get?_push_of_some _ e
  have hSI : I + 1 ≠ I := Nat.succ_ne_self I
  show wpAny _ A.in1 (seqItems? (.ref (I + 1)) >>= _) _ _ _
  refine wpAny_bind (wpAny_seqItems hS2 rfl ?_)
  show wpAny _ A.in1 (tryCatch (pyNext (.ref I)) _ >>= _) _ _ _
  refine wpAny_bind (wpAny_tryCatch (W.item 0 _ _ _ h0 ⟨⟨_, up2 _ _ it1, rfl, rfl⟩, hl.at fun o e => up2 _ _ (up1 _ _ e)⟩ fun v h' tk hP hst' hk' => ?_))
  have hS' := hk' (I + 1) _ (by simp) hS2
  have kp' : ∀ b o, s.heap.get? b = some o → h'.get? b = some o := fun b o e => hk' b o (by simpa using Nat.ne_of_lt (hl1 b o e)) (up2 _ _ (up1 _ _ e))
  show wpAny _ A.in1 (updateSeq (I + 1) (fun _ => #[v, v]) >>= _) _ _ _
  refine wpAny_bind ?_
  refine wpAny_updateSeq hS' rfl ?_
  rw [hname]
  refine wpAny_pure ⟨plainId_quiet F.plain_min_loop _, min_go (s₀ := s) (h0 := s.heap) hh (Nat.ne_of_lt hll) hSI (Nat.ne_of_gt (Nat.lt_succ_of_lt hll)) hcmp (fun h'' tk'' v'' e'' k'' => ?_) _ 0 _ v _ ⟨_, _, rfl⟩ rfl h0 (hst'.1.at fun o e => (Heap.get?_update_other _ _ hSI).trans e)
    (hst'.2.at fun o e => (Heap.get?_update_other _ _ (Nat.ne_of_gt (Nat.lt_succ_of_lt hll))).trans e) hP (Heap.get?_update_self _ hS' rfl) fun b o h1 h2 e => (Heap.get?_update_other _ _ (Ne.symm h2)).trans (kp' b o e)⟩
  exact hQ h'' tk'' v'' e'' (fun b o e => k'' b o (Nat.ne_of_lt (hl1 b o e)) (Nat.ne_of_lt (Nat.lt_succ_of_lt (hl1 b o e))) e)
end

section
variable {prog : Program} {w : World} {A : Around} {R : Result → Shared → Prop} {s₀ : Shared} {h0 : Heap} {I S l : Addr} {its : Array Value} {bt : Nat → Nat → Bool}
theorem max_go (hh : A.handled = none) (hlI : l ≠ I) (hSI : S ≠ I) (hSl : S ≠ l) (hcmp : CmpIn prog w A.in1 .Gt its bt h0 I S)
    (hR : ∀ h' tk v, its[bestAt bt (its.size - 1)]? = some v → (∀ b o, b ≠ I → b ≠ S → h0.get? b = some o → h'.get? b = some o) → R (.ok (.ret v)) { s₀ with heap := h', toks := tk }) :
    ∀ (k j : Nat) (s : Shared) (vb : Value) (c : Nat), (∃ h tk, s = { s₀ with heap := h, toks := tk }) → its.size - (j + 1) = k → j + 1 ≤ its.size → s.heap.IsListIter I l (j + 1) → s.heap.IsList l its → its[bestAt bt j]? = some vb →
    s.heap.get? S = some { cls := .type "list", dict := none, data := .seq #[vb, vb] c, slots := #[] } → (∀ b o, b ≠ I → b ≠ S → h0.get? b = some o → s.heap.get? b = some o) →
    codeAny (model prog w) A (.builtin "max.loop" ⟨[.ref I, .none, .ref S], []⟩) R s := by
  have W := Walks.list (prog := prog) (w := w) (A := A.in1) hh I l hlI its
  have hname : (toString "max" ++ toString ".loop" : String) = "max.loop" := by decide
  intro k
  induction k with
  | zero =>
    rintro j _ vb c ⟨hp₁, tk₁, rfl⟩ hk hj hit hl hb hS kp
    refine codeAny_builtin F.entry_max_loop ?_
    rw [Around.under_plainId F.plain_max_loop _]
    show wpAny _ A.in1 (seqItems? (.ref S) >>= _) _ _ _
    refine wpAny_bind (wpAny_seqItems hS rfl ?_)
    show wpAny _ A.in1 (tryCatch (pyNext (.ref I)) _ >>= _) _ _ _
    refine wpAny_bind (wpAny_tryCatch (W.done _ _ _ ⟨(show its.size = j + 1 by omega) ▸ hit, hl⟩ fun h' tk hk' => ?_))
    have hS' := hk' S _ (by simpa using hSI) hS
    show wpAny _ A.in1 (updateSeq S (fun _ => #[]) >>= _) _ _ _
    refine wpAny_bind ?_
    refine wpAny_updateSeq hS' rfl (wpAny_bind (wpAny_letGo (wpAny_pure ?_)))
    refine hR _ tk vb (by rw [show its.size - 1 = j by omega]; exact hb) (fun b o hbI hbS e => ?_)
    exact (Heap.get?_update_other _ _ (Ne.symm hbS)).trans (hk' b o (by simpa using hbI) (kp b o hbI hbS e))
  | succ k ih =>
    rintro j _ vb c ⟨hp₁, tk₁, rfl⟩ hk hj hit hl hb hS kp
    have hlt : j + 1 < its.size := by omega
    refine codeAny_builtin F.entry_max_loop ?_
    rw [Around.under_plainId F.plain_max_loop _]
    show wpAny _ A.in1 (seqItems? (.ref S) >>= _) _ _ _
    refine wpAny_bind (wpAny_seqItems hS rfl ?_)
    show wpAny _ A.in1 (tryCatch (pyNext (.ref I)) _ >>= _) _ _ _
    refine wpAny_bind (wpAny_tryCatch (W.item (j + 1) _ _ _ hlt ⟨hit, hl⟩ fun v h' tk hP hst' hk' => ?_))
    have hS' := hk' S _ (by simpa using hSI) hS
    have kp' : ∀ b o, b ≠ I → b ≠ S → h0.get? b = some o → h'.get? b = some o := fun b o h1 h2 e => hk' b o (by simpa using h1) (kp b o h1 h2 e)
    show wpAny _ A.in1 (tryCatch (holding [v, v] (richCompare .Gt v vb >>= _)) _ >>= _) _ _ _
    refine wpAny_bind (wpAny_tryCatch (wpAny_holding (wpAny_bind (hcmp (j + 1) (bestAt bt j) v vb _ _ _ hP hb kp' ?_))))
    refine wpAny_bind (wpAny_holding (wpAny_truthy_bool ?_))
    refine wpAny_bind (wpAny_letGo (wpAny_pure ?_))
    cases hq : bt (j + 1) (bestAt bt j) with
    | true =>
      simp only [if_true]
      refine wpAny_bind ?_
      refine wpAny_updateSeq hS' rfl (wpAny_bind (wpAny_letGo ?_))
      rw [hname]
      refine wpAny_pure ⟨plainId_quiet F.plain_max_loop _, ih (j + 1) _ v _ ⟨_, _, rfl⟩ (by omega) hlt (hst'.1.at fun o e => (Heap.get?_update_other _ _ hSI).trans e) (hst'.2.at fun o e => (Heap.get?_update_other _ _ hSl).trans e) (by simp only [bestAt, hq, if_true]; exact hP) (Heap.get?_update_self _ hS' rfl)
        fun b o h1 h2 e => (Heap.get?_update_other _ _ (Ne.symm h2)).trans (kp' b o h1 h2 e)⟩
    | false =>
      simp only [Bool.false_eq_true, if_false]
      refine wpAny_bind (wpAny_letGo ?_)
      rw [hname]
      exact wpAny_pure ⟨plainId_quiet F.plain_max_loop _, ih (j + 1) _ vb c ⟨_, _, rfl⟩ (by omega) hlt hst'.1 hst'.2 (by simp only [bestAt, hq, Bool.false_eq_true, if_false]; exact hb) hS' kp'⟩
end
section
variable {prog : Program} {w : World} {A : Around} {E : Value → Shared → Prop} {s : Shared} {l : Addr} {its : Array Value} {bt : Nat → Nat → Bool} {Q : Value → Shared → Prop}
theorem max_list (hh : A.handled = none) (hl : s.heap.IsList l its) (h0 : 0 < its.size) (hcmp : CmpIn prog w A.in1 .Gt its bt s.heap s.heap.objs.size (s.heap.objs.size + 1))
    (hQ : ∀ h' tk v, its[bestAt bt (its.size - 1)]? = some v → (∀ b o, s.heap.get? b = some o → h'.get? b = some o) → Q v { s with heap := h', toks := tk }) :
    wpAny (model prog w) A (call (.builtin "max") [.ref l]) Q E s := by
  have hname : (toString "max" ++ toString ".loop" : String) = "max.loop" := by decide
  have hll : l < s.heap.objs.size := by obtain ⟨_, e, _⟩ := hl; exact Heap.lt_size e
  refine call_function_tree F.kind_max F.plain_max F.entry_max (F.args_max1 _) ?_
  show wpAny _ A.in1 (Builtin.Builtins.bindParams "max" ["key", "default"] 0 ⟨[], []⟩ >>= _) _ _ s
  refine wpAny_bind (wpAny_of_eq (show Builtin.Builtins.bindParams "max" ["key", "default"] 0 ⟨[], []⟩ = pure [none, none] from rfl) ?_)
  refine wpAny_bind (wpAny_pure ?_)
  refine wpAny_bind (wpAny_pyIter_list hl ?_)
  refine wpAny_bind (wpAny_newObj_type ?_)
  generalize hI : s.heap.objs.size = I at *
  have hl1 : ∀ b o, s.heap.get? b = some o → b < I := fun b o e => hI ▸ Heap.lt_size e
  generalize hH1 : s.heap.push { cls := .type "list_iterator", data := .fields #[.ref l, .int 0 0] } = H1
  have hH1s : H1.objs.size = I + 1 := by rw [← hH1, Heap.size_push, hI]
  dsimp only
  rw [hH1s]
  have it1 : H1.get? I = some { cls := .type "list_iterator", data := .fields #[.ref l, .int 0 0] } := hH1 ▸ hI ▸ Heap.get?_push_size _ rfl
  have up1 : ∀ b o, s.heap.get? b = some o → H1.get? b = some o := fun b o e => hH1 ▸ Heap.get?_push_of_some _ e
  have W := Walks.list (prog := prog) (w := w) (A := A.in1) hh I l (Nat.ne_of_lt hll) its
  rw [hname]
  refine wpAny_pure ⟨plainId_quiet F.plain_max_loop _, codeAny_builtin F.entry_max_loop ?_⟩
  rw [Around.under_plainId F.plain_max_loop _]
  generalize hH2 : H1.push { cls := .type "list", data := .seq ([] : List Value).toArray } = H2
  have hS2 : H2.get? (I + 1) = some { cls := .type "list", data := .seq ([] : List Value).toArray } := by rw [← hH2, ← hH1s]; exact Heap.get?_push_size _ rfl
  have up2 : ∀ b o, H1.get? b = some o → H2.get? b = some o := fun b o e => hH2 ▸ Heap.get?_push_of_some _ e
  have hSI : I + 1 ≠ I := Nat.succ_ne_self I
  show wpAny _ A.in1 (seqItems? (.ref (I + 1)) >>= _) _ _ _
  refine wpAny_bind (wpAny_seqItems hS2 rfl ?_)
  show wpAny _ A.in1 (tryCatch (pyNext (.ref I)) _ >>= _) _ _ _
  refine wpAny_bind (wpAny_tryCatch (W.item 0 _ _ _ h0 ⟨⟨_, up2 _ _ it1, rfl, rfl⟩, hl.at fun o e => up2 _ _ (up1 _ _ e)⟩ fun v h' tk hP hst' hk' => ?_))
  have hS' := hk' (I + 1) _ (by simp) hS2
  have kp' : ∀ b o, s.heap.get? b = some o → h'.get? b = some o := fun b o e => hk' b o (by simpa using Nat.ne_of_lt (hl1 b o e)) (up2 _ _ (up1 _ _ e))
  show wpAny _ A.in1 (updateSeq (I + 1) (fun _ => #[v, v]) >>= _) _ _ _
  refine wpAny_bind ?_
  refine wpAny_updateSeq hS' rfl ?_
  rw [hname]
  refine wpAny_pure ⟨plainId_quiet F.plain_max_loop _, max_go (s₀ := s) (h0 := s.heap) hh (Nat.ne_of_lt hll) hSI (Nat.ne_of_gt (Nat.lt_succ_of_lt hll)) hcmp (fun h'' tk'' v'' e'' k'' => ?_) _ 0 _ v _ ⟨_, _, rfl⟩ rfl h0 (hst'.1.at fun o e => (Heap.get?_update_other _ _ hSI).trans e)
    (hst'.2.at fun o e => (Heap.get?_update_other _ _ (Nat.ne_of_gt (Nat.lt_succ_of_lt hll))).trans e) hP (Heap.get?_update_self _ hS' rfl) fun b o h1 h2 e => (Heap.get?_update_other _ _ (Ne.symm h2)).trans (kp' b o e)⟩
  exact hQ h'' tk'' v'' e'' (fun b o e => k'' b o (Nat.ne_of_lt (hl1 b o e)) (Nat.ne_of_lt (Nat.lt_succ_of_lt (hl1 b o e))) e)
end
end
section
variable {prog : Program} {w : World} {A : Around} {E : Value → Shared → Prop} {s : Shared} {h₀ : Heap} {L l la lb lc : Addr} {m : Str → Option Value} {news : List (Addr × Obj)} {xs ys zs : List (Str × Tok)} {n na nb nc : Nat} {Q : Value → Shared → Prop}
noncomputable abbrev txObj (xs : List (Str × Tok)) (n : Nat) : Obj := { cls := .type "list", dict := none, data := .seq (sv xs) n, slots := #[] }
noncomputable abbrev rfObj (ls : List Addr) (n : Nat) : Obj := { cls := .type "list", dict := none, data := .seq (ls.map Value.ref).toArray n, slots := #[] }
theorem fr_keep {h₀ h h' : Heap} {L : Addr} {m : Str → Option Value} (F : Fr h₀ L h m) (k : ∀ b o, h.get? b = some o → h'.get? b = some o) : Fr h₀ L h' m := ⟨F.ns.keeps k, fun b o e => k b o (F.keep b o e), F.above⟩
theorem news_keep {h₀ h h' : Heap} {L : Addr} {news : List (Addr × Obj)} (N : News h₀ L h news) (k : ∀ b o, h.get? b = some o → h'.get? b = some o) : News h₀ L h' news :=
  fun q hq => ⟨k _ _ (N q hq).1, (N q hq).2⟩
noncomputable def lexBt (yy : List (List (Str × Tok))) (i j : Nat) : Bool := lexLt (tx (yy.getD i [])) (tx (yy.getD j []))
theorem lt_gone {h : Heap} {b : Addr} {o : Obj} (e : h.get? b = some o) : b ≠ h.objs.size ∧ b ≠ h.objs.size + 1 := by
  have := Heap.lt_size e
  exact ⟨Nat.ne_of_lt this, Nat.ne_of_lt (Nat.lt_succ_of_lt this)⟩
/-- the lists lie there -/
noncomputable def LyAt (h : Heap) : List Addr → List (List (Str × Tok)) → Prop
  | [], [] => True
  | a :: as, y :: ys => (∃ n, h.get? a = some (txObj y n)) ∧ LyAt h as ys
  | _, _ => False
theorem LyAt.get {h : Heap} : ∀ {as : List Addr} {ys : List (List (Str × Tok))}, LyAt h as ys → ∀ {i : Nat} {v : Value}, (as.map Value.ref).toArray[i]? = some v → ∃ a n, v = .ref a ∧ h.get? a = some (txObj (ys.getD i []) n)
  | [], [], _, i, v, e => by simp at e
  | a :: as, y :: ys, x, 0, v, e => by
    obtain ⟨n, hn⟩ := x.1
    simp at e
    exact ⟨a, n, e.symm, hn⟩
  | a :: as, y :: ys, x, i + 1, v, e => by
    have := x.2.get (i := i) (v := v) (by simpa using e)
    simpa using this
  | [], _ :: _, x, _, _, _ => x.elim
  | _ :: _, [], x, _, _, _ => x.elim
theorem LyAt.len {h : Heap} : ∀ {as : List Addr} {ys : List (List (Str × Tok))}, LyAt h as ys → as.length = ys.length
  | [], [], _ => rfl
  | a :: as, y :: ys, x => by rw [List.length_cons, List.length_cons, x.2.len]
  | [], _ :: _, x => x.elim
  | _ :: _, [], x => x.elim
theorem cmp_lt {as : List Addr} {yy : List (List (Str × Tok))} (Y : LyAt s.heap as yy) (hu : A.units < cLine) : CmpIn prog w A .Lt (as.map Value.ref).toArray (lexBt yy) s.heap s.heap.objs.size (s.heap.objs.size + 1) := fun i j vi vj s' Q E hi hj k q => by
  obtain ⟨a, n, rfl, ha⟩ := Y.get hi
  obtain ⟨b, n', rfl, hb⟩ := Y.get hj
  exact rich_lt_lists (k _ _ (lt_gone ha).1 (lt_gone ha).2 ha) (k _ _ (lt_gone hb).1 (lt_gone hb).2 hb) hu q
theorem cmp_gt {as : List Addr} {yy : List (List (Str × Tok))} (Y : LyAt s.heap as yy) (hu : A.units < cLine) : CmpIn prog w A .Gt (as.map Value.ref).toArray (fun i j => lexBt yy j i) s.heap s.heap.objs.size (s.heap.objs.size + 1) := fun i j vi vj s' Q E hi hj k q => by
  obtain ⟨a, n, rfl, ha⟩ := Y.get hi
  obtain ⟨b, n', rfl, hb⟩ := Y.get hj
  exact rich_gt_lists (k _ _ (lt_gone ha).1 (lt_gone ha).2 ha) (k _ _ (lt_gone hb).1 (lt_gone hb).2 hb) hu q
theorem min_K {as : List Addr} {yy : List (List (Str × Tok))} {k : Nat} {a : Addr} (F : Fr h₀ L s.heap m) (N : News h₀ L s.heap news) (hh : A.handled = none) (hm : (l, rfObj as n) ∈ news) (Y : LyAt s.heap as yy) (h0 : 0 < as.length) (hu : A.in1.units < cLine)
    (hk : bestAt (lexBt yy) (as.length - 1) = k) (ha : as[k]? = some a) (h : ∀ h' tk, Fr h₀ L h' m → News h₀ L h' news → Q (.ref a) { s with heap := h', toks := tk }) :
    wpAny (model prog w) A (call (.builtin "min") [.ref l]) Q E s := by
  refine min_list hh ⟨_, (N _ hm).1, rfl, _, rfl⟩ (by simpa using h0) (cmp_lt Y hu) fun h' tk v e kp => ?_
  rw [show (as.map Value.ref).toArray.size = as.length by simp, hk] at e
  have : v = .ref a := by simp [ha] at e; exact e.symm
  subst this
  exact h h' tk (fr_keep F kp) (news_keep N kp)
theorem max_K {as : List Addr} {yy : List (List (Str × Tok))} {k : Nat} {a : Addr} (F : Fr h₀ L s.heap m) (N : News h₀ L s.heap news) (hh : A.handled = none) (hm : (l, rfObj as n) ∈ news) (Y : LyAt s.heap as yy) (h0 : 0 < as.length) (hu : A.in1.units < cLine)
    (hk : bestAt (fun i j => lexBt yy j i) (as.length - 1) = k) (ha : as[k]? = some a) (h : ∀ h' tk, Fr h₀ L h' m → News h₀ L h' news → Q (.ref a) { s with heap := h', toks := tk }) :
    wpAny (model prog w) A (call (.builtin "max") [.ref l]) Q E s := by
  refine max_list hh ⟨_, (N _ hm).1, rfl, _, rfl⟩ (by simpa using h0) (cmp_gt Y hu) fun h' tk v e kp => ?_
  rw [show (as.map Value.ref).toArray.size = as.length by simp, hk] at e
  have : v = .ref a := by simp [ha] at e; exact e.symm
  subst this
  exact h h' tk (fr_keep F kp) (news_keep N kp)
end

example : True := by
  k_with_none
  trivial
section
open PyProof.Rows.LCg PyProof.Rows.LCt
noncomputable def keepT (p : Str × Tok) : Bool := decide (0 < p.1.length) && (p.1 != Str.ofString ".")
noncomputable def mkv (p : Str × Tok) : Value := .str p.1 p.2
variable {prog : Program} {w : World} {A : Around} {h₀ : Heap} {L : Addr} {m : Str → Option Value} {env : Env}
theorem inner_rest {p0 p1 p2 p3 p4 p5 : Pos} {scope : Scope} {cl : List (Str × Addr)} {s : Shared} {ax cc : Addr} {oc : Obj} {tc : Tok} {all : List (Str × Tok)} {news : List (Addr × Obj)} {Fin : List Value → List (Addr × Obj) → Prop}
    (hk : ∀ C, (compEnvC scope cl C env).scope.kind = .function) (hlc : ∀ C, (compEnvC scope cl C env).kindOf (Str.ofString "c") = some .local) (hlf : ∀ C, (compEnvC scope cl C env).kindOf (Str.ofString "curdir") = some .cell)
    (hcl : cl.lookup (Str.ofString "curdir") = some cc) (hcc : (cc, oc) ∈ news) (hoc : oc.data = .cell (some (.str (Str.ofString ".") tc))) (hS : SrcAt h₀ ax (sv all) news) (hfit : ∀ p ∈ all, p.1.length ≤ 1000) :
    ∀ (xs : List (Str × Tok)) (i : Nat) (ys : List Value), all.drop i = xs → Fin (ys ++ (xs.filter keepT).map mkv) news →
      CompRestT prog w A h₀ L m env (.BoolOp .And [.Name (Str.ofString "c") p1, .Compare (.Name (Str.ofString "c") p2) [.NotEq] [.Name (Str.ofString "curdir") p3] p4] p5) (.Name (Str.ofString "c") p0) (Str.ofString "c") scope cl s (SrcAt h₀ ax (sv all)) (fun i v => (sv all)[i]? = some v) Fin xs.length i ys news := by
  intro xs
  induction xs with
  | nil =>
    intro i ys hd hF
    refine CompRestT.zero ?_
    simpa using hF
  | cons q xs ih =>
    intro i ys hd hF
    have hq : q ∈ all := by
      have : q ∈ all.drop i := by rw [hd]; exact .head _
      exact List.mem_of_mem_drop this
    refine CompRestT.succ ?_
    intro v I oI C oC D m₂ h tk E' hv hC hx F N off ne
    rw [sv_get, hd] at hv
    have hv : mkv q = v := by simpa [mkv] using hv
    subst hv
    have hdr : all.drop (i + 1) = xs := by rw [← List.drop_drop, hd]; rfl
    have own : ∀ {Q : Value → Shared → Prop} {E : Value → Shared → Prop} {p : Pos} {tk : Nat}, Q (mkv q) { s with heap := h, toks := tk } → wpAny (model prog w) A (eval (.Name (Str.ofString "c") p) (compEnvC scope cl C env)) Q E { s with heap := h, toks := tk } :=
      fun hQ => LCgL.ld_own (s := { s with heap := h, toks := _ }) N (.tail _ (.head _)) hC hx hQ (hk C) (hlc C)
    have endE : ∀ {ys' : List Value} {y : Value} {tk' : Nat}, Fin (ys' ++ (xs.filter keepT).map mkv) news →
        CompEnd h₀ L m { s with heap := h, toks := tk } I oI C oC D (lst ys) (SrcAt h₀ ax (sv all)) (fun _ news' => CompRestT prog w A h₀ L m env (.BoolOp .And [.Name (Str.ofString "c") p1, .Compare (.Name (Str.ofString "c") p2) [.NotEq] [.Name (Str.ofString "curdir") p3] p4] p5) (.Name (Str.ofString "c") p0) (Str.ofString "c") scope cl s (SrcAt h₀ ax (sv all)) (fun i v => (sv all)[i]? = some v) Fin xs.length (i + 1) ys' news') y { s with heap := h, toks := tk' } :=
      fun hF' => CompEnd.intro (s₁ := { s with heap := h, toks := tk }) F N news (fun _ hp => hp) off hS (ih (i + 1) _ hdr hF')
    refine isTrue_and ?_
    refine isTrue_plain (own ?_)
    show wpAny _ _ (truthy (.str q.1 q.2)) _ _ _
    refine P.truthy_str (by have := hfit q hq; omega) ?_
    cases hz : decide (0 < q.1.length) with
    | false =>
      have hz' : ((q.1.length : Int) != 0) = false := by simp at hz ⊢; omega
      rw [hz']
      dsimp only
      rw [if_neg Bool.false_ne_true, if_neg Bool.false_ne_true]
      refine endE ?_
      have : keepT q = false := by unfold keepT; rw [hz]; rfl
      rw [List.filter_cons_of_neg (by rw [this]; exact Bool.false_ne_true)] at hF
      exact hF
    | true =>
      have hz' : ((q.1.length : Int) != 0) = true := by simp at hz ⊢; omega
      rw [hz']
      rw [if_pos rfl]
      refine isTrue_and ?_
      refine wpAny_isTrue_Compare1 (own ?_)
      refine lcf_cell (s := { s with heap := h, toks := _ }) N hcl (.tail _ (.tail _ (.tail _ hcc))) hoc ?_ (hk C) (hlf C)
      refine ne_str ?_
      refine wpAny_truthy_bool ?_
      cases hn : (q.1 != Str.ofString ".") with
      | false =>
        rw [if_neg Bool.false_ne_true, if_neg Bool.false_ne_true]
        refine endE ?_
        have : keepT q = false := by unfold keepT; rw [hn, Bool.and_false]
        rw [List.filter_cons_of_neg (by rw [this]; exact Bool.false_ne_true)] at hF
        exact hF
      | true =>
        rw [if_pos rfl]
        refine isTrue_and_nil ?_
        rw [if_pos rfl]
        refine own ?_
        refine CompEnd.intro (s₁ := { s with heap := h, toks := tk }) F N news (fun _ hp => hp) off hS (ih (i + 1) _ hdr ?_)
        have : keepT q = true := by unfold keepT; rw [hz, hn]; rfl
        rw [List.filter_cons_of_pos this] at hF
        simpa using hF
end
section
open PyProof.Rows.LCg PyProof.Rows.LCt
theorem dot_is : Str.ofString "." = ⟨#[46]⟩ := by decide +kernel
theorem keep_one {a : Nat} {t : Tok} (h : a ≠ 46) : keepT (One a, t) = true := by
  unfold keepT
  rw [dot_is]
  have : (One a != ⟨#[46]⟩) = true := by
    rw [bne_iff_ne]
    intro e
    unfold One at e
    injection e with e
    simp at e
    exact h e
  rw [this]
  rfl
theorem keep_nil {t : Tok} : keepT (⟨#[]⟩, t) = false := rfl
theorem len_one {a : Nat} : (One a).length ≤ 1000 := (show 1 ≤ 1000 by decide)
variable {prog : Program} {w : World} {A : Around} {h₀ : Heap} {L : Addr} {m : Str → Option Value} {env : Env}
theorem src_P4 {p0 p1 p2 p3 p4 p5 : Pos} {scope : Scope} {cl : List (Str × Addr)} {s : Shared} {ax cc : Addr} {oc : Obj} {tc : Tok} {news : List (Addr × Obj)} {Fin : Shared → List Value → List (Addr × Obj) → Prop} {a b c d : Nat} {t t0 t1 t2 t3 : Tok} {k : Nat}
    (hh : A.handled = none) (F : Fr h₀ L s.heap m) (N : News h₀ L s.heap news) (hm : (ax, ({ cls := .type "list", data := .seq #[.str ⟨#[]⟩ t, .str (One a) t0, .str (One b) t1, .str (One c) t2, .str (One d) t3] k } : Obj)) ∈ news)
    (hk : ∀ C, (compEnvC scope cl C env).scope.kind = .function) (hlc : ∀ C, (compEnvC scope cl C env).kindOf (Str.ofString "c") = some .local) (hlf : ∀ C, (compEnvC scope cl C env).kindOf (Str.ofString "curdir") = some .cell)
    (hcl : cl.lookup (Str.ofString "curdir") = some cc) (hcc : (cc, oc) ∈ news) (hoc : oc.data = .cell (some (.str (Str.ofString ".") tc))) (ha : a ≠ 46) (hb : b ≠ 46) (hc : c ≠ 46) (hd : d ≠ 46)
    (h : ∀ g, Fin { s with heap := g } [.str (One a) t0, .str (One b) t1, .str (One c) t2, .str (One d) t3] news) :
    CompSrcT prog w A h₀ L m env (.BoolOp .And [.Name (Str.ofString "c") p1, .Compare (.Name (Str.ofString "c") p2) [.NotEq] [.Name (Str.ofString "curdir") p3] p4] p5) (.Name (Str.ofString "c") p0) (Str.ofString "c") scope cl Fin (.ref ax) s := by
  refine CompSrcT.ledger hh F N hm (Nat.le_of_ble_eq_true rfl) fun g => ?_
  refine inner_rest (all := [(⟨#[]⟩, t), (One a, t0), (One b, t1), (One c, t2), (One d, t3)]) hk hlc hlf hcl hcc hoc (.inr ⟨_, hm, rfl, _, rfl⟩) ?_ [(⟨#[]⟩, t), (One a, t0), (One b, t1), (One c, t2), (One d, t3)] 0 [] rfl ?_
  · simp only [List.forall_mem_cons]
    exact ⟨(show 0 ≤ 1000 by decide), len_one, len_one, len_one, len_one, List.forall_mem_nil _⟩
  · rw [List.filter_cons_of_neg (by rw [keep_nil]; exact Bool.false_ne_true), List.filter_cons_of_pos (keep_one ha), List.filter_cons_of_pos (keep_one hb), List.filter_cons_of_pos (keep_one hc), List.filter_cons_of_pos (keep_one hd)]
    exact h g
theorem srcU2 {elt : Expr} {x : Str} {scope : Scope} {cl : List (Str × Addr)} {Fin : Shared → List Value → List (Addr × Obj) → Prop} {ax : Addr} {v0 v1 : Value} {k : Nat} {news : List (Addr × Obj)} {s₁ : Shared}
    (hh : A.handled = none) (F : Fr h₀ L s₁.heap m) (N : News h₀ L s₁.heap news) (hm : (ax, ({ cls := .type "list", data := .seq #[v0, v1] k } : Obj)) ∈ news)
    (h : ∀ g, CompRest prog w A h₀ L m env elt x scope cl { s₁ with heap := g } (SrcAt h₀ ax #[v0, v1]) (fun i v => #[v0, v1][i]? = some v) (Fin { s₁ with heap := g }) 2 0 [] news) :
    CompSrc prog w A h₀ L m env elt x scope cl Fin (.ref ax) s₁ := CompSrc.ledger hh F N hm (Nat.le_of_ble_eq_true rfl) h
theorem srcU3 {elt : Expr} {x : Str} {scope : Scope} {cl : List (Str × Addr)} {Fin : Shared → List Value → List (Addr × Obj) → Prop} {ax : Addr} {v0 v1 v2 : Value} {k : Nat} {news : List (Addr × Obj)} {s₁ : Shared}
    (hh : A.handled = none) (F : Fr h₀ L s₁.heap m) (N : News h₀ L s₁.heap news) (hm : (ax, ({ cls := .type "list", data := .seq #[v0, v1, v2] k } : Obj)) ∈ news)
    (h : ∀ g, CompRest prog w A h₀ L m env elt x scope cl { s₁ with heap := g } (SrcAt h₀ ax #[v0, v1, v2]) (fun i v => #[v0, v1, v2][i]? = some v) (Fin { s₁ with heap := g }) 3 0 [] news) :
    CompSrc prog w A h₀ L m env elt x scope cl Fin (.ref ax) s₁ := CompSrc.ledger hh F N hm (Nat.le_of_ble_eq_true rfl) h
theorem src_P1 {p0 p1 p2 p3 p4 p5 : Pos} {scope : Scope} {cl : List (Str × Addr)} {s : Shared} {ax cc : Addr} {oc : Obj} {tc : Tok} {news : List (Addr × Obj)} {Fin : Shared → List Value → List (Addr × Obj) → Prop} {a : Nat} {t t0 : Tok} {k : Nat}
    (hh : A.handled = none) (F : Fr h₀ L s.heap m) (N : News h₀ L s.heap news) (hm : (ax, ({ cls := .type "list", data := .seq #[.str ⟨#[]⟩ t, .str (One a) t0] k } : Obj)) ∈ news)
    (hk : ∀ C, (compEnvC scope cl C env).scope.kind = .function) (hlc : ∀ C, (compEnvC scope cl C env).kindOf (Str.ofString "c") = some .local) (hlf : ∀ C, (compEnvC scope cl C env).kindOf (Str.ofString "curdir") = some .cell)
    (hcl : cl.lookup (Str.ofString "curdir") = some cc) (hcc : (cc, oc) ∈ news) (hoc : oc.data = .cell (some (.str (Str.ofString ".") tc))) (ha : a ≠ 46)
    (h : ∀ g, Fin { s with heap := g } [.str (One a) t0] news) :
    CompSrcT prog w A h₀ L m env (.BoolOp .And [.Name (Str.ofString "c") p1, .Compare (.Name (Str.ofString "c") p2) [.NotEq] [.Name (Str.ofString "curdir") p3] p4] p5) (.Name (Str.ofString "c") p0) (Str.ofString "c") scope cl Fin (.ref ax) s := by
  refine CompSrcT.ledger hh F N hm (Nat.le_of_ble_eq_true rfl) fun g => ?_
  refine inner_rest (all := [(⟨#[]⟩, t), (One a, t0)]) hk hlc hlf hcl hcc hoc (.inr ⟨_, hm, rfl, _, rfl⟩) ?_ [(⟨#[]⟩, t), (One a, t0)] 0 [] rfl ?_
  · simp only [List.forall_mem_cons]
    exact ⟨(show 0 ≤ 1000 by decide), len_one, List.forall_mem_nil _⟩
  · rw [List.filter_cons_of_neg (by rw [keep_nil]; exact Bool.false_ne_true), List.filter_cons_of_pos (keep_one ha)]
    exact h g
end
section
open PyProof.Rows.LCg
variable {prog : Program} {w : World} {A : Around} {E : Value → Shared → Prop} {s : Shared} {h₀ : Heap} {L l la lb lc : Addr} {m : Str → Option Value} {news : List (Addr × Obj)} {Q : Value → Shared → Prop}
/-- four texts of one sign -/
noncomputable abbrev four (x0 x1 x2 x3 : Nat) (t0 t1 t2 t3 : Tok) : Obj := lst [.str (One x0) t0, .str (One x1) t1, .str (One x2) t2, .str (One x3) t3]
noncomputable abbrev ones (l : List Nat) : List Str := l.map One
/-- which of two is picked -/
noncomputable def PickOf (c : Bool) (xs as bs : List Nat) : Prop := (c = false ∧ xs = as) ∨ (c = true ∧ xs = bs)
theorem ly2 {h : Heap} {a0 a1 a2 a3 b0 b1 b2 b3 : Nat} {t0 t1 t2 t3 u0 u1 u2 u3 : Tok} (N : News h₀ L h news) (ha : (la, four a0 a1 a2 a3 t0 t1 t2 t3) ∈ news) (hb : (lb, four b0 b1 b2 b3 u0 u1 u2 u3) ∈ news) :
    LyAt h [la, lb] [[(One a0, t0), (One a1, t1), (One a2, t2), (One a3, t3)], [(One b0, u0), (One b1, u1), (One b2, u2), (One b3, u3)]] := ⟨⟨_, (N _ ha).1⟩, ⟨_, (N _ hb).1⟩, trivial⟩
theorem news_cons {h : Heap} {p : Addr × Obj} (N : News h₀ L h news) (hp : p ∈ news) : News h₀ L h (p :: news) := fun q hq => by
  rcases List.mem_cons.mp hq with rfl | hq
  · exact N _ hp
  · exact N _ hq
theorem min2_K {a0 a1 a2 a3 b0 b1 b2 b3 : Nat} {t0 t1 t2 t3 u0 u1 u2 u3 : Tok} (F : Fr h₀ L s.heap m) (N : News h₀ L s.heap news) (hh : A.handled = none) (hu : A.in1.units < cLine) (hm : (l, lst [.ref la, .ref lb]) ∈ news)
    (ha : (la, four a0 a1 a2 a3 t0 t1 t2 t3) ∈ news) (hb : (lb, four b0 b1 b2 b3 u0 u1 u2 u3) ∈ news)
    (h : ∀ h' tk lx x0 x1 x2 x3 v0 v1 v2 v3, Fr h₀ L h' m → News h₀ L h' ((lx, four x0 x1 x2 x3 v0 v1 v2 v3) :: news) → PickOf (lexLt (ones [b0, b1, b2, b3]) (ones [a0, a1, a2, a3])) [x0, x1, x2, x3] [a0, a1, a2, a3] [b0, b1, b2, b3] → Q (.ref lx) { s with heap := h', toks := tk }) :
    wpAny (model prog w) A (call (.builtin "min") [.ref l]) Q E s := by
  have Y := ly2 N ha hb
  cases hc : lexLt (ones [b0, b1, b2, b3]) (ones [a0, a1, a2, a3]) with
  | false =>
    refine min_K (k := 0) F N hh (as := [la, lb]) hm Y (Nat.le_of_ble_eq_true rfl) hu ?_ rfl fun h' tk F' N' => ?_
    · show (if lexLt (ones [b0, b1, b2, b3]) (ones [a0, a1, a2, a3]) = true then 1 else 0) = 0
      rw [hc]; rfl
    · exact h h' tk la _ _ _ _ _ _ _ _ F' (news_cons N' ha) (.inl ⟨hc, rfl⟩)
  | true =>
    refine min_K (k := 1) F N hh (as := [la, lb]) hm Y (Nat.le_of_ble_eq_true rfl) hu ?_ rfl fun h' tk F' N' => ?_
    · show (if lexLt (ones [b0, b1, b2, b3]) (ones [a0, a1, a2, a3]) = true then 1 else 0) = 1
      rw [hc]; rfl
    · exact h h' tk lb _ _ _ _ _ _ _ _ F' (news_cons N' hb) (.inr ⟨hc, rfl⟩)
theorem max2_K {a0 a1 a2 a3 b0 b1 b2 b3 : Nat} {t0 t1 t2 t3 u0 u1 u2 u3 : Tok} (F : Fr h₀ L s.heap m) (N : News h₀ L s.heap news) (hh : A.handled = none) (hu : A.in1.units < cLine) (hm : (l, lst [.ref la, .ref lb]) ∈ news)
    (ha : (la, four a0 a1 a2 a3 t0 t1 t2 t3) ∈ news) (hb : (lb, four b0 b1 b2 b3 u0 u1 u2 u3) ∈ news)
    (h : ∀ h' tk lx x0 x1 x2 x3 v0 v1 v2 v3, Fr h₀ L h' m → News h₀ L h' ((lx, four x0 x1 x2 x3 v0 v1 v2 v3) :: news) → PickOf (lexLt (ones [a0, a1, a2, a3]) (ones [b0, b1, b2, b3])) [x0, x1, x2, x3] [a0, a1, a2, a3] [b0, b1, b2, b3] → Q (.ref lx) { s with heap := h', toks := tk }) :
    wpAny (model prog w) A (call (.builtin "max") [.ref l]) Q E s := by
  have Y := ly2 N ha hb
  cases hc : lexLt (ones [a0, a1, a2, a3]) (ones [b0, b1, b2, b3]) with
  | false =>
    refine max_K (k := 0) F N hh (as := [la, lb]) hm Y (Nat.le_of_ble_eq_true rfl) hu ?_ rfl fun h' tk F' N' => ?_
    · show (if lexLt (ones [a0, a1, a2, a3]) (ones [b0, b1, b2, b3]) = true then 1 else 0) = 0
      rw [hc]; rfl
    · exact h h' tk la _ _ _ _ _ _ _ _ F' (news_cons N' ha) (.inl ⟨hc, rfl⟩)
  | true =>
    refine max_K (k := 1) F N hh (as := [la, lb]) hm Y (Nat.le_of_ble_eq_true rfl) hu ?_ rfl fun h' tk F' N' => ?_
    · show (if lexLt (ones [a0, a1, a2, a3]) (ones [b0, b1, b2, b3]) = true then 1 else 0) = 1
      rw [hc]; rfl
    · exact h h' tk lb _ _ _ _ _ _ _ _ F' (news_cons N' hb) (.inr ⟨hc, rfl⟩)
theorem item_L {value slice : PySem.Expr} {vs : List Value} {k : Int} {u : Tok} {v : Value} (N : News h₀ L s.heap news) (hm : (l, lst vs) ∈ news) (h0 : 0 ≤ k) (hhi : k < 2 ^ 63) (hx : vs[k.toNat]? = some v) (h : Q v s)
    (hs : subscripted slice false (.ref l) (.int k u) = operate [.ref l, .int k u] (getItem (.ref l) (.int k u)) := by with_unfolding_all rfl) :
    wpAny (model prog w) A (subscriptTail value slice (.ref l) (.int k u)) Q E s := by
  have hl : s.heap.IsList l vs.toArray := ⟨_, (N _ hm).1, rfl, _, rfl⟩
  exact tail_any hl.typeIs slot_list_getitem.lookup (wpAny_getItem_list hl h0 hhi (by simpa using hx) h) hs
theorem join_ones {ps : List (Nat × Tok)} {n : Nat} {t : Tok} (N : News h₀ L s.heap news) (hm : (l, ({ cls := .type "list", data := .seq (ps.map fun p => Value.str (One p.1) p.2).toArray n } : Obj)) ∈ news) (hn : ps.length ≤ 1000)
    (h : ∀ t' k, Q (.str (Txt.join (Str.ofString "/") (ps.map fun p => One p.1)) t') { s with toks := k }) : wpAny (model prog w) A (call (.builtin "str.join") [.str (Str.ofString "/") t, .ref l]) Q E s := by
  have hs : ∀ ps : List (Nat × Tok), StrsAre (ps.map fun p => Value.str (One p.1) p.2) (ps.map fun p => One p.1) := fun ps => by
    induction ps with
    | nil => exact .nil
    | cons p ps ih => exact .cons _ _ ih
  have hw : ∀ ps : List (Nat × Tok), ((ps.map fun p => One p.1).map (·.length)).sum = ps.length := fun ps => by
    induction ps with
    | nil => rfl
    | cons p ps ih => simp only [List.map_cons, List.sum_cons, List.length_cons, ih]; show 1 + ps.length = ps.length + 1; omega
  refine join_list (ys := ps.map fun p => One p.1) ⟨_, (N _ hm).1, rfl, _, rfl⟩ (hs ps) ?_ h
  rw [hw, List.length_map, show (Str.ofString "/").length = 1 by decide +kernel]
  omega
section
variable {n a b c d : Nat} {t t0 t1 t2 t3 : Tok}
theorem jn1 (N : News h₀ L s.heap news) (hm : (l, ({ cls := .type "list", data := .seq #[.str (One a) t0] n } : Obj)) ∈ news) (h : ∀ t' k, Q (.str (Txt.join (Str.ofString "/") [One a]) t') { s with toks := k }) : wpAny (model prog w) A (call (.builtin "str.join") [.str (Str.ofString "/") t, .ref l]) Q E s :=
  join_ones (ps := [(a, t0)]) N hm (Nat.le_of_ble_eq_true rfl) h
theorem jn2 (N : News h₀ L s.heap news) (hm : (l, ({ cls := .type "list", data := .seq #[.str (One a) t0, .str (One b) t1] n } : Obj)) ∈ news) (h : ∀ t' k, Q (.str (Txt.join (Str.ofString "/") [One a, One b]) t') { s with toks := k }) : wpAny (model prog w) A (call (.builtin "str.join") [.str (Str.ofString "/") t, .ref l]) Q E s :=
  join_ones (ps := [(a, t0), (b, t1)]) N hm (Nat.le_of_ble_eq_true rfl) h
theorem jn3 (N : News h₀ L s.heap news) (hm : (l, ({ cls := .type "list", data := .seq #[.str (One a) t0, .str (One b) t1, .str (One c) t2] n } : Obj)) ∈ news) (h : ∀ t' k, Q (.str (Txt.join (Str.ofString "/") [One a, One b, One c]) t') { s with toks := k }) : wpAny (model prog w) A (call (.builtin "str.join") [.str (Str.ofString "/") t, .ref l]) Q E s :=
  join_ones (ps := [(a, t0), (b, t1), (c, t2)]) N hm (Nat.le_of_ble_eq_true rfl) h
theorem jn4 (N : News h₀ L s.heap news) (hm : (l, ({ cls := .type "list", data := .seq #[.str (One a) t0, .str (One b) t1, .str (One c) t2, .str (One d) t3] n } : Obj)) ∈ news) (h : ∀ t' k, Q (.str (Txt.join (Str.ofString "/") [One a, One b, One c, One d]) t') { s with toks := k }) : wpAny (model prog w) A (call (.builtin "str.join") [.str (Str.ofString "/") t, .ref l]) Q E s :=
  join_ones (ps := [(a, t0), (b, t1), (c, t2), (d, t3)]) N hm (Nat.le_of_ble_eq_true rfl) h
theorem ad1 (h : ∀ t' k, Q (.str (P1 a) t') { s with toks := k }) : wpAny (model prog w) A (binaryOp .Add (.str (Str.ofString "/") t) (.str (Txt.join (Str.ofString "/") [One a]) t0)) Q E s :=
  SB.add (fun t' k => by rw [join1]; exact h t' k) (by rw [slash_is, sizeLine_eq]; exact (show 1 + 1 ≤ 16777216 by decide))
theorem ad2 (h : ∀ t' k, Q (.str (P2 a b) t') { s with toks := k }) : wpAny (model prog w) A (binaryOp .Add (.str (Str.ofString "/") t) (.str (Txt.join (Str.ofString "/") [One a, One b]) t0)) Q E s :=
  SB.add (fun t' k => by rw [join2]; exact h t' k) (by rw [slash_is, sizeLine_eq]; exact (show 1 + 3 ≤ 16777216 by decide))
theorem ad3 (h : ∀ t' k, Q (.str (P3 a b c) t') { s with toks := k }) : wpAny (model prog w) A (binaryOp .Add (.str (Str.ofString "/") t) (.str (Txt.join (Str.ofString "/") [One a, One b, One c]) t0)) Q E s :=
  SB.add (fun t' k => by rw [join3]; exact h t' k) (by rw [slash_is, sizeLine_eq]; exact (show 1 + 5 ≤ 16777216 by decide))
theorem ad4 (h : ∀ t' k, Q (.str (P4 a b c d) t') { s with toks := k }) : wpAny (model prog w) A (binaryOp .Add (.str (Str.ofString "/") t) (.str (Txt.join (Str.ofString "/") [One a, One b, One c, One d]) t0)) Q E s :=
  SB.add (fun t' k => by rw [join4]; exact h t' k) (by rw [slash_is, sizeLine_eq]; exact (show 1 + 7 ≤ 16777216 by decide))
end
end
/-- what two paths have in common -/
noncomputable def cpT (a0 a1 a2 a3 b0 b1 b2 b3 : Nat) : Str := if a0 ≠ b0 then ⟨#[47]⟩ else if a1 ≠ b1 then P1 a0 else if a2 ≠ b2 then P2 a0 a1 else if a3 ≠ b3 then P3 a0 a1 a2 else P4 a0 a1 a2 a3
theorem one_inj {a b : Nat} (h : One a = One b) : a = b := by unfold One at h; injection h with h; simpa using h
theorem one_ne {a b : Nat} (h : (One a != One b) = true) : a ≠ b := fun e => by subst e; simp at h
theorem one_eq {a b : Nat} (h : (One a != One b) = false) : a = b := by
  have : One a = One b := by simpa using h
  exact one_inj this
theorem sing_lt {x y : Nat} : (([x] : List Nat) < [y]) ↔ x < y := by
  rw [List.cons_lt_cons_iff]; simp
theorem lex_ones : ∀ (a b : List Nat), lexLt (ones a) (ones b) = true → lexLt (ones b) (ones a) = true → False
  | [], [], h, _ => by cases h
  | [], _ :: _, _, h => by cases h
  | _ :: _, [], h, _ => by cases h
  | x :: a, y :: b, h1, h2 => by
    change (if (One x == One y) = true then lexLt (ones a) (ones b) else decide ((One x).cps.toList < (One y).cps.toList)) = true at h1
    change (if (One y == One x) = true then lexLt (ones b) (ones a) else decide ((One y).cps.toList < (One x).cps.toList)) = true at h2
    by_cases e : x = y
    · subst e
      rw [if_pos (by simp)] at h1 h2
      exact lex_ones a b h1 h2
    · have n1 : ¬ (One x == One y) = true := fun q => e (one_inj (by simpa using q))
      have n2 : ¬ (One y == One x) = true := fun q => e (one_inj (by simpa using q)).symm
      rw [if_neg n1] at h1
      rw [if_neg n2] at h2
      have a1 : ([x] : List Nat) < [y] := of_decide_eq_true h1
      have a2 : ([y] : List Nat) < [x] := of_decide_eq_true h2
      rw [sing_lt] at a1 a2
      omega
theorem lex_same : ∀ (a b : List Nat), lexLt (ones a) (ones b) = false → lexLt (ones b) (ones a) = false → a = b
  | [], [], _, _ => rfl
  | [], _ :: _, h, _ => by cases h
  | _ :: _, [], _, h => by cases h
  | x :: a, y :: b, h1, h2 => by
    change (if (One x == One y) = true then lexLt (ones a) (ones b) else decide ((One x).cps.toList < (One y).cps.toList)) = false at h1
    change (if (One y == One x) = true then lexLt (ones b) (ones a) else decide ((One y).cps.toList < (One x).cps.toList)) = false at h2
    by_cases e : x = y
    · subst e
      rw [if_pos (by simp)] at h1 h2
      rw [lex_same a b h1 h2]
    · have n1 : ¬ (One x == One y) = true := fun q => e (one_inj (by simpa using q))
      have n2 : ¬ (One y == One x) = true := fun q => e (one_inj (by simpa using q)).symm
      rw [if_neg n1] at h1
      rw [if_neg n2] at h2
      have a1 : ¬ ([x] : List Nat) < [y] := of_decide_eq_false h1
      have a2 : ¬ ([y] : List Nat) < [x] := of_decide_eq_false h2
      rw [sing_lt] at a1 a2
      omega
section
variable {x0 x1 x2 x3 y0 y1 y2 y3 a0 a1 a2 a3 b0 b1 b2 b3 : Nat}
theorem cp_comm : cpT a0 a1 a2 a3 b0 b1 b2 b3 = cpT b0 b1 b2 b3 a0 a1 a2 a3 := by
  unfold cpT
  by_cases e0 : a0 = b0
  · subst e0
    by_cases e1 : a1 = b1
    · subst e1
      by_cases e2 : a2 = b2
      · subst e2
        by_cases e3 : a3 = b3
        · subst e3; rfl
        · simp [e3, Ne.symm e3]
      · simp [e2, Ne.symm e2]
    · simp [e1, Ne.symm e1]
  · simp [e0, Ne.symm e0]
theorem cp_pick (hm : PickOf (lexLt (ones [b0, b1, b2, b3]) (ones [a0, a1, a2, a3])) [x0, x1, x2, x3] [a0, a1, a2, a3] [b0, b1, b2, b3]) (hM : PickOf (lexLt (ones [a0, a1, a2, a3]) (ones [b0, b1, b2, b3])) [y0, y1, y2, y3] [a0, a1, a2, a3] [b0, b1, b2, b3]) :
    cpT x0 x1 x2 x3 y0 y1 y2 y3 = cpT a0 a1 a2 a3 b0 b1 b2 b3 := by
  rcases hm with ⟨c1, e1⟩ | ⟨c1, e1⟩ <;> rcases hM with ⟨c2, e2⟩ | ⟨c2, e2⟩
  · have e3 := lex_same _ _ c1 c2
    simp only [List.cons.injEq, and_true] at e1 e2 e3
    obtain ⟨rfl, rfl, rfl, rfl⟩ := e1
    obtain ⟨rfl, rfl, rfl, rfl⟩ := e2
    obtain ⟨rfl, rfl, rfl, rfl⟩ := e3
    rfl
  · simp only [List.cons.injEq, and_true] at e1 e2
    obtain ⟨rfl, rfl, rfl, rfl⟩ := e1
    obtain ⟨rfl, rfl, rfl, rfl⟩ := e2
    rfl
  · simp only [List.cons.injEq, and_true] at e1 e2
    obtain ⟨rfl, rfl, rfl, rfl⟩ := e1
    obtain ⟨rfl, rfl, rfl, rfl⟩ := e2
    exact cp_comm
  · exact (lex_ones _ _ c1 c2).elim
theorem cp_0 (e0 : (One x0 != One y0) = true) : ⟨#[47]⟩ = cpT x0 x1 x2 x3 y0 y1 y2 y3 := by unfold cpT; rw [if_pos (one_ne e0)]
theorem cp_1 (e0 : (One x0 != One y0) = false) (e1 : (One x1 != One y1) = true) : P1 x0 = cpT x0 x1 x2 x3 y0 y1 y2 y3 := by unfold cpT; rw [if_neg (not_not_intro (one_eq e0)), if_pos (one_ne e1)]
theorem cp_2 (e0 : (One x0 != One y0) = false) (e1 : (One x1 != One y1) = false) (e2 : (One x2 != One y2) = true) : P2 x0 x1 = cpT x0 x1 x2 x3 y0 y1 y2 y3 := by
  unfold cpT; rw [if_neg (not_not_intro (one_eq e0)), if_neg (not_not_intro (one_eq e1)), if_pos (one_ne e2)]
theorem cp_3 (e0 : (One x0 != One y0) = false) (e1 : (One x1 != One y1) = false) (e2 : (One x2 != One y2) = false) (e3 : (One x3 != One y3) = true) : P3 x0 x1 x2 = cpT x0 x1 x2 x3 y0 y1 y2 y3 := by
  unfold cpT; rw [if_neg (not_not_intro (one_eq e0)), if_neg (not_not_intro (one_eq e1)), if_neg (not_not_intro (one_eq e2)), if_pos (one_ne e3)]
theorem cp_4 (e0 : (One x0 != One y0) = false) (e1 : (One x1 != One y1) = false) (e2 : (One x2 != One y2) = false) (e3 : (One x3 != One y3) = false) : P4 x0 x1 x2 x3 = cpT x0 x1 x2 x3 y0 y1 y2 y3 := by
  unfold cpT; rw [if_neg (not_not_intro (one_eq e0)), if_neg (not_not_intro (one_eq e1)), if_neg (not_not_intro (one_eq e2)), if_neg (not_not_intro (one_eq e3))]
end

example : True := by
  k_with_none
  trivial
section
theorem sw_P4 (a b c d : Nat) : Txt.startswith (P4 a b c d) (Str.ofString "/") = true := by
  rw [slash_is]
  show (decide (0 + 1 ≤ 8) && ((#[47, a, 47, b, 47, c, 47, d] : Array Nat).extract 0 (0 + 1) == #[47])) = true
  simp
theorem unpack_K {prog : Program} {w : World} {A : Around} {E : Value → Shared → Prop} {s : Shared} {h₀ : Heap} {L D : Addr} {m : Str → Option Value} {news : List (Addr × Obj)} {Q : List Value → Shared → Prop} (F : Fr h₀ L s.heap m) (N : News h₀ L s.heap news) (hm : (D, setO1 (!w.params.followText "set-order")) ∈ news) (hh : A.handled = none)
    (h : ∀ h', Fr h₀ L h' m → News h₀ L h' news → Q [.bool true] { s with heap := h' }) : wpAny (model prog w) A (unpackItems (.ref D) 1 none) Q E s :=
  unpack_set hh (N _ hm).1 fun h' k => h h' (fr_after F k) (news_after N k)
theorem assign_T1 {prog : Program} {w : World} {A : Around} {E : Value → Shared → Prop} {s : Shared} {env : Env} {x : Str} {px tpos : Pos} {k : Nat} {v : Value} {Q : Unit → Shared → Prop}
    (h : wpAny (model prog w) A (unpackItems v 1 none) (fun vs s' => ∃ u, vs = [u] ∧ wpAny (model prog w) A (storeName env x u) Q E s') E s) : wpAny (model prog w) A (assign (.Tuple [.Name x px] k tpos) env v) Q E s := by
  show wpAny _ A (do standAt tpos; unpack v (assignEach [.Name x px] env)) Q E s
  refine wpAny_bind (wpAny_standAt ?_)
  unfold unpack
  refine wpAny_bind (wpAny_holding (wpAny_mono h (fun vs s' h' => ?_) fun _ _ e => e))
  obtain ⟨u, rfl, h'⟩ := h'
  show wpAny _ A (do holding [] (assign (.Name x px) env u); pure ()) _ _ _
  exact wpAny_bind (wpAny_holding (wpAny_mono (assign_Name h') (fun _ _ q => wpAny_pure q) fun _ _ e => e))
theorem sw_P1 (a : Nat) : Txt.startswith (P1 a) (Str.ofString "/") = true := by
  rw [slash_is]
  show (decide (0 + 1 ≤ 2) && ((#[47, a] : Array Nat).extract 0 (0 + 1) == #[47])) = true
  simp
theorem ne_self_str {prog : Program} {w : World} {A : Around} {E : Value → Shared → Prop} {s : Shared} {x : Str} {t u : Tok} {Q : Value → Shared → Prop} (h : Q (.bool false) s) : wpAny (model prog w) A (compareOp .NotEq (.str x t) (.str x u)) Q E s :=
  ne_str (by rw [show (x != x) = false by simp]; exact h)
section
open PyProof.Rows.LCg
variable {prog : Program} {w : World} {A : Around} {E : Value → Shared → Prop} {s : Shared} {h₀ : Heap} {L l la lb lc : Addr} {m : Str → Option Value} {news : List (Addr × Obj)} {Q : Value → Shared → Prop}
theorem lex_pre {c x1 x2 x3 : Nat} : lexLt (ones [c]) (ones [c, x1, x2, x3]) = true := by
  show (if (One c == One c) = true then lexLt [] (ones [x1, x2, x3]) else _) = true
  rw [if_pos (by simp)]; rfl
theorem lex_pre' {c x1 x2 x3 : Nat} : lexLt (ones [c, x1, x2, x3]) (ones [c]) = false := by
  show (if (One c == One c) = true then lexLt (ones [x1, x2, x3]) [] else _) = false
  rw [if_pos (by simp)]; rfl
theorem ly3 {h : Heap} {c a1 a2 a3 b1 b2 b3 : Nat} {t0 t1 t2 t3 u0 u1 u2 u3 v : Tok} (N : News h₀ L h news) (ha : (la, four c a1 a2 a3 t0 t1 t2 t3) ∈ news) (hb : (lb, four c b1 b2 b3 u0 u1 u2 u3) ∈ news) (hc : (lc, lst [.str (One c) v]) ∈ news) :
    LyAt h [la, lb, lc] [[(One c, t0), (One a1, t1), (One a2, t2), (One a3, t3)], [(One c, u0), (One b1, u1), (One b2, u2), (One b3, u3)], [(One c, v)]] := ⟨⟨_, (N _ ha).1⟩, ⟨_, (N _ hb).1⟩, ⟨_, (N _ hc).1⟩, trivial⟩
theorem min3_K {c a1 a2 a3 b1 b2 b3 : Nat} {t0 t1 t2 t3 u0 u1 u2 u3 v : Tok} (F : Fr h₀ L s.heap m) (N : News h₀ L s.heap news) (hh : A.handled = none) (hu : A.in1.units < cLine) (hm : (l, lst [.ref la, .ref lb, .ref lc]) ∈ news)
    (ha : (la, four c a1 a2 a3 t0 t1 t2 t3) ∈ news) (hb : (lb, four c b1 b2 b3 u0 u1 u2 u3) ∈ news) (hc : (lc, lst [.str (One c) v]) ∈ news)
    (h : ∀ h' tk, Fr h₀ L h' m → News h₀ L h' news → Q (.ref lc) { s with heap := h', toks := tk }) :
    wpAny (model prog w) A (call (.builtin "min") [.ref l]) Q E s := by
  refine min_K (k := 2) F N hh (as := [la, lb, lc]) hm (ly3 N ha hb hc) (Nat.le_of_ble_eq_true rfl) hu ?_ rfl fun h' tk F' N' => h h' tk F' N'
  show (if lexBt _ 2 (if lexLt (ones [c, b1, b2, b3]) (ones [c, a1, a2, a3]) = true then 1 else 0) = true then 2 else _) = 2
  cases lexLt (ones [c, b1, b2, b3]) (ones [c, a1, a2, a3]) with
  | true => exact if_pos lex_pre
  | false => exact if_pos lex_pre
theorem max3_K {c a1 a2 a3 b1 b2 b3 : Nat} {t0 t1 t2 t3 u0 u1 u2 u3 v : Tok} (F : Fr h₀ L s.heap m) (N : News h₀ L s.heap news) (hh : A.handled = none) (hu : A.in1.units < cLine) (hm : (l, lst [.ref la, .ref lb, .ref lc]) ∈ news)
    (ha : (la, four c a1 a2 a3 t0 t1 t2 t3) ∈ news) (hb : (lb, four c b1 b2 b3 u0 u1 u2 u3) ∈ news) (hc : (lc, lst [.str (One c) v]) ∈ news)
    (h : ∀ h' tk lx x1 x2 x3 v0 v1 v2 v3, Fr h₀ L h' m → News h₀ L h' ((lx, four c x1 x2 x3 v0 v1 v2 v3) :: news) → Q (.ref lx) { s with heap := h', toks := tk }) :
    wpAny (model prog w) A (call (.builtin "max") [.ref l]) Q E s := by
  have Y := ly3 N ha hb hc
  cases hq : lexLt (ones [c, a1, a2, a3]) (ones [c, b1, b2, b3]) with
  | false =>
    refine max_K (k := 0) F N hh (as := [la, lb, lc]) hm Y (Nat.le_of_ble_eq_true rfl) hu ?_ rfl fun h' tk F' N' => ?_
    · show (if lexBt _ (if lexLt (ones [c, a1, a2, a3]) (ones [c, b1, b2, b3]) = true then 1 else 0) 2 = true then 2 else (if lexLt (ones [c, a1, a2, a3]) (ones [c, b1, b2, b3]) = true then 1 else 0)) = 0
      rw [hq]
      exact if_neg (by show ¬ lexLt (ones [c, a1, a2, a3]) (ones [c]) = true; rw [lex_pre']; exact Bool.false_ne_true)
    · exact h h' tk la _ _ _ _ _ _ _ F' (news_cons N' ha)
  | true =>
    refine max_K (k := 1) F N hh (as := [la, lb, lc]) hm Y (Nat.le_of_ble_eq_true rfl) hu ?_ rfl fun h' tk F' N' => ?_
    · show (if lexBt _ (if lexLt (ones [c, a1, a2, a3]) (ones [c, b1, b2, b3]) = true then 1 else 0) 2 = true then 2 else (if lexLt (ones [c, a1, a2, a3]) (ones [c, b1, b2, b3]) = true then 1 else 0)) = 1
      rw [hq]
      exact if_neg (by show ¬ lexLt (ones [c, b1, b2, b3]) (ones [c]) = true; rw [lex_pre']; exact Bool.false_ne_true)
    · exact h h' tk lb _ _ _ _ _ _ _ F' (news_cons N' hb)
end
end

example : True := by
  k_with_none
  trivial
example : True := by
  (k_with "my my_enter" => ((refine wpAny_call ?_; k_dflt (first
      | (refine' enterP ?k3_q1 ?k5_q1 ?k6_q1 ?k7_q1 ?k8_q1 ?k9_q1 ?kB_q1 ?_ ?c2_q1 ?c3_q1 ?c4_q1 ?c5_q1; (case k3_q1 => k_asm); (case k5_q1 => k_asm); (case k6_q1 => k_is); (case k7_q1 => k_is); (case k8_q1 => k_room); (case k9_q1 => first | exact BindsTo.of_eq (binds := [(_, _)]) rfl | exact BindsTo.of_eq (binds := [(_, _), (_, _)]) rfl | exact BindsTo.of_eq rfl | exact binds_K (by k_in) rfl (by k_is) rfl rfl rfl | fail "my_enter: no rule for these arguments"); (case c5_q1 => decide); (case kB_q1 => exact locs rfl); (case c2_q1 => exact rfl); (case c3_q1 => exact rfl); (case c4_q1 => exact rfl); k_whole; intro L' h' F' N'; (try dsimp only); (try k_fold))
      | (refine' enterPC ?k3_q1 ?k5_q1 ?k6_q1 ?k7_q1 ?k8_q1 ?k9_q1 ?kB_q1 ?kD_q1 ?_ ?c2_q1 ?c3_q1 ?c4_q1; (case k3_q1 => k_asm); (case k5_q1 => k_asm); (case k6_q1 => k_is); (case k7_q1 => k_is); (case k8_q1 => k_room); (case k9_q1 => first | exact BindsTo.of_eq (binds := [(_, _)]) rfl | exact BindsTo.of_eq (binds := [(_, _), (_, _)]) rfl | exact BindsTo.of_eq rfl | exact binds_K (by k_in) rfl (by k_is) rfl rfl rfl | fail "my_enter: no rule for these arguments"); (case kB_q1 => exact rfl); (case kD_q1 => decide +kernel); (case c2_q1 => exact rfl); (case c3_q1 => exact rfl); (case c4_q1 => exact rfl); k_whole; intro L' h' tk' cells' F' N' Y'; k_cells Y'; (try simp only [List.cons_append, List.nil_append, List.append_nil] at N'); (try dsimp only); (try k_fold))))))
  trivial
example : True := by
  (k_with "my call type:type" => (((with_reducible show wpAny _ _ (call _ [Value.bytes _ _]) _ _ _); refine call_type_of (Tx := "bytes") rfl (by decide +kernel) ?_)))
  trivial
example : True := by
  (k_with "my my_steps" => (repeat' (first | (k_unfold; (try dsimp only)) | ((fail_if_success (with_reducible show InvEndN _ _ _ _ _ _ _)); first | walk1 | (dsimp only; walk1) | (leave1; try dsimp only)) | fail "no step")))
  trivial
example : True := by
  (k_with "my use_cases" => (((case kB => first | k_asm | fail "use: below"); (case kF => first | k_asm | fail "use: frame"); (case kX => first | k_asm | fail "use: written part"); (case kN => first | k_asm | fail "use: ledger"); (case kT => first | k_asm | fail "use: top"); (case kk => first | exact rfl | assumption | fail "use: kind"); (case kd => first | ktr_room | fail "use: room"); (case ku => first | ktr_units | fail "use: units"))))
  trivial
example : True := by
  (k_with "my my_enterT" => ((refine wpAny_call ?_; k_dflt (first
      | (refine' enterT ?ksub_q5 ?ksz_q5 ?k3_q5 ?k5_q5 ?kt_q5 ?kg_q5 ?k6_q5 ?k7_q5 ?k8_q5 ?k9_q5 ?kB_q5 ?_ ?c2_q5 ?c3_q5 ?c4_q5 ?c5_q5; (case ksub_q5 => assumption); (case ksz_q5 => assumption); (case kt_q5 => assumption); (case kg_q5 => assumption); (case k3_q5 => k_asm); (case k5_q5 => k_asm); (case k6_q5 => k_is); (case k7_q5 => k_is); (case k8_q5 => k_room); (case k9_q5 => first | exact BindsTo.of_eq (binds := [(_, _)]) rfl | exact BindsTo.of_eq (binds := [(_, _), (_, _)]) rfl | exact BindsTo.of_eq rfl | exact binds_K (by k_in) rfl (by k_is) rfl rfl rfl | fail "my_enter: no rule for these arguments"); (case c5_q5 => decide); (case kB_q5 => exact locs rfl); (case c2_q5 => exact rfl); (case c3_q5 => exact rfl); (case c4_q5 => exact rfl); k_whole; intro L' h' F' N' l0; (replace l0 := ltN l0); (try dsimp only); (try k_fold))
      | (refine' enterTC ?ksub_q5 ?ksz_q5 ?k3_q5 ?k5_q5 ?kt_q5 ?kg_q5 ?k6_q5 ?k7_q5 ?k8_q5 ?k9_q5 ?kB_q5 ?kD_q5 ?_ ?c2_q5 ?c3_q5 ?c4_q5; (case ksub_q5 => assumption); (case ksz_q5 => assumption); (case kt_q5 => assumption); (case kg_q5 => assumption); (case k3_q5 => k_asm); (case k5_q5 => k_asm); (case k6_q5 => k_is); (case k7_q5 => k_is); (case k8_q5 => k_room); (case k9_q5 => first | exact BindsTo.of_eq (binds := [(_, _)]) rfl | exact BindsTo.of_eq (binds := [(_, _), (_, _)]) rfl | exact BindsTo.of_eq rfl | exact binds_K (by k_in) rfl (by k_is) rfl rfl rfl | fail "my_enter: no rule for these arguments"); (case kB_q5 => exact rfl); (case kD_q5 => decide +kernel); (case c2_q5 => exact rfl); (case c3_q5 => exact rfl); (case c4_q5 => exact rfl); k_whole; intro L' h' tk' cells' F' N' Y' l0; (replace l0 := ltN l0); k_cells Y'; (try simp only [List.cons_append, List.nil_append, List.append_nil] at N'); (try dsimp only); (try k_fold))))))
  trivial
example : True := by
  (k_with "my execs cons" => (((with_reducible refine wpAny_execs_cons ?_); (try dsimp only); (try k_fold); (try ((rename Fr _ _ _ _ => F9); (refine foldFr F9 ?_); (intro mk9 F8); (clear F9))))))
  trivial
example : True := by
  (k_with "my size_fits" => (exact Nat.le_of_ble_eq_true rfl))
  trivial
example : True := by
  (k_with "my pick_chain" => (((iterate 15 (try (first | with_reducible assumption | apply pickR))); done)))
  trivial
example : True := by
  (k_with "my pick_one" => ((first | with_reducible assumption | (apply pickL; walk_at "pick_chain") | walk_at "pick_chain")))
  trivial
example : True := by
  (k_with "my pick_ne" => ((refine neN ?_; (try dsimp only); (first | with_reducible assumption | (refine Nat.ne_of_lt ?_; (simp only [*]; done)) | (refine Nat.ne_of_gt ?_; (simp only [*]; done)) | (simp only [*, ne_eq, not_false_eq_true]; done) | (refine Ne.symm ?_; (simp only [*, ne_eq, not_false_eq_true]; done)) | (refine ne_up ?_; (simp only [*]; done)) | (refine ne_up' ?_; (simp only [*]; done))))))
  trivial
example : True := by
  (k_with "my pick_lim" => ((first
      | (refine' lim1 ?h_q11 ?k_q11; (case h_q11 => assumption); (case k_q11 => exact rfl))
      | (refine' lim2 ?h_q11 ?k_q11; (case h_q11 => assumption); (case k_q11 => exact rfl))
      | (refine' lim0 ?h_q11; (case h_q11 => assumption))
      | (refine' lim3 ?h_q11 ?k_q11; (case h_q11 => assumption); (case k_q11 => exact rfl)))))
  trivial
example : True := by
  (k_with "my pick_all" => ((first | exact allNe_nil | (refine' allNe_cons ?a_q12 ?b_q12; (case a_q12 => k_ne); (case b_q12 => k_all)))))
  trivial
example : True := by
  (k_with "my eval Name" => ((k_here; (with_reducible show wpAny _ _ (eval (Expr.Name _ _) (compEnvC _ _ _ _)) _ _ _); k_dflt (first | refine LCgL.ld_own (by with_reducible assumption) (by k_mem) (by with_reducible assumption) (by with_reducible assumption) ?_ | refine LCgL.ld_global (by with_reducible assumption) (by with_reducible assumption) (by with_reducible assumption) (by k_is) ?_ | refine LCgL.ld_built (by with_reducible assumption) (by with_reducible assumption) (by with_reducible assumption) (by k_is) (by boot_by_name) (by decide) ?_))))
  trivial

section
example : True := by
  (k_with "my lcg_src" => (first | exact ⟨_, by k_mem, rfl, _, rfl⟩ | exact Or.inr ⟨_, by k_mem, rfl, _, rfl⟩))
  trivial
example : True := by
  (k_with "my exec Assign cons ListComp" => ((k_here; (with_reducible show wpAny _ _ (exec (Stmt.Assign _ (Expr.ListComp _ [⟨_, Expr.Name (Str.ofString "paths") _, _, _⟩] _ _) _) _) _ _ _); k_dflt (refine Assign_ListComp_T (F₀ := by k_asm) (by rfl) (by with_unfolding_all rfl) (by with_unfolding_all rfl) (by decide) (by rfl) (by decide) (by rfl) (by rfl) (by rfl) ?_))))
  trivial
example : True := by
  (k_with "my TupGoal" => (((try simp only [List.cons_append, List.nil_append] at *); k_dflt (refine TupGoal.intro (by rfl) (by k_asm) (by k_asm) (by k_mem) (by first | size_fits | exact Nat.le_of_ble_eq_true rfl) ?_; intro g'; lcg_lit))))
  trivial
example : True := by
  (k_with "my exec Try" => (refine wpAny_Try_except ?_))
  trivial
example : True := by
  (k_with "my call type:map" => ((k_dflt (refine' map_K ?F_q51 ?N_q51 ?l_q51 ?_; (case F_q51 => k_asm); (case N_q51 => k_asm); (case l_q51 => exact Fr.keep (by k_asm) _ _ (by assumption))); intro m' p' i' h' F' N' l1' l2' l3'; (try k_sweep))))
  trivial
example : True := by
  (k_with "my call type:tuple" => ((k_dflt (refine' tupmap_K ?kB_q52 ?kF_q52 ?kX_q52 ?kN_q52 ?kT_q52 ?kk_q52 ?w_q52 ?l_q52 ?li_q52 ?n_q52 ?s_q52 ?kd_q52 ?ku_q52 ?fs_q52 ?_; (case kB_q52 => k_asm); (case kF_q52 => k_asm); (case kX_q52 => k_asm); (case kN_q52 => k_asm); (case kT_q52 => k_asm); (case kk_q52 => exact rfl); (case w_q52 => assumption); (case l_q52 => assumption); (case li_q52 => assumption); (case n_q52 => exact Nat.le_of_ble_eq_true rfl); (case s_q52 => (intro x hx; simp at hx; rcases hx with rfl | rfl <;> exact ⟨_, _, rfl⟩)); (case kd_q52 => ktr_room); (case ku_q52 => ktr_units); (case fs_q52 => exact fun z t => fspath_spec _ z t)); intro t' h' k' F' N'; (try k_sweep))))
  trivial
example : True := by
  (k_with "my call builtin:str.split" => ((k_dflt (refine KSpl.split1 (by k_asm) (by k_asm) (by decide) ?_ (by kspl_size)); (intro D' l' h' k' e' a' F' N' l1); (try k_lt l1); (rw [split4 _ _ _ _ (by assumption) (by assumption) (by assumption) (by assumption)] at e'); kspl_open e'; (simp only [strValues, List.map_cons, List.map_nil] at N'))))
  trivial
example : True := by
  (k_with "my eval SetComp" => ((k_here; k_dflt (refine SetComp_T (F₀ := by k_asm) (by with_unfolding_all rfl) (by decide) (by rfl) (by decide) (by rfl) ?_))))
  trivial
example : True := by
  (k_with "my SetGoal" => (((try simp only [List.cons_append, List.nil_append] at *); k_dflt (refine SetGoal.intro (by rfl) (by k_asm) (by k_asm) (by k_mem) (by first | size_fits | exact Nat.le_of_ble_eq_true rfl) (by exact Nat.le_of_ble_eq_true rfl) (List.forall_mem_cons.mpr ⟨?_, List.forall_mem_cons.mpr ⟨?_, List.forall_mem_nil _⟩⟩) ?_))))
  trivial
example : True := by
  (k_with "my SetEnd" => (exact SetEnd.intro (sw_P4 _ _ _ _)))
  trivial
example : True := by
  (k_with "my assign Tuple" => ((refine assign_T1 ?_; k_dflt (refine unpack_K (by k_asm) (by k_asm) (by k_mem) (by rfl) ?_); intro h' F' N'; refine ⟨_, rfl, ?_⟩)))
  trivial
example : True := by
  (k_with "my unpackItems ref" => ((k_dflt (refine unpack_K (by k_asm) (by k_asm) (by k_mem) (by rfl) ?_); intro h' F' N')))
  trivial
example : True := by
  (k_with "my eval ListComp" => ((k_here; (with_reducible show wpAny _ _ (eval (Expr.ListComp _ [⟨_, Expr.Name (Str.ofString "s") _, _, _⟩] _ _) _) _ _ _); k_dflt (refine LCt.ListComp_T (F₀ := by k_asm) (by with_unfolding_all rfl) (by decide) (by rfl) (by decide) (by rfl) ?_))))
  trivial
example : True := by
  (k_with "my CompSrcT" => ((k_here; k_dflt (refine' src_P4 ?a1_q60 ?a2_q60 ?a3_q60 ?a4_q60 ?a5_q60 ?a6_q60 ?a7_q60 ?a8_q60 ?a9_q60 ?a10_q60 ?b1_q60 ?b2_q60 ?b3_q60 ?b4_q60 ?_; (case a1_q60 => exact rfl); (case a2_q60 => k_asm); (case a3_q60 => k_asm); (case a4_q60 => k_mem); (case a5_q60 => exact fun _ => rfl); (case a6_q60 => exact fun _ => rfl); (case a7_q60 => exact fun _ => rfl); (case a8_q60 => exact rfl); (case a9_q60 => k_mem); (case a10_q60 => k_asm); (case b1_q60 => assumption); (case b2_q60 => assumption); (case b3_q60 => assumption); (case b4_q60 => assumption)); intro g')))
  trivial
example : True := by
  (k_with "my exec Assign cons ListComp" => ((k_here; (with_reducible show wpAny _ _ (exec (Stmt.Assign _ (Expr.ListComp _ [⟨_, Expr.Name (Str.ofString "split_paths") _, _, _⟩] _ _) _) _) _ _ _); k_dflt (refine LCg.Assign_ListComp_U (F₀ := by k_asm) (by rfl) (by with_unfolding_all rfl) (by with_unfolding_all rfl) (by decide) (by rfl) (by decide) (by rfl) (by rfl) (by rfl) ?_))))
  trivial
example : True := by
  (k_with "my CompSrc" => ((k_here; k_dflt (refine srcU2 (by rfl) (by k_asm) (by k_asm) (by k_mem) ?_); intro g')))
  trivial
example : True := by
  (k_with "my lcg_off" => ((simp only [LCg.Off3, and_true]; first | assumption | (refine And.intro ⟨by k_ne, by k_ne, by k_ne⟩ ?_; assumption))))
  trivial
example : True := by
  (k_with "my subscriptTail Name Name ref int" => ((k_here; (with_reducible show wpAny _ _ (subscriptTail _ _ (Value.ref _) (Value.int _ _)) _ _ _); k_dflt (refine' item_L ?a1_q64 ?a2_q64 ?a3_q64 ?a4_q64 ?a5_q64 ?_; (case a1_q64 => k_asm); (case a2_q64 => k_mem); (case a3_q64 => decide); (case a4_q64 => decide); (case a5_q64 => exact rfl)))))
  trivial
example : True := by
  (k_with "my call builtin:str.join" => ((k_here; k_dflt (first | (refine' jn1 ?a1_q65 ?a2_q65 ?_; (case a1_q65 => k_asm); (case a2_q65 => k_mem)) | (refine' jn2 ?a1_q65 ?a2_q65 ?_; (case a1_q65 => k_asm); (case a2_q65 => k_mem)) | (refine' jn3 ?a1_q65 ?a2_q65 ?_; (case a1_q65 => k_asm); (case a2_q65 => k_mem)) | (refine' jn4 ?a1_q65 ?a2_q65 ?_; (case a1_q65 => k_asm); (case a2_q65 => k_mem))); intro _ _)))
  trivial
example : True := by
  (k_with "my binaryOp Add str str" => (((with_reducible (first | refine ad1 ?_ | refine ad2 ?_ | refine ad3 ?_ | refine ad4 ?_)); intro _ _)))
  trivial
example : True := by
  (k_with "my call builtin:min" => ((k_dflt (refine min2_K (by k_asm) (by k_asm) (by rfl) (by ktr_units) (by k_mem) (by k_mem) (by k_mem) ?_); intro h' tk' lx' x0' x1' x2' x3' v0' v1' v2' v3' F' N' hMin')))
  trivial
example : True := by
  (k_with "my call builtin:max" => ((k_dflt (refine max2_K (by k_asm) (by k_asm) (by rfl) (by ktr_units) (by k_mem) (by k_mem) (by k_mem) ?_); intro h' tk' lx' x0' x1' x2' x3' v0' v1' v2' v3' F' N' hMax')))
  trivial
theorem cp2_spec (w : World) (l : Addr) (n : Nat) (a0 a1 a2 a3 b0 b1 b2 b3 : Nat) (t u : Tok) (ha0 : a0 ≠ 47) (ha1 : a1 ≠ 47) (ha2 : a2 ≠ 47) (ha3 : a3 ≠ 47) (hb0 : b0 ≠ 47) (hb1 : b1 ≠ 47) (hb2 : b2 ≠ 47) (hb3 : b3 ≠ 47) (da0 : a0 ≠ 46) (da1 : a1 ≠ 46) (da2 : a2 ≠ 46) (da3 : a3 ≠ 46) (db0 : b0 ≠ 46) (db1 : b1 ≠ 46) (db2 : b2 ≠ 46) (db3 : b3 ≠ 46) :
    SpecP w 199 [.ref l] [] 3 (fun h => h.get? l = some ⟨.type "list", none, .seq #[.str (P4 a0 a1 a2 a3) t, .str (P4 b0 b1 b2 b3) u] n, #[]⟩) (fun r _ _ => ∃ t, r = .str (cpT a0 a1 a2 a3 b0 b1 b2 b3) t) := by
  unfold SpecP
  k_fill
  intro _ dp un gd outer base s Q E p loose mean mg mb B X T hpre hdp hun hret
  walk_at "my_enter"
  walk_at "my_steps"
  all_goals rw [← cp_pick (by assumption) (by assumption)] at hret
  · exact hret _ _ _ (Fr.keep (by assumption)) ⟨_, congrArg (Value.str · _) (join0.trans (cp_0 (by assumption)))⟩
  · exact hret _ _ _ (Fr.keep (by assumption)) ⟨_, congrArg (Value.str · _) (cp_1 (by assumption) (by assumption))⟩
  · exact hret _ _ _ (Fr.keep (by assumption)) ⟨_, congrArg (Value.str · _) (cp_2 (by assumption) (by assumption) (by assumption))⟩
  · exact hret _ _ _ (Fr.keep (by assumption)) ⟨_, congrArg (Value.str · _) (cp_3 (by assumption) (by assumption) (by assumption) (by assumption))⟩
  · exact hret _ _ _ (Fr.keep (by assumption)) ⟨_, congrArg (Value.str · _) (cp_4 (by assumption) (by assumption) (by assumption) (by assumption))⟩
end

example : True := by
  k_with_none
  trivial
example : True := by
  (k_with "my my_enter" => ((refine wpAny_call ?_; k_dflt (first
      | (refine' enterP ?k3_q1 ?k5_q1 ?k6_q1 ?k7_q1 ?k8_q1 ?k9_q1 ?kB_q1 ?_ ?c2_q1 ?c3_q1 ?c4_q1 ?c5_q1; (case k3_q1 => k_asm); (case k5_q1 => k_asm); (case k6_q1 => k_is); (case k7_q1 => k_is); (case k8_q1 => k_room); (case k9_q1 => first | exact BindsTo.of_eq (binds := [(_, _)]) rfl | exact BindsTo.of_eq (binds := [(_, _), (_, _)]) rfl | exact BindsTo.of_eq rfl | exact binds_K (by k_in) rfl (by k_is) rfl rfl rfl | fail "my_enter: no rule for these arguments"); (case c5_q1 => decide); (case kB_q1 => exact locs rfl); (case c2_q1 => exact rfl); (case c3_q1 => exact rfl); (case c4_q1 => exact rfl); k_whole; intro L' h' F' N'; (try dsimp only); (try k_fold))
      | (refine' enterPC ?k3_q1 ?k5_q1 ?k6_q1 ?k7_q1 ?k8_q1 ?k9_q1 ?kB_q1 ?kD_q1 ?_ ?c2_q1 ?c3_q1 ?c4_q1; (case k3_q1 => k_asm); (case k5_q1 => k_asm); (case k6_q1 => k_is); (case k7_q1 => k_is); (case k8_q1 => k_room); (case k9_q1 => first | exact BindsTo.of_eq (binds := [(_, _)]) rfl | exact BindsTo.of_eq (binds := [(_, _), (_, _)]) rfl | exact BindsTo.of_eq rfl | exact binds_K (by k_in) rfl (by k_is) rfl rfl rfl | fail "my_enter: no rule for these arguments"); (case kB_q1 => exact rfl); (case kD_q1 => decide +kernel); (case c2_q1 => exact rfl); (case c3_q1 => exact rfl); (case c4_q1 => exact rfl); k_whole; intro L' h' tk' cells' F' N' Y'; k_cells Y'; (try simp only [List.cons_append, List.nil_append, List.append_nil] at N'); (try dsimp only); (try k_fold))))))
  trivial
example : True := by
  (k_with "my call type:type" => (((with_reducible show wpAny _ _ (call _ [Value.bytes _ _]) _ _ _); refine call_type_of (Tx := "bytes") rfl (by decide +kernel) ?_)))
  trivial
example : True := by
  (k_with "my my_steps" => (repeat' (first | (k_unfold; (try dsimp only)) | ((fail_if_success (with_reducible show InvEndN _ _ _ _ _ _ _)); first | walk1 | (dsimp only; walk1) | (leave1; try dsimp only)) | fail "no step")))
  trivial
example : True := by
  (k_with "my use_cases" => (((case kB => first | k_asm | fail "use: below"); (case kF => first | k_asm | fail "use: frame"); (case kX => first | k_asm | fail "use: written part"); (case kN => first | k_asm | fail "use: ledger"); (case kT => first | k_asm | fail "use: top"); (case kk => first | exact rfl | assumption | fail "use: kind"); (case kd => first | ktr_room | fail "use: room"); (case ku => first | ktr_units | fail "use: units"))))
  trivial
example : True := by
  (k_with "my my_enterT" => ((refine wpAny_call ?_; k_dflt (first
      | (refine' enterT ?ksub_q5 ?ksz_q5 ?k3_q5 ?k5_q5 ?kt_q5 ?kg_q5 ?k6_q5 ?k7_q5 ?k8_q5 ?k9_q5 ?kB_q5 ?_ ?c2_q5 ?c3_q5 ?c4_q5 ?c5_q5; (case ksub_q5 => assumption); (case ksz_q5 => assumption); (case kt_q5 => assumption); (case kg_q5 => assumption); (case k3_q5 => k_asm); (case k5_q5 => k_asm); (case k6_q5 => k_is); (case k7_q5 => k_is); (case k8_q5 => k_room); (case k9_q5 => first | exact BindsTo.of_eq (binds := [(_, _)]) rfl | exact BindsTo.of_eq (binds := [(_, _), (_, _)]) rfl | exact BindsTo.of_eq rfl | exact binds_K (by k_in) rfl (by k_is) rfl rfl rfl | fail "my_enter: no rule for these arguments"); (case c5_q5 => decide); (case kB_q5 => exact locs rfl); (case c2_q5 => exact rfl); (case c3_q5 => exact rfl); (case c4_q5 => exact rfl); k_whole; intro L' h' F' N' l0; (replace l0 := ltN l0); (try dsimp only); (try k_fold))
      | (refine' enterTC ?ksub_q5 ?ksz_q5 ?k3_q5 ?k5_q5 ?kt_q5 ?kg_q5 ?k6_q5 ?k7_q5 ?k8_q5 ?k9_q5 ?kB_q5 ?kD_q5 ?_ ?c2_q5 ?c3_q5 ?c4_q5; (case ksub_q5 => assumption); (case ksz_q5 => assumption); (case kt_q5 => assumption); (case kg_q5 => assumption); (case k3_q5 => k_asm); (case k5_q5 => k_asm); (case k6_q5 => k_is); (case k7_q5 => k_is); (case k8_q5 => k_room); (case k9_q5 => first | exact BindsTo.of_eq (binds := [(_, _)]) rfl | exact BindsTo.of_eq (binds := [(_, _), (_, _)]) rfl | exact BindsTo.of_eq rfl | exact binds_K (by k_in) rfl (by k_is) rfl rfl rfl | fail "my_enter: no rule for these arguments"); (case kB_q5 => exact rfl); (case kD_q5 => decide +kernel); (case c2_q5 => exact rfl); (case c3_q5 => exact rfl); (case c4_q5 => exact rfl); k_whole; intro L' h' tk' cells' F' N' Y' l0; (replace l0 := ltN l0); k_cells Y'; (try simp only [List.cons_append, List.nil_append, List.append_nil] at N'); (try dsimp only); (try k_fold))))))
  trivial
example : True := by
  (k_with "my execs cons" => (((with_reducible refine wpAny_execs_cons ?_); (try dsimp only); (try k_fold); (try ((rename Fr _ _ _ _ => F9); (refine foldFr F9 ?_); (intro mk9 F8); (clear F9))))))
  trivial
example : True := by
  (k_with "my size_fits" => (exact Nat.le_of_ble_eq_true rfl))
  trivial
example : True := by
  (k_with "my pick_chain" => (((iterate 15 (try (first | with_reducible assumption | apply pickR))); done)))
  trivial
example : True := by
  (k_with "my pick_one" => ((first | with_reducible assumption | (apply pickL; walk_at "pick_chain") | walk_at "pick_chain")))
  trivial
example : True := by
  (k_with "my pick_ne" => ((refine neN ?_; (try dsimp only); (first | with_reducible assumption | (refine Nat.ne_of_lt ?_; (simp only [*]; done)) | (refine Nat.ne_of_gt ?_; (simp only [*]; done)) | (simp only [*, ne_eq, not_false_eq_true]; done) | (refine Ne.symm ?_; (simp only [*, ne_eq, not_false_eq_true]; done)) | (refine ne_up ?_; (simp only [*]; done)) | (refine ne_up' ?_; (simp only [*]; done))))))
  trivial
example : True := by
  (k_with "my pick_lim" => ((first
      | (refine' lim1 ?h_q11 ?k_q11; (case h_q11 => assumption); (case k_q11 => exact rfl))
      | (refine' lim2 ?h_q11 ?k_q11; (case h_q11 => assumption); (case k_q11 => exact rfl))
      | (refine' lim0 ?h_q11; (case h_q11 => assumption))
      | (refine' lim3 ?h_q11 ?k_q11; (case h_q11 => assumption); (case k_q11 => exact rfl)))))
  trivial
example : True := by
  (k_with "my pick_all" => ((first | exact allNe_nil | (refine' allNe_cons ?a_q12 ?b_q12; (case a_q12 => k_ne); (case b_q12 => k_all)))))
  trivial
example : True := by
  (k_with "my eval Name" => ((k_here; (with_reducible show wpAny _ _ (eval (Expr.Name _ _) (compEnvC _ _ _ _)) _ _ _); k_dflt (first | refine LCgL.ld_own (by with_reducible assumption) (by k_mem) (by with_reducible assumption) (by with_reducible assumption) ?_ | refine LCgL.ld_global (by with_reducible assumption) (by with_reducible assumption) (by with_reducible assumption) (by k_is) ?_ | refine LCgL.ld_built (by with_reducible assumption) (by with_reducible assumption) (by with_reducible assumption) (by k_is) (by boot_by_name) (by decide) ?_))))
  trivial

section
example : True := by
  (k_with "my lcg_src" => (first | exact ⟨_, by k_mem, rfl, _, rfl⟩ | exact Or.inr ⟨_, by k_mem, rfl, _, rfl⟩))
  trivial
example : True := by
  (k_with "my exec Assign cons ListComp" => ((k_here; (with_reducible show wpAny _ _ (exec (Stmt.Assign _ (Expr.ListComp _ [⟨_, Expr.Name (Str.ofString "paths") _, _, _⟩] _ _) _) _) _ _ _); k_dflt (refine Assign_ListComp_T (F₀ := by k_asm) (by rfl) (by with_unfolding_all rfl) (by with_unfolding_all rfl) (by decide) (by rfl) (by decide) (by rfl) (by rfl) (by rfl) ?_))))
  trivial
example : True := by
  (k_with "my TupGoal" => (((try simp only [List.cons_append, List.nil_append] at *); k_dflt (refine TupGoal.intro (by rfl) (by k_asm) (by k_asm) (by k_mem) (by first | size_fits | exact Nat.le_of_ble_eq_true rfl) ?_; intro g'; lcg_lit))))
  trivial
example : True := by
  (k_with "my exec Try" => (refine wpAny_Try_except ?_))
  trivial
example : True := by
  (k_with "my call type:map" => ((k_dflt (refine' map_K ?F_q73 ?N_q73 ?l_q73 ?_; (case F_q73 => k_asm); (case N_q73 => k_asm); (case l_q73 => exact Fr.keep (by k_asm) _ _ (by assumption))); intro m' p' i' h' F' N' l1' l2' l3'; (try k_sweep))))
  trivial
example : True := by
  (k_with "my call type:tuple" => ((k_dflt (refine' tupmap_K ?kB_q74 ?kF_q74 ?kX_q74 ?kN_q74 ?kT_q74 ?kk_q74 ?w_q74 ?l_q74 ?li_q74 ?n_q74 ?s_q74 ?kd_q74 ?ku_q74 ?fs_q74 ?_; (case kB_q74 => k_asm); (case kF_q74 => k_asm); (case kX_q74 => k_asm); (case kN_q74 => k_asm); (case kT_q74 => k_asm); (case kk_q74 => exact rfl); (case w_q74 => assumption); (case l_q74 => assumption); (case li_q74 => assumption); (case n_q74 => exact Nat.le_of_ble_eq_true rfl); (case s_q74 => (intro x hx; simp at hx; rcases hx with rfl | rfl | rfl <;> exact ⟨_, _, rfl⟩)); (case kd_q74 => ktr_room); (case ku_q74 => ktr_units); (case fs_q74 => exact fun z t => fspath_spec _ z t)); intro t' h' k' F' N'; (try k_sweep))))
  trivial
example : True := by
  (k_with "my call builtin:str.split" => ((k_dflt (refine KSpl.split1 (by k_asm) (by k_asm) (by decide) ?_ (by kspl_size)); (intro D' l' h' k' e' a' F' N' l1); (try k_lt l1); (first | rw [split4 _ _ _ _ (by assumption) (by assumption) (by assumption) (by assumption)] at e' | rw [Mine.split1 _ (by assumption)] at e'); kspl_open e'; (simp only [strValues, List.map_cons, List.map_nil] at N'))))
  trivial
example : True := by
  (k_with "my eval SetComp" => ((k_here; k_dflt (refine SetComp_T (F₀ := by k_asm) (by with_unfolding_all rfl) (by decide) (by rfl) (by decide) (by rfl) ?_))))
  trivial
example : True := by
  (k_with "my SetGoal" => (((try simp only [List.cons_append, List.nil_append] at *); k_dflt (refine SetGoal.intro (by rfl) (by k_asm) (by k_asm) (by k_mem) (by first | size_fits | exact Nat.le_of_ble_eq_true rfl) (by exact Nat.le_of_ble_eq_true rfl) (List.forall_mem_cons.mpr ⟨?_, List.forall_mem_cons.mpr ⟨?_, List.forall_mem_cons.mpr ⟨?_, List.forall_mem_nil _⟩⟩⟩) ?_))))
  trivial
example : True := by
  (k_with "my SetEnd" => (first | exact SetEnd.intro (sw_P4 _ _ _ _) | exact SetEnd.intro (sw_P1 _)))
  trivial
example : True := by
  (k_with "my assign Tuple" => ((refine assign_T1 ?_; k_dflt (refine unpack_K (by k_asm) (by k_asm) (by k_mem) (by rfl) ?_); intro h' F' N'; refine ⟨_, rfl, ?_⟩)))
  trivial
example : True := by
  (k_with "my unpackItems ref" => ((k_dflt (refine unpack_K (by k_asm) (by k_asm) (by k_mem) (by rfl) ?_); intro h' F' N')))
  trivial
example : True := by
  (k_with "my eval ListComp" => ((k_here; (with_reducible show wpAny _ _ (eval (Expr.ListComp _ [⟨_, Expr.Name (Str.ofString "s") _, _, _⟩] _ _) _) _ _ _); k_dflt (refine LCt.ListComp_T (F₀ := by k_asm) (by with_unfolding_all rfl) (by decide) (by rfl) (by decide) (by rfl) ?_))))
  trivial
example : True := by
  (k_with "my CompSrcT" => ((k_here; k_dflt (first | (refine' src_P4 ?a1_q82 ?a2_q82 ?a3_q82 ?a4_q82 ?a5_q82 ?a6_q82 ?a7_q82 ?a8_q82 ?a9_q82 ?a10_q82 ?b1_q82 ?b2_q82 ?b3_q82 ?b4_q82 ?_; (case a1_q82 => exact rfl); (case a2_q82 => k_asm); (case a3_q82 => k_asm); (case a4_q82 => k_mem); (case a5_q82 => exact fun _ => rfl); (case a6_q82 => exact fun _ => rfl); (case a7_q82 => exact fun _ => rfl); (case a8_q82 => exact rfl); (case a9_q82 => k_mem); (case a10_q82 => k_asm); (case b1_q82 => assumption); (case b2_q82 => assumption); (case b3_q82 => assumption); (case b4_q82 => assumption)) | (refine' src_P1 ?a1_q82 ?a2_q82 ?a3_q82 ?a4_q82 ?a5_q82 ?a6_q82 ?a7_q82 ?a8_q82 ?a9_q82 ?a10_q82 ?b1_q82 ?_; (case a1_q82 => exact rfl); (case a2_q82 => k_asm); (case a3_q82 => k_asm); (case a4_q82 => k_mem); (case a5_q82 => exact fun _ => rfl); (case a6_q82 => exact fun _ => rfl); (case a7_q82 => exact fun _ => rfl); (case a8_q82 => exact rfl); (case a9_q82 => k_mem); (case a10_q82 => k_asm); (case b1_q82 => assumption))); intro g')))
  trivial
example : True := by
  (k_with "my exec Assign cons ListComp" => ((k_here; (with_reducible show wpAny _ _ (exec (Stmt.Assign _ (Expr.ListComp _ [⟨_, Expr.Name (Str.ofString "split_paths") _, _, _⟩] _ _) _) _) _ _ _); k_dflt (refine LCg.Assign_ListComp_U (F₀ := by k_asm) (by rfl) (by with_unfolding_all rfl) (by with_unfolding_all rfl) (by decide) (by rfl) (by decide) (by rfl) (by rfl) (by rfl) ?_))))
  trivial
example : True := by
  (k_with "my CompSrc" => ((k_here; k_dflt (refine srcU3 (by rfl) (by k_asm) (by k_asm) (by k_mem) ?_); intro g')))
  trivial
example : True := by
  (k_with "my lcg_off" => ((simp only [LCg.Off3, and_true]; first | assumption | (refine And.intro ⟨by k_ne, by k_ne, by k_ne⟩ ?_; assumption))))
  trivial
example : True := by
  (k_with "my subscriptTail Name Name ref int" => ((k_here; (with_reducible show wpAny _ _ (subscriptTail _ _ (Value.ref _) (Value.int _ _)) _ _ _); k_dflt (refine' item_L ?a1_q86 ?a2_q86 ?a3_q86 ?a4_q86 ?a5_q86 ?_; (case a1_q86 => k_asm); (case a2_q86 => k_mem); (case a3_q86 => decide); (case a4_q86 => decide); (case a5_q86 => exact rfl)))))
  trivial
example : True := by
  (k_with "my call builtin:str.join" => ((k_here; k_dflt (first | (refine' jn1 ?a1_q87 ?a2_q87 ?_; (case a1_q87 => k_asm); (case a2_q87 => k_mem)) | (refine' jn2 ?a1_q87 ?a2_q87 ?_; (case a1_q87 => k_asm); (case a2_q87 => k_mem)) | (refine' jn3 ?a1_q87 ?a2_q87 ?_; (case a1_q87 => k_asm); (case a2_q87 => k_mem)) | (refine' jn4 ?a1_q87 ?a2_q87 ?_; (case a1_q87 => k_asm); (case a2_q87 => k_mem))); intro _ _)))
  trivial
example : True := by
  (k_with "my binaryOp Add str str" => (((with_reducible (first | refine ad1 ?_ | refine ad2 ?_ | refine ad3 ?_ | refine ad4 ?_)); intro _ _)))
  trivial
example : True := by
  (k_with "my call builtin:min" => ((k_dflt (refine min3_K (by k_asm) (by k_asm) (by rfl) (by ktr_units) (by k_mem) (by k_mem) (by k_mem) (by k_mem) ?_); intro h' tk' F' N')))
  trivial
example : True := by
  (k_with "my call builtin:max" => ((k_dflt (refine max3_K (by k_asm) (by k_asm) (by rfl) (by ktr_units) (by k_mem) (by k_mem) (by k_mem) (by k_mem) ?_); intro h' tk' lx' x1' x2' x3' v0' v1' v2' v3' F' N')))
  trivial
example : True := by
  (k_with "my compareOp NotEq str str" => ((with_reducible (refine ne_self_str ?_))))
  trivial
theorem cp3_spec (w : World) (l : Addr) (n : Nat) (c a1 a2 a3 b1 b2 b3 : Nat) (t u v : Tok) (hc : c ≠ 47) (ha1 : a1 ≠ 47) (ha2 : a2 ≠ 47) (ha3 : a3 ≠ 47) (hb1 : b1 ≠ 47) (hb2 : b2 ≠ 47) (hb3 : b3 ≠ 47) (dc : c ≠ 46) (da1 : a1 ≠ 46) (da2 : a2 ≠ 46) (da3 : a3 ≠ 46) (db1 : b1 ≠ 46) (db2 : b2 ≠ 46) (db3 : b3 ≠ 46) :
    SpecP w 199 [.ref l] [] 3 (fun h => h.get? l = some ⟨.type "list", none, .seq #[.str (P4 c a1 a2 a3) t, .str (P4 c b1 b2 b3) u, .str (P1 c) v] n, #[]⟩) (fun r _ _ => ∃ t, r = .str (P1 c) t) := by
  unfold SpecP
  k_fill
  intro _ dp un gd outer base s Q E p loose mean mg mb B X T hpre hdp hun hret
  walk_at "my_enter"
  walk_at "my_steps"
  all_goals exact hret _ _ _ (Fr.keep (by assumption)) ⟨_, rfl⟩
end

example : True := by
  k_with_none
  trivial
section
variable {prog : Program} {w : World} {A : Around} {E : Value → Shared → Prop} {s : Shared} {value slice : PySem.Expr} {l : Addr} {its : Array Value} {n j : Nat} {k : Int} {u : Tok} {v : Value} {Q : Value → Shared → Prop}
theorem item_H (hl : s.heap.get? l = some ⟨.type "list", none, .seq its n, #[]⟩) (h0 : 0 ≤ k) (hhi : k < 2 ^ 63) (hx : its[k.toNat]? = some v) (h : Q v s)
    (hs : subscripted slice false (.ref l) (.int k u) = operate [.ref l, .int k u] (getItem (.ref l) (.int k u)) := by with_unfolding_all rfl) :
    wpAny (model prog w) A (subscriptTail value slice (.ref l) (.int k u)) Q E s := by
  have hL : s.heap.IsList l its := ⟨_, hl, rfl, _, rfl⟩
  exact tail_any hL.typeIs slot_list_getitem.lookup (wpAny_getItem_list hL h0 hhi hx h) hs
theorem item_neg (hl : s.heap.get? l = some ⟨.type "list", none, .seq its n, #[]⟩) (h0 : k < 0) (h1 : -1000 ≤ k) (hj : k + its.size = j) (hx : its[j]? = some v) (h : Q v s)
    (hs : subscripted slice false (.ref l) (.int k u) = operate [.ref l, .int k u] (getItem (.ref l) (.int k u)) := by with_unfolding_all rfl) :
    wpAny (model prog w) A (subscriptTail value slice (.ref l) (.int k u)) Q E s := by
  have hL : s.heap.IsList l its := ⟨_, hl, rfl, _, rfl⟩
  have hz : j < its.size := (Array.getElem?_eq_some_iff.mp hx).1
  refine tail_any hL.typeIs slot_list_getitem.lookup (wpAny_getItem_list_neg hL h0 (by omega) (by omega) (by rw [hj]; exact hx) h) hs
theorem item3_0 {v0 v1 v2 : Value} (hl : s.heap.get? l = some ⟨.type "list", none, .seq #[v0, v1, v2] n, #[]⟩) (hk : k = 0) (h : Q v0 s)
    (hs : subscripted slice false (.ref l) (.int k u) = operate [.ref l, .int k u] (getItem (.ref l) (.int k u)) := by with_unfolding_all rfl) :
    wpAny (model prog w) A (subscriptTail value slice (.ref l) (.int k u)) Q E s := by
  subst hk
  exact item_H hl (by decide) (by decide) rfl h hs
theorem item3_1 {v0 v1 v2 : Value} (hl : s.heap.get? l = some ⟨.type "list", none, .seq #[v0, v1, v2] n, #[]⟩) (hk : k = 1) (h : Q v1 s)
    (hs : subscripted slice false (.ref l) (.int k u) = operate [.ref l, .int k u] (getItem (.ref l) (.int k u)) := by with_unfolding_all rfl) :
    wpAny (model prog w) A (subscriptTail value slice (.ref l) (.int k u)) Q E s := by
  subst hk
  exact item_H hl (by decide) (by decide) rfl h hs
theorem item3_2 {v0 v1 v2 : Value} (hl : s.heap.get? l = some ⟨.type "list", none, .seq #[v0, v1, v2] n, #[]⟩) (hk : k = 2) (h : Q v2 s)
    (hs : subscripted slice false (.ref l) (.int k u) = operate [.ref l, .int k u] (getItem (.ref l) (.int k u)) := by with_unfolding_all rfl) :
    wpAny (model prog w) A (subscriptTail value slice (.ref l) (.int k u)) Q E s := by
  subst hk
  exact item_H hl (by decide) (by decide) rfl h hs
theorem item3_n {v0 v1 v2 : Value} (hl : s.heap.get? l = some ⟨.type "list", none, .seq #[v0, v1, v2] n, #[]⟩) (hk : k = -1) (h : Q v2 s)
    (hs : subscripted slice false (.ref l) (.int k u) = operate [.ref l, .int k u] (getItem (.ref l) (.int k u)) := by with_unfolding_all rfl) :
    wpAny (model prog w) A (subscriptTail value slice (.ref l) (.int k u)) Q E s := by
  subst hk
  exact item_neg (j := 2) hl (by decide) (by decide) rfl rfl h hs
end

example : True := by
  k_with_none
  trivial
example : True := by
  (k_with "my my_enter" => ((refine wpAny_call ?_; k_dflt (first
      | (refine' enterP ?k3_q1 ?k5_q1 ?k6_q1 ?k7_q1 ?k8_q1 ?k9_q1 ?kB_q1 ?_ ?c2_q1 ?c3_q1 ?c4_q1 ?c5_q1; (case k3_q1 => k_asm); (case k5_q1 => k_asm); (case k6_q1 => k_is); (case k7_q1 => k_is); (case k8_q1 => k_room); (case k9_q1 => first | exact BindsTo.of_eq (binds := [(_, _)]) rfl | exact BindsTo.of_eq (binds := [(_, _), (_, _)]) rfl | exact BindsTo.of_eq rfl | exact binds_K (by k_in) rfl (by k_is) rfl rfl rfl | fail "my_enter: no rule for these arguments"); (case c5_q1 => decide); (case kB_q1 => exact locs rfl); (case c2_q1 => exact rfl); (case c3_q1 => exact rfl); (case c4_q1 => exact rfl); k_whole; intro L' h' F' N'; (try dsimp only); (try k_fold))
      | (refine' enterPC ?k3_q1 ?k5_q1 ?k6_q1 ?k7_q1 ?k8_q1 ?k9_q1 ?kB_q1 ?kD_q1 ?_ ?c2_q1 ?c3_q1 ?c4_q1; (case k3_q1 => k_asm); (case k5_q1 => k_asm); (case k6_q1 => k_is); (case k7_q1 => k_is); (case k8_q1 => k_room); (case k9_q1 => first | exact BindsTo.of_eq (binds := [(_, _)]) rfl | exact BindsTo.of_eq (binds := [(_, _), (_, _)]) rfl | exact BindsTo.of_eq rfl | exact binds_K (by k_in) rfl (by k_is) rfl rfl rfl | fail "my_enter: no rule for these arguments"); (case kB_q1 => exact rfl); (case kD_q1 => decide +kernel); (case c2_q1 => exact rfl); (case c3_q1 => exact rfl); (case c4_q1 => exact rfl); k_whole; intro L' h' tk' cells' F' N' Y'; k_cells Y'; (try simp only [List.cons_append, List.nil_append, List.append_nil] at N'); (try dsimp only); (try k_fold))))))
  trivial
example : True := by
  (k_with "my call type:type" => (((with_reducible show wpAny _ _ (call _ [Value.bytes _ _]) _ _ _); refine call_type_of (Tx := "bytes") rfl (by decide +kernel) ?_)))
  trivial
example : True := by
  (k_with "my my_steps" => (repeat' (first | (k_unfold; (try dsimp only)) | ((fail_if_success (with_reducible show InvEndN _ _ _ _ _ _ _)); first | walk1 | (dsimp only; walk1) | (leave1; try dsimp only)) | fail "no step")))
  trivial
example : True := by
  (k_with "my use_cases" => (((case kB => first | k_asm | fail "use: below"); (case kF => first | k_asm | fail "use: frame"); (case kX => first | k_asm | fail "use: written part"); (case kN => first | k_asm | fail "use: ledger"); (case kT => first | k_asm | fail "use: top"); (case kk => first | exact rfl | assumption | fail "use: kind"); (case kd => first | ktr_room | fail "use: room"); (case ku => first | ktr_units | fail "use: units"))))
  trivial
example : True := by
  (k_with "my my_enterT" => ((refine wpAny_call ?_; k_dflt (first
      | (refine' enterT ?ksub_q5 ?ksz_q5 ?k3_q5 ?k5_q5 ?kt_q5 ?kg_q5 ?k6_q5 ?k7_q5 ?k8_q5 ?k9_q5 ?kB_q5 ?_ ?c2_q5 ?c3_q5 ?c4_q5 ?c5_q5; (case ksub_q5 => assumption); (case ksz_q5 => assumption); (case kt_q5 => assumption); (case kg_q5 => assumption); (case k3_q5 => k_asm); (case k5_q5 => k_asm); (case k6_q5 => k_is); (case k7_q5 => k_is); (case k8_q5 => k_room); (case k9_q5 => first | exact BindsTo.of_eq (binds := [(_, _)]) rfl | exact BindsTo.of_eq (binds := [(_, _), (_, _)]) rfl | exact BindsTo.of_eq rfl | exact binds_K (by k_in) rfl (by k_is) rfl rfl rfl | fail "my_enter: no rule for these arguments"); (case c5_q5 => decide); (case kB_q5 => exact locs rfl); (case c2_q5 => exact rfl); (case c3_q5 => exact rfl); (case c4_q5 => exact rfl); k_whole; intro L' h' F' N' l0; (replace l0 := ltN l0); (try dsimp only); (try k_fold))
      | (refine' enterTC ?ksub_q5 ?ksz_q5 ?k3_q5 ?k5_q5 ?kt_q5 ?kg_q5 ?k6_q5 ?k7_q5 ?k8_q5 ?k9_q5 ?kB_q5 ?kD_q5 ?_ ?c2_q5 ?c3_q5 ?c4_q5; (case ksub_q5 => assumption); (case ksz_q5 => assumption); (case kt_q5 => assumption); (case kg_q5 => assumption); (case k3_q5 => k_asm); (case k5_q5 => k_asm); (case k6_q5 => k_is); (case k7_q5 => k_is); (case k8_q5 => k_room); (case k9_q5 => first | exact BindsTo.of_eq (binds := [(_, _)]) rfl | exact BindsTo.of_eq (binds := [(_, _), (_, _)]) rfl | exact BindsTo.of_eq rfl | exact binds_K (by k_in) rfl (by k_is) rfl rfl rfl | fail "my_enter: no rule for these arguments"); (case kB_q5 => exact rfl); (case kD_q5 => decide +kernel); (case c2_q5 => exact rfl); (case c3_q5 => exact rfl); (case c4_q5 => exact rfl); k_whole; intro L' h' tk' cells' F' N' Y' l0; (replace l0 := ltN l0); k_cells Y'; (try simp only [List.cons_append, List.nil_append, List.append_nil] at N'); (try dsimp only); (try k_fold))))))
  trivial
example : True := by
  (k_with "my execs cons" => (((with_reducible refine wpAny_execs_cons ?_); (try dsimp only); (try k_fold); (try ((rename Fr _ _ _ _ => F9); (refine foldFr F9 ?_); (intro mk9 F8); (clear F9))))))
  trivial
example : True := by
  (k_with "my size_fits" => (exact Nat.le_of_ble_eq_true rfl))
  trivial
example : True := by
  (k_with "my pick_chain" => (((iterate 15 (try (first | with_reducible assumption | apply pickR))); done)))
  trivial
example : True := by
  (k_with "my pick_one" => ((first | with_reducible assumption | (apply pickL; walk_at "pick_chain") | walk_at "pick_chain")))
  trivial
example : True := by
  (k_with "my pick_ne" => ((refine neN ?_; (try dsimp only); (first | with_reducible assumption | (refine Nat.ne_of_lt ?_; (simp only [*]; done)) | (refine Nat.ne_of_gt ?_; (simp only [*]; done)) | (simp only [*, ne_eq, not_false_eq_true]; done) | (refine Ne.symm ?_; (simp only [*, ne_eq, not_false_eq_true]; done)) | (refine ne_up ?_; (simp only [*]; done)) | (refine ne_up' ?_; (simp only [*]; done))))))
  trivial
example : True := by
  (k_with "my pick_lim" => ((first
      | (refine' lim1 ?h_q11 ?k_q11; (case h_q11 => assumption); (case k_q11 => exact rfl))
      | (refine' lim2 ?h_q11 ?k_q11; (case h_q11 => assumption); (case k_q11 => exact rfl))
      | (refine' lim0 ?h_q11; (case h_q11 => assumption))
      | (refine' lim3 ?h_q11 ?k_q11; (case h_q11 => assumption); (case k_q11 => exact rfl)))))
  trivial
example : True := by
  (k_with "my pick_all" => ((first | exact allNe_nil | (refine' allNe_cons ?a_q12 ?b_q12; (case a_q12 => k_ne); (case b_q12 => k_all)))))
  trivial
example : True := by
  (k_with "my eval Name" => ((k_here; (with_reducible show wpAny _ _ (eval (Expr.Name _ _) (compEnvC _ _ _ _)) _ _ _); k_dflt (first | refine LCgL.ld_own (by with_reducible assumption) (by k_mem) (by with_reducible assumption) (by with_reducible assumption) ?_ | refine LCgL.ld_global (by with_reducible assumption) (by with_reducible assumption) (by with_reducible assumption) (by k_is) ?_ | refine LCgL.ld_built (by with_reducible assumption) (by with_reducible assumption) (by with_reducible assumption) (by k_is) (by boot_by_name) (by decide) ?_))))
  trivial

section
noncomputable abbrev ints3 (n0 n1 n2 : Int) (t0 t1 t2 : Tok) (k : Nat) : Obj := { cls := .type "list", dict := none, data := .seq #[.int n0 t0, .int n1 t1, .int n2 t2] k, slots := #[] }
example : True := by
  (k_with "my CompSrc" => ((k_here; k_dflt (refine LCg.CompSrc.range (by rfl) (by k_asm) (by k_asm) (by assumption) (by first | decide | rfl) (by first | rfl | decide) (by first | size_fits | exact Nat.le_of_ble_eq_true rfl) ?_; intro g'; lcg_lit))))
  trivial
example : True := by
  (k_with "my subscriptTail Name Name ref int" => ((k_here; k_dflt (first
      | (refine' item3_0 ?a1_q93 ?a3_q93 ?_; (case a1_q93 => exact Fr.keep (by k_asm) _ _ (by assumption)); (case a3_q93 => decide))
      | (refine' item3_1 ?a1_q93 ?a3_q93 ?_; (case a1_q93 => exact Fr.keep (by k_asm) _ _ (by assumption)); (case a3_q93 => decide))
      | (refine' item3_2 ?a1_q93 ?a3_q93 ?_; (case a1_q93 => exact Fr.keep (by k_asm) _ _ (by assumption)); (case a3_q93 => decide))
      | (refine' item3_n ?a1_q93 ?a3_q93 ?_; (case a1_q93 => exact Fr.keep (by k_asm) _ _ (by assumption)); (case a3_q93 => decide))
      | (refine' item3_0 ?a1_q93 ?a3_q93 ?_; (case a1_q93 => exact News.get (by k_asm) (by k_mem)); (case a3_q93 => decide))
      | (refine' item3_1 ?a1_q93 ?a3_q93 ?_; (case a1_q93 => exact News.get (by k_asm) (by k_mem)); (case a3_q93 => decide))
      | (refine' item3_2 ?a1_q93 ?a3_q93 ?_; (case a1_q93 => exact News.get (by k_asm) (by k_mem)); (case a3_q93 => decide))
      | (refine' item3_n ?a1_q93 ?a3_q93 ?_; (case a1_q93 => exact News.get (by k_asm) (by k_mem)); (case a3_q93 => decide))))))
  trivial
example : True := by
  (k_with "my subscriptTail Name BinOp ref int" => ((k_here; k_dflt (first
      | (refine' item3_0 ?a1_q94 ?a3_q94 ?_; (case a1_q94 => exact Fr.keep (by k_asm) _ _ (by assumption)); (case a3_q94 => decide))
      | (refine' item3_1 ?a1_q94 ?a3_q94 ?_; (case a1_q94 => exact Fr.keep (by k_asm) _ _ (by assumption)); (case a3_q94 => decide))
      | (refine' item3_2 ?a1_q94 ?a3_q94 ?_; (case a1_q94 => exact Fr.keep (by k_asm) _ _ (by assumption)); (case a3_q94 => decide))
      | (refine' item3_n ?a1_q94 ?a3_q94 ?_; (case a1_q94 => exact Fr.keep (by k_asm) _ _ (by assumption)); (case a3_q94 => decide))
      | (refine' item3_0 ?a1_q94 ?a3_q94 ?_; (case a1_q94 => exact News.get (by k_asm) (by k_mem)); (case a3_q94 => decide))
      | (refine' item3_1 ?a1_q94 ?a3_q94 ?_; (case a1_q94 => exact News.get (by k_asm) (by k_mem)); (case a3_q94 => decide))
      | (refine' item3_2 ?a1_q94 ?a3_q94 ?_; (case a1_q94 => exact News.get (by k_asm) (by k_mem)); (case a3_q94 => decide))
      | (refine' item3_n ?a1_q94 ?a3_q94 ?_; (case a1_q94 => exact News.get (by k_asm) (by k_mem)); (case a3_q94 => decide))))))
  trivial
theorem counts_spec (w : World) (l : Addr) (k : Nat) (n0 n1 n2 : Int) (t0 t1 t2 : Tok) (h0 : 0 ≤ n0) (h0' : n0 < 16777216) (h1 : 0 ≤ n1) (h1' : n1 < 16777216) (h2 : 0 ≤ n2) (h2' : n2 < 16777216) :
    SpecP w 292 [.ref l] [] 2 (fun h => h.get? l = some (ints3 n0 n1 n2 t0 t1 t2 k)) (fun r h h' => ∃ l' u0 u1 u2 k', r = .ref l' ∧ h'.get? l' = some (ints3 (alikeZ (n0 - n2)) (alikeZ (n1 - n0)) (alikeZ (n2 - n1)) u0 u1 u2 k') ∧ h.get? l' = none) := by
  unfold SpecP
  k_fill
  intro _ dp un gd outer base s Q E p loose mean mg mb B X T hpre hdp hun hret
  walk_at "my_enter"
  k_with "call ref" => (k_dflt (refine' useP (alike_spec _ _ _ _ _ ?b0 ?b1 ?b2 ?b3) ?kB ?kF ?kX ?kN ?kT ?kk ?kp ?kd ?ku ?_; (case b0 => assumption); (case b1 => assumption); (case b2 => assumption); (case b3 => assumption); (walk_at "use_cases"); (case kp => trivial); (intro r9 h9 tk9 F9 N9 P9 K9; obtain ⟨t9, rfl⟩ := P9; (try dsimp only); (try k_fold))))
  walk_at "my_steps"
  exact hret _ _ _ (Fr.keep (by assumption)) ⟨_, _, _, _, _, rfl, News.get (by k_asm) (by k_mem), News.fresh (by k_asm) (by k_mem)⟩
end

example : True := by
  k_with_none
  trivial
section
noncomputable def unsg (c : Nat) : Nat := if 65 ≤ c ∧ c ≤ 90 then c - 65 else if 97 ≤ c ∧ c ≤ 122 then c - 71 else if 48 ≤ c ∧ c ≤ 57 then c + 4 else if c = 45 then 62 else 63
theorem unsg_sg : ∀ i : Fin 64, unsg (sgC ((i : Nat) : Int)) = (i : Nat) := by decide +kernel
theorem sgC_inj {i j : Int} (hi : 0 ≤ i) (hi' : i < 64) (hj : 0 ≤ j) (hj' : j < 64) (h : sgC i = sgC j) : i = j := by
  have a := unsg_sg ⟨i.toNat, by omega⟩
  have b := unsg_sg ⟨j.toNat, by omega⟩
  dsimp only at a b
  rw [Int.toNat_of_nonneg hi] at a
  rw [Int.toNat_of_nonneg hj, ← h] at b
  exact (Int.toNat_of_nonneg hi).symm.trans ((congrArg Int.ofNat (a.symm.trans b)).trans (Int.toNat_of_nonneg hj))
theorem sgC_mod_inj {i j : Int} (h : sgC (i % 64) = sgC (j % 64)) : i % 64 = j % 64 := sgC_inj (Int.emod_nonneg _ (by decide)) (Int.emod_lt_of_pos _ (by decide)) (Int.emod_nonneg _ (by decide)) (Int.emod_lt_of_pos _ (by decide)) h
theorem sgB_nd : ∀ i : Fin 64, sgB (i : Nat) ≠ 46 := by decide +kernel
theorem sgC_nd (i : Int) : sgC (i % 64) ≠ 46 := by
  intro e
  have := sgB_nd ⟨(i % 64).toNat, by omega⟩
  have e2 : (((i % 64).toNat : Nat) : Int) = i % 64 := by omega
  dsimp only at this
  rw [e2] at this
  exact this (UInt8.toNat_inj.mp e)
theorem alike_range (d : Int) : alikeZ d = 0 ∨ alikeZ d = 1 ∨ alikeZ d = 2 ∨ alikeZ d = 3 ∨ alikeZ d = 4 := by
  unfold alikeZ
  split
  · exact .inl rfl
  · split
    · exact .inr (.inl rfl)
    · split
      · exact .inr (.inr (.inl rfl))
      · split
        · exact .inr (.inr (.inr (.inl rfl)))
        · exact .inr (.inr (.inr (.inr rfl)))
theorem front4 (n : Int) : frontT n 4 = P4 (sgC (n % 64)) (sgC (n / 64 % 64)) (sgC (n / 4096 % 64)) (sgC (n / 262144 % 64)) := by
  unfold frontT
  rw [if_neg (by decide), if_neg (by decide), if_neg (by decide), if_neg (by decide)]
theorem sg_iff (i j : Int) : sgC (i % 64) ≠ sgC (j % 64) ↔ i % 64 ≠ j % 64 := ⟨fun h e => h (by rw [e]), fun h e => h (sgC_mod_inj e)⟩
theorem em {n m k : Int} : (n - m) % k = 0 ↔ n % k = m % k := Int.emod_eq_emod_iff_emod_sub_eq_zero.symm
/-- a figure more: alike below, so alike just when the next figure is -/
theorem em_up {n m b c d : Int} (a : Int) (ha : 0 < a) (hc : a * b = c) (e : n % a = m % a) (hd : n / a % b = d) : (n - m) % c ≠ 0 ↔ d ≠ m / a % b := by
  refine not_congr (em.trans ?_)
  rw [dgi n (Int.le_of_lt ha) hc, dgi m (Int.le_of_lt ha) hc, e, hd]
  exact ⟨fun h => Int.eq_of_mul_eq_mul_right (Int.ne_of_gt ha) ((Int.add_left_inj _).mp h), fun h => by rw [h]⟩
theorem em_step {n m b c : Int} (a : Int) (ha : 0 < a) (hc : a * b = c) (e : n % a = m % a) (hd : n / a % b = m / a % b) : n % c = m % c := by
  rw [dgi n (Int.le_of_lt ha) hc, dgi m (Int.le_of_lt ha) hc, e, hd]
theorem ks {n m a0 a1 a2 a3 b0 b1 b2 b3 : Int} (p0 : n % 64 = a0) (p1 : n / 64 % 64 = a1) (p2 : n / 4096 % 64 = a2) (p3 : n / 262144 % 64 = a3) (q0 : m % 64 = b0) (q1 : m / 64 % 64 = b1) (q2 : m / 4096 % 64 = b2) (q3 : m / 262144 % 64 = b3) :
    ((n - m) % 64 ≠ 0 ↔ a0 ≠ b0) ∧ (a0 = b0 → ((n - m) % 4096 ≠ 0 ↔ a1 ≠ b1)) ∧ (a0 = b0 → a1 = b1 → ((n - m) % 262144 ≠ 0 ↔ a2 ≠ b2)) ∧ (a0 = b0 → a1 = b1 → a2 = b2 → ((n - m) % 16777216 ≠ 0 ↔ a3 ≠ b3)) := by
  subst p0 p1 p2 p3 q0 q1 q2 q3
  have s1 : n % 64 = m % 64 → n / 64 % 64 = m / 64 % 64 → n % 4096 = m % 4096 := em_step 64 (by decide) (by decide)
  have s2 : n % 64 = m % 64 → n / 64 % 64 = m / 64 % 64 → n / 4096 % 64 = m / 4096 % 64 → n % 262144 = m % 262144 := fun h1 h2 h3 => em_step 4096 (by decide) (by decide) (s1 h1 h2) h3
  exact ⟨not_congr em, fun h => em_up 64 (by decide) (by decide) h rfl, fun h h1 => em_up 4096 (by decide) (by decide) (s1 h h1) rfl, fun h h1 h2 => em_up 262144 (by decide) (by decide) (s2 h h1 h2) rfl⟩
theorem pick5 {c0 c1 c2 c3 d0 d1 d2 d3 : Prop} [Decidable c0] [Decidable c1] [Decidable c2] [Decidable c3] [Decidable d0] [Decidable d1] [Decidable d2] [Decidable d3] {x0 x1 x2 x3 x4 : Str} {F : Int → Str} (k0 : d0 ↔ c0) (k1 : ¬c0 → (d1 ↔ c1)) (k2 : ¬c0 → ¬c1 → (d2 ↔ c2)) (k3 : ¬c0 → ¬c1 → ¬c2 → (d3 ↔ c3))
    (e0 : F 0 = x0) (e1 : F 1 = x1) (e2 : F 2 = x2) (e3 : F 3 = x3) (e4 : F 4 = x4) : (if c0 then x0 else if c1 then x1 else if c2 then x2 else if c3 then x3 else x4) = F (if d0 then 0 else if d1 then 1 else if d2 then 2 else if d3 then 3 else 4) := by
  subst e0 e1 e2 e3 e4
  by_cases h0 : c0
  · rw [if_pos h0, if_pos (k0.mpr h0)]
  · rw [if_neg h0, if_neg fun h => h0 (k0.mp h)]
    by_cases h1 : c1
    · rw [if_pos h1, if_pos ((k1 h0).mpr h1)]
    · rw [if_neg h1, if_neg fun h => h1 ((k1 h0).mp h)]
      by_cases h2 : c2
      · rw [if_pos h2, if_pos ((k2 h0 h1).mpr h2)]
      · rw [if_neg h2, if_neg fun h => h2 ((k2 h0 h1).mp h)]
        by_cases h3 : c3
        · rw [if_pos h3, if_pos ((k3 h0 h1 h2).mpr h3)]
        · rw [if_neg h3, if_neg fun h => h3 ((k3 h0 h1 h2).mp h)]
theorem sg_not {i j : Int} (h : ¬ sgC (i % 64) ≠ sgC (j % 64)) : i % 64 = j % 64 := Decidable.not_not.mp fun e => h ((sg_iff i j).mpr e)
theorem cp_front (n m : Int) (_h0 : 0 ≤ n) (_h1 : n < 16777216) (_h2 : 0 ≤ m) (_h3 : m < 16777216) :
    cpT (sgC (n % 64)) (sgC (n / 64 % 64)) (sgC (n / 4096 % 64)) (sgC (n / 262144 % 64)) (sgC (m % 64)) (sgC (m / 64 % 64)) (sgC (m / 4096 % 64)) (sgC (m / 262144 % 64)) = frontT n (alikeZ (n - m)) := by
  obtain ⟨k0, k1, k2, k3⟩ := ks (n := n) (m := m) rfl rfl rfl rfl rfl rfl rfl rfl
  exact pick5 (F := frontT n) (k0.trans (sg_iff _ _).symm) (fun h => (k1 (sg_not h)).trans (sg_iff _ _).symm) (fun h h' => (k2 (sg_not h) (sg_not h')).trans (sg_iff _ _).symm) (fun h h' h'' => (k3 (sg_not h) (sg_not h') (sg_not h'')).trans (sg_iff _ _).symm) rfl rfl rfl rfl rfl
end
section
theorem sgC_lt (i : Int) : sgC i < 0x110000 := by
  unfold sgC
  have := (sgB i).toNat_lt
  omega
theorem ok_P4 {i j k l : Int} : PyData.strOk (P4 (sgC i) (sgC j) (sgC k) (sgC l)) = true := by
  unfold PyData.strOk P4
  simp [sgC_lt]
theorem ok_front (n c : Int) : PyData.strOk (frontT n c) = true := by
  unfold frontT PyData.strOk
  split
  · simp
  · split
    · unfold P1; simp [sgC_lt]
    · split
      · unfold P2; simp [sgC_lt]
      · split
        · unfold P3; simp [sgC_lt]
        · unfold P4; simp [sgC_lt]
variable {prog : Program} {w : World} {A : Around} {E : Value → Shared → Prop} {s : Shared} {h₀ : Heap} {L a b : Addr} {news : List (Addr × Obj)} {Q : Value → Shared → Prop} {x0 x1 x2 : Str} {t0 t1 t2 u0 u1 u2 : Tok} {n k : Nat}
theorem shaped3 (o0 : PyData.strOk x0 = true) (o1 : PyData.strOk x1 = true) (o2 : PyData.strOk x2 = true) : SeqAt.shaped (.list [.str x0, .str x1, .str x2]) = true := by
  simp [SeqAt.shaped, PyData.canLay0, PyData.canLayAll0, PyData.depth, PyData.depthAll, o0, o1, o2]
theorem eqv3 : PyData.eqv (.list [.str x0, .str x1, .str x2]) (.list [.str x0, .str x1, .str x2]) = true := by
  simp [PyData.eqv, PyData.eqvAll]
theorem ne_txt3 (N : News h₀ L s.heap news) (hu : A.units + 64 < cLine) (ha : (a, ({ cls := .type "list", data := .seq #[.str x0 t0, .str x1 t1, .str x2 t2] n } : Obj)) ∈ news) (hb : (b, ({ cls := .type "list", data := .seq #[.str x0 u0, .str x1 u1, .str x2 u2] k } : Obj)) ∈ news)
    (o0 : PyData.strOk x0 = true) (o1 : PyData.strOk x1 = true) (o2 : PyData.strOk x2 = true) (h : Q (.bool false) s) : wpAny (model prog w) A (compareOp .NotEq (.ref a) (.ref b)) Q E s :=
  ne_dataH (reads_list_at (N _ ha).1 rfl rfl (.cons (Reads.str _ _) (.cons (Reads.str _ _) (.cons (Reads.str _ _) .nil)))) (reads_list_at (N _ hb).1 rfl rfl (.cons (Reads.str _ _) (.cons (Reads.str _ _) (.cons (Reads.str _ _) .nil))))
    (shaped3 o0 o1 o2) (shaped3 o0 o1 o2) hu (by rw [eqv3]; exact h)
theorem eq_txt3 (N : News h₀ L s.heap news) (hu : A.units + 64 < cLine) (ha : (a, ({ cls := .type "list", data := .seq #[.str x0 t0, .str x1 t1, .str x2 t2] n } : Obj)) ∈ news) (hb : (b, ({ cls := .type "list", data := .seq #[.str x0 u0, .str x1 u1, .str x2 u2] k } : Obj)) ∈ news)
    (o0 : PyData.strOk x0 = true) (o1 : PyData.strOk x1 = true) (o2 : PyData.strOk x2 = true) (h : Q (.bool true) s) : wpAny (model prog w) A (compareOp .Eq (.ref a) (.ref b)) Q E s :=
  eq_dataH (reads_list_at (N _ ha).1 rfl rfl (.cons (Reads.str _ _) (.cons (Reads.str _ _) (.cons (Reads.str _ _) .nil)))) (reads_list_at (N _ hb).1 rfl rfl (.cons (Reads.str _ _) (.cons (Reads.str _ _) (.cons (Reads.str _ _) .nil))))
    (shaped3 o0 o1 o2) (shaped3 o0 o1 o2) hu (by rw [eqv3]; exact h)
end
theorem path_spec4 (w : World) (n : Int) (tk : Tok) (h0 : 0 ≤ n) (h1 : n < 16777216) : SpecP w 270 [.int n tk] [] 9 Filled (fun r _ _ => ∃ t, r = .str (P4 (sgC (n % 64)) (sgC (n / 64 % 64)) (sgC (n / 4096 % 64)) (sgC (n / 262144 % 64))) t) := path_spec w n tk h0 h1

example : True := by
  k_with_none
  trivial
theorem cp2n_spec (w : World) (l : Addr) (n m : Int) (t u : Tok) (h0 : 0 ≤ n) (h1 : n < 16777216) (h2 : 0 ≤ m) (h3 : m < 16777216) :
    SpecP w 199 [.ref l] [] 3 (fun h => h.get? l = some (W.listOf #[.str (P4 (sgC (n % 64)) (sgC (n / 64 % 64)) (sgC (n / 4096 % 64)) (sgC (n / 262144 % 64))) t, .str (P4 (sgC (m % 64)) (sgC (m / 64 % 64)) (sgC (m / 4096 % 64)) (sgC (m / 262144 % 64))) u] 0)) (fun r _ _ => ∃ t, r = .str (frontT n (alikeZ (n - m))) t) := by
  have := cp2_spec w l 0 (sgC (n % 64)) (sgC (n / 64 % 64)) (sgC (n / 4096 % 64)) (sgC (n / 262144 % 64)) (sgC (m % 64)) (sgC (m / 64 % 64)) (sgC (m / 4096 % 64)) (sgC (m / 262144 % 64)) t u (sgC_mod _) (sgC_mod _) (sgC_mod _) (sgC_mod _) (sgC_mod _) (sgC_mod _) (sgC_mod _) (sgC_mod _) (sgC_nd _) (sgC_nd _) (sgC_nd _) (sgC_nd _) (sgC_nd _) (sgC_nd _) (sgC_nd _) (sgC_nd _)
  rw [cp_front n m h0 h1 h2 h3] at this
  exact this

example : True := by
  k_with_none
  trivial
example : True := by
  (k_with "my my_enter" => ((refine wpAny_call ?_; k_dflt (first
      | (refine' enterP ?k3_q1 ?k5_q1 ?k6_q1 ?k7_q1 ?k8_q1 ?k9_q1 ?kB_q1 ?_ ?c2_q1 ?c3_q1 ?c4_q1 ?c5_q1; (case k3_q1 => k_asm); (case k5_q1 => k_asm); (case k6_q1 => k_is); (case k7_q1 => k_is); (case k8_q1 => k_room); (case k9_q1 => first | exact BindsTo.of_eq (binds := [(_, _)]) rfl | exact BindsTo.of_eq (binds := [(_, _), (_, _)]) rfl | exact BindsTo.of_eq rfl | exact binds_K (by k_in) rfl (by k_is) rfl rfl rfl | fail "my_enter: no rule for these arguments"); (case c5_q1 => decide); (case kB_q1 => exact locs rfl); (case c2_q1 => exact rfl); (case c3_q1 => exact rfl); (case c4_q1 => exact rfl); k_whole; intro L' h' F' N'; (try dsimp only); (try k_fold))
      | (refine' enterPC ?k3_q1 ?k5_q1 ?k6_q1 ?k7_q1 ?k8_q1 ?k9_q1 ?kB_q1 ?kD_q1 ?_ ?c2_q1 ?c3_q1 ?c4_q1; (case k3_q1 => k_asm); (case k5_q1 => k_asm); (case k6_q1 => k_is); (case k7_q1 => k_is); (case k8_q1 => k_room); (case k9_q1 => first | exact BindsTo.of_eq (binds := [(_, _)]) rfl | exact BindsTo.of_eq (binds := [(_, _), (_, _)]) rfl | exact BindsTo.of_eq rfl | exact binds_K (by k_in) rfl (by k_is) rfl rfl rfl | fail "my_enter: no rule for these arguments"); (case kB_q1 => exact rfl); (case kD_q1 => decide +kernel); (case c2_q1 => exact rfl); (case c3_q1 => exact rfl); (case c4_q1 => exact rfl); k_whole; intro L' h' tk' cells' F' N' Y'; k_cells Y'; (try simp only [List.cons_append, List.nil_append, List.append_nil] at N'); (try dsimp only); (try k_fold))))))
  trivial
example : True := by
  (k_with "my call type:type" => (((with_reducible show wpAny _ _ (call _ [Value.bytes _ _]) _ _ _); refine call_type_of (Tx := "bytes") rfl (by decide +kernel) ?_)))
  trivial
example : True := by
  (k_with "my my_steps" => (repeat' (first | (k_unfold; (try dsimp only)) | ((fail_if_success (with_reducible show InvEndN _ _ _ _ _ _ _)); first | walk1 | (dsimp only; walk1) | (leave1; try dsimp only)) | fail "no step")))
  trivial
example : True := by
  (k_with "my use_cases" => (((case kB => first | k_asm | fail "use: below"); (case kF => first | k_asm | fail "use: frame"); (case kX => first | k_asm | fail "use: written part"); (case kN => first | k_asm | fail "use: ledger"); (case kT => first | k_asm | fail "use: top"); (case kk => first | exact rfl | assumption | fail "use: kind"); (case kd => first | ktr_room | fail "use: room"); (case ku => first | ktr_units | fail "use: units"))))
  trivial
example : True := by
  (k_with "my my_enterT" => ((refine wpAny_call ?_; k_dflt (first
      | (refine' enterT ?ksub_q5 ?ksz_q5 ?k3_q5 ?k5_q5 ?kt_q5 ?kg_q5 ?k6_q5 ?k7_q5 ?k8_q5 ?k9_q5 ?kB_q5 ?_ ?c2_q5 ?c3_q5 ?c4_q5 ?c5_q5; (case ksub_q5 => assumption); (case ksz_q5 => assumption); (case kt_q5 => assumption); (case kg_q5 => assumption); (case k3_q5 => k_asm); (case k5_q5 => k_asm); (case k6_q5 => k_is); (case k7_q5 => k_is); (case k8_q5 => k_room); (case k9_q5 => first | exact BindsTo.of_eq (binds := [(_, _)]) rfl | exact BindsTo.of_eq (binds := [(_, _), (_, _)]) rfl | exact BindsTo.of_eq rfl | exact binds_K (by k_in) rfl (by k_is) rfl rfl rfl | fail "my_enter: no rule for these arguments"); (case c5_q5 => decide); (case kB_q5 => exact locs rfl); (case c2_q5 => exact rfl); (case c3_q5 => exact rfl); (case c4_q5 => exact rfl); k_whole; intro L' h' F' N' l0; (replace l0 := ltN l0); (try dsimp only); (try k_fold))
      | (refine' enterTC ?ksub_q5 ?ksz_q5 ?k3_q5 ?k5_q5 ?kt_q5 ?kg_q5 ?k6_q5 ?k7_q5 ?k8_q5 ?k9_q5 ?kB_q5 ?kD_q5 ?_ ?c2_q5 ?c3_q5 ?c4_q5; (case ksub_q5 => assumption); (case ksz_q5 => assumption); (case kt_q5 => assumption); (case kg_q5 => assumption); (case k3_q5 => k_asm); (case k5_q5 => k_asm); (case k6_q5 => k_is); (case k7_q5 => k_is); (case k8_q5 => k_room); (case k9_q5 => first | exact BindsTo.of_eq (binds := [(_, _)]) rfl | exact BindsTo.of_eq (binds := [(_, _), (_, _)]) rfl | exact BindsTo.of_eq rfl | exact binds_K (by k_in) rfl (by k_is) rfl rfl rfl | fail "my_enter: no rule for these arguments"); (case kB_q5 => exact rfl); (case kD_q5 => decide +kernel); (case c2_q5 => exact rfl); (case c3_q5 => exact rfl); (case c4_q5 => exact rfl); k_whole; intro L' h' tk' cells' F' N' Y' l0; (replace l0 := ltN l0); k_cells Y'; (try simp only [List.cons_append, List.nil_append, List.append_nil] at N'); (try dsimp only); (try k_fold))))))
  trivial
example : True := by
  (k_with "my execs cons" => (((with_reducible refine wpAny_execs_cons ?_); (try dsimp only); (try k_fold); (try ((rename Fr _ _ _ _ => F9); (refine foldFr F9 ?_); (intro mk9 F8); (clear F9))))))
  trivial
example : True := by
  (k_with "my size_fits" => (exact Nat.le_of_ble_eq_true rfl))
  trivial
example : True := by
  (k_with "my pick_chain" => (((iterate 15 (try (first | with_reducible assumption | apply pickR))); done)))
  trivial
example : True := by
  (k_with "my pick_one" => ((first | with_reducible assumption | (apply pickL; walk_at "pick_chain") | walk_at "pick_chain")))
  trivial
example : True := by
  (k_with "my pick_ne" => ((refine neN ?_; (try dsimp only); (first | with_reducible assumption | (refine Nat.ne_of_lt ?_; (simp only [*]; done)) | (refine Nat.ne_of_gt ?_; (simp only [*]; done)) | (simp only [*, ne_eq, not_false_eq_true]; done) | (refine Ne.symm ?_; (simp only [*, ne_eq, not_false_eq_true]; done)) | (refine ne_up ?_; (simp only [*]; done)) | (refine ne_up' ?_; (simp only [*]; done))))))
  trivial
example : True := by
  (k_with "my pick_lim" => ((first
      | (refine' lim1 ?h_q11 ?k_q11; (case h_q11 => assumption); (case k_q11 => exact rfl))
      | (refine' lim2 ?h_q11 ?k_q11; (case h_q11 => assumption); (case k_q11 => exact rfl))
      | (refine' lim0 ?h_q11; (case h_q11 => assumption))
      | (refine' lim3 ?h_q11 ?k_q11; (case h_q11 => assumption); (case k_q11 => exact rfl)))))
  trivial
example : True := by
  (k_with "my pick_all" => ((first | exact allNe_nil | (refine' allNe_cons ?a_q12 ?b_q12; (case a_q12 => k_ne); (case b_q12 => k_all)))))
  trivial
example : True := by
  (k_with "my eval Name" => ((k_here; (with_reducible show wpAny _ _ (eval (Expr.Name _ _) (compEnvC _ _ _ _)) _ _ _); k_dflt (first | refine LCgL.ld_own (by with_reducible assumption) (by k_mem) (by with_reducible assumption) (by with_reducible assumption) ?_ | refine LCgL.ld_global (by with_reducible assumption) (by with_reducible assumption) (by with_reducible assumption) (by k_is) ?_ | refine LCgL.ld_built (by with_reducible assumption) (by with_reducible assumption) (by with_reducible assumption) (by k_is) (by boot_by_name) (by decide) ?_))))
  trivial

section
example : True := by
  (k_with "my CompSrc" => ((k_here; k_dflt (first
      | (refine LCg.CompSrc.ledger (by rfl) (by k_asm) (by k_asm) (by k_mem) (by first | size_fits | exact Nat.le_of_ble_eq_true rfl) ?_; intro g'; lcg_lit)
      | (refine LCg.CompSrc.base (its := #[_, _, _]) (by rfl) (by k_asm) (by k_asm) ⟨_, by assumption, rfl, _, rfl⟩ (by first | size_fits | exact Nat.le_of_ble_eq_true rfl) ?_; intro g'; lcg_lit)
      | (refine LCg.CompSrc.range (by rfl) (by k_asm) (by k_asm) (by assumption) (by first | decide | rfl) (by first | rfl | decide) (by first | size_fits | exact Nat.le_of_ble_eq_true rfl) ?_; intro g'; lcg_lit)))))
  trivial
example : True := by
  (k_with "my lcg_src" => (first | exact Or.inl ⟨_, by assumption, rfl, _, rfl⟩ | exact Or.inr ⟨_, by k_mem, rfl, _, rfl⟩))
  trivial
example : True := by
  (k_with "my subscriptTail Name Name ref int" => ((k_here; k_dflt (first
      | (refine' item3_0 ?a1_q97 ?a3_q97 ?_; (case a1_q97 => exact Fr.keep (by k_asm) _ _ (by assumption)); (case a3_q97 => decide))
      | (refine' item3_1 ?a1_q97 ?a3_q97 ?_; (case a1_q97 => exact Fr.keep (by k_asm) _ _ (by assumption)); (case a3_q97 => decide))
      | (refine' item3_2 ?a1_q97 ?a3_q97 ?_; (case a1_q97 => exact Fr.keep (by k_asm) _ _ (by assumption)); (case a3_q97 => decide))
      | (refine' item3_n ?a1_q97 ?a3_q97 ?_; (case a1_q97 => exact Fr.keep (by k_asm) _ _ (by assumption)); (case a3_q97 => decide))
      | (refine' item3_0 ?a1_q97 ?a3_q97 ?_; (case a1_q97 => exact News.get (by k_asm) (by k_mem)); (case a3_q97 => decide))
      | (refine' item3_1 ?a1_q97 ?a3_q97 ?_; (case a1_q97 => exact News.get (by k_asm) (by k_mem)); (case a3_q97 => decide))
      | (refine' item3_2 ?a1_q97 ?a3_q97 ?_; (case a1_q97 => exact News.get (by k_asm) (by k_mem)); (case a3_q97 => decide))
      | (refine' item3_n ?a1_q97 ?a3_q97 ?_; (case a1_q97 => exact News.get (by k_asm) (by k_mem)); (case a3_q97 => decide))))))
  trivial
example : True := by
  (k_with "my subscriptTail Name BinOp ref int" => ((k_here; k_dflt (first
      | (refine' item3_0 ?a1_q98 ?a3_q98 ?_; (case a1_q98 => exact Fr.keep (by k_asm) _ _ (by assumption)); (case a3_q98 => decide))
      | (refine' item3_1 ?a1_q98 ?a3_q98 ?_; (case a1_q98 => exact Fr.keep (by k_asm) _ _ (by assumption)); (case a3_q98 => decide))
      | (refine' item3_2 ?a1_q98 ?a3_q98 ?_; (case a1_q98 => exact Fr.keep (by k_asm) _ _ (by assumption)); (case a3_q98 => decide))
      | (refine' item3_n ?a1_q98 ?a3_q98 ?_; (case a1_q98 => exact Fr.keep (by k_asm) _ _ (by assumption)); (case a3_q98 => decide))
      | (refine' item3_0 ?a1_q98 ?a3_q98 ?_; (case a1_q98 => exact News.get (by k_asm) (by k_mem)); (case a3_q98 => decide))
      | (refine' item3_1 ?a1_q98 ?a3_q98 ?_; (case a1_q98 => exact News.get (by k_asm) (by k_mem)); (case a3_q98 => decide))
      | (refine' item3_2 ?a1_q98 ?a3_q98 ?_; (case a1_q98 => exact News.get (by k_asm) (by k_mem)); (case a3_q98 => decide))
      | (refine' item3_n ?a1_q98 ?a3_q98 ?_; (case a1_q98 => exact News.get (by k_asm) (by k_mem)); (case a3_q98 => decide))))))
  trivial
example : True := by
  (k_with "my compareOp NotEq ref ref" => ((k_here; k_dflt (refine' ne_txt3 ?a1_q99 ?a2_q99 ?a3_q99 ?a4_q99 ok_P4 ok_P4 ok_P4 ?_; (case a1_q99 => k_asm); (case a2_q99 => ktr_units); (case a3_q99 => k_mem); (case a4_q99 => k_mem)))))
  trivial
example : True := by
  (k_with "my compareOp Eq ref ref" => ((k_here; k_dflt (refine' eq_txt3 ?a1_q100 ?a2_q100 ?a3_q100 ?a4_q100 (ok_front _ _) (ok_front _ _) (ok_front _ _) ?_; (case a1_q100 => k_asm); (case a2_q100 => ktr_units); (case a3_q100 => k_mem); (case a4_q100 => k_mem)))))
  trivial
example : True := by
  (k_with "my lcg_off" => ((simp only [LCg.Off3, and_true]; first | assumption | (refine And.intro ⟨by k_ne, by k_ne, by k_ne⟩ ?_; assumption))))
  trivial
theorem led_spec (w : World) (l lc : Addr) (k kc : Nat) (n0 n1 n2 : Int) (t0 t1 t2 u0 u1 u2 : Tok) (h0 : 0 ≤ n0) (h0' : n0 < 16777216) (h1 : 0 ≤ n1) (h1' : n1 < 16777216) (h2 : 0 ≤ n2) (h2' : n2 < 16777216) :
    SpecP w 287 [.ref l, .ref lc] [] 11 (fun h => Filled h ∧ h.get? l = some (ints3 n0 n1 n2 t0 t1 t2 k) ∧ h.get? lc = some (ints3 (alikeZ (n0 - n2)) (alikeZ (n1 - n0)) (alikeZ (n2 - n1)) u0 u1 u2 kc)) (fun r h h' => r = .bool true) := by
  unfold SpecP
  k_fill
  intro _ dp un gd outer base s Q E p loose mean mg mb B X T hpre hdp hun hret
  obtain ⟨hfil, hpl, hpc⟩ := hpre
  walk_at "my_enter"
  k_with "call ref" => (k_dflt (first
    | (refine' useP (path_spec4 _ _ _ ?b0 ?b1) ?kB ?kF ?kX ?kN ?kT ?kk ?kp ?kd ?ku ?_; (case b0 => assumption); (case b1 => assumption); (walk_at "use_cases"); (case kp => exact Filled.keeps hfil (Fr.keep (by assumption))); (intro r9 h9 tk9 F9 N9 P9 K9; obtain ⟨t9, rfl⟩ := P9; (try dsimp only); (try k_fold)))
    | (refine' useP (front_spec _ _ 4 _ _ ?b0 ?b1 (by decide)) ?kB ?kF ?kX ?kN ?kT ?kk ?kp ?kd ?ku ?_; (case b0 => assumption); (case b1 => assumption); (walk_at "use_cases"); (case kp => trivial); (intro r9 h9 tk9 F9 N9 P9 K9; obtain ⟨t9, rfl⟩ := P9; (rw [front4]); (try dsimp only); (try k_fold)))
    | (refine' useP (front_spec _ _ _ _ _ ?b0 ?b1 (alike_range _)) ?kB ?kF ?kX ?kN ?kT ?kk ?kp ?kd ?ku ?_; (case b0 => assumption); (case b1 => assumption); (walk_at "use_cases"); (case kp => trivial); (intro r9 h9 tk9 F9 N9 P9 K9; obtain ⟨t9, rfl⟩ := P9; (try dsimp only); (try k_fold)))
    | (refine' useP (cp2n_spec _ _ n0 n2 _ _ (by assumption) (by assumption) (by assumption) (by assumption)) ?kB ?kF ?kX ?kN ?kT ?kk ?kp ?kd ?ku ?_; (walk_at "use_cases"); (case kp => exact News.get (by k_asm) (by k_mem)); (intro r9 h9 tk9 F9 N9 P9 K9; obtain ⟨t9, rfl⟩ := P9; (try dsimp only); (try k_fold)))
    | (refine' useP (cp2n_spec _ _ n1 n0 _ _ (by assumption) (by assumption) (by assumption) (by assumption)) ?kB ?kF ?kX ?kN ?kT ?kk ?kp ?kd ?ku ?_; (walk_at "use_cases"); (case kp => exact News.get (by k_asm) (by k_mem)); (intro r9 h9 tk9 F9 N9 P9 K9; obtain ⟨t9, rfl⟩ := P9; (try dsimp only); (try k_fold)))
    | (refine' useP (cp2n_spec _ _ n2 n1 _ _ (by assumption) (by assumption) (by assumption) (by assumption)) ?kB ?kF ?kX ?kN ?kT ?kk ?kp ?kd ?ku ?_; (walk_at "use_cases"); (case kp => exact News.get (by k_asm) (by k_mem)); (intro r9 h9 tk9 F9 N9 P9 K9; obtain ⟨t9, rfl⟩ := P9; (try dsimp only); (try k_fold)))))
  walk_at "my_steps"
  all_goals exact hret _ _ _ (Fr.keep (by assumption)) rfl
end

example : True := by
  k_with_none
  trivial
section
theorem item_code {T : Str} {k : Nat} {c : Nat} (h : T.cps[k]? = some c) : Txt.item T (k : Int) = One c := by
  have hlt : k < T.length := (Array.getElem?_eq_some_iff.mp h).1
  have hs : seqIndex? (k : Int) T.length = some k := by
    unfold seqIndex?
    simp only [show ¬ ((k : Int) < 0) by omega, if_false]
    rw [if_pos (by simp only [Bool.and_eq_true, decide_eq_true_eq]; omega)]
    simp
  unfold Txt.item Txt.charAt One
  rw [hs]
  simp [h]
theorem at_one {T : Str} {i c : Nat} : StrLaws.At T (One c) T.length i ↔ T.cps[i]? = some c := by
  have := StrLaws.subAt_one T c i
  rw [← Array.getElem?_toList]
  exact this
theorem occ_first_one {T : Str} {one : Nat} {c : Nat} (h1 : T.cps[one]? = some c) (hno : ∀ k, k < one → T.cps[k]? ≠ some c) : ∃ r, Builtin.Str.occurrences T (One c) 0 T.length 1 = one :: r := by
  rcases StrLaws.occ_head_from T (One c) 0 1 (Nat.le_refl _) with ⟨_, hn⟩ | ⟨i, r, e, _, ha, hk⟩
  · exact absurd (at_one.mpr h1) (hn one (Nat.zero_le _))
  · have hi := at_one.mp ha
    have : i = one := by
      rcases Nat.lt_trichotomy i one with h | h | h
      · exact absurd hi (hno i h)
      · exact h
      · exact absurd (at_one.mpr h1) (hk one (Nat.zero_le _) h)
    subst this
    exact ⟨r, e⟩
theorem front0 {one two : Nat} (h : one < two) (h2 : two < 64) : frontT (one : Int) (alikeZ ((one : Int) - (two : Int))) = Str.ofString "/" := by
  have : alikeZ ((one : Int) - (two : Int)) = 0 := by
    unfold alikeZ
    rw [if_pos (by omega)]
  rw [this, slash_is]
  rfl
theorem path_spec5 (w : World) (n : Int) (c : Nat) (tk : Tok) (h0 : 0 ≤ n) (h1 : n < 16777216) (hc : sgC (n % 64) = c) : SpecP w 270 [.int n tk] [] 9 Filled (fun r _ _ => ∃ t, r = .str (P4 c (sgC (n / 64 % 64)) (sgC (n / 4096 % 64)) (sgC (n / 262144 % 64))) t) := by
  subst hc
  exact path_spec w n tk h0 h1
section
variable {prog : Program} {w : World} {A : Around} {E : Value → Shared → Prop} {s : Shared} {value slice : PySem.Expr} {x : PySem.Str} {t u : Tok} {k c : Nat} {Q : Value → Shared → Prop}
theorem itemT (hk : x.length = 64) (hc : x.cps[k]? = some c) (h : ∀ tk t', Q (.str (One c) t') { s with toks := tk })
    (hs : subscripted slice false (.str x t) (.int (k : Int) u) = operate [.str x t, .int (k : Int) u] (getItem (.str x t) (.int (k : Int) u)) := by with_unfolding_all rfl)
    (ht : ∀ r, letTemporaryGo value (.str x t) r = pure () := by intro _; with_unfolding_all rfl) :
    wpAny (model prog w) A (subscriptTail value slice (.str x t) (.int (k : Int) u)) Q E s := by
  have hlt : k < 64 := by
    have := (Array.getElem?_eq_some_iff.mp hc).1
    have e : x.cps.size = 64 := hk
    omega
  exact KXi.item (n := 64) hk (by omega) (by omega) (by decide) (fun _ => by rw [item_code hc]; exact h _ _) hs ht
theorem indexT {one : Nat} (h1 : x.cps[one]? = some c) (hno : ∀ k, k < one → x.cps[k]? ≠ some c) (h : ∀ tk t', Q (.int (one : Int) t') { s with toks := tk }) :
    wpAny (model prog w) A (call (.builtin "str.index") [.str x t, .str (One c) u]) Q E s := by
  obtain ⟨r, e⟩ := occ_first_one h1 hno
  exact SC.index e (h _ _)
end
end

example : True := by
  k_with_none
  trivial
example : True := by
  (k_with "my my_enter" => ((refine wpAny_call ?_; k_dflt (first
      | (refine' enterP ?k3_q1 ?k5_q1 ?k6_q1 ?k7_q1 ?k8_q1 ?k9_q1 ?kB_q1 ?_ ?c2_q1 ?c3_q1 ?c4_q1 ?c5_q1; (case k3_q1 => k_asm); (case k5_q1 => k_asm); (case k6_q1 => k_is); (case k7_q1 => k_is); (case k8_q1 => k_room); (case k9_q1 => first | exact BindsTo.of_eq (binds := [(_, _)]) rfl | exact BindsTo.of_eq (binds := [(_, _), (_, _)]) rfl | exact BindsTo.of_eq rfl | exact binds_K (by k_in) rfl (by k_is) rfl rfl rfl | fail "my_enter: no rule for these arguments"); (case c5_q1 => decide); (case kB_q1 => exact locs rfl); (case c2_q1 => exact rfl); (case c3_q1 => exact rfl); (case c4_q1 => exact rfl); k_whole; intro L' h' F' N'; (try dsimp only); (try k_fold))
      | (refine' enterPC ?k3_q1 ?k5_q1 ?k6_q1 ?k7_q1 ?k8_q1 ?k9_q1 ?kB_q1 ?kD_q1 ?_ ?c2_q1 ?c3_q1 ?c4_q1; (case k3_q1 => k_asm); (case k5_q1 => k_asm); (case k6_q1 => k_is); (case k7_q1 => k_is); (case k8_q1 => k_room); (case k9_q1 => first | exact BindsTo.of_eq (binds := [(_, _)]) rfl | exact BindsTo.of_eq (binds := [(_, _), (_, _)]) rfl | exact BindsTo.of_eq rfl | exact binds_K (by k_in) rfl (by k_is) rfl rfl rfl | fail "my_enter: no rule for these arguments"); (case kB_q1 => exact rfl); (case kD_q1 => decide +kernel); (case c2_q1 => exact rfl); (case c3_q1 => exact rfl); (case c4_q1 => exact rfl); k_whole; intro L' h' tk' cells' F' N' Y'; k_cells Y'; (try simp only [List.cons_append, List.nil_append, List.append_nil] at N'); (try dsimp only); (try k_fold))))))
  trivial
example : True := by
  (k_with "my call type:type" => (((with_reducible show wpAny _ _ (call _ [Value.bytes _ _]) _ _ _); refine call_type_of (Tx := "bytes") rfl (by decide +kernel) ?_)))
  trivial
example : True := by
  (k_with "my my_steps" => (repeat' (first | (k_unfold; (try dsimp only)) | ((fail_if_success (with_reducible show InvEndN _ _ _ _ _ _ _)); first | walk1 | (dsimp only; walk1) | (leave1; try dsimp only)) | fail "no step")))
  trivial
example : True := by
  (k_with "my use_cases" => (((case kB => first | k_asm | fail "use: below"); (case kF => first | k_asm | fail "use: frame"); (case kX => first | k_asm | fail "use: written part"); (case kN => first | k_asm | fail "use: ledger"); (case kT => first | k_asm | fail "use: top"); (case kk => first | exact rfl | assumption | fail "use: kind"); (case kd => first | ktr_room | fail "use: room"); (case ku => first | ktr_units | fail "use: units"))))
  trivial
example : True := by
  (k_with "my my_enterT" => ((refine wpAny_call ?_; k_dflt (first
      | (refine' enterT ?ksub_q5 ?ksz_q5 ?k3_q5 ?k5_q5 ?kt_q5 ?kg_q5 ?k6_q5 ?k7_q5 ?k8_q5 ?k9_q5 ?kB_q5 ?_ ?c2_q5 ?c3_q5 ?c4_q5 ?c5_q5; (case ksub_q5 => assumption); (case ksz_q5 => assumption); (case kt_q5 => assumption); (case kg_q5 => assumption); (case k3_q5 => k_asm); (case k5_q5 => k_asm); (case k6_q5 => k_is); (case k7_q5 => k_is); (case k8_q5 => k_room); (case k9_q5 => first | exact BindsTo.of_eq (binds := [(_, _)]) rfl | exact BindsTo.of_eq (binds := [(_, _), (_, _)]) rfl | exact BindsTo.of_eq rfl | exact binds_K (by k_in) rfl (by k_is) rfl rfl rfl | fail "my_enter: no rule for these arguments"); (case c5_q5 => decide); (case kB_q5 => exact locs rfl); (case c2_q5 => exact rfl); (case c3_q5 => exact rfl); (case c4_q5 => exact rfl); k_whole; intro L' h' F' N' l0; (replace l0 := ltN l0); (try dsimp only); (try k_fold))
      | (refine' enterTC ?ksub_q5 ?ksz_q5 ?k3_q5 ?k5_q5 ?kt_q5 ?kg_q5 ?k6_q5 ?k7_q5 ?k8_q5 ?k9_q5 ?kB_q5 ?kD_q5 ?_ ?c2_q5 ?c3_q5 ?c4_q5; (case ksub_q5 => assumption); (case ksz_q5 => assumption); (case kt_q5 => assumption); (case kg_q5 => assumption); (case k3_q5 => k_asm); (case k5_q5 => k_asm); (case k6_q5 => k_is); (case k7_q5 => k_is); (case k8_q5 => k_room); (case k9_q5 => first | exact BindsTo.of_eq (binds := [(_, _)]) rfl | exact BindsTo.of_eq (binds := [(_, _), (_, _)]) rfl | exact BindsTo.of_eq rfl | exact binds_K (by k_in) rfl (by k_is) rfl rfl rfl | fail "my_enter: no rule for these arguments"); (case kB_q5 => exact rfl); (case kD_q5 => decide +kernel); (case c2_q5 => exact rfl); (case c3_q5 => exact rfl); (case c4_q5 => exact rfl); k_whole; intro L' h' tk' cells' F' N' Y' l0; (replace l0 := ltN l0); k_cells Y'; (try simp only [List.cons_append, List.nil_append, List.append_nil] at N'); (try dsimp only); (try k_fold))))))
  trivial
example : True := by
  (k_with "my execs cons" => (((with_reducible refine wpAny_execs_cons ?_); (try dsimp only); (try k_fold); (try ((rename Fr _ _ _ _ => F9); (refine foldFr F9 ?_); (intro mk9 F8); (clear F9))))))
  trivial
example : True := by
  (k_with "my size_fits" => (exact Nat.le_of_ble_eq_true rfl))
  trivial
example : True := by
  (k_with "my pick_chain" => (((iterate 15 (try (first | with_reducible assumption | apply pickR))); done)))
  trivial
example : True := by
  (k_with "my pick_one" => ((first | with_reducible assumption | (apply pickL; walk_at "pick_chain") | walk_at "pick_chain")))
  trivial
example : True := by
  (k_with "my pick_ne" => ((refine neN ?_; (try dsimp only); (first | with_reducible assumption | (refine Nat.ne_of_lt ?_; (simp only [*]; done)) | (refine Nat.ne_of_gt ?_; (simp only [*]; done)) | (simp only [*, ne_eq, not_false_eq_true]; done) | (refine Ne.symm ?_; (simp only [*, ne_eq, not_false_eq_true]; done)) | (refine ne_up ?_; (simp only [*]; done)) | (refine ne_up' ?_; (simp only [*]; done))))))
  trivial
example : True := by
  (k_with "my pick_lim" => ((first
      | (refine' lim1 ?h_q11 ?k_q11; (case h_q11 => assumption); (case k_q11 => exact rfl))
      | (refine' lim2 ?h_q11 ?k_q11; (case h_q11 => assumption); (case k_q11 => exact rfl))
      | (refine' lim0 ?h_q11; (case h_q11 => assumption))
      | (refine' lim3 ?h_q11 ?k_q11; (case h_q11 => assumption); (case k_q11 => exact rfl)))))
  trivial
example : True := by
  (k_with "my pick_all" => ((first | exact allNe_nil | (refine' allNe_cons ?a_q12 ?b_q12; (case a_q12 => k_ne); (case b_q12 => k_all)))))
  trivial
example : True := by
  (k_with "my eval Name" => ((k_here; (with_reducible show wpAny _ _ (eval (Expr.Name _ _) (compEnvC _ _ _ _)) _ _ _); k_dflt (first | refine LCgL.ld_own (by with_reducible assumption) (by k_mem) (by with_reducible assumption) (by with_reducible assumption) ?_ | refine LCgL.ld_global (by with_reducible assumption) (by with_reducible assumption) (by with_reducible assumption) (by k_is) ?_ | refine LCgL.ld_built (by with_reducible assumption) (by with_reducible assumption) (by with_reducible assumption) (by k_is) (by boot_by_name) (by decide) ?_))))
  trivial

section
example : True := by
  (k_with "my lcg_src" => (first | exact ⟨_, by k_mem, rfl, _, rfl⟩ | exact Or.inr ⟨_, by k_mem, rfl, _, rfl⟩))
  trivial
example : True := by
  (k_with "my lcg_off" => ((simp only [LCg.Off3, and_true]; first | assumption | (refine And.intro ⟨by k_ne, by k_ne, by k_ne⟩ ?_; assumption))))
  trivial
example : True := by
  (k_with "my exec Assign cons ListComp" => ((k_here; k_dflt (refine Assign_ListComp_T (F₀ := by k_asm) (by rfl) (by with_unfolding_all rfl) (by with_unfolding_all rfl) (by decide) (by rfl) (by decide) (by rfl) (by rfl) (by rfl) ?_))))
  trivial
example : True := by
  (k_with "my TupGoal" => (((try simp only [List.cons_append, List.nil_append] at *); k_dflt (refine TupGoal.intro (by rfl) (by k_asm) (by k_asm) (by k_mem) (by first | size_fits | exact Nat.le_of_ble_eq_true rfl) ?_; intro g'; lcg_lit))))
  trivial
example : True := by
  (k_with "my subscriptTail Name Name str int" => ((k_here; k_dflt (refine itemT (by assumption) (by assumption) ?_); intro _ _)))
  trivial
example : True := by
  (k_with "my call builtin:str.index" => ((k_dflt (refine' indexT ?h1_q107 ?h2_q107 ?_; (case h2_q107 => assumption); (case h1_q107 => assumption)); intro _ _)))
  trivial
example : True := by
  (k_with "my compareOp NotEq str str" => ((with_reducible (refine ne_self_str ?_))))
  trivial
example : True := by
  (k_with "my binaryOp Add str str" => (((with_reducible (refine add_s1 ?_)); intro _ _)))
  trivial
theorem cp3n_spec (w : World) (l : Addr) (n m : Int) (c : Nat) (t u v : Tok) (hc : c ≠ 47) (hd : c ≠ 46) :
    SpecP w 199 [.ref l] [] 3 (fun h => h.get? l = some (W.listOf #[.str (P4 c (sgC (n / 64 % 64)) (sgC (n / 4096 % 64)) (sgC (n / 262144 % 64))) t, .str (P4 c (sgC (m / 64 % 64)) (sgC (m / 4096 % 64)) (sgC (m / 262144 % 64))) u, .str (P1 c) v] 0)) (fun r _ _ => ∃ t, r = .str (P1 c) t) :=
  cp3_spec w l 0 c (sgC (n / 64 % 64)) (sgC (n / 4096 % 64)) (sgC (n / 262144 % 64)) (sgC (m / 64 % 64)) (sgC (m / 4096 % 64)) (sgC (m / 262144 % 64)) t u v hc (sgC_mod _) (sgC_mod _) (sgC_mod _) (sgC_mod _) (sgC_mod _) (sgC_mod _) hd (sgC_nd _) (sgC_nd _) (sgC_nd _) (sgC_nd _) (sgC_nd _) (sgC_nd _)
theorem worth_in (b0 b1 b2 b3 b4 b5 : UInt8) (n : Int) : 0 ≤ worth b0 b1 b2 b3 b4 b5 n ∧ worth b0 b1 b2 b3 b4 b5 n < 16777216 := by
  rw [worth_poly]; omega
theorem met_spec (w : World) (b0 b1 b2 b3 b4 b5 : UInt8) (tb tt t2 : Tok) (T : Str) (one two c : Nat) (hlen : T.length = 64) (h12 : one < two) (h2 : two < 64) (hc1 : T.cps[one]? = some c) (hc2 : T.cps[two]? = some c) (hno : ∀ k, k < one → T.cps[k]? ≠ some c)
    (hw1 : sgC (worth b0 b1 b2 b3 b4 b5 (one : Int) % 64) = c) (hw2 : sgC (worth b0 b1 b2 b3 b4 b5 (two : Int) % 64) = c) :
    SpecP w 297 [.bytes #[b0,b1,b2,b3,b4,b5] tb, .str T tt, .int (two : Int) t2] [] 11 Filled (fun r h h' => r = .bool true) := by
  have hc47 : c ≠ 47 := by rw [← hw1]; exact sgC_mod _
  have hc46 : c ≠ 46 := by rw [← hw1]; exact sgC_nd _
  have ho0 : (0 : Int) ≤ (one : Int) := by omega
  have ho1 : (one : Int) < 16777216 := by omega
  have hp0 : (0 : Int) ≤ (two : Int) := by omega
  have hp1 : (two : Int) < 16777216 := by omega
  unfold SpecP
  k_fill
  intro _ dp un gd outer base s Q E p loose mean mg mb B X T hpre hdp hun hret
  walk_at "my_enter"
  k_with "call ref" => (k_dflt (first
    | (refine' useP (worth_spec _ _ _ _ _ _ _ (one : Int) _ _ ho0 ho1) ?kB ?kF ?kX ?kN ?kT ?kk ?kp ?kd ?ku ?_; (walk_at "use_cases"); (case kp => trivial); (intro r9 h9 tk9 F9 N9 P9 K9; obtain ⟨t9, rfl⟩ := P9; (try dsimp only); (try k_fold)))
    | (refine' useP (worth_spec _ _ _ _ _ _ _ (two : Int) _ _ hp0 hp1) ?kB ?kF ?kX ?kN ?kT ?kk ?kp ?kd ?ku ?_; (walk_at "use_cases"); (case kp => trivial); (intro r9 h9 tk9 F9 N9 P9 K9; obtain ⟨t9, rfl⟩ := P9; (try dsimp only); (try k_fold)))
    | (refine' useP (path_spec5 _ _ _ _ (worth_in _ _ _ _ _ _ _).1 (worth_in _ _ _ _ _ _ _).2 hw1) ?kB ?kF ?kX ?kN ?kT ?kk ?kp ?kd ?ku ?_; (walk_at "use_cases"); (case kp => exact Filled.keeps hpre (Fr.keep (by assumption))); (intro r9 h9 tk9 F9 N9 P9 K9; obtain ⟨t9, rfl⟩ := P9; (try dsimp only); (try k_fold)))
    | (refine' useP (path_spec5 _ _ _ _ (worth_in _ _ _ _ _ _ _).1 (worth_in _ _ _ _ _ _ _).2 hw2) ?kB ?kF ?kX ?kN ?kT ?kk ?kp ?kd ?ku ?_; (walk_at "use_cases"); (case kp => exact Filled.keeps hpre (Fr.keep (by assumption))); (intro r9 h9 tk9 F9 N9 P9 K9; obtain ⟨t9, rfl⟩ := P9; (try dsimp only); (try k_fold)))
    | (refine' useP (path_spec4 _ (one : Int) _ ho0 ho1) ?kB ?kF ?kX ?kN ?kT ?kk ?kp ?kd ?ku ?_; (walk_at "use_cases"); (case kp => exact Filled.keeps hpre (Fr.keep (by assumption))); (intro r9 h9 tk9 F9 N9 P9 K9; obtain ⟨t9, rfl⟩ := P9; (try dsimp only); (try k_fold)))
    | (refine' useP (path_spec4 _ (two : Int) _ hp0 hp1) ?kB ?kF ?kX ?kN ?kT ?kk ?kp ?kd ?ku ?_; (walk_at "use_cases"); (case kp => exact Filled.keeps hpre (Fr.keep (by assumption))); (intro r9 h9 tk9 F9 N9 P9 K9; obtain ⟨t9, rfl⟩ := P9; (try dsimp only); (try k_fold)))
    | (refine' useP (cp2n_spec _ _ (one : Int) (two : Int) _ _ ho0 ho1 hp0 hp1) ?kB ?kF ?kX ?kN ?kT ?kk ?kp ?kd ?ku ?_; (walk_at "use_cases"); (case kp => exact News.get (by k_asm) (by k_mem)); (intro r9 h9 tk9 F9 N9 P9 K9; obtain ⟨t9, rfl⟩ := P9; (rw [front0 h12 h2]); (try dsimp only); (try k_fold)))
    | (refine' useP (cp3n_spec _ _ (worth b0 b1 b2 b3 b4 b5 (one : Int)) (worth b0 b1 b2 b3 b4 b5 (two : Int)) c _ _ _ hc47 hc46) ?kB ?kF ?kX ?kN ?kT ?kk ?kp ?kd ?ku ?_; (walk_at "use_cases"); (case kp => exact News.get (by k_asm) (by k_mem)); (intro r9 h9 tk9 F9 N9 P9 K9; obtain ⟨t9, rfl⟩ := P9; (try dsimp only); (try k_fold)))))
  walk_at "my_steps"
  all_goals exact hret _ _ _ (Fr.keep (by assumption)) (congrArg Value.bool (beq_self_eq_true _))
end

example : True := by
  k_with_none
  trivial
section
/-- a goal at which the walk stops -/
noncomputable def Stop (P : Prop) : Prop := P
theorem Stop.of {P : Prop} (h : Stop P) : P := h
section
variable {prog : Program} {w : World} {A : Around} {E : Value → Shared → Prop} {s : Shared} {env : Env} {h₀ : Heap} {x : Str} {body : List Stmt} {Q : Flow → Shared → Prop}
theorem unrEnd_mono {L I : Addr} {it : Obj} {s₁ s₂ : Shared} {r r' : (Str → Option Value) → List (Addr × Obj) → Prop} (h : UnrEnd h₀ L s₁ I it r s₂) (k : ∀ m n, r m n → r' m n) : UnrEnd h₀ L s₁ I it r' s₂ := by
  obtain ⟨h', tk, m', n', e, F, N, o, q⟩ := h
  exact ⟨h', tk, m', n', e, F, N, o, k _ _ q⟩
theorem krs_ind {I : Addr} {a c : Int} {n : Nat} (J : Nat → (Str → Option Value) → List (Addr × Obj) → Prop)
    (turn : ∀ i m news, i < n → J i m news → ∀ t h tk, Fr h₀ env.locals h (fun y => if y = x then some (.int (a + (i : Int) * c) t) else m y) → News h₀ env.locals h ((I, krsIt (a + ((i + 1 : Nat) : Int) * c) ((n : Int) - ((i + 1 : Nat) : Int)) c) :: news) →
      wpAny (model prog w) A (execs body env) (UnrPost h₀ env.locals { s with heap := h, toks := tk } I (krsIt (a + ((i + 1 : Nat) : Int) * c) ((n : Int) - ((i + 1 : Nat) : Int)) c) (fun m' news' => Stop (J (i + 1) m' news')) Q) E { s with heap := h, toks := tk })
    (done : ∀ m news, J n m news → ∀ h tk, Fr h₀ env.locals h m → News h₀ env.locals h news → Q .next { s with heap := h, toks := tk }) :
    ∀ (k i : Nat) (m : Str → Option Value) (news : List (Addr × Obj)), i + k = n → J i m news → KrsRest prog w A E h₀ env x body Q s I a c n k i m news := by
  intro k
  induction k with
  | zero =>
    intro i m news hi hJ
    have : i = n := by omega
    subst this
    exact KrsRest.zero (done m news hJ)
  | succ k ih =>
    intro i m news hi hJ
    refine KrsRest.succ rfl fun t h tk F N => ?_
    refine wpAny_mono (turn i m news (by omega) hJ t h tk F N) (fun f s₂ p => ?_) fun _ _ e => e
    have fin : ∀ {s₂}, UnrEnd h₀ env.locals { s with heap := h, toks := tk } I (krsIt (a + ((i + 1 : Nat) : Int) * c) ((n : Int) - ((i + 1 : Nat) : Int)) c) (fun m' news' => Stop (J (i + 1) m' news')) s₂ →
      UnrEnd h₀ env.locals { s with heap := h, toks := tk } I (krsIt (a + ((i + 1 : Nat) : Int) * c) ((n : Int) - ((i + 1 : Nat) : Int)) c) (KrsRest prog w A E h₀ env x body Q s I a c n k (i + 1)) s₂ := fun u => unrEnd_mono u fun m' n' q => ih (i + 1) m' n' (by omega) q
    cases f with
    | ret v => exact p
    | brk => exact p
    | next => exact fin p
    | cont => exact fin p
end
noncomputable def val4 (f : Nat → Int) (i : Nat) : Int := (((0 * 64 + f (4 * i)) * 64 + f (4 * i + 1)) * 64 + f (4 * i + 2)) * 64 + f (4 * i + 3)
noncomputable def threeZ (n : Int) : List Int := [n.fdiv 65536, (n.fdiv 256).fmod 256, n.fmod 256]
noncomputable def rowZ (f : Nat → Int) : Nat → List Int
  | 0 => []
  | k + 1 => rowZ f k ++ threeZ (val4 f k)
theorem rowZ_len (f : Nat → Int) (k : Nat) : (rowZ f k).length = 3 * k := by
  induction k with
  | zero => rfl
  | succ k ih => show (rowZ f k ++ threeZ (val4 f k)).length = _; rw [List.length_append, ih]; show 3 * k + 3 = _; omega
theorem val4_in {f : Nat → Int} (hf : ∀ j, 0 ≤ f j ∧ f j < 64) (i : Nat) : 0 ≤ val4 f i ∧ val4 f i < 16777216 := by
  unfold val4
  have h0 := hf (4 * i)
  have h1 := hf (4 * i + 1)
  have h2 := hf (4 * i + 2)
  have h3 := hf (4 * i + 3)
  omega
theorem rowZ_in {f : Nat → Int} (hf : ∀ j, 0 ≤ f j ∧ f j < 64) (k : Nat) : ∀ x ∈ rowZ f k, 0 ≤ x ∧ x < 256 := by
  induction k with
  | zero => intro x hx; cases hx
  | succ k ih =>
    intro x hx
    rcases List.mem_append.mp hx with h | h
    · exact ih x h
    · have hv := val4_in hf k
      have e1 : (val4 f k).fdiv 65536 = val4 f k / 65536 := Int.fdiv_eq_ediv_of_nonneg _ (by decide)
      have e2 : ((val4 f k).fdiv 256).fmod 256 = val4 f k / 256 % 256 := by rw [Int.fdiv_eq_ediv_of_nonneg _ (by decide), Int.fmod_eq_emod_of_nonneg _ (by decide)]
      have e3 : (val4 f k).fmod 256 = val4 f k % 256 := Int.fmod_eq_emod_of_nonneg _ (by decide)
      simp only [threeZ, e1, e2, e3, List.mem_cons, List.not_mem_nil, or_false] at h
      omega
end
section
theorem four_at {α : Type} (l : List α) (k : Nat) {a b c d : α} (h0 : l[k]? = some a) (h1 : l[k + 1]? = some b) (h2 : l[k + 2]? = some c) (h3 : l[k + 3]? = some d) : (l.drop k).take 4 = [a, b, c, d] := by
  apply List.ext_getElem?
  intro j
  rw [List.getElem?_take]
  match j with
  | 0 => simp [h0]
  | 1 => simp [h1]
  | 2 => simp [h2]
  | 3 => simp [h3]
  | j + 4 => simp; omega
variable {prog : Program} {w : World} {A : Around} {E : Value → Shared → Prop} {s : Shared} {h₀ : Heap} {L l lo l3 : Addr} {m : Str → Option Value} {news : List (Addr × Obj)} {Q : Value → Shared → Prop}
theorem slice4 {value slice : Expr} {fv : Array Value} {f : Nat → Int} {tk : Nat → Tok} {i n : Nat} {a b : Int} {t u : Tok} (F : Fr h₀ L s.heap m) (N : News h₀ L s.heap news) (hl : s.heap.get? l = some ⟨.type "list", none, .seq fv n, #[]⟩) (hfs : fv.size = 64) (hfv : ∀ j, j < 64 → fv[j]? = some (.int (f j) (tk j))) (hi : i < 16) (ha : a = 4 * i) (hb : b = 4 * i + 4)
    (h : ∀ D h', Fr h₀ L h' m → News h₀ L h' ((D, W.listOf #[.int (f (4 * i)) (tk (4 * i)), .int (f (4 * i + 1)) (tk (4 * i + 1)), .int (f (4 * i + 2)) (tk (4 * i + 2)), .int (f (4 * i + 3)) (tk (4 * i + 3))] 0) :: news) → (∀ p ∈ news, p.1 < D) → Q (.ref D) { s with heap := h' })
    (hs : subscripted slice false (.ref l) (.ref s.heap.objs.size) = operate [.ref s.heap.objs.size, .ref l] (getItem (.ref l) (.ref s.heap.objs.size)) := by with_unfolding_all rfl) (ht : ∀ r, letTemporaryGo value (.ref l) r = pure () := by intro _; with_unfolding_all rfl) :
    wpAny (model prog w) A (subscriptTail value slice (.ref l) (.ref s.heap.objs.size)) Q E { s with heap := s.heap.push { cls := .type "slice", data := .fields #[.int a t, .int b u, .none] } } := by
  refine kms_slice_lit (zs := [.int (f (4 * i)) (tk (4 * i)), .int (f (4 * i + 1)) (tk (4 * i + 1)), .int (f (4 * i + 2)) (tk (4 * i + 2)), .int (f (4 * i + 3)) (tk (4 * i + 3))]) F N ⟨_, hl, rfl, _, rfl⟩ (.int _ _) (.int _ _) ?_ h hs ht (by rw [hfs]; exact Nat.le_of_ble_eq_true rfl)
  have hlen : fv.toList.length = 64 := by simpa using hfs
  have c1 : kms_lo (some a) 64 = 4 * i := by subst ha; unfold kms_lo; dsimp only; rw [if_neg (by omega)]; omega
  have c2 : kms_hi (some b) 64 = 4 * i + 4 := by subst hb; unfold kms_hi; dsimp only; rw [if_neg (by omega)]; omega
  unfold kms_pick
  rw [hlen, c1, c2, show 4 * i + 4 - 4 * i = 4 by omega]
  exact four_at _ _ (by rw [Array.getElem?_toList]; exact hfv _ (by omega)) (by rw [Array.getElem?_toList]; exact hfv _ (by omega)) (by rw [Array.getElem?_toList]; exact hfv _ (by omega)) (by rw [Array.getElem?_toList]; exact hfv _ (by omega))
theorem add_three {vs : List Value} {a b c : Value} {n k : Nat} (F : Fr h₀ L s.heap m) (N : News h₀ L s.heap news) (hm : (lo, W.listOf vs.toArray n) ∈ news) (h3 : (l3, W.listOf #[a, b, c] k) ∈ news) (hz : vs.length ≤ 1000)
    (h : ∀ D h', Fr h₀ L h' m → News h₀ L h' ((D, W.listOf (vs ++ [a, b, c]).toArray 0) :: news) → (∀ p ∈ news, p.1 < D) → Q (.ref D) { s with heap := h' }) : wpAny (model prog w) A (binaryOp .Add (.ref lo) (.ref l3)) Q E s :=
  kmk_add_lit F N ⟨_, (N _ hm).1, rfl, _, rfl⟩ ⟨_, (N _ h3).1, rfl, _, rfl⟩ (by simp) h (by rw [sizeLine_eq]; simp; omega)
theorem ints_three {vs : List Value} {ns : List Int} {a b c : Int} {t u v : Tok} (h : IntsAre vs ns) : IntsAre (vs ++ [.int a t, .int b u, .int c v]) (ns ++ [a, b, c]) := by
  induction h with
  | nil => exact .cons _ _ (.cons _ _ (.cons _ _ .nil))
  | cons _ _ _ ih => exact .cons _ _ ih
theorem news_sub2 {h : Heap} {p q : Addr × Obj} (N : News h₀ L h (p :: news)) (hq : q ∈ news) : News h₀ L h [p, q] := fun r hr => by
  rcases List.mem_cons.mp hr with rfl | hr
  · exact N _ (.head _)
  · rw [List.mem_singleton.mp hr]; exact N _ (.tail _ hq)
theorem news_sub1 {h : Heap} {q : Addr × Obj} (N : News h₀ L h news) (hq : q ∈ news) : News h₀ L h [q] := fun r hr => by
  rw [List.mem_singleton.mp hr]; exact N _ hq
end

example : True := by
  k_with_none
  trivial
example : True := by
  (k_with "my my_enter" => ((refine wpAny_call ?_; k_dflt (first
      | (refine' enterP ?k3_q1 ?k5_q1 ?k6_q1 ?k7_q1 ?k8_q1 ?k9_q1 ?kB_q1 ?_ ?c2_q1 ?c3_q1 ?c4_q1 ?c5_q1; (case k3_q1 => k_asm); (case k5_q1 => k_asm); (case k6_q1 => k_is); (case k7_q1 => k_is); (case k8_q1 => k_room); (case k9_q1 => first | exact BindsTo.of_eq (binds := [(_, _)]) rfl | exact BindsTo.of_eq (binds := [(_, _), (_, _)]) rfl | exact BindsTo.of_eq rfl | exact binds_K (by k_in) rfl (by k_is) rfl rfl rfl | fail "my_enter: no rule for these arguments"); (case c5_q1 => decide); (case kB_q1 => exact locs rfl); (case c2_q1 => exact rfl); (case c3_q1 => exact rfl); (case c4_q1 => exact rfl); k_whole; intro L' h' F' N'; (try dsimp only); (try k_fold))
      | (refine' enterPC ?k3_q1 ?k5_q1 ?k6_q1 ?k7_q1 ?k8_q1 ?k9_q1 ?kB_q1 ?kD_q1 ?_ ?c2_q1 ?c3_q1 ?c4_q1; (case k3_q1 => k_asm); (case k5_q1 => k_asm); (case k6_q1 => k_is); (case k7_q1 => k_is); (case k8_q1 => k_room); (case k9_q1 => first | exact BindsTo.of_eq (binds := [(_, _)]) rfl | exact BindsTo.of_eq (binds := [(_, _), (_, _)]) rfl | exact BindsTo.of_eq rfl | exact binds_K (by k_in) rfl (by k_is) rfl rfl rfl | fail "my_enter: no rule for these arguments"); (case kB_q1 => exact rfl); (case kD_q1 => decide +kernel); (case c2_q1 => exact rfl); (case c3_q1 => exact rfl); (case c4_q1 => exact rfl); k_whole; intro L' h' tk' cells' F' N' Y'; k_cells Y'; (try simp only [List.cons_append, List.nil_append, List.append_nil] at N'); (try dsimp only); (try k_fold))))))
  trivial
example : True := by
  (k_with "my call type:type" => (((with_reducible show wpAny _ _ (call _ [Value.bytes _ _]) _ _ _); refine call_type_of (Tx := "bytes") rfl (by decide +kernel) ?_)))
  trivial
example : True := by
  (k_with "my my_steps" => (repeat' (first | (k_unfold; (try dsimp only)) | ((fail_if_success (with_reducible show InvEndN _ _ _ _ _ _ _)); first | walk1 | (dsimp only; walk1) | (leave1; try dsimp only)) | fail "no step")))
  trivial
example : True := by
  (k_with "my use_cases" => (((case kB => first | k_asm | fail "use: below"); (case kF => first | k_asm | fail "use: frame"); (case kX => first | k_asm | fail "use: written part"); (case kN => first | k_asm | fail "use: ledger"); (case kT => first | k_asm | fail "use: top"); (case kk => first | exact rfl | assumption | fail "use: kind"); (case kd => first | ktr_room | fail "use: room"); (case ku => first | ktr_units | fail "use: units"))))
  trivial
example : True := by
  (k_with "my my_enterT" => ((refine wpAny_call ?_; k_dflt (first
      | (refine' enterT ?ksub_q5 ?ksz_q5 ?k3_q5 ?k5_q5 ?kt_q5 ?kg_q5 ?k6_q5 ?k7_q5 ?k8_q5 ?k9_q5 ?kB_q5 ?_ ?c2_q5 ?c3_q5 ?c4_q5 ?c5_q5; (case ksub_q5 => assumption); (case ksz_q5 => assumption); (case kt_q5 => assumption); (case kg_q5 => assumption); (case k3_q5 => k_asm); (case k5_q5 => k_asm); (case k6_q5 => k_is); (case k7_q5 => k_is); (case k8_q5 => k_room); (case k9_q5 => first | exact BindsTo.of_eq (binds := [(_, _)]) rfl | exact BindsTo.of_eq (binds := [(_, _), (_, _)]) rfl | exact BindsTo.of_eq rfl | exact binds_K (by k_in) rfl (by k_is) rfl rfl rfl | fail "my_enter: no rule for these arguments"); (case c5_q5 => decide); (case kB_q5 => exact locs rfl); (case c2_q5 => exact rfl); (case c3_q5 => exact rfl); (case c4_q5 => exact rfl); k_whole; intro L' h' F' N' l0; (replace l0 := ltN l0); (try dsimp only); (try k_fold))
      | (refine' enterTC ?ksub_q5 ?ksz_q5 ?k3_q5 ?k5_q5 ?kt_q5 ?kg_q5 ?k6_q5 ?k7_q5 ?k8_q5 ?k9_q5 ?kB_q5 ?kD_q5 ?_ ?c2_q5 ?c3_q5 ?c4_q5; (case ksub_q5 => assumption); (case ksz_q5 => assumption); (case kt_q5 => assumption); (case kg_q5 => assumption); (case k3_q5 => k_asm); (case k5_q5 => k_asm); (case k6_q5 => k_is); (case k7_q5 => k_is); (case k8_q5 => k_room); (case k9_q5 => first | exact BindsTo.of_eq (binds := [(_, _)]) rfl | exact BindsTo.of_eq (binds := [(_, _), (_, _)]) rfl | exact BindsTo.of_eq rfl | exact binds_K (by k_in) rfl (by k_is) rfl rfl rfl | fail "my_enter: no rule for these arguments"); (case kB_q5 => exact rfl); (case kD_q5 => decide +kernel); (case c2_q5 => exact rfl); (case c3_q5 => exact rfl); (case c4_q5 => exact rfl); k_whole; intro L' h' tk' cells' F' N' Y' l0; (replace l0 := ltN l0); k_cells Y'; (try simp only [List.cons_append, List.nil_append, List.append_nil] at N'); (try dsimp only); (try k_fold))))))
  trivial
example : True := by
  (k_with "my execs cons" => (((with_reducible refine wpAny_execs_cons ?_); (try dsimp only); (try k_fold); (try ((rename Fr _ _ _ _ => F9); (refine foldFr F9 ?_); (intro mk9 F8); (clear F9))))))
  trivial
example : True := by
  (k_with "my size_fits" => (exact Nat.le_of_ble_eq_true rfl))
  trivial
example : True := by
  (k_with "my pick_chain" => (((iterate 15 (try (first | with_reducible assumption | apply pickR))); done)))
  trivial
example : True := by
  (k_with "my pick_one" => ((first | with_reducible assumption | (apply pickL; walk_at "pick_chain") | walk_at "pick_chain")))
  trivial
example : True := by
  (k_with "my pick_ne" => ((refine neN ?_; (try dsimp only); (first | with_reducible assumption | (refine Nat.ne_of_lt ?_; (simp only [*]; done)) | (refine Nat.ne_of_gt ?_; (simp only [*]; done)) | (simp only [*, ne_eq, not_false_eq_true]; done) | (refine Ne.symm ?_; (simp only [*, ne_eq, not_false_eq_true]; done)) | (refine ne_up ?_; (simp only [*]; done)) | (refine ne_up' ?_; (simp only [*]; done))))))
  trivial
example : True := by
  (k_with "my pick_lim" => ((first
      | (refine' lim1 ?h_q11 ?k_q11; (case h_q11 => assumption); (case k_q11 => exact rfl))
      | (refine' lim2 ?h_q11 ?k_q11; (case h_q11 => assumption); (case k_q11 => exact rfl))
      | (refine' lim0 ?h_q11; (case h_q11 => assumption))
      | (refine' lim3 ?h_q11 ?k_q11; (case h_q11 => assumption); (case k_q11 => exact rfl)))))
  trivial
example : True := by
  (k_with "my pick_all" => ((first | exact allNe_nil | (refine' allNe_cons ?a_q12 ?b_q12; (case a_q12 => k_ne); (case b_q12 => k_all)))))
  trivial
example : True := by
  (k_with "my eval Name" => ((k_here; (with_reducible show wpAny _ _ (eval (Expr.Name _ _) (compEnvC _ _ _ _)) _ _ _); k_dflt (first | refine LCgL.ld_own (by with_reducible assumption) (by k_mem) (by with_reducible assumption) (by with_reducible assumption) ?_ | refine LCgL.ld_global (by with_reducible assumption) (by with_reducible assumption) (by with_reducible assumption) (by k_is) ?_ | refine LCgL.ld_built (by with_reducible assumption) (by with_reducible assumption) (by with_reducible assumption) (by k_is) (by boot_by_name) (by decide) ?_))))
  trivial

section
example : True := by
  (k_with "my last pyIter ref" => (((with_reducible show wpAny _ _ (pyIter (Value.ref _)) (fun it s₂ => LoopAtV _ _ _ _ _ _ _ _ _ it s₂) _ _); (rename IsRange _ _ _ _ _ _ _ _ => hR'); (rename Fr _ _ _ _ => lF'); (rename News _ _ _ _ => lN'); (k_dflt (refine krs_iter (n := 16) (by rfl) hR' (by first | decide | rfl) (by first | decide | rfl) lF' lN' ?_)); clear lF' lN'; intro i' l1; refine Stop.of ?_)))
  trivial
example : True := by
  (k_with "my subscriptTail Name Slice ref ref" => ((k_here; k_dflt (refine' slice4 ?k1_q111 ?k2_q111 ?k3_q111 ?k4_q111 ?k5_q111 ?k6_q111 ?k7_q111 ?k8_q111 ?_; (case k1_q111 => k_asm); (case k2_q111 => k_asm); (case k3_q111 => exact Fr.keep (by k_asm) _ _ (by assumption)); (case k4_q111 => assumption); (case k5_q111 => assumption); (case k6_q111 => assumption); (case k7_q111 => omega); (case k8_q111 => omega)); intro D' h' F' N' l1; (try k_lt l1))))
  trivial
example : True := by
  (k_with "my binaryOp Add ref ref" => ((k_here; k_dflt (refine' add_three ?k1_q112 ?k2_q112 ?k3_q112 ?k4_q112 ?k5_q112 ?_; (case k1_q112 => k_asm); (case k2_q112 => k_asm); (case k3_q112 => k_mem); (case k4_q112 => k_mem); (case k5_q112 => assumption)); intro D' h' F' N' l1; (try k_lt l1))))
  trivial
example : True := by
  (k_with "my pyIter ref" => (((with_reducible show wpAny _ _ (pyIter (Value.ref _)) (fun it s₂ => LoopAtV _ _ _ _ _ _ _ _ _ it s₂) _ _); k_listUnr)))
  trivial
example : True := by
  (k_with "my exec For" => ((k_here; (rename Fr _ _ _ _ => lF'); (with_unfolding_all refine' For_invVF lF' ?k1_q114 ?k2_q114 ?_; (case k1_q114 => exact rfl); (case k2_q114 => exact rfl); k_whole))))
  trivial
example : True := by
  (k_with "my call type:bytes" => ((k_dflt (refine' bytes_K ?F_q115 ?N_q115 ?l_q115 ?i_q115 ?r_q115 ?z_q115 ?h_q115 ?_; (case F_q115 => k_asm); (case N_q115 => k_asm); (case l_q115 => exact ⟨_, News.get (by k_asm) (by k_mem), rfl, _, rfl⟩); (case i_q115 => assumption); (case r_q115 => exact rowZ_in (by assumption) _); (case z_q115 => assumption); (case h_q115 => exact rfl)); intro h' t' k' F' N' _)))
  trivial
theorem row_spec (w : World) (lf : Addr) (n : Nat) (f : Nat → Int) (tk : Nat → Tok) (fv : Array Value) (hfs : fv.size = 64) (hfv : ∀ j, j < 64 → fv[j]? = some (.int (f j) (tk j))) (hf : ∀ j, 0 ≤ f j ∧ f j < 64) :
    SpecP w 265 [.ref lf] [] 3 (fun h => h.get? lf = some ⟨.type "list", none, .seq fv n, #[]⟩) (fun r h h' => ∃ t, r = .bytes ((rowZ f 16).map fun n => n.toNat.toUInt8).toArray t) := by
  unfold SpecP
  k_fill
  intro _ dp un gd outer base s Q E p loose mean mg mb B X T hpre hdp hun hret
  walk_at "my_enter"
  walk_at "my_steps"
  refine krs_ind (fun i m news => ∃ lo vs nn, (lo, W.listOf vs.toArray nn) ∈ news ∧ IntsAre vs (rowZ f i) ∧ m (Str.ofString "octets") = some (.ref lo) ∧ m (Str.ofString "figures") = some (.ref lf)) ?turn ?done 16 0 _ _ rfl ⟨_, [], _, .head _, .nil, rfl, by with_unfolding_all rfl⟩
  case turn =>
    rintro i m news hi ⟨lo, vs, nn, hm, hI, ho, hg⟩ t h tk₁ F N
    have em : (fun y => if y = Str.ofString "place" then some (Value.int (0 + (i : Int) * 4) t) else m y) = fun y => if y = Str.ofString "place" then some (Value.int (0 + (i : Int) * 4) t) else if y = Str.ofString "octets" then some (.ref lo) else if y = Str.ofString "figures" then some (.ref lf) else m y := by
      funext y
      by_cases e1 : y = Str.ofString "place"
      · rw [if_pos e1, if_pos e1]
      · rw [if_neg e1, if_neg e1]
        by_cases e2 : y = Str.ofString "octets"
        · rw [if_pos e2, e2, ho]
        · rw [if_neg e2]
          by_cases e3 : y = Str.ofString "figures"
          · rw [if_pos e3, e3, hg]
          · rw [if_neg e3]
    rw [em] at F
    clear em
    have N2 := news_sub2 N hm
    clear N
    have hvl : vs.length ≤ 1000 := by rw [hI.length, rowZ_len]; omega
    have b0 := hf (4 * i)
    have b1 := hf (4 * i + 1)
    have b2 := hf (4 * i + 2)
    have b3 := hf (4 * i + 3)
    have hv4 := val4_in hf i
    k_with "call ref" => (k_dflt (refine' useP (three_spec _ (val4 f i) _ hv4.1 hv4.2) ?kB ?kF ?kX ?kN ?kT ?kk ?kp ?kd ?ku ?_; (walk_at "use_cases"); (case kp => trivial); (intro r9 h9 tk9 F9 N9 P9 K9; obtain ⟨l9, t91, t92, t93, rfl, hg9, hn9⟩ := P9; (replace N9 := news_more (by assumption) N9 hg9 hn9); (try dsimp only); (try k_fold))))
    walk_at "my_steps"
    all_goals exact ⟨_, vs ++ [_, _, _], 0, by k_mem, ints_three hI, by with_unfolding_all rfl, by with_unfolding_all rfl⟩
  case done =>
    rintro m news ⟨lo, vs, nn, hm, hI, ho, hg⟩ h tk₁ F N
    have em : m = fun y => if y = Str.ofString "octets" then some (.ref lo) else m y := by
      funext y
      by_cases e2 : y = Str.ofString "octets"
      · rw [if_pos e2, e2, ho]
      · rw [if_neg e2]
    rw [em] at F
    clear em
    have N2 := news_sub1 N hm
    clear N
    have hvl : vs.length ≤ sizeLine := by rw [hI.length, rowZ_len, sizeLine_eq]; omega
    walk_at "my_steps"
    all_goals exact hret _ _ _ (Fr.keep (by assumption)) ⟨_, rfl⟩
end

example : True := by
  k_with_none
  trivial
section
@[irreducible] noncomputable def rowB (f : Nat → Int) (k : Nat) : Array UInt8 := ((rowZ f k).map fun n => n.toNat.toUInt8).toArray
noncomputable def signsL (f : Nat → Int) (n : Nat) : List Int := (List.range n).map fun j => b64At (f j)
@[irreducible] noncomputable def preL (f : Nat → Int) (n : Nat) : List Nat := (List.range n).map fun j => sgC (f j)
@[irreducible] noncomputable def preT (f : Nat → Int) (n : Nat) : Str := ⟨(preL f n).toArray⟩
@[irreducible] noncomputable def preB (f : Nat → Int) (n : Nat) : List UInt8 := (List.range n).map fun j => sgB (f j)
theorem preL_len (f : Nat → Int) (n : Nat) : (preL f n).length = n := by unfold preL; simp
theorem preB_len (f : Nat → Int) (n : Nat) : (preB f n).length = n := by unfold preB; simp
theorem signs_four (f : Nat → Int) (k : Nat) : signsL f (4 * (k + 1)) = signsL f (4 * k) ++ [b64At (f (4 * k)), b64At (f (4 * k + 1)), b64At (f (4 * k + 2)), b64At (f (4 * k + 3))] := by
  unfold signsL
  rw [show 4 * (k + 1) = 4 * k + 1 + 1 + 1 + 1 by omega, List.range_succ, List.range_succ, List.range_succ, List.range_succ]
  simp
variable {f : Nat → Int} (hf : ∀ j, 0 ≤ f j ∧ f j < 64)
include hf
omit hf in
theorem three_parts (k : Nat) : threeZ (val4 f k) = [val4 f k / 65536, val4 f k / 256 % 256, val4 f k % 256] := by
  have e1 : (val4 f k).fdiv 65536 = val4 f k / 65536 := Int.fdiv_eq_ediv_of_nonneg _ (by decide)
  have e2 : ((val4 f k).fdiv 256).fmod 256 = val4 f k / 256 % 256 := by rw [Int.fdiv_eq_ediv_of_nonneg _ (by decide), Int.fmod_eq_emod_of_nonneg _ (by decide)]
  have e3 : (val4 f k).fmod 256 = val4 f k % 256 := Int.fmod_eq_emod_of_nonneg _ (by decide)
  unfold threeZ
  rw [e1, e2, e3]
theorem val4_parts (k : Nat) : val4 f k / 65536 / 4 = f (4 * k) ∧ val4 f k / 65536 % 4 * 16 + val4 f k / 256 % 256 / 16 = f (4 * k + 1) ∧ val4 f k / 256 % 256 % 16 * 4 + val4 f k % 256 / 64 = f (4 * k + 2) ∧ val4 f k % 256 % 64 = f (4 * k + 3) ∧
    val4 f k / 65536 % 4 * 16 = f (4 * k + 1) / 16 * 16 ∧ val4 f k / 256 % 256 % 16 * 4 = f (4 * k + 2) / 4 * 4 := by
  exact val_parts rfl (hf _) (hf _) (hf _) (hf _) (val4_in hf k).1 (val4_in hf k).2
theorem fold_row (k : Nat) : ∃ lc, 0 ≤ lc ∧ b64Fold (rowZ f k) = (signsL f (4 * k), 0, lc) := by
  induction k with
  | zero => exact ⟨0, by decide, rfl⟩
  | succ k ih =>
    obtain ⟨lc, hl, e⟩ := ih
    have hv := val4_in hf k
    obtain ⟨p0, p1, p2, p3, _, _⟩ := val4_parts hf k
    refine ⟨(val4 f k / 256 % 256 * 256 + val4 f k % 256) % 65536, Int.emod_nonneg _ (by decide), ?_⟩
    · show b64Fold (rowZ f k ++ threeZ (val4 f k)) = _
      unfold b64Fold at e ⊢
      rw [List.foldl_append, e, three_parts, step3 hl (oct3_in hv.1 hv.2 _ (.head _)).1 (oct3_in hv.1 hv.2 _ (.head _)).2 (oct3_in hv.1 hv.2 _ (.tail _ (.head _))).1 (oct3_in hv.1 hv.2 _ (.tail _ (.head _))).2 (oct3_in hv.1 hv.2 _ (.tail _ (.tail _ (.head _)))).1 (oct3_in hv.1 hv.2 _ (.tail _ (.tail _ (.head _)))).2, p0, p1, p2, p3, signs_four]
omit hf in
theorem tr_map (g : Nat → Int) (n : Nat) (r : List Int) : trans urlTab ((((List.range n).map fun j => b64At (g j)) ++ r).map fun n => n.toNat.toUInt8).toArray = (preB g n ++ r.map fun i => urlTab.getD i.toNat.toUInt8.toNat i.toNat.toUInt8).toArray := by
  rw [trans_list]
  simp only [List.map_append, List.map_map]
  unfold preB
  rfl
theorem enc_row : trans urlTab ((b64Enc (rowB f 16)).map fun n => n.toNat.toUInt8).toArray = (preB f 64).toArray := by
  obtain ⟨lc, hl, e⟩ := fold_row hf 16
  unfold b64Enc
  rw [rowB, bInts_bytes (rowZ_in hf 16), e]
  unfold b64Tail
  rw [if_neg (by show ¬ (0 : Int) = 2; decide), if_neg (by show ¬ (0 : Int) = 4; decide)]
  have := tr_map f 64 []
  simp only [List.append_nil, List.map_nil] at this
  exact this
theorem take46 : (rowZ f 16).take 46 = rowZ f 15 ++ [val4 f 15 / 65536] := by
  show (rowZ f 15 ++ threeZ (val4 f 15)).take 46 = _
  rw [three_parts, List.take_append, rowZ_len]
  rw [List.take_of_length_le (by rw [rowZ_len]; decide)]
  rfl
theorem take47 : (rowZ f 16).take 47 = rowZ f 15 ++ [val4 f 15 / 65536, val4 f 15 / 256 % 256] := by
  show (rowZ f 15 ++ threeZ (val4 f 15)).take 47 = _
  rw [three_parts, List.take_append, rowZ_len]
  rw [List.take_of_length_le (by rw [rowZ_len]; decide)]
  rfl
omit hf in
theorem preB_snoc (g : Nat → Int) (n : Nat) : preB g (n + 1) = preB g n ++ [sgB (g n)] := by unfold preB; rw [List.range_succ]; simp
omit hf in
theorem tab61 : urlTab.getD (61 : Int).toNat.toUInt8.toNat (61 : Int).toNat.toUInt8 = 61 := by decide +kernel
theorem enc_46 : trans urlTab ((b64Enc ((((rowZ f 16).take 46).map fun n => n.toNat.toUInt8).toArray)).map fun n => n.toNat.toUInt8).toArray = (preB f 61 ++ [sgB (f 61 / 16 * 16), 61, 61]).toArray := by
  obtain ⟨lc, hl, e⟩ := fold_row hf 15
  have hv := val4_in hf 15
  obtain ⟨p0, p1, p2, p3, p4, p5⟩ := val4_parts hf 15
  unfold b64Enc
  rw [bInts_bytes (fun x hx => rowZ_in hf 16 x (List.mem_of_mem_take hx)), take46 hf]
  unfold b64Fold at e ⊢
  rw [List.foldl_append, e, step1 hl (oct3_in hv.1 hv.2 _ (.head _)).1 (oct3_in hv.1 hv.2 _ (.head _)).2, p0, p4]
  have := tr_map f 60 [b64At (f 60), b64At (f 61 / 16 * 16), 61, 61]
  rw [show signsL f (4 * 15) = (List.range 60).map fun j => b64At (f j) from rfl]
  refine this.trans ?_
  rw [preB_snoc f 60]
  simp only [List.map_cons, List.map_nil, tab61, List.append_assoc, List.cons_append, List.nil_append]
  rfl
theorem enc_47 : trans urlTab ((b64Enc ((((rowZ f 16).take 47).map fun n => n.toNat.toUInt8).toArray)).map fun n => n.toNat.toUInt8).toArray = (preB f 62 ++ [sgB (f 62 / 4 * 4), 61]).toArray := by
  obtain ⟨lc, hl, e⟩ := fold_row hf 15
  have hv := val4_in hf 15
  obtain ⟨p0, p1, p2, p3, p4, p5⟩ := val4_parts hf 15
  unfold b64Enc
  rw [bInts_bytes (fun x hx => rowZ_in hf 16 x (List.mem_of_mem_take hx)), take47 hf]
  unfold b64Fold at e ⊢
  rw [List.foldl_append, e, step2 hl (oct3_in hv.1 hv.2 _ (.head _)).1 (oct3_in hv.1 hv.2 _ (.head _)).2 (oct3_in hv.1 hv.2 _ (.tail _ (.head _))).1 (oct3_in hv.1 hv.2 _ (.tail _ (.head _))).2, p0, p1, p5]
  have := tr_map f 60 [b64At (f 60), b64At (f 61), b64At (f 62 / 4 * 4), 61]
  rw [show signsL f (4 * 15) = (List.range 60).map fun j => b64At (f j) from rfl]
  refine this.trans ?_
  rw [preB_snoc f 61, preB_snoc f 60]
  simp only [List.map_cons, List.map_nil, tab61, List.append_assoc, List.cons_append, List.nil_append]
  rfl
end
section
@[irreducible] noncomputable def figF (b0 b1 b2 b3 b4 b5 : UInt8) (j : Nat) : Int := fig b0 b1 b2 b3 b4 b5 (j : Int)
theorem figF_in (b0 b1 b2 b3 b4 b5 : UInt8) (j : Nat) : 0 ≤ figF b0 b1 b2 b3 b4 b5 j ∧ figF b0 b1 b2 b3 b4 b5 j < 64 := by
  unfold figF
  exact fig_in b0 b1 b2 b3 b4 b5 _
theorem figF_is (b0 b1 b2 b3 b4 b5 : UInt8) (j : Nat) : figF b0 b1 b2 b3 b4 b5 j = worth b0 b1 b2 b3 b4 b5 (j : Int) % 64 := by unfold figF fig; rfl
theorem figF_M (b0 b1 b2 b3 b4 b5 : UInt8) (j : Nat) : (worth b0 b1 b2 b3 b4 b5 (j : Int)).fmod 64 = figF b0 b1 b2 b3 b4 b5 j := by
  rw [figF_is]
  exact Int.fmod_eq_emod_of_nonneg _ (show (0 : Int) ≤ 64 by decide)
theorem row_len (f : Nat → Int) : (rowB f 16).size = 48 := by unfold rowB; simp [rowZ_len]
theorem preT_is (f : Nat → Int) (n : Nat) : (⟨((preB f n).toArray).map (·.toNat)⟩ : Str) = preT f n := by
  unfold preT preL preB
  congr 1
  simp [sgC]
@[irreducible] noncomputable def cutB (f : Nat → Int) (n : Nat) : Array UInt8 := (((rowZ f 16).take n).map fun n => n.toNat.toUInt8).toArray
@[irreducible] noncomputable def tail46 (f : Nat → Int) : Str := ⟨(preL f 61 ++ [sgC (f 61 / 16 * 16), 61, 61]).toArray⟩
@[irreducible] noncomputable def tail47 (f : Nat → Int) : Str := ⟨(preL f 62 ++ [sgC (f 62 / 4 * 4), 61]).toArray⟩
theorem tail46_is (f : Nat → Int) : (⟨((preB f 61 ++ [sgB (f 61 / 16 * 16), 61, 61]).toArray).map (·.toNat)⟩ : Str) = tail46 f := by
  unfold tail46 preL preB
  congr 1
  simp [sgC]
theorem tail47_is (f : Nat → Int) : (⟨((preB f 62 ++ [sgB (f 62 / 4 * 4), 61]).toArray).map (·.toNat)⟩ : Str) = tail47 f := by
  unfold tail47 preL preB
  congr 1
  simp [sgC]
variable {f : Nat → Int} (hf : ∀ j, 0 ≤ f j ∧ f j < 64)
include hf
theorem enc64_spec (w : World) (tk tk2 : Tok) : SpecP w 51 [.bytes (rowB f 16) tk, .bytes #[45, 95] tk2] [] 3 (fun _ => True) (fun r _ _ => ∃ t, r = .bytes (preB f 64).toArray t) := by
  have := enc_spec w (rowB f 16) tk tk2 (by rw [row_len]; decide)
  rw [enc_row hf] at this
  exact this
theorem enc46_spec (w : World) (tk tk2 : Tok) : SpecP w 51 [.bytes (cutB f 46) tk, .bytes #[45, 95] tk2] [] 3 (fun _ => True) (fun r _ _ => ∃ t, r = .bytes (preB f 61 ++ [sgB (f 61 / 16 * 16), 61, 61]).toArray t) := by
  have := enc_spec w (cutB f 46) tk tk2 (by unfold cutB; simp; omega)
  unfold cutB at this ⊢
  rw [enc_46 hf] at this
  exact this
theorem enc47_spec (w : World) (tk tk2 : Tok) : SpecP w 51 [.bytes (cutB f 47) tk, .bytes #[45, 95] tk2] [] 3 (fun _ => True) (fun r _ _ => ∃ t, r = .bytes (preB f 62 ++ [sgB (f 62 / 4 * 4), 61]).toArray t) := by
  have := enc_spec w (cutB f 47) tk tk2 (by unfold cutB; simp; omega)
  unfold cutB at this ⊢
  rw [enc_47 hf] at this
  exact this
omit hf
theorem text64_spec (w : World) (tk : Tok) : SpecP w 258 [.bytes (preB f 64).toArray tk] [] 6 Filled (fun r _ _ => ∃ t, r = .str (preT f 64) t) := by
  have := text_spec w (preB f 64).toArray tk (by simp [preB_len]) (by simp [preB_len])
  rw [preT_is] at this
  exact this
theorem text46_spec (w : World) (tk : Tok) : SpecP w 258 [.bytes (preB f 61 ++ [sgB (f 61 / 16 * 16), 61, 61]).toArray tk] [] 6 Filled (fun r _ _ => ∃ t, r = .str (tail46 f) t) := by
  have := text_spec w (preB f 61 ++ [sgB (f 61 / 16 * 16), 61, 61]).toArray tk (by simp) (by simp [preB_len])
  rw [tail46_is] at this
  exact this
theorem text47_spec (w : World) (tk : Tok) : SpecP w 258 [.bytes (preB f 62 ++ [sgB (f 62 / 4 * 4), 61]).toArray tk] [] 6 Filled (fun r _ _ => ∃ t, r = .str (tail47 f) t) := by
  have := text_spec w (preB f 62 ++ [sgB (f 62 / 4 * 4), 61]).toArray tk (by simp) (by simp [preB_len])
  rw [tail47_is] at this
  exact this
theorem pre_len (n : Nat) : (preT f n).length = n := by
  unfold preT Str.length
  simp [preL_len]
theorem pre_at {n k : Nat} (h : k < n) : (preT f n).cps[k]? = some (sgC (f k)) := by
  unfold preT preL
  simp [h]
section
variable {prog : Program} {w : World} {A : Around} {E : Value → Shared → Prop} {s : Shared} {t : Tok} {Q : Value → Shared → Prop}
theorem len_pre {n : Nat} (hn : n ≤ 1000) (h : ∀ t' k, Q (.int (n : Int) t') { s with toks := k }) : wpAny (model prog w) A (call (.builtin "len") [.str (preT f n) t]) Q E s := by
  refine PyProof.Rows.len_str (by rw [pre_len]; omega) ?_
  rw [pre_len]
  exact h _ _
end
end

example : True := by
  k_with_none
  trivial
section
open PyProof.Rows.LCg PyProof.Rows.LCt
section
variable {prog : Program} {w : World} {A : Around} {h₀ : Heap} {L : Addr} {m : Str → Option Value} {env : Env} {elt ct : Expr} {x : Str} {scope : Scope} {cl : List (Str × Addr)} {s : Shared} {S : List (Addr × Obj) → Prop} {P : Nat → Value → Prop} {Fin : List Value → List (Addr × Obj) → Prop} {news : List (Addr × Obj)} {n : Nat}
/-- a turn's end: the element is there, nothing else has changed -/
noncomputable def TurnEnd (h₀ : Heap) (L : Addr) (m : Str → Option Value) (s : Shared) (news : List (Addr × Obj)) (R : Value → Prop) (y : Value) (s' : Shared) : Prop :=
  ∃ h' tk', s' = { s with heap := h', toks := tk' } ∧ Fr h₀ L h' m ∧ News h₀ L h' news ∧ R y
theorem TurnEnd.intro {h : Heap} {tk : Nat} {R : Value → Prop} {y : Value} {news' : List (Addr × Obj)} (F : Fr h₀ L h m) (N : News h₀ L h news') (hs : ∀ p ∈ news, p ∈ news') (r : R y) : TurnEnd h₀ L m s news R y { s with heap := h, toks := tk } :=
  ⟨h, tk, rfl, F, fun p hp => N p (hs p hp), r⟩
theorem comp_ind (J : Nat → List Value → Prop) (hS : S news)
    (turn : ∀ i ys, i < n → J i ys → ∀ v I oI C oC D m₂ h tk (E' : Value → Shared → Prop), P i v → NsObj oC m₂ → m₂ x = some v → Fr h₀ L h m → News h₀ L h ((I, oI) :: (C, oC) :: (D, lst ys) :: news) →
      wpAny (model prog w) A (eval elt (compEnvC scope cl C env)) (TurnEnd h₀ L m { s with heap := h, toks := tk } ((I, oI) :: (C, oC) :: (D, lst ys) :: news) (fun y => J (i + 1) (ys ++ [y]))) E' { s with heap := h, toks := tk })
    (fin : ∀ ys, J n ys → Fin ys news) :
    ∀ (k i : Nat) (ys : List Value), i + k = n → J i ys → CompRest prog w A h₀ L m env elt x scope cl s S P Fin k i ys news := by
  intro k
  induction k with
  | zero =>
    intro i ys hi hJ
    have : i = n := by omega
    subst this
    exact CompRest.zero (fin ys hJ)
  | succ k ih =>
    intro i ys hi hJ
    refine CompRest.succ fun v I oI C oC D m₂ h tk E' hv hC hx F N off ne => ?_
    refine wpAny_mono (turn i ys (by omega) hJ v I oI C oC D m₂ h tk E' hv hC hx F N) (fun y s' e => ?_) fun _ _ e => e
    obtain ⟨h', tk', rfl, F', N', r⟩ := e
    exact CompEnd.intro (s₁ := { s with heap := h, toks := tk }) F' N' news (fun _ hp => hp) off hS (ih (i + 1) _ (by omega) r)
theorem comp_indT (J : Nat → List Value → Prop) (hS : S news)
    (turn : ∀ i ys, i < n → J i ys → ∀ v I oI C oC D m₂ h tk (E' : Value → Shared → Prop), P i v → NsObj oC m₂ → m₂ x = some v → Fr h₀ L h m → News h₀ L h ((I, oI) :: (C, oC) :: (D, lst ys) :: news) →
      wpAny (model prog w) A (isTrue ct (compEnvC scope cl C env) (eval ct (compEnvC scope cl C env))) (fun ok s' => if ok = true then
        wpAny (model prog w) A (eval elt (compEnvC scope cl C env)) (TurnEnd h₀ L m { s with heap := h, toks := tk } ((I, oI) :: (C, oC) :: (D, lst ys) :: news) (fun y => J (i + 1) (ys ++ [y]))) E' s'
        else TurnEnd h₀ L m { s with heap := h, toks := tk } ((I, oI) :: (C, oC) :: (D, lst ys) :: news) (fun _ => J (i + 1) ys) Value.none s') E' { s with heap := h, toks := tk })
    (fin : ∀ ys, J n ys → Fin ys news) :
    ∀ (k i : Nat) (ys : List Value), i + k = n → J i ys → CompRestT prog w A h₀ L m env ct elt x scope cl s S P Fin k i ys news := by
  intro k
  induction k with
  | zero =>
    intro i ys hi hJ
    have : i = n := by omega
    subst this
    exact CompRestT.zero (fin ys hJ)
  | succ k ih =>
    intro i ys hi hJ
    refine CompRestT.succ fun v I oI C oC D m₂ h tk E' hv hC hx F N off ne => ?_
    refine wpAny_mono (turn i ys (by omega) hJ v I oI C oC D m₂ h tk E' hv hC hx F N) (fun ok s' e => ?_) fun _ _ e => e
    cases ok with
    | true =>
      simp only [if_true] at e ⊢
      refine wpAny_mono e (fun y s'' e => ?_) fun _ _ e => e
      obtain ⟨h', tk', rfl, F', N', r⟩ := e
      exact CompEnd.intro (s₁ := { s with heap := h, toks := tk }) F' N' news (fun _ hp => hp) off hS (ih (i + 1) _ (by omega) r)
    | false =>
      simp only [Bool.false_eq_true, if_false] at e ⊢
      obtain ⟨h', tk', rfl, F', N', r⟩ := e
      exact CompEnd.intro (s₁ := { s with heap := h, toks := tk }) F' N' news (fun _ hp => hp) off hS (ih (i + 1) _ (by omega) r)
end
/-- the ints f 0, .., f (i - 1) -/
noncomputable def IntsTo (f : Nat → Int) (i : Nat) (ys : List Value) : Prop := ys.length = i ∧ ∀ j, j < i → ∃ t, ys[j]? = some (.int (f j) t)
theorem IntsTo.nil (f : Nat → Int) : IntsTo f 0 [] := ⟨rfl, fun j h => absurd h (Nat.not_lt_zero _)⟩
theorem IntsTo.snoc {f : Nat → Int} {i : Nat} {ys : List Value} {a : Int} {t : Tok} (h : IntsTo f i ys) (e : a = f i) : IntsTo f (i + 1) (ys ++ [.int a t]) := by
  refine ⟨by simp [h.1], fun j hj => ?_⟩
  by_cases hji : j < i
  · obtain ⟨t', e'⟩ := h.2 j hji
    exact ⟨t', by rw [List.getElem?_append_left (by rw [h.1]; exact hji)]; exact e'⟩
  · have : j = i := by omega
    subst this
    subst e
    refine ⟨t, ?_⟩
    rw [List.getElem?_append_right (by rw [h.1]; exact Nat.le_refl _), h.1]
    simp
noncomputable def tokOf : Option Value → Tok
  | some (.int _ t) => t
  | _ => 0
theorem IntsTo.toks {f : Nat → Int} {n : Nat} {ys : List Value} (h : IntsTo f n ys) : ∀ j, j < n → ys.toArray[j]? = some (.int (f j) (tokOf ys.toArray[j]?)) := fun j hj => by
  obtain ⟨t, e⟩ := h.2 j hj
  simp [e, tokOf]
section
variable {prog : Program} {w : World} {A : Around} {h₀ : Heap} {L : Addr} {m : Str → Option Value} {env : Env} {elt ct : Expr} {x : Str} {scope : Scope} {cl : List (Str × Addr)} {s : Shared} {Fin : List Value → List (Addr × Obj) → Prop} {news : List (Addr × Obj)} {n : Nat}
theorem comp_indR (J : Nat → List Value → Prop) (h0 : J 0 [])
    (turn : ∀ (i : Nat) ys, i < n → J i ys → ∀ t I oI C oC D m₂ h tk (E' : Value → Shared → Prop), NsObj oC m₂ → m₂ x = some (.int (i : Int) t) → Fr h₀ L h m → News h₀ L h ((I, oI) :: (C, oC) :: (D, lst ys) :: news) →
      wpAny (model prog w) A (eval elt (compEnvC scope cl C env)) (TurnEnd h₀ L m { s with heap := h, toks := tk } ((I, oI) :: (C, oC) :: (D, lst ys) :: news) (fun y => J (i + 1) (ys ++ [y]))) E' { s with heap := h, toks := tk })
    (fin : ∀ ys, J n ys → Fin ys news) : CompRest prog w A h₀ L m env elt x scope cl s (fun _ => True) (fun i v => ∃ t, v = .int (0 + (i : Int)) t) Fin n 0 [] news := by
  refine comp_ind (n := n) J trivial (fun i ys hi hJ v I oI C oC D m₂ h tk E' hv hC hx F N => ?_) fin n 0 [] (Nat.zero_add _) h0
  obtain ⟨t, rfl⟩ := hv
  rw [Int.zero_add] at hx
  exact turn i ys hi hJ t I oI C oC D m₂ h tk E' hC hx F N
theorem comp_indTR (J : Nat → List Value → Prop) (h0 : J 0 [])
    (turn : ∀ (i : Nat) ys, i < n → J i ys → ∀ t I oI C oC D m₂ h tk (E' : Value → Shared → Prop), NsObj oC m₂ → m₂ x = some (.int (i : Int) t) → Fr h₀ L h m → News h₀ L h ((I, oI) :: (C, oC) :: (D, lst ys) :: news) →
      wpAny (model prog w) A (isTrue ct (compEnvC scope cl C env) (eval ct (compEnvC scope cl C env))) (fun ok s' => if ok = true then
        wpAny (model prog w) A (eval elt (compEnvC scope cl C env)) (TurnEnd h₀ L m { s with heap := h, toks := tk } ((I, oI) :: (C, oC) :: (D, lst ys) :: news) (fun y => J (i + 1) (ys ++ [y]))) E' s'
        else TurnEnd h₀ L m { s with heap := h, toks := tk } ((I, oI) :: (C, oC) :: (D, lst ys) :: news) (fun _ => J (i + 1) ys) Value.none s') E' { s with heap := h, toks := tk })
    (fin : ∀ ys, J n ys → Fin ys news) : CompRestT prog w A h₀ L m env ct elt x scope cl s (fun _ => True) (fun i v => ∃ t, v = .int (0 + (i : Int)) t) Fin n 0 [] news := by
  refine comp_indT (n := n) J trivial (fun i ys hi hJ v I oI C oC D m₂ h tk E' hv hC hx F N => ?_) fin n 0 [] (Nat.zero_add _) h0
  obtain ⟨t, rfl⟩ := hv
  rw [Int.zero_add] at hx
  exact turn i ys hi hJ t I oI C oC D m₂ h tk E' hC hx F N
theorem comp_indL {f : Nat → Int} {xs : List Value} {S : List (Addr × Obj) → Prop} (J : Nat → List Value → Prop) (h0 : J 0 []) (hS : S news) (hI : IntsTo f n xs)
    (turn : ∀ (i : Nat) ys, i < n → J i ys → ∀ t I oI C oC D m₂ h tk (E' : Value → Shared → Prop), NsObj oC m₂ → m₂ x = some (.int (f i) t) → Fr h₀ L h m → News h₀ L h ((I, oI) :: (C, oC) :: (D, lst ys) :: news) →
      wpAny (model prog w) A (eval elt (compEnvC scope cl C env)) (TurnEnd h₀ L m { s with heap := h, toks := tk } ((I, oI) :: (C, oC) :: (D, lst ys) :: news) (fun y => J (i + 1) (ys ++ [y]))) E' { s with heap := h, toks := tk })
    (fin : ∀ ys, J n ys → Fin ys news) : CompRest prog w A h₀ L m env elt x scope cl s S (fun i v => xs.toArray[i]? = some v) Fin n 0 [] news := by
  refine comp_ind (n := n) J hS (fun i ys hi hJ v I oI C oC D m₂ h tk E' hv hC hx F N => ?_) fin n 0 [] (Nat.zero_add _) h0
  obtain ⟨t, e⟩ := hI.2 i hi
  have : v = .int (f i) t := by simp [e] at hv; exact hv.symm
  subst this
  exact turn i ys hi hJ t I oI C oC D m₂ h tk E' hC hx F N
end
end

example : True := by
  k_with_none
  trivial
section
open PyProof.Rows.LCg
noncomputable def dupB (f : Nat → Int) (k : Nat) : Bool := (List.range k).any (fun j => f j == f k)
noncomputable def dupN (f : Nat → Int) (i : Nat) : List Nat := (List.range i).filter (dupB f)
noncomputable def dupL (f : Nat → Int) (i : Nat) : List Int := (dupN f i).map (fun (k : Nat) => (k : Int))
theorem dup_iff {f : Nat → Int} {k : Nat} : dupB f k = true ↔ ∃ j, j < k ∧ f j = f k := by
  unfold dupB
  simp
theorem slice_pre {f : Nat → Int} {n k : Nat} (h : k ≤ n) : Txt.slice (preT f n) none (some (k : Int)) = preT f k := by
  have hl : (preT f n).cps.toList.length = n := by unfold preT; simp [preL_len]
  refine (eq_of_beq (slice_closes_to (x := preT f n) (j := (k : Int)) ⟨by omega, by rw [hl]; omega⟩)).trans ?_
  unfold preT
  congr 1
  simp only [Int.toNat_zero, List.drop_zero, Int.sub_zero, Int.toNat_natCast]
  unfold preL
  rw [← List.map_take, List.take_range, Nat.min_eq_left h]
theorem in_pre {f : Nat → Int} (hf : ∀ j, 0 ≤ f j ∧ f j < 64) (k : Nat) : (!(Builtin.Str.occurrences (preT f k) (One (sgC (f k))) 0 (preT f k).length 1).isEmpty) = dupB f k := by
  rw [show One (sgC (f k)) = ⟨#[sgC (f k)]⟩ from rfl, StrLaws.found_one, Bool.eq_iff_iff, decide_eq_true_eq, dup_iff]
  unfold preT preL
  simp only [List.mem_map, List.mem_range]
  constructor
  · rintro ⟨j, hj, e⟩
    exact ⟨j, hj, sgC_inj (hf j).1 (hf j).2 (hf k).1 (hf k).2 e⟩
  · rintro ⟨j, hj, e⟩
    exact ⟨j, hj, by rw [e]⟩
theorem dupTo_yes {f : Nat → Int} {i : Nat} {ys : List Value} {t : Tok} (h : IntsAre ys (dupL f i)) (hd : dupB f i = true) : IntsAre (ys ++ [.int (i : Int) t]) (dupL f (i + 1)) := by
  have : dupL f (i + 1) = dupL f i ++ [(i : Int)] := by
    unfold dupL dupN
    rw [List.range_succ, List.filter_append, List.map_append]
    simp [hd]
  rw [this]
  exact ints_snoc h
theorem dupTo_no {f : Nat → Int} {i : Nat} {ys : List Value} (h : IntsAre ys (dupL f i)) (hd : ¬ dupB f i = true) : IntsAre ys (dupL f (i + 1)) := by
  have : dupL f (i + 1) = dupL f i := by
    unfold dupL dupN
    rw [List.range_succ, List.filter_append, List.map_append]
    simp [hd]
  rw [this]
  exact h
theorem dupTo_no' {f : Nat → Int} {i : Nat} {ys : List Value} (h : IntsAre ys (dupL f i)) (hd : dupB f i = false) : IntsAre ys (dupL f (i + 1)) := dupTo_no h (by rw [hd]; exact Bool.false_ne_true)
theorem dup_lasts (b0 b1 b2 b3 b4 b5 : UInt8) : decide (dupL (figF b0 b1 b2 b3 b4 b5) 64 = []) = lastsB b1 b2 b3 b4 b5 := by
  cases hl : lastsB b1 b2 b3 b4 b5 with
  | true =>
    rw [decide_eq_true_eq]
    unfold dupL dupN
    rw [List.map_eq_nil_iff, List.filter_eq_nil_iff]
    intro k hk hd
    obtain ⟨j, hj, e⟩ := dup_iff.mp hd
    have hk := List.mem_range.mp hk
    unfold figF at e
    have := fig_inj b0 b1 b2 b3 b4 b5 hl (x := (j : Int)) (y := (k : Int)) (by omega) (by omega) (by omega) (by omega) e
    omega
  | false =>
    rw [decide_eq_false_iff_not]
    intro h
    unfold dupL dupN at h
    rw [List.map_eq_nil_iff, List.filter_eq_nil_iff] at h
    obtain ⟨i, j, h1, h2, e⟩ := fig_twice b0 b1 b2 b3 b4 b5 hl
    exact h j (List.mem_range.mpr h2) (dup_iff.mpr ⟨i, h1, by unfold figF; exact e⟩)
/-- the first place whose figure stood earlier, and the place where it stood -/
theorem dup_first {f : Nat → Int} {n : Nat} (h : dupL f n ≠ []) : ∃ one two : Nat, (dupL f n).head? = some (two : Int) ∧ one < two ∧ two < n ∧ f one = f two ∧ ∀ k, k < one → f k ≠ f two := by
  unfold dupL at h ⊢
  cases hd : dupN f n with
  | nil => rw [hd] at h; exact absurd rfl h
  | cons two r =>
    have hm : two ∈ dupN f n := by rw [hd]; exact .head _
    unfold dupN at hm
    obtain ⟨hr, hdu⟩ := List.mem_filter.mp hm
    obtain ⟨j, hj, e⟩ := dup_iff.mp hdu
    have key : ∀ m : Nat, (∃ j, j < m ∧ f j = f two) → ∃ one, one < m ∧ f one = f two ∧ ∀ k, k < one → f k ≠ f two := by
      intro m
      induction m with
      | zero => rintro ⟨j, hj, _⟩; exact absurd hj (Nat.not_lt_zero _)
      | succ m ih =>
        rintro ⟨j, hj, e⟩
        by_cases hex : ∃ j, j < m ∧ f j = f two
        · obtain ⟨one, h1, h2, h3⟩ := ih hex
          exact ⟨one, by omega, h2, h3⟩
        · have : j = m := by
            rcases Nat.lt_or_ge j m with q | q
            · exact absurd ⟨j, q, e⟩ hex
            · omega
          subst this
          exact ⟨j, hj, e, fun k hk e' => hex ⟨k, hk, e'⟩⟩
    obtain ⟨one, h1, h2, h3⟩ := key two ⟨j, hj, e⟩
    exact ⟨one, two, rfl, h1, List.mem_range.mp hr, h2, h3⟩
/-- the signs of f 0, .., f (i - 1), each a text -/
noncomputable def SgTo (f : Nat → Int) (i : Nat) (ys : List Value) : Prop := ∃ ps : List (Nat × Tok), ys = ps.map (fun p => Value.str (One p.1) p.2) ∧ ps.map (·.1) = preL f i
theorem SgTo.nil (f : Nat → Int) : SgTo f 0 [] := ⟨[], rfl, by unfold preL; rfl⟩
theorem SgTo.snoc {f : Nat → Int} {i : Nat} {ys : List Value} {x : Str} {t : Tok} (h : SgTo f i ys) (e : x = One (sgC (f i))) : SgTo f (i + 1) (ys ++ [.str x t]) := by
  obtain ⟨ps, rfl, e2⟩ := h
  subst e
  refine ⟨ps ++ [(sgC (f i), t)], by simp, ?_⟩
  unfold preL at e2 ⊢
  rw [List.map_append, e2, List.range_succ, List.map_append]
  rfl
theorem join_nil_ones : ∀ l : List Nat, Str.join ⟨#[]⟩ (l.map One) = ⟨l.toArray⟩
  | [] => rfl
  | [a] => rfl
  | a :: b :: r => by
    have ih := join_nil_ones (b :: r)
    show One a ++ ⟨#[]⟩ ++ Str.join ⟨#[]⟩ ((b :: r).map One) = _
    rw [ih]
    show (⟨(#[a] ++ #[]) ++ (b :: r).toArray⟩ : Str) = _
    congr 1
    simp
theorem empty_is : Str.ofString "" = ⟨#[]⟩ := by decide +kernel
theorem eqeq_is : Str.ofString "==" = ⟨#[61, 61]⟩ := by decide +kernel
theorem eq_is : Str.ofString "=" = ⟨#[61]⟩ := by decide +kernel
section
variable {prog : Program} {w : World} {A : Around} {E : Value → Shared → Prop} {s : Shared} {h₀ : Heap} {L l D : Addr} {m : Str → Option Value} {news : List (Addr × Obj)} {value slice : Expr} {f : Nat → Int} {ys : List Value} {t u : Tok} {k : Nat} {Q : Value → Shared → Prop}
theorem sliceP {n : Nat} (F : Fr h₀ L s.heap m) (N : News h₀ L s.heap news) (hk : k ≤ n) (hn : n ≤ 64) (h : ∀ h' t' tk, Fr h₀ L h' m → News h₀ L h' news → Q (.str (preT f k) t') { s with heap := h', toks := tk })
    (hs : subscripted slice false (.str (preT f n) t) (.ref s.heap.objs.size) = operate [.ref s.heap.objs.size, .str (preT f n) t] (getItem (.str (preT f n) t) (.ref s.heap.objs.size)) := by with_unfolding_all rfl)
    (ht : ∀ r, letTemporaryGo value (.str (preT f n) t) r = pure () := by intro _; with_unfolding_all rfl) :
    wpAny (model prog w) A (subscriptTail value slice (.str (preT f n) t) (.ref s.heap.objs.size)) Q E { s with heap := s.heap.push { cls := .type "slice", data := .fields #[.none, .int (k : Int) u, .none] } } :=
  slice_strN_ns F N (fun h' t' tk F' N' => by rw [slice_pre hk]; exact h h' t' tk F' N') hs ht (by rw [pre_len, sizeLine_eq]; omega)
theorem itemP {n : Nat} (hk : k < n) (hn : n ≤ 64) (h : ∀ tk t', Q (.str (One (sgC (f k))) t') { s with toks := tk })
    (hs : subscripted slice false (.str (preT f n) t) (.int (k : Int) u) = operate [.str (preT f n) t, .int (k : Int) u] (getItem (.str (preT f n) t) (.int (k : Int) u)) := by with_unfolding_all rfl)
    (ht : ∀ r, letTemporaryGo value (.str (preT f n) t) r = pure () := by intro _; with_unfolding_all rfl) :
    wpAny (model prog w) A (subscriptTail value slice (.str (preT f n) t) (.int (k : Int) u)) Q E s :=
  KXi.item (n := n) (pre_len n) (by omega) (by omega) (by omega) (fun _ => by rw [item_code (pre_at hk)]; exact h _ _) hs ht
theorem inP (hf : ∀ j, 0 ≤ f j ∧ f j < 64) (h : Q (.bool (dupB f k)) s) : wpAny (model prog w) A (compareOp .In (.str (One (sgC (f k))) u) (.str (preT f k) t)) Q E s :=
  PyProof.Rows.in_str (by rw [in_pre hf]; exact h)
theorem eq_nilP {ns : List Int} {b : Bool} {j : Nat} (N : News h₀ L s.heap news) (hu : A.units + 64 < cLine) (h1 : (D, lst ys) ∈ news) (h2 : (l, W.listOf #[] j) ∈ news) (hi : IntsAre ys ns) (e : decide (ns = []) = b) (h : Q (.bool b) s) : wpAny (model prog w) A (compareOp .Eq (.ref D) (.ref l)) Q E s :=
  ke_eq_ints (ys := []) ⟨_, (N _ h1).1, rfl, _, rfl⟩ ⟨_, (N _ h2).1, rfl, _, rfl⟩ hi .nil hu (by rw [e]; exact h)
theorem ne_same_bool {b : Bool} (h : Q (.bool false) s) : wpAny (model prog w) A (compareOp .NotEq (.bool b) (.bool b)) Q E s :=
  ne_bool (by rw [show (b != b) = false by simp]; exact h)
theorem joinP {t : Tok} (N : News h₀ L s.heap news) (hm : (D, lst ys) ∈ news) (hS : SgTo f 64 ys) (h : ∀ t' k, Q (.str (preT f 64) t') { s with toks := k }) : wpAny (model prog w) A (call (.builtin "str.join") [.str (Str.ofString "") t, .ref D]) Q E s := by
  obtain ⟨ps, rfl, e⟩ := hS
  have hs : ∀ ps : List (Nat × Tok), StrsAre (ps.map fun p => Value.str (One p.1) p.2) ((ps.map (·.1)).map One) := fun ps => by
    induction ps with
    | nil => exact .nil
    | cons p ps ih => exact .cons _ _ ih
  have hw : ∀ l : List Nat, ((l.map One).map (·.length)).sum = l.length := fun l => by
    induction l with
    | nil => rfl
    | cons p l ih => simp only [List.map_cons, List.sum_cons, List.length_cons, ih]; show 1 + l.length = l.length + 1; omega
  refine join_list (ys := (ps.map (·.1)).map One) ⟨_, (N _ hm).1, rfl, _, rfl⟩ (hs ps) ?_ (fun t' k' => ?_)
  · rw [hw, e, preL_len, List.length_map, preL_len, empty_is]
    exact (show 64 + 64 * 0 ≤ 16777216 by omega)
  · have hj : ∀ l : List Nat, Txt.join ⟨#[]⟩ (l.map One) = ⟨l.toArray⟩ := fun l => (StrLaws.glued_eq_join _ _).trans (join_nil_ones l)
    rw [e, empty_is, hj]
    unfold preT at h
    exact h t' k'
theorem srcLn {elt : Expr} {x : Str} {scope : Scope} {cl : List (Str × Addr)} {env : Env} {Fin : Shared → List Value → List (Addr × Obj) → Prop} {n : Nat} {s₁ : Shared}
    (hh : A.handled = none) (F : Fr h₀ L s₁.heap m) (N : News h₀ L s₁.heap news) (hm : (D, lst ys) ∈ news) (hn : ys.length = n) (hz : n ≤ 1000)
    (h : ∀ g, CompRest prog w A h₀ L m env elt x scope cl { s₁ with heap := g } (SrcAt h₀ D ys.toArray) (fun i v => ys.toArray[i]? = some v) (Fin { s₁ with heap := g }) n 0 [] news) :
    CompSrc prog w A h₀ L m env elt x scope cl Fin (.ref D) s₁ :=
  CompSrc.ledger hh F N hm (by rw [sizeLine_eq]; simp; omega) fun g => by
    have e : ys.toArray.size = n := by simpa using hn
    rw [e]; exact h g
theorem itemF {j : Nat} {n : Nat} (N : News h₀ L s.heap news) (hm : (D, lst ys) ∈ news) (hI : IntsTo f n ys) (hj : j < n) (hn : n ≤ 1000) (h : ∀ t', Q (.int (f j) t') s)
    (hs : subscripted slice false (.ref D) (.int (j : Int) u) = operate [.ref D, .int (j : Int) u] (getItem (.ref D) (.int (j : Int) u)) := by with_unfolding_all rfl) :
    wpAny (model prog w) A (subscriptTail value slice (.ref D) (.int (j : Int) u)) Q E s := by
  obtain ⟨t', e⟩ := hI.2 j hj
  exact item_H (N _ hm).1 (by omega) (by omega) (by simpa using e) (h t') hs
theorem itemA {ns : List Int} {a : Int} (N : News h₀ L s.heap news) (hm : (D, lst ys) ∈ news) (hI : IntsAre ys ns) (ha : ns.head? = some a) (h : ∀ t', Q (.int a t') s)
    (hs : subscripted slice false (.ref D) (.int 0 u) = operate [.ref D, .int 0 u] (getItem (.ref D) (.int 0 u)) := by with_unfolding_all rfl) :
    wpAny (model prog w) A (subscriptTail value slice (.ref D) (.int 0 u)) Q E s := by
  cases hI with
  | nil => cases ha
  | cons i t' r =>
    have : i = a := by simpa using ha
    subst this
    exact item_H (N _ hm).1 (by decide) (by decide) rfl (h t') hs
end
end

example : True := by
  k_with_none
  trivial
section
open PyProof.Rows.LCg
theorem cut_row {f : Nat → Int} {n : Nat} (h : n ≤ 48) : KBy.picked (rowB f 16) none (some (n : Int)) = cutB f n := by
  rw [KBc.picked_eq, row_len]
  show ((rowB f 16).toList.drop 0 |>.take (clipAt 48 (n : Int) - 0)).toArray = _
  rw [clipAt_nat, Nat.min_eq_left h]
  unfold rowB cutB
  simp [List.map_take]
theorem cut46 (f : Nat → Int) : KBy.picked (rowB f 16) none (some 46) = cutB f 46 := cut_row (n := 46) (by decide)
theorem cut47 (f : Nat → Int) : KBy.picked (rowB f 16) none (some 47) = cutB f 47 := cut_row (n := 47) (by decide)
theorem fl16 {x : Int} : x.fdiv 16 * 16 = x / 16 * 16 := by rw [Int.fdiv_eq_ediv_of_nonneg _ (by decide)]
theorem fl4 {x : Int} : x.fdiv 4 * 4 = x / 4 * 4 := by rw [Int.fdiv_eq_ediv_of_nonneg _ (by decide)]
theorem add46 (f : Nat → Int) : (preT f 61 ++ One (sgC (f 61 / 16 * 16))) ++ Str.ofString "==" = tail46 f := by
  rw [eqeq_is]
  unfold preT tail46 One
  show (⟨((preL f 61).toArray ++ #[sgC (f 61 / 16 * 16)]) ++ #[61, 61]⟩ : Str) = _
  congr 1
  all_goals simp
theorem add47 (f : Nat → Int) : (preT f 62 ++ One (sgC (f 62 / 4 * 4))) ++ Str.ofString "=" = tail47 f := by
  rw [eq_is]
  unfold preT tail47 One
  show (⟨((preL f 62).toArray ++ #[sgC (f 62 / 4 * 4)]) ++ #[61]⟩ : Str) = _
  congr 1
  all_goals simp
theorem ok_tail46 (f : Nat → Int) : PyData.strOk (tail46 f) = true := by
  unfold PyData.strOk tail46 preL
  simp [sgC_lt]
theorem ok_tail47 (f : Nat → Int) : PyData.strOk (tail47 f) = true := by
  unfold PyData.strOk tail47 preL
  simp [sgC_lt]
section
variable {f : Nat → Int} (hf : ∀ j, 0 ≤ f j ∧ f j < 64)
include hf
theorem sign_at (w : World) (j : Nat) (tk : Tok) : SpecP w 251 [.int (f j) tk] [] 1 (fun _ => True) (fun r _ _ => ∃ t, r = .str (One (sgC (f j))) t) := by
  have := sign_spec w (f j) tk (hf j).1 (hf j).2
  rw [sign_one _ (hf j).1 (hf j).2] at this
  exact this
theorem sign46 (w : World) (tk : Tok) : SpecP w 251 [.int ((f 61).fdiv 16 * 16) tk] [] 1 (fun _ => True) (fun r _ _ => ∃ t, r = .str (One (sgC (f 61 / 16 * 16))) t) := by
  have h := hf 61
  have := sign_spec w ((f 61).fdiv 16 * 16) tk (by rw [fl16]; omega) (by rw [fl16]; omega)
  rw [fl16, sign_one _ (by omega) (by omega)] at this
  rw [fl16]
  exact this
theorem sign47 (w : World) (tk : Tok) : SpecP w 251 [.int ((f 62).fdiv 4 * 4) tk] [] 1 (fun _ => True) (fun r _ _ => ∃ t, r = .str (One (sgC (f 62 / 4 * 4))) t) := by
  have h := hf 62
  have := sign_spec w ((f 62).fdiv 4 * 4) tk (by rw [fl4]; omega) (by rw [fl4]; omega)
  rw [fl4, sign_one _ (by omega) (by omega)] at this
  rw [fl4]
  exact this
end
variable {prog : Program} {w : World} {A : Around} {E : Value → Shared → Prop} {s : Shared} {h₀ : Heap} {L l D : Addr} {m : Str → Option Value} {news : List (Addr × Obj)} {value slice : Expr} {f : Nat → Int} {ys : List Value} {t u : Tok} {k : Nat} {Q : Value → Shared → Prop}
theorem sliceR {j : Int} {c : Array UInt8} (F : Fr h₀ L s.heap m) (N : News h₀ L s.heap news) (e : KBy.picked (rowB f 16) none (some j) = c) (h : ∀ h' t' k, Fr h₀ L h' m → News h₀ L h' news → Q (.bytes c t') { s with heap := h', toks := k })
    (hs : subscripted slice false (.bytes (rowB f 16) t) (.ref s.heap.objs.size) = operate [.ref s.heap.objs.size, .bytes (rowB f 16) t] (getItem (.bytes (rowB f 16) t) (.ref s.heap.objs.size)) := by with_unfolding_all rfl)
    (ht : ∀ r, letTemporaryGo value (.bytes (rowB f 16) t) r = pure () := by intro _; with_unfolding_all rfl) :
    wpAny (model prog w) A (subscriptTail value slice (.bytes (rowB f 16) t) (.ref s.heap.objs.size)) Q E { s with heap := s.heap.push { cls := .type "slice", data := .fields #[.none, .int j u, .none] } } :=
  KBc.slice_K F N rfl .none (.int _ _) (by rw [KBw.ints_length, row_len]; decide) (fun h' t' k F N _ => by rw [e]; exact h h' t' k F N) hs ht
theorem sliceQ {j : Int} (F : Fr h₀ L s.heap m) (N : News h₀ L s.heap news) (e : j = (k : Int)) (hk : k ≤ 64) (h : ∀ h' t' tk, Fr h₀ L h' m → News h₀ L h' news → Q (.str (preT f k) t') { s with heap := h', toks := tk })
    (hs : subscripted slice false (.str (preT f 64) t) (.ref s.heap.objs.size) = operate [.ref s.heap.objs.size, .str (preT f 64) t] (getItem (.str (preT f 64) t) (.ref s.heap.objs.size)) := by with_unfolding_all rfl)
    (ht : ∀ r, letTemporaryGo value (.str (preT f 64) t) r = pure () := by intro _; with_unfolding_all rfl) :
    wpAny (model prog w) A (subscriptTail value slice (.str (preT f 64) t) (.ref s.heap.objs.size)) Q E { s with heap := s.heap.push { cls := .type "slice", data := .fields #[.none, .int j u, .none] } } := by
  subst e
  exact sliceP F N hk (Nat.le_refl _) h hs ht
theorem itemG {j : Int} {n : Nat} (N : News h₀ L s.heap news) (hm : (D, lst ys) ∈ news) (hI : IntsTo f n ys) (e : j = (k : Int)) (hj : k < n) (hn : n ≤ 1000) (h : ∀ t', Q (.int (f k) t') s)
    (hs : subscripted slice false (.ref D) (.int j u) = operate [.ref D, .int j u] (getItem (.ref D) (.int j u)) := by with_unfolding_all rfl) :
    wpAny (model prog w) A (subscriptTail value slice (.ref D) (.int j u)) Q E s := by
  subst e
  exact itemF N hm hI hj hn h hs
theorem addP {n c : Nat} (hn : n ≤ 64) (h : ∀ t' k, Q (.str (preT f n ++ One c) t') { s with toks := k }) : wpAny (model prog w) A (binaryOp .Add (.str (preT f n) t) (.str (One c) u)) Q E s :=
  add_to rfl (by rw [pre_len]; show n + 1 ≤ 1000; omega) h
theorem add46K (h : ∀ t' k, Q (.str (tail46 f) t') { s with toks := k }) : wpAny (model prog w) A (binaryOp .Add (.str (preT f 61 ++ One (sgC (f 61 / 16 * 16))) t) (.str (Str.ofString "==") u)) Q E s :=
  add_to (add46 f) (by rw [PySem.Str.length_append, pre_len, eqeq_is]; show 61 + 1 + 2 ≤ 1000; decide) h
theorem add47K (h : ∀ t' k, Q (.str (tail47 f) t') { s with toks := k }) : wpAny (model prog w) A (binaryOp .Add (.str (preT f 62 ++ One (sgC (f 62 / 4 * 4))) t) (.str (Str.ofString "=") u)) Q E s :=
  add_to (add47 f) (by rw [PySem.Str.length_append, pre_len, eq_is]; show 62 + 1 + 1 ≤ 1000; decide) h
theorem ne_txt2 {a b : Addr} {x0 x1 : Str} {t0 t1 u0 u1 : Tok} {n k : Nat} (N : News h₀ L s.heap news) (hu : A.units + 64 < cLine) (ha : (a, ({ cls := .type "list", data := .seq #[.str x0 t0, .str x1 t1] n } : Obj)) ∈ news) (hb : (b, ({ cls := .type "list", data := .seq #[.str x0 u0, .str x1 u1] k } : Obj)) ∈ news)
    (o0 : PyData.strOk x0 = true) (o1 : PyData.strOk x1 = true) (h : Q (.bool false) s) : wpAny (model prog w) A (compareOp .NotEq (.ref a) (.ref b)) Q E s := by
  have sh : SeqAt.shaped (.list [.str x0, .str x1]) = true := by simp [SeqAt.shaped, PyData.canLay0, PyData.canLayAll0, PyData.depth, PyData.depthAll, o0, o1]
  have e : PyData.eqv (.list [.str x0, .str x1]) (.list [.str x0, .str x1]) = true := by simp [PyData.eqv, PyData.eqvAll]
  exact ne_dataH (reads_list_at (N _ ha).1 rfl rfl (.cons (Reads.str _ _) (.cons (Reads.str _ _) .nil))) (reads_list_at (N _ hb).1 rfl rfl (.cons (Reads.str _ _) (.cons (Reads.str _ _) .nil))) sh sh hu (by rw [e]; exact h)
end

example : True := by
  k_with_none
  trivial
theorem led_lasts (w : World) (b0 b1 b2 b3 b4 b5 : UInt8) (hl : lastsB b1 b2 b3 b4 b5 = true) (l lc : Addr) (k kc : Nat) (n0 n1 n2 : Int) (t0 t1 t2 u0 u1 u2 : Tok) :
    SpecP w 287 [.ref l, .ref lc] [] 11 (fun h => Filled h ∧ h.get? l = some (ints3 (worth b0 b1 b2 b3 b4 b5 n0) (worth b0 b1 b2 b3 b4 b5 n1) (worth b0 b1 b2 b3 b4 b5 n2) t0 t1 t2 k) ∧ h.get? lc = some (ints3 (alikeZ (n0 - n2)) (alikeZ (n1 - n0)) (alikeZ (n2 - n1)) u0 u1 u2 kc)) (fun r h h' => r = .bool true) := by
  have := led_spec w l lc k kc (worth b0 b1 b2 b3 b4 b5 n0) (worth b0 b1 b2 b3 b4 b5 n1) (worth b0 b1 b2 b3 b4 b5 n2) t0 t1 t2 u0 u1 u2 (worth_in ..).1 (worth_in ..).2 (worth_in ..).1 (worth_in ..).2 (worth_in ..).1 (worth_in ..).2
  rw [alike_worth b0 b1 b2 b3 b4 b5 hl, alike_worth b0 b1 b2 b3 b4 b5 hl, alike_worth b0 b1 b2 b3 b4 b5 hl] at this
  exact this
theorem met_spec' (w : World) (b0 b1 b2 b3 b4 b5 : UInt8) (tb tt t2 : Tok) (one two : Nat) (h12 : one < two) (h2 : two < 64) (he : figF b0 b1 b2 b3 b4 b5 one = figF b0 b1 b2 b3 b4 b5 two) (hno : ∀ k, k < one → figF b0 b1 b2 b3 b4 b5 k ≠ figF b0 b1 b2 b3 b4 b5 two) :
    SpecP w 297 [.bytes #[b0,b1,b2,b3,b4,b5] tb, .str (preT (figF b0 b1 b2 b3 b4 b5) 64) tt, .int (two : Int) t2] [] 11 Filled (fun r h h' => r = .bool true) := by
  refine met_spec w b0 b1 b2 b3 b4 b5 tb tt t2 (preT (figF b0 b1 b2 b3 b4 b5) 64) one two (sgC (figF b0 b1 b2 b3 b4 b5 two)) (pre_len 64) h12 h2 ?_ (pre_at h2) (fun k hk e => ?_) ?_ ?_
  · rw [pre_at (show one < 64 by omega), he]
  · rw [pre_at (show k < 64 by omega)] at e
    have i1 := figF_in b0 b1 b2 b3 b4 b5 k
    have i2 := figF_in b0 b1 b2 b3 b4 b5 two
    exact hno k hk (sgC_inj i1.1 i1.2 i2.1 i2.2 (Option.some.inj e))
  · rw [← figF_is, he]
  · rw [← figF_is]
theorem met_cond (b0 b1 b2 b3 b4 b5 : UInt8) : ∃ one two : Nat, lastsB b1 b2 b3 b4 b5 = false → ((dupL (figF b0 b1 b2 b3 b4 b5) 64).head? = some (two : Int) ∧ one < two ∧ two < 64 ∧ figF b0 b1 b2 b3 b4 b5 one = figF b0 b1 b2 b3 b4 b5 two ∧ ∀ k, k < one → figF b0 b1 b2 b3 b4 b5 k ≠ figF b0 b1 b2 b3 b4 b5 two) := by
  cases hl : lastsB b1 b2 b3 b4 b5 with
  | true => exact ⟨0, 0, fun h => nomatch h⟩
  | false =>
    have hd := dup_lasts b0 b1 b2 b3 b4 b5
    rw [hl, decide_eq_false_iff_not] at hd
    obtain ⟨one, two, h1, h2, h3, h4, h5⟩ := dup_first hd
    exact ⟨one, two, fun _ => ⟨h1, h2, h3, h4, h5⟩⟩
section
variable (w : World) (b0 b1 b2 b3 b4 b5 : UInt8) (n0 n1 n2 : Int) (t0 t1 t2 : Tok)
theorem counts_w (l : Addr) : SpecP w 292 [.ref l] [] 2 (fun h => h.get? l = some (LCg.lst [.int (worth b0 b1 b2 b3 b4 b5 n0) t0, .int (worth b0 b1 b2 b3 b4 b5 n1) t1, .int (worth b0 b1 b2 b3 b4 b5 n2) t2]))
    (fun r h h' => ∃ l' u0 u1 u2 k', r = .ref l' ∧ h'.get? l' = some (ints3 (alikeZ (worth b0 b1 b2 b3 b4 b5 n0 - worth b0 b1 b2 b3 b4 b5 n2)) (alikeZ (worth b0 b1 b2 b3 b4 b5 n1 - worth b0 b1 b2 b3 b4 b5 n0)) (alikeZ (worth b0 b1 b2 b3 b4 b5 n2 - worth b0 b1 b2 b3 b4 b5 n1)) u0 u1 u2 k') ∧ h.get? l' = none) :=
  counts_spec w l 3 (worth b0 b1 b2 b3 b4 b5 n0) (worth b0 b1 b2 b3 b4 b5 n1) (worth b0 b1 b2 b3 b4 b5 n2) t0 t1 t2 (worth_in ..).1 (worth_in ..).2 (worth_in ..).1 (worth_in ..).2 (worth_in ..).1 (worth_in ..).2
theorem led_w (l lc : Addr) (kc : Nat) (u0 u1 u2 : Tok) : SpecP w 287 [.ref l, .ref lc] [] 11 (fun h => Filled h ∧ h.get? l = some (LCg.lst [.int (worth b0 b1 b2 b3 b4 b5 n0) t0, .int (worth b0 b1 b2 b3 b4 b5 n1) t1, .int (worth b0 b1 b2 b3 b4 b5 n2) t2]) ∧
    h.get? lc = some (ints3 (alikeZ (worth b0 b1 b2 b3 b4 b5 n0 - worth b0 b1 b2 b3 b4 b5 n2)) (alikeZ (worth b0 b1 b2 b3 b4 b5 n1 - worth b0 b1 b2 b3 b4 b5 n0)) (alikeZ (worth b0 b1 b2 b3 b4 b5 n2 - worth b0 b1 b2 b3 b4 b5 n1)) u0 u1 u2 kc)) (fun r h h' => r = .bool true) :=
  led_spec w l lc 3 kc (worth b0 b1 b2 b3 b4 b5 n0) (worth b0 b1 b2 b3 b4 b5 n1) (worth b0 b1 b2 b3 b4 b5 n2) t0 t1 t2 u0 u1 u2 (worth_in ..).1 (worth_in ..).2 (worth_in ..).1 (worth_in ..).2 (worth_in ..).1 (worth_in ..).2
theorem led_l (hl : lastsB b1 b2 b3 b4 b5 = true) (l lc : Addr) (kc : Nat) (u0 u1 u2 : Tok) : SpecP w 287 [.ref l, .ref lc] [] 11 (fun h => Filled h ∧ h.get? l = some (LCg.lst [.int (worth b0 b1 b2 b3 b4 b5 n0) t0, .int (worth b0 b1 b2 b3 b4 b5 n1) t1, .int (worth b0 b1 b2 b3 b4 b5 n2) t2]) ∧
    h.get? lc = some (ints3 (alikeZ (n0 - n2)) (alikeZ (n1 - n0)) (alikeZ (n2 - n1)) u0 u1 u2 kc)) (fun r h h' => r = .bool true) :=
  led_lasts w b0 b1 b2 b3 b4 b5 hl l lc 3 kc n0 n1 n2 t0 t1 t2 u0 u1 u2
end

example : True := by
  k_with_none
  trivial
example : True := by
  (k_with "my my_enter" => ((refine wpAny_call ?_; k_dflt (first
      | (refine' enterP ?k3_q1 ?k5_q1 ?k6_q1 ?k7_q1 ?k8_q1 ?k9_q1 ?kB_q1 ?_ ?c2_q1 ?c3_q1 ?c4_q1 ?c5_q1; (case k3_q1 => k_asm); (case k5_q1 => k_asm); (case k6_q1 => k_is); (case k7_q1 => k_is); (case k8_q1 => k_room); (case k9_q1 => first | exact BindsTo.of_eq (binds := [(_, _)]) rfl | exact BindsTo.of_eq (binds := [(_, _), (_, _)]) rfl | exact BindsTo.of_eq rfl | exact binds_K (by k_in) rfl (by k_is) rfl rfl rfl | fail "my_enter: no rule for these arguments"); (case c5_q1 => decide); (case kB_q1 => exact locs rfl); (case c2_q1 => exact rfl); (case c3_q1 => exact rfl); (case c4_q1 => exact rfl); k_whole; intro L' h' F' N'; (try dsimp only); (try k_fold))
      | (refine' enterPC ?k3_q1 ?k5_q1 ?k6_q1 ?k7_q1 ?k8_q1 ?k9_q1 ?kB_q1 ?kD_q1 ?_ ?c2_q1 ?c3_q1 ?c4_q1; (case k3_q1 => k_asm); (case k5_q1 => k_asm); (case k6_q1 => k_is); (case k7_q1 => k_is); (case k8_q1 => k_room); (case k9_q1 => first | exact BindsTo.of_eq (binds := [(_, _)]) rfl | exact BindsTo.of_eq (binds := [(_, _), (_, _)]) rfl | exact BindsTo.of_eq rfl | exact binds_K (by k_in) rfl (by k_is) rfl rfl rfl | fail "my_enter: no rule for these arguments"); (case kB_q1 => exact rfl); (case kD_q1 => decide +kernel); (case c2_q1 => exact rfl); (case c3_q1 => exact rfl); (case c4_q1 => exact rfl); k_whole; intro L' h' tk' cells' F' N' Y'; k_cells Y'; (try simp only [List.cons_append, List.nil_append, List.append_nil] at N'); (try dsimp only); (try k_fold))))))
  trivial
example : True := by
  (k_with "my call type:type" => (((with_reducible show wpAny _ _ (call _ [Value.bytes _ _]) _ _ _); refine call_type_of (Tx := "bytes") rfl (by decide +kernel) ?_)))
  trivial
example : True := by
  (k_with "my my_steps" => (repeat' (first | (k_unfold; (try dsimp only)) | ((fail_if_success (with_reducible show InvEndN _ _ _ _ _ _ _)); first | walk1 | (dsimp only; walk1) | (leave1; try dsimp only)) | fail "no step")))
  trivial
example : True := by
  (k_with "my use_cases" => (((case kB => first | k_asm | fail "use: below"); (case kF => first | k_asm | fail "use: frame"); (case kX => first | k_asm | fail "use: written part"); (case kN => first | k_asm | fail "use: ledger"); (case kT => first | k_asm | fail "use: top"); (case kk => first | exact rfl | assumption | fail "use: kind"); (case kd => first | ktr_room | fail "use: room"); (case ku => first | ktr_units | fail "use: units"))))
  trivial
example : True := by
  (k_with "my my_enterT" => ((refine wpAny_call ?_; k_dflt (first
      | (refine' enterT ?ksub_q5 ?ksz_q5 ?k3_q5 ?k5_q5 ?kt_q5 ?kg_q5 ?k6_q5 ?k7_q5 ?k8_q5 ?k9_q5 ?kB_q5 ?_ ?c2_q5 ?c3_q5 ?c4_q5 ?c5_q5; (case ksub_q5 => assumption); (case ksz_q5 => assumption); (case kt_q5 => assumption); (case kg_q5 => assumption); (case k3_q5 => k_asm); (case k5_q5 => k_asm); (case k6_q5 => k_is); (case k7_q5 => k_is); (case k8_q5 => k_room); (case k9_q5 => first | exact BindsTo.of_eq (binds := [(_, _)]) rfl | exact BindsTo.of_eq (binds := [(_, _), (_, _)]) rfl | exact BindsTo.of_eq rfl | exact binds_K (by k_in) rfl (by k_is) rfl rfl rfl | fail "my_enter: no rule for these arguments"); (case c5_q5 => decide); (case kB_q5 => exact locs rfl); (case c2_q5 => exact rfl); (case c3_q5 => exact rfl); (case c4_q5 => exact rfl); k_whole; intro L' h' F' N' l0; (replace l0 := ltN l0); (try dsimp only); (try k_fold))
      | (refine' enterTC ?ksub_q5 ?ksz_q5 ?k3_q5 ?k5_q5 ?kt_q5 ?kg_q5 ?k6_q5 ?k7_q5 ?k8_q5 ?k9_q5 ?kB_q5 ?kD_q5 ?_ ?c2_q5 ?c3_q5 ?c4_q5; (case ksub_q5 => assumption); (case ksz_q5 => assumption); (case kt_q5 => assumption); (case kg_q5 => assumption); (case k3_q5 => k_asm); (case k5_q5 => k_asm); (case k6_q5 => k_is); (case k7_q5 => k_is); (case k8_q5 => k_room); (case k9_q5 => first | exact BindsTo.of_eq (binds := [(_, _)]) rfl | exact BindsTo.of_eq (binds := [(_, _), (_, _)]) rfl | exact BindsTo.of_eq rfl | exact binds_K (by k_in) rfl (by k_is) rfl rfl rfl | fail "my_enter: no rule for these arguments"); (case kB_q5 => exact rfl); (case kD_q5 => decide +kernel); (case c2_q5 => exact rfl); (case c3_q5 => exact rfl); (case c4_q5 => exact rfl); k_whole; intro L' h' tk' cells' F' N' Y' l0; (replace l0 := ltN l0); k_cells Y'; (try simp only [List.cons_append, List.nil_append, List.append_nil] at N'); (try dsimp only); (try k_fold))))))
  trivial
example : True := by
  (k_with "my execs cons" => (((with_reducible refine wpAny_execs_cons ?_); (try dsimp only); (try k_fold); (try ((rename Fr _ _ _ _ => F9); (refine foldFr F9 ?_); (intro mk9 F8); (clear F9))))))
  trivial
example : True := by
  (k_with "my size_fits" => (exact Nat.le_of_ble_eq_true rfl))
  trivial
example : True := by
  (k_with "my pick_chain" => (((iterate 15 (try (first | with_reducible assumption | apply pickR))); done)))
  trivial
example : True := by
  (k_with "my pick_one" => ((first | with_reducible assumption | (apply pickL; walk_at "pick_chain") | walk_at "pick_chain")))
  trivial
example : True := by
  (k_with "my pick_ne" => ((refine neN ?_; (try dsimp only); (first | with_reducible assumption | (refine Nat.ne_of_lt ?_; (simp only [*]; done)) | (refine Nat.ne_of_gt ?_; (simp only [*]; done)) | (simp only [*, ne_eq, not_false_eq_true]; done) | (refine Ne.symm ?_; (simp only [*, ne_eq, not_false_eq_true]; done)) | (refine ne_up ?_; (simp only [*]; done)) | (refine ne_up' ?_; (simp only [*]; done))))))
  trivial
example : True := by
  (k_with "my pick_lim" => ((first
      | (refine' lim1 ?h_q11 ?k_q11; (case h_q11 => assumption); (case k_q11 => exact rfl))
      | (refine' lim2 ?h_q11 ?k_q11; (case h_q11 => assumption); (case k_q11 => exact rfl))
      | (refine' lim0 ?h_q11; (case h_q11 => assumption))
      | (refine' lim3 ?h_q11 ?k_q11; (case h_q11 => assumption); (case k_q11 => exact rfl)))))
  trivial
example : True := by
  (k_with "my pick_all" => ((first | exact allNe_nil | (refine' allNe_cons ?a_q12 ?b_q12; (case a_q12 => k_ne); (case b_q12 => k_all)))))
  trivial
example : True := by
  (k_with "my eval Name" => ((k_here; (with_reducible show wpAny _ _ (eval (Expr.Name _ _) (compEnvC _ _ _ _)) _ _ _); k_dflt (first | refine LCgL.ld_own (by with_reducible assumption) (by k_mem) (by with_reducible assumption) (by with_reducible assumption) ?_ | refine LCgL.ld_global (by with_reducible assumption) (by with_reducible assumption) (by with_reducible assumption) (by k_is) ?_ | refine LCgL.ld_built (by with_reducible assumption) (by with_reducible assumption) (by with_reducible assumption) (by k_is) (by boot_by_name) (by decide) ?_))))
  trivial

section
theorem row_spec' (w : World) (lf : Addr) (f : Nat → Int) (ys : List Value) (hI : IntsTo f 64 ys) (hf : ∀ j, 0 ≤ f j ∧ f j < 64) :
    SpecP w 265 [.ref lf] [] 3 (fun h => h.get? lf = some (LCg.lst ys)) (fun r h h' => ∃ t, r = .bytes (rowB f 16) t) := by
  have := row_spec w lf ys.length f (fun j => tokOf ys.toArray[j]?) ys.toArray (by simpa using hI.1) hI.toks hf
  unfold rowB
  exact this
example : True := by
  (k_with "my TurnEnd" => (((try dsimp only); k_dflt (refine' TurnEnd.intro ?a_q116 ?b_q116 ?c_q116 ?_; (case a_q116 => k_asm); (case b_q116 => k_asm); (case c_q116 => exact fun _ hp => hp)); first
      | exact IntsTo.snoc (by assumption) (figF_M _ _ _ _ _ _ _)
      | exact SgTo.snoc (by assumption) rfl
      | exact dupTo_yes (by assumption) (by assumption)
      | exact dupTo_no' (by assumption) (by assumption)
      | exact dupTo_no (by assumption) (by assumption))))
  trivial
example : True := by
  (k_with "my exec Assign cons ListComp" => ((k_here; k_dflt (refine LCg.Assign_ListComp_U (F₀ := by k_asm) (by rfl) (by with_unfolding_all rfl) (by with_unfolding_all rfl) (by decide) (by rfl) (by decide) (by rfl) (by rfl) (by rfl) ?_))))
  trivial
example : True := by
  (k_with "my call builtin:len" => (((with_reducible show wpAny _ _ (call _ [Value.str (preT _ _) _]) _ _ _); k_dflt (refine len_pre (by decide) ?_); intro _ _)))
  trivial
example : True := by
  (k_with "my exec Assign cons ListComp" => ((k_here; lct_look; k_dflt (refine LCt.Assign_ListComp_T (F₀ := by k_asm) (by rfl) (by with_unfolding_all rfl) (by with_unfolding_all rfl) (by decide) (by rfl) (by decide) (by rfl) (by rfl) (by rfl) ?_))))
  trivial
example : True := by
  (k_with "my subscriptTail Name Name str int" => ((k_here; k_dflt (refine itemP (by omega) (by omega) ?_); intro _ _)))
  trivial
example : True := by
  (k_with "my subscriptTail Name Slice str ref" => ((k_here; (with_reducible rename Fr _ _ _ _ => F'); (with_reducible rename News _ _ _ _ => N'); k_dflt (refine sliceP (s := ⟨_, _, _, _, _⟩) F' N' (by omega) (by decide) ?_); intro h' t' tk' F' N')))
  trivial
example : True := by
  (k_with "my compareOp In str str" => ((k_dflt (refine inP (figF_in _ _ _ _ _ _) ?_))))
  trivial
example : True := by
  (k_with "my compareOp Eq ref ref" => (k_extra "my EqRef"))
  trivial
example : True := by
  (k_with "my compareOp NotEq ref ref" => ((k_here; k_dflt (refine' ne_txt2 ?a1_q124 ?a2_q124 ?a3_q124 ?a4_q124 (ok_tail46 _) (ok_tail47 _) ?_; (case a1_q124 => k_asm); (case a2_q124 => ktr_units); (case a3_q124 => k_mem); (case a4_q124 => k_mem)))))
  trivial
example : True := by
  (k_with "my compareOp NotEq bool bool" => ((with_reducible (refine ne_same_bool ?_))))
  trivial
example : True := by
  (k_with "my compareOp NotEq str str" => ((with_reducible (refine ne_self_str ?_))))
  trivial
example : True := by
  (k_with "my call builtin:str.join" => ((k_here; k_dflt (refine' joinP ?a1_q127 ?a2_q127 ?a3_q127 ?_; (case a1_q127 => k_asm); (case a2_q127 => k_mem); (case a3_q127 => assumption)); intro _ _)))
  trivial
example : True := by
  (k_with "my subscriptTail Name Slice bytes ref" => ((k_here; (with_reducible rename Fr _ _ _ _ => F'); (with_reducible rename News _ _ _ _ => N'); k_dflt (first | refine sliceR (s := ⟨_, _, _, _, _⟩) F' N' (cut46 _) ?_ | refine sliceR (s := ⟨_, _, _, _, _⟩) F' N' (cut47 _) ?_); intro h' t' tk' F' N')))
  trivial
example : True := by
  (k_with "my subscriptTail Name Slice str ref" => ((k_here; (with_reducible rename Fr _ _ _ _ => F'); (with_reducible rename News _ _ _ _ => N'); k_dflt (first | refine sliceQ (k := 61) (s := ⟨_, _, _, _, _⟩) F' N' rfl (by decide) ?_ | refine sliceQ (k := 62) (s := ⟨_, _, _, _, _⟩) F' N' rfl (by decide) ?_); intro h' t' tk' F' N')))
  trivial
example : True := by
  (k_with "my subscriptTail Name Constant ref int" => (k_extra "my Again"))
  trivial
example : True := by
  (k_with "my subscriptTail Name Constant ref int" => ((k_here; k_dflt (first
      | (refine' itemG (k := 61) (n := 64) ?a1_q131 ?a2_q131 ?a3_q131 rfl (by decide) (by decide) ?_; (case a1_q131 => k_asm); (case a2_q131 => k_mem); (case a3_q131 => assumption))
      | (refine' itemG (k := 62) (n := 64) ?a1_q131 ?a2_q131 ?a3_q131 rfl (by decide) (by decide) ?_; (case a1_q131 => k_asm); (case a2_q131 => k_mem); (case a3_q131 => assumption))); intro _)))
  trivial
example : True := by
  (k_with "my binaryOp Add str str" => (((with_reducible (first | refine add46K ?_ | refine add47K ?_ | refine addP (by decide) ?_)); intro _ _)))
  trivial
example : True := by
  (k_with "my lcg_src" => (first | exact Or.inl ⟨_, by assumption, rfl, _, rfl⟩ | exact Or.inr ⟨_, by k_mem, rfl, _, rfl⟩))
  trivial
example : True := by
  (k_with "my lcg_off" => ((simp only [LCg.Off3, and_true]; first | assumption | (refine And.intro ⟨by k_ne, by k_ne, by k_ne⟩ ?_; assumption))))
  trivial
theorem right_spec (w : World) (b0 b1 b2 b3 b4 b5 : UInt8) (tb : Tok) (l : Addr) (k : Nat) (n0 n1 n2 : Int) (t0 t1 t2 : Tok) (h0 : 0 ≤ n0) (h0' : n0 < 16777216) (h1 : 0 ≤ n1) (h1' : n1 < 16777216) (h2 : 0 ≤ n2) (h2' : n2 < 16777216) :
    SpecP w 302 [.bytes #[b0,b1,b2,b3,b4,b5] tb, .ref l] [] 14 (fun h => Filled h ∧ h.get? l = some (ints3 n0 n1 n2 t0 t1 t2 k)) (fun r h h' => r = .bool true) := by
  have hf := figF_in b0 b1 b2 b3 b4 b5
  obtain ⟨one, two, hmet⟩ := met_cond b0 b1 b2 b3 b4 b5
  unfold SpecP
  k_fill
  intro _ dp un gd outer base s Q E p loose mean mg mb B X T hpre hdp hun hret
  obtain ⟨hfil, hpl⟩ := hpre
  walk_at "my_enter"
  k_with "my CompSrc" => (k_here; (k_dflt (refine LCg.CompSrc.range (n := 64) (by rfl) (by k_asm) (by k_asm) (by assumption) (by first | decide | rfl) (by first | rfl | decide) (by first | size_fits | exact Nat.le_of_ble_eq_true rfl) ?_)); intro g'; (refine comp_indR (n := 64) (fun i ys => IntsTo (figF b0 b1 b2 b3 b4 b5) i ys) (IntsTo.nil _) ?_ ?_))
  k_with "my CompSrc" => (k_here; (k_dflt (refine' srcLn (n := 64) ?a1 ?a2 ?a3 ?a4 ?a5 (by decide) ?_; (case a1 => exact rfl); (case a2 => k_asm); (case a3 => k_asm); (case a4 => k_mem); (case a5 => exact And.left (by assumption : IntsTo (figF b0 b1 b2 b3 b4 b5) 64 _)))); intro g'; (k_dflt (refine' comp_indL (n := 64) (fun i ys => SgTo (figF b0 b1 b2 b3 b4 b5) i ys) (SgTo.nil _) ?c1 ?c2 ?_ ?_; (case c1 => exact Or.inr ⟨_, by k_mem, rfl, _, rfl⟩); (case c2 => assumption))))
  k_with "my CompSrc" => (k_here; (k_dflt (refine LCg.CompSrc.base (its := #[_, _, _]) (by rfl) (by k_asm) (by k_asm) ⟨_, by assumption, rfl, _, rfl⟩ (by first | size_fits | exact Nat.le_of_ble_eq_true rfl) ?_; intro g'; lcg_lit)))
  k_with "my Again" => (k_dflt (refine' itemA ?a1 ?a2 ?a3 (hmet (by assumption)).1 ?_; (case a1 => k_asm); (case a2 => k_mem); (case a3 => assumption)); intro _)
  k_with "my EqRef" => (k_dflt (refine' eq_nilP ?a1 ?a2 ?a3 ?a4 ?a5 (dup_lasts b0 b1 b2 b3 b4 b5) ?_; (case a1 => k_asm); (case a2 => ktr_units); (case a3 => k_mem); (case a4 => k_mem); (case a5 => assumption)))
  k_with "my CompSrcT" => (k_here; (k_dflt (refine LCt.CompSrcT.range (n := 64) (by rfl) (by k_asm) (by k_asm) (by assumption) (by first | decide | rfl) (by first | rfl | decide) (by first | size_fits | exact Nat.le_of_ble_eq_true rfl) ?_)); intro g'; (k_dflt (refine comp_indTR (n := 64) (fun i ys => IntsAre ys (dupL (figF b0 b1 b2 b3 b4 b5) i)) .nil ?_ ?_)))
  k_with "call ref" => (k_dflt (first
    | (refine' useP (counts_spec _ l k n0 n1 n2 t0 t1 t2 h0 h0' h1 h1' h2 h2') ?kB ?kF ?kX ?kN ?kT ?kk ?kp ?kd ?ku ?_; (walk_at "use_cases"); (case kp => exact Fr.keep (by assumption) _ _ hpl); (intro r9 h9 tk9 F9 N9 P9 K9; obtain ⟨l9, t91, t92, t93, k9, rfl, hg9, hn9⟩ := P9; (replace N9 := news_more (by assumption) N9 hg9 hn9); (try dsimp only); (try k_fold)))
    | (refine' useP (counts_w _ b0 b1 b2 b3 b4 b5 n0 n1 n2 _ _ _ _) ?kB ?kF ?kX ?kN ?kT ?kk ?kp ?kd ?ku ?_; (walk_at "use_cases"); (case kp => exact News.get (by k_asm) (by k_mem)); (intro r9 h9 tk9 F9 N9 P9 K9; obtain ⟨l9, t91, t92, t93, k9, rfl, hg9, hn9⟩ := P9; (replace N9 := news_more (by assumption) N9 hg9 hn9); (try dsimp only); (try k_fold)))
    | (refine' useP (led_l _ b0 b1 b2 b3 b4 b5 n0 n1 n2 _ _ _ (by assumption) _ _ _ _ _ _) ?kB ?kF ?kX ?kN ?kT ?kk ?kp ?kd ?ku ?_; (walk_at "use_cases"); (case kp => exact ⟨Filled.keeps hfil (Fr.keep (by assumption)), News.get (by k_asm) (by k_mem), News.get (by k_asm) (by k_mem)⟩); (intro r9 h9 tk9 F9 N9 P9 K9; obtain rfl := P9; (try dsimp only); (try k_fold)))
    | (refine' useP (led_w _ b0 b1 b2 b3 b4 b5 n0 n1 n2 _ _ _ _ _ _ _ _ _) ?kB ?kF ?kX ?kN ?kT ?kk ?kp ?kd ?ku ?_; (walk_at "use_cases"); (case kp => exact ⟨Filled.keeps hfil (Fr.keep (by assumption)), News.get (by k_asm) (by k_mem), News.get (by k_asm) (by k_mem)⟩); (intro r9 h9 tk9 F9 N9 P9 K9; obtain rfl := P9; (try dsimp only); (try k_fold)))
    | (refine' useP (met_spec' _ b0 b1 b2 b3 b4 b5 _ _ _ one two (hmet (by assumption)).2.1 (hmet (by assumption)).2.2.1 (hmet (by assumption)).2.2.2.1 (hmet (by assumption)).2.2.2.2) ?kB ?kF ?kX ?kN ?kT ?kk ?kp ?kd ?ku ?_; (walk_at "use_cases"); (case kp => exact Filled.keeps hfil (Fr.keep (by assumption))); (intro r9 h9 tk9 F9 N9 P9 K9; obtain rfl := P9; (try dsimp only); (try k_fold)))
    | (refine' useP (lasts_spec _ _ _ _ _ _ _ _) ?kB ?kF ?kX ?kN ?kT ?kk ?kp ?kd ?ku ?_; (walk_at "use_cases"); (case kp => trivial); (intro r9 h9 tk9 F9 N9 P9 K9; obtain rfl := P9; (try dsimp only); (try k_fold)))
    | (refine' useP (enc46_spec hf _ _ _) ?kB ?kF ?kX ?kN ?kT ?kk ?kp ?kd ?ku ?_; (walk_at "use_cases"); (case kp => trivial); (intro r9 h9 tk9 F9 N9 P9 K9; obtain ⟨t9, rfl⟩ := P9; (try dsimp only); (try k_fold)))
    | (refine' useP (enc47_spec hf _ _ _) ?kB ?kF ?kX ?kN ?kT ?kk ?kp ?kd ?ku ?_; (walk_at "use_cases"); (case kp => trivial); (intro r9 h9 tk9 F9 N9 P9 K9; obtain ⟨t9, rfl⟩ := P9; (try dsimp only); (try k_fold)))
    | (refine' useP (text46_spec _ _) ?kB ?kF ?kX ?kN ?kT ?kk ?kp ?kd ?ku ?_; (walk_at "use_cases"); (case kp => exact Filled.keeps hfil (Fr.keep (by assumption))); (intro r9 h9 tk9 F9 N9 P9 K9; obtain ⟨t9, rfl⟩ := P9; (try dsimp only); (try k_fold)))
    | (refine' useP (text47_spec _ _) ?kB ?kF ?kX ?kN ?kT ?kk ?kp ?kd ?ku ?_; (walk_at "use_cases"); (case kp => exact Filled.keeps hfil (Fr.keep (by assumption))); (intro r9 h9 tk9 F9 N9 P9 K9; obtain ⟨t9, rfl⟩ := P9; (try dsimp only); (try k_fold)))
    | (refine' useP (sign46 hf _ _) ?kB ?kF ?kX ?kN ?kT ?kk ?kp ?kd ?ku ?_; (walk_at "use_cases"); (case kp => trivial); (intro r9 h9 tk9 F9 N9 P9 K9; obtain ⟨t9, rfl⟩ := P9; (try dsimp only); (try k_fold)))
    | (refine' useP (sign47 hf _ _) ?kB ?kF ?kX ?kN ?kT ?kk ?kp ?kd ?ku ?_; (walk_at "use_cases"); (case kp => trivial); (intro r9 h9 tk9 F9 N9 P9 K9; obtain ⟨t9, rfl⟩ := P9; (try dsimp only); (try k_fold)))
    | (refine' useP (sign_at hf _ _ _) ?kB ?kF ?kX ?kN ?kT ?kk ?kp ?kd ?ku ?_; (walk_at "use_cases"); (case kp => trivial); (intro r9 h9 tk9 F9 N9 P9 K9; obtain ⟨t9, rfl⟩ := P9; (try dsimp only); (try k_fold)))
    | (refine' useP (worth_spec _ _ _ _ _ _ _ _ _ _ ?b0 ?b1) ?kB ?kF ?kX ?kN ?kT ?kk ?kp ?kd ?ku ?_; (case b0 => omega); (case b1 => omega); (walk_at "use_cases"); (case kp => trivial); (intro r9 h9 tk9 F9 N9 P9 K9; obtain ⟨t9, rfl⟩ := P9; (try dsimp only); (try k_fold)))
    | (refine' useP (row_spec' _ _ (figF b0 b1 b2 b3 b4 b5) _ ?hI hf) ?kB ?kF ?kX ?kN ?kT ?kk ?kp ?kd ?ku ?_; (case hI => assumption); (walk_at "use_cases"); (case kp => exact News.get (by k_asm) (by k_mem)); (intro r9 h9 tk9 F9 N9 P9 K9; obtain ⟨t9, rfl⟩ := P9; (try dsimp only); (try k_fold)))
    | (refine' useP (enc64_spec hf _ _ _) ?kB ?kF ?kX ?kN ?kT ?kk ?kp ?kd ?ku ?_; (walk_at "use_cases"); (case kp => trivial); (intro r9 h9 tk9 F9 N9 P9 K9; obtain ⟨t9, rfl⟩ := P9; (try dsimp only); (try k_fold)))
    | (refine' useP (text64_spec _ _) ?kB ?kF ?kX ?kN ?kT ?kk ?kp ?kd ?ku ?_; (walk_at "use_cases"); (case kp => exact Filled.keeps hfil (Fr.keep (by assumption))); (intro r9 h9 tk9 F9 N9 P9 K9; obtain ⟨t9, rfl⟩ := P9; (try dsimp only); (try k_fold)))))
  walk_at "my_steps"
  all_goals exact hret _ _ _ (Fr.keep (by assumption)) rfl
end

example : True := by
  k_with_none
  trivial
section
/-- i ints, each within the bound -/
noncomputable def SmallTo (B : Int) (i : Nat) (ys : List Value) : Prop := ys.length = i ∧ ∀ v ∈ ys, ∃ n t, v = .int n t ∧ 0 ≤ n ∧ n < B
theorem SmallTo.nil (B : Int) : SmallTo B 0 [] := ⟨rfl, fun _ h => nomatch h⟩
theorem SmallTo.snoc {B : Int} {i : Nat} {ys : List Value} {n : Int} {t : Tok} (h : SmallTo B i ys) (h0 : 0 ≤ n) (h1 : n < B) : SmallTo B (i + 1) (ys ++ [.int n t]) :=
  ⟨by simp [h.1], fun v hv => by
    rcases List.mem_append.mp hv with q | q
    · exact h.2 v q
    · rw [List.mem_singleton.mp q]; exact ⟨n, t, rfl, h0, h1⟩⟩
/-- i ints -/
noncomputable def AnyTo (i : Nat) (ys : List Value) : Prop := ys.length = i ∧ ∀ v ∈ ys, ∃ n t, v = .int n t
theorem AnyTo.nil : AnyTo 0 [] := ⟨rfl, fun _ h => nomatch h⟩
theorem AnyTo.snoc {i : Nat} {ys : List Value} {n : Int} {t : Tok} (h : AnyTo i ys) : AnyTo (i + 1) (ys ++ [.int n t]) :=
  ⟨by simp [h.1], fun v hv => by
    rcases List.mem_append.mp hv with q | q
    · exact h.2 v q
    · rw [List.mem_singleton.mp q]; exact ⟨n, t, rfl⟩⟩
section
variable {prog : Program} {w : World} {A : Around} {E : Value → Shared → Prop} {s : Shared} {h₀ : Heap} {L D : Addr} {news : List (Addr × Obj)} {value slice : Expr} {ys : List Value} {u : Tok} {k : Nat} {i : Int} {Q : Value → Shared → Prop}
theorem itemS {B : Int} {n : Nat} (N : News h₀ L s.heap news) (hm : (D, LCg.lst ys) ∈ news) (hI : SmallTo B n ys) (e : i = (k : Int)) (hj : k < n) (hn : n ≤ 1000) (h : ∀ a t', 0 ≤ a → a < B → Q (.int a t') s)
    (hs : subscripted slice false (.ref D) (.int i u) = operate [.ref D, .int i u] (getItem (.ref D) (.int i u)) := by with_unfolding_all rfl) :
    wpAny (model prog w) A (subscriptTail value slice (.ref D) (.int i u)) Q E s := by
  subst e
  have hlt : k < ys.length := by rw [hI.1]; exact hj
  obtain ⟨a, t, e, h0, h1⟩ := hI.2 ys[k] (List.getElem_mem hlt)
  refine item_H (v := .int a t) (N _ hm).1 (by omega) (by omega) ?_ (h a t h0 h1) hs
  simp [hlt, e]
theorem itemY {n : Nat} (N : News h₀ L s.heap news) (hm : (D, LCg.lst ys) ∈ news) (hI : AnyTo n ys) (e : i = (k : Int)) (hj : k < n) (hn : n ≤ 1000) (h : ∀ a t', Q (.int a t') s)
    (hs : subscripted slice false (.ref D) (.int i u) = operate [.ref D, .int i u] (getItem (.ref D) (.int i u)) := by with_unfolding_all rfl) :
    wpAny (model prog w) A (subscriptTail value slice (.ref D) (.int i u)) Q E s := by
  subst e
  have hlt : k < ys.length := by rw [hI.1]; exact hj
  obtain ⟨a, t, e⟩ := hI.2 ys[k] (List.getElem_mem hlt)
  refine item_H (v := .int a t) (N _ hm).1 (by omega) (by omega) ?_ (h a t) hs
  simp [hlt, e]
end
theorem ints_of_all : ∀ {l : List Value}, (∀ v ∈ l, ∃ n t, v = .int n t) → ∃ ms, IntsAre l ms
  | [], _ => ⟨[], .nil⟩
  | v :: r, h => by
    obtain ⟨n, t, rfl⟩ := h v (.head _)
    obtain ⟨ms, hm⟩ := ints_of_all fun x hx => h x (.tail _ hx)
    exact ⟨_, .cons _ _ hm⟩
theorem ints_all : ∀ {l : List Value} {ms : List Int}, IntsAre l ms → ∀ v ∈ l, ∃ n t, v = .int n t
  | _, _, .nil, _, h => nomatch h
  | _, _, .cons n t r, v, h => by
    rcases List.mem_cons.mp h with rfl | h
    · exact ⟨n, t, rfl⟩
    · exact ints_all r v h
theorem pick_ints {vs : List Value} {ns : List Int} {lo hi st : Option Int} (h : IntsAre vs ns) : ∃ ms, IntsAre (slicePick vs.toArray lo hi st).toList ms := by
  refine ints_of_all fun v hv => ints_all h v ?_
  unfold slicePick at hv
  simp only [List.mem_filterMap] at hv
  obtain ⟨i, _, e⟩ := hv
  have : v ∈ vs.toArray := Array.mem_of_getElem? e
  simpa using this
section
variable {prog : Program} {w : World} {A : Around} {E : Value → Shared → Prop} {s : Shared} {h₀ : Heap} {L D : Addr} {m : Str → Option Value} {news : List (Addr × Obj)} {value slice : Expr} {u : Tok} {i : Int} {Q : Value → Shared → Prop}
theorem sum_pick {vs : List Value} {ns : List Int} {lo hi st : Option Int} {k : Nat} (hh : A.handled = none) (F : Fr h₀ L s.heap m) (N : News h₀ L s.heap news) (hm : (D, ({ cls := .type "list", data := .seq (slicePick vs.toArray lo hi st) k } : Obj)) ∈ news) (hi' : IntsAre vs ns)
    (h : ∀ h' tk a t', Fr h₀ L h' m → News h₀ L h' news → Q (.int a t') { s with heap := h', toks := tk }) : wpAny (model prog w) A (call (.builtin "sum") [.ref D]) Q E s := by
  obtain ⟨ms, hms⟩ := pick_ints (lo := lo) (hi := hi) (st := st) hi'
  have hl : s.heap.IsList D (slicePick vs.toArray lo hi st).toList.toArray := by rw [Array.toArray_toList]; exact ⟨_, (N _ hm).1, rfl, _, rfl⟩
  exact sumK hh F N hl hms fun h' tk t' F' N' => h h' tk _ t' F' N'
theorem item1 {v : Value} {k : Nat} (N : News h₀ L s.heap news) (hm : (D, ({ cls := .type "list", data := .seq #[v] k } : Obj)) ∈ news) (h : Q v s)
    (hs : subscripted slice false (.ref D) (.int 0 u) = operate [.ref D, .int 0 u] (getItem (.ref D) (.int 0 u)) := by with_unfolding_all rfl) :
    wpAny (model prog w) A (subscriptTail value slice (.ref D) (.int 0 u)) Q E s := item_H (N _ hm).1 (by decide) (by decide) rfl h hs
theorem item2 {a b : Int} {t t' : Tok} {k : Nat} {B : Int} (N : News h₀ L s.heap news) (hm : (D, ({ cls := .type "list", data := .seq #[.int a t, .int b t'] k } : Obj)) ∈ news) (ha : 0 ≤ a ∧ a < B) (hb : 0 ≤ b ∧ b < B) (hi : 0 ≤ i) (hi2 : i < 2) (h : ∀ c tc, 0 ≤ c → c < B → Q (.int c tc) s)
    (hs : subscripted slice false (.ref D) (.int i u) = operate [.ref D, .int i u] (getItem (.ref D) (.int i u)) := by with_unfolding_all rfl) :
    wpAny (model prog w) A (subscriptTail value slice (.ref D) (.int i u)) Q E s := by
  rcases (show i = 0 ∨ i = 1 by omega) with rfl | rfl
  · exact item_H (N _ hm).1 (by decide) (by decide) rfl (h a t ha.1 ha.2) hs
  · exact item_H (N _ hm).1 (by decide) (by decide) rfl (h b t' hb.1 hb.2) hs
end
theorem fm_in (x : Int) {y : Int} (hy : 0 < y) : 0 ≤ x.fmod y ∧ x.fmod y < y := by
  rw [Int.fmod_eq_emod_of_nonneg _ (Int.le_of_lt hy)]
  exact ⟨Int.emod_nonneg _ (by omega), Int.emod_lt_of_pos _ hy⟩
section
variable {prog : Program} {w : World} {A : Around} {E : Value → Shared → Prop} {s : Shared} {t u : Tok} {a k p : Int} {Q : Value → Shared → Prop}
theorem pow_two (h0 : 0 ≤ k) (h1 : k < 27) (h : ∀ p t', 0 ≤ p → p ≤ 67108864 → Q (.int p t') { s with toks := s.toks + 1 }) : wpAny (model prog w) A (binaryOp .Pow (.int 2 t) (.int k u)) Q E s := by
  refine pow_int_small h0 (by omega) (by decide) (h _ _ (Int.le_of_lt (Int.pow_pos (by decide))) ?_)
  have : (2 : Int) ^ k.toNat ≤ 2 ^ 26 := by
    have h2 : (2 : Nat) ^ k.toNat ≤ 2 ^ 26 := Nat.pow_le_pow_right (by decide) (by omega)
    exact_mod_cast h2
  exact this
theorem mul_gen (hp : 0 ≤ p) (hp1 : p ≤ 67108864) (h : ∀ r t', Q (.int r t') { s with toks := s.toks + 1 }) : wpAny (model prog w) A (binaryOp .Mult (.int a t) (.int p u)) Q E s :=
  mul_int (h _ _) (.of_right (intBits_le_64 (by omega) (by omega)))
end
end

example : True := by
  k_with_none
  trivial
example : True := by
  (k_with "my my_enter" => ((refine wpAny_call ?_; k_dflt (first
      | (refine' enterP ?k3_q1 ?k5_q1 ?k6_q1 ?k7_q1 ?k8_q1 ?k9_q1 ?kB_q1 ?_ ?c2_q1 ?c3_q1 ?c4_q1 ?c5_q1; (case k3_q1 => k_asm); (case k5_q1 => k_asm); (case k6_q1 => k_is); (case k7_q1 => k_is); (case k8_q1 => k_room); (case k9_q1 => first | exact BindsTo.of_eq (binds := [(_, _)]) rfl | exact BindsTo.of_eq (binds := [(_, _), (_, _)]) rfl | exact BindsTo.of_eq rfl | exact binds_K (by k_in) rfl (by k_is) rfl rfl rfl | fail "my_enter: no rule for these arguments"); (case c5_q1 => decide); (case kB_q1 => exact locs rfl); (case c2_q1 => exact rfl); (case c3_q1 => exact rfl); (case c4_q1 => exact rfl); k_whole; intro L' h' F' N'; (try dsimp only); (try k_fold))
      | (refine' enterPC ?k3_q1 ?k5_q1 ?k6_q1 ?k7_q1 ?k8_q1 ?k9_q1 ?kB_q1 ?kD_q1 ?_ ?c2_q1 ?c3_q1 ?c4_q1; (case k3_q1 => k_asm); (case k5_q1 => k_asm); (case k6_q1 => k_is); (case k7_q1 => k_is); (case k8_q1 => k_room); (case k9_q1 => first | exact BindsTo.of_eq (binds := [(_, _)]) rfl | exact BindsTo.of_eq (binds := [(_, _), (_, _)]) rfl | exact BindsTo.of_eq rfl | exact binds_K (by k_in) rfl (by k_is) rfl rfl rfl | fail "my_enter: no rule for these arguments"); (case kB_q1 => exact rfl); (case kD_q1 => decide +kernel); (case c2_q1 => exact rfl); (case c3_q1 => exact rfl); (case c4_q1 => exact rfl); k_whole; intro L' h' tk' cells' F' N' Y'; k_cells Y'; (try simp only [List.cons_append, List.nil_append, List.append_nil] at N'); (try dsimp only); (try k_fold))))))
  trivial
example : True := by
  (k_with "my call type:type" => (((with_reducible show wpAny _ _ (call _ [Value.bytes _ _]) _ _ _); refine call_type_of (Tx := "bytes") rfl (by decide +kernel) ?_)))
  trivial
example : True := by
  (k_with "my my_steps" => (repeat' (first | (k_unfold; (try dsimp only)) | ((fail_if_success (with_reducible show InvEndN _ _ _ _ _ _ _)); first | walk1 | (dsimp only; walk1) | (leave1; try dsimp only)) | fail "no step")))
  trivial
example : True := by
  (k_with "my use_cases" => (((case kB => first | k_asm | fail "use: below"); (case kF => first | k_asm | fail "use: frame"); (case kX => first | k_asm | fail "use: written part"); (case kN => first | k_asm | fail "use: ledger"); (case kT => first | k_asm | fail "use: top"); (case kk => first | exact rfl | assumption | fail "use: kind"); (case kd => first | ktr_room | fail "use: room"); (case ku => first | ktr_units | fail "use: units"))))
  trivial
example : True := by
  (k_with "my my_enterT" => ((refine wpAny_call ?_; k_dflt (first
      | (refine' enterT ?ksub_q5 ?ksz_q5 ?k3_q5 ?k5_q5 ?kt_q5 ?kg_q5 ?k6_q5 ?k7_q5 ?k8_q5 ?k9_q5 ?kB_q5 ?_ ?c2_q5 ?c3_q5 ?c4_q5 ?c5_q5; (case ksub_q5 => assumption); (case ksz_q5 => assumption); (case kt_q5 => assumption); (case kg_q5 => assumption); (case k3_q5 => k_asm); (case k5_q5 => k_asm); (case k6_q5 => k_is); (case k7_q5 => k_is); (case k8_q5 => k_room); (case k9_q5 => first | exact BindsTo.of_eq (binds := [(_, _)]) rfl | exact BindsTo.of_eq (binds := [(_, _), (_, _)]) rfl | exact BindsTo.of_eq rfl | exact binds_K (by k_in) rfl (by k_is) rfl rfl rfl | fail "my_enter: no rule for these arguments"); (case c5_q5 => decide); (case kB_q5 => exact locs rfl); (case c2_q5 => exact rfl); (case c3_q5 => exact rfl); (case c4_q5 => exact rfl); k_whole; intro L' h' F' N' l0; (replace l0 := ltN l0); (try dsimp only); (try k_fold))
      | (refine' enterTC ?ksub_q5 ?ksz_q5 ?k3_q5 ?k5_q5 ?kt_q5 ?kg_q5 ?k6_q5 ?k7_q5 ?k8_q5 ?k9_q5 ?kB_q5 ?kD_q5 ?_ ?c2_q5 ?c3_q5 ?c4_q5; (case ksub_q5 => assumption); (case ksz_q5 => assumption); (case kt_q5 => assumption); (case kg_q5 => assumption); (case k3_q5 => k_asm); (case k5_q5 => k_asm); (case k6_q5 => k_is); (case k7_q5 => k_is); (case k8_q5 => k_room); (case k9_q5 => first | exact BindsTo.of_eq (binds := [(_, _)]) rfl | exact BindsTo.of_eq (binds := [(_, _), (_, _)]) rfl | exact BindsTo.of_eq rfl | exact binds_K (by k_in) rfl (by k_is) rfl rfl rfl | fail "my_enter: no rule for these arguments"); (case kB_q5 => exact rfl); (case kD_q5 => decide +kernel); (case c2_q5 => exact rfl); (case c3_q5 => exact rfl); (case c4_q5 => exact rfl); k_whole; intro L' h' tk' cells' F' N' Y' l0; (replace l0 := ltN l0); k_cells Y'; (try simp only [List.cons_append, List.nil_append, List.append_nil] at N'); (try dsimp only); (try k_fold))))))
  trivial
example : True := by
  (k_with "my execs cons" => (((with_reducible refine wpAny_execs_cons ?_); (try dsimp only); (try k_fold); (try ((rename Fr _ _ _ _ => F9); (refine foldFr F9 ?_); (intro mk9 F8); (clear F9))))))
  trivial
example : True := by
  (k_with "my size_fits" => (exact Nat.le_of_ble_eq_true rfl))
  trivial
example : True := by
  (k_with "my pick_chain" => (((iterate 15 (try (first | with_reducible assumption | apply pickR))); done)))
  trivial
example : True := by
  (k_with "my pick_one" => ((first | with_reducible assumption | (apply pickL; walk_at "pick_chain") | walk_at "pick_chain")))
  trivial
example : True := by
  (k_with "my pick_ne" => ((refine neN ?_; (try dsimp only); (first | with_reducible assumption | (refine Nat.ne_of_lt ?_; (simp only [*]; done)) | (refine Nat.ne_of_gt ?_; (simp only [*]; done)) | (simp only [*, ne_eq, not_false_eq_true]; done) | (refine Ne.symm ?_; (simp only [*, ne_eq, not_false_eq_true]; done)) | (refine ne_up ?_; (simp only [*]; done)) | (refine ne_up' ?_; (simp only [*]; done))))))
  trivial
example : True := by
  (k_with "my pick_lim" => ((first
      | (refine' lim1 ?h_q11 ?k_q11; (case h_q11 => assumption); (case k_q11 => exact rfl))
      | (refine' lim2 ?h_q11 ?k_q11; (case h_q11 => assumption); (case k_q11 => exact rfl))
      | (refine' lim0 ?h_q11; (case h_q11 => assumption))
      | (refine' lim3 ?h_q11 ?k_q11; (case h_q11 => assumption); (case k_q11 => exact rfl)))))
  trivial
example : True := by
  (k_with "my pick_all" => ((first | exact allNe_nil | (refine' allNe_cons ?a_q12 ?b_q12; (case a_q12 => k_ne); (case b_q12 => k_all)))))
  trivial
example : True := by
  (k_with "my eval Name" => ((k_here; (with_reducible show wpAny _ _ (eval (Expr.Name _ _) (compEnvC _ _ _ _)) _ _ _); k_dflt (first | refine LCgL.ld_own (by with_reducible assumption) (by k_mem) (by with_reducible assumption) (by with_reducible assumption) ?_ | refine LCgL.ld_global (by with_reducible assumption) (by with_reducible assumption) (by with_reducible assumption) (by k_is) ?_ | refine LCgL.ld_built (by with_reducible assumption) (by with_reducible assumption) (by with_reducible assumption) (by k_is) (by boot_by_name) (by decide) ?_))))
  trivial

section
example : True := by
  (k_with "my TurnEnd" => (((try dsimp only); k_dflt (refine' TurnEnd.intro ?a_q137 ?b_q137 ?c_q137 ?_; (case a_q137 => k_asm); (case b_q137 => k_asm); (case c_q137 => first | exact fun _ hp => hp | exact fun _ hp => .tail _ hp | exact fun _ hp => .tail _ (.tail _ hp) | exact fun _ hp => .tail _ (.tail _ (.tail _ hp)))); first
      | exact AnyTo.snoc (by assumption)
      | exact SmallTo.snoc (by assumption) (fm_in _ (by decide)).1 (fm_in _ (by decide)).2
      | exact SmallTo.snoc (by assumption) (by assumption) (by assumption))))
  trivial
example : True := by
  (k_with "my exec Assign cons ListComp" => ((k_here; k_dflt (refine LCg.Assign_ListComp_U (F₀ := by k_asm) (by rfl) (by with_unfolding_all rfl) (by with_unfolding_all rfl) (by decide) (by rfl) (by decide) (by rfl) (by rfl) (by rfl) ?_))))
  trivial
example : True := by
  (k_with "my call builtin:sum" => ((k_here; k_dflt (refine' sum_pick ?a1_q140 ?a2_q140 ?a3_q140 ?a4_q140 ?a5_q140 ?_; (case a1_q140 => exact rfl); (case a2_q140 => k_asm); (case a3_q140 => k_asm); (case a4_q140 => k_mem); (case a5_q140 => assumption)); intro h' tk' a' t' F' N')))
  trivial
example : True := by
  (k_with "my subscriptTail Name Name ref int" => ((k_here; k_dflt (first
      | (refine' itemY (n := 9) ?a1_q141 ?a2_q141 ?a3_q141 rfl (by omega) (by decide) ?_; (case a1_q141 => k_asm); (case a2_q141 => k_mem); (case a3_q141 => assumption); intro a' t')
      | (refine' itemS (n := 6) ?a1_q141 ?a2_q141 ?a3_q141 rfl (by omega) (by decide) ?_; (case a1_q141 => k_asm); (case a2_q141 => k_mem); (case a3_q141 => assumption); intro a' t' ha' hb')))))
  trivial
example : True := by
  (k_with "my subscriptTail Name Constant ref int" => ((k_here; k_dflt (first
      | (refine' itemY (k := 8) (n := 9) ?a1_q142 ?a2_q142 ?a3_q142 rfl (by omega) (by decide) ?_; (case a1_q142 => k_asm); (case a2_q142 => k_mem); (case a3_q142 => assumption); intro a' t')
      | (refine' itemY (k := 7) (n := 9) ?a1_q142 ?a2_q142 ?a3_q142 rfl (by omega) (by decide) ?_; (case a1_q142 => k_asm); (case a2_q142 => k_mem); (case a3_q142 => assumption); intro a' t')
      | (refine' itemY (k := 6) (n := 9) ?a1_q142 ?a2_q142 ?a3_q142 rfl (by omega) (by decide) ?_; (case a1_q142 => k_asm); (case a2_q142 => k_mem); (case a3_q142 => assumption); intro a' t')
      | (refine' item1 ?a1_q142 ?a2_q142 ?_; (case a1_q142 => k_asm); (case a2_q142 => k_mem))))))
  trivial
example : True := by
  (k_with "my binaryOp Pow int int" => ((k_here; k_dflt (refine pow_two (fm_in _ (by decide)).1 (fm_in _ (by decide)).2 ?_); intro p' t' hp0 hp1)))
  trivial
example : True := by
  (k_with "my binaryOp Mult int int" => ((k_here; k_dflt (refine mul_gen (by assumption) (by assumption) ?_); intro r' t')))
  trivial
theorem small_oct {v : Value} (h : ∃ n t, v = .int n t ∧ 0 ≤ n ∧ n < 256) : ∃ (b : UInt8) (t : Tok), v = .int (b.toNat : Int) t := by
  obtain ⟨n, t, rfl, h0, h1⟩ := h
  refine ⟨n.toNat.toUInt8, t, ?_⟩
  congr 1
  have : n.toNat.toUInt8.toNat = n.toNat := by
    rw [show n.toNat.toUInt8 = UInt8.ofNat n.toNat from rfl, UInt8.toNat_ofNat']
    omega
  rw [this]; omega
/-- six octets as ints -/
noncomputable abbrev octs6 (b0 b1 b2 b3 b4 b5 : UInt8) (t0 t1 t2 t3 t4 t5 : Tok) : List Value := [.int (b0.toNat : Int) t0, .int (b1.toNat : Int) t1, .int (b2.toNat : Int) t2, .int (b3.toNat : Int) t3, .int (b4.toNat : Int) t4, .int (b5.toNat : Int) t5]
noncomputable abbrev octsF (a : Nat → UInt8) (t : Nat → Tok) : List Value := octs6 (a 0) (a 1) (a 2) (a 3) (a 4) (a 5) (t 0) (t 1) (t 2) (t 3) (t 4) (t 5)
theorem octs_of : ∀ ys : List Value, (∀ v ∈ ys, ∃ n t, v = .int n t ∧ 0 ≤ n ∧ n < 256) → ∃ (a : Nat → UInt8) (t : Nat → Tok), ys = (List.range ys.length).map fun i => .int ((a i).toNat : Int) (t i)
  | [], _ => ⟨fun _ => 0, fun _ => 0, rfl⟩
  | v :: r, h => by
    obtain ⟨b, u, rfl⟩ := small_oct (h v (.head _))
    obtain ⟨a, t, e⟩ := octs_of r fun w hw => h w (.tail _ hw)
    refine ⟨fun i => match i with | 0 => b | i + 1 => a i, fun i => match i with | 0 => u | i + 1 => t i, ?_⟩
    rw [List.length_cons, List.range_succ_eq_map, List.map_cons, List.map_map]
    exact congrArg (_ :: ·) e
theorem SmallTo.octs {ys : List Value} (h : SmallTo 256 6 ys) : ∃ (a : Nat → UInt8) (t : Nat → Tok), ys = octsF a t := by
  obtain ⟨hl, ha⟩ := h
  obtain ⟨a, t, e⟩ := octs_of ys ha
  rw [hl] at e
  exact ⟨a, t, e⟩
noncomputable def DrawnPost (r : Value) (h h' : Heap) : Prop := ∃ lt ls l1 l2 ln k1 k2 k3 a b n0 n1 n2 s t u0 u1 u2,
  r = .ref lt ∧ h'.get? lt = some { cls := .type "tuple", data := .seq #[.ref ls, .ref ln] k1 } ∧ h.get? lt = none ∧ h'.get? ls = some (W.listOf #[.ref l1, .ref l2] k2) ∧ h.get? ls = none ∧
  h'.get? ln = some (W.listOf #[.int n0 u0, .int n1 u1, .int n2 u2] k3) ∧ h.get? ln = none ∧ h'.get? l1 = some (LCg.lst (octsF a s)) ∧ h.get? l1 = none ∧
  h'.get? l2 = some (LCg.lst (octsF b t)) ∧ h.get? l2 = none ∧ (0 ≤ n0 ∧ n0 < 16777216) ∧ (0 ≤ n1 ∧ n1 < 16777216) ∧ (0 ≤ n2 ∧ n2 < 16777216)
theorem DrawnPost.of {r : Value} {h h' : Heap} {L lt ls l1 l2 ln : Addr} {k1 k2 k3 : Nat} {ys zs : List Value} {n0 n1 n2 : Int} {u0 u1 u2 : Tok} {news : List (Addr × Obj)} (N : News h L h' news) (hr : r = .ref lt)
    (m1 : (lt, ({ cls := .type "tuple", data := .seq #[.ref ls, .ref ln] k1 } : Obj)) ∈ news) (m2 : (ls, W.listOf #[.ref l1, .ref l2] k2) ∈ news) (m3 : (ln, W.listOf #[.int n0 u0, .int n1 u1, .int n2 u2] k3) ∈ news)
    (m4 : (l1, LCg.lst ys) ∈ news) (m5 : (l2, LCg.lst zs) ∈ news) (h1 : SmallTo 256 6 ys) (h2 : SmallTo 256 6 zs) (b0 : 0 ≤ n0 ∧ n0 < 16777216) (b1 : 0 ≤ n1 ∧ n1 < 16777216) (b2 : 0 ≤ n2 ∧ n2 < 16777216) : DrawnPost r h h' := by
  obtain ⟨a, s, rfl⟩ := h1.octs
  obtain ⟨b, t, rfl⟩ := h2.octs
  exact ⟨_, _, _, _, _, _, _, _, _, _, _, _, _, _, _, _, _, _, hr, (N _ m1).1, (N _ m1).2.2, (N _ m2).1, (N _ m2).2.2, (N _ m3).1, (N _ m3).2.2, (N _ m4).1, (N _ m4).2.2, (N _ m5).1, (N _ m5).2.2, b0, b1, b2⟩
example : True := by
  (k_with "my execs cons" => (((with_reducible refine wpAny_execs_cons ?_); (try dsimp only); (try (with_reducible refine genState (s₀ := s) rfl ?_; intro tk9)); (try k_fold); (try ((rename Fr _ _ _ _ => F9); (refine foldFr F9 ?_); (intro mk9 F8); (clear F9))))))
  trivial
theorem drawn_spec (w : World) (l : Addr) (vs : List Value) (ns : List Int) (hI : IntsAre vs ns) (hsz : ns.length ≤ 1048576) :
    SpecP w 211 [.ref l] [] 2 (fun h => h.IsList l vs.toArray) DrawnPost := by
  unfold SpecP
  k_fill
  intro _ dp un gd outer base s Q E p loose mean mg mb B X T hpre hdp hun hret
  walk_at "my_enter"
  k_with "my CompSrc" => (k_here; (k_dflt (refine LCg.CompSrc.range (n := 9) (by rfl) (by k_asm) (by k_asm) (by assumption) (by first | decide | rfl) (by first | rfl | decide) (by first | size_fits | exact Nat.le_of_ble_eq_true rfl) ?_)); intro g'; (refine comp_indR (n := 9) (fun i ys => AnyTo i ys) AnyTo.nil ?_ ?_))
  k_with "my CompSrc" => (k_here; (k_dflt (refine LCg.CompSrc.range (n := 6) (by rfl) (by k_asm) (by k_asm) (by assumption) (by first | decide | rfl) (by first | rfl | decide) (by first | size_fits | exact Nat.le_of_ble_eq_true rfl) ?_)); intro g'; (refine comp_indR (n := 6) (fun i ys => SmallTo 256 i ys) (SmallTo.nil _) ?_ ?_))
  walk_at "my_steps"
  exact hret _ _ _ (Fr.keep (by assumption)) (DrawnPost.of (by assumption) rfl (by k_mem) (by k_mem) (by k_mem) (by k_mem) (by k_mem) (by assumption) (by assumption) (fm_in _ (by decide)) (fm_in _ (by decide)) (fm_in _ (by decide)))
end

example : True := by
  k_with_none
  trivial
example : True := by
  (k_with "my my_enter" => ((refine wpAny_call ?_; k_dflt (first
      | (refine' enterP ?k3_q1 ?k5_q1 ?k6_q1 ?k7_q1 ?k8_q1 ?k9_q1 ?kB_q1 ?_ ?c2_q1 ?c3_q1 ?c4_q1 ?c5_q1; (case k3_q1 => k_asm); (case k5_q1 => k_asm); (case k6_q1 => k_is); (case k7_q1 => k_is); (case k8_q1 => k_room); (case k9_q1 => first | exact BindsTo.of_eq (binds := [(_, _)]) rfl | exact BindsTo.of_eq (binds := [(_, _), (_, _)]) rfl | exact BindsTo.of_eq rfl | exact binds_K (by k_in) rfl (by k_is) rfl rfl rfl | fail "my_enter: no rule for these arguments"); (case c5_q1 => decide); (case kB_q1 => exact locs rfl); (case c2_q1 => exact rfl); (case c3_q1 => exact rfl); (case c4_q1 => exact rfl); k_whole; intro L' h' F' N'; (try dsimp only); (try k_fold))
      | (refine' enterPC ?k3_q1 ?k5_q1 ?k6_q1 ?k7_q1 ?k8_q1 ?k9_q1 ?kB_q1 ?kD_q1 ?_ ?c2_q1 ?c3_q1 ?c4_q1; (case k3_q1 => k_asm); (case k5_q1 => k_asm); (case k6_q1 => k_is); (case k7_q1 => k_is); (case k8_q1 => k_room); (case k9_q1 => first | exact BindsTo.of_eq (binds := [(_, _)]) rfl | exact BindsTo.of_eq (binds := [(_, _), (_, _)]) rfl | exact BindsTo.of_eq rfl | exact binds_K (by k_in) rfl (by k_is) rfl rfl rfl | fail "my_enter: no rule for these arguments"); (case kB_q1 => exact rfl); (case kD_q1 => decide +kernel); (case c2_q1 => exact rfl); (case c3_q1 => exact rfl); (case c4_q1 => exact rfl); k_whole; intro L' h' tk' cells' F' N' Y'; k_cells Y'; (try simp only [List.cons_append, List.nil_append, List.append_nil] at N'); (try dsimp only); (try k_fold))))))
  trivial
example : True := by
  (k_with "my call type:type" => (((with_reducible show wpAny _ _ (call _ [Value.bytes _ _]) _ _ _); refine call_type_of (Tx := "bytes") rfl (by decide +kernel) ?_)))
  trivial
example : True := by
  (k_with "my my_steps" => (repeat' (first | (k_unfold; (try dsimp only)) | ((fail_if_success (with_reducible show InvEndN _ _ _ _ _ _ _)); first | walk1 | (dsimp only; walk1) | (leave1; try dsimp only)) | fail "no step")))
  trivial
example : True := by
  (k_with "my use_cases" => (((case kB => first | k_asm | fail "use: below"); (case kF => first | k_asm | fail "use: frame"); (case kX => first | k_asm | fail "use: written part"); (case kN => first | k_asm | fail "use: ledger"); (case kT => first | k_asm | fail "use: top"); (case kk => first | exact rfl | assumption | fail "use: kind"); (case kd => first | ktr_room | fail "use: room"); (case ku => first | ktr_units | fail "use: units"))))
  trivial
example : True := by
  (k_with "my my_enterT" => ((refine wpAny_call ?_; k_dflt (first
      | (refine' enterT ?ksub_q5 ?ksz_q5 ?k3_q5 ?k5_q5 ?kt_q5 ?kg_q5 ?k6_q5 ?k7_q5 ?k8_q5 ?k9_q5 ?kB_q5 ?_ ?c2_q5 ?c3_q5 ?c4_q5 ?c5_q5; (case ksub_q5 => assumption); (case ksz_q5 => assumption); (case kt_q5 => assumption); (case kg_q5 => assumption); (case k3_q5 => k_asm); (case k5_q5 => k_asm); (case k6_q5 => k_is); (case k7_q5 => k_is); (case k8_q5 => k_room); (case k9_q5 => first | exact BindsTo.of_eq (binds := [(_, _)]) rfl | exact BindsTo.of_eq (binds := [(_, _), (_, _)]) rfl | exact BindsTo.of_eq rfl | exact binds_K (by k_in) rfl (by k_is) rfl rfl rfl | fail "my_enter: no rule for these arguments"); (case c5_q5 => decide); (case kB_q5 => exact locs rfl); (case c2_q5 => exact rfl); (case c3_q5 => exact rfl); (case c4_q5 => exact rfl); k_whole; intro L' h' F' N' l0; (replace l0 := ltN l0); (try dsimp only); (try k_fold))
      | (refine' enterTC ?ksub_q5 ?ksz_q5 ?k3_q5 ?k5_q5 ?kt_q5 ?kg_q5 ?k6_q5 ?k7_q5 ?k8_q5 ?k9_q5 ?kB_q5 ?kD_q5 ?_ ?c2_q5 ?c3_q5 ?c4_q5; (case ksub_q5 => assumption); (case ksz_q5 => assumption); (case kt_q5 => assumption); (case kg_q5 => assumption); (case k3_q5 => k_asm); (case k5_q5 => k_asm); (case k6_q5 => k_is); (case k7_q5 => k_is); (case k8_q5 => k_room); (case k9_q5 => first | exact BindsTo.of_eq (binds := [(_, _)]) rfl | exact BindsTo.of_eq (binds := [(_, _), (_, _)]) rfl | exact BindsTo.of_eq rfl | exact binds_K (by k_in) rfl (by k_is) rfl rfl rfl | fail "my_enter: no rule for these arguments"); (case kB_q5 => exact rfl); (case kD_q5 => decide +kernel); (case c2_q5 => exact rfl); (case c3_q5 => exact rfl); (case c4_q5 => exact rfl); k_whole; intro L' h' tk' cells' F' N' Y' l0; (replace l0 := ltN l0); k_cells Y'; (try simp only [List.cons_append, List.nil_append, List.append_nil] at N'); (try dsimp only); (try k_fold))))))
  trivial
example : True := by
  (k_with "my execs cons" => (((with_reducible refine wpAny_execs_cons ?_); (try dsimp only); (try k_fold); (try ((rename Fr _ _ _ _ => F9); (refine foldFr F9 ?_); (intro mk9 F8); (clear F9))))))
  trivial
example : True := by
  (k_with "my size_fits" => (exact Nat.le_of_ble_eq_true rfl))
  trivial
example : True := by
  (k_with "my pick_chain" => (((iterate 15 (try (first | with_reducible assumption | apply pickR))); done)))
  trivial
example : True := by
  (k_with "my pick_one" => ((first | with_reducible assumption | (apply pickL; walk_at "pick_chain") | walk_at "pick_chain")))
  trivial
example : True := by
  (k_with "my pick_ne" => ((refine neN ?_; (try dsimp only); (first | with_reducible assumption | (refine Nat.ne_of_lt ?_; (simp only [*]; done)) | (refine Nat.ne_of_gt ?_; (simp only [*]; done)) | (simp only [*, ne_eq, not_false_eq_true]; done) | (refine Ne.symm ?_; (simp only [*, ne_eq, not_false_eq_true]; done)) | (refine ne_up ?_; (simp only [*]; done)) | (refine ne_up' ?_; (simp only [*]; done))))))
  trivial
example : True := by
  (k_with "my pick_lim" => ((first
      | (refine' lim1 ?h_q11 ?k_q11; (case h_q11 => assumption); (case k_q11 => exact rfl))
      | (refine' lim2 ?h_q11 ?k_q11; (case h_q11 => assumption); (case k_q11 => exact rfl))
      | (refine' lim0 ?h_q11; (case h_q11 => assumption))
      | (refine' lim3 ?h_q11 ?k_q11; (case h_q11 => assumption); (case k_q11 => exact rfl)))))
  trivial
example : True := by
  (k_with "my pick_all" => ((first | exact allNe_nil | (refine' allNe_cons ?a_q12 ?b_q12; (case a_q12 => k_ne); (case b_q12 => k_all)))))
  trivial
example : True := by
  (k_with "my eval Name" => ((k_here; (with_reducible show wpAny _ _ (eval (Expr.Name _ _) (compEnvC _ _ _ _)) _ _ _); k_dflt (first | refine LCgL.ld_own (by with_reducible assumption) (by k_mem) (by with_reducible assumption) (by with_reducible assumption) ?_ | refine LCgL.ld_global (by with_reducible assumption) (by with_reducible assumption) (by with_reducible assumption) (by k_is) ?_ | refine LCgL.ld_built (by with_reducible assumption) (by with_reducible assumption) (by with_reducible assumption) (by k_is) (by boot_by_name) (by decide) ?_))))
  trivial

section
section
variable {prog : Program} {w : World} {A : Around} {E : Value → Shared → Prop} {s : Shared} {env : Env} {h₀ : Heap} {x : Str} {body : List Stmt} {Q : Flow → Shared → Prop}
/-- the turns that are left of a loop over a list that stood before the call -/
noncomputable def RestB (prog : Program) (w : World) (A : Around) (E : Value → Shared → Prop) (h₀ : Heap) (env : Env) (x : Str) (body : List Stmt) (Q : Flow → Shared → Prop) (s : Shared) (I : Addr) : List Value → (Str → Option Value) → List (Addr × Obj) → Prop
  | [], m, news => ∀ h tk, Fr h₀ env.locals h m → News h₀ env.locals h news → Q .next { s with heap := h, toks := tk }
  | v :: r, m, news => ∀ (it : Obj) h tk, it.cls = .type "list_iterator" → Fr h₀ env.locals h (fun y => if y = x then some v else m y) → News h₀ env.locals h ((I, it) :: news) →
      wpAny (model prog w) A (execs body env) (UnrPost h₀ env.locals { s with heap := h, toks := tk } I it (fun m' n' => RestB prog w A E h₀ env x body Q s I r m' n') Q) E { s with heap := h, toks := tk }
theorem RestB.zero {I : Addr} {m : Str → Option Value} {news : List (Addr × Obj)} (h : ∀ h tk, Fr h₀ env.locals h m → News h₀ env.locals h news → Q .next { s with heap := h, toks := tk }) : RestB prog w A E h₀ env x body Q s I [] m news := h
theorem RestB.succ {I : Addr} {v : Value} {r : List Value} {m : Str → Option Value} {news : List (Addr × Obj)}
    (h : ∀ (it : Obj) h tk, it.cls = .type "list_iterator" → Fr h₀ env.locals h (fun y => if y = x then some v else m y) → News h₀ env.locals h ((I, it) :: news) →
      wpAny (model prog w) A (execs body env) (UnrPost h₀ env.locals { s with heap := h, toks := tk } I it (fun m' n' => RestB prog w A E h₀ env x body Q s I r m' n') Q) E { s with heap := h, toks := tk }) :
    RestB prog w A E h₀ env x body Q s I (v :: r) m news := h
theorem unrEnd_head {L I : Addr} {it : Obj} {rest : (Str → Option Value) → List (Addr × Obj) → Prop} {s₁ : Shared} {h' : Heap} {tk : Nat} {m' : Str → Option Value} {p : Addr × Obj} {all : List (Addr × Obj)} (F : Fr h₀ L h' m') (N : News h₀ L h' (p :: all)) (hI : (I, it) ∈ p :: all) (off : p.1 ≠ I)
    (r : rest m' [p]) : UnrEnd h₀ L s₁ I it rest { s₁ with heap := h', toks := tk } :=
  UnrEnd.intro F N [p] (fun q hq => by
    rcases List.mem_cons.mp hq with rfl | hq
    · exact hI
    · rw [List.mem_singleton.mp hq]; exact .head _) (fun q hq => by rw [List.mem_singleton.mp hq]; exact off) r
theorem iter_listB {ax : Addr} {vs : List Value} {m₀ : Str → Option Value} {news : List (Addr × Obj)} (hh : A.handled = none) (F : Fr h₀ env.locals s.heap m₀) (N : News h₀ env.locals s.heap news) (hb : h₀.IsList ax vs.toArray)
    (rest₀ : ∀ I : Addr, (∀ p ∈ news, p.1 < I) → RestB prog w A E h₀ env x body Q s I vs m₀ news) :
    wpAny (model prog w) A (pyIter (.ref ax)) (fun it s₂ => LoopAtV prog w A h₀ env x body Q E it s₂) E s := by
  have hl : s.heap.IsList ax vs.toArray := hb.at fun o e => F.keep _ _ e
  obtain ⟨ob, hob, _⟩ := hb
  have hnL : ax ≠ env.locals := Nat.ne_of_lt (Nat.lt_of_lt_of_le (Heap.lt_size hob) F.above)
  have hlt : ax < s.heap.objs.size := Heap.lt_size (F.keep _ _ hob)
  have hne : ax ≠ s.heap.objs.size := Nat.ne_of_lt hlt
  refine wpAny_pyIter_list hl ?_
  have rest := rest₀ s.heap.objs.size fun p hp => Heap.lt_size (N p hp).1
  have W := Walks.list (prog := prog) (w := w) hh s.heap.objs.size ax hne vs.toArray
  have hnew := next_is_new F
  have hlen : vs.toArray.size = vs.length := by simp
  rw [hlen] at W
  let J : Nat → (Str → Option Value) → List (Addr × Obj) → Prop := fun i m₁ news₁ => RestB prog w A E h₀ env x body Q s s.heap.objs.size (vs.drop i) m₁ news₁
  refine ⟨_, _, _, vs.length, _, _, m₀, news, J, rfl, W, ?_, ?_, ?_, ⟨⟨_, Heap.get?_push_size _ rfl, rfl, rfl⟩, hl.at fun o e => Heap.get?_push_of_some _ e⟩, F.push _, (fun p hp => ⟨Heap.get?_push_of_some _ (N p hp).1, (N p hp).2⟩), (by show RestB _ _ _ _ _ _ _ _ _ _ _ (vs.drop 0) _ _; rw [List.drop_zero]; exact rest), ?_, ?_⟩
  · intro hmm
    rcases List.mem_cons.mp hmm with e | hmm
    · exact absurd F.ns.lt (e ▸ Nat.lt_irrefl _)
    · exact hnL (List.mem_singleton.mp hmm).symm
  · intro b hb
    rw [List.mem_singleton.mp hb]
    exact hnew
  · intro p hp hI
    exact absurd (Heap.lt_size (N p hp).1) ((List.mem_singleton.mp hI) ▸ Nat.lt_irrefl _)
  · rintro i v m₁ news₁ s₁ own ⟨hh', tk', rfl⟩ hin hP hJ hoff hown hget hall hst F₁ N₁
    obtain ⟨it, hit, hic, hid⟩ := hst.1
    have hmemI := hall s.heap.objs.size (List.mem_cons_self ..) hnew _ hit
    have hdrop : vs.drop i = v :: vs.drop (i + 1) := by
      have hlt' : i < vs.length := hin
      have hv : vs[i]? = some v := by simpa using hP
      rw [List.drop_eq_getElem_cons hlt']
      congr 1
      exact Option.some.inj ((List.getElem?_eq_getElem hlt').symm.trans hv)
    have hJ' : RestB prog w A E h₀ env x body Q s s.heap.objs.size (v :: vs.drop (i + 1)) m₁ news₁ := by rw [← hdrop]; exact hJ
    have N₂ : News h₀ env.locals hh' ((s.heap.objs.size, it) :: news₁) := fun p hp => by
      rcases List.mem_cons.mp hp with rfl | hp
      · exact N₁ _ (List.mem_append_left _ hmemI)
      · exact N₁ _ (List.mem_append_right _ hp)
    refine wpAny_mono (hJ' it hh' tk' hic F₁ N₂) (fun f s₂ p => ?_) fun _ _ e => e
    have fin : UnrEnd h₀ env.locals { s with heap := hh', toks := tk' } s.heap.objs.size it (fun m' n' => RestB prog w A E h₀ env x body Q s s.heap.objs.size (vs.drop (i + 1)) m' n') s₂ →
        LoopStepU h₀ env.locals [s.heap.objs.size] own (J (i + 1)) { s with heap := hh', toks := tk' } .next s₂ := by
      rintro ⟨h', tk, m', news', e, F', N', ho, r⟩
      refine ⟨rfl, h', tk, m', news', e, F', fun p hp => ?_, fun p hp hI => ho p hp (List.mem_singleton.mp hI), r⟩
      rcases List.mem_append.mp hp with hp | hp
      · have h2 : hh'.get? p.1 = some p.2 := hget p hp
        rcases List.mem_cons.mp (hown p hp) with h1 | h1
        · have h3 : p = (s.heap.objs.size, it) := by
            rw [h1, hit] at h2
            exact Prod.ext h1 (Option.some.inj h2).symm
          rw [h3]; exact N' _ (List.mem_cons_self ..)
        · have h1' : p.1 = ax := List.mem_singleton.mp h1
          have := (N₁ p (List.mem_append_left _ hp)).2.2
          rw [h1', hob] at this
          cases this
      · exact N' _ (List.mem_cons_of_mem _ hp)
    cases f with
    | ret v => exact .ret p
    | brk => exact .brk p
    | next => exact .next (fin p)
    | cont => exact .cont (fin p)
  · rintro h' tk m' news' F' N' _ hJ
    have hJ' : RestB prog w A E h₀ env x body Q s s.heap.objs.size (vs.drop vs.length) m' news' := hJ
    rw [List.drop_length] at hJ'
    exact hJ' h' tk F' N'
end
example : True := by
  (k_with "my exec For" => ((k_here; (rename Fr _ _ _ _ => lF'); (with_unfolding_all refine' For_invVF lF' ?k1_q146 ?k2_q146 ?_; (case k1_q146 => exact rfl); (case k2_q146 => exact rfl); k_whole))))
  trivial
example : True := by
  (k_with "my pyIter ref" => (((with_reducible show wpAny _ _ (pyIter (Value.ref _)) (fun it s₂ => LoopAtV _ _ _ _ _ _ _ _ _ it s₂) _ _); k_extra "my Iter")))
  trivial
example : True := by
  (k_with "my RestB" => ((with_unfolding_all first | (refine RestB.succ (fun it' h' tk' hit' F' N' => ?_)) | (refine RestB.zero (fun h' tk' F' N' => ?_)))))
  trivial
noncomputable def octZ (bs : List UInt8) : List Int := bs.map fun b => (b.toNat : Int)
theorem octZ_in (bs : List UInt8) : ∀ x ∈ octZ bs, 0 ≤ x ∧ x < 256 := fun x hx => by
  obtain ⟨b, _, rfl⟩ := List.mem_map.mp hx
  have := b.toNat_lt
  omega
theorem octZ_back (bs : List UInt8) : (octZ bs).map (fun n => n.toNat.toUInt8) = bs := by
  unfold octZ
  rw [List.map_map]
  have : ((fun n : Int => n.toNat.toUInt8) ∘ fun b : UInt8 => (b.toNat : Int)) = id := by
    funext b
    show ((b.toNat : Int).toNat).toUInt8 = b
    rw [Int.toNat_natCast]
    exact UInt8.ofNat_toNat
  rw [this, List.map_id]
theorem bytes_octs {prog : Program} {w : World} {A : Around} {E : Value → Shared → Prop} {s : Shared} {h₀ : Heap} {L l : Addr} {m : Str → Option Value} {news : List (Addr × Obj)} {vs : List Value} {n : Nat} {Q : Value → Shared → Prop} (bs : List UInt8) (F : Fr h₀ L s.heap m) (N : News h₀ L s.heap news)
    (hm : (l, W.listOf vs.toArray n) ∈ news) (hI : IntsAre vs (octZ bs)) (hz : vs.length ≤ sizeLine) (hh : A.handled = none) (h : ∀ h' t k, Fr h₀ L h' m → News h₀ L h' news → Q (.bytes bs.toArray t) { s with heap := h', toks := k }) : wpAny (model prog w) A (call (.type "bytes") [.ref l]) Q E s := by
  refine bytes_K F N ⟨_, (N _ hm).1, rfl, _, rfl⟩ hI (octZ_in bs) hz hh fun h' t k F' N' _ => ?_
  rw [octZ_back]
  exact h h' t k F' N'
/-- three octets as ints -/
noncomputable abbrev octs3 (x y z : UInt8) (t u v : Tok) : Array Value := #[.int (x.toNat : Int) t, .int (y.toNat : Int) u, .int (z.toNat : Int) v]
example : True := by
  (k_with "my UnrEnd" => ((k_dflt (refine' unrEnd_head ?a1_q149 ?a2_q149 ?a3_q149 ?a4_q149 ?_; (case a1_q149 => k_asm); (case a2_q149 => k_asm); (case a3_q149 => k_mem); (case a4_q149 => k_ne)); (try dsimp only))))
  trivial
example : True := by
  (k_with "my call type:bytes" => (k_extra "my Bytes"))
  trivial
theorem tape_spec (w : World) (lr r0 r1 r2 r3 r4 : Addr) (k k2 k3 k4 : Nat) (a0 a1 a2 a3 a4 a5 b0 b1 b2 b3 b4 b5 x0 y0 z0 x1 y1 z1 x2 y2 z2 : UInt8) (s0 s1 s2 s3 s4 s5 t0 t1 t2 t3 t4 t5 u0 u1 u2 u3 u4 u5 u6 u7 u8 : Tok) :
    SpecP w 225 [.ref lr] [] 1 (fun h => h.get? lr = some (W.listOf #[.ref r0, .ref r1, .ref r2, .ref r3, .ref r4] k) ∧ h.get? r0 = some (LCg.lst (octs6 a0 a1 a2 a3 a4 a5 s0 s1 s2 s3 s4 s5)) ∧ h.get? r1 = some (LCg.lst (octs6 b0 b1 b2 b3 b4 b5 t0 t1 t2 t3 t4 t5))
      ∧ h.get? r2 = some (W.listOf (octs3 x0 y0 z0 u0 u1 u2) k2) ∧ h.get? r3 = some (W.listOf (octs3 x1 y1 z1 u3 u4 u5) k3) ∧ h.get? r4 = some (W.listOf (octs3 x2 y2 z2 u6 u7 u8) k4))
      (fun r h h' => ∃ t, r = .bytes #[6, a0, a1, a2, a3, a4, a5, 6, b0, b1, b2, b3, b4, b5, 3, x0, y0, z0, 3, x1, y1, z1, 3, x2, y2, z2] t) := by
  unfold SpecP
  k_fill
  intro _ dp un gd outer base s Q E p loose mean mg mb B X T hpre hdp hun hret
  obtain ⟨hp, h0, h1, h2, h3, h4⟩ := hpre
  have hpL : s.heap.IsList lr #[.ref r0, .ref r1, .ref r2, .ref r3, .ref r4] := ⟨_, hp, rfl, _, rfl⟩
  have hL0 : s.heap.IsList r0 (octs6 a0 a1 a2 a3 a4 a5 s0 s1 s2 s3 s4 s5).toArray := ⟨_, h0, rfl, _, rfl⟩
  have hL1 : s.heap.IsList r1 (octs6 b0 b1 b2 b3 b4 b5 t0 t1 t2 t3 t4 t5).toArray := ⟨_, h1, rfl, _, rfl⟩
  have hL2 : s.heap.IsList r2 (octs3 x0 y0 z0 u0 u1 u2) := ⟨_, h2, rfl, _, rfl⟩
  have hL3 : s.heap.IsList r3 (octs3 x1 y1 z1 u3 u4 u5) := ⟨_, h3, rfl, _, rfl⟩
  have hL4 : s.heap.IsList r4 (octs3 x2 y2 z2 u6 u7 u8) := ⟨_, h4, rfl, _, rfl⟩
  walk_at "my_enter"
  k_with "my Iter" => (k_dflt (refine' iter_listB (vs := [.ref r0, .ref r1, .ref r2, .ref r3, .ref r4]) ?a1 ?a2 ?a3 hpL ?_; (case a1 => exact rfl); (case a2 => k_asm); (case a3 => k_asm)); intro i' l1; (try k_lt l1))
  k_with "my Bytes" => (k_dflt (refine' bytes_octs [6, a0, a1, a2, a3, a4, a5, 6, b0, b1, b2, b3, b4, b5, 3, x0, y0, z0, 3, x1, y1, z1, 3, x2, y2, z2] ?F ?N ?m ?i ?z ?h ?_; (case F => k_asm); (case N => k_asm); (case m => k_mem); (case i => repeat' constructor); (case z => exact Nat.le_of_ble_eq_true rfl); (case h => exact rfl)); intro h' t' k' F' N')
  walk_at "my_steps"
  exact hret _ _ _ (Fr.keep (by assumption)) ⟨_, rfl⟩
noncomputable def byt6 (a : Nat → UInt8) : Array UInt8 := #[a 0, a 1, a 2, a 3, a 4, a 5]
noncomputable def byt3 (x : Nat → UInt8) : Array UInt8 := #[x 0, x 1, x 2]
noncomputable def tapeB (a b x y z : Nat → UInt8) : Array UInt8 := #[6, a 0, a 1, a 2, a 3, a 4, a 5, 6, b 0, b 1, b 2, b 3, b 4, b 5, 3, x 0, x 1, x 2, 3, y 0, y 1, y 2, 3, z 0, z 1, z 2]
noncomputable abbrev octsT (x : Nat → UInt8) (t : Nat → Tok) : Array Value := octs3 (x 0) (x 1) (x 2) (t 0) (t 1) (t 2)
theorem tape_specF (w : World) (lr r0 r1 r2 r3 r4 : Addr) (k k2 k3 k4 : Nat) (a b x y z : Nat → UInt8) (s t u v q : Nat → Tok) :
    SpecP w 225 [.ref lr] [] 1 (fun h => h.get? lr = some (W.listOf #[.ref r0, .ref r1, .ref r2, .ref r3, .ref r4] k) ∧ h.get? r0 = some (LCg.lst (octsF a s)) ∧ h.get? r1 = some (LCg.lst (octsF b t))
      ∧ h.get? r2 = some (W.listOf (octsT x u) k2) ∧ h.get? r3 = some (W.listOf (octsT y v) k3) ∧ h.get? r4 = some (W.listOf (octsT z q) k4))
      (fun r h h' => ∃ t, r = .bytes (tapeB a b x y z) t) := tape_spec w lr r0 r1 r2 r3 r4 k k2 k3 k4 (a 0) (a 1) (a 2) (a 3) (a 4) (a 5) (b 0) (b 1) (b 2) (b 3) (b 4) (b 5) (x 0) (x 1) (x 2) (y 0) (y 1) (y 2) (z 0) (z 1) (z 2) _ _ _ _ _ _ _ _ _ _ _ _ _ _ _ _ _ _ _ _ _
end

example : True := by
  k_with_none
  trivial
section
variable {prog : Program} {w : World} {A₀ : Around} {E : Value → Shared → Prop} {s' : Shared} {base g g₀ G : Heap} {outer : List Env} {L a e t : Addr} {m : Str → Option Value} {name : Str} {scope : Scope} {cd : Value} {cl : List (Str × Addr)}
  {vs : List Value} {n : Str} {b₀ : Stmt} {suite : List Stmt} {pos np : Pos} {rest : List ExceptHandler} {Q : Flow → Shared → Prop} {news : List (Addr × Obj)} {KF : Frag}
  {p : Program} {loose : List Str} {mean : ExcName → Option Value} {mg mb : Str → Option Value} {x : Str} {X T' : String}
/-- an exception with its arguments, caught by its class' name in a frame with cells, bound to a name -/
theorem caught_X (R : RaisedS base G (envX name scope L a cd cl :: outer) e (.type X) t vs news s'.heap) (F : Fr g L G m) (K : Below A₀ base outer g) (hsm : G.UpToSlots s'.heap) (XB : KF.In base) (TB : Top p loose mean mg mb base)
    (D : KtsDicts (outer.filterMap (·.frame)) g)
    (ex : nsIn KF mainGlobals x = some none) (hv : bootBuiltins x = some (.type T')) (hn' : x ≠ "__name__")
    (hexc : isSubtype (.type T') (.type "BaseException") = pure true) (hnt : isSubtype (.type ((Manifest.find? T').elim "type" fun y => y.metatype)) (.type "tuple") = pure false) (hsub : isSubtype (.type X) (.type T') = pure true)
    (k : ∀ h' g' oe ot ws nt tk, KtsTurn (outer.filterMap (·.frame)) g g' → Fr g' L h' (fun y => if y = n then some (.ref e) else m y) → News g' L h' ((e, oe) :: (t, ot) :: news) → oe.cls = .type X → oe.data = .fields ws → ws[0]? = some (.ref t) → ot.cls = .type "tuple" → ot.data = .seq vs.toArray nt → Below A₀ base outer g' → KF.In g' → Top p loose mean mg mb g' →
      wpAny (model prog w) ((A₀.deeper (envX name scope L a cd cl)).mark (some (.ref e))) (execs (b₀ :: suite) (envX name scope L a cd cl))
        (fun f s₄ => wpAny (model prog w) (A₀.deeper (envX name scope L a cd cl)) (do bindName (envX name scope L a cd cl) n .none; unbindBehindTheSuite (envX name scope L a cd cl) n pos) (fun _ s₅ => Q f s₅) E s₄)
        (AsSuiteRaised (model prog w) ((A₀.deeper (envX name scope L a cd cl)).mark (some (.ref e))) (envX name scope L a cd cl) n pos (notedBy (model prog w) ((A₀.deeper (envX name scope L a cd cl)).mark (some (.ref e))) (envX name scope L a cd cl) (cameBackBy (model prog w) (A₀.deeper (envX name scope L a cd cl)) (envX name scope L a cd cl) E)))
        { s' with heap := h', toks := tk })
    (hk : scope.kind = .function := by rfl) (hlo : (envX name scope L a cd cl).kindOf n = some .local := by rfl) (hx : (envX name scope L a cd cl).kindOf x = some .globalImplicit := by rfl) (hd : (x == ("__debug__" : Str)) = false := by decide) :
    wpAny (model prog w) (A₀.deeper (envX name scope L a cd cl)) (noteFrame (.ref e) (envX name scope L a cd cl))
      (fun _ s₂ => wpAny (model prog w) (A₀.deeper (envX name scope L a cd cl)) (setFlight (.ref e) none) (fun _ s₃ =>
        wpAny (model prog w) (A₀.deeper (envX name scope L a cd cl)) (handleBy (.ref e) (envX name scope L a cd cl) (.ExceptHandler (some (.Name x np)) (some n) (b₀ :: suite) pos :: rest)) Q E s₃) E s₂) E s' := by
  obtain ⟨⟨B, hB, hBG, hl, hfl, hnew⟩, htup⟩ := R
  have hBG' : ∀ b o, G.get? b = some o → b ∉ (envOf name scope L a cd :: outer).filterMap (·.frame) → B.get? b = some o := hBG
  have hL : B.get? L = none := by
    obtain ⟨_, ⟨L', _, hf, hn', _⟩, _⟩ := hfl.2.2.1
    obtain rfl : L = L' := Option.some.inj hf
    exact hn'
  refine wpAny_looks_onW (Around.frames_deeper K.stack) rfl hfl fun h₄ hheld₄ hsm₄ => ?_
  refine wpAny_landsW hheld₄ fun h₅ hheld hsm₅' => ?_
  have hsm₅ := hsm₄.trans hsm₅'
  obtain ⟨g₅, T₅, F₅, K₅⟩ := kts_ground K F hBG' hheld.1 (hsm.trans hsm₅)
  have X₅ : KF.In g₅ := XB.keeps K₅.stays
  have P₅ : TopRead p loose mg mb g₅ := topRead_of (TB.keeps K₅.stays)
  obtain ⟨ob, hob, hobc⟩ := hheld.there
  refine wpAny_handleBy_builtin_as (X := X) (T := T') (b := true) hexc hnt hsub (nameX_B F₅ X₅ P₅ ex hv hn' ⟨rfl, ⟨ob, hob, hobc⟩, ?_⟩ hk hx hd)
  refine lands_againW hheld fun h₆ hfl₆ hsm₆ => ?_
  obtain ⟨g₆, T₆, F₆, K₆⟩ := kts_ground K F hBG' hfl₆.1 ((hsm.trans hsm₅).trans hsm₆)
  obtain ⟨oe, ws, hoe, hoec, hoed, hoe0⟩ := hfl₆.first
  obtain ⟨ot, nt, hot, hotc, hotd⟩ := (htup.of_slots hsm₅).of_slots hsm₆
  have ne₆ : g₆.get? e = none := T₆.none_ _ (kts_fresh F hBG' hfl₆.2.1 fun o ho m => by
    obtain ⟨_, o', ho', hd⟩ := K.frames.mem m
    rw [ho] at ho'
    cases ho'
    obtain ⟨sl, hs⟩ := ((hsm.trans hsm₅).trans hsm₆) _ _ (F.keep _ _ ho) hd
    rw [hoe] at hs
    cases hs
    exact hd _ hoed)
  have nt₆ : g₆.get? t = none := T₆.none_ _ (kts_fresh F hBG' hnew fun o ho m => by
    obtain ⟨o', es, n', ho', hd⟩ := D _ m
    rw [ho] at ho'
    cases ho'
    obtain ⟨sl, hs⟩ := ((hsm.trans hsm₅).trans hsm₆) _ _ (F.keep _ _ ho) (fun vs q => by rw [hd] at q; cases q)
    rw [hot] at hs
    cases hs
    have z := hd.symm.trans hotd
    cases z)
  have N₆ := News.more F₆ (News.more F₆ News.nil hot (fun es n q => by rw [hotd] at q; cases q) nt₆) hoe (fun es n q => by rw [hoed] at q; cases q) ne₆
  have Nl : News g₆ L h₆ news := fun q hq => ⟨hfl₆.1 _ _ (hl q hq).1, (fun z => by have := (hl q hq).1; rw [z, hL] at this; cases this), T₆.none_ _ (kts_none F.keep (hl q hq).2.1)⟩
  have X₆ : KF.In g₆ := XB.keeps K₆.stays
  have P₆ : Top p loose mean mg mb g₆ := TB.keeps K₆.stays
  refine storeX_L F₆ (news := (e, oe) :: (t, ot) :: news) (fun q hq => ?_) (fun h₇ F₇ N₇ => ?_) hk hlo
  · rcases List.mem_cons.mp hq with rfl | hq
    · exact N₆ _ (.head _)
    · rcases List.mem_cons.mp hq with rfl | hq
      · exact N₆ _ (.tail _ (.head _))
      · exact Nl q hq
  · exact k h₇ g₆ oe ot ws nt _ T₆ F₇ N₇ hoec hoed hoe0 hotc hotd K₆ X₆ P₆
end
section
variable {M : Model} {A : Around} {E : Value → Shared → Prop} {s : Shared} {name : Str} {scope : Scope} {L a : Addr} {cd : Value} {cl : List (Str × Addr)} {h₀ : Heap} {m : Str → Option Value} {news : List (Addr × Obj)}
theorem goes_X {n : Str} {pos : Pos} {Q : Unit → Shared → Prop} (F : Fr h₀ L s.heap m) (N : News h₀ L s.heap news)
    (h : ∀ h' m', Fr h₀ L h' m' → News h₀ L h' news → Q () { s with heap := h', toks := s.toks + 1 })
    (hk : scope.kind = .function := by rfl) (hl : (envX name scope L a cd cl).kindOf n = some .local := by rfl) :
    wpAny M A (do bindName (envX name scope L a cd cl) n .none; unbindBehindTheSuite (envX name scope L a cd cl) n pos) Q E s :=
  wpAny_nameGoes hl F.ns (by show (scope.kind == .class || (scope.kind == .module && L != mainGlobals)) = false; rw [hk]; rfl) fun h' m' hn hs => h h' m' (F.set hn hs) (N.set hs)
end
section
variable {prog : Program} {w : World} {A : Around} {E : Value → Shared → Prop} {s : Shared} {L e t : Addr} {h₀ : Heap} {news : List (Addr × Obj)} {oe : Obj} {ws : Array Value} {expr : Bool} {Q : Value → Shared → Prop}
theorem args_X (N : News h₀ L s.heap news) (hm : (e, oe) ∈ news) (hc : oe.cls = .type "ValueError") (hd : oe.data = .fields ws) (h0 : ws[0]? = some (.ref t)) (hq : Q (.ref t) { s with toks := s.toks + 1 }) : wpAny (model prog w) A (getAttr (.ref e) "args" expr) Q E s :=
  args_attr PySem.F.attr_ValueError (N.get hm) hc hd h0 hq
end

example : True := by
  k_with_none
  trivial
section
/-- a fact that no line is to see -/
noncomputable def Held (P : Prop) : Prop := P
/-- the first call that makes the code of `_law_read`: g is what stands, but for the code table 201, which is empty -/
noncomputable def SpecE (w : World) (f : Addr) (vs : List Value) (kw : List (Str × Value)) (dd : Nat) (Pre : Heap → Prop) (Post : Value → Heap → Heap → Prop) : Prop :=
  PySem.Challenge.rw_qw0035_01 = PySem.Challenge.rw_qw0035_01 →
  ∀ (dp un : Nat) (gd : Option (List Code)) (outer : List Env) (base g : Heap) (s : Shared) (Q E : Value → Shared → Prop) (p : Program) (loose : List Str) (mean : ExcName → Option Value) (mg mb : Str → Option Value),
    Below (aTop dp un gd outer) base outer g → (∀ b o, g.get? b = some o → s.heap.get? b = some o) → g.objs.size ≤ s.heap.objs.size → (hd.heap_1 w.params).In g → Top p loose mean mg mb g → CodeHd g 205 201 →
    s.heap.get? 201 = some (tabObj #[]) → g.get? 201 = none → (hd.heap_1 w.params).In base → Top p loose mean mg mb base → Held (KtsDicts (outer.filterMap (·.frame)) g) → Pre g → dp + dd < recursionLimit → un + 8 * dd < cLine →
    (∀ r h' tk' g', KtsTurn (outer.filterMap (·.frame)) g g' → (∀ b o, g'.get? b = some o → h'.get? b = some o) → Post r g' h' → Q r { s with heap := h', toks := tk' }) →
    wpAny (model PySem.Challenge.rw_qw0035_01.prog w) (aTop dp un gd outer) (call (.ref f) vs kw) Q E s
section
variable {prog : Program} {w : World} {A : Around} {base g : Heap} {ps : Array Value} {outer : List Env} {s : Shared} {K : Frag} {p : Program} {loose : List Str} {mean : ExcName → Option Value} {mg mb : Str → Option Value}
  {R : Result → Shared → Prop} {name qual : Str} {params : Arguments} {body : List Stmt} {scope : Scope} {dV kV doc pm cdv ct oc : Value} {an od : Option Addr} {osl : Array (Option Value)} {f : Addr} {args : Args} {binds : List (Str × Value)}
theorem enterT (hsub : ∀ b o, g.get? b = some o → s.heap.get? b = some o) (hsz : g.objs.size ≤ s.heap.objs.size) (X : K.In g) (T : Top p loose mean mg mb g) (ht : s.heap.get? 201 = some (tabObj ps)) (hg : g.get? 201 = none)
    (ho : K.lookup f = some ⟨oc, od, .func (fnOf name qual params body scope dV kV doc pm an cdv ct), osl⟩) (hcd : codeIn K cdv qual = true) (hroom : A.depth < recursionLimit)
    (hbind : BindsTo s (fnOf name qual params body scope dV kV doc pm an cdv ct) args binds) (hloc : ∀ y ∈ binds, scope.names.lookup y.1 = some .local)
    (h : ∀ L' h₁, Fr g L' h₁ (fun y => binds.reverse.lookup y) → News g L' h₁ [(201, tabObj ps)] → 201 < L' →
      wpAny (model prog w) (A.deeper (envOf qual scope L' f cdv)) (execs body (envOf qual scope L' f cdv))
        (fun fl s' => R (.ok (.ret (match fl with | .ret v => v | _ => .none))) s')
        (fun e s' => wpAny (model prog w) (A.deeper (envOf qual scope L' f cdv)) (leaving (envOf qual scope L' f cdv) e) (fun _ s'' => R (.error e) s'') (fun e' s'' => R (.error e') s'') s')
        { s with heap := h₁, toks := s.toks + binds.length })
    (hco : scope.isCoroutine = false) (hgen : scope.isGenerator = false) (hk : scope.kind = .function)
    (hcell : ∀ x ∈ scope.names, x.2 ≠ .cell) : codeAny (model prog w) A (.call (.ref f) args) R s :=
  codeAny_call_def (fd := fnOf name qual params body scope dV kV doc pm an cdv ct) (body := body) (binds := binds) hroom (X.keeps hsub _ _ ho) rfl (T.nolimit.keeps hsub) (codeRec_of (X.keeps hsub) hcd) rfl hbind hcell hloc
    (fun h₁ hns hk₁ => h _ h₁ ⟨hns, fun b o e => hk₁ b o (hsub b o e), hsz⟩ (fun q hq => by
      rw [List.mem_singleton.mp hq]
      exact ⟨hk₁ _ _ ht, Nat.ne_of_lt (Heap.lt_size ht), hg⟩) (Heap.lt_size ht)) hco hgen hk

theorem enterTC (hsub : ∀ b o, g.get? b = some o → s.heap.get? b = some o) (hsz : g.objs.size ≤ s.heap.objs.size) (X : K.In g) (T : Top p loose mean mg mb g) (ht : s.heap.get? 201 = some (tabObj ps)) (hg : g.get? 201 = none)
    (ho : K.lookup f = some ⟨oc, od, .func (fnOf name qual params body scope dV kV doc pm an cdv ct), osl⟩) (hcd : codeIn K cdv qual = true) (hroom : A.depth < recursionLimit)
    (hbind : BindsTo s (fnOf name qual params body scope dV kV doc pm an cdv ct) args binds) (hkind : (binds.all fun y => scope.names.lookup y.1 == some .local || scope.names.lookup y.1 == some .cell) = true)
    (hnd : ((cellsFrom 0 scope.names []).map (·.1)).Nodup)
    (h : ∀ L' h₁ tk cells, Fr g L' h₁ (bindL (envOfC qual scope L' f cdv).kindOf binds fun _ => none) → News g L' h₁ (cells ++ [(201, tabObj ps)]) →
      CellsAre (bindC (envOfC qual scope L' f cdv).kindOf binds fun _ => none) (cellsFrom (L' + 1) scope.names []) cells → 201 < L' →
      wpAny (model prog w) (A.deeper (envOfC qual scope L' f cdv)) (execs body (envOfC qual scope L' f cdv))
        (fun fl s' => R (.ok (.ret (match fl with | .ret v => v | _ => .none))) s')
        (fun e s' => wpAny (model prog w) (A.deeper (envOfC qual scope L' f cdv)) (leaving (envOfC qual scope L' f cdv) e) (fun _ s'' => R (.error e) s'') (fun e' s'' => R (.error e') s'') s')
        { s with heap := h₁, toks := tk })
    (hco : scope.isCoroutine = false) (hgen : scope.isGenerator = false) (hk : scope.kind = .function) : codeAny (model prog w) A (.call (.ref f) args) R s := by
  refine codeAny_call_function hroom (X.keeps hsub _ _ ho) rfl hco hgen rfl (codeRec_of (X.keeps hsub) hcd) (hbind _ _ _ _ ?_)
  refine wpAny_newFunctionEnv_cells hk (kindsX hkind _) fun env' he s' x => ?_
  subst he
  refine ⟨(T.nolimit.keeps hsub).keeps x.toInCall.keep, codeAny_func ?_⟩
  obtain ⟨h₁, tk, rfl, _⟩ := x.done
  have hk₁ := x.toInCall.keep
  obtain ⟨cells, NC, Y⟩ := Cl.news (h₀ := s.heap) (Nat.le_refl _) fun n c hm => ⟨x.cell n c (lookup_of_mem_nodup (cellsFrom_names scope.names 0 (s.heap.objs.size + 1) [] [] rfl ▸ hnd) hm), x.above n c hm⟩
  refine h s.heap.objs.size h₁ tk cells ⟨x.toInCall.ns, fun b o e => hk₁ b o (hsub b o e), hsz⟩ (fun q hq => ?_) Y (Heap.lt_size ht)
  rcases List.mem_append.mp hq with hq | hq
  · refine ⟨(NC q hq).1, (NC q hq).2.1, ?_⟩
    cases e : g.get? q.1 with
    | none => rfl
    | some o => have := (NC q hq).2.2; rw [hsub _ _ e] at this; cases this
  · rw [List.mem_singleton.mp hq]
    exact ⟨hk₁ _ _ ht, Nat.ne_of_lt (Heap.lt_size ht), hg⟩
end
section
variable {prog : Program} {w : World} {A : Around} {base g : Heap} {news : List (Addr × Obj)} {outer : List Env} {s : Shared} {K : Frag} {p : Program} {loose : List Str} {mean : ExcName → Option Value} {mg mb : Str → Option Value}
  {R : Result → Shared → Prop} {name qual : Str} {params : Arguments} {body : List Stmt} {scope : Scope} {dV kV doc pm cdv ct oc : Value} {an od : Option Addr} {osl : Array (Option Value)} {f : Addr} {args : Args} {binds : List (Str × Value)}
theorem enterN (hsub : ∀ b o, g.get? b = some o → s.heap.get? b = some o) (hsz : g.objs.size ≤ s.heap.objs.size) (X : K.In g) (T : Top p loose mean mg mb g) (hN : ∀ q ∈ news, s.heap.get? q.1 = some q.2 ∧ g.get? q.1 = none)
    (ho : K.lookup f = some ⟨oc, od, .func (fnOf name qual params body scope dV kV doc pm an cdv ct), osl⟩) (hcd : codeIn K cdv qual = true) (hroom : A.depth < recursionLimit)
    (hbind : BindsTo s (fnOf name qual params body scope dV kV doc pm an cdv ct) args binds) (hloc : ∀ y ∈ binds, scope.names.lookup y.1 = some .local)
    (h : ∀ L' h₁, Fr g L' h₁ (fun y => binds.reverse.lookup y) → News g L' h₁ news → (∀ q ∈ news, q.1 < L') →
      wpAny (model prog w) (A.deeper (envOf qual scope L' f cdv)) (execs body (envOf qual scope L' f cdv))
        (fun fl s' => R (.ok (.ret (match fl with | .ret v => v | _ => .none))) s')
        (fun e s' => wpAny (model prog w) (A.deeper (envOf qual scope L' f cdv)) (leaving (envOf qual scope L' f cdv) e) (fun _ s'' => R (.error e) s'') (fun e' s'' => R (.error e') s'') s')
        { s with heap := h₁, toks := s.toks + binds.length })
    (hco : scope.isCoroutine = false) (hgen : scope.isGenerator = false) (hk : scope.kind = .function)
    (hcell : ∀ x ∈ scope.names, x.2 ≠ .cell) : codeAny (model prog w) A (.call (.ref f) args) R s :=
  codeAny_call_def (fd := fnOf name qual params body scope dV kV doc pm an cdv ct) (body := body) (binds := binds) hroom (X.keeps hsub _ _ ho) rfl (T.nolimit.keeps hsub) (codeRec_of (X.keeps hsub) hcd) rfl hbind hcell hloc
    (fun h₁ hns hk₁ => h _ h₁ ⟨hns, fun b o e => hk₁ b o (hsub b o e), hsz⟩ (fun q hq => ⟨hk₁ _ _ (hN q hq).1, Nat.ne_of_lt (Heap.lt_size (hN q hq).1), (hN q hq).2⟩) (fun q hq => Heap.lt_size (hN q hq).1)) hco hgen hk
end
/-- a read of a counted row from the stream x, whose place stands in the list l: st is what the stream is made of -/
noncomputable def ReadsAt (w : World) (fa x l : Addr) (st : List (Addr × Obj)) (B : Array UInt8) : Prop :=
  PySem.Challenge.rw_qw0035_01 = PySem.Challenge.rw_qw0035_01 →
  ∀ (dp un : Nat) (gd : Option (List Code)) (outer : List Env) (base g : Heap) (s : Shared) (Q E : Value → Shared → Prop) (p : Program) (loose : List Str) (mean : ExcName → Option Value) (mg mb : Str → Option Value) (n n' : Nat) (t : Tok) (b : UInt8) (c : Array UInt8),
    Below (aTop dp un gd outer) base outer g → (∀ b o, g.get? b = some o → s.heap.get? b = some o) → g.objs.size ≤ s.heap.objs.size → (hd.heap_1 w.params).In g → Top p loose mean mg mb g →
    (∀ q ∈ (l, W.listOf #[.int (n : Int) t] 0) :: st, s.heap.get? q.1 = some q.2 ∧ g.get? q.1 = none) → dp + 4 < recursionLimit → un + 8 * 4 < cLine →
    n + 1 + c.size ≤ B.size → B.size ≤ 1000 → B.extract n (n + 1) = #[b] → b.toNat = c.size → B.extract (n + 1) (n + 1 + c.size) = c → n' = n + 1 + c.size →
    (∀ h' tk' t' u', (∀ b o, g.get? b = some o → h'.get? b = some o) → (∀ q ∈ (l, W.listOf #[.int (n' : Int) t'] 0) :: st, h'.get? q.1 = some q.2) → Q (.bytes c u') { s with heap := h', toks := tk' }) →
    wpAny (model PySem.Challenge.rw_qw0035_01.prog w) (aTop dp un gd outer) (call (.ref fa) [.ref x] []) Q E s
theorem ReadsAt.say {w : World} {fa : Addr} {h₀ h : Heap} {L : Addr} {p1 p2 p3 p4 p5 p6 p7 : Addr × Obj} {rest : List (Addr × Obj)} (_N : News h₀ L h (p1 :: p2 :: p3 :: p4 :: p5 :: p6 :: p7 :: rest)) {Bs : Array UInt8} {G : Prop} (rb : ReadsAt w fa p3.1 p7.1 [p1, p2, p3, p4, p5, p6] Bs)
    (k : ∀ st, st = [p1, p2, p3, p4, p5, p6] → ReadsAt w fa p3.1 p7.1 st Bs → G) : G := k _ rfl rb
theorem useR {w : World} {fa x l : Addr} {st : List (Addr × Obj)} {Bs : Array UInt8} (S : ReadsAt w fa x l st Bs) (n n' : Nat) (b : UInt8) (c : Array UInt8)
    {dp un : Nat} {gd : Option (List Code)} {outer : List Env} {A₀ : Around} {base h₀ : Heap} {L a : Addr} {cn : Str} {cs : Scope} {ccd : Value} {cl : List (Str × Addr)} {m : Str → Option Value} {news : List (Addr × Obj)} {gl : Obj → List (Addr × Obj)} {t : Tok} {s : Shared} {Q E : Value → Shared → Prop} {p : Program} {loose : List Str} {mean : ExcName → Option Value} {mg mb : Str → Option Value}
    (B : Below A₀ base outer h₀) (F : Fr h₀ L s.heap m) (X : (hd.heap_1 w.params).In h₀) (N : News h₀ L s.heap news) (T : Top p loose mean mg mb h₀) (U : UpdF l (W.listOf #[.int (n : Int) t] 0) news gl) (hk : cs.kind = .function)
    (sub : SubL st news) (hdp : dp + 4 < recursionLimit) (hun : un + 8 * 4 < cLine)
    (h1 : n + 1 + c.size ≤ Bs.size) (h2 : Bs.size ≤ 1000) (h3 : Bs.extract n (n + 1) = #[b]) (h4 : b.toNat = c.size) (h5 : Bs.extract (n + 1) (n + 1 + c.size) = c) (h6 : n' = n + 1 + c.size)
    (h : ∀ h' tk' t' u', Fr h₀ L h' m → News h₀ L h' (gl (W.listOf #[.int (n' : Int) t'] 0)) → Q (.bytes c u') { s with heap := h', toks := tk' }) :
    wpAny (model PySem.Challenge.rw_qw0035_01.prog w) (ktrTop dp un gd cn cs L a ccd cl outer) (call (.ref fa) [.ref x] []) Q E s := by
  obtain ⟨own, rest, rfl, hgl, k1, k2⟩ := U.split
  have hl := N (l, W.listOf #[.int (n : Int) t] 0) (List.mem_append_right _ (.head _))
  have hsub := sub.mem
  have hall : ∀ q ∈ (l, W.listOf #[.int (n : Int) t] 0) :: st, s.heap.get? q.1 = some q.2 ∧ q.1 ≠ L ∧ h₀.get? q.1 = none := fun q hq => by
    rcases List.mem_cons.mp hq with rfl | hq
    · exact hl
    · exact N q (hsub q hq)
  have hin : ∀ b o, h₀.get? b = some o → b ∉ l :: st.map (·.1) := fun b o e hb => by
    rcases List.mem_cons.mp hb with rfl | hb
    · rw [hl.2.2] at e; cases e
    · obtain ⟨q, hq, rfl⟩ := List.mem_map.mp hb
      rw [(N q (hsub q hq)).2.2] at e; cases e
  have hto : ∀ b o, b ∉ l :: st.map (·.1) → s.heap.get? b = some o → (hideAll s.heap (l :: st.map (·.1))).get? b = some o := fun b o hb e => hideAll_get _ e hb
  have hin' : ∀ b o, h₀.get? b = some o → (hideAll s.heap (l :: st.map (·.1))).get? b = some o := fun b o e => hto b o (hin b o e) (F.keep b o e)
  have hL : L ∉ l :: st.map (·.1) := fun hb => by
    rcases List.mem_cons.mp hb with e | hb
    · exact hl.2.1 e.symm
    · obtain ⟨q, hq, e⟩ := List.mem_map.mp hb
      exact (N q (hsub q hq)).2.1 e
  have B₁ : Below (A₀.deeper (envX cn cs L a ccd cl)) base (envX cn cs L a ccd cl :: outer) s.heap := by
    have hnew : base.get? L = none := by
      cases hq : base.get? L with
      | none => rfl
      | some o => exact absurd (Nat.lt_of_lt_of_le (Heap.lt_size (B.stays L o hq)) F.above) (Nat.lt_irrefl _)
    refine ⟨Around.frames_deeper B.stack, fun b o e => F.keep b o (B.stays b o e), ?_⟩
    exact .cons (by show cs.kind ≠ .module; rw [hk]; decide) rfl F.ns hnew (B.frames.of_keeps fun b o e _ => ⟨o, F.keep b o e, rfl⟩)
  have B₂ : Below (aTop dp un gd (envX cn cs L a ccd cl :: outer)) base (envX cn cs L a ccd cl :: outer) (hideAll s.heap (l :: st.map (·.1))) := ⟨rfl, fun b o e => hin' b o (B.stays b o e), funFrames_hideAll B₁.frames fun env he b hb hf => by
    cases he with
    | head => exact hL ((Option.some.inj hf : L = b) ▸ hb)
    | tail _ he =>
      obtain ⟨L₁, o₁, hf₁, ho₁⟩ := funFrames_in B.frames env he
      rw [hf₁] at hf
      have : L₁ = b := Option.some.inj hf
      rw [this] at ho₁
      exact hin _ _ ho₁ hb⟩
  refine S rfl dp un gd (envX cn cs L a ccd cl :: outer) base (hideAll s.heap (l :: st.map (·.1))) s Q E p loose mean mg mb n n' t b c B₂ (fun b o e => of_hideAll _ e) (Nat.le_of_eq (hideAll_size _ _)) (X.keeps hin') (T.keeps hin') (fun q hq => ⟨(hall q hq).1, hideAll_none _ ?_⟩) hdp hun h1 h2 h3 h4 h5 h6 ?_
  · rcases List.mem_cons.mp hq with rfl | hq
    · exact .head _
    · exact .tail _ (List.mem_map_of_mem hq)
  · intro h' tk' t' u' k hn
    have keep : ∀ b o, b ≠ l → s.heap.get? b = some o → h'.get? b = some o := fun b o hb e => by
      by_cases hm : b ∈ st.map (·.1)
      · obtain ⟨q, hq, rfl⟩ := List.mem_map.mp hm
        have e2 := (hall q (.tail _ hq)).1
        rw [e2] at e; cases e
        exact hn q (.tail _ hq)
      · exact k _ _ (hto b o (fun x => (List.mem_cons.mp x).elim hb hm) e)
    refine h h' tk' t' u' ⟨?_, fun b o e => k _ _ (hin' b o e), F.above⟩ ?_
    · obtain ⟨oL, es, ep, eL, r'⟩ := F.ns
      exact ⟨oL, es, ep, k _ _ (hto _ _ hL eL), r'⟩
    · rw [hgl]
      intro q hq
      rcases List.mem_append.mp hq with hq | hq
      · have := N q (List.mem_append_left _ hq); exact ⟨keep _ _ (k1 q hq) this.1, this.2⟩
      · rcases List.mem_cons.mp hq with rfl | hq
        · exact ⟨hn _ (.head _), hl.2⟩
        · have := N q (List.mem_append_right _ (.tail _ hq)); exact ⟨keep _ _ (k2 q hq) this.1, this.2⟩
end

example : True := by
  k_with_none
  trivial
example : True := by
  (k_with "my my_enter" => ((refine wpAny_call ?_; k_dflt (first
      | (refine' enterP ?k3_q1 ?k5_q1 ?k6_q1 ?k7_q1 ?k8_q1 ?k9_q1 ?kB_q1 ?_ ?c2_q1 ?c3_q1 ?c4_q1 ?c5_q1; (case k3_q1 => k_asm); (case k5_q1 => k_asm); (case k6_q1 => k_is); (case k7_q1 => k_is); (case k8_q1 => k_room); (case k9_q1 => first | exact BindsTo.of_eq (binds := [(_, _)]) rfl | exact BindsTo.of_eq (binds := [(_, _), (_, _)]) rfl | exact BindsTo.of_eq rfl | exact binds_K (by k_in) rfl (by k_is) rfl rfl rfl | fail "my_enter: no rule for these arguments"); (case c5_q1 => decide); (case kB_q1 => exact locs rfl); (case c2_q1 => exact rfl); (case c3_q1 => exact rfl); (case c4_q1 => exact rfl); k_whole; intro L' h' F' N'; (try dsimp only); (try k_fold))
      | (refine' enterPC ?k3_q1 ?k5_q1 ?k6_q1 ?k7_q1 ?k8_q1 ?k9_q1 ?kB_q1 ?kD_q1 ?_ ?c2_q1 ?c3_q1 ?c4_q1; (case k3_q1 => k_asm); (case k5_q1 => k_asm); (case k6_q1 => k_is); (case k7_q1 => k_is); (case k8_q1 => k_room); (case k9_q1 => first | exact BindsTo.of_eq (binds := [(_, _)]) rfl | exact BindsTo.of_eq (binds := [(_, _), (_, _)]) rfl | exact BindsTo.of_eq rfl | exact binds_K (by k_in) rfl (by k_is) rfl rfl rfl | fail "my_enter: no rule for these arguments"); (case kB_q1 => exact rfl); (case kD_q1 => decide +kernel); (case c2_q1 => exact rfl); (case c3_q1 => exact rfl); (case c4_q1 => exact rfl); k_whole; intro L' h' tk' cells' F' N' Y'; k_cells Y'; (try simp only [List.cons_append, List.nil_append, List.append_nil] at N'); (try dsimp only); (try k_fold))))))
  trivial
example : True := by
  (k_with "my call type:type" => (((with_reducible show wpAny _ _ (call _ [Value.bytes _ _]) _ _ _); refine call_type_of (Tx := "bytes") rfl (by decide +kernel) ?_)))
  trivial
example : True := by
  (k_with "my my_steps" => (repeat' (first | (k_unfold; (try dsimp only)) | ((fail_if_success (with_reducible show InvEndN _ _ _ _ _ _ _)); first | walk1 | (dsimp only; walk1) | (leave1; try dsimp only)) | fail "no step")))
  trivial
example : True := by
  (k_with "my use_cases" => (((case kB => first | k_asm | fail "use: below"); (case kF => first | k_asm | fail "use: frame"); (case kX => first | k_asm | fail "use: written part"); (case kN => first | k_asm | fail "use: ledger"); (case kT => first | k_asm | fail "use: top"); (case kk => first | exact rfl | assumption | fail "use: kind"); (case kd => first | ktr_room | fail "use: room"); (case ku => first | ktr_units | fail "use: units"))))
  trivial
example : True := by
  (k_with "my my_enterT" => ((refine wpAny_call ?_; k_dflt (first
      | (refine' enterT ?ksub_q5 ?ksz_q5 ?k3_q5 ?k5_q5 ?kt_q5 ?kg_q5 ?k6_q5 ?k7_q5 ?k8_q5 ?k9_q5 ?kB_q5 ?_ ?c2_q5 ?c3_q5 ?c4_q5 ?c5_q5; (case ksub_q5 => assumption); (case ksz_q5 => assumption); (case kt_q5 => assumption); (case kg_q5 => assumption); (case k3_q5 => k_asm); (case k5_q5 => k_asm); (case k6_q5 => k_is); (case k7_q5 => k_is); (case k8_q5 => k_room); (case k9_q5 => first | exact BindsTo.of_eq (binds := [(_, _)]) rfl | exact BindsTo.of_eq (binds := [(_, _), (_, _)]) rfl | exact BindsTo.of_eq rfl | exact binds_K (by k_in) rfl (by k_is) rfl rfl rfl | fail "my_enter: no rule for these arguments"); (case c5_q5 => decide); (case kB_q5 => exact locs rfl); (case c2_q5 => exact rfl); (case c3_q5 => exact rfl); (case c4_q5 => exact rfl); k_whole; intro L' h' F' N' l0; (replace l0 := ltN l0); (try dsimp only); (try k_fold))
      | (refine' enterTC ?ksub_q5 ?ksz_q5 ?k3_q5 ?k5_q5 ?kt_q5 ?kg_q5 ?k6_q5 ?k7_q5 ?k8_q5 ?k9_q5 ?kB_q5 ?kD_q5 ?_ ?c2_q5 ?c3_q5 ?c4_q5; (case ksub_q5 => assumption); (case ksz_q5 => assumption); (case kt_q5 => assumption); (case kg_q5 => assumption); (case k3_q5 => k_asm); (case k5_q5 => k_asm); (case k6_q5 => k_is); (case k7_q5 => k_is); (case k8_q5 => k_room); (case k9_q5 => first | exact BindsTo.of_eq (binds := [(_, _)]) rfl | exact BindsTo.of_eq (binds := [(_, _), (_, _)]) rfl | exact BindsTo.of_eq rfl | exact binds_K (by k_in) rfl (by k_is) rfl rfl rfl | fail "my_enter: no rule for these arguments"); (case kB_q5 => exact rfl); (case kD_q5 => decide +kernel); (case c2_q5 => exact rfl); (case c3_q5 => exact rfl); (case c4_q5 => exact rfl); k_whole; intro L' h' tk' cells' F' N' Y' l0; (replace l0 := ltN l0); k_cells Y'; (try simp only [List.cons_append, List.nil_append, List.append_nil] at N'); (try dsimp only); (try k_fold))))))
  trivial
example : True := by
  (k_with "my execs cons" => (((with_reducible refine wpAny_execs_cons ?_); (try dsimp only); (try k_fold); (try ((rename Fr _ _ _ _ => F9); (refine foldFr F9 ?_); (intro mk9 F8); (clear F9))))))
  trivial
example : True := by
  (k_with "my size_fits" => (exact Nat.le_of_ble_eq_true rfl))
  trivial
example : True := by
  (k_with "my pick_chain" => (((iterate 15 (try (first | with_reducible assumption | apply pickR))); done)))
  trivial
example : True := by
  (k_with "my pick_one" => ((first | with_reducible assumption | (apply pickL; walk_at "pick_chain") | walk_at "pick_chain")))
  trivial
example : True := by
  (k_with "my pick_ne" => ((refine neN ?_; (try dsimp only); (first | with_reducible assumption | (refine Nat.ne_of_lt ?_; (simp only [*]; done)) | (refine Nat.ne_of_gt ?_; (simp only [*]; done)) | (simp only [*, ne_eq, not_false_eq_true]; done) | (refine Ne.symm ?_; (simp only [*, ne_eq, not_false_eq_true]; done)) | (refine ne_up ?_; (simp only [*]; done)) | (refine ne_up' ?_; (simp only [*]; done))))))
  trivial
example : True := by
  (k_with "my pick_lim" => ((first
      | (refine' lim1 ?h_q11 ?k_q11; (case h_q11 => assumption); (case k_q11 => exact rfl))
      | (refine' lim2 ?h_q11 ?k_q11; (case h_q11 => assumption); (case k_q11 => exact rfl))
      | (refine' lim0 ?h_q11; (case h_q11 => assumption))
      | (refine' lim3 ?h_q11 ?k_q11; (case h_q11 => assumption); (case k_q11 => exact rfl)))))
  trivial
example : True := by
  (k_with "my pick_all" => ((first | exact allNe_nil | (refine' allNe_cons ?a_q12 ?b_q12; (case a_q12 => k_ne); (case b_q12 => k_all)))))
  trivial
example : True := by
  (k_with "my eval Name" => ((k_here; (with_reducible show wpAny _ _ (eval (Expr.Name _ _) (compEnvC _ _ _ _)) _ _ _); k_dflt (first | refine LCgL.ld_own (by with_reducible assumption) (by k_mem) (by with_reducible assumption) (by with_reducible assumption) ?_ | refine LCgL.ld_global (by with_reducible assumption) (by with_reducible assumption) (by with_reducible assumption) (by k_is) ?_ | refine LCgL.ld_built (by with_reducible assumption) (by with_reducible assumption) (by with_reducible assumption) (by k_is) (by boot_by_name) (by decide) ?_))))
  trivial

section
example : True := by
  (k_with "my exec FunctionDef" => ((k_here; k_dflt (refine' nestDef_K ?d0_q151 ?k0_q151 ?a0_q151 ?_; (case d0_q151 => exact rfl); (case k0_q151 => exact rfl); (case a0_q151 => exact rfl)); (k_dflt (refine' nest_K (P := 201) ?F_q151 ?N_q151 ?T_q151 ?C_q151 ?cd_q151 ?U_q151 ?t_q151 ?n_q151 ?cl_q151 ?_; (case F_q151 => k_asm); (case N_q151 => k_asm); (case T_q151 => k_asm); (case cd_q151 => exact rfl); (case C_q151 => exact codeHd_of_K (by k_asm) (by kernel_rfl)); (case U_q151 => k_updF); (case t_q151 => kn_triples); (case n_q151 => kn_among); (case cl_q151 => exact rfl); k_whole); intro f' c' oc' vs' t' ct' dc' h' tk' F' N' d1' d2' l1 l2; (try dsimp only at N'); (try k_lt l1); (try k_lt2 l2)))))
  trivial
section
variable {a0 a1 a2 a3 a4 a5 b0 b1 b2 b3 b4 b5 x0 y0 z0 x1 y1 z1 x2 y2 z2 : UInt8} {i j : Int}
theorem cut_26 {bs : Array UInt8} (hb : bs = #[6, a0, a1, a2, a3, a4, a5, 6, b0, b1, b2, b3, b4, b5, 3, x0, y0, z0, 3, x1, y1, z1, 3, x2, y2, z2]) (hi : i = 26) (hj : j = 27) : KBy.picked bs (some i) (some j) = #[] := by
  subst hb hi hj
  rw [KBc.picked_eq]
  rfl
theorem size_26 {bs : Array UInt8} (hb : bs = #[6, a0, a1, a2, a3, a4, a5, 6, b0, b1, b2, b3, b4, b5, 3, x0, y0, z0, 3, x1, y1, z1, 3, x2, y2, z2]) : bs.size ≤ 16777216 := by
  rw [hb]; exact Nat.le_of_ble_eq_true rfl
end
example : True := by
  (k_with "my subscriptTail Name Slice bytes ref" => (((with_reducible rename Fr _ _ _ _ => F'); (with_reducible rename News _ _ _ _ => N'); k_dflt (first
      | (refine' slice_to (s := ⟨_, _, _, _, _⟩) F' N' ?hz_q152 (cut_26 ?hb_q152 ?hi_q152 ?hj_q152) ?_; (case hb_q152 => assumption); (case hi_q152 => exact rfl); (case hj_q152 => exact rfl); (case hz_q152 => exact size_26 (by assumption)))); intro _ _ _ _ _)))
  trivial
example : True := by
  (k_with "my subscriptTail Name Slice bytes ref" => (k_extra "my Cut"))
  trivial
theorem truthy_none {prog : Program} {w : World} {A : Around} {E : Value → Shared → Prop} {s : Shared} {t : Tok} {Q : Bool → Shared → Prop} (h : Q false { s with toks := s.toks + 1 + 1 }) : wpAny (model prog w) A (truthy (.bytes #[] t)) Q E s :=
  KBw.truthy_K (ks := []) rfl (Nat.le_of_ble_eq_true rfl) h
example : True := by
  (k_with "my truthy bytes" => ((with_reducible first | refine truthy_one ?_ | refine truthy_none ?_)))
  trivial
example : True := by
  (k_with "my exec Assign cons ListComp" => ((k_here; k_dflt (refine LCg.Assign_ListComp_U (F₀ := by k_asm) (by rfl) (by with_unfolding_all rfl) (by with_unfolding_all rfl) (by decide) (by rfl) (by decide) (by rfl) (by rfl) (by rfl) ?_))))
  trivial
example : True := by
  (k_with "my CompSrc" => ((k_here; refine Stop.of ?_)))
  trivial
example : True := by
  (k_with "my lcg_off" => ((simp only [LCg.Off3, and_true]; first | assumption | (refine And.intro ⟨by k_ne, by k_ne, by k_ne⟩ ?_; assumption))))
  trivial
example : True := by
  (k_with "my getMethod ref" => ((k_here; k_dflt (refine' kmu_own ?k1_q158 ?k2_q158 ?k3_q158 ?k4_q158 ?k5_q158 ?_; (case k1_q158 => k_asm); (case k2_q158 => k_asm); (case k3_q158 => k_inst); (case k4_q158 => k_is); (case k5_q158 => k_is); k_whole))))
  trivial
theorem cut_end {n : Nat} {b : UInt8} {c : Array UInt8} (h : b.toNat = c.size) : (n : Int) + ((#[b] : Array UInt8).size : Int) + (b.toNat : Int) = ((n + 1 : Nat) : Int) + (c.size : Int) := by
  rw [h]; rfl
theorem cut_eq {b : UInt8} {c : Array UInt8} (h : b.toNat = c.size) : ((c.size : Int) == (b.toNat : Int)) = true := by
  rw [h]; simp
theorem cut_at {n n' : Nat} {b : UInt8} {c : Array UInt8} (h : n' = n + 1 + c.size) : (n : Int) + ((#[b] : Array UInt8).size : Int) + (c.size : Int) = (n' : Int) := by
  rw [h]; rfl
theorem reads_end {g h : Heap} {L l : Addr} {st : List (Addr × Obj)} {a a' : Int} {t : Tok} (N : News g L h ((l, W.listOf #[.int a t] 0) :: st)) (e : a = a') : ∀ q ∈ (l, W.listOf #[.int a' t] 0) :: st, h.get? q.1 = some q.2 := by
  subst e
  exact fun q hq => (N q hq).1
example : True := by
  (k_with "my ite" => (k_extra "my Ite"))
  trivial
example : True := by
  (k_with "my my_enterN" => ((refine wpAny_call ?_; k_dflt (refine' enterN ?ksub_q160 ?ksz_q160 ?k3_q160 ?k5_q160 ?kN_q160 ?k6_q160 ?k7_q160 ?k8_q160 ?k9_q160 ?kB_q160 ?_ ?c2_q160 ?c3_q160 ?c4_q160 ?c5_q160; (case ksub_q160 => assumption); (case ksz_q160 => assumption); (case kN_q160 => assumption); (case k3_q160 => k_asm); (case k5_q160 => k_asm); (case k6_q160 => k_is); (case k7_q160 => k_is); (case k8_q160 => k_room); (case k9_q160 => exact BindsTo.of_eq rfl); (case c5_q160 => decide); (case kB_q160 => exact locs rfl); (case c2_q160 => exact rfl); (case c3_q160 => exact rfl); (case c4_q160 => exact rfl); k_whole; intro L' h' F' N' l0; k_lt l0; (try dsimp only); (try k_fold)))))
  trivial
example : True := by
  (k_with "my exec Try cons cons nil nil" => ((k_here; refine wpAny_Try_except ?_)))
  trivial
example : True := by
  (k_with "my use_rest" => (((case kB => k_asm); (case kF => k_asm); (case kX => k_asm); (case kT => k_asm); (case kk => exact rfl); (case kd => ktr_room); (case ku => ktr_units))))
  trivial
example : True := by
  (k_with "my exec Raise some none" => ((k_here; (with_reducible rename Fr _ _ _ _ => kF); k_dflt (refine' Raise_madeB PySem.F.excCall_ValueError PySem.F.excRaise_ValueError ?hh_q163 ?hx_q163 ?he_q163 ?hp_q163; (case hh_q163 => exact rfl); (case he_q163 => exact rfl); (case hp_q163 => exact rfl); (case' hx_q163 => (refine' nameX_B kF ?k1_q163 ?k2_q163 ?k3_q163 ?k4_q163 ?k5_q163 ⟨rfl, ?_⟩; (case k1_q163 => k_asm); (case k2_q163 => k_asm); (case k3_q163 => k_is); (case k4_q163 => exact PyProof.Rows.Boot.«ValueError»); (case k5_q163 => decide)))))))
  trivial
example : True := by
  (k_with "my leaving ref" => ((k_here; (refine' leave_raiseS ?k1_q164 ?k0_q164 ?k2_q164 ?k3_q164 ?_; (case k0_q164 => exact Heap.MadeExc.of (by assumption)); (case k2_q164 => assumption); (case k1_q164 => assumption); (case k3_q164 => k_asm); k_whole; intro h' t' S' R' U'; (try dsimp only at S' R' U' ⊢)))))
  trivial
example : True := by
  (k_with "my noteFrame ref" => ((refine Stop.of ?_)))
  trivial
example : True := by
  (k_with "my bind" => ((k_here; k_dflt (refine' goes_X ?F_q166 ?N_q166 ?_; (case F_q166 => k_asm); (case N_q166 => k_asm); k_whole; intro h' m' F' N'))))
  trivial
example : True := by
  (k_with "my getAttr ref" => ((k_here; (with_reducible show wpAny _ _ (getAttr _ ("args" : Str) _) _ _ _); k_dflt (refine' args_X ?N_q167 ?m_q167 ?a_q167 ?b_q167 ?c_q167 ?_; (case N_q167 => k_asm); (case m_q167 => k_mem); (case a_q167 => assumption); (case b_q167 => assumption); (case c_q167 => assumption)))))
  trivial
noncomputable def GivenPost (w : World) (a0 a1 a2 a3 a4 a5 b0 b1 b2 b3 b4 b5 x0 y0 z0 x1 y1 z1 x2 y2 z2 : UInt8) (r : Value) (g h : Heap) : Prop :=
  ∃ lt li le t c ot oc, ∃ k : Nat → Nat, ∃ q : Nat → Tok, ∃ vs, r = .ref lt ∧ (h.get? lt = some { cls := .type "tuple", data := .seq #[.ref li, .ref le] (k 1) } ∧ g.get? lt = none) ∧
    (h.get? li = some (W.listOf #[.bytes #[a0, a1, a2, a3, a4, a5] (q 0), .bytes #[b0, b1, b2, b3, b4, b5] (q 1), .bytes #[x0, y0, z0] (q 2), .bytes #[x1, y1, z1] (q 3), .bytes #[x2, y2, z2] (q 4)] (k 2)) ∧ g.get? li = none) ∧
    (h.get? le = some (W.listOf #[.ref t, .int 26 (q 5)] (k 3)) ∧ g.get? le = none) ∧ (h.get? t = some ot ∧ g.get? t = none) ∧ ot.cls = .type "tuple" ∧ ot.data = .seq #[.str (Str.ofString "not enough data in stream to read uint1") (q 6)] (k 4) ∧
    h.get? 201 = some (tabObj #[rawInt 189, rawInt 4, .ref c]) ∧ (h.get? c = some oc ∧ g.get? c = none) ∧ oc.data = .fields vs ∧ vs[1]? = some (.str (Str.ofString "_law_stream.<locals>._law_read") (q 7)) ∧ @Ne Nat c 201
theorem GivenPost.of {w : World} {a0 a1 a2 a3 a4 a5 b0 b1 b2 b3 b4 b5 x0 y0 z0 x1 y1 z1 x2 y2 z2 : UInt8} {r : Value} {g h : Heap} {L lt li le t c : Addr} {ot oc : Obj} {k1 k2 k3 k4 : Nat} {t0 t1 t2 t3 t4 u um tq : Tok} {vs : Array Value} {news : List (Addr × Obj)} {ys : List Value} {a : Int} {ws : List Value} {ps : Array Value} {q : Str} (N : News g L h news)
    (hr : r = .ref lt) (m1 : (lt, ({ cls := .type "tuple", data := .seq #[.ref li, .ref le] k1 } : Obj)) ∈ news) (m2 : (li, W.listOf ys.toArray k2) ∈ news) (hy : ys = [.bytes #[a0, a1, a2, a3, a4, a5] t0, .bytes #[b0, b1, b2, b3, b4, b5] t1, .bytes #[x0, y0, z0] t2, .bytes #[x1, y1, z1] t3, .bytes #[x2, y2, z2] t4])
    (m3 : (le, W.listOf #[.ref t, .int a u] k3) ∈ news) (ha : a = 26) (_hk : k4 = k4) (m4 : (t, ot) ∈ news) (d1 : ot.cls = .type "tuple") (d2 : ot.data = .seq ws.toArray k4) (hw : ws = [.str (Str.ofString "not enough data in stream to read uint1") um])
    (m5 : (201, tabObj ps) ∈ news) (hps : ps = #[rawInt 189, rawInt 4, .ref c]) (m6 : (c, oc) ∈ news) (d3 : oc.data = .fields vs) (d4 : vs[1]? = some (.str q tq)) (hq : q = Str.ofString "_law_stream.<locals>._law_read") (hc : @Ne Nat c 201) : GivenPost w a0 a1 a2 a3 a4 a5 b0 b1 b2 b3 b4 b5 x0 y0 z0 x1 y1 z1 x2 y2 z2 r g h := by
  subst hy ha hw hps hq
  exact ⟨lt, li, le, t, c, ot, oc, fun i => if i = 1 then k1 else if i = 2 then k2 else if i = 3 then k3 else k4, fun i => if i = 0 then t0 else if i = 1 then t1 else if i = 2 then t2 else if i = 3 then t3 else if i = 4 then t4 else if i = 5 then u else if i = 6 then um else tq, vs, hr, ⟨(N _ m1).1, (N _ m1).2.2⟩, ⟨(N _ m2).1, (N _ m2).2.2⟩, ⟨(N _ m3).1, (N _ m3).2.2⟩, ⟨(N _ m4).1, (N _ m4).2.2⟩, d1, d2, (N _ m5).1, ⟨(N _ m6).1, (N _ m6).2.2⟩, d3, d4, hc⟩
example : True := by
  (k_with "my execs cons" => (((with_reducible refine wpAny_execs_cons ?_); (try dsimp only); (try (with_reducible refine genState (s₀ := s) rfl ?_; intro tk9)); (try k_fold); (try ((rename Fr _ _ _ _ => F9); (refine foldFr F9 ?_); (intro mk9 F8); (clear F9))))))
  trivial
theorem given_spec (w : World) (tk : Tok) (a0 a1 a2 a3 a4 a5 b0 b1 b2 b3 b4 b5 x0 y0 z0 x1 y1 z1 x2 y2 z2 : UInt8) :
    SpecE w 230 [.bytes #[6, a0, a1, a2, a3, a4, a5, 6, b0, b1, b2, b3, b4, b5, 3, x0, y0, z0, 3, x1, y1, z1, 3, x2, y2, z2] tk] [] 6 (fun _ => True) (GivenPost w a0 a1 a2 a3 a4 a5 b0 b1 b2 b3 b4 b5 x0 y0 z0 x1 y1 z1 x2 y2 z2) := by
  unfold SpecE
  k_fill
  intro _ dp un gd outer base g s Q E p loose mean mg mb B hsub hsz X T hC ht hg hXB hTB hD hpre hdp hun hret
  obtain ⟨bs, hbs⟩ : ∃ bs : Array UInt8, bs = #[6, a0, a1, a2, a3, a4, a5, 6, b0, b1, b2, b3, b4, b5, 3, x0, y0, z0, 3, x1, y1, z1, 3, x2, y2, z2] := ⟨_, rfl⟩
  rewrite [← hbs]
  walk_at "my_enterT"
  walk_at "my_steps"
  (rename News _ _ _ _ => hN9)
  refine ReadsAt.say (w := w) (fa := 79) (Bs := bs) hN9 ?rb ?_
  case rb =>
    unfold ReadsAt
    intro _ dp un gd outer base g s Q E p loose mean mg mb n n' t b c B hsub hsz X T hN hdp hun h1 h2 h3 h4 h5 h6 hret
    dsimp only at hN
    dsimp only
    walk_at "my_enterN"
    k_with "my Cut" => ((with_reducible rename Fr _ _ _ _ => F'); (with_reducible rename News _ _ _ _ => N'); k_dflt (first
      | (refine' slice_to (s := ⟨_, _, _, _, _⟩) F' N' ?hz (pick_at (n := n) (k := 1) ?hi ?hj ?hn h3) ?_; (case hi => exact rfl); (case hj => exact rfl); (case hn => omega); (case hz => exact Nat.le_trans h2 (Nat.le_of_ble_eq_true rfl)))
      | (refine' slice_to (s := ⟨_, _, _, _, _⟩) F' N' ?hz (pick_at (n := n + 1) (k := c.size) ?hi ?hj h1 h5) ?_; (case hi => exact rfl); (case hj => exact cut_end h4); (case hz => exact Nat.le_trans h2 (Nat.le_of_ble_eq_true rfl)))); intro _ _ _ _ _)
    k_with "my Ite" => (k_dflt (refine ite_pos ?hc ?_; (case hc => exact cut_eq h4)))
    walk_at "my_steps"
    exact hret _ _ _ _ (Fr.keep (by assumption)) (reads_end (by assumption) (cut_at h6))
  intro st hst hR
  unfold Stop
  (k_here; k_dflt (refine LCg.CompSrc.range (by rfl) (by k_asm) (by k_asm) (by assumption) (by first | decide | rfl) (by first | rfl | decide) (by first | size_fits | exact Nat.le_of_ble_eq_true rfl) ?_; intro g'; lcg_lit))
  k_with "call ref" => (k_dflt (first
    | (refine' useR hR 0 7 6 #[a0, a1, a2, a3, a4, a5] ?kB ?kF ?kX ?kN ?kT ?kU ?kk ?ks ?kd ?ku ?e1 ?e2 ?e3 rfl ?e5 rfl ?_; (case e1 => (rw [hbs]; exact Nat.le_of_ble_eq_true rfl)); (case e2 => (rw [hbs]; exact Nat.le_of_ble_eq_true rfl)); (case e3 => (rw [hbs]; exact rfl)); (case e5 => (rw [hbs]; exact rfl)); (case kN => k_asm); (case kU => k_updF); (walk_at "use_rest"); (case ks => (rw [hst]; k_subL)))
    | (refine' useR hR 7 14 6 #[b0, b1, b2, b3, b4, b5] ?kB ?kF ?kX ?kN ?kT ?kU ?kk ?ks ?kd ?ku ?e1 ?e2 ?e3 rfl ?e5 rfl ?_; (case e1 => (rw [hbs]; exact Nat.le_of_ble_eq_true rfl)); (case e2 => (rw [hbs]; exact Nat.le_of_ble_eq_true rfl)); (case e3 => (rw [hbs]; exact rfl)); (case e5 => (rw [hbs]; exact rfl)); (case kN => k_asm); (case kU => k_updF); (walk_at "use_rest"); (case ks => (rw [hst]; k_subL)))
    | (refine' useR hR 14 18 3 #[x0, y0, z0] ?kB ?kF ?kX ?kN ?kT ?kU ?kk ?ks ?kd ?ku ?e1 ?e2 ?e3 rfl ?e5 rfl ?_; (case e1 => (rw [hbs]; exact Nat.le_of_ble_eq_true rfl)); (case e2 => (rw [hbs]; exact Nat.le_of_ble_eq_true rfl)); (case e3 => (rw [hbs]; exact rfl)); (case e5 => (rw [hbs]; exact rfl)); (case kN => k_asm); (case kU => k_updF); (walk_at "use_rest"); (case ks => (rw [hst]; k_subL)))
    | (refine' useR hR 18 22 3 #[x1, y1, z1] ?kB ?kF ?kX ?kN ?kT ?kU ?kk ?ks ?kd ?ku ?e1 ?e2 ?e3 rfl ?e5 rfl ?_; (case e1 => (rw [hbs]; exact Nat.le_of_ble_eq_true rfl)); (case e2 => (rw [hbs]; exact Nat.le_of_ble_eq_true rfl)); (case e3 => (rw [hbs]; exact rfl)); (case e5 => (rw [hbs]; exact rfl)); (case kN => k_asm); (case kU => k_updF); (walk_at "use_rest"); (case ks => (rw [hst]; k_subL)))
    | (refine' useR hR 22 26 3 #[x2, y2, z2] ?kB ?kF ?kX ?kN ?kT ?kU ?kk ?ks ?kd ?ku ?e1 ?e2 ?e3 rfl ?e5 rfl ?_; (case e1 => (rw [hbs]; exact Nat.le_of_ble_eq_true rfl)); (case e2 => (rw [hbs]; exact Nat.le_of_ble_eq_true rfl)); (case e3 => (rw [hbs]; exact rfl)); (case e5 => (rw [hbs]; exact rfl)); (case kN => k_asm); (case kU => k_updF); (walk_at "use_rest"); (case ks => (rw [hst]; k_subL)))); intro h' tk' t' u' F' N'; (try dsimp only at N'); (try k_fold))
  walk_at "my_steps"
  unfold Stop
  refine' caught_X (T' := "ValueError") ?R ?F ?K ?U hXB ?TB hD ?ex PyProof.Rows.Boot.«ValueError» ?hn PySem.F.isExc_ValueError PySem.F.notTuple_ValueError ?hs ?_
  case R => assumption
  case F => assumption
  case K => assumption
  case U => assumption
  case TB => exact hTB
  case hs => rw [isSubtype_type]; kernel_rfl
  case ex => k_is
  case hn => decide
  k_whole
  intro h' g' oe ot ws nt tk' T' F' N' d1 d2 d3 d4 d5 K' X' P'
  walk_at "my_steps"
  exact hret _ _ _ _ (by assumption) (Fr.keep (by assumption)) (GivenPost.of (by assumption) rfl (by k_mem) (by k_mem) rfl (by k_mem) rfl rfl (by k_mem) (by assumption) (by assumption) rfl (by k_mem) rfl (by k_mem) (by assumption) (by assumption) (by first | rfl | kernel_rfl) (by k_ne))
end

example : True := by
  k_with_none
  trivial
section
theorem useE {w : World} {f : Addr} {vs : List Value} {kw : List (Str × Value)} {dd : Nat} {Pre : Heap → Prop} {Post : Value → Heap → Heap → Prop} (S : SpecE w f vs kw dd Pre Post)
    {dp un : Nat} {gd : Option (List Code)} {A₀ : Around} {h₀ : Heap} {L a : Addr} {cn : Str} {cs : Scope} {ccd : Value} {cl : List (Str × Addr)} {m : Str → Option Value} {news : List (Addr × Obj)} {gl : Obj → List (Addr × Obj)} {s : Shared} {Q E : Value → Shared → Prop} {p : Program} {loose : List Str} {mean : ExcName → Option Value} {mg mb : Str → Option Value}
    (B : Below A₀ h₀ [] h₀) (F : Fr h₀ L s.heap m) (X : (hd.heap_1 w.params).In h₀) (N : News h₀ L s.heap news) (T : Top p loose mean mg mb h₀) (C : CodeHd h₀ 205 201) (U : UpdF 201 (tabObj #[]) news gl) (hk : cs.kind = .function)
    (hpre : ∀ g, Pre g) (hdp : dp + dd < recursionLimit) (hun : un + 8 * dd < cLine)
    (h : ∀ r h' tk' g, Fr h₀ L h' m → (∀ ps, h'.get? 201 = some (tabObj ps) → News h₀ L h' (gl (tabObj ps))) → (∀ b, @Ne Nat b 201 → g.get? b = none → s.heap.get? b = none) → Post r g h' → Q r { s with heap := h', toks := tk' }) :
    wpAny (model PySem.Challenge.rw_qw0035_01.prog w) (ktrTop dp un gd cn cs L a ccd cl []) (call (.ref f) vs kw) Q E s := by
  obtain ⟨own, rest, rfl, hgl, k1, k2⟩ := U.split
  have h201 := N (201, tabObj #[]) (List.mem_append_right _ (.head _))
  have hLn : h₀.get? L = none := kts_self F
  have hL1 : L ∉ [201] := fun e => h201.2.1 (List.mem_singleton.mp e).symm
  have hin : ∀ b o, h₀.get? b = some o → b ∉ [201] := fun b o e hb => by
    rw [List.mem_singleton.mp hb, h201.2.2] at e; cases e
  have hto : ∀ b o, b ∉ [201] → s.heap.get? b = some o → (hideAll s.heap [201]).get? b = some o := fun b o hb e => hideAll_get _ e hb
  have hin' : ∀ b o, h₀.get? b = some o → (hideAll s.heap [201]).get? b = some o := fun b o e => hto b o (hin b o e) (F.keep b o e)
  have B₁ : Below (A₀.deeper (envX cn cs L a ccd cl)) h₀ [envX cn cs L a ccd cl] s.heap := by
    refine ⟨Around.frames_deeper B.stack, fun b o e => F.keep b o e, ?_⟩
    exact .cons (by show cs.kind ≠ .module; rw [hk]; decide) rfl F.ns hLn (B.frames.of_keeps fun b o e _ => ⟨o, F.keep b o e, rfl⟩)
  have B₂ : Below (aTop dp un gd [envX cn cs L a ccd cl]) h₀ [envX cn cs L a ccd cl] (hideAll s.heap [201]) := ⟨rfl, fun b o e => hin' b o e, funFrames_hideAll B₁.frames fun env he b hb hf => by
    rw [List.mem_singleton.mp he] at hf
    exact hL1 ((Option.some.inj hf : L = b) ▸ hb)⟩
  obtain ⟨oL, es, ep, eL, hdL, hkL, hfL⟩ := F.ns
  have eLg := hto _ _ hL1 eL
  refine S rfl dp un gd [envX cn cs L a ccd cl] h₀ (hideAll s.heap [201]) s Q E p loose mean mg mb B₂ (fun b o e => of_hideAll _ e) (Nat.le_of_eq (hideAll_size _ _)) (X.keeps hin') (T.keeps hin') (C.keeps hin') h201.1 (hideAll_none _ (.head _)) X T ?_ (hpre _) hdp hun ?_
  · intro b hb
    have : b = L := by simpa using hb
    subst this
    exact ⟨oL, es, ep, eLg, hdL⟩
  · intro r h' tk' g' Tu k po
    obtain ⟨sl, hs⟩ := Tu.up eLg
    have keep : ∀ b o, b ∉ [201] → b ≠ L → s.heap.get? b = some o → h'.get? b = some o := fun b o h1 h2 e => k b o (Tu.other b o (hto b o h1 e) fun hb => h2 (by simpa using hb))
    refine h r h' tk' g' ⟨⟨_, es, ep, k _ _ hs, hdL, hkL, hfL⟩, fun b o e => keep b o (hin b o e) (fun z => by rw [z, hLn] at e; cases e) (F.keep b o e), F.above⟩ (fun ps hps => ?_) (fun b hb hn => ?_) po
    · rw [hgl]
      intro q hq
      rcases List.mem_append.mp hq with hq | hq
      · have := N q (List.mem_append_left _ hq); exact ⟨keep _ _ (fun z => k1 q hq (List.mem_singleton.mp z)) this.2.1 this.1, this.2⟩
      · rcases List.mem_cons.mp hq with rfl | hq
        · exact ⟨hps, h201.2⟩
        · have := N q (List.mem_append_right _ (.tail _ hq)); exact ⟨keep _ _ (fun z => k2 q hq (List.mem_singleton.mp z)) this.2.1 this.1, this.2⟩
    · cases e : s.heap.get? b with
      | none => rfl
      | some o =>
        obtain ⟨sl', hs'⟩ := Tu.up (hto b o (fun z => hb (List.mem_singleton.mp z)) e)
        rw [hs'] at hn; cases hn
end

example : True := by
  k_with_none
  trivial
section
theorem rcAt_bytes {A : Around} {s : Shared} (x : Array UInt8) (t u : Tok) : SeqAt.RcAt A s (.bytes x t) (.bytes x u) true := fun prog w E Q h =>
  richCompare_gives (op := .Eq) (typeIs_bytes s x t) (typeIs_bytes s x u) FB.slot_bytes_eq FB.entry_bytes_eq (FB.args_bytes_eq_2 _ _) (gives_bytes_eq x x t u) (fun e => nomatch e) (by show Q (.bool (x.toList == x.toList)) s; rw [beq_self_eq_true]; exact h)
theorem eqAt_bytes {A : Around} {s : Shared} (x : Array UInt8) (t u : Tok) : SeqAt.EqAt A s (.bytes x t) (.bytes x u) true := fun prog w E Q h => by
  unfold eqBool
  refine wpAny_holding ?_
  refine wpAny_ite_split (fun _ => wpAny_bind (wpAny_rule (wpAny_pure h))) (fun _ => ?_)
  exact wpAny_bind (rcAt_bytes x t u prog w E _ (wpAny_truthy_bool h))
section
variable {prog : Program} {w : World} {A : Around} {E : Value → Shared → Prop} {s : Shared} {h₀ : Heap} {L a b : Addr} {news : List (Addr × Obj)} {Q : Value → Shared → Prop} {x0 x1 x2 x3 x4 : Array UInt8} {t0 t1 t2 t3 t4 u0 u1 u2 u3 u4 : Tok} {n k : Nat}
theorem ne_bytes5 (N : News h₀ L s.heap news) (hu : A.units < cLine) (ha : (a, W.listOf #[.bytes x0 t0, .bytes x1 t1, .bytes x2 t2, .bytes x3 t3, .bytes x4 t4] n) ∈ news) (hb : (b, W.listOf #[.bytes x0 u0, .bytes x1 u1, .bytes x2 u2, .bytes x3 u3, .bytes x4 u4] k) ∈ news)
    (h : Q (.bool false) s) : wpAny (model prog w) A (compareOp .NotEq (.ref a) (.ref b)) Q E s := by
  have e := SeqAt.RcNeAt.lists (A := A) (s := s) (l := a) (b := b) (items := #[.bytes x0 t0, .bytes x1 t1, .bytes x2 t2, .bytes x3 t3, .bytes x4 t4]) (items2 := #[.bytes x0 u0, .bytes x1 u1, .bytes x2 u2, .bytes x3 u3, .bytes x4 u4]) (e := fun _ => true) ⟨_, (N _ ha).1, rfl, _, rfl⟩ ⟨_, (N _ hb).1, rfl, _, rfl⟩ rfl hu (fun j h1 h2 => by
    match j, h1, h2 with
    | 0, _, _ => exact eqAt_bytes _ _ _
    | 1, _, _ => exact eqAt_bytes _ _ _
    | 2, _, _ => exact eqAt_bytes _ _ _
    | 3, _, _ => exact eqAt_bytes _ _ _
    | 4, _, _ => exact eqAt_bytes _ _ _)
  exact e prog w E Q h
noncomputable def msgT : Str := Str.ofString "not enough data in stream to read uint1"
theorem ne_ends {t t' : Addr} {ot ot' : Obj} {um um' u u' : Tok} {k3 k4 k5 k6 : Nat} (N : News h₀ L s.heap news) (hu : A.units + 64 < cLine) (ha : (a, W.listOf #[.ref t, .int 26 u] k3) ∈ news) (hb : (b, W.listOf #[.ref t', .int 26 u'] k5) ∈ news)
    (m : (t, ot) ∈ news) (d1 : ot.cls = .type "tuple") (d2 : ot.data = .seq #[.str msgT um] k4) (m' : (t', ot') ∈ news) (d1' : ot'.cls = .type "tuple") (d2' : ot'.data = .seq #[.str msgT um'] k6)
    (h : Q (.bool false) s) : wpAny (model prog w) A (compareOp .NotEq (.ref a) (.ref b)) Q E s :=
  ne_dataH (reads_list_at (N _ ha).1 rfl rfl (.cons (Reads.tuple (N.get m) d1 d2 (.cons (Reads.str _ _) .nil)) (.cons (Reads.int _ _) .nil))) (reads_list_at (N _ hb).1 rfl rfl (.cons (Reads.tuple (N.get m') d1' d2' (.cons (Reads.str _ _) .nil)) (.cons (Reads.int _ _) .nil)))
    (show SeqAt.shaped (.list [.tuple [.str msgT], .int 26]) = true by decide +kernel) (show SeqAt.shaped (.list [.tuple [.str msgT], .int 26]) = true by decide +kernel) hu (by
      have : PyData.eqv (.list [.tuple [.str msgT], .int 26]) (.list [.tuple [.str msgT], .int 26]) = true := by decide +kernel
      rw [this]; exact h)
end
theorem isi_bytes {prog : Program} {w : World} {A : Around} {E : Value → Shared → Prop} {s : Shared} {x : Array UInt8} {u : Tok} {Q : Value → Shared → Prop} (h : Q (.bool true) s) : wpAny (model prog w) A (call (.builtin "isinstance") [.bytes x u, .type "bytes"]) Q E s :=
  call_isinstance (isinstance_true (Tx := "bytes") F.isi_meta_bytes F.sub_bytes_bytes) ⟨rfl, h⟩
end

example : True := by
  k_with_none
  trivial
example : True := by
  (k_with "my my_enter" => ((refine wpAny_call ?_; k_dflt (first
      | (refine' enterP ?k3_q1 ?k5_q1 ?k6_q1 ?k7_q1 ?k8_q1 ?k9_q1 ?kB_q1 ?_ ?c2_q1 ?c3_q1 ?c4_q1 ?c5_q1; (case k3_q1 => k_asm); (case k5_q1 => k_asm); (case k6_q1 => k_is); (case k7_q1 => k_is); (case k8_q1 => k_room); (case k9_q1 => first | exact BindsTo.of_eq (binds := [(_, _)]) rfl | exact BindsTo.of_eq (binds := [(_, _), (_, _)]) rfl | exact BindsTo.of_eq rfl | exact binds_K (by k_in) rfl (by k_is) rfl rfl rfl | fail "my_enter: no rule for these arguments"); (case c5_q1 => decide); (case kB_q1 => exact locs rfl); (case c2_q1 => exact rfl); (case c3_q1 => exact rfl); (case c4_q1 => exact rfl); k_whole; intro L' h' F' N'; (try dsimp only); (try k_fold))
      | (refine' enterPC ?k3_q1 ?k5_q1 ?k6_q1 ?k7_q1 ?k8_q1 ?k9_q1 ?kB_q1 ?kD_q1 ?_ ?c2_q1 ?c3_q1 ?c4_q1; (case k3_q1 => k_asm); (case k5_q1 => k_asm); (case k6_q1 => k_is); (case k7_q1 => k_is); (case k8_q1 => k_room); (case k9_q1 => first | exact BindsTo.of_eq (binds := [(_, _)]) rfl | exact BindsTo.of_eq (binds := [(_, _), (_, _)]) rfl | exact BindsTo.of_eq rfl | exact binds_K (by k_in) rfl (by k_is) rfl rfl rfl | fail "my_enter: no rule for these arguments"); (case kB_q1 => exact rfl); (case kD_q1 => decide +kernel); (case c2_q1 => exact rfl); (case c3_q1 => exact rfl); (case c4_q1 => exact rfl); k_whole; intro L' h' tk' cells' F' N' Y'; k_cells Y'; (try simp only [List.cons_append, List.nil_append, List.append_nil] at N'); (try dsimp only); (try k_fold))))))
  trivial
example : True := by
  (k_with "my call type:type" => (((with_reducible show wpAny _ _ (call _ [Value.bytes _ _]) _ _ _); refine call_type_of (Tx := "bytes") rfl (by decide +kernel) ?_)))
  trivial
example : True := by
  (k_with "my my_steps" => (repeat' (first | (k_unfold; (try dsimp only)) | ((fail_if_success (with_reducible show InvEndN _ _ _ _ _ _ _)); first | walk1 | (dsimp only; walk1) | (leave1; try dsimp only)) | fail "no step")))
  trivial
example : True := by
  (k_with "my use_cases" => (((case kB => first | k_asm | fail "use: below"); (case kF => first | k_asm | fail "use: frame"); (case kX => first | k_asm | fail "use: written part"); (case kN => first | k_asm | fail "use: ledger"); (case kT => first | k_asm | fail "use: top"); (case kk => first | exact rfl | assumption | fail "use: kind"); (case kd => first | ktr_room | fail "use: room"); (case ku => first | ktr_units | fail "use: units"))))
  trivial
example : True := by
  (k_with "my my_enterT" => ((refine wpAny_call ?_; k_dflt (first
      | (refine' enterT ?ksub_q5 ?ksz_q5 ?k3_q5 ?k5_q5 ?kt_q5 ?kg_q5 ?k6_q5 ?k7_q5 ?k8_q5 ?k9_q5 ?kB_q5 ?_ ?c2_q5 ?c3_q5 ?c4_q5 ?c5_q5; (case ksub_q5 => assumption); (case ksz_q5 => assumption); (case kt_q5 => assumption); (case kg_q5 => assumption); (case k3_q5 => k_asm); (case k5_q5 => k_asm); (case k6_q5 => k_is); (case k7_q5 => k_is); (case k8_q5 => k_room); (case k9_q5 => first | exact BindsTo.of_eq (binds := [(_, _)]) rfl | exact BindsTo.of_eq (binds := [(_, _), (_, _)]) rfl | exact BindsTo.of_eq rfl | exact binds_K (by k_in) rfl (by k_is) rfl rfl rfl | fail "my_enter: no rule for these arguments"); (case c5_q5 => decide); (case kB_q5 => exact locs rfl); (case c2_q5 => exact rfl); (case c3_q5 => exact rfl); (case c4_q5 => exact rfl); k_whole; intro L' h' F' N' l0; (replace l0 := ltN l0); (try dsimp only); (try k_fold))
      | (refine' enterTC ?ksub_q5 ?ksz_q5 ?k3_q5 ?k5_q5 ?kt_q5 ?kg_q5 ?k6_q5 ?k7_q5 ?k8_q5 ?k9_q5 ?kB_q5 ?kD_q5 ?_ ?c2_q5 ?c3_q5 ?c4_q5; (case ksub_q5 => assumption); (case ksz_q5 => assumption); (case kt_q5 => assumption); (case kg_q5 => assumption); (case k3_q5 => k_asm); (case k5_q5 => k_asm); (case k6_q5 => k_is); (case k7_q5 => k_is); (case k8_q5 => k_room); (case k9_q5 => first | exact BindsTo.of_eq (binds := [(_, _)]) rfl | exact BindsTo.of_eq (binds := [(_, _), (_, _)]) rfl | exact BindsTo.of_eq rfl | exact binds_K (by k_in) rfl (by k_is) rfl rfl rfl | fail "my_enter: no rule for these arguments"); (case kB_q5 => exact rfl); (case kD_q5 => decide +kernel); (case c2_q5 => exact rfl); (case c3_q5 => exact rfl); (case c4_q5 => exact rfl); k_whole; intro L' h' tk' cells' F' N' Y' l0; (replace l0 := ltN l0); k_cells Y'; (try simp only [List.cons_append, List.nil_append, List.append_nil] at N'); (try dsimp only); (try k_fold))))))
  trivial
example : True := by
  (k_with "my execs cons" => (((with_reducible refine wpAny_execs_cons ?_); (try dsimp only); (try k_fold); (try ((rename Fr _ _ _ _ => F9); (refine foldFr F9 ?_); (intro mk9 F8); (clear F9))))))
  trivial
example : True := by
  (k_with "my size_fits" => (exact Nat.le_of_ble_eq_true rfl))
  trivial
example : True := by
  (k_with "my pick_chain" => (((iterate 15 (try (first | with_reducible assumption | apply pickR))); done)))
  trivial
example : True := by
  (k_with "my pick_one" => ((first | with_reducible assumption | (apply pickL; walk_at "pick_chain") | walk_at "pick_chain")))
  trivial
example : True := by
  (k_with "my pick_ne" => ((refine neN ?_; (try dsimp only); (first | with_reducible assumption | (refine Nat.ne_of_lt ?_; (simp only [*]; done)) | (refine Nat.ne_of_gt ?_; (simp only [*]; done)) | (simp only [*, ne_eq, not_false_eq_true]; done) | (refine Ne.symm ?_; (simp only [*, ne_eq, not_false_eq_true]; done)) | (refine ne_up ?_; (simp only [*]; done)) | (refine ne_up' ?_; (simp only [*]; done))))))
  trivial
example : True := by
  (k_with "my pick_lim" => ((first
      | (refine' lim1 ?h_q11 ?k_q11; (case h_q11 => assumption); (case k_q11 => exact rfl))
      | (refine' lim2 ?h_q11 ?k_q11; (case h_q11 => assumption); (case k_q11 => exact rfl))
      | (refine' lim0 ?h_q11; (case h_q11 => assumption))
      | (refine' lim3 ?h_q11 ?k_q11; (case h_q11 => assumption); (case k_q11 => exact rfl)))))
  trivial
example : True := by
  (k_with "my pick_all" => ((first | exact allNe_nil | (refine' allNe_cons ?a_q12 ?b_q12; (case a_q12 => k_ne); (case b_q12 => k_all)))))
  trivial
example : True := by
  (k_with "my eval Name" => ((k_here; (with_reducible show wpAny _ _ (eval (Expr.Name _ _) (compEnvC _ _ _ _)) _ _ _); k_dflt (first | refine LCgL.ld_own (by with_reducible assumption) (by k_mem) (by with_reducible assumption) (by with_reducible assumption) ?_ | refine LCgL.ld_global (by with_reducible assumption) (by with_reducible assumption) (by with_reducible assumption) (by k_is) ?_ | refine LCgL.ld_built (by with_reducible assumption) (by with_reducible assumption) (by with_reducible assumption) (by k_is) (by boot_by_name) (by decide) ?_))))
  trivial

section
noncomputable def NeAll (l : Addr) : List (Addr × Obj) → Prop
  | [] => True
  | p :: r => (@Ne Nat p.1 l) ∧ NeAll l r
theorem neAll {l : Addr} : ∀ {news : List (Addr × Obj)}, (∀ q ∈ news, q.1 ≠ l) → NeAll l news
  | [], _ => trivial
  | _ :: _, h => ⟨h _ (.head _), neAll fun q hq => h q (.tail _ hq)⟩
theorem three_octs (w : World) (n : Int) (tk : Tok) (h0 : 0 ≤ n) (h1 : n < 16777216) :
    SpecP w 218 [.int n tk] [] 1 (fun _ => True) (fun r h h' => ∃ l x t, r = .ref l ∧ h'.get? l = some (W.listOf (octsT x t) 0) ∧ h.get? l = none) := by
  have S := three_spec w n tk h0 h1
  unfold SpecP at S ⊢
  intro e dp un gd outer base s Q E p loose mean mg mb B X T hpre hdp hun hret
  refine S e dp un gd outer base s Q E p loose mean mg mb B X T hpre hdp hun fun r h' tk' k ⟨l, t1, t2, t3, hr, hg, hn⟩ => hret r h' tk' k ?_
  have e1 : n.fdiv 65536 = n / 65536 := Int.fdiv_eq_ediv_of_nonneg _ (by decide)
  have e2 : (n.fdiv 256).fmod 256 = n / 256 % 256 := by rw [Int.fdiv_eq_ediv_of_nonneg _ (by decide), Int.fmod_eq_emod_of_nonneg _ (by decide)]
  have e3 : n.fmod 256 = n % 256 := Int.fmod_eq_emod_of_nonneg _ (by decide)
  obtain ⟨x, _, ex⟩ := small_oct (v := .int (n.fdiv 65536) t1) ⟨_, _, rfl, by omega, by omega⟩
  obtain ⟨y, _, ey⟩ := small_oct (v := .int ((n.fdiv 256).fmod 256) t2) ⟨_, _, rfl, by omega, by omega⟩
  obtain ⟨z, _, ez⟩ := small_oct (v := .int (n.fmod 256) t3) ⟨_, _, rfl, by omega, by omega⟩
  rw [ex, ey, ez] at hg
  exact ⟨l, fun i => if i = 0 then x else if i = 1 then y else z, fun i => if i = 0 then _ else if i = 1 then _ else _, hr, hg, hn⟩
theorem ne201 {h : Heap} {l : Addr} {o : Obj} {ps : Array Value} (e : h.get? l = some o) (e2 : h.get? 201 = some (tabObj ps)) (hc : o.cls ≠ .none) : @Ne Nat l 201 := fun q => by
  have q' : l = 201 := q
  rw [q', e2] at e
  cases e
  exact hc rfl
theorem filled_of {h₀ h : Heap} {L c : Addr} {oc : Obj} {vs : Array Value} {tq : Tok} {news : List (Addr × Obj)} (N : News h₀ L h news) (m1 : (201, tabObj #[rawInt 189, rawInt 4, .ref c]) ∈ news) (m2 : (c, oc) ∈ news) (d3 : oc.data = .fields vs) (d4 : vs[1]? = some (.str (Str.ofString "_law_stream.<locals>._law_read") tq)) : Filled h :=
  ⟨c, (N _ m1).1, codeRec_news N m2 d3 d4⟩
theorem ne_cls {h₀ h : Heap} {L : Addr} {news : List (Addr × Obj)} {p : Addr × Obj} {ps : Array Value} (N : News h₀ L h news) (hp : p ∈ news) (h2 : (201, tabObj ps) ∈ news) (hc : p.2.cls ≠ .none) : p.1 ≠ 201 := ne201 (N p hp).1 (N _ h2).1 hc
example : True := by
  (k_with "my upd201" => (first | (refine' UpdF.head ?a_q169; (case a_q169 => exact List.forall_mem_nil _)) | (refine' UpdF.tail ?a_q169 ?b_q169; (case a_q169 => exact ne_cls (by assumption) (by k_mem) (by k_mem) (by intro e; cases e)); (case b_q169 => walk_at "upd201"))))
  trivial
example : True := by
  (k_with "my CompSrc" => ((k_here; k_dflt (first
      | (refine LCg.CompSrc.ledger (by rfl) (by k_asm) (by k_asm) (by k_mem) (by first | size_fits | exact Nat.le_of_ble_eq_true rfl) ?_; intro g'; lcg_lit)
      | (refine LCg.CompSrc.range (by rfl) (by k_asm) (by k_asm) (by assumption) (by first | decide | rfl) (by first | rfl | decide) (by first | size_fits | exact Nat.le_of_ble_eq_true rfl) ?_; intro g'; lcg_lit)))))
  trivial
example : True := by
  (k_with "my lcg_src" => (first | exact Or.inl ⟨_, by assumption, rfl, _, rfl⟩ | exact Or.inr ⟨_, by k_mem, rfl, _, rfl⟩))
  trivial
example : True := by
  (k_with "my lcg_off" => ((simp only [LCg.Off3, and_true]; first | assumption | (refine And.intro ⟨by k_ne, by k_ne, by k_ne⟩ ?_; assumption))))
  trivial
section
variable {prog : Program} {w : World} {A : Around} {E : Value → Shared → Prop} {s : Shared} {h₀ : Heap} {L l : Addr} {m : Str → Option Value} {news : List (Addr × Obj)} {n : Nat} {Q : Value → Shared → Prop}
theorem bytes_six {a : Nat → UInt8} {u : Nat → Tok} (F : Fr h₀ L s.heap m) (N : News h₀ L s.heap news) (hm : (l, LCg.lst (octsF a u)) ∈ news) (hh : A.handled = none)
    (h : ∀ h' t k, Fr h₀ L h' m → News h₀ L h' news → Q (.bytes (byt6 a) t) { s with heap := h', toks := k }) : wpAny (model prog w) A (call (.type "bytes") [.ref l]) Q E s :=
  bytes_octs (n := 6) [a 0, a 1, a 2, a 3, a 4, a 5] F N hm (.cons _ _ (.cons _ _ (.cons _ _ (.cons _ _ (.cons _ _ (.cons _ _ .nil)))))) (Nat.le_of_ble_eq_true rfl) hh h
theorem bytes_three {x : Nat → UInt8} {u : Nat → Tok} (F : Fr h₀ L s.heap m) (N : News h₀ L s.heap news) (hm : (l, W.listOf (octsT x u) n) ∈ news) (hh : A.handled = none)
    (h : ∀ h' t k, Fr h₀ L h' m → News h₀ L h' news → Q (.bytes (byt3 x) t) { s with heap := h', toks := k }) : wpAny (model prog w) A (call (.type "bytes") [.ref l]) Q E s :=
  bytes_octs (n := n) [x 0, x 1, x 2] F N hm (.cons _ _ (.cons _ _ (.cons _ _ .nil))) (Nat.le_of_ble_eq_true rfl) hh h
noncomputable def GivenF (a b x y z : Nat → UInt8) (r : Value) (g h : Heap) : Prop :=
  ∃ lt li le t c ot oc, ∃ k : Nat → Nat, ∃ q : Nat → Tok, ∃ vs, r = .ref lt ∧ (h.get? lt = some { cls := .type "tuple", data := .seq #[.ref li, .ref le] (k 1) } ∧ g.get? lt = none) ∧
    (h.get? li = some (W.listOf #[.bytes (byt6 a) (q 0), .bytes (byt6 b) (q 1), .bytes (byt3 x) (q 2), .bytes (byt3 y) (q 3), .bytes (byt3 z) (q 4)] (k 2)) ∧ g.get? li = none) ∧
    (h.get? le = some (W.listOf #[.ref t, .int 26 (q 5)] (k 3)) ∧ g.get? le = none) ∧ (h.get? t = some ot ∧ g.get? t = none) ∧ ot.cls = .type "tuple" ∧ ot.data = .seq #[.str (Str.ofString "not enough data in stream to read uint1") (q 6)] (k 4) ∧
    h.get? 201 = some (tabObj #[rawInt 189, rawInt 4, .ref c]) ∧ (h.get? c = some oc ∧ g.get? c = none) ∧ oc.data = .fields vs ∧ vs[1]? = some (.str (Str.ofString "_law_stream.<locals>._law_read") (q 7)) ∧ @Ne Nat c 201
theorem given_specF (w : World) (tk : Tok) (a b x y z : Nat → UInt8) : SpecE w 230 [.bytes (tapeB a b x y z) tk] [] 6 (fun _ => True) (GivenF a b x y z) :=
  given_spec w tk (a 0) (a 1) (a 2) (a 3) (a 4) (a 5) (b 0) (b 1) (b 2) (b 3) (b 4) (b 5) (x 0) (x 1) (x 2) (y 0) (y 1) (y 2) (z 0) (z 1) (z 2)
end
example : True := by
  (k_with "my call type:bytes" => ((k_here; k_dflt (first
      | (refine' bytes_six ?F_q173 ?N_q173 ?m_q173 ?h_q173 ?_; (case F_q173 => k_asm); (case N_q173 => k_asm); (case m_q173 => k_mem); (case h_q173 => exact rfl))
      | (refine' bytes_three ?F_q173 ?N_q173 ?m_q173 ?h_q173 ?_; (case F_q173 => k_asm); (case N_q173 => k_asm); (case m_q173 => k_mem); (case h_q173 => exact rfl))); intro h' t' k' F' N')))
  trivial
section
variable {prog : Program} {w : World} {A : Around} {h₀ : Heap} {L : Addr} {m : Str → Option Value} {env : Env}
theorem ledgerT5 {ct elt : Expr} {x : Str} {scope : Scope} {cl : List (Str × Addr)} {Fin : Shared → List Value → List (Addr × Obj) → Prop} {ax : Addr} {its : Array Value} {k : Nat} {news : List (Addr × Obj)} {s₁ : Shared}
    (hh : A.handled = none) (F : Fr h₀ L s₁.heap m) (N : News h₀ L s₁.heap news) (hm : (ax, ({ cls := .type "list", data := .seq its k } : Obj)) ∈ news) (hn : its.size = 5)
    (h : ∀ g, LCt.CompRestT prog w A h₀ L m env ct elt x scope cl { s₁ with heap := g } (LCg.SrcAt h₀ ax its) (fun i v => its[i]? = some v) (Fin { s₁ with heap := g }) 5 0 [] news) :
    LCt.CompSrcT prog w A h₀ L m env ct elt x scope cl Fin (.ref ax) s₁ := LCt.CompSrcT.ledger hh F N hm (by rw [hn]; exact Nat.le_of_ble_eq_true rfl) (fun g => by rw [hn]; exact h g)
end
example : True := by
  (k_with "my eval ListComp Name cons" => ((k_here; k_dflt (refine LCt.ListComp_T (F₀ := by k_asm) (by with_unfolding_all rfl) (by decide) (by rfl) (by decide) (by rfl) ?_))))
  trivial
example : True := by
  (k_with "my CompSrcT" => ((k_here; k_dflt (refine' ledgerT5 ?a_q175 ?F_q175 ?N_q175 ?m_q175 ?n_q175 ?_; (case a_q175 => exact rfl); (case F_q175 => k_asm); (case N_q175 => k_asm); (case m_q175 => k_mem); (case n_q175 => exact rfl); intro g'))))
  trivial
example : True := by
  (k_with "my compareOp NotEq ref ref" => ((k_here; k_dflt (first
      | (refine' ne_bytes5 ?N_q176 ?u_q176 ?a_q176 ?b_q176 ?_; (case N_q176 => k_asm); (case u_q176 => ktr_units); (case a_q176 => k_mem); (case b_q176 => k_mem))
      | (refine' ne_ends ?N_q176 ?u_q176 ?a_q176 ?b_q176 ?m_q176 (by assumption) (by assumption) ?m_q176' ?c_q176' ?d_q176' ?_; (case N_q176 => k_asm); (case u_q176 => ktr_units); (case a_q176 => k_mem); (case b_q176 => k_mem); (case m_q176 => k_mem); (case m_q176' => k_mem); (case c_q176' => exact rfl); (case d_q176' => exact rfl))))))
  trivial
example : True := by
  (k_with "my call builtin:isinstance" => ((with_reducible refine isi_bytes ?_)))
  trivial
example : True := by
  (k_with "my newList cons ref cons" => ((k_here; k_dflt (refine' newList_K ?k1_q178 ?k2_q178 ?_ (Nat.le_of_ble_eq_true rfl); (case k1_q178 => k_asm); (case k2_q178 => k_asm)); intro l' h' F' N' l1; (try k_lt l1))))
  trivial
theorem law_holds : PySem.Challenge.rw_qw0035_01.Holds := by
  refine hd ?_
  k_go0
  all_goals try k_fold
  rename IntsAre _ _ => hI
  rename ¬ _ => hc63
  rename Heap.IsList (ghostOf _ _) _ _ => hscr
  have hsz : (_ : Nat) ≤ 1048576 := Nat.le_trans (Nat.le_of_not_lt (fun h => hc63 (Int.ofNat_lt.mpr h))) (by decide)
  k_with "call ref" => (k_dflt (first
    | (refine' useP (drawn_spec _ _ _ _ hI hsz) ?kB ?kF ?kX ?kN ?kT ?kk ?kp ?kd ?ku ?_; (walk_at "use_cases"); (case kp => exact hscr.at (fun o e => Fr.keep (by assumption) _ _ e)); (intro r9 h9 tk9 F9 N9 P9 K9; obtain ⟨lt, ls, l1, l2, ln, k1, k2, k3, a, b, n0, n1, n2, sa, sb, u0, u1, u2, rfl, g1, f1, g2, f2, g3, f3, g4, f4, g5, f5, ⟨c0, c0'⟩, ⟨c1, c1'⟩, ⟨c2, c2'⟩⟩ := P9; (have o1 := neAll (news_ne (by assumption) f1)); (have o2 := neAll (news_ne (by assumption) f2)); (have o3 := neAll (news_ne (by assumption) f3)); (have o4 := neAll (news_ne (by assumption) f4)); (have o5 := neAll (news_ne (by assumption) f5)); (simp only [NeAll, and_true] at o1 o2 o3 o4 o5); (replace N9 := news_more (by assumption) N9 g5 f5); (replace N9 := news_more (by assumption) N9 g4 f4); (replace N9 := news_more (by assumption) N9 g3 f3); (replace N9 := news_more (by assumption) N9 g2 f2); (replace N9 := news_more (by assumption) N9 g1 f1); (try dsimp only); (try k_fold)))
    | (refine' useP (tape_specF _ _ _ _ _ _ _ _ _ _ _ _ _ _ _ _ _ _ _ _ _) ?kB ?kF ?kX ?kN ?kT ?kk ?kp ?kd ?ku ?_; (walk_at "use_cases"); (case kp => exact ⟨News.get (by k_asm) (by k_mem), News.get (by k_asm) (by k_mem), News.get (by k_asm) (by k_mem), News.get (by k_asm) (by k_mem), News.get (by k_asm) (by k_mem), News.get (by k_asm) (by k_mem)⟩); (intro r9 h9 tk9 F9 N9 P9 K9; obtain ⟨t9, rfl⟩ := P9; (try dsimp only); (try k_fold)))
    | (refine' useE (given_specF _ _ _ _ _ _ _) ?kB ?kF ?kX ?kN ?kT ?kC ?kU ?kk ?kp ?kd ?ku ?_; (case kC => exact codeHd); (case kN => k_asm); (case kU => walk_at "upd201"); (case kB => k_asm); (case kF => k_asm); (case kX => k_asm); (case kT => k_asm); (case kk => exact rfl); (case kd => ktr_room); (case ku => ktr_units); (case kp => exact fun _ => trivial); (intro r9 h9 tk9 g9 F9 M9 Z9 P9; obtain ⟨lt, li, le, lm, c, ot, oc, k, t, vs9, rfl, ⟨p1, q1⟩, ⟨p2, q2⟩, ⟨p3, q3⟩, ⟨p4, q4⟩, d1, d2, p5, ⟨p6, q6⟩, d3, d4, nc⟩ := P9; (have N9 := M9 _ p5); (replace q1 := Z9 _ (ne201 p1 p5 (by intro q; cases q)) q1); (replace q2 := Z9 _ (ne201 p2 p5 (by intro q; cases q)) q2); (replace q3 := Z9 _ (ne201 p3 p5 (by intro q; cases q)) q3); (replace q4 := Z9 _ (ne201 p4 p5 (by rw [d1]; intro q; cases q)) q4); (replace q6 := Z9 _ nc q6); (have o1 := neAll (news_ne (by assumption) q1)); (have o2 := neAll (news_ne (by assumption) q2)); (have o3 := neAll (news_ne (by assumption) q3)); (have o4 := neAll (news_ne (by assumption) q4)); (have o6 := neAll (news_ne (by assumption) q6)); (simp only [NeAll, and_true] at o1 o2 o3 o4 o6); (replace N9 := news_more (by assumption) N9 p6 q6); (replace N9 := news_more (by assumption) N9 p4 q4); (replace N9 := news_more (by assumption) N9 p3 q3); (replace N9 := news_more (by assumption) N9 p2 q2); (replace N9 := news_more (by assumption) N9 p1 q1); (try dsimp only); (try k_fold)))
    | (refine' useP (counts_spec _ _ _ _ _ _ _ _ _ c0 c0' c1 c1' c2 c2') ?kB ?kF ?kX ?kN ?kT ?kk ?kp ?kd ?ku ?_; (walk_at "use_cases"); (case kp => exact News.get (by k_asm) (by k_mem)); (intro r9 h9 tk9 F9 N9 P9 K9; obtain ⟨l9, t91, t92, t93, k9, rfl, hg9, hn9⟩ := P9; (replace N9 := news_more (by assumption) N9 hg9 hn9); (try dsimp only); (try k_fold)))
    | (refine' useP (led_spec _ _ _ _ _ _ _ _ _ _ _ _ _ _ c0 c0' c1 c1' c2 c2') ?kB ?kF ?kX ?kN ?kT ?kk ?kp ?kd ?ku ?_; (walk_at "use_cases"); (case kp => exact ⟨filled_of (by assumption) (by k_mem) (by k_mem) d3 d4, News.get (by k_asm) (by k_mem), News.get (by k_asm) (by k_mem)⟩); (intro r9 h9 tk9 F9 N9 P9 K9; obtain rfl := P9; (try dsimp only); (try k_fold)))
    | (refine' useP (right_spec _ _ _ _ _ _ _ _ _ _ _ _ _ _ _ _ c0 c0' c1 c1' c2 c2') ?kB ?kF ?kX ?kN ?kT ?kk ?kp ?kd ?ku ?_; (walk_at "use_cases"); (case kp => exact ⟨filled_of (by assumption) (by k_mem) (by k_mem) d3 d4, News.get (by k_asm) (by k_mem)⟩); (intro r9 h9 tk9 F9 N9 P9 K9; obtain rfl := P9; (try dsimp only); (try k_fold)))
    | (refine' useP (three_octs _ _ _ ?b0 ?b1) ?kB ?kF ?kX ?kN ?kT ?kk ?kp ?kd ?ku ?_; (case b0 => assumption); (case b1 => assumption); (walk_at "use_cases"); (case kp => trivial); (intro r9 h9 tk9 F9 N9 P9 K9; obtain ⟨l9, x9, t91, rfl, hg9, hn9⟩ := P9; (have o9 := neAll (news_ne (by assumption) hn9)); (simp only [NeAll, and_true] at o9); (replace N9 := news_more (by assumption) N9 hg9 hn9); (try dsimp only); (try k_fold)))))
  walk_at "my_steps"
  exact goodW_bool (by assumption) (by assumption) (fun _ => rfl) (by first | rfl | with_unfolding_all rfl | decide | (simp; done))
end

example : True := by
  k_with_none
  trivial
end
end Mine

theorem PySem.Challenge.cw_qw0035_01_holds : PySem.Challenge.rw_qw0035_01.Holds := by
  exact Mine.law_holds
