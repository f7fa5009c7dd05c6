import PyProof.Rows.All
import Wide.All
import OpenK.AllK
import Wide.FinOn
import KE.KDflt
import PyProof.DictUpdate
import KE.KDictOf
import Wide.WTab
import PyProof.IsiH_list
import PyProof.SetRoads
import PyProof.FactsAll.list_3
import PyProof.NeKinds
import KE.KTurns
import KE.KLcPair
import Lean
import PySem.Challenge.RW_jb0017_01
set_option linter.unusedVariables false
set_option Elab.async false
set_option maxRecDepth 100000
section
open PySem PySem.W PyProof.Rows
set_option Elab.async false
set_option maxRecDepth 100000
set_option maxHeartbeats 8000000
namespace Jb
/-! ## the top's run, its heap as a tree -/
noncomputable def topRunG (ok : Thread → Bool) (st : SharedT → Thread → Option (SharedT × Thread)) : Nat → SharedT → Thread → Option SharedT
  | 0, _, _ => none
  | n + 1, s, t => match through t with
    | true => some s
    | false => match ok t with
      | false => none
      | true => match st s t with
        | some (s', t') => topRunG ok st n s' t'
        | none => none
theorem topRunG_of {tb : String → Option Builtin} {p : Program} {w : World} {n₀ : Nat} {ann : Option Value} : ∀ {n : Nat} {s s' : SharedT} {t : Thread}, topRunG (stepOk n₀ ann) (stepT (denote tb) p w) n s t = some s' → topRun tb p w n₀ ann n s.abs t = some s'.abs
  | 0, _, _, _, h => by cases h
  | n + 1, s, s', t, h => by
    unfold topRunG at h
    unfold topRun
    cases he : through t with
    | true => rw [he] at h; cases h; rfl
    | false =>
      rw [he] at h
      cases hk : stepOk n₀ ann t with
      | false => rw [hk] at h; cases h
      | true =>
        rw [hk] at h
        cases hs : stepT (denote tb) p w s t with
        | none => rw [hs] at h; cases h
        | some r =>
          obtain ⟨s₂, t₂⟩ := r
          rw [hs] at h
          rw [stepT_spec hs]
          exact topRunG_of h
noncomputable def treeFrom : Nat → List Obj → BT → Option BT
  | _, [], t => some t
  | n, o :: r, t => match ((t.ins n o).get n).isSome with
    | true => treeFrom (n + 1) r (t.ins n o)
    | false => none
theorem treeFrom_abs {life : Life} : ∀ {l : List Obj} {n : Nat} {t t' : BT}, treeFrom n l t = some t' → (absHeap t' (n + l.length) life).objs = (absHeap t n life).objs ++ l.toArray
  | [], n, t, t', h => by cases h; simp
  | o :: r, n, t, t', h => by
    unfold treeFrom at h
    cases hk : ((t.ins n o).get n).isSome with
    | false => rw [hk] at h; cases h
    | true =>
      rw [hk] at h
      have e := treeFrom_abs (life := life) h
      rw [absHeap_ins hk] at e
      have e2 : n + (o :: r).length = n + 1 + r.length := by simp; omega
      rw [e2, e]
      show (absHeap t n life).objs.push o ++ r.toArray = _
      rw [Array.push_eq_append, Array.append_assoc]
      congr 1
      simp
theorem toT_abs {s : Shared} {T : BT} (h : treeFrom 0 s.heap.objs.toList .nil = some T) : (SharedT.mk T s.heap.objs.size s.heap.life s.gens s.drawn s.toks s.os).abs = s := by
  have e := treeFrom_abs (life := s.heap.life) h
  obtain ⟨⟨objs, life⟩, gens, drawn, toks, os⟩ := s
  have e1 : (absHeap .nil 0 life).objs = #[] := rfl
  rw [e1, Nat.zero_add, Array.length_toList] at e
  show Shared.mk (absHeap T objs.size life) gens drawn toks os = _
  have e2 : absHeap T objs.size life = ⟨objs, life⟩ := by
    have e3 : (absHeap T objs.size life).objs = objs := by rw [e]; simp
    show Heap.mk _ _ = _
    exact congrArg (Heap.mk · life) e3
  rw [e2]
noncomputable def openT (ok : Nat → Option Value → Thread → Bool) (st : SharedT → Thread → Option (SharedT × Thread)) (N : Nat) (stub : Thread) (chk : Shared → Shared → Bool) (s₀ : Shared) : Option Shared :=
  match s₀.heap.isNs mainGlobals && s₀.gens.size == 0 with
  | true => (treeFrom 0 s₀.heap.objs.toList .nil).bind fun T => (topRunG (ok s₀.heap.objs.size (s₀.heap.nsMap mainGlobals "__annotations__")) st N ⟨T, s₀.heap.objs.size, s₀.heap.life, s₀.gens, s₀.drawn, s₀.toks, s₀.os⟩ stub).bind fun sT =>
      match chk s₀ sT.abs with
      | true => some sT.abs
      | false => none
  | false => none
theorem left_T {p q : Program} {loose : List Str} {Xt : Shared → Bool} {α : Type} {Yf : Shared → α} {Ya : World → α} {N : Nat} {g0 : Bool}
    (h : ∀ w, ((fencedOpening treeTable p w N).bind (openT stepOk (stepT (denote treeTable) p w) N (topStub p) fun s₀ s₁ => staticsOk (importedModules p.main.body) s₀.heap s₁.heap && namesBound p s₁.heap && gensDone s₁ && laidKept s₀.heap s₁.heap)).map (fun s => (openSeen q loose (importedModules p.main.body) Xt g0 s, Yf s)) = some (openGood q loose, Ya w)) :
    LeftO p q loose Xt Yf Ya N g0 := fun w => by
  obtain ⟨s, e, e2⟩ := Option.map_eq_some_iff.mp (h w)
  obtain ⟨s₀, e0, e1⟩ := Option.bind_eq_some_iff.mp e
  refine Option.map_eq_some_iff.mpr ⟨s, ?_, e2⟩
  unfold openEnds
  rw [e0]
  show topFrom treeTable p w N s₀ = some s
  unfold openT at e1
  unfold topFrom
  cases hg : (s₀.heap.isNs mainGlobals && s₀.gens.size == 0) with
  | false => rw [hg] at e1; cases e1
  | true =>
    rw [hg] at e1
    obtain ⟨T, a1, a2⟩ := Option.bind_eq_some_iff.mp e1
    obtain ⟨sT, b1, b2⟩ := Option.bind_eq_some_iff.mp a2
    have b3 := topRunG_of b1
    rw [toT_abs a1] at b3
    rw [b3]
    exact b2
noncomputable abbrev runJ (p : Program) (N : Nat) (tb : String → Option Builtin) (ok : Nat → Option Value → Thread → Bool) (st : SharedT → Thread → Option (SharedT × Thread)) (w : World) : Option Shared :=
  (fencedOpening tb p w N).bind (openT ok st N (topStub p) fun s₀ s₁ => staticsOk (importedModules p.main.body) s₀.heap s₁.heap && namesBound p s₁.heap && gensDone s₁ && laidKept s₀.heap s₁.heap)
theorem left_T2 {p q : Program} {loose : List Str} {Xt : Shared → Bool} {α : Type} {Yf : Shared → α} {Ya : World → α} {N : Nat} {g0 : Bool}
    (h1 : ∀ w, (runJ p N treeTable stepOk (stepT (denote treeTable) p w) w).map (openSeen q loose (importedModules p.main.body) Xt g0) = some (openGood q loose))
    (h2 : ∀ w, (runJ p N treeTable stepOk (stepT (denote treeTable) p w) w).map Yf = some (Ya w)) : LeftO p q loose Xt Yf Ya N g0 :=
  left_T fun w => by
    obtain ⟨s, e, e2⟩ := Option.map_eq_some_iff.mp (h1 w)
    obtain ⟨s', e', e2'⟩ := Option.map_eq_some_iff.mp (h2 w)
    rw [e] at e'; cases e'
    refine Option.map_eq_some_iff.mpr ⟨s, e, ?_⟩
    rw [e2, e2']
/-! ## the run that ends in a tree, and looks into the tree -/
noncomputable def openTT (ok : Nat → Option Value → Thread → Bool) (st : SharedT → Thread → Option (SharedT × Thread)) (N : Nat) (stub : Thread) (chk : Shared → Shared → Bool) (s₀ : Shared) : Option SharedT :=
  match s₀.heap.isNs mainGlobals && s₀.gens.size == 0 with
  | true => (treeFrom 0 s₀.heap.objs.toList .nil).bind fun T => (topRunG (ok s₀.heap.objs.size (s₀.heap.nsMap mainGlobals "__annotations__")) st N ⟨T, s₀.heap.objs.size, s₀.heap.life, s₀.gens, s₀.drawn, s₀.toks, s₀.os⟩ stub).bind fun sT =>
      match chk s₀ sT.abs with
      | true => some sT
      | false => none
  | false => none
theorem openTT_abs {ok : Nat → Option Value → Thread → Bool} {st : SharedT → Thread → Option (SharedT × Thread)} {N : Nat} {stub : Thread} {chk : Shared → Shared → Bool} {s₀ : Shared} :
    openT ok st N stub chk s₀ = (openTT ok st N stub chk s₀).map SharedT.abs := by
  unfold openT openTT
  cases s₀.heap.isNs mainGlobals && s₀.gens.size == 0 with
  | false => rfl
  | true =>
    dsimp only
    rw [Option.map_bind]
    congr 1
    funext T
    rw [Function.comp_apply, Option.map_bind]
    congr 1
    funext sT
    rw [Function.comp_apply]
    cases chk s₀ sT.abs <;> rfl
noncomputable abbrev runT (p : Program) (N : Nat) (tb : String → Option Builtin) (ok : Nat → Option Value → Thread → Bool) (st : SharedT → Thread → Option (SharedT × Thread)) (w : World) : Option SharedT :=
  (fencedOpening tb p w N).bind (openTT ok st N (topStub p) fun s₀ s₁ => staticsOk (importedModules p.main.body) s₀.heap s₁.heap && namesBound p s₁.heap && gensDone s₁ && laidKept s₀.heap s₁.heap)
theorem runT_abs {p : Program} {N : Nat} {tb : String → Option Builtin} {ok : Nat → Option Value → Thread → Bool} {st : SharedT → Thread → Option (SharedT × Thread)} {w : World} : runJ p N tb ok st w = (runT p N tb ok st w).map SharedT.abs := by
  unfold runJ runT
  rw [Option.map_bind]
  congr 1
  funext s₀
  exact openTT_abs
noncomputable def getT (sT : SharedT) (a : Nat) : Option Obj := match (if a < sT.n then some ((sT.tree.get a).getD default) else none : Option Obj) with
  | some ⟨_, _, .freed, _⟩ => none
  | o => o
theorem getT_abs {sT : SharedT} {a : Nat} : sT.abs.heap.get? a = getT sT a := by
  show Heap.get? (absHeap sT.tree sT.n sT.life) a = _
  unfold Heap.get? getT
  rw [absHeap_at]
  rfl
theorem obs_T {p : Program} {N : Nat} {tb : String → Option Builtin} {ok : Nat → Option Value → Thread → Bool} {st : SharedT → Thread → Option (SharedT × Thread)} {w : World} {as ts : List Addr} {v : List (Option Obj) × List (Option Obj)}
    (h : (runT p N tb ok st w).map (fun sT => (as.map (getT sT), ts.map (getT sT))) = some v) : (runJ p N tb ok st w).map (fun s => (as.map s.heap.get?, ts.map s.heap.get?)) = some v := by
  rw [runT_abs, Option.map_map]
  rw [← h]
  congr 1
  funext sT
  show (as.map sT.abs.heap.get?, ts.map sT.abs.heap.get?) = _
  rw [show sT.abs.heap.get? = getT sT from funext fun a => getT_abs]
end Jb

end
section
open PySem PySem.W PyProof.Rows
set_option Elab.async false
set_option maxRecDepth 100000
set_option maxHeartbeats 8000000
namespace Jb
noncomputable def viewJ : Program := view PySem.Challenge.pw_jb0017_01 [0, 2, 4, 5, 7, 8, 9, 10, 11, 12, 13, 14, 15, 16, 17, 18, 19, 20, 21, 22, 23, 24, 25, 27, 28, 29, 30, 31, 32, 33, 34, 35, 36, 37, 38, 39, 40, 41]
abbrev looseJ : List Str := [Str.ofString "ErrorCodes", Str.ofString "ProtocolError", Str.ofString "_tuplegetter", Str.ofString "SIGIL", Str.ofString "HeaderValidationFlags", Str.ofString "_law_blocks"]
abbrev lvJ : List (Str × WData) := [(Str.ofString "SIGIL", WData.int 58)]
abbrev rowJ : RowW := OpenRow.toRowW (OpenLaw.row PySem.Challenge.rw_jb0017_01)
theorem lawJ (h : PySem.Challenge.rw_jb0017_01.row.wellSaid = true → PySem.Challenge.rw_jb0017_01.row.Holds) : PySem.Challenge.rw_jb0017_01.Holds := by
  refine holds_law ?_ h
  rw [PySem.W.Fast.te9446332074065402090]
  unfold PySem.W.Fast.tw9446332074065402090 PySem.W.Fast.tw17960256430627541270 PySem.W.Fast.tw2436336058641802641 PySem.W.Fast.tw12908688711261696721
  repeat' (with_reducible refine look_both ?_ ?_)
  all_goals as_aux_lemma => kernel_rfl
section
local macro_rules
  | `(tactic| o_head $h) => `(tactic| assumption)
theorem frJ (h : PySem.Challenge.rw_jb0017_01.row.Holds) : PySem.Challenge.rw_jb0017_01.row.Holds := by
  k_head
end
noncomputable def asJ : List Addr := [2, 3, 15, 17, 18, 20, 21, 36, 43, 44, 45, 46, 49, 56, 57, 58, 68, 70, 71, 73, 74, 75, 76, 78, 79, 81, 82, 83, 85, 86, 88, 89, 90, 92, 93, 95, 96, 97, 98, 99, 100, 101, 104, 105, 106, 107, 108, 109, 112, 117, 118, 119, 120, 122, 123, 125, 126, 127, 129, 130, 132, 133, 134, 135, 136, 137, 138, 140, 141, 143, 144, 145, 147, 148, 150, 151, 152, 154, 155, 157, 158, 159, 161, 162, 164, 165, 166, 167, 168, 170, 171, 173, 174, 176, 177, 179, 181, 182, 183, 186, 188, 189, 191, 192, 193, 195, 196, 198, 199, 200, 202, 203, 205, 206, 207, 209, 210, 212, 213, 214, 216, 217, 219, 220, 221, 223, 224, 226, 227, 228, 230, 231, 233, 234, 235, 238, 239, 240, 242, 243, 245, 246, 247, 249, 250, 252, 253, 254, 256, 257, 259, 260, 261, 263, 264, 266, 267, 268, 270, 271, 273, 274, 275, 277, 278, 280, 281, 282, 283, 284, 285, 286, 287, 288, 289, 290, 291, 292, 293, 294, 295, 296, 297, 298, 299, 300, 301, 302, 303, 304, 305, 306, 307, 308, 309, 310, 311, 313, 314, 316, 317, 318, 320, 321, 323, 324, 325, 327, 328, 330, 331, 332, 334, 335, 337, 338, 339, 341, 342, 344, 345, 346, 349, 350, 351, 354, 355, 356, 359, 360, 361, 363, 364, 366, 367, 368, 370, 371, 373, 374, 375, 377, 378, 380, 381]
theorem asJ_ok (P : Params) : asJ = (frJ.heap_1 P).map (·.1) := by kernel_rfl
noncomputable abbrev HJ : Hook := kmHook frJ.heap_1 asJ asJ_ok [248, 255]
theorem h1J (w : World) : (runJ PySem.Challenge.rw_jb0017_01.row.prog 6780 treeTable stepOk (stepT (denote treeTable) PySem.Challenge.rw_jb0017_01.row.prog w) w).map (openSeen viewJ looseJ (importedModules PySem.Challenge.rw_jb0017_01.row.prog.main.body) (fun s => xlAt viewJ lvJ s && recOk (RowW.records rowJ) s) true) = some (openGood viewJ looseJ) := by
  rw [PySem.W.Fast.te10156331382660048174, PySem.W.Fast.te6613529449190102663, PySem.W.Fast.te11892475500146522536, PySem.W.Fast.te14364793385576792824, PySem.W.Fast.te4187177175401517315]
  kernel_rfl
theorem h2J (w : World) : (runJ PySem.Challenge.rw_jb0017_01.row.prog 6780 treeTable stepOk (stepT (denote treeTable) PySem.Challenge.rw_jb0017_01.row.prog w) w).map HJ.obs = some (HJ.val w) := by
  refine obs_T ?_
  rw [PySem.W.Fast.te10156331382660048174, PySem.W.Fast.te6613529449190102663, PySem.W.Fast.te11892475500146522536, PySem.W.Fast.te14364793385576792824]
  kernel_rfl
end Jb

end
section
open PySem PySem.W PyProof.Rows
set_option Elab.async false
set_option maxRecDepth 100000
set_option maxHeartbeats 2000000
namespace Jb
theorem leftJ : LeftO PySem.Challenge.rw_jb0017_01.row.prog viewJ looseJ (fun s => xlAt viewJ lvJ s && recOk (RowW.records rowJ) s) HJ.obs HJ.val 6780 := left_T2 h1J h2J
theorem holdJ {d : DefRec} {kwd : List (Str × Expr)} (hdef : defOf viewJ PySem.Challenge.rw_jb0017_01.row.name = some (d, kwd)) (hp : PySem.Challenge.rw_jb0017_01.row.prog.theDef PySem.Challenge.rw_jb0017_01.row.name = some (d.params, d.body, d.scope)) (hk : kwWritten? d.params.kwonlyargs d.params.kw_defaults = some kwd) (k1 : PySem.Challenge.rw_jb0017_01.row.wellSaid = true) (hw : rowJ.promised)
    (call : WalkO viewJ looseJ (XL viewJ lvJ) HJ.says rowJ d kwd fun f vs => PySem.call f vs) : PySem.Challenge.rw_jb0017_01.row.Holds :=
  holds_open (q := viewJ) (loose := looseJ) (Xt := fun s => xlAt viewJ lvJ s && recOk (RowW.records rowJ) s) (XP := XL viewJ lvJ) (Yf := HJ.obs) (Ya := HJ.val) (YP := HJ.says) (N := 6780) leftJ HJ.of HJ.keeps (fun s e => xl_of s (Bool.and_eq_true_iff.mp e).1) XL.keeps hdef hp hk (fun s e => recFacts_of (Bool.and_eq_true_iff.mp e).2) (by rfl) k1 (by decide +kernel) ⟨rfl, rfl, rfl, rfl, rfl, by decide +kernel⟩ hw call
section
local macro_rules | `(tactic| o_law) => `(tactic| refine lawJ fun said => ?_)
local macro_rules | `(tactic| k_head) => `(tactic| refine holdJ (by rfl) (by rfl) (by rfl) (by assumption) ?hw ?hc)
open_top hd for PySem.Challenge.rw_jb0017_01
end
end Jb

end
open PySem PySem.W PyProof.Rows
open Sem (wp)
namespace Jb
local macro_rules | `(tactic| walk_at $s:str) => `(tactic| k_extra $s)
section
open PySem PySem.W PyProof.Rows PySem.Calls
set_option Elab.async false
set_option maxRecDepth 100000
set_option maxHeartbeats 8000000
noncomputable abbrev Pg : Program := PySem.Challenge.pw_jb0017_01
noncomputable abbrev loose : List Str := [Str.ofString "_wall", Str.ofString "__name__", Str.ofString "ErrorCodes", Str.ofString "H2Error", Str.ofString "ProtocolError", Str.ofString "_tuplegetter", Str.ofString "SIGIL", Str.ofString "CONNECTION_HEADERS", Str.ofString "_ALLOWED_PSEUDO_HEADER_FIELDS", Str.ofString "_REQUEST_ONLY_HEADERS", Str.ofString "_RESPONSE_ONLY_HEADERS", Str.ofString "_CONNECT_REQUEST_ONLY_HEADERS", Str.ofString "HeaderValidationFlags", Str.ofString "validate_headers", Str.ofString "_reject_illegal_characters", Str.ofString "_reject_empty_header_names", Str.ofString "_reject_te", Str.ofString "_reject_connection_header", Str.ofString "_assert_header_in_set", Str.ofString "_reject_pseudo_header_fields", Str.ofString "_check_pseudo_header_field_acceptability", Str.ofString "_validate_host_authority_header", Str.ofString "_check_host_authority_header", Str.ofString "_check_path_header", Str.ofString "_law_names", Str.ofString "_law_values", Str.ofString "_law_octets", Str.ofString "_law_blocks", Str.ofString "_law_six", Str.ofString "_law_own", Str.ofString "_law_octet", Str.ofString "_law_put", Str.ofString "_law_turned", Str.ofString "_law_field", Str.ofString "_law_sound", Str.ofString "_law_doubtful", Str.ofString "_law_told", Str.ofString "_law_due", Str.ofString "law"]
/-- the caller's place -/
noncomputable abbrev AZ (dp un : Nat) (gd : Option (List Code)) (outer : List Env) : Around := { handled := none, depth := dp, frames := some outer, guards := gd, units := un }
noncomputable def Ext (h h' : Heap) : Prop := ∀ b o, h.get? b = some o → h'.get? b = some o
theorem Ext.refl (h : Heap) : Ext h h := fun _ _ e => e
theorem Ext.trans {h h' h'' : Heap} (x : Ext h h') (y : Ext h' h'') : Ext h h'' := fun b o e => y b o (x b o e)
theorem Ext.fr {h₀ h h' : Heap} {L : Addr} {m : Str → Option Value} (x : Ext h h') (F : Fr h₀ L h m) : Fr h₀ L h' m :=
  ⟨F.ns.keeps x, fun b o e => x b o (F.keep b o e), F.above⟩
theorem Ext.news {h₀ h h' : Heap} {L : Addr} {news : List (Addr × Obj)} (x : Ext h h') (N : News h₀ L h news) : News h₀ L h' news :=
  fun p hp => ⟨x _ _ (N p hp).1, (N p hp).2⟩
theorem ext_of_fr {h₀ h : Heap} {L : Addr} {m : Str → Option Value} (F : Fr h₀ L h m) : Ext h₀ h := F.keep
/-- the ground: the text's own objects and its top stand in b0, b0 stands in h; the frames beneath -/
structure Gd (w : World) (mean : ExcName → Option Value) (mg mb : Str → Option Value) (b0 : Heap) (outer : List Env) (h : Heap) : Prop where
  X0 : (frJ.heap_1 w.params).In b0
  T0 : Top topProg loose mean mg mb b0
  S : Ext b0 h
  F : h.FunFrames {} outer
section
variable {w : World} {mean : ExcName → Option Value} {mg mb : Str → Option Value} {b0 h h' : Heap} {outer : List Env}
theorem Gd.X (G : Gd w mean mg mb b0 outer h) : (frJ.heap_1 w.params).In h := G.X0.keeps G.S
theorem Gd.T (G : Gd w mean mg mb b0 outer h) : Top topProg loose mean mg mb h := G.T0.keeps G.S
theorem Gd.ext (G : Gd w mean mg mb b0 outer h) (x : Ext h h') : Gd w mean mg mb b0 outer h' :=
  ⟨G.X0, G.T0, G.S.trans x, G.F.of_keeps fun b o e _ => ⟨o, x b o e, rfl⟩⟩
theorem stays_empty (h : Heap) : ({} : Heap).StaysIn h := fun b o e => by
  simp [Heap.get?] at e
theorem Gd.below (G : Gd w mean mg mb b0 outer h) (dp un : Nat) (gd : Option (List Code)) : Below (AZ dp un gd outer) {} outer h := ⟨rfl, stays_empty h, G.F⟩
theorem Gd.here {h₀ : Heap} {L f : Addr} {m : Str → Option Value} {name : Str} {scope : Scope} {cd : Value} (G : Gd w mean mg mb b0 outer h₀) (F : Fr h₀ L h m) (hk : scope.kind = .function) :
    Gd w mean mg mb b0 (envOf name scope L f cd :: outer) h :=
  ⟨G.X0, G.T0, G.S.trans F.keep, (Below.push (name := name) (a := f) (cd := cd) (scope := scope) (G.below 0 0 none) F hk).frames⟩
end
section
variable {w : World} {A : Around} {s : Shared} {R : Result → Shared → Prop} {name qual : Str} {params : Arguments} {body : List Stmt} {scope : Scope} {dV kV doc pm cdv ct oc : Value} {an od : Option Addr} {osl : Array (Option Value)} {f : Addr} {args : Args} {binds : List (Str × Value)}
theorem enter {K : Frag} (X : K.In s.heap) (hlim : s.heap.NoLimit)
    (ho : K.lookup f = some ⟨oc, od, .func (fnOf name qual params body scope dV kV doc pm an cdv ct), osl⟩) (hcd : codeIn K cdv qual = true) (hroom : A.depth < recursionLimit)
    (hbind : bindArgs (fnOf name qual params body scope dV kV doc pm an cdv ct) args = pure binds) (hloc : ∀ y ∈ binds, scope.names.lookup y.1 = some .local)
    (h : ∀ L' h₁, Fr s.heap L' h₁ (fun y => binds.reverse.lookup y) → News s.heap L' h₁ [] →
      wpAny (model Pg w) (A.deeper (envOf qual scope L' f cdv)) (execs body (envOf qual scope L' f cdv))
        (fun fl s' => R (.ok (.ret (match fl with | .ret v => v | _ => .none))) s')
        (fun e s' => wpAny (model Pg w) (A.deeper (envOf qual scope L' f cdv)) (leaving (envOf qual scope L' f cdv) e) (fun _ s'' => R (.error e) s'') (fun e' s'' => R (.error e') s'') s')
        { s with heap := h₁, toks := s.toks + binds.length })
    (hcell : ∀ x ∈ scope.names, x.2 ≠ .cell) (hco : scope.isCoroutine = false) (hgen : scope.isGenerator = false) (hk : scope.kind = .function) :
    codeAny (model Pg w) A (.call (.ref f) args) R s := by
  refine codeAny_call_def (fd := fnOf name qual params body scope dV kV doc pm an cdv ct) (body := body) (binds := binds) hroom (X _ _ ho) rfl hlim (codeRec_of X hcd) rfl (BindsTo.of_eq hbind) hcell hloc (fun h₁ hns hk₁ => ?_) hco hgen hk
  exact h _ h₁ ⟨hns, hk₁, Nat.le_refl _⟩ News.nil
end

end
section
open PySem PySem.W PyProof.Rows PySem.Calls PySem.W.X
set_option Elab.async false
set_option maxRecDepth 100000
set_option maxHeartbeats 4000000
/-! ## SegX in wrap form -/
section
variable {w : World} {A : Around} {c : Code} {fs : List Frame} {s : Shared} {P : End → Shared → Prop} {α β : Type} {env : Env}
  {K : Flow → Sem Fin} {H : Value → Sem Fin} {gd : Bool → Bool} {lv : List Value → List Value}
theorem sx_wrap {m : Sem α} {K : α → Sem Fin} {H : Value → Sem Fin} {gd lv}
    (h : wpAny (model Pg w) (A.over c fs) m (fun a s' => SegX (model Pg w) A c (K a) fs s' P) (fun x s' => SegX (model Pg w) A c (H x) fs s' P) s) :
    SegX (model Pg w) A c (m.wrap K H gd lv) fs s P := by
  rintro Γ p rfl hΓ
  obtain ⟨e, s', hr, hq⟩ := runs_wrap_of_wp (Φ := fun e s' => e.quiet = true ∧ P e s') K H gd lv m (h (Γ.over fs) p (hΓ.over fs)) (fun a p' s' h' => h' Γ p' rfl hΓ) (fun x p' s' h' => h' Γ p' rfl hΓ)
  exact ⟨e, s', hr, hq⟩
theorem sx_bind_wrap {m : Sem α} {k : α → Sem β} {K : β → Sem Fin} {H : Value → Sem Fin} {gd lv}
    (h : wpAny (model Pg w) (A.over c fs) m (fun a s' => SegX (model Pg w) A c ((k a).wrap K H gd lv) fs s' P) (fun x s' => SegX (model Pg w) A c (H x) fs s' P) s) :
    SegX (model Pg w) A c ((m >>= k).wrap K H gd lv) fs s P := by
  rw [Sem.bind_eq_wrap', Sem.wrap_wrap]; exact sx_wrap h
theorem sx_bind {m : Sem α} {k : α → Sem Fin}
    (h : wpAny (model Pg w) (A.over c fs) m (fun a s' => SegX (model Pg w) A c (k a) fs s' P) (fun x s' => SegX (model Pg w) A c (.raise x) fs s' P) s) :
    SegX (model Pg w) A c (m >>= k) fs s P := by
  rw [Sem.bind_eq_wrap']; exact sx_wrap h
theorem sx_at {p' : Pos} {k : Unit → Sem Fin} (h : SegX (model Pg w) A c (k ()) fs s P) : SegX (model Pg w) A c (.at p' k) fs s P :=
  sx_wrap (m := standAt p') (K := k) (H := .raise) (gd := id) (lv := id) (wpAny_standAt h)
theorem sx_point {l : List Value} {k : Unit → Sem Fin} (h : SegX (model Pg w) A c (k ()) fs s P) : SegX (model Pg w) A c (.point l k) fs s P :=
  sx_wrap (m := point) (K := k) (H := .raise) (gd := id) (lv := fun _ => l) (wpAny_point h)
theorem execs_append_wrap : ∀ (B rest : List Stmt), (execs (B ++ rest) env).wrap K H gd lv =
    (execs B env).wrap (fun f => match f with | .next => (execs rest env).wrap K H gd lv | f => K f) H gd lv
  | [], _ => rfl
  | st :: B, rest => by
    rw [List.cons_append, execs_cons_wrap, execs_cons_wrap]
    refine Sem.wrap_congr _ _ _ (fun f => ?_) fun _ => rfl
    cases f with
    | next => exact execs_append_wrap B rest
    | _ => rfl
theorem sx_For {target iter : Expr} {body orelse : List Stmt} {pos : Pos}
    (h : wpAny (model Pg w) (A.over c fs) (eval iter env) (fun x s₁ => wpAny (model Pg w) (A.over c fs) (pyIter x) (fun it s₂ =>
        ∀ p, SegX (model Pg w) A (.forLoop target it body orelse env) (denote table (.forLoop target it body orelse env))
          (.ret (fun r => ((match r with | .ok f => (.pure f : Sem Flow) | .error e => .raise e).onRaise fun (x : Value) => do
            if (← field x 1) == Value.none then unsupported "frame.own-activation:exception-without-traceback"
            setFlight x env.frame).wrap K H gd lv) none (gd false) (lv []) c p [] :: fs) s₂ P)
        (fun x s' => SegX (model Pg w) A c (H x) fs s' P) s₁) (fun x s' => SegX (model Pg w) A c (H x) fs s' P) s)
    (hs : ∀ x, foldedSetIterable iter env x = pure x := by intro _; rfl) :
    SegX (model Pg w) A c ((exec (.For target iter body orelse pos) env).wrap K H gd lv) fs s P := by
  rw [exec_For]
  refine sx_bind_wrap (wpAny_standAt ?_)
  refine sx_bind_wrap (wpAny_mono h (fun x s₁ h₁ => ?_) fun _ _ e => e)
  rw [hs x]
  refine sx_bind_wrap (wpAny_pure ?_)
  refine sx_bind_wrap (wpAny_standAt ?_)
  refine sx_bind_wrap (wpAny_holding (wpAny_mono h₁ (fun it s₂ h₂ => ?_) fun _ _ e => e))
  exact s_call Pg w A c fs P s₂ _ _ _ _ _ h₂
theorem sx_leaf {k h g l c₁ p₁ kp} (r : Result) (hk : SegX (model Pg w) A c₁ (k r) fs s P) : SegX (model Pg w) A c (leafOf r) (.ret k h g l c₁ p₁ kp :: fs) s P :=
  s_pop Pg w A c fs P s r _ rfl k h g l c₁ p₁ kp hk
theorem sx_forLoop {target : Expr} {it : Value} {body orelse : List Stmt}
    (h : wpAny (model Pg w) (A.over (.forLoop target it body orelse env) fs) (pyNext it) (fun r s₁ => match r with
        | none => SegX (model Pg w) A (.block orelse env) (denote table (.block orelse env)) fs s₁ P
        | some v => wpAny (model Pg w) (A.over (.forLoop target it body orelse env) fs) (letOwnedTupleGo target it v) (fun _ s₂ =>
            wpAny (model Pg w) (A.over (.forLoop target it body orelse env) fs) (assign target env v) (fun _ s₃ =>
              SegX (model Pg w) A (.forLoop target it body orelse env) ((execs body env).wrap (fun f => match f with
                | .next | .cont => .pure (.again (.forLoop target it body orelse env))
                | .brk => .pure (.done .next)
                | .ret v => .pure (.done (.ret v))) (fun e => (do noteFrame e env; theTreesLotGoes e : Sem Unit).wrap (fun _ => .raise e) .raise id id) id id) fs s₃ P)
              (fun x s' => SegX (model Pg w) A (.forLoop target it body orelse env) ((do noteFrame x env; theTreesLotGoes x : Sem Unit).wrap (fun _ => .raise x) .raise id id) fs s' P) s₂)
            (fun x s' => SegX (model Pg w) A (.forLoop target it body orelse env) ((do noteFrame x env; theTreesLotGoes x : Sem Unit).wrap (fun _ => .raise x) .raise id id) fs s' P) s₁)
      (fun x s' => SegX (model Pg w) A (.forLoop target it body orelse env) ((do noteFrame x env; theTreesLotGoes x : Sem Unit).wrap (fun _ => .raise x) .raise id id) fs s' P) s) :
    SegX (model Pg w) A (.forLoop target it body orelse env) (denote table (.forLoop target it body orelse env)) fs s P := by
  show SegX _ A _ ((forTurn target it body orelse env).onRaise (fun x => do noteFrame x env; theTreesLotGoes x)) fs s P
  rw [Sem.onRaise_eq_wrap]
  have hH : (fun e => (do noteFrame e env; theTreesLotGoes e : Sem Unit).bind fun _ => (.raise e : Sem Fin)) = fun e => (do noteFrame e env; theTreesLotGoes e : Sem Unit).wrap (fun _ => .raise e) .raise id id := by
    funext e; exact Sem.bind_eq_wrap _ _
  rw [hH]
  unfold forTurn
  refine sx_bind_wrap (wpAny_standAt ?_)
  refine sx_bind_wrap (wpAny_onRaise (wpAny_mono h (fun r s₁ h₁ => ?_) fun x s' h' => wpAny_standAt h'))
  cases r with
  | none => exact s_again Pg w A _ fs P s₁ _ rfl h₁
  | some v =>
    refine sx_bind_wrap (wpAny_mono h₁ (fun _ s₂ h₂ => ?_) fun _ _ e => e)
    refine sx_bind_wrap (wpAny_mono h₂ (fun _ s₃ h₃ => ?_) fun _ _ e => e)
    rw [Sem.bind_eq_wrap', Sem.wrap_wrap]
    have e : ∀ (t : Sem Flow) (K₁ K₂ : Flow → Sem Fin) (H₁ H₂ : Value → Sem Fin), K₁ = K₂ → H₁ = H₂ → t.wrap K₁ H₁ id id = t.wrap K₂ H₂ id id := fun _ _ _ _ _ e1 e2 => by rw [e1, e2]
    refine (e _ _ _ _ _ ?_ ?_) ▸ h₃
    · funext f; cases f <;> rfl
    · funext x; rfl
theorem sx_yield {e : Expr} {ypos pos : Pos} (hfs : splitAtGen fs = none) (hgd : gd false = false) (hfg : fs.any Frame.guarded = false)
    (h : wpAny (model Pg w) (A.over c fs) (eval e env) (fun v s' => ∀ e', e'.result = .yielded v → e'.genState.bare = true →
        (∀ A' (s'' : Shared) P', SegX (model Pg w) A' c (K .next) fs s'' P' → (match e'.genState with | .suspended k _ c₀ _ fs₀ _ => SegX (model Pg w) A' c₀ (k (.send .none)) fs₀ s'' P' | _ => False)) → P e' s')
      (fun x s' => SegX (model Pg w) A c (H x) fs s' P) s) (hco : env.scope.isCoroutine = false) (hi : interactive env = false) :
    SegX (model Pg w) A c ((exec (.Expr (.Yield (some e) ypos) pos) env).wrap K H gd lv) fs s P := by
  rw [exec_Expr env _ pos hi rfl]
  show SegX (model Pg w) A c (.at pos fun _ => ((eval e env >>= fun v => (standAt ypos >>= fun _ => yieldOut env v)) >>= fun x =>
    dropValue (.Yield (some e) ypos) pos x).wrap K H gd lv) fs s P
  have hy : ∀ v, yieldOut env v = yieldValue v := fun v => by simp only [yieldOut, hco, Bool.false_eq_true, if_false]
  simp only [hy]
  refine sx_at ?_
  rw [Sem.bind_eq_wrap', Sem.bind_eq_wrap', Sem.wrap_wrap, Sem.wrap_wrap]
  refine sx_wrap (wpAny_mono h (fun v s' h' => ?_) fun _ _ x => x)
  refine sx_at ?_
  show SegX _ A c (.yield v (gd false) (lv []) _) fs s' P
  rw [hgd]
  refine s_yield Pg w A c fs P s' v _ _ hfs hfg fun p => h' _ rfl (by simp [End.genState, GenState.bare, hfg]) fun A' s'' P' hk => ?_
  exact hk
end

end
section
open PySem PySem.W PyProof.Rows PySem.Calls PySem.W.X
set_option Elab.async false
set_option maxRecDepth 100000
set_option maxHeartbeats 4000000
/-! ## exceptions in flight -/
noncomputable def slotEq (h h' : Heap) (b : Addr) : Prop := ∀ o, h.get? b = some o → ∃ sl, h'.get? b = some { o with slots := sl }
open Classical in
noncomputable def hideP (h : Heap) (p : Addr → Prop) : Heap := hideAll h ((List.range h.objs.size).filter (fun b => decide (p b)))
theorem hideP_none {h : Heap} {p : Addr → Prop} {b : Addr} (hp : p b) : (hideP h p).get? b = none := by
  by_cases hb : b < h.objs.size
  · exact hideAll_none _ (by simp [hb, hp])
  · cases e : (hideP h p).get? b with
    | none => rfl
    | some o => exact absurd (Heap.lt_size (of_hideAll _ e)) hb
theorem of_hideP {h : Heap} {p : Addr → Prop} {b : Addr} {o : Obj} (e : (hideP h p).get? b = some o) : h.get? b = some o := of_hideAll _ e
theorem hideP_get {h : Heap} {p : Addr → Prop} {b : Addr} {o : Obj} (e : h.get? b = some o) (hp : ¬ p b) : (hideP h p).get? b = some o :=
  hideAll_get _ e (by simp [hp])
theorem hideP_notp {h : Heap} {p : Addr → Prop} {b : Addr} {o : Obj} (e : (hideP h p).get? b = some o) : ¬ p b := fun hp => by
  rw [hideP_none hp] at e; cases e
noncomputable def frs (l : List Env) : List Addr := l.filterMap (·.frame)
theorem funFrames_p {h : Heap} {p : Addr → Prop} {B : Heap} : ∀ {l : List Env}, h.FunFrames {} l → (∀ b ∈ frs l, B.get? b = none) → h.FunFrames B l
  | [], _, _ => trivial
  | env :: r, ⟨hk, ⟨L, o, hf, _, ho, hd⟩, hr⟩, hp => by
    have hm : frs (env :: r) = L :: frs r := by simp [frs, List.filterMap_cons, hf]
    refine ⟨hk, ⟨L, o, hf, hp L (by rw [hm]; exact .head _), ho, hd⟩, funFrames_p (p := p) hr fun b hb => hp b (by rw [hm]; exact .tail _ hb)⟩
theorem funFrames_to {h : Heap} {B B' : Heap} (k : ∀ b o, B'.get? b = some o → B.get? b = some o) : ∀ {l : List Env}, h.FunFrames B l → h.FunFrames B' l
  | [], _ => trivial
  | env :: r, ⟨hk, ⟨L, o, hf, hn, ho, hd⟩, hr⟩ => by
    refine ⟨hk, ⟨L, o, hf, ?_, ho, hd⟩, funFrames_to k hr⟩
    cases q : B'.get? L with
    | none => rfl
    | some x => rw [k L x q] at hn; cases hn
theorem funFrames_there {h B : Heap} : ∀ {l : List Env}, h.FunFrames B l → ∀ b ∈ frs l, ∃ o, h.get? b = some o ∧ ∀ vs, o.data ≠ .fields vs
  | [], _, _, hb => by simp [frs] at hb
  | env :: r, ⟨_, ⟨L, o, hf, _, ho, hd⟩, hr⟩, b, hb => by
    have hm : frs (env :: r) = L :: frs r := by simp [frs, List.filterMap_cons, hf]
    rw [hm] at hb
    rcases List.mem_cons.mp hb with rfl | hb
    · exact ⟨o, ho, hd⟩
    · exact funFrames_there hr b hb
/-- no dict of its own -/
noncomputable def NoD (e : Addr) (h : Heap) : Prop := ∀ o, h.get? e = some o → o.dict = none
noncomputable def FlyD (B : Heap) (l : List Env) (e : Addr) (cls a0 : Value) (h : Heap) : Prop := Heap.FlyingW B l e cls a0 h ∧ NoD e h
noncomputable def HeldD (B : Heap) (l : List Env) (e : Addr) (cls a0 : Value) (L : Addr) (h : Heap) : Prop := Heap.HeldW B l e cls a0 L h ∧ NoD e h
theorem flyD_base {B B' h : Heap} {l : List Env} {e : Addr} {cls a0 : Value} (i : ∀ b o, B.get? b = some o → B'.get? b = some o) (x : FlyD B' l e cls a0 h) : FlyD B l e cls a0 h := ⟨flyingW_base i x.1, x.2⟩
/-- an exception of class cls flies (traced or just made) above the frames l; nothing of the heap B is touched -/
noncomputable def InFl (B : Heap) (l : List Env) (e : Addr) (cls : Value) (h : Heap) : Prop :=
  (∃ a0, FlyD B l e cls a0 h) ∨ (B.StaysIn h ∧ B.get? e = none ∧ h.FunFrames B l ∧ ∃ oe vs a0, h.get? e = some oe ∧ oe.cls = cls ∧ oe.data = .fields vs ∧ vs[1]? = some .none ∧ vs[0]? = some a0 ∧ oe.dict = none) ∨
  ∃ env r L a0, l = env :: r ∧ env.frame = some L ∧ HeldD B l e cls a0 L h
theorem InFl.fly {B h : Heap} {l : List Env} {e : Addr} {cls a0 : Value} (x : FlyD B l e cls a0 h) : InFl B l e cls h := .inl ⟨a0, x⟩
theorem InFl.frames {B h : Heap} {l : List Env} {e : Addr} {cls : Value} (x : InFl B l e cls h) : h.FunFrames B l := by
  rcases x with ⟨a0, x⟩ | ⟨_, _, f, _⟩ | ⟨_, _, _, _, _, _, x⟩
  · exact x.1.2.2.1
  · exact f
  · exact x.1.2.2.1
theorem InFl.base {B h : Heap} {l : List Env} {e : Addr} {cls : Value} (x : InFl B l e cls h) : B.StaysIn h ∧ B.get? e = none := by
  rcases x with ⟨a0, x⟩ | ⟨f, g, _⟩ | ⟨_, _, _, _, _, _, x⟩
  · exact ⟨x.1.1, x.1.2.1⟩
  · exact ⟨f, g⟩
  · exact ⟨x.1.1, x.1.2.1⟩
theorem dict_mapFields (f : Array Value → Array Value) (o : Obj) : (Obj.mapFields f o).dict = o.dict := by
  obtain ⟨c, d, dt, sl⟩ := o
  cases dt <;> rfl
section
variable {M : Model} {A : Around} {E : Value → Shared → Prop} {s : Shared} {B : Heap} {env : Env} {outer : List Env} {e L : Addr} {cls : Value} {Q : Unit → Shared → Prop}
/-- the frame's entry is laid before the exception -/
theorem entryD {oe : Obj} {vs : Array Value} {a0 head : Value} {hadNext : Bool} (hfr : A.frames = some (env :: outer)) (hf : env.frame = some L) (hst : B.StaysIn s.heap) (hBe : B.get? e = none) (hff : s.heap.FunFrames B (env :: outer))
    (he : s.heap.get? e = some oe) (hd : oe.data = .fields vs) (h0 : vs[0]? = some a0) (hz : 1 < vs.size) (nd : oe.dict = none)
    (hQ : ∀ h', HeldD B (env :: outer) e oe.cls a0 L h' → s.heap.UpToSlots h' → Q () { s with heap := h' }) :
    wpAny M A (do let a ← frameOf env; let pl ← entryPlaceOf L hadNext; let b ← EntryCells.newEntry head a .none (rawInt L) .none pl; setField (.ref e) 1 b) Q E s := by
  have notDict : ∀ b o, s.heap.get? b = some o → (∀ ws, o.data ≠ .fields ws) → b ≠ e := fun b o hb hn q => by
    subst q
    rw [he] at hb
    exact hn vs (Option.some.inj hb ▸ hd)
  refine wpAny_bind (wpAny_frameOf_fun hfr hff hf fun h1 so => ?_)
  refine wpAny_bind (wpAny_entryPlaceOf fun pl hpl => ?_)
  have he1 : h1.get? e = some oe := (so.2.1 e fun hm => by obtain ⟨_, o, ho, hn⟩ := hff.mem hm; exact notDict e o ho hn rfl).trans he
  have st1 : B.StaysIn h1 := fun b o hb => (so.2.1 b fun hm => by have := (hff.mem hm).1; rw [this] at hb; cases hb).trans (hst b o hb)
  unfold EntryCells.newEntry newFields
  refine wpAny_bind (wpAny_newObj_type ?_ (hpl.sizeOk5 _ _ _ _ _))
  generalize hT : h1.objs.size = T
  generalize hO : ({ cls := .type "traceback", data := .fields ([head, .ref L, .none, rawInt L, .none] ++ (if pl.isEmpty then List.replicate 6 Value.none else pl)).toArray } : Obj) = oT
  have hTe : T ≠ e := hT ▸ Nat.ne_of_gt (Heap.lt_size he1)
  have heP : (h1.push oT).get? e = some oe := Heap.get?_push_of_some _ he1
  have hTP : (h1.push oT).get? T = some oT := hT ▸ Heap.get?_push_size h1 (by rw [← hO]; rfl)
  refine wpAny_setField heP hd hz ?_
  have keep : ∀ b o, b ≠ e → h1.get? b = some o → ((h1.push oT).update e (Obj.mapFields (·.setIfInBounds 1 (Value.ref T)))).get? b = some o := fun b o hb ho =>
    (Heap.get?_update_other _ _ (Ne.symm hb)).trans (Heap.get?_push_of_some _ ho)
  have heN := Heap.get?_update_self (Obj.mapFields (·.setIfInBounds 1 (Value.ref T))) heP (Obj.isFreed_of_fields (Obj.data_mapFields hd _))
  have hTN : ((h1.push oT).update e (Obj.mapFields (·.setIfInBounds 1 (Value.ref T)))).get? T = some oT := (Heap.get?_update_other _ _ (Ne.symm hTe)).trans hTP
  refine hQ _ ⟨⟨fun b o hb => keep b o (fun q => by rw [q, hBe] at hb; cases hb) (st1 b o hb), hBe, hff.of_keeps fun b o hb hn => ?_, ?_⟩, fun o ho => ?_⟩ fun b o hb hn => ?_
  · obtain ⟨sl, q⟩ := so.2.2 b o hb
    exact ⟨_, keep b _ (notDict b o hb hn) q, rfl⟩
  · refine ⟨_, _, T, oT, _, heN, ⟨Obj.cls_mapFields _ _, ?_⟩, Obj.data_mapFields hd _, by simp [hz], ?_, hTe, hTN, (congrArg Obj.data hO).symm, ?_⟩
    · rw [Array.getElem?_setIfInBounds_ne (by decide)]; exact h0
    · rw [← hT]; exact st1.fresh
    · rcases hpl with rfl | ⟨_, _, _, _, _, _, _, rfl⟩ <;> simp
  · rw [heN] at ho; cases ho
    exact (dict_mapFields _ _).trans nd
  · obtain ⟨sl, q⟩ := so.2.2 b o hb
    exact ⟨sl, keep b _ (notDict b o hb hn) q⟩
theorem note_any (hfr : A.frames = some (env :: outer)) (hf : env.frame = some L) (x : InFl B (env :: outer) e cls s.heap)
    (hQ : ∀ h' a0, HeldD B (env :: outer) e cls a0 L h' → s.heap.UpToSlots h' → Q () { s with heap := h' }) : wpAny M A (noteFrame (.ref e) env) Q E s := by
  rcases x with ⟨a0, ⟨f1, f2, f3, f4⟩, nd⟩ | ⟨f1, f2, f3, oe, vs, a0, he, hc, hd, h1, h0, nd⟩ | ⟨env', r, L', a0, el, ef, x⟩
  · obtain ⟨oe, vs, T, oT, ts, he, ⟨hc, h0⟩, hd, h1, hnT, hTe, hT, hdT, h3⟩ := f4
    subst hc
    unfold noteFrame
    simp only [hf]
    refine wpAny_bind (wpAny_field he hd h1 ?_)
    rw [if_pos (by simp)]
    refine wpAny_bind (wpAny_field hT hdT h3 ?_)
    rw [if_neg (by simp [rawInt])]
    refine wpAny_bind (wpAny_setField hT hdT (Array.getElem?_eq_some_iff.mp h3).1 ?_)
    have off : ∀ b o, b ≠ T → s.heap.get? b = some o → (s.heap.update T (Obj.mapFields (·.setIfInBounds 3 Value.none))).get? b = some o := fun b o hb ho => (Heap.get?_update_other _ _ (Ne.symm hb)).trans ho
    have notT : ∀ b o, s.heap.get? b = some o → (∀ ws, o.data ≠ .fields ws) → b ≠ T := fun b o hb hn q => by
      subst q; rw [hT] at hb; exact hn ts (Option.some.inj hb ▸ hdT)
    refine entryD hfr hf (fun b o hb => off b o (fun q => by rw [q, hnT] at hb; cases hb) (f1 b o hb)) f2 (f3.of_keeps fun b o hb hn => ⟨o, off b o (notT b o hb hn) hb, rfl⟩) (off e oe (Ne.symm hTe) he) hd h0 (Array.getElem?_eq_some_iff.mp h1).1 (nd oe he)
      fun h' hh hu => hQ h' a0 hh fun b o hb hn => hu b o (off b o (notT b o hb hn) hb) hn
  · subst hc
    unfold noteFrame
    simp only [hf]
    refine wpAny_bind (wpAny_field he hd h1 ?_)
    rw [if_neg (by decide)]
    exact entryD hfr hf f1 f2 f3 he hd h0 (Array.getElem?_eq_some_iff.mp h1).1 nd fun h' hh hu => hQ h' a0 hh hu
  · cases el
    rw [hf] at ef; cases ef
    exact wpAny_noteFrame_againW hf x.1.2.2.2 (hQ s.heap a0 x fun b o hb _ => ⟨o.slots, hb⟩)
/-- the exception's mark is taken off -/
theorem lands_any {l : List Env} {a0 : Value} (x : HeldD B l e cls a0 L s.heap) (hQ : ∀ h', FlyD B l e cls a0 h' → s.heap.UpToSlots h' → Q () { s with heap := h' }) : wpAny M A (setFlight (.ref e) none) Q E s := by
  obtain ⟨⟨f1, f2, f3, oe, vs, T, oT, ts, he, hc, hd, h1, hnT, hTe, hT, hdT, h3⟩, nd⟩ := x
  unfold setFlight
  refine wpAny_bind (wpAny_field he hd h1 ?_)
  rw [if_pos (by simp)]
  have off : ∀ b o, b ≠ T → s.heap.get? b = some o → (s.heap.update T (Obj.mapFields (·.setIfInBounds 3 ((none : Option Addr).elim Value.none fun f => rawInt f)))).get? b = some o := fun b o hb ho => (Heap.get?_update_other _ _ (Ne.symm hb)).trans ho
  have notT : ∀ b o, s.heap.get? b = some o → (∀ ws, o.data ≠ .fields ws) → b ≠ T := fun b o hb hn q => by
    subst q; rw [hT] at hb; exact hn ts (Option.some.inj hb ▸ hdT)
  have hz : 3 < ts.size := (Array.getElem?_eq_some_iff.mp h3).1
  refine wpAny_setField hT hdT hz (hQ _ ⟨⟨fun b o hb => off b o (fun q => by rw [q, hnT] at hb; cases hb) (f1 b o hb), f2, f3.of_keeps fun b o hb hn => ⟨o, off b o (notT b o hb hn) hb, rfl⟩,
    oe, vs, T, _, _, off e oe (Ne.symm hTe) he, hc, hd, h1, hnT, hTe, Heap.get?_update_self _ hT (Obj.isFreed_of_fields (Obj.data_mapFields hdT _)), Obj.data_mapFields hdT _, by simp [hz]⟩, fun o ho => ?_⟩ fun b o hb hn => ⟨o.slots, off b o (notT b o hb hn) hb⟩)
  rw [off e oe (Ne.symm hTe) he] at ho
  exact nd o (he.trans ho)
theorem leave_any (hfr : A.frames = some (env :: outer)) (hf : env.frame = some L) (x : InFl B (env :: outer) e cls s.heap)
    (hQ : ∀ h' a0, FlyD B outer e cls a0 h' → s.heap.UpToSlots h' → Q () { s with heap := h' }) : wpAny M A (leaving env (.ref e)) Q E s := by
  unfold leaving
  refine wpAny_bind (note_any hfr hf x fun h' a0 hh hu => ?_)
  refine lands_any (s := { s with heap := h' }) hh fun h'' hfl hu' => ?_
  obtain ⟨⟨k1, k2, ⟨_, _, k3⟩, k4⟩, nd⟩ := hfl
  exact hQ h'' a0 ⟨⟨k1, k2, k3, k4⟩, nd⟩ (hu.trans hu')
end
theorem upTo_frs {h h' B : Heap} {l : List Env} (hu : h.UpToSlots h') (hl : h.FunFrames B l) : ∀ b ∈ frs l, slotEq h h' b := fun b hb o ho => by
  obtain ⟨o', ho', hd⟩ := funFrames_there hl b hb
  rw [ho] at ho'; cases ho'
  exact hu b o ho hd
theorem slotEq.trans {h h' h'' : Heap} {b : Addr} (x : slotEq h h' b) (y : slotEq h' h'' b) : slotEq h h'' b := fun o ho => by
  obtain ⟨sl, h1⟩ := x o ho
  obtain ⟨sl', h2⟩ := y _ h1
  exact ⟨sl', h2⟩
theorem slotEq.of_keep {h h' : Heap} {b : Addr} (k : ∀ o, h.get? b = some o → h'.get? b = some o) : slotEq h h' b := fun o ho => ⟨o.slots, k o ho⟩
/-! ## what a source does when it is asked for the next item -/
noncomputable abbrev PE : Value := .ref 58   -- the class ProtocolError
inductive Strm where
  | fail
  | done
  | item (v : Value) (r : Strm)
structure Agree (oh : Addr → Prop) (og : Nat → Prop) (s s₁ : Shared) : Prop where
  heap : ∀ b o, oh b → s.heap.get? b = some o → s₁.heap.get? b = some o
  gens : ∀ g, og g → s₁.gens[g]? = s.gens[g]?
structure Mv (oh : Addr → Prop) (og : Nat → Prop) (s s' : Shared) : Prop where
  heap : ∀ b o, ¬ oh b → s.heap.get? b = some o → s'.heap.get? b = some o
  gens : ∀ g, ¬ og g → s'.gens[g]? = s.gens[g]?
  gsz : s'.gens.size = s.gens.size
  bare : AllBare s.gens → AllBare s'.gens
  drawn : s'.drawn = s.drawn
  os : s'.os = s.os
/-- a raise: nothing but the owned is touched; frames keep all but their slots -/
structure Fl (outer : List Env) (oh : Addr → Prop) (og : Nat → Prop) (e : Addr) (s s' : Shared) : Prop where
  fly : ∃ a0, FlyD (hideP s.heap fun b => oh b ∨ b ∈ frs outer) outer e PE a0 s'.heap
  frames : ∀ b ∈ frs outer, slotEq s.heap s'.heap b
  gens : ∀ g, ¬ og g → s'.gens[g]? = s.gens[g]?
  gsz : s'.gens.size = s.gens.size
  bare : AllBare s.gens → AllBare s'.gens
  drawn : s'.drawn = s.drawn
  os : s'.os = s.os
/-- objects that stay as they are all the while -/
noncomputable abbrev Kept (kp : List (Addr × Obj)) (h : Heap) : Prop := ∀ p ∈ kp, h.get? p.1 = some p.2
theorem Kept.keeps {kp : List (Addr × Obj)} {h h' : Heap} (k : Kept kp h) (x : ∀ p ∈ kp, ∀ o, h.get? p.1 = some o → h'.get? p.1 = some o) : Kept kp h' := fun p hp => x p hp _ (k p hp)
structure Cx (w : World) (mean : ExcName → Option Value) (mg mb : Str → Option Value) (b0 : Heap) (kp : List (Addr × Obj)) (oh : Addr → Prop) (dn un : Nat) (A : Around) (outer : List Env) (s : Shared) : Prop where
  hd : A.handled = none
  fr : A.frames = some outer
  gs : A.guards = some []
  dp : A.depth + dn < recursionLimit
  cu : A.units + un < cLine
  G : Gd w mean mg mb b0 outer s.heap
  d : Kept kp s.heap
  out : ∀ b ∈ frs outer, ¬ oh b
  lo : ∀ b, oh b → b0.get? b = none ∧ ∀ p ∈ kp, p.1 ≠ b
  lof : ∀ b ∈ frs outer, b0.get? b = none
noncomputable def After (oh : Addr → Prop) (s : Shared) : Addr → Prop := fun b => oh b ∨ s.heap.get? b = none
section
variable (w : World) (mean : ExcName → Option Value) (mg mb : Str → Option Value) (b0 : Heap) (kp : List (Addr × Obj)) (dn un : Nat)
noncomputable def NextOk : Strm → Value → (Addr → Prop) → (Nat → Prop) → Shared → Prop
  | .item v r, it, oh, og, s => ∀ s₁ A outer Q E, Agree oh og s s₁ → Cx w mean mg mb b0 kp oh dn un A outer s₁ →
      (∀ s₂, Mv oh og s₁ s₂ → NextOk r it (After oh s₁) og s₂ → Q (some v) s₂) → wpAny (model Pg w) A (pyNext it) Q E s₁
  | .done, it, oh, og, s => ∀ s₁ A outer Q E, Agree oh og s s₁ → Cx w mean mg mb b0 kp oh dn un A outer s₁ →
      (∀ s₂, Mv oh og s₁ s₂ → Q none s₂) → wpAny (model Pg w) A (pyNext it) Q E s₁
  | .fail, it, oh, og, s => ∀ s₁ A outer (Q : Option Value → Shared → Prop) E, Agree oh og s s₁ → Cx w mean mg mb b0 kp oh dn un A outer s₁ →
      (∀ s₂ e, Fl outer oh og e s₁ s₂ → E (.ref e) s₂) → wpAny (model Pg w) A (pyNext it) Q E s₁
/-- a generator in state gs is woken -/
noncomputable def Goes (A : Around) (gs : GenState) (s : Shared) (P : End → Shared → Prop) : Prop := match gs with
  | .fresh c => SegX (model Pg w) A c (denote table c) [] s P
  | .suspended k _ c _ fs _ => SegX (model Pg w) A c (k (.send .none)) fs s P
  | _ => False
noncomputable def GRun : Strm → GenState → (Addr → Prop) → (Nat → Prop) → Shared → Prop
  | .item v r, gs, oh, og, s => ∀ s₁ A outer P, Agree oh og s s₁ → Cx w mean mg mb b0 kp oh dn un A outer s₁ →
      (∀ e s₂, e.result = .yielded v → e.genState.bare = true → Mv oh og s₁ s₂ → GRun r e.genState (After oh s₁) og s₂ → P e s₂) → Goes w A gs s₁ P
  | .done, gs, oh, og, s => ∀ s₁ A outer P, Agree oh og s s₁ → Cx w mean mg mb b0 kp oh dn un A outer s₁ →
      (∀ f s₂, (End.ret (.ok f)).result = .returned .none → Mv oh og s₁ s₂ → P (.ret (.ok f)) s₂) → Goes w A gs s₁ P
  | .fail, gs, oh, og, s => ∀ s₁ A outer P, Agree oh og s s₁ → Cx w mean mg mb b0 kp oh dn un A outer s₁ →
      (∀ e s₂, Fl outer oh og e s₁ s₂ → P (.ret (.error (.ref e))) s₂) → Goes w A gs s₁ P
end

end
section
open PySem PySem.W PyProof.Rows PySem.Calls PySem.W.X
set_option Elab.async false
set_option maxRecDepth 100000
set_option maxHeartbeats 4000000
section
variable {w : World} {A : Around} {E : Value → Shared → Prop} {s : Shared}
theorem isStop {e : Addr} {Q : Bool → Shared → Prop} (X : (frJ.heap_1 w.params).In s.heap) (he : ∃ o, s.heap.get? e = some o ∧ o.cls = PE) (h : Q false s) :
    wpAny (model Pg w) A (isInstance (.ref e) (.type "StopIteration")) Q E s := by
  obtain ⟨o, ho, hc⟩ := he
  unfold isInstance typeOf
  refine wpAny_bind (wpAny_bind (wpAny_loadPart ho (wpAny_pure ?_)))
  rw [hc]
  exact (Looks.of_peek (M := model Pg w) (r := false) X (by kernel_rfl)).here h
theorem wakeX {g : Nat} {gs : GenState} {α : Type} {Q : α → Shared → Prop} {l : List Value} {k : GenResult → Sem α} (hgs : s.gens[g]? = some gs)
    (hgo : Goes w A gs (s.setGen g .running) fun e s₁ => wpAny (model Pg w) A (k e.result) Q E (s₁.setGen g e.genState)) :
    wpAny (model Pg w) A (.resume g (.send .none) l k) Q E s := by
  cases gs with
  | fresh c => exact wake_any α Pg w hgs (.inl ⟨rfl, rfl, rfl, rfl⟩) (fun Γ => Γ.In A) (fun _ h => h) hgo
  | suspended k₀ l₀ c₀ p₀ fs₀ cl => exact wake_any α Pg w hgs (.inr ⟨k₀, l₀, p₀, cl, rfl, rfl⟩) (fun Γ => Γ.In A) (fun _ h => h) hgo
  | running => exact hgo.elim
  | finished => exact hgo.elim
theorem nextGen {a : Addr} {g : Nat} {gs : GenState} {Q : Option Value → Shared → Prop} (hh : A.handled = none) (hl : s.heap.NoLimit) (hroom : A.depth < recursionLimit)
    (hg : s.heap.IsGen a g) (hgs : s.gens[g]? = some gs)
    (hgo : Goes w A.in1 gs (s.setGen g .running) fun e s₁ => match e with
      | .susp v .. => Q (some v) (s₁.setGen g e.genState)
      | .ret (.ok f) => (End.ret (.ok f)).result = .returned .none ∧ ∀ h', Ext s₁.heap h' → Q none { s₁.setGen g .finished with heap := h' }
      | .ret (.error x) => ∃ ex, x = .ref ex ∧ (∃ o, s₁.heap.get? ex = some o ∧ o.cls = PE) ∧ s₁.heap.IsGen a g ∧ (frJ.heap_1 w.params).In s₁.heap ∧ E x (s₁.setGen g .finished)) :
    wpAny (model Pg w) A (pyNext (.ref a)) Q E s := by
  unfold pyNext
  refine wpAny_bind (wpAny_attempt (wpAny_callSpecial?_slot (name := Str.ofString "__next__") hg.typeIs slot_gen_next
    (wpAny_call_entry slot_gen_next hg.typeIs entry_gen_next ?_ (args_gen_next _))))
  show wpAny _ _ (Builtin.Generator.genWake (.ref a) (.send .none)) _ _ s
  unfold Builtin.Generator.genWake
  refine wpAny_bind (wpAny_holding (wpAny_genNumber hg (wpAny_bind (wpAny_genState hgs ?_))))
  have hmono : ∀ P P' : End → Shared → Prop, (∀ e s₁, P e s₁ → P' e s₁) → Goes w A.in1 gs (s.setGen g .running) P → Goes w A.in1 gs (s.setGen g .running) P' := fun P P' hp hq => by
    cases gs with
    | fresh c => exact SegX.mono hq hp
    | suspended k₀ l₀ c₀ p₀ fs₀ cl => exact SegX.mono hq hp
    | running => exact hq
    | finished => exact hq
  cases gs with
  | running => exact hgo.elim
  | finished => exact hgo.elim
  | _ =>
    refine wpAny_bind (wpAny_roomToWake hl hroom ?_)
    show wpAny _ _ (.resume g (.send .none) [] _) _ _ s
    refine wakeX hgs ?_
    refine hmono _ _ (fun e s₁ he => ?_) hgo
    cases e with
    | susp v gd l k c p fs => exact wpAny_pure ⟨v, rfl, wpAny_pure he⟩
    | ret r =>
      cases r with
      | ok f =>
        obtain ⟨hr, hq⟩ := he
        rw [hr]
        show wpAny _ _ (newExc (.type "StopIteration") [] >>= _) _ _ _
        refine wpAny_bind ?_
        simp only [newExc, newTuple]
        refine wpAny_bind (wpAny_newObj_type ?_ (by size_fits))
        refine wpAny_bind (m := firstArgMember _ _) (wpAny_of_eq (a := Value.none) (by first | rfl | (simp only [firstArgMember]; rfl)) ?_)
        refine wpAny_newObj_type ?_ (by size_fits)
        simp only [raiseNew]
        refine wpAny_bind (wpAny_bind (wpAny_handled ?_))
        rw [show A.in1.handled = none from hh]
        refine wpAny_throw ?_
        refine wpAny_bind (wpAny_isInstance (T := "StopIteration") (b := true) ⟨_, Heap.get?_push_size _ rfl, rfl⟩ isSubtype_stop ?_)
        exact wpAny_pure (hq _ (fun b o hb => Heap.get?_push_of_some _ (Heap.get?_push_of_some _ hb)))
      | error x =>
        obtain ⟨ex, rfl, hex, hga, hX, hE⟩ := he
        show wpAny _ _ (Builtin.Generator.genLeft (.ref a) (.ref ex)) _ _ _
        unfold Builtin.Generator.genLeft Builtin.Generator.madeByALambda
        obtain ⟨o, nm, qn, ho, hc, hd, hsl⟩ := hga
        refine wpAny_bind (wpAny_bind (wpAny_load (s := s₁.setGen g .finished) ho (wpAny_pure ?_)))
        refine wpAny_bind (isStop (s := s₁.setGen g .finished) hX hex ?_)
        rw [hd]
        simp only [Bool.and_false, Bool.false_eq_true, if_false]
        unfold Builtin.Generator.genEscaped
        refine wpAny_bind (isStop (s := s₁.setGen g .finished) hX hex ?_)
        simp only [Bool.not_false, if_true]
        refine wpAny_throw ?_
        refine wpAny_bind (isStop (s := s₁.setGen g .finished) hX hex ?_)
        simp only [Bool.false_eq_true, if_false]
        exact wpAny_throw hE
end

end
section
open PySem PySem.W PyProof.Rows PySem.Calls PySem.W.X
set_option Elab.async false
set_option maxRecDepth 100000
set_option maxHeartbeats 4000000
theorem setGen_other {s : Shared} {g i : Nat} {x : GenState} (h : i ≠ g) : (s.setGen g x).gens[i]? = s.gens[i]? := by
  unfold Shared.setGen
  simp [Array.getElem?_setIfInBounds, Ne.symm h]
theorem setGen_size {s : Shared} {g : Nat} {x : GenState} : (s.setGen g x).gens.size = s.gens.size := by
  unfold Shared.setGen; simp
theorem bare_setGen {s : Shared} {g : Nat} {x : GenState} (h : AllBare s.gens) (hx : x.bare = true) : AllBare (s.setGen g x).gens := fun y hy => by
  unfold Shared.setGen at hy
  rw [Array.mem_iff_getElem?] at hy
  obtain ⟨i, hi⟩ := hy
  simp only [Array.getElem?_setIfInBounds] at hi
  split at hi
  · split at hi
    · cases hi; exact hx
    · cases hi
  · exact h y (Array.mem_of_getElem? hi)
section
variable {w : World} {mean : ExcName → Option Value} {mg mb : Str → Option Value} {b0 : Heap} {kp : List (Addr × Obj)} {dn un : Nat}
theorem grun_congr {strm : Strm} {gs : GenState} {oh : Addr → Prop} {og : Nat → Prop} {s t : Shared} (h : ∀ s', Agree oh og t s' → Agree oh og s s') (r : GRun w mean mg mb b0 kp dn un strm gs oh og s) :
    GRun w mean mg mb b0 kp dn un strm gs oh og t := by
  cases strm with
  | item v r' => exact fun s₁ A outer P ag => r s₁ A outer P (h s₁ ag)
  | done => exact fun s₁ A outer P ag => r s₁ A outer P (h s₁ ag)
  | fail => exact fun s₁ A outer P ag => r s₁ A outer P (h s₁ ag)
theorem nextok_congr {strm : Strm} {it : Value} {oh : Addr → Prop} {og : Nat → Prop} {s t : Shared} (h : ∀ s', Agree oh og t s' → Agree oh og s s') (r : NextOk w mean mg mb b0 kp dn un strm it oh og s) :
    NextOk w mean mg mb b0 kp dn un strm it oh og t := by
  cases strm with
  | item v r' => exact fun s₁ A outer Q E ag => r s₁ A outer Q E (h s₁ ag)
  | done => exact fun s₁ A outer Q E ag => r s₁ A outer Q E (h s₁ ag)
  | fail => exact fun s₁ A outer Q E ag => r s₁ A outer Q E (h s₁ ag)
theorem stays_b0 {s : Shared} {h' : Heap} {oh : Addr → Prop} {outer : List Env} {A : Around} (cx : Cx w mean mg mb b0 kp oh dn un A outer s) (st : (hideP s.heap fun b => oh b ∨ b ∈ frs outer).StaysIn h') : Ext b0 h' := fun a o e => by
  exact st a o (hideP_get (cx.G.S a o e) fun q => by
    have n : b0.get? a = none := q.elim (fun q => (cx.lo a q).1) fun q => cx.lof a q
    rw [e] at n; cases n)
theorem next_of_gen {a : Addr} {g : Nat} : ∀ (strm : Strm) {gs : GenState} {oh : Addr → Prop} {og : Nat → Prop} {s : Shared}, s.heap.IsGen a g → s.gens[g]? = some gs → ¬ og g → ¬ oh a →
    GRun w mean mg mb b0 kp dn (un + 1) strm gs oh og s → NextOk w mean mg mb b0 kp dn (un + 2) strm (.ref a) (fun b => oh b ∨ b = a) (fun i => og i ∨ i = g) s := by
  intro strm
  induction strm with
  | item v r ih =>
    intro gs oh og s hg hgs hog hoa hrun s₁ A outer Q E ag cx k
    have hgs₁ : s₁.gens[g]? = some gs := (ag.gens g (.inr rfl)).trans hgs
    have hga₁ : s₁.heap.IsGen a g := let ⟨o, nm, qn, ho, r⟩ := hg; ⟨o, nm, qn, ag.heap a o (.inr rfl) ho, r⟩
    refine nextGen cx.hd cx.G.T.nolimit (by have := cx.dp; omega) hga₁ hgs₁ ?_
    refine hrun (s₁.setGen g .running) A.in1 outer _ ⟨fun b o hb e => ag.heap b o (.inl hb) e, fun i hi => (setGen_other (show i ≠ g from fun q => hog (q ▸ hi))).trans (ag.gens i (.inl hi))⟩
      ⟨cx.hd, cx.fr, cx.gs, cx.dp, by have := cx.cu; show A.units + 1 + _ < _; omega, cx.G, cx.d, fun b hb h => cx.out b hb (.inl h), fun b hb => cx.lo b (.inl hb), cx.lof⟩ fun e s₂ he hb mv hr => ?_
    cases e with
    | ret x => cases x <;> cases he
    | susp v' gd l kk c p fs =>
      cases he
      refine k _ ⟨fun b o hb e => mv.heap b o (fun h => hb (.inl h)) e, fun i hi => ?_, ?_, fun hbare => ?_, mv.drawn, mv.os⟩ ?_
      · have hig : i ≠ g := fun q => hi (.inr q)
        exact (setGen_other hig).trans ((mv.gens i fun h => hi (.inl h)).trans (setGen_other hig))
      · exact setGen_size.trans (mv.gsz.trans setGen_size)
      · exact bare_setGen (mv.bare (bare_setGen hbare rfl)) hb
      · have e1 : After (fun b => oh b ∨ b = a) s₁ = fun b => After oh (s₁.setGen g .running) b ∨ b = a := by
          funext b
          exact propext ⟨fun h => h.elim (fun h => h.elim (fun h => .inl (.inl h)) .inr) fun h => .inl (.inr h), fun h => h.elim (fun h => h.elim (fun h => .inl (.inl h)) .inr) fun h => .inl (.inr h)⟩
        rw [e1]
        have hg2 : g < s₂.gens.size := by
          rw [mv.gsz, setGen_size]
          exact (Array.getElem?_eq_some_iff.mp hgs₁).1
        refine ih (gs := (End.susp v gd l kk c p fs).genState) ?_ ?_ hog ?_ (grun_congr (s := s₂) (fun s' ag' => ⟨ag'.heap, fun i hi => (ag'.gens i hi).trans (setGen_other (show i ≠ g from fun q => hog (q ▸ hi)))⟩) hr)
        · exact let ⟨o, nm, qn, ho, r⟩ := hga₁; ⟨o, nm, qn, mv.heap a o hoa ho, r⟩
        · unfold Shared.setGen; simp [hg2]
        · rintro (h | h)
          · exact hoa h
          · obtain ⟨o, _, _, ho, _⟩ := hga₁
            have h' : s₁.heap.get? a = none := h
            rw [ho] at h'; cases h'
  | done =>
    intro gs oh og s hg hgs hog hoa hrun s₁ A outer Q E ag cx k
    have hgs₁ : s₁.gens[g]? = some gs := (ag.gens g (.inr rfl)).trans hgs
    have hga₁ : s₁.heap.IsGen a g := let ⟨o, nm, qn, ho, r⟩ := hg; ⟨o, nm, qn, ag.heap a o (.inr rfl) ho, r⟩
    refine nextGen cx.hd cx.G.T.nolimit (by have := cx.dp; omega) hga₁ hgs₁ ?_
    refine hrun (s₁.setGen g .running) A.in1 outer _ ⟨fun b o hb e => ag.heap b o (.inl hb) e, fun i hi => (setGen_other (show i ≠ g from fun q => hog (q ▸ hi))).trans (ag.gens i (.inl hi))⟩
      ⟨cx.hd, cx.fr, cx.gs, cx.dp, by have := cx.cu; show A.units + 1 + _ < _; omega, cx.G, cx.d, fun b hb h => cx.out b hb (.inl h), fun b hb => cx.lo b (.inl hb), cx.lof⟩ fun f s₂ hf mv => ?_
    refine ⟨hf, fun h' hx => k _ ⟨fun b o hb e => hx b o (mv.heap b o (fun h => hb (.inl h)) e), fun i hi => ?_, ?_, fun hbare => ?_, mv.drawn, mv.os⟩⟩
    · have hig : i ≠ g := fun q => hi (.inr q)
      exact (setGen_other hig).trans ((mv.gens i fun h => hi (.inl h)).trans (setGen_other hig))
    · exact setGen_size.trans (mv.gsz.trans setGen_size)
    · exact bare_setGen (mv.bare (bare_setGen hbare rfl)) rfl
  | fail =>
    intro gs oh og s hg hgs hog hoa hrun s₁ A outer Q E ag cx k
    have hgs₁ : s₁.gens[g]? = some gs := (ag.gens g (.inr rfl)).trans hgs
    have hga₁ : s₁.heap.IsGen a g := let ⟨o, nm, qn, ho, r⟩ := hg; ⟨o, nm, qn, ag.heap a o (.inr rfl) ho, r⟩
    refine nextGen cx.hd cx.G.T.nolimit (by have := cx.dp; omega) hga₁ hgs₁ ?_
    refine hrun (s₁.setGen g .running) A.in1 outer _ ⟨fun b o hb e => ag.heap b o (.inl hb) e, fun i hi => (setGen_other (show i ≠ g from fun q => hog (q ▸ hi))).trans (ag.gens i (.inl hi))⟩
      ⟨cx.hd, cx.fr, cx.gs, cx.dp, by have := cx.cu; show A.units + 1 + _ < _; omega, cx.G, cx.d, fun b hb h => cx.out b hb (.inl h), fun b hb => cx.lo b (.inl hb), cx.lof⟩ fun ex s₂ fl => ?_
    obtain ⟨a0, fly⟩ := fl.fly
    have st : (hideP s₁.heap fun b => oh b ∨ b ∈ frs outer).StaysIn s₂.heap := fly.1.1
    have haf : a ∉ frs outer := fun q => by
      obtain ⟨o, ho, hd⟩ := funFrames_there cx.G.F a q
      obtain ⟨o', _, _, ho', _, hd', _⟩ := hga₁
      rw [ho] at ho'; cases ho'
      exact hd _ hd'
    refine ⟨ex, rfl, fly.1.there, ?_, ?_, k _ _ ⟨⟨a0, ?_⟩, fl.frames, fun i hi => ?_, ?_, fun hbare => ?_, fl.drawn, fl.os⟩⟩
    · exact let ⟨o, nm, qn, ho, r⟩ := hga₁; ⟨o, nm, qn, st a o (hideP_get ho fun q => q.elim hoa haf), r⟩
    · have cx' : Cx w mean mg mb b0 kp oh dn (un + 2) A outer s₁ := ⟨cx.hd, cx.fr, cx.gs, cx.dp, cx.cu, cx.G, cx.d, fun b hb h => cx.out b hb (.inl h), fun b hb => cx.lo b (.inl hb), cx.lof⟩
      exact cx.G.X0.keeps (stays_b0 cx' st)
    · exact flyD_base (B' := hideP s₁.heap fun b => oh b ∨ b ∈ frs outer) (fun b o e => hideP_get (of_hideP e) fun q => hideP_notp e (q.imp .inl id)) fly
    · have hig : i ≠ g := fun q => hi (.inr q)
      exact (setGen_other hig).trans ((fl.gens i fun h => hi (.inl h)).trans (setGen_other hig))
    · exact setGen_size.trans (fl.gsz.trans setGen_size)
    · exact bare_setGen (fl.bare (bare_setGen hbare rfl)) rfl
end

end
section
open PySem PySem.W PyProof.Rows PySem.Calls PySem.W.X
set_option Elab.async false
set_option maxRecDepth 100000
set_option maxHeartbeats 4000000
noncomputable def kontF (f : Flow) : Sem Fin := .pure (.done (.ret (match f with | .ret v => v | _ => .none)))
noncomputable def hndF (env : Env) (e : Value) : Sem Fin := (leaving env e).wrap (fun _ => .raise e) .raise id id
noncomputable def kontP (env : Env) (post : List Stmt) (f : Flow) : Sem Fin := match f with | .next => (execs post env).wrap kontF (hndF env) id id | f => kontF f
noncomputable def frK (env : Env) (post : List Stmt) (r : Result) : Sem Fin := ((match r with | .ok f => (.pure f : Sem Flow) | .error e => .raise e).onRaise fun (x : Value) => do
            if (← field x 1) == Value.none then unsupported "frame.own-activation:exception-without-traceback"
            setFlight x env.frame).wrap (kontP env post) (hndF env) id id
noncomputable def frP (env : Env) (body post : List Stmt) (p : Pos) : Frame := .ret (frK env post) none false [] (.func body env) p []
section
variable {w : World} {A : Around} {s : Shared} {P : End → Shared → Prop} {env : Env} {outer : List Env} {L : Addr} {body post : List Stmt}
theorem sx_func (h : SegX (model Pg w) A (.func body env) ((execs body env).wrap kontF (hndF env) id id) [] s P) :
    SegX (model Pg w) A (.func body env) (denote table (.func body env)) [] s P := by
  show SegX _ A _ (.point [] fun _ => ((execs body env).onRaise (leaving env)) >>= _) [] s P
  refine sx_point ?_
  rw [Sem.onRaise_eq_wrap, Sem.bind_eq_wrap', Sem.wrap_wrap]
  rw [Sem.wrap_congr (execs body env) _ _ (K' := kontF) (H' := hndF env) (fun f => by cases f <;> rfl) (fun e => by rw [Sem.bind_eq_wrap, Sem.wrap_wrap]; rfl)]
  exact h
theorem over_func (hf : A.frames = some outer) : (A.over (.func body env) []).frames = some (env :: outer) := by
  obtain ⟨hd, d, fr, gs, u⟩ := A; subst hf; rfl
theorem over_for {tg it b1 b2} {p : Pos} (hf : A.frames = some outer) : (A.over (.forLoop tg it b1 b2 env) [frP env body post p]).frames = some (env :: outer) := by
  obtain ⟨hd, d, fr, gs, u⟩ := A; subst hf; rfl
theorem over_func_gs (hh : A.guards = some []) : (A.over (.func body env) []).guards = some [] := by
  obtain ⟨hd, d, fr, gs, u⟩ := A; subst hh; rfl
theorem over_for_gs {tg it b1 b2} {p : Pos} (hh : A.guards = some []) : (A.over (.forLoop tg it b1 b2 env) [frP env body post p]).guards = some [] := by
  obtain ⟨hd, d, fr, gs, u⟩ := A; subst hh; rfl
theorem over_func_hd (hh : A.handled = none) : (A.over (.func body env) []).handled = none := hh
theorem over_for_hd {tg it b1 b2} {p : Pos} (hh : A.handled = none) : (A.over (.forLoop tg it b1 b2 env) [frP env body post p]).handled = none := by
  obtain ⟨hd, d, fr, gs, u⟩ := A; subst hh; rfl
theorem over_func_dp : (A.over (.func body env) []).depth = A.depth + 1 := rfl
theorem over_func_un : (A.over (.func body env) []).units = A.units + 3 := rfl
theorem over_for_dp {tg it b1 b2} {p : Pos} : (A.over (.forLoop tg it b1 b2 env) [frP env body post p]).depth = A.depth + 1 := rfl
theorem over_for_un {tg it b1 b2} {p : Pos} : (A.over (.forLoop tg it b1 b2 env) [frP env body post p]).units = A.units + 3 := rfl
theorem exc_func {B : Heap} {e : Addr} (hf : env.frame = some L) (hfr : A.frames = some outer) (x : InFl B (env :: outer) e PE s.heap)
    (hP : ∀ h' a0, FlyD B outer e PE a0 h' → s.heap.UpToSlots h' → P (.ret (.error (.ref e))) { s with heap := h' }) :
    SegX (model Pg w) A (.func body env) (hndF env (.ref e)) [] s P := by
  unfold hndF
  refine sx_wrap (leave_any (over_func hfr) hf x fun h' a0 fl hu => ?_)
  exact s_end Pg w A _ P _ (.error (.ref e)) _ rfl (hP h' a0 fl hu)
theorem exc_loop {B : Heap} {e : Addr} {tg it b1 b2} {p : Pos} (hf : env.frame = some L) (hfr : A.frames = some outer) (x : InFl B (env :: outer) e PE s.heap)
    (hP : ∀ h' a0, FlyD B outer e PE a0 h' → s.heap.UpToSlots h' → P (.ret (.error (.ref e))) { s with heap := h' }) :
    SegX (model Pg w) A (.forLoop tg it b1 b2 env) ((do noteFrame (.ref e) env; theTreesLotGoes (.ref e) : Sem Unit).wrap (fun _ => .raise (.ref e)) .raise id id) [frP env body post p] s P := by
  refine sx_wrap (wpAny_bind (note_any (over_for hfr) hf x fun h₁ a0 hh hu => wpAny_theTreesLotGoes ?_))
  refine sx_leaf (.error (.ref e)) ?_
  unfold frK
  rw [Sem.onRaise_eq_wrap, Sem.wrap_wrap]
  show SegX _ A _ (((do
            if (← field (.ref e) 1) == Value.none then unsupported "frame.own-activation:exception-without-traceback"
            setFlight (.ref e) env.frame : Sem Unit).bind fun _ => (.raise (.ref e) : Sem Flow)).wrap (kontP env post) (hndF env) id id) [] _ P
  obtain ⟨⟨g1, g2, g3, oe, vs, T, oT, ts, he, hcls, hd, h1, hnT, hTe, hT, hdT, h3⟩, nd⟩ := id hh
  rw [Sem.bind_eq_wrap, Sem.wrap_wrap]
  refine sx_bind_wrap (wpAny_field he hd h1 ?_)
  rw [if_neg (by simp)]
  rw [hf]
  refine sx_wrap ?_
  -- the flight mark stands already at L
  have hsf : wpAny (model Pg w) (A.over (.func body env) []) (setFlight (.ref e) (some L)) (fun _ s' => ∃ h', s' = { s with heap := h' } ∧ HeldD B (env :: outer) e PE a0 L h' ∧ h₁.UpToSlots h') (fun x s' => SegX (model Pg w) A (.func body env) (hndF env x) [] s' P) { s with heap := h₁ } := by
    unfold setFlight
    refine wpAny_bind (wpAny_field he hd h1 ?_)
    rw [if_pos (show (Value.ref T != Value.none) = true from by simp)]
    have other : ∀ b, b ≠ T → (h₁.update T (Obj.mapFields (·.setIfInBounds 3 ((some L).elim Value.none fun f => rawInt f)))).get? b = h₁.get? b := fun b hb => Heap.get?_update_other _ _ (Ne.symm hb)
    have noRecord : ∀ b o, h₁.get? b = some o → (∀ vs, o.data ≠ .fields vs) → b ≠ T := fun b o hb hnf q => by
      rw [q, hT] at hb; injection hb with hb; subst hb; exact hnf ts hdT
    have hsz3 : 3 < ts.size := (Array.getElem?_eq_some_iff.mp h3).1
    refine wpAny_setField hT hdT hsz3 ⟨_, rfl, ⟨⟨fun b o hbo => (other b fun q => by rw [q, hnT] at hbo; cases hbo).trans (g1 b o hbo), g2,
      g3.of_keeps fun b o hb hnf => ⟨o, (other b (noRecord b o hb hnf)).trans hb, rfl⟩, ?_⟩, fun o ho => nd o (((other e (Ne.symm hTe)).symm).trans ho)⟩, fun b o hb hnf => ⟨o.slots, (other b (noRecord b o hb hnf)).trans hb⟩⟩
    exact ⟨oe, vs, T, _, _, (other e (Ne.symm hTe)).trans he, hcls, hd, h1, hnT, hTe, Heap.get?_update_self _ hT (Obj.isFreed_of_fields (Obj.data_mapFields hdT _)), Obj.data_mapFields hdT _, by simp [hsz3]⟩
  refine wpAny_mono hsf (fun _ s' hs' => ?_) fun _ _ e => e
  obtain ⟨h₂, rfl, hh₂, hu₂⟩ := hs'
  show SegX _ A _ (hndF env (.ref e)) [] _ P
  unfold hndF
  refine sx_wrap ?_
  unfold leaving
  refine wpAny_bind (wpAny_noteFrame_againW hf hh₂.1.2.2.2 (lands_any (s := { s with heap := h₂ }) hh₂ fun h₃ fl hu₃ => ?_))
  obtain ⟨⟨k1, k2, ⟨_, _, k3⟩, k4⟩, nd'⟩ := fl
  exact s_end Pg w A _ P _ (.error (.ref e)) _ rfl (hP h₃ a0 ⟨⟨k1, k2, k3, k4⟩, nd'⟩ ((hu.trans hu₂).trans hu₃))
end

end
section
open PySem PySem.W PyProof.Rows PySem.Calls PySem.W.X
set_option Elab.async false
set_option maxRecDepth 100000
set_option maxHeartbeats 4000000
noncomputable def Stp (fp : Addr → Prop) (s s' : Shared) : Prop :=
  ∃ h' tk', s' = { s with heap := h', toks := tk' } ∧ (∀ b o, ¬ fp b → s.heap.get? b = some o → h'.get? b = some o)
noncomputable def StpE (fp : Addr → Prop) (l : List Env) (e : Addr) (s s' : Shared) : Prop :=
  ∃ h' tk', s' = { s with heap := h', toks := tk' } ∧ InFl (hideP s.heap fun b => fp b ∨ b ∈ frs l) l e PE h' ∧ ∀ b ∈ frs l, ¬ fp b → slotEq s.heap h' b
noncomputable def strmAll (I : Value → Prop) : Strm → Prop
  | .item v r => I v ∧ strmAll I r
  | _ => True
noncomputable def outS {σ : Type} (step : σ → Value → Option σ) (fin : σ → Bool) : σ → Strm → Strm
  | _, .fail => .fail
  | x, .done => if fin x then .done else .fail
  | x, .item v r => match step x v with
    | some x' => .item v (outS step fin x' r)
    | none => .fail
structure CxB (w : World) (mean : ExcName → Option Value) (mg mb : Str → Option Value) (b0 : Heap) (kp : List (Addr × Obj)) (dn un : Nat) (A : Around) (l : List Env) (s : Shared) : Prop where
  hd : A.handled = none
  fr : A.frames = some l
  gs : A.guards = some []
  dp : A.depth + dn < recursionLimit
  cu : A.units + un < cLine
  G : Gd w mean mg mb b0 l s.heap
  d : Kept kp s.heap
structure Stg (w : World) (mean : ExcName → Option Value) (mg mb : Str → Option Value) (b0 : Heap) (kp : List (Addr × Obj)) (dn un : Nat) (env : Env) (L : Addr) {σ : Type} (Inv : σ → Heap → Prop) (fp : Addr → Prop)
    (step : σ → Value → Option σ) (fin : σ → Bool) (x₀ : Str) (px : Pos) (B post : List Stmt) (Item : Value → Prop) : Prop where
  hk : env.scope.kind ≠ .module
  hf : env.frame = some L
  hco : env.scope.isCoroutine = false
  hi : interactive env = false
  fpL : fp L
  fpLo : ∀ b, fp b → b0.get? b = none ∧ ∀ p ∈ kp, p.1 ≠ b
  stab : ∀ x h h', Inv x h → (∀ b o, fp b → h.get? b = some o → h'.get? b = some o) → Inv x h'
  there : ∀ x h b, Inv x h → fp b → ∃ o, h.get? b = some o
  ns : ∀ x h, Inv x h → ∃ m, h.Ns L m
  body : ∀ x v s A' outer (Q : Flow → Shared → Prop) E, Inv x s.heap → Item v → CxB w mean mg mb b0 kp dn un A' (env :: outer) s → (∀ b ∈ frs outer, ¬ fp b) →
     (match step x v with
      | some x' => ∀ s', Stp fp s s' → Inv x' s'.heap → (∀ py Q' E', Q' v s' → wpAny (model Pg w) A' (eval (.Name x₀ py) env) Q' E' s') → Q .next s'
      | none => ∀ s' e, StpE fp (env :: outer) e s s' → E (.ref e) s') →
     wpAny (model Pg w) A' (assign (.Name x₀ px) env v) (fun _ s₁ => wpAny (model Pg w) A' (execs B env) Q E s₁) E s
  post : ∀ x s A' outer (Q : Flow → Shared → Prop) E, Inv x s.heap → CxB w mean mg mb b0 kp dn un A' (env :: outer) s → (∀ b ∈ frs outer, ¬ fp b) →
     (if fin x then ∀ s', Stp fp s s' → Q .next s' else ∀ s' e, StpE fp (env :: outer) e s s' → E (.ref e) s') →
     wpAny (model Pg w) A' (execs post env) Q E s
section
variable {w : World} {mean : ExcName → Option Value} {mg mb : Str → Option Value} {b0 : Heap} {kp : List (Addr × Obj)} {dn un : Nat}
noncomputable def RunPost (w : World) (mean : ExcName → Option Value) (mg mb : Str → Option Value) (b0 : Heap) (kp : List (Addr × Obj)) (dn un : Nat) (strm : Strm) (oh : Addr → Prop) (og : Nat → Prop) (s₁ : Shared) (outer : List Env) (P : End → Shared → Prop) : Prop := match strm with
  | .item v r => ∀ e s₂, e.result = .yielded v → e.genState.bare = true → Mv oh og s₁ s₂ → GRun w mean mg mb b0 kp dn un r e.genState (After oh s₁) og s₂ → P e s₂
  | .done => ∀ f s₂, (End.ret (.ok f)).result = .returned .none → Mv oh og s₁ s₂ → P (.ret (.ok f)) s₂
  | .fail => ∀ e s₂, Fl outer oh og e s₁ s₂ → P (.ret (.error (.ref e))) s₂
theorem grun_of {strm : Strm} {gs : GenState} {oh : Addr → Prop} {og : Nat → Prop} {s : Shared}
    (h : ∀ s₁ A outer P, Agree oh og s s₁ → Cx w mean mg mb b0 kp oh dn un A outer s₁ → RunPost w mean mg mb b0 kp dn un strm oh og s₁ outer P → Goes w A gs s₁ P) : GRun w mean mg mb b0 kp dn un strm gs oh og s := by
  cases strm <;> exact h
/-- from a raise beneath to the raise of the whole -/
theorem fl_of {B : Heap} {oh : Addr → Prop} {og : Nat → Prop} {outer : List Env} {e : Addr} {s₁ s' : Shared} {h : Heap} {tk : Nat} {a0 : Value}
    (hB : ∀ b o, ¬ oh b → b ∉ frs outer → s₁.heap.get? b = some o → B.get? b = some o) (fly : FlyD B outer e PE a0 h) (hs : ∀ b ∈ frs outer, slotEq s₁.heap h b)
    (hg : ∀ g, ¬ og g → s'.gens[g]? = s₁.gens[g]?) (hz : s'.gens.size = s₁.gens.size) (hb : AllBare s₁.gens → AllBare s'.gens) (hd : s'.drawn = s₁.drawn) (ho : s'.os = s₁.os) :
    Fl outer oh og e s₁ { s' with heap := h, toks := tk } :=
  ⟨⟨a0, flyD_base (fun b o q => hB b o (fun p => hideP_notp q (.inl p)) (fun p => hideP_notp q (.inr p)) (of_hideP q)) fly⟩, hs, hg, hz, hb, hd, ho⟩
variable {env : Env} {L : Addr} {σ : Type} {Inv : σ → Heap → Prop} {fp : Addr → Prop} {step : σ → Value → Option σ} {fin : σ → Bool} {x₀ : Str} {px : Pos} {B post body : List Stmt} {Item : Value → Prop} {og : Nat → Prop} {it : Value} {tg : Pos}
theorem Mv.refl {oh : Addr → Prop} {s : Shared} : Mv oh og s s := ⟨fun _ _ _ e => e, fun _ _ => rfl, rfl, id, rfl, rfl⟩
theorem frs_cons {outer : List Env} (hf : env.frame = some L) : frs (env :: outer) = L :: frs outer := by simp [frs, hf]
theorem funFrames_keep {h h' B : Heap} : ∀ {l : List Env}, h.FunFrames B l → (∀ b ∈ frs l, ∀ o, h.get? b = some o → ∃ o', h'.get? b = some o' ∧ o'.data = o.data) → h'.FunFrames B l
  | [], _, _ => trivial
  | env :: r, ⟨hk, ⟨L, o, hf, hn, ho, hd⟩, hr⟩, k => by
    have hm : frs (env :: r) = L :: frs r := by simp [frs, hf]
    obtain ⟨o', ho', hd'⟩ := k L (by rw [hm]; exact .head _) o ho
    exact ⟨hk, ⟨L, o', hf, hn, ho', fun vs => hd' ▸ hd vs⟩, funFrames_keep hr fun b hb => k b (by rw [hm]; exact .tail _ hb)⟩
theorem cx_gd {oh : Addr → Prop} {outer : List Env} {A : Around} {s₁ : Shared} {h' : Heap} (cx : Cx w mean mg mb b0 kp oh dn un A outer s₁) 
    (k : ∀ b o, ¬ oh b → s₁.heap.get? b = some o → h'.get? b = some o) : Gd w mean mg mb b0 outer h' :=
  ⟨cx.G.X0, cx.G.T0, fun b o e => k b o (fun q => by rw [(cx.lo b q).1] at e; cases e) (cx.G.S b o e),
    funFrames_keep cx.G.F fun b hb o ho => ⟨o, k b o (cx.out b hb) ho, rfl⟩⟩
theorem cx_d {oh : Addr → Prop} {outer : List Env} {A : Around} {s₁ : Shared} {h' : Heap} (cx : Cx w mean mg mb b0 kp oh dn un A outer s₁)
    (k : ∀ b o, ¬ oh b → s₁.heap.get? b = some o → h'.get? b = some o) : Kept kp h' :=
  cx.d.keeps fun p hp o e => k p.1 o (fun q => (cx.lo p.1 q).2 p hp rfl) e
theorem Gd.cons {outer : List Env} {h : Heap} {m : Str → Option Value} (G : Gd w mean mg mb b0 outer h) (hk : env.scope.kind ≠ .module) (hf : env.frame = some L) (hn : h.Ns L m) : Gd w mean mg mb b0 (env :: outer) h :=
  ⟨G.X0, G.T0, G.S, Heap.FunFrames.cons hk hf hn (by simp [Heap.get?]) G.F⟩
theorem stage_cx (S : Stg w mean mg mb b0 kp dn un env L Inv fp step fin x₀ px B post Item) {oh : Addr → Prop} {x : σ} {s₁ : Shared} {A A' : Around} {outer : List Env}
    (hh : A'.handled = A.handled) (hf : A'.frames = some (env :: outer)) (hgs : A'.guards = some []) (hd : A'.depth = A.depth + 1) (hu : A'.units = A.units + 3)
    (cx : Cx w mean mg mb b0 kp (fun b => oh b ∨ fp b) (dn + 1) (un + 3) A outer s₁) (hI : Inv x s₁.heap) (hdj : ∀ b, fp b → ¬ oh b) :
    Cx w mean mg mb b0 kp oh dn un A' (env :: outer) s₁ := by
  obtain ⟨m₁, hns₁⟩ := S.ns x _ hI
  have hfr := frs_cons (outer := outer) S.hf
  refine ⟨hh.trans cx.hd, hf, hgs, by rw [hd]; have := cx.dp; omega, by rw [hu]; have := cx.cu; omega, cx.G.cons S.hk S.hf hns₁, cx.d, fun b hb => ?_, fun b hb => cx.lo b (.inl hb), fun b hb => ?_⟩
  · rw [hfr] at hb
    rcases List.mem_cons.mp hb with rfl | hb
    · exact hdj _ S.fpL
    · exact fun q => cx.out b hb (.inl q)
  · rw [hfr] at hb
    rcases List.mem_cons.mp hb with hb | hb
    · exact hb ▸ (S.fpLo _ S.fpL).1
    · exact cx.lof b hb
theorem stage_cxB (S : Stg w mean mg mb b0 kp dn un env L Inv fp step fin x₀ px B post Item) {oh : Addr → Prop} {x : σ} {s₁ s₂ : Shared} {A A' : Around} {outer : List Env}
    (hh : A'.handled = A.handled) (hf : A'.frames = some (env :: outer)) (hgs : A'.guards = some []) (hd : A'.depth = A.depth + 1) (hu : A'.units = A.units + 3)
    (cx : Cx w mean mg mb b0 kp (fun b => oh b ∨ fp b) (dn + 1) (un + 3) A outer s₁) (hI : Inv x s₂.heap) (k : ∀ b o, ¬ oh b → s₁.heap.get? b = some o → s₂.heap.get? b = some o) :
    CxB w mean mg mb b0 kp dn un A' (env :: outer) s₂ := by
  obtain ⟨m₁, hns₁⟩ := S.ns x _ hI
  exact ⟨hh.trans cx.hd, hf, hgs, by rw [hd]; have := cx.dp; omega, by rw [hu]; have := cx.cu; omega, (cx_gd cx fun b o hb e => k b o (fun q => hb (.inl q)) e).cons S.hk S.hf hns₁,
    cx_d cx fun b o hb e => k b o (fun q => hb (.inl q)) e⟩
/-- a raise in the loop's turn (at s₂, reached from s₁ by the source) is a raise of the generator -/
theorem stage_raise (S : Stg w mean mg mb b0 kp dn un env L Inv fp step fin x₀ px B post Item) {oh : Addr → Prop} {s₁ s₂ s₃ : Shared} {outer : List Env} {e : Addr} {P : End → Shared → Prop} {h' : Heap} {a0 : Value} {Bh : Heap}
    (mv : Mv oh og s₁ s₂) (out : ∀ b ∈ frs outer, ¬ (oh b ∨ fp b)) (hg : s₃.gens = s₂.gens) (hd : s₃.drawn = s₂.drawn) (ho : s₃.os = s₂.os)
    (hB : ∀ b o, ¬ (oh b ∨ fp b) → b ∉ frs outer → s₂.heap.get? b = some o → Bh.get? b = some o)
    (fly : FlyD Bh outer e PE a0 h') (hsl : ∀ b ∈ frs outer, slotEq s₂.heap h' b)
    (rp : ∀ e s₂, Fl outer (fun b => oh b ∨ fp b) og e s₁ s₂ → P (.ret (.error (.ref e))) s₂) : P (.ret (.error (.ref e))) { s₃ with heap := h' } := by
  refine rp e _ (fl_of (B := Bh) (fun b o hb hf q => hB b o hb hf (mv.heap b o (fun q => hb (.inl q)) q)) fly (fun b hb => ?_) ?_ ?_ ?_ (hd.trans mv.drawn) (ho.trans mv.os))
  · exact (slotEq.of_keep fun o e => mv.heap b o (fun q => out b hb (.inl q)) e).trans (hsl b hb)
  · intro g hg'; rw [hg]; exact mv.gens g hg'
  · rw [hg]; exact mv.gsz
  · rw [hg]; exact mv.bare
theorem stage_loop (S : Stg w mean mg mb b0 kp dn un env L Inv fp step fin x₀ px B post Item) (yp ys py : Pos) (hit : ∀ v, letOwnedTupleGo (.Name x₀ px) it v = pure ()) :
    ∀ (strm : Strm) (x : σ) (oh : Addr → Prop) (s : Shared), strmAll Item strm → NextOk w mean mg mb b0 kp dn un strm it oh og s → Inv x s.heap → (∀ b, fp b → ¬ oh b) →
    ∀ s₁ A outer P p, Agree (fun b => oh b ∨ fp b) og s s₁ → Cx w mean mg mb b0 kp (fun b => oh b ∨ fp b) (dn + 1) (un + 3) A outer s₁ →
      RunPost w mean mg mb b0 kp (dn + 1) (un + 3) (outS step fin x strm) (fun b => oh b ∨ fp b) og s₁ outer P →
      SegX (model Pg w) A (.forLoop (.Name x₀ px) it (B ++ [.Expr (.Yield (some (.Name x₀ py)) yp) ys]) [] env) (denote table (.forLoop (.Name x₀ px) it (B ++ [.Expr (.Yield (some (.Name x₀ py)) yp) ys]) [] env)) [frP env body post p] s₁ P := by
  intro strm
  induction strm with
  | fail =>
    intro x oh s hall hn hI hdj s₁ A outer P p ag cx rp
    have hI₁ : Inv x s₁.heap := S.stab x _ _ hI fun b o hb e => ag.heap b o (.inr hb) e
    refine sx_forLoop ?_
    refine hn s₁ _ (env :: outer) _ _ ⟨fun b o hb e => ag.heap b o (.inl hb) e, ag.gens⟩ (stage_cx S (A := A) ((over_for_hd cx.hd).trans cx.hd.symm) (over_for cx.fr) (over_for_gs cx.gs) rfl rfl cx hI₁ hdj) fun s₂ e fl => ?_
    obtain ⟨a1, fly⟩ := fl.fly
    have hfr := frs_cons (outer := outer) S.hf
    refine exc_loop S.hf cx.fr (.fly fly) fun h' a0 fly' hu => rp e _ (fl_of (fun b o hb hf q => hideP_get q fun z => ?_) fly' (fun b hb => ?_) fl.gens fl.gsz fl.bare fl.drawn fl.os)
    · rcases z with z | z
      · exact hb (.inl z)
      · rw [hfr] at z
        rcases List.mem_cons.mp z with rfl | z
        · exact hb (.inr S.fpL)
        · exact hf z
    · exact (fl.frames b (by rw [hfr]; exact .tail _ hb)).trans (upTo_frs hu fly.1.2.2.1 b (by rw [hfr]; exact .tail _ hb))
  | done =>
    intro x oh s hall hn hI hdj s₁ A outer P p ag cx rp
    have hI₁ : Inv x s₁.heap := S.stab x _ _ hI fun b o hb e => ag.heap b o (.inr hb) e
    refine sx_forLoop ?_
    refine hn s₁ _ (env :: outer) _ _ ⟨fun b o hb e => ag.heap b o (.inl hb) e, ag.gens⟩ (stage_cx S (A := A) ((over_for_hd cx.hd).trans cx.hd.symm) (over_for cx.fr) (over_for_gs cx.gs) rfl rfl cx hI₁ hdj) fun s₂ mv => ?_
    have hI₂ : Inv x s₂.heap := S.stab x _ _ hI₁ fun b o hb e => mv.heap b o (hdj b hb) e
    have hfr := frs_cons (outer := outer) S.hf
    -- the loop's end
    show SegX _ A _ (.pure (.done .next)) _ _ _
    refine sx_leaf (.ok .next) ?_
    show SegX _ A _ (kontP env post .next) [] _ _
    show SegX _ A _ ((execs post env).wrap kontF (hndF env) id id) [] _ _
    refine sx_wrap (S.post x s₂ _ outer _ _ hI₂ (stage_cxB S (A := A) ((over_func_hd (env := env) (body := body) cx.hd).trans cx.hd.symm) (over_func cx.fr) (over_func_gs cx.gs) rfl rfl cx hI₂ mv.heap) (fun b hb q => cx.out b hb (.inr q)) ?_)
    by_cases hf : fin x = true
    · rw [if_pos hf]
      have e1 : outS step fin x .done = .done := by simp [outS, hf]
      rw [e1] at rp
      rintro s' ⟨h', tk', rfl, k⟩
      refine s_end Pg w A _ P _ (.ok (.ret .none)) _ rfl (rp (.ret .none) _ rfl ⟨fun b o hb e => k b o (fun q => hb (.inr q)) (mv.heap b o (fun q => hb (.inl q)) e), mv.gens, mv.gsz, mv.bare, mv.drawn, mv.os⟩)
    · rw [if_neg hf]
      have e1 : outS step fin x .done = .fail := by simp [outS, hf]
      rw [e1] at rp
      rintro s' e ⟨h', tk', rfl, infl, hsl⟩
      refine exc_func S.hf cx.fr infl fun h'' a0 fly hu => ?_
      refine stage_raise S (s₃ := { s₂ with heap := h', toks := tk' }) mv cx.out rfl rfl rfl (fun b o hb hbf e => hideP_get e fun z => ?_) fly (fun b hb => ?_) rp
      · rcases z with z | z
        · exact hb (.inr z)
        · rw [hfr] at z
          rcases List.mem_cons.mp z with rfl | z
          · exact hb (.inr S.fpL)
          · exact hbf z
      · have hb' : b ∈ frs (env :: outer) := by rw [hfr]; exact .tail _ hb
        refine (hsl b hb' fun q => cx.out b hb (.inr q)).trans ?_
        exact upTo_frs hu infl.frames b hb'
  | item v r ih =>
    intro x oh s hall hn hI hdj s₁ A outer P p ag cx rp
    have hI₁ : Inv x s₁.heap := S.stab x _ _ hI fun b o hb e => ag.heap b o (.inr hb) e
    refine sx_forLoop ?_
    refine hn s₁ _ (env :: outer) _ _ ⟨fun b o hb e => ag.heap b o (.inl hb) e, ag.gens⟩ (stage_cx S (A := A) ((over_for_hd cx.hd).trans cx.hd.symm) (over_for cx.fr) (over_for_gs cx.gs) rfl rfl cx hI₁ hdj) fun s₂ mv hr => ?_
    have hI₂ : Inv x s₂.heap := S.stab x _ _ hI₁ fun b o hb e => mv.heap b o (hdj b hb) e
    have hfr := frs_cons (outer := outer) S.hf
    dsimp only
    rw [hit v]
    refine wpAny_pure ?_
    refine wpAny_mono (S.body x v s₂ _ outer (fun f s' => SegX (model Pg w) A _ (match f with
        | .next => (execs [.Expr (.Yield (some (.Name x₀ py)) yp) ys] env).wrap _ _ id id
        | f => _) _ s' P) (fun x' s' => SegX (model Pg w) A _ _ _ s' P) hI₂ hall.1
        (stage_cxB S (A := A) ((over_for_hd cx.hd).trans cx.hd.symm) (over_for cx.fr) (over_for_gs cx.gs) rfl rfl cx hI₂ mv.heap) (fun b hb q => cx.out b hb (.inr q)) ?_)
      (fun _ s₃ h₃ => by rw [execs_append_wrap]; exact sx_wrap h₃) fun _ _ e => e
    cases hs : step x v with
    | none =>
      have e1 : outS step fin x (.item v r) = .fail := by simp [outS, hs]
      rw [e1] at rp
      rintro s' e ⟨h', tk', rfl, infl, hsl⟩
      refine exc_loop S.hf cx.fr infl fun h'' a0 fly hu => ?_
      refine stage_raise S (s₃ := { s₂ with heap := h', toks := tk' }) mv cx.out rfl rfl rfl (fun b o hb hbf e => hideP_get e fun z => ?_) fly (fun b hb => ?_) rp
      · rcases z with z | z
        · exact hb (.inr z)
        · rw [hfr] at z
          rcases List.mem_cons.mp z with rfl | z
          · exact hb (.inr S.fpL)
          · exact hbf z
      · have hb' : b ∈ frs (env :: outer) := by rw [hfr]; exact .tail _ hb
        refine (hsl b hb' fun q => cx.out b hb (.inr q)).trans ?_
        exact upTo_frs hu infl.frames b hb'
    | some x' =>
      have e1 : outS step fin x (.item v r) = .item v (outS step fin x' r) := by simp [outS, hs]
      rw [e1] at rp
      rintro s' ⟨h', tk', rfl, k⟩ hI' heval
      dsimp only
      rw [execs_cons_wrap]
      refine sx_yield rfl rfl rfl (heval _ _ _ fun e' he hb hres => ?_) S.hco S.hi
      have hAf : After (fun b => oh b ∨ fp b) s₁ = fun b => After oh s₁ b ∨ fp b := by
        funext b
        exact propext ⟨fun h => h.elim (fun h => h.elim (fun h => .inl (.inl h)) .inr) fun h => .inl (.inr h), fun h => h.elim (fun h => h.elim (fun h => .inl (.inl h)) .inr) fun h => .inl (.inr h)⟩
      have hdj' : ∀ b, fp b → ¬ After oh s₁ b := fun b hb q => q.elim (hdj b hb) fun q => by obtain ⟨o, ho⟩ := S.there x _ b hI₁ hb; have q' : s₁.heap.get? b = none := q; rw [ho] at q'; cases q'
      refine rp e' _ he hb ⟨fun b o hb e => k b o (fun q => hb (.inr q)) (mv.heap b o (fun q => hb (.inl q)) e), mv.gens, mv.gsz, mv.bare, mv.drawn, mv.os⟩ ?_
      rw [hAf]
      refine grun_of fun s₄ A' outer' P' ag' cx' rp' => ?_
      have z := hres A' s₄ P' (s_again Pg w A' _ _ P' s₄ _ rfl
        (ih x' (After oh s₁) { s₂ with heap := h', toks := tk' } hall.2 (nextok_congr (s := s₂) (fun t ag'' => ⟨fun b o hb e => ag''.heap b o hb (k b o (fun q => hdj' b q hb) e), ag''.gens⟩) hr) hI' hdj' s₄ A' outer' P' p ag' cx' rp'))
      revert z
      unfold Goes
      cases e'.genState with
      | suspended => exact id
      | _ => exact fun z => z.elim
end

end
section
open PySem PySem.W PyProof.Rows PySem.Calls PySem.W.X
set_option Elab.async false
set_option maxRecDepth 100000
set_option maxHeartbeats 4000000
section
variable {w : World} {mean : ExcName → Option Value} {mg mb : Str → Option Value} {b0 : Heap} {kp : List (Addr × Obj)} {dn un : Nat}
theorem Agree.less {oh oh' : Addr → Prop} {og : Nat → Prop} {s t : Shared} (i : ∀ b, oh b → oh' b) (a : Agree oh' og s t) : Agree oh og s t := ⟨fun b o hb e => a.heap b o (i b hb) e, a.gens⟩
theorem Mv.more {oh oh' : Addr → Prop} {og : Nat → Prop} {s t : Shared} (i : ∀ b, oh b → oh' b) (a : Mv oh og s t) : Mv oh' og s t := ⟨fun b o hb e => a.heap b o (fun q => hb (i b q)) e, a.gens, a.gsz, a.bare, a.drawn, a.os⟩
theorem Fl.more {oh oh' : Addr → Prop} {og : Nat → Prop} {outer : List Env} {e : Addr} {s t : Shared} (i : ∀ b, oh b → oh' b) (a : Fl outer oh og e s t) : Fl outer oh' og e s t :=
  let ⟨a0, f⟩ := a.fly
  ⟨⟨a0, flyD_base (fun b o q => hideP_get (of_hideP q) fun z => hideP_notp q (z.imp (i b) id)) f⟩, a.frames, a.gens, a.gsz, a.bare, a.drawn, a.os⟩
theorem Cx.less {oh oh' : Addr → Prop} {A : Around} {outer : List Env} {s : Shared} (i : ∀ b, oh b → oh' b) (c : Cx w mean mg mb b0 kp oh' dn un A outer s) : Cx w mean mg mb b0 kp oh dn un A outer s :=
  ⟨c.hd, c.fr, c.gs, c.dp, c.cu, c.G, c.d, fun b hb q => c.out b hb (i b q), fun b hb => c.lo b (i b hb), c.lof⟩
theorem After.more {oh oh' : Addr → Prop} {s : Shared} (i : ∀ b, oh b → oh' b) : ∀ b, After oh s b → After oh' s b := fun b h => h.imp (i b) id
theorem grun_more {og : Nat → Prop} : ∀ (strm : Strm) {gs : GenState} {oh oh' : Addr → Prop} {s : Shared}, (∀ b, oh b → oh' b) → GRun w mean mg mb b0 kp dn un strm gs oh og s → GRun w mean mg mb b0 kp dn un strm gs oh' og s
  | .item _ r, _, _, _, _, i, g => fun s₁ A outer P ag cx k => g s₁ A outer P (ag.less i) (cx.less i) fun e s₂ he hb mv hr => k e s₂ he hb (mv.more i) (grun_more r (After.more i) hr)
  | .done, _, _, _, _, i, g => fun s₁ A outer P ag cx k => g s₁ A outer P (ag.less i) (cx.less i) fun f s₂ hf mv => k f s₂ hf (mv.more i)
  | .fail, _, _, _, _, i, g => fun s₁ A outer P ag cx k => g s₁ A outer P (ag.less i) (cx.less i) fun e s₂ fl => k e s₂ (fl.more i)
theorem nextok_more {og : Nat → Prop} : ∀ (strm : Strm) {it : Value} {oh oh' : Addr → Prop} {s : Shared}, (∀ b, oh b → oh' b) → NextOk w mean mg mb b0 kp dn un strm it oh og s → NextOk w mean mg mb b0 kp dn un strm it oh' og s
  | .item _ r, _, _, _, _, i, g => fun s₁ A outer Q E ag cx k => g s₁ A outer Q E (ag.less i) (cx.less i) fun s₂ mv hr => k s₂ (mv.more i) (nextok_more r (After.more i) hr)
  | .done, _, _, _, _, i, g => fun s₁ A outer Q E ag cx k => g s₁ A outer Q E (ag.less i) (cx.less i) fun s₂ mv => k s₂ (mv.more i)
  | .fail, _, _, _, _, i, g => fun s₁ A outer Q E ag cx k => g s₁ A outer Q E (ag.less i) (cx.less i) fun s₂ e fl => k s₂ e (fl.more i)
variable {env : Env} {L : Addr} {σ : Type} {step : σ → Value → Option σ} {fin : σ → Bool} {x₀ : Str} {px : Pos} {B pre post : List Stmt} {Item : Value → Prop} {og : Nat → Prop} {ohk : Addr → Prop}
/-- the generator's loop stands ready at s₂ (entered at s₁) -/
noncomputable def Ready (w : World) (mean : ExcName → Option Value) (mg mb : Str → Option Value) (b0 : Heap) (kp : List (Addr × Obj)) (dn un : Nat) (env : Env) (L : Addr) (step : σ → Value → Option σ) (fin : σ → Bool) (x₀ : Str) (px : Pos) (B post : List Stmt) (Item : Value → Prop)
    (og : Nat → Prop) (ohk : Addr → Prop) (strm : Strm) (x : σ) (s₁ : Shared) (it : Value) (s₂ : Shared) : Prop :=
  ∃ (Inv : σ → Heap → Prop) (fp oh' : Addr → Prop), Stg w mean mg mb b0 kp dn un env L Inv fp step fin x₀ px B post Item ∧ strmAll Item strm ∧ NextOk w mean mg mb b0 kp dn un strm it oh' og s₂ ∧ Inv x s₂.heap ∧ (∀ b, fp b → ¬ oh' b) ∧
    (∀ b, oh' b ∨ fp b → After ohk s₁ b) ∧ Stp ohk s₁ s₂ ∧ ∀ v, letOwnedTupleGo (.Name x₀ px) it v = pure ()
theorem stage_fresh {iter : Expr} {yp ys pf py : Pos} {strm : Strm} {x : σ} {s : Shared} (hk : env.scope.kind ≠ .module) (hf : env.frame = some L) (hoL : ohk L) (hns : ∃ m, s.heap.Ns L m)
    (hfold : ∀ x, foldedSetIterable iter env x = pure x)
    (start : ∀ s₁ A' outer E, Agree ohk og s s₁ → CxB w mean mg mb b0 kp dn un A' (env :: outer) s₁ → (∀ b ∈ frs outer, ¬ ohk b) →
      wpAny (model Pg w) A' (execs pre env) (fun f s₂ => f = .next ∧ wpAny (model Pg w) A' (eval iter env) (fun xv s₃ => wpAny (model Pg w) A' (pyIter xv)
        (Ready w mean mg mb b0 kp dn un env L step fin x₀ px B post Item og ohk strm x s₁) E s₃) E s₂) E s₁) :
    GRun w mean mg mb b0 kp (dn + 1) (un + 3) (outS step fin x strm) (.fresh (.func (pre ++ (.For (.Name x₀ px) iter (B ++ [.Expr (.Yield (some (.Name x₀ py)) yp) ys]) [] pf :: post)) env)) ohk og s := by
  refine grun_of fun s₁ A outer P ag cx rp => ?_
  show SegX _ A _ (denote table _) [] s₁ P
  refine sx_func ?_
  rw [execs_append_wrap]
  have hfr := frs_cons (outer := outer) hf
  obtain ⟨m, hns⟩ := hns
  have hns₁ : s₁.heap.Ns L m := hns.at' fun o e => ag.heap L o hoL e
  have cxb : CxB w mean mg mb b0 kp dn un (A.over (.func (pre ++ (.For (.Name x₀ px) iter (B ++ [.Expr (.Yield (some (.Name x₀ py)) yp) ys]) [] pf :: post)) env) []) (env :: outer) s₁ :=
    ⟨cx.hd, over_func cx.fr, over_func_gs cx.gs, by rw [over_func_dp]; have := cx.dp; omega, by rw [over_func_un]; have := cx.cu; omega, cx.G.cons hk hf hns₁, cx.d⟩
  refine sx_wrap (wpAny_mono (start s₁ _ outer (fun x' s' => SegX (model Pg w) A _ (hndF env x') [] s' P) ag cxb cx.out) (fun f s₂ h₂ => ?_) fun _ _ e => e)
  obtain ⟨rfl, h₂⟩ := h₂
  dsimp only
  rw [execs_cons_wrap]
  refine sx_For (wpAny_mono h₂ (fun xv s₃ h₃ => wpAny_mono h₃ (fun it s₄ h₄ => ?_) fun _ _ e => e) fun _ _ e => e) hfold
  intro p
  obtain ⟨Inv, fp, oh', S, hall, hn, hI, hdj, hin, ⟨h', tk', e4, k4⟩, hit⟩ := h₄
  have hin' : ∀ b, oh' b ∨ fp b → (∃ o, s₁.heap.get? b = some o) → ohk b := fun b hb ⟨o, ho⟩ => (hin b hb).elim id fun q => by
    have q' : s₁.heap.get? b = none := q
    rw [ho] at q'; cases q'
  have cx4 : Cx w mean mg mb b0 kp (fun b => oh' b ∨ fp b) (dn + 1) (un + 3) A outer s₄ := by
    subst e4
    refine ⟨cx.hd, cx.fr, cx.gs, cx.dp, cx.cu, cx_gd cx k4, cx_d cx k4, fun b hb q => ?_, fun b q => (hin b q).elim (cx.lo b) fun z => ?_, cx.lof⟩
    · obtain ⟨o, ho, _⟩ := funFrames_there cx.G.F b hb
      exact cx.out b hb (hin' b q ⟨o, ho⟩)
    · have z' : s₁.heap.get? b = none := z
      refine ⟨?_, fun p hp e => ?_⟩
      · cases e : b0.get? b with
        | none => rfl
        | some o => rw [cx.G.S b o e] at z'; cases z'
      · have := cx.d p hp
        rw [e, z'] at this; cases this
  have mv4 : ∀ {t : Shared}, Mv (fun b => oh' b ∨ fp b) og s₄ t → Mv ohk og s₁ t := fun mv => by
    subst e4
    exact ⟨fun b o hb e => mv.heap b o (fun q => hb (hin' b q ⟨o, e⟩)) (k4 b o hb e), mv.gens, mv.gsz, mv.bare, mv.drawn, mv.os⟩
  have hz : ∀ b, s₄.heap.get? b = none → After ohk s₁ b := fun b q => by
    subst e4
    by_cases hb : ohk b
    · exact .inl hb
    · cases e : s₁.heap.get? b with
      | none => exact .inr e
      | some o => rw [show h'.get? b = some o from k4 b o hb e] at q; cases q
  have go := stage_loop (post := post) (body := pre ++ (.For (.Name x₀ px) iter (B ++ [.Expr (.Yield (some (.Name x₀ py)) yp) ys]) [] pf :: post)) S yp ys py hit strm x oh' s₄ hall hn hI hdj s₄ A outer P p ⟨fun _ _ _ e => e, fun _ _ => rfl⟩ cx4 (by
    revert rp
    cases outS step fin x strm with
    | item v r =>
      intro rp e s₅ he hb mv hr
      exact rp e s₅ he hb (mv4 mv) (grun_more r (fun b h => h.elim (hin b) (hz b)) hr)
    | done => exact fun rp f s₅ hf mv => rp f s₅ hf (mv4 mv)
    | fail =>
      intro rp e s₅ fl
      obtain ⟨a0, fly⟩ := fl.fly
      subst e4
      refine rp e s₅ ⟨⟨a0, flyD_base (fun b o q => ?_) fly⟩, fun b hb => ?_, fl.gens, fl.gsz, fl.bare, fl.drawn, fl.os⟩
      · have hb := hideP_notp q
        exact hideP_get (k4 b o (fun z => hb (.inl z)) (of_hideP q)) fun z => hb (z.elim (fun z => .inl (hin' b z ⟨_, of_hideP q⟩)) .inr)
      · exact (slotEq.of_keep fun o e => k4 b o (cx.out b hb) e).trans (fl.frames b hb))
  exact go
end

end
section
open PySem PySem.W PyProof.Rows PySem.Calls PySem.W.X
set_option Elab.async false
set_option maxRecDepth 100000
set_option maxHeartbeats 4000000
noncomputable def strmOf : List Value → Strm
  | [] => .done
  | v :: r => .item v (strmOf r)
section
variable {w : World} {mean : ExcName → Option Value} {mg mb : Str → Option Value} {b0 : Heap} {kp : List (Addr × Obj)} {dn un : Nat}
theorem isList_of {h h' : Heap} {l : Addr} {items : Array Value} (x : h.IsList l items) (k : ∀ o, h.get? l = some o → h'.get? l = some o) : h'.IsList l items :=
  let ⟨o, ho, r⟩ := x; ⟨o, k o ho, r⟩
/-- a list's iterator, the list among the kept -/
theorem next_of_list {I l : Addr} {lo : Obj} {items : List Value} (hkp : (l, lo) ∈ kp) (hlo : ∀ h : Heap, h.get? l = some lo → h.IsList l items.toArray) (hIl : I ≠ l) {og : Nat → Prop} :
    ∀ (r : List Value) (i : Nat) (oh : Addr → Prop) (s : Shared), items.drop i = r → oh I → s.heap.IsListIter I l i → NextOk w mean mg mb b0 kp dn un (strmOf r) (.ref I) oh og s := by
  intro r
  induction r with
  | nil =>
    intro i oh s hd ho hi s₁ A outer Q E ag cx k
    obtain ⟨o, hI, hc, hdat⟩ := hi
    have hi₁ : s₁.heap.IsListIter I l i := ⟨o, ag.heap I o ho hI, hc, hdat⟩
    refine wpAny_pyNext_list_end (i := i) (items := items.toArray) cx.hd hi₁ (hlo _ (cx.d _ hkp)) (by
      have : items[i]? = none := by
        rw [List.getElem?_eq_none_iff]; exact List.drop_eq_nil_iff.mp hd
      simpa using this) fun h' hx => k _ ⟨fun b o' hb e => hx b o' (fun q => hb (q ▸ ho)) e, fun _ _ => rfl, rfl, id, rfl, rfl⟩
  | cons v r ih =>
    intro i oh s hd ho hi s₁ A outer Q E ag cx k
    obtain ⟨o, hI, hc, hdat⟩ := hi
    have hi₁ : s₁.heap.IsListIter I l i := ⟨o, ag.heap I o ho hI, hc, hdat⟩
    have hlt : i < items.length := by
      refine Nat.lt_of_not_le fun q => ?_
      rw [List.drop_eq_nil_iff.mpr q] at hd; cases hd
    have hv : items[i]? = some v := by
      rw [List.drop_eq_getElem_cons hlt] at hd
      rw [List.getElem?_eq_getElem hlt]
      exact congrArg some (List.cons.inj hd).1
    have hd' : items.drop (i + 1) = r := by
      rw [List.drop_eq_getElem_cons hlt] at hd
      exact (List.cons.inj hd).2
    refine wpAny_pyNext_list_item (i := i) (items := items.toArray) hi₁ (hlo _ (cx.d _ hkp)) (by simpa using hv) fun h' hi' hs => k _ ⟨fun b o' hb e => (hs.2 b (fun q => hb (q ▸ ho))).trans e, fun _ _ => rfl, rfl, id, rfl, rfl⟩
      (ih (i + 1) _ _ hd' (.inl ho) hi')
end

end
section
open PySem PySem.W PyProof.Rows PySem.Calls PySem.W.X
set_option Elab.async false
set_option maxRecDepth 100000
set_option maxHeartbeats 4000000
/-- the items of a stream, none where it fails -/
noncomputable def Strm.all : Strm → Option (List Value)
  | .fail => none
  | .done => some []
  | .item v r => r.all.map (v :: ·)
noncomputable def Strm.len : Strm → Nat
  | .item _ r => r.len + 1
  | _ => 0
section
variable {w : World} {mean : ExcName → Option Value} {mg mb : Str → Option Value} {b0 : Heap} {kp : List (Addr × Obj)} {dn un : Nat}
theorem Cx.step {oh : Addr → Prop} {A : Around} {outer : List Env} {s s' : Shared} (cx : Cx w mean mg mb b0 kp oh dn un A outer s) (k : ∀ b o, ¬ oh b → s.heap.get? b = some o → s'.heap.get? b = some o) :
    Cx w mean mg mb b0 kp (After oh s) dn un A outer s' := by
  refine ⟨cx.hd, cx.fr, cx.gs, cx.dp, cx.cu, cx_gd cx k, cx_d cx k, fun b hb q => ?_, fun b q => q.elim (cx.lo b) fun z => ?_, cx.lof⟩
  · obtain ⟨o, ho, _⟩ := funFrames_there cx.G.F b hb
    rcases q with q | q
    · exact cx.out b hb q
    · have q' : s.heap.get? b = none := q
      rw [ho] at q'; cases q'
  · have z' : s.heap.get? b = none := z
    refine ⟨?_, fun p hp e => ?_⟩
    · cases e : b0.get? b with
      | none => rfl
      | some o => rw [cx.G.S b o e] at z'; cases z'
    · have := cx.d p hp
      rw [e, z'] at this; cases this
theorem Mv.step {oh oh' : Addr → Prop} {og : Nat → Prop} {s s₁ s₂ : Shared} (a : Mv oh og s s₁) (b : Mv oh' og s₁ s₂) (i : ∀ b, oh' b → After oh s b) : Mv oh og s s₂ :=
  ⟨fun x o hx e => b.heap x o (fun q => (i x q).elim hx fun z => by have z' : s.heap.get? x = none := z; rw [e] at z'; cases z') (a.heap x o hx e), fun g hg => (b.gens g hg).trans (a.gens g hg), b.gsz.trans a.gsz, fun h => b.bare (a.bare h), b.drawn.trans a.drawn, b.os.trans a.os⟩
theorem Mv.fl {oh oh' : Addr → Prop} {og : Nat → Prop} {outer : List Env} {e : Addr} {s s₁ s₂ : Shared} (a : Mv oh og s s₁) (b : Fl outer oh' og e s₁ s₂) (i : ∀ b, oh' b → After oh s b) (out : ∀ b ∈ frs outer, ¬ oh b) : Fl outer oh og e s s₂ := by
  obtain ⟨a0, fly⟩ := b.fly
  refine ⟨⟨a0, flyD_base (fun x o q => ?_) fly⟩, fun x hx => (slotEq.of_keep fun o e => a.heap x o (out x hx) e).trans (b.frames x hx), fun g hg => (b.gens g hg).trans (a.gens g hg), b.gsz.trans a.gsz, fun h => b.bare (a.bare h), b.drawn.trans a.drawn, b.os.trans a.os⟩
  have hx := hideP_notp q
  have e := of_hideP q
  refine hideP_get (a.heap x o (fun z => hx (.inl z)) e) fun z => hx ?_
  rcases z with z | z
  · exact .inl ((i x z).elim id fun z => by have z' : s.heap.get? x = none := z; rw [e] at z'; cases z')
  · exact .inr z
/-- what list() makes -/
noncomputable abbrev listO (acc : Array Value) (c : Nat) : Obj := { cls := .type "list", dict := none, data := .seq acc c, slots := #[] }
theorem ext_loop {A : Around} {outer : List Env} {R : Result → Shared → Prop} {I S : Addr} {res : Value} {og : Nat → Prop} :
    ∀ (strm : Strm) (oh : Addr → Prop) (s : Shared) (acc : Array Value) (c : Nat), NextOk w mean mg mb b0 kp dn un strm (.ref I) oh og s → ¬ oh S → s.heap.get? S = some (listO acc c) → acc.size + strm.len ≤ sizeLine →
      Cx w mean mg mb b0 kp (fun b => oh b ∨ b = S) dn un A.in1 outer s →
      (match strm.all with
        | some vs => ∀ s' c', Mv (fun b => oh b ∨ b = S) og s s' → s'.heap.get? S = some (listO (acc ++ vs.toArray) c') → R (.ok (.ret res)) s'
        | none => ∀ s' e, Fl outer (fun b => oh b ∨ b = S) og e s s' → R (.error (.ref e)) s') →
      codeAny (model Pg w) A (.builtin "list.extend.loop" ⟨[.ref S, .ref I, res], []⟩) R s := by
  intro strm
  induction strm with
  | fail =>
    intro oh s acc c hn hSo hS hsz cx post
    refine codeAny_builtin F.entry_extend_loop ?_
    rw [Around.under_plainId F.plain_extend_loop _]
    show wpAny _ A.in1 (pyNext (.ref I) >>= _) _ _ s
    refine wpAny_bind (hn s A.in1 outer _ _ ⟨fun _ _ _ e => e, fun _ _ => rfl⟩ (cx.less fun b h => .inl h) fun s₂ e fl => ?_)
    exact post _ _ (fl.more fun b h => .inl h)
  | done =>
    intro oh s acc c hn hSo hS hsz cx post
    refine codeAny_builtin F.entry_extend_loop ?_
    rw [Around.under_plainId F.plain_extend_loop _]
    show wpAny _ A.in1 (pyNext (.ref I) >>= _) _ _ s
    refine wpAny_bind (hn s A.in1 outer _ _ ⟨fun _ _ _ e => e, fun _ _ => rfl⟩ (cx.less fun b h => .inl h) fun s₂ mv => ?_)
    exact wpAny_pure (post s₂ c (mv.more fun b h => .inl h) (by simpa [Strm.all] using mv.heap S _ hSo hS))
  | item v r ih =>
    intro oh s acc c hn hSo hS hsz cx post
    refine codeAny_builtin F.entry_extend_loop ?_
    rw [Around.under_plainId F.plain_extend_loop _]
    show wpAny _ A.in1 (pyNext (.ref I) >>= _) _ _ s
    refine wpAny_bind (hn s A.in1 outer _ _ ⟨fun _ _ _ e => e, fun _ _ => rfl⟩ (cx.less fun b h => .inl h) fun s₂ mv hr => ?_)
    have hS' := mv.heap S _ hSo hS
    have hsz' : acc.size + 1 + r.len ≤ sizeLine := by have : acc.size + (r.len + 1) ≤ sizeLine := hsz; omega
    have hSn : ¬ After oh s S := fun q => q.elim hSo fun z => by have z' : s.heap.get? S = none := z; rw [hS] at z'; cases z'
    show wpAny _ A.in1 (updateSeq S (·.push v) >>= _) _ _ _
    refine wpAny_bind ?_
    refine wpAny_updateSeq hS' rfl (wpAny_pure ⟨plainId_quiet F.plain_extend_loop _, ih (After oh s) _ (acc.push v) _ ?_ hSn (Heap.get?_update_self _ hS' rfl) (by rw [Array.size_push]; exact hsz') ?_ ?_⟩) (by omega) (by rw [Array.size_push]; omega)
    · exact nextok_congr (s := s₂) (fun t ag => ⟨fun b o hb e => ag.heap b o hb ((Heap.get?_update_other _ _ (fun h : S = b => hSn (h ▸ hb))).trans e), ag.gens⟩) hr
    · refine ((cx.step (s' := { s₂ with heap := s₂.heap.update S (Obj.mapSeq (·.push v)) }) fun b o hb e => ?_).less fun b h => h.elim (fun h => h.imp .inl id) fun h => .inl (.inr h))
      exact (Heap.get?_update_other _ _ (fun h : S = b => hb (.inr h.symm))).trans (mv.heap b o (fun q => hb (.inl q)) e)
    · have mv2 : Mv (fun b => oh b ∨ b = S) og s { s₂ with heap := s₂.heap.update S (Obj.mapSeq (·.push v)) } :=
        ⟨fun b o hb e => (Heap.get?_update_other _ _ (fun h : S = b => hb (.inr h.symm))).trans (mv.heap b o (fun q => hb (.inl q)) e), mv.gens, mv.gsz, mv.bare, mv.drawn, mv.os⟩
      have hi : ∀ b, After oh s b ∨ b = S → After (fun b => oh b ∨ b = S) s b := fun b h => h.elim (fun h => h.imp .inl id) fun h => .inl (.inr h)
      cases e : r.all with
      | none =>
        have e' : (Strm.item v r).all = none := by simp [Strm.all, e]
        rw [e'] at post
        exact fun s' x fl => post s' x (mv2.fl fl hi cx.out)
      | some vs =>
        have e' : (Strm.item v r).all = some (v :: vs) := by simp [Strm.all, e]
        rw [e'] at post
        refine fun s' c' mv' hS'' => post s' c' (mv2.step mv' hi) (hS''.trans ?_)
        simp
end

end
section
open PySem PySem.W PyProof.Rows PySem.Calls PySem.W.X
set_option Elab.async false
set_option maxRecDepth 100000
set_option maxHeartbeats 4000000
section
variable {w : World} {mean : ExcName → Option Value} {mg mb : Str → Option Value} {b0 : Heap} {kp : List (Addr × Obj)} {dn un : Nat}
theorem Mv.heap_then {oh : Addr → Prop} {og : Nat → Prop} {s s' : Shared} {h : Heap} (k : ∀ b o, ¬ oh b → s.heap.get? b = some o → h.get? b = some o) (m : Mv oh og { s with heap := h } s') : Mv oh og s s' :=
  ⟨fun b o hb e => m.heap b o hb (k b o hb e), m.gens, m.gsz, m.bare, m.drawn, m.os⟩
theorem Fl.heap_then {oh : Addr → Prop} {og : Nat → Prop} {outer : List Env} {e : Addr} {s s' : Shared} {h : Heap} (k : ∀ b o, ¬ oh b → s.heap.get? b = some o → h.get? b = some o) (out : ∀ b ∈ frs outer, ¬ oh b)
    (m : Fl outer oh og e { s with heap := h } s') : Fl outer oh og e s s' := by
  obtain ⟨a0, fly⟩ := m.fly
  refine ⟨⟨a0, flyD_base (fun x o q => ?_) fly⟩, fun x hx => (slotEq.of_keep fun o e => k x o (out x hx) e).trans (m.frames x hx), m.gens, m.gsz, m.bare, m.drawn, m.os⟩
  have hx := hideP_notp q
  exact hideP_get (k x o (fun z => hx (.inl z)) (of_hideP q)) hx
/-- list(gen), and what it comes to -/
noncomputable def LPost (strm : Strm) (oh : Addr → Prop) (og : Nat → Prop) (outer : List Env) (s : Shared) (Q : Value → Shared → Prop) (E : Value → Shared → Prop) : Prop := match strm.all with
  | some vs => ∀ s' l c', Mv oh og s s' → s.heap.get? l = none → s'.heap.get? l = some (listO vs.toArray c') → Q (.ref l) s'
  | none => ∀ s' e, Fl outer oh og e s s' → E (.ref e) s'
theorem ext_with {A : Around} {outer : List Env} {R : Result → Shared → Prop} {I S : Addr} {res : Value} {og : Nat → Prop} {g : Nat} {strm : Strm} {oh : Addr → Prop} {s : Shared} {c : Nat}
    (hn : NextOk w mean mg mb b0 kp dn un strm (.ref I) oh og s) (hg : s.heap.IsGen I g) (hSo : ¬ oh S) (hS : s.heap.get? S = some (listO #[] c)) (hsz : strm.len ≤ sizeLine)
    (cx : Cx w mean mg mb b0 kp (fun b => oh b ∨ b = S) dn un A.in1 outer s)
    (post : match strm.all with
        | some vs => ∀ s' c', Mv (fun b => oh b ∨ b = S) og s s' → s'.heap.get? S = some (listO vs.toArray c') → R (.ok (.ret res)) s'
        | none => ∀ s' e, Fl outer (fun b => oh b ∨ b = S) og e s s' → R (.error (.ref e)) s') :
    wpAny (model Pg w) A.in1 (Builtin.List.listExtendWith (.ref S) (.ref I) res)
      (fun fin s' => match fin with | .done f => R (.ok f) s' | .again c' => c'.quiet = true ∧ codeAny (model Pg w) A c' R s') (fun e s' => R (.error e) s') s := by
  have hSI : S ≠ I := fun e => by
    obtain ⟨o, _, _, ho, hc, _⟩ := hg
    rw [e, ho] at hS; have q := congrArg Obj.cls (Option.some.inj hS); rw [hc] at q; simp at q
  unfold Builtin.List.listExtendWith
  refine wpAny_bind (wpAny_typeOf hg.typeIs ?_)
  have h1 : Builtin.List.listSameRef (.ref S) (.ref I) = false := by simp [Builtin.List.listSameRef, hSI]
  have h2 : (Value.type "generator" == Value.type "list") = false := by decide
  have h3 : (Value.type "generator" == Value.type "tuple") = false := by decide
  simp only [h1, h2, h3, Bool.or_false, Bool.false_eq_true, if_false]
  refine wpAny_bind (wpAny_pyIter_gen hg ?_)
  refine wpAny_bind (wpAny_holding ?_)
  unfold Builtin.List.listLengthHint
  refine wpAny_bind (wpAny_specialOf hg.typeIs F.gen_no_len ?_)
  show wpAny _ A.in1 (specialOf (Value.ref I) (Str.ofString "__length_hint__") >>= _) _ _ _
  refine wpAny_bind (wpAny_specialOf hg.typeIs F.gen_no_hint ?_)
  refine wpAny_pure ?_
  show wpAny _ A.in1 (rule "list.extend.makes-room" >>= fun _ => Builtin.List.listTouch (.ref S) >>= fun _ =>
    again (.builtin "list.extend.loop" ⟨[.ref S, .ref I, res], []⟩)) _ _ _
  refine wpAny_bind (wpAny_rule ?_)
  refine wpAny_bind ?_
  show wpAny _ A.in1 (updateSeq S (·.push .none) >>= fun _ => updateSeq S (·.pop)) _ _ _
  refine wpAny_bind (wpAny_updateSeq hS rfl ?_)
  have hS₂ := Heap.get?_update_self (Obj.mapSeq (·.push Value.none)) hS rfl
  refine wpAny_updateSeq (hz := by seq_fits) hS₂ rfl ?_
  have hS₃ := Heap.get?_update_self (Obj.mapSeq (·.pop)) hS₂ rfl
  have oth : ∀ b o, b ≠ S → s.heap.get? b = some o → ((s.heap.update S (Obj.mapSeq (·.push Value.none))).update S (Obj.mapSeq (·.pop))).get? b = some o :=
    fun b o hb e => (Heap.get?_update_other _ _ (Ne.symm hb)).trans ((Heap.get?_update_other _ _ (Ne.symm hb)).trans e)
  have oth' : ∀ b o, ¬ (oh b ∨ b = S) → s.heap.get? b = some o → ((s.heap.update S (Obj.mapSeq (·.push Value.none))).update S (Obj.mapSeq (·.pop))).get? b = some o := fun b o hb e => oth b o (fun q => hb (.inr q)) e
  refine wpAny_pure ⟨plainId_quiet F.plain_extend_loop _, ext_loop (mean := mean) (mg := mg) (mb := mb) (b0 := b0) (kp := kp) (dn := dn) (un := un) (outer := outer) strm oh _ _ _
    (nextok_congr (s := s) (fun t ag => ⟨fun b o hb e => ag.heap b o hb (oth b o (fun q => hSo (q ▸ hb)) e), ag.gens⟩) hn) hSo hS₃ ?_ ?_ ?_⟩
  · have : ((#[] : Array Value).push Value.none).pop.size = 0 := rfl
    rw [this]; omega
  · exact ⟨cx.hd, cx.fr, cx.gs, cx.dp, cx.cu, cx_gd cx oth', cx_d cx oth', cx.out, cx.lo, cx.lof⟩
  · cases e : strm.all with
    | none =>
      rw [e] at post
      exact fun s' x fl => post s' x (fl.heap_then oth' cx.out)
    | some vs =>
      rw [e] at post
      exact fun s' c' mv hS' => post s' c' (mv.heap_then oth') (hS'.trans (by simp))
theorem list_init {A : Around} {outer : List Env} {R : Result → Shared → Prop} {I S : Addr} {og : Nat → Prop} {g : Nat} {strm : Strm} {oh : Addr → Prop} {s : Shared}
    (hn : NextOk w mean mg mb b0 kp dn un strm (.ref I) oh og s) (hg : s.heap.IsGen I g) (hSo : ¬ oh S) (hS : s.heap.get? S = some (listO #[] 0)) (hsz : strm.len ≤ sizeLine)
    (cx : Cx w mean mg mb b0 kp (fun b => oh b ∨ b = S) dn un A.in1 outer s)
    (post : match strm.all with
        | some vs => ∀ s' c', Mv (fun b => oh b ∨ b = S) og s s' → s'.heap.get? S = some (listO vs.toArray c') → R (.ok (.ret .none)) s'
        | none => ∀ s' e, Fl outer (fun b => oh b ∨ b = S) og e s s' → R (.error (.ref e)) s') :
    wpAny (model Pg w) A.in1 (Builtin.«list.__init__» ⟨[.ref S, .ref I], []⟩)
      (fun fin s' => match fin with | .done f => R (.ok f) s' | .again c' => c'.quiet = true ∧ codeAny (model Pg w) A c' R s') (fun e s' => R (.error e) s') s := by
  show wpAny _ A.in1 (do let old ← Builtin.List.listItems (.ref S); Builtin.List.listUpdate (.ref S) (fun _ => #[]); letGo old.toList.reverse; Builtin.List.listExtendWith (.ref S) (.ref I) .none) _ _ s
  refine wpAny_bind ?_
  unfold Builtin.List.listItems
  refine wpAny_bind (wpAny_seqItems hS rfl (wpAny_pure ?_))
  show wpAny _ A.in1 (updateSeq S (fun _ => #[]) >>= fun _ => letGo (#[] : Array Value).toList.reverse >>= fun _ => Builtin.List.listExtendWith (.ref S) (.ref I) .none) _ _ s
  refine wpAny_bind (wpAny_updateSeq hS rfl ?_)
  have hS₂ := Heap.get?_update_self (Obj.mapSeq (fun _ => (#[] : Array Value))) hS rfl
  have oth : ∀ b o, b ≠ S → s.heap.get? b = some o → (s.heap.update S (Obj.mapSeq (fun _ => (#[] : Array Value)))).get? b = some o :=
    fun b o hb e => (Heap.get?_update_other _ _ (Ne.symm hb)).trans e
  have oth' : ∀ b o, ¬ (oh b ∨ b = S) → s.heap.get? b = some o → (s.heap.update S (Obj.mapSeq (fun _ => (#[] : Array Value)))).get? b = some o := fun b o hb e => oth b o (fun q => hb (.inr q)) e
  have hSI : I ≠ S := fun e => by
    obtain ⟨o, _, _, ho, hc, _⟩ := hg
    rw [← e, ho] at hS; have q := congrArg Obj.cls (Option.some.inj hS); rw [hc] at q; simp at q
  refine wpAny_bind (wpAny_letGo ?_)
  refine ext_with (mean := mean) (mg := mg) (mb := mb) (b0 := b0) (kp := kp) (dn := dn) (un := un) (outer := outer) (strm := strm) (oh := oh) (og := og) (g := g)
    (nextok_congr (s := s) (fun t ag => ⟨fun b o hb e => ag.heap b o hb (oth b o (fun q => hSo (q ▸ hb)) e), ag.gens⟩) hn) (let ⟨o, nm, qn, ho, r⟩ := hg; ⟨o, nm, qn, oth I o hSI ho, r⟩) hSo hS₂ hsz
    ⟨cx.hd, cx.fr, cx.gs, cx.dp, cx.cu, cx_gd cx oth', cx_d cx oth', cx.out, cx.lo, cx.lof⟩ ?_
  cases e : strm.all with
  | none =>
    rw [e] at post
    exact fun s' x fl => post s' x (fl.heap_then oth' cx.out)
  | some vs =>
    rw [e] at post
    exact fun s' c' mv hS' => post s' c' (mv.heap_then oth') hS'
theorem list_gen {A : Around} {outer : List Env} {Q E : Value → Shared → Prop} {I : Addr} {og : Nat → Prop} {g : Nat} {strm : Strm} {oh : Addr → Prop} {s : Shared}
    (hn : NextOk w mean mg mb b0 kp dn un strm (.ref I) oh og s) (hg : s.heap.IsGen I g) (hsz : strm.len ≤ sizeLine) (hlo : ∀ b, oh b → ∃ o, s.heap.get? b = some o)
    (cx : Cx w mean mg mb b0 kp oh dn un A.in1.in1 outer s)
    (post : LPost strm oh og outer s Q E) : wpAny (model Pg w) A (call (.type "list") [.ref I]) Q E s := by
  have hnone : s.heap.get? s.heap.objs.size = none := by
    cases e : s.heap.get? s.heap.objs.size with
    | none => rfl
    | some o => exact absurd (Heap.lt_size e) (Nat.lt_irrefl _)
  have hSo : ¬ oh s.heap.objs.size := fun q => by obtain ⟨o, ho⟩ := hlo _ q; rw [hnone] at ho; cases ho
  have kk : ∀ b o, s.heap.get? b = some o → (s.heap.push (listO #[] 0)).get? b = some o := fun b o e => Heap.get?_push_of_some _ e
  have cx' : Cx w mean mg mb b0 kp (fun b => oh b ∨ b = s.heap.objs.size) dn un A.in1.in1 outer { s with heap := s.heap.push (listO #[] 0) } :=
    (cx.step (s' := { s with heap := s.heap.push (listO #[] 0) }) fun b o _ e => kk b o e).less fun b h => h.imp id fun h => by show s.heap.get? b = none; rw [h]; exact hnone
  refine callType_codes (Q₁ := fun obj s₁ => obj = .ref s.heap.objs.size ∧ s₁ = { s with heap := s.heap.push { cls := .type "list", data := .seq #[] } }) F.called_list (F.typeCall_list_1 _) F.entry_list_init
    (code_list_new _ ⟨rfl, rfl⟩) fun obj s₁ h₁ => ?_
  obtain ⟨rfl, rfl⟩ := h₁
  have hS : (s.heap.push { cls := .type "list", data := .seq #[] }).get? s.heap.objs.size = some { cls := .type "list", data := .seq #[] } := Heap.get?_push_size _ rfl
  refine ⟨⟨_, hS, rfl⟩, F.args_list_init_2 _ _, list_init (mean := mean) (mg := mg) (mb := mb) (b0 := b0) (kp := kp) (dn := dn) (un := un) (outer := outer) (strm := strm) (oh := oh) (og := og) (g := g)
    (nextok_congr (s := s) (fun t ag => ⟨fun b o hb e => ag.heap b o hb (kk b o e), ag.gens⟩) hn) (let ⟨o, nm, qn, ho, r⟩ := hg; ⟨o, nm, qn, kk I o ho, r⟩) hSo hS hsz cx' ?_⟩
  unfold LPost at post
  have hi : ∀ b, oh b ∨ b = s.heap.objs.size → After oh s b := fun b h => h.imp id fun h => by show s.heap.get? b = none; rw [h]; exact hnone
  have mv0 : Mv oh og s { s with heap := s.heap.push (listO #[] 0) } := ⟨fun b o _ e => kk b o e, fun _ _ => rfl, rfl, id, rfl, rfl⟩
  cases e : strm.all with
  | none =>
    rw [e] at post
    exact fun s' x fl => post s' x (mv0.fl fl hi cx.out)
  | some vs =>
    rw [e] at post
    exact fun s' c' mv hS' => ⟨rfl, post s' _ c' (mv0.step mv hi) hnone hS'⟩
end

end
section
open PySem PySem.W PyProof.Rows PySem.Calls PySem.W.X
set_option Elab.async false
set_option maxRecDepth 100000
set_option maxHeartbeats 8000000
set_option linter.unusedVariables false
section
variable {w : World} {A : Around} {s : Shared} {R : Result → Shared → Prop} {name qual : Str} {params : Arguments} {body : List Stmt} {scope : Scope} {dV kV doc pm cdv ct oc : Value} {an od : Option Addr} {osl : Array (Option Value)} {f : Addr} {args : Args} {binds : List (Str × Value)}
/-- the generator's object -/
noncomputable def genObj (g : Nat) (n q : Str) (tk tk' : Tok) : Obj := { cls := .type "generator", data := .fields #[.int g 0, .str n tk, .str q tk'] }
theorem enterG {K : Frag} (X : K.In s.heap) (hlim : s.heap.NoLimit)
    (ho : K.lookup f = some ⟨oc, od, .func (fnOf name qual params body scope dV kV doc pm an cdv ct), osl⟩) (hcd : codeIn K cdv qual = true) (hroom : A.depth < recursionLimit)
    (hbind : bindArgs (fnOf name qual params body scope dV kV doc pm an cdv ct) args = pure binds) (hloc : ∀ y ∈ binds, scope.names.lookup y.1 = some .local)
    (h : ∀ L' h₁ tk₁ n q t t', (L' : Nat) = s.heap.objs.size → Fr s.heap L' h₁ (fun y => binds.reverse.lookup y) →
      R (.ok (.ret (.ref h₁.objs.size))) { s with gens := s.gens.push (.fresh (.func body (envOf qual scope L' f cdv))), toks := tk₁, heap := h₁.push (genObj s.gens.size n q t t') })
    (hcell : ∀ x ∈ scope.names, x.2 ≠ .cell) (hco : scope.isCoroutine = false) (hgen : scope.isGenerator = true) (hk : scope.kind = .function) :
    codeAny (model Pg w) A (.call (.ref f) args) R s := by
  refine codeAny_call_generator (fd := fnOf name qual params body scope dV kV doc pm an cdv ct) (body := body) hroom (X _ _ ho) rfl hco hgen rfl (codeRec_of X hcd) ?_
  rw [hbind]
  refine wpAny_pure ?_
  refine wpAny_newFunctionEnv hcell hloc (fun h₀ hns₀ hsb₀ => ?_) hk
  have kp : ∀ b o, s.heap.get? b = some o → h₀.get? b = some o := fun b o e => hsb₀.extBut b o (Nat.ne_of_lt (Heap.lt_size e)) (Heap.get?_push_of_some _ e)
  exact ⟨hlim.fresh _ hsb₀, h _ h₀ _ _ _ _ _ rfl ⟨hns₀, kp, Nat.le_refl _⟩⟩
end
/-! ## the ledger: all that stands beside the base and the frame -/
open Classical in
noncomputable def ledger (b0 : Heap) (fp : Addr → Prop) (h : Heap) : List (Addr × Obj) :=
  (List.range h.objs.size).filterMap fun b => if fp b then none else match b0.get? b with | some _ => none | none => (h.get? b).map (b, ·)
theorem mem_ledger {b0 h : Heap} {fp : Addr → Prop} {b : Addr} {o : Obj} (e : h.get? b = some o) (hf : ¬ fp b) (hb : b0.get? b = none) : (b, o) ∈ ledger b0 fp h := by
  refine List.mem_filterMap.mpr ⟨b, List.mem_range.mpr (Heap.lt_size e), ?_⟩
  rw [if_neg hf, hb, e]; rfl
theorem of_ledger {b0 h : Heap} {fp : Addr → Prop} {p : Addr × Obj} (m : p ∈ ledger b0 fp h) : h.get? p.1 = some p.2 ∧ ¬ fp p.1 ∧ b0.get? p.1 = none := by
  obtain ⟨b, _, hb⟩ := List.mem_filterMap.mp m
  split at hb
  · cases hb
  · rename_i hf
    split at hb
    · cases hb
    · rename_i h0
      cases e : h.get? b with
      | none => rw [e] at hb; cases hb
      | some o => rw [e] at hb; cases hb; exact ⟨e, hf, h0⟩
theorem news_ledger {b0 h : Heap} {fp : Addr → Prop} {L : Addr} (hL : fp L) : News b0 L h (ledger b0 fp h) := fun p hp =>
  let ⟨a, b, c⟩ := of_ledger hp; ⟨a, fun q => b (q ▸ hL), c⟩
/-- from the walk's end: all but the footprint is kept -/
theorem kept_of {b0 h h' : Heap} {fp : Addr → Prop} {L : Addr} {m : Str → Option Value} {news : List (Addr × Obj)} (x : Ext b0 h) (F : Fr b0 L h' m) (N : News b0 L h' news) (i : ∀ p ∈ ledger b0 fp h, p ∈ news) :
    ∀ b o, ¬ fp b → h.get? b = some o → h'.get? b = some o := fun b o hb e => by
  cases q : b0.get? b with
  | some o' => rw [x b o' q] at e; cases e; exact F.keep b _ q
  | none => exact (N _ (i _ (mem_ledger e hb q))).1
/-- a tuple of two byte strings -/
noncomputable abbrev pairO (n v : Array UInt8) (tn tv : Tok) (c : Nat) : Obj := { cls := .type "tuple", data := .seq #[.bytes n tn, .bytes v tv] c }
section
variable {w : World} {mean : ExcName → Option Value} {mg mb : Str → Option Value} {b0 : Heap} {kp : List (Addr × Obj)} {dn un : Nat}
/-- a value that can be gone through -/
noncomputable def SrcOk (w : World) (mean : ExcName → Option Value) (mg mb : Str → Option Value) (b0 : Heap) (kp : List (Addr × Obj)) (dn un : Nat) (strm : Strm) (src : Value) (oh : Addr → Prop) (og : Nat → Prop) (s : Shared) : Prop :=
  ∀ s₁ A' l Q E, Agree oh og s s₁ → CxB w mean mg mb b0 kp dn un A' l s₁ →
    (∀ s₂ it oh', Stp (fun _ => False) s₁ s₂ → NextOk w mean mg mb b0 kp dn un strm it oh' og s₂ → (∀ b, oh' b → After oh s₁ b) → Q it s₂) → wpAny (model Pg w) A' (pyIter src) Q E s₁
theorem src_gen {a : Addr} {g : Nat} {strm : Strm} {oh : Addr → Prop} {og : Nat → Prop} {s : Shared} (hg : s.heap.IsGen a g) (hoa : oh a) (hn : NextOk w mean mg mb b0 kp dn un strm (.ref a) oh og s) : SrcOk w mean mg mb b0 kp dn un strm (.ref a) oh og s :=
  fun s₁ A' l Q E ag _ k => wpAny_pyIter_gen (g := g) (let ⟨o, nm, qn, ho, r⟩ := hg; ⟨o, nm, qn, ag.heap a o hoa ho, r⟩)
    (k s₁ (.ref a) oh ⟨s₁.heap, s₁.toks, rfl, fun _ _ _ e => e⟩ (nextok_congr (fun t ag' => ⟨fun b o hb e => ag'.heap b o hb (ag.heap b o hb e), fun i hi => (ag'.gens i hi).trans (ag.gens i hi)⟩) hn) fun b hb => .inl hb)
theorem let_name {x : Str} {px : Pos} {it v : Value} : letOwnedTupleGo (.Name x px) it v = pure () := by
  cases it <;> rfl
/-- the pair objects are among the kept -/
noncomputable def Item (kp : List (Addr × Obj)) (v : Value) : Prop := ∃ a n x tn tx c, v = .ref a ∧ kp.lookup a = some (pairO n x tn tx c) ∧ (KBw.bInts n).length ≤ 1000 ∧ (KBw.bInts x).length ≤ 1000
/-- the two byte strings of an item -/
noncomputable def bytesOf : Value → List Int
  | .bytes b _ => KBw.bInts b
  | _ => []
noncomputable def pairOf (o : Obj) : List Int × List Int := match o.data with
  | .seq vs _ => (bytesOf (vs.getD 0 .none), bytesOf (vs.getD 1 .none))
  | _ => ([], [])
noncomputable def cont (kp : List (Addr × Obj)) : Value → List Int × List Int
  | .ref a => match kp.lookup a with
    | some o => pairOf o
    | none => ([], [])
  | _ => ([], [])
theorem cont_of {kp : List (Addr × Obj)} {a : Addr} {n x : Array UInt8} {tn tx : Tok} {c : Nat} (h : kp.lookup a = some (pairO n x tn tx c)) : cont kp (.ref a) = (KBw.bInts n, KBw.bInts x) := by
  simp only [cont, h]
  rfl
theorem mem_of_lookup {kp : List (Addr × Obj)} {a : Addr} {o : Obj} : kp.lookup a = some o → (a, o) ∈ kp := by
  induction kp with
  | nil => intro h; cases h
  | cons p r ih =>
    intro h
    obtain ⟨b, o'⟩ := p
    rw [List.lookup_cons] at h
    split at h
    · rename_i e
      have e' : a = b := by simpa using e
      cases h; subst e'; exact .head _
    · exact .tail _ (ih h)
end
section
variable {w : World} {mean : ExcName → Option Value} {mg mb : Str → Option Value} {b0 : Heap} {kp : List (Addr × Obj)} {dn un : Nat}
variable {env : Env} {L : Addr} {σ : Type} {step : σ → Value → Option σ} {fin : σ → Bool} {x₀ : Str} {px : Pos} {B pre post : List Stmt} {ItemP : Value → Prop} {og : Nat → Prop} {ohk : Addr → Prop}
theorem stage_new {body : List Stmt} {iter : Expr} {yp ys pf py : Pos} {strm : Strm} {x : σ} {s : Shared} (hb : body = pre ++ (.For (.Name x₀ px) iter (B ++ [.Expr (.Yield (some (.Name x₀ py)) yp) ys]) [] pf :: post))
    (hk : env.scope.kind ≠ .module) (hf : env.frame = some L) (hoL : ohk L) (hns : ∃ m, s.heap.Ns L m)
    (hfold : ∀ x, foldedSetIterable iter env x = pure x)
    (start : ∀ s₁ A' outer E, Agree ohk og s s₁ → CxB w mean mg mb b0 kp dn un A' (env :: outer) s₁ → (∀ b ∈ frs outer, ¬ ohk b) →
      wpAny (model Pg w) A' (execs pre env) (fun f s₂ => f = .next ∧ wpAny (model Pg w) A' (eval iter env) (fun xv s₃ => wpAny (model Pg w) A' (pyIter xv)
        (Ready w mean mg mb b0 kp dn un env L step fin x₀ px B post ItemP og ohk strm x s₁) E s₃) E s₂) E s₁) :
    GRun w mean mg mb b0 kp (dn + 1) (un + 3) (outS step fin x strm) (.fresh (.func body env)) ohk og s := by
  subst hb
  exact stage_fresh hk hf hoL hns hfold start
end
section
variable {w : World} {mean : ExcName → Option Value} {mg mb : Str → Option Value} {b0 : Heap} {kp : List (Addr × Obj)} {dn un : Nat}
variable {env : Env} {L : Addr} {σ : Type} {step : σ → Value → Option σ} {fin : σ → Bool} {x₀ : Str} {px : Pos} {B post : List Stmt} {ItemP : Value → Prop} {og : Nat → Prop} {oh ohk : Addr → Prop}
theorem ready_of {strm : Strm} {src : Value} {s s₁ s₂ : Shared} {Inv : σ → Heap → Prop} {fp : Addr → Prop} {x : σ} {A' : Around} {l : List Env} {E : Value → Shared → Prop}
    (hsrc : SrcOk w mean mg mb b0 kp dn un strm src oh og s) (ag : Agree oh og s s₂) (cxb : CxB w mean mg mb b0 kp dn un A' l s₂)
    (S : Stg w mean mg mb b0 kp dn un env L Inv fp step fin x₀ px B post ItemP) (hI : Inv x s₂.heap) (hfp : ∀ b, fp b → ¬ oh b ∧ After ohk s₁ b) (hoo : ∀ b, oh b → ohk b) (stp : Stp ohk s₁ s₂) (hall : strmAll ItemP strm) :
    wpAny (model Pg w) A' (pyIter src) (Ready w mean mg mb b0 kp dn un env L step fin x₀ px B post ItemP og ohk strm x s₁) E s₂ := by
  refine hsrc s₂ A' l _ _ ag cxb fun s₃ it oh' stp' hn hoh' => ?_
  obtain ⟨h', tk', rfl, k⟩ := stp
  obtain ⟨h'', tk'', rfl, k'⟩ := stp'
  refine ⟨Inv, fp, oh', S, hall, hn, S.stab x _ _ hI fun b o _ e => k' b o id e, fun b hb q => ?_, fun b hb => ?_, ⟨h'', tk'', rfl, fun b o hb e => k' b o id (k b o hb e)⟩, fun v => let_name⟩
  · rcases hoh' b q with q | q
    · exact (hfp b hb).1 q
    · obtain ⟨o, ho⟩ := S.there x _ b hI hb
      have q' : h'.get? b = none := q
      rw [ho] at q'; cases q'
  · rcases hb with hb | hb
    · rcases hoh' b hb with q | q
      · exact .inl (hoo b q)
      · by_cases z : ohk b
        · exact .inl z
        · cases e : s₁.heap.get? b with
          | none => exact .inr e
          | some o => have q' : h'.get? b = none := q
                      rw [k b o z e] at q'; cases q'
    · exact (hfp b hb).2
theorem agree_new {s s₁ : Shared} {h' : Heap} {o : Obj} {gs : GenState} {tk : Nat} (x : Ext s.heap h') (hog : ∀ g, og g → g < s.gens.size) (hoo : ∀ b, oh b → ohk b)
    (ag : Agree ohk og { s with heap := h'.push o, gens := s.gens.push gs, toks := tk } s₁) : Agree oh og s s₁ :=
  ⟨fun b o' hb e => ag.heap b o' (hoo b hb) (Heap.get?_push_of_some _ (x b o' e)), fun g hg => (ag.gens g hg).trans (by
    show (s.gens.push gs)[g]? = _
    rw [Array.getElem?_push_lt (hog g hg)]; exact (Array.getElem?_eq_getElem (hog g hg)).symm)⟩
end
section
variable {w : World} {mean : ExcName → Option Value} {mg mb : Str → Option Value} {b0 : Heap} {kp : List (Addr × Obj)} {dn un : Nat}
/-! ## the ends of a stage's body -/
variable {env : Env} {outer : List Env} {L : Addr} {fp : Addr → Prop} {s₁ : Shared} {h h' : Heap} {m : Str → Option Value} {news : List (Addr × Obj)} {e : Addr} {args : List Value} {tk : Nat}
theorem end_ok (x : Ext b0 s₁.heap) (F : Fr b0 L h m) (N : News b0 L h news) (i : ∀ p ∈ ledger b0 fp s₁.heap, p ∈ news) : Stp fp s₁ { s₁ with heap := h, toks := tk } :=
  ⟨h, tk, rfl, kept_of x F N i⟩
theorem raise_keep (hk : env.scope.kind ≠ .module) (hf : env.frame = some L) (G : Gd w mean mg mb b0 (env :: outer) s₁.heap) (out : ∀ b ∈ frs outer, ¬ fp b) (k : ∀ b o, ¬ fp b → s₁.heap.get? b = some o → h.get? b = some o)
    (hn : h.Ns L m) (M : h.MadeExcOf h' e PE args) : StpE fp (env :: outer) e s₁ { s₁ with heap := h', toks := tk } := by
  obtain ⟨_, _, hrest⟩ := G.F
  have hfr := frs_cons (outer := outer) hf
  have ff : h'.FunFrames {} (env :: outer) := Heap.FunFrames.cons hk hf (hn.keeps M.keeps) (by simp [Heap.get?]) (funFrames_keep hrest fun b hb o ho => ⟨o, M.keeps b o (k b o (out b hb) ho), rfl⟩)
  refine ⟨h', tk, rfl, .inr (.inl ⟨fun b o q => ?_, ?_, funFrames_p (p := fun b => fp b ∨ b ∈ frs (env :: outer)) ff fun b hb => hideP_none (.inr hb), ?_⟩), fun b hb hnf o ho => ⟨o.slots, M.keeps b o (k b o hnf ho)⟩⟩
  · exact M.keeps b o (k b o (fun z => hideP_notp q (.inl z)) (of_hideP q))
  · cases q : (hideP s₁.heap fun b => fp b ∨ b ∈ frs (env :: outer)).get? e with
    | none => rfl
    | some o =>
      have := k e o (fun z => hideP_notp q (.inl z)) (of_hideP q)
      rw [M.new] at this; cases this
  · obtain ⟨t, ht, _⟩ := M.there
    exact ⟨_, _, .ref t, ht, rfl, rfl, rfl, rfl, rfl⟩
theorem end_raise (hk : env.scope.kind ≠ .module) (hf : env.frame = some L) (G : Gd w mean mg mb b0 (env :: outer) s₁.heap) (out : ∀ b ∈ frs outer, ¬ fp b) (F : Fr b0 L h m) (N : News b0 L h news) (i : ∀ p ∈ ledger b0 fp s₁.heap, p ∈ news)
    (M : h.MadeExcOf h' e PE args) : StpE fp (env :: outer) e s₁ { s₁ with heap := h', toks := tk } :=
  raise_keep hk hf G out (kept_of G.S F N i) F.ns M
theorem cxb_step {A' : Around} (cx : CxB w mean mg mb b0 kp dn un A' (env :: outer) s₁) (hk : env.scope.kind ≠ .module) (hf : env.frame = some L) (k : ∀ b o, ¬ fp b → s₁.heap.get? b = some o → h.get? b = some o) (hn : h.Ns L m)
    (out : ∀ b ∈ frs outer, ¬ fp b) (lo : ∀ b, fp b → b0.get? b = none ∧ ∀ p ∈ kp, p.1 ≠ b) : CxB w mean mg mb b0 kp dn un A' (env :: outer) { s₁ with heap := h, toks := tk } := by
  obtain ⟨_, _, hrest⟩ := cx.G.F
  exact ⟨cx.hd, cx.fr, cx.gs, cx.dp, cx.cu, ⟨cx.G.X0, cx.G.T0, fun b o e => k b o (fun q => by rw [(lo b q).1] at e; cases e) (cx.G.S b o e),
    Heap.FunFrames.cons hk hf hn (by simp [Heap.get?]) (funFrames_keep hrest fun b hb o ho => ⟨o, k b o (out b hb) ho, rfl⟩)⟩, cx.d.keeps fun p hp o e => k p.1 o (fun q => (lo p.1 q).2 p hp rfl) e⟩
/-- an object of the kept, at the head of the ledger -/
theorem news_kept {L a : Addr} {o : Obj} (hL : fp L) (hk : Kept kp s₁.heap) (lo : ∀ b, fp b → ∀ p ∈ kp, p.1 ≠ b) (hin : (a, o) ∈ kp) (h0 : b0.get? a = none) : News b0 L s₁.heap ((a, o) :: ledger b0 fp s₁.heap) := fun p hp => by
  rcases List.mem_cons.mp hp with rfl | hp
  · exact ⟨hk _ hin, fun q => lo L hL _ hin q, h0⟩
  · exact news_ledger hL p hp
end
section
variable {w : World} {mean : ExcName → Option Value} {mg mb : Str → Option Value} {b0 : Heap} {kp : List (Addr × Obj)} {dn un : Nat}
/-- a source at s, all its own made since s0 -/
noncomputable def SrcAt (w : World) (mean : ExcName → Option Value) (mg mb : Str → Option Value) (b0 : Heap) (kp : List (Addr × Obj)) (dn un : Nat) (strm : Strm) (v : Value) (s0 s : Shared) : Prop :=
  ∃ oh og, SrcOk w mean mg mb b0 kp dn un strm v oh og s ∧ (∀ b, oh b → s0.heap.get? b = none ∧ ∃ o, s.heap.get? b = some o) ∧ ∀ g, og g → s0.gens.size ≤ g ∧ g < s.gens.size
noncomputable def GenAt (w : World) (mean : ExcName → Option Value) (mg mb : Str → Option Value) (b0 : Heap) (kp : List (Addr × Obj)) (dn un : Nat) (strm : Strm) (a : Addr) (s0 s : Shared) : Prop :=
  ∃ g oh og, s.heap.IsGen a g ∧ oh a ∧ NextOk w mean mg mb b0 kp dn un strm (.ref a) oh og s ∧ (∀ b, oh b → s0.heap.get? b = none ∧ ∃ o, s.heap.get? b = some o) ∧ ∀ g, og g → s0.gens.size ≤ g ∧ g < s.gens.size
theorem GenAt.src {strm : Strm} {a : Addr} {s0 s : Shared} (x : GenAt w mean mg mb b0 kp dn un strm a s0 s) : SrcAt w mean mg mb b0 kp dn un strm (.ref a) s0 s :=
  let ⟨_, oh, og, hg, ha, hn, h1, h2⟩ := x; ⟨oh, og, src_gen hg ha hn, h1, h2⟩
/-- what was made since s0 is kept -/
structure Later (s0 s s' : Shared) : Prop where
  heap : ∀ b o, s0.heap.get? b = none → s.heap.get? b = some o → s'.heap.get? b = some o
  gens : ∀ g, s0.gens.size ≤ g → g < s.gens.size → s'.gens[g]? = s.gens[g]?
theorem Later.lt {s0 s s' : Shared} (l : Later s0 s s') {g : Nat} (h : s0.gens.size ≤ g ∧ g < s.gens.size) : s0.gens.size ≤ g ∧ g < s'.gens.size :=
  ⟨h.1, by
    have := l.gens g h.1 h.2
    rw [Array.getElem?_eq_getElem h.2] at this
    exact (Array.getElem?_eq_some_iff.mp this).1⟩
theorem Later.agree {s0 s s' : Shared} {oh : Addr → Prop} {og : Nat → Prop} (l : Later s0 s s') (h1 : ∀ b, oh b → s0.heap.get? b = none ∧ ∃ o, s.heap.get? b = some o) (h2 : ∀ g, og g → s0.gens.size ≤ g ∧ g < s.gens.size) :
    ∀ t, Agree oh og s' t → Agree oh og s t := fun t ag => ⟨fun b o hb e => ag.heap b o hb (l.heap b o (h1 b hb).1 e), fun g hg => (ag.gens g hg).trans (l.gens g (h2 g hg).1 (h2 g hg).2)⟩
theorem SrcAt.later {strm : Strm} {v : Value} {s0 s s' : Shared} (x : SrcAt w mean mg mb b0 kp dn un strm v s0 s) (l : Later s0 s s') : SrcAt w mean mg mb b0 kp dn un strm v s0 s' :=
  let ⟨oh, og, hs, h1, h2⟩ := x
  ⟨oh, og, fun s₁ A' ll Q E ag => hs s₁ A' ll Q E (l.agree h1 h2 s₁ ag), fun b hb => ⟨(h1 b hb).1, let ⟨o, ho⟩ := (h1 b hb).2; ⟨o, l.heap b o (h1 b hb).1 ho⟩⟩, fun g hg => l.lt (h2 g hg)⟩
theorem GenAt.later {strm : Strm} {a : Addr} {s0 s s' : Shared} (x : GenAt w mean mg mb b0 kp dn un strm a s0 s) (l : Later s0 s s') : GenAt w mean mg mb b0 kp dn un strm a s0 s' :=
  let ⟨g, oh, og, hg, ha, hs, h1, h2⟩ := x
  ⟨g, oh, og, (let ⟨o, nm, qn, ho, r⟩ := hg; ⟨o, nm, qn, l.heap a o (h1 a ha).1 ho, r⟩), ha, nextok_congr (l.agree h1 h2) hs, fun b hb => ⟨(h1 b hb).1, let ⟨o, ho⟩ := (h1 b hb).2; ⟨o, l.heap b o (h1 b hb).1 ho⟩⟩, fun g hg => l.lt (h2 g hg)⟩
/-- a generator just made: from its run to its nexts -/
theorem gen_new {strm : Strm} {s0 s : Shared} {gs : GenState} {h' : Heap} {nm qn : Str} {t t' : Tok} {tk : Nat} {oh : Addr → Prop} {og : Nat → Prop} {L' : Addr} {m : Str → Option Value}
    (hx0 : ∀ b o, s0.heap.get? b = some o → ∃ o', s.heap.get? b = some o') (hz : s0.gens.size ≤ s.gens.size) (F : Fr s.heap L' h' m) (hL : s.heap.get? L' = none)
    (h1 : ∀ b, oh b → s0.heap.get? b = none ∧ ∃ o, s.heap.get? b = some o) (h2 : ∀ g, og g → s0.gens.size ≤ g ∧ g < s.gens.size)
    (hr : GRun w mean mg mb b0 kp dn (un + 1) strm gs (fun b => oh b ∨ b = L') og { s with heap := h'.push (genObj s.gens.size nm qn t t'), gens := s.gens.push gs, toks := tk }) :
    GenAt w mean mg mb b0 kp dn (un + 2) strm h'.objs.size s0 { s with heap := h'.push (genObj s.gens.size nm qn t t'), gens := s.gens.push gs, toks := tk } := by
  have hga : (h'.push (genObj s.gens.size nm qn t t')).IsGen h'.objs.size s.gens.size := ⟨_, _, _, Heap.get?_push_size _ rfl, rfl, rfl, rfl⟩
  have hn0 : h'.get? h'.objs.size = none := by
    cases e : h'.get? h'.objs.size with
    | none => rfl
    | some o => exact absurd (Heap.lt_size e) (Nat.lt_irrefl _)
  have hno : ∀ b, (∃ o, h'.get? b = some o) → b ≠ h'.objs.size := fun b ⟨o, ho⟩ q => by rw [q, hn0] at ho; cases ho
  obtain ⟨oL, _, _, hoL, _⟩ := id F.ns
  have s0n : ∀ b, s.heap.get? b = none → s0.heap.get? b = none := fun b hb => by
    cases e : s0.heap.get? b with
    | none => rfl
    | some o => obtain ⟨o', ho'⟩ := hx0 b o e; rw [hb] at ho'; cases ho'
  have sn : s.heap.get? h'.objs.size = none := by
    cases e : s.heap.get? h'.objs.size with
    | none => rfl
    | some o => rw [F.keep _ o e] at hn0; cases hn0
  refine ⟨s.gens.size, fun b => (oh b ∨ b = L') ∨ b = h'.objs.size, fun g => og g ∨ g = s.gens.size, hga, .inr rfl, next_of_gen strm hga (by simp) (fun q => absurd (h2 _ q).2 (Nat.lt_irrefl _)) (fun q => ?_) hr, fun b hb => ?_, fun g hg => ?_⟩
  · rcases q with q | q
    · obtain ⟨o, ho⟩ := (h1 _ q).2
      rw [sn] at ho; cases ho
    · exact hno L' ⟨_, hoL⟩ q.symm
  · rcases hb with (hb | rfl) | rfl
    · exact ⟨(h1 b hb).1, let ⟨o, ho⟩ := (h1 b hb).2; ⟨o, Heap.get?_push_of_some _ (F.keep b o ho)⟩⟩
    · exact ⟨s0n _ hL, oL, Heap.get?_push_of_some _ hoL⟩
    · exact ⟨s0n _ sn, _, Heap.get?_push_size _ rfl⟩
  · show _ ∧ g < (s.gens.push gs).size
    rw [Array.size_push]
    rcases hg with hg | rfl
    · exact ⟨(h2 g hg).1, Nat.lt_succ_of_lt (h2 g hg).2⟩
    · exact ⟨hz, Nat.lt_succ_self _⟩
end

end
section
open PySem PySem.W PyProof.Rows PySem.Calls
set_option Elab.async false
set_option maxRecDepth 100000
set_option maxHeartbeats 4000000
set_option linter.unusedVariables false
/-! ## byte strings: lower, strip, find -/
open Builtin
theorem slot_lower : Slot "bytes" "lower" "bytes.lower" :=
  .of (owner := "bytes") (n := "lower") (by rw [typeLookup_type, builtinLookup_eq_fast]; kernel_rfl) (by decide +kernel) (by decide +kernel) (by decide +kernel)
    (by first | exact .inl (by decide +kernel) | exact .inr (by decide +kernel)) (by rw [isSubtype_type]; kernel_rfl)
theorem type_lower : typeOf (.builtin "bytes.lower") = pure (.type "method_descriptor") := by show builtinType _ = _; rw [builtinType_eq_fast]; kernel_rfl
theorem entry_lower : entryFor table "bytes.lower" = some Builtin.«bytes.lower» := entryFor_of_tree (by kernel_rfl)
theorem args_lower (a : Value) : argsOk "bytes.lower" ⟨[a], []⟩ := by
  unfold argsOk; rw [signature?_of (id := "bytes.lower") (n := ['r', 'e', 'w', 'o', 'l']) (o := ['s', 'e', 't', 'y', 'b']) (by kernel_rfl) FB.owner_bytes]; kernel_rfl
theorem slot_strip : Slot "bytes" "strip" "bytes.strip" :=
  .of (owner := "bytes") (n := "strip") (by rw [typeLookup_type, builtinLookup_eq_fast]; kernel_rfl) (by decide +kernel) (by decide +kernel) (by decide +kernel)
    (by first | exact .inl (by decide +kernel) | exact .inr (by decide +kernel)) (by rw [isSubtype_type]; kernel_rfl)
theorem type_strip : typeOf (.builtin "bytes.strip") = pure (.type "method_descriptor") := by show builtinType _ = _; rw [builtinType_eq_fast]; kernel_rfl
theorem entry_strip : entryFor table "bytes.strip" = some Builtin.«bytes.strip» := entryFor_of_tree (by kernel_rfl)
theorem args_strip (a b : Value) : argsOk "bytes.strip" ⟨[a, b], []⟩ := by
  unfold argsOk; rw [signature?_of (id := "bytes.strip") (n := ['p', 'i', 'r', 't', 's']) (o := ['s', 'e', 't', 'y', 'b']) (by kernel_rfl) FB.owner_bytes]; kernel_rfl
theorem slot_find : Slot "bytes" "find" "bytes.find" :=
  .of (owner := "bytes") (n := "find") (by rw [typeLookup_type, builtinLookup_eq_fast]; kernel_rfl) (by decide +kernel) (by decide +kernel) (by decide +kernel)
    (by first | exact .inl (by decide +kernel) | exact .inr (by decide +kernel)) (by rw [isSubtype_type]; kernel_rfl)
theorem type_find : typeOf (.builtin "bytes.find") = pure (.type "method_descriptor") := by show builtinType _ = _; rw [builtinType_eq_fast]; kernel_rfl
theorem entry_find : entryFor table "bytes.find" = some Builtin.«bytes.find» := entryFor_of_tree (by kernel_rfl)
theorem args_find (a b c : Value) : argsOk "bytes.find" ⟨[a, b, c], []⟩ := by
  unfold argsOk; rw [signature?_of (id := "bytes.find") (n := ['d', 'n', 'i', 'f']) (o := ['s', 'e', 't', 'y', 'b']) (by kernel_rfl) FB.owner_bytes]; kernel_rfl
section
variable {M : Model} {A : Around} {E : Value → Shared → Prop} {s : Shared} {b c : Array UInt8} {t u : Tok} {pl : Sem Bool} {Q : Value × List Value → Shared → Prop}
theorem gm_lower (h : Q (.builtin "bytes.lower", [.bytes b t]) s) : wpAny M A (getMethod (.bytes b t) "lower" pl) Q E s := by
  with_reducible exact KBd.method_of (.bytes b t) (typeIs_bytes _ _ _) slot_lower type_lower KBd.noRef h
theorem gm_strip (h : Q (.builtin "bytes.strip", [.bytes b t]) s) : wpAny M A (getMethod (.bytes b t) "strip" pl) Q E s := by
  with_reducible exact KBd.method_of (.bytes b t) (typeIs_bytes _ _ _) slot_strip type_strip KBd.noRef h
theorem gm_find (h : Q (.builtin "bytes.find", [.bytes b t]) s) : wpAny M A (getMethod (.bytes b t) "find" pl) Q E s := by
  with_reducible exact KBd.method_of (.bytes b t) (typeIs_bytes _ _ _) slot_find type_find KBd.noRef h
end
noncomputable def lowI (k : Int) : Int := if 65 ≤ k ∧ k ≤ 90 then k + 32 else k
theorem low_toNat (c : UInt8) : ((Bytes.toLower c).toNat : Int) = lowI c.toNat := by
  unfold Bytes.toLower Bytes.isUpper lowI
  have h1 : ((65 : UInt8) ≤ c ↔ (65 : Int) ≤ (c.toNat : Int)) := by rw [UInt8.le_iff_toNat_le]; simp; omega
  have h2 : (c ≤ (90 : UInt8) ↔ (c.toNat : Int) ≤ 90) := by rw [UInt8.le_iff_toNat_le]; simp; omega
  by_cases h : (65 : Int) ≤ (c.toNat : Int) ∧ (c.toNat : Int) ≤ 90
  · rw [if_pos h, if_pos (by simp only [Bool.and_eq_true, decide_eq_true_eq]; exact ⟨h1.mpr h.1, h2.mpr h.2⟩)]
    rw [UInt8.toNat_add]
    have : (32 : UInt8).toNat = 32 := rfl
    rw [this]
    omega
  · rw [if_neg h, if_neg (by simp only [Bool.and_eq_true, decide_eq_true_eq]; exact fun q => h ⟨h1.mp q.1, h2.mp q.2⟩)]
theorem gives_lower (b : Array UInt8) (t : Tok) : Gives («bytes.lower» ⟨[.bytes b t], []⟩) (.bytes (b.toList.map Bytes.toLower).toArray) := by
  refine .of_wp fun M A E s Q hq => ?_
  show wpAny M A (mkBytes (b.toList.map Bytes.toLower).toArray >>= fun r => ret r) _ E s
  exact wpAny_bind (wpAny_mkBytes (wpAny_pure ⟨_, rfl, hq.2⟩) hq.1)
noncomputable def stripL (d : List Int) (l : List Int) : List Int := ((l.dropWhile d.contains).reverse.dropWhile d.contains).reverse
theorem gives_strip (b c : Array UInt8) (t u : Tok) (hz : b.size ≤ sizeLine) : Gives («bytes.strip» ⟨[.bytes b t, .bytes c u], []⟩)
    (if ((b.toList.dropWhile c.contains).reverse.dropWhile c.contains).reverse.length = b.size then .val (.bytes b t) else .bytes ((b.toList.dropWhile c.contains).reverse.dropWhile c.contains).reverse.toArray) := by
  refine .of_wp fun M A E s Q hq => ?_
  show wpAny M A (Bytes.bytesLike _ (.bytes c u) >>= fun r => _) _ E s
  refine wpAny_bind (wpAny_of_eq KBd.like_eq ?_)
  show wpAny M A (if (((b.toList.dropWhile c.contains).reverse.dropWhile c.contains).reverse.length == b.size) = true then _ else _) _ E s
  by_cases hc : ((b.toList.dropWhile c.contains).reverse.dropWhile c.contains).reverse.length = b.size
  · rw [if_pos hc] at hq
    rw [if_pos (by simpa using hc)]
    refine wpAny_bind (wpAny_rule ?_)
    show wpAny M A ((typeOf (.bytes b t) >>= fun r => _) >>= fun r => _) _ E s
    refine wpAny_bind (wpAny_bind (wpAny_typeOf (typeIs_bytes s b t) ?_))
    exact wpAny_pure (wpAny_pure ⟨_, rfl, hq⟩)
  · rw [if_neg hc] at hq
    rw [if_neg (by simpa using hc)]
    show wpAny M A (mkBytes _ >>= fun r => ret r) _ E s
    exact wpAny_bind (wpAny_mkBytes (wpAny_pure ⟨_, rfl, hq.2⟩) hq.1)
theorem sp_int_index : typeLookup (.type "int") "__index__" = pure (some (.builtin "int.__index__")) := by rw [typeLookup_type, builtinLookup_eq_fast]; kernel_rfl
noncomputable def findR (b c : Array UInt8) (i : Int) : Int :=
  match (if (Bytes.window b.size (some i) none).2 - (Bytes.window b.size (some i) none).1 < c.size then none else some ((Bytes.window b.size (some i) none).1.toNat, (Bytes.window b.size (some i) none).2.toNat) : Option (Nat × Nat)).bind fun (lo, hi) => Bytes.find? b c lo hi with
  | some i => i
  | none => -1
theorem bound_int {i : Int} {v : Tok} : Bytes.bound? (some (.int i v)) = pure (some i) := by
  have e : specialOf (.int i v) "__index__" = typeLookup (.type "int") "__index__" := rfl
  unfold Bytes.bound?
  simp only [e, sp_int_index]
  rfl
theorem args_search {b c : Array UInt8} {i : Int} {t u v : Tok} : Bytes.searchArgs .bytes "find" ⟨[.bytes b t, .bytes c u, .int i v], []⟩ =
    pure (b, c, if (Bytes.window b.size (some i) none).2 - (Bytes.window b.size (some i) none).1 < c.size then none else some ((Bytes.window b.size (some i) none).1.toNat, (Bytes.window b.size (some i) none).2.toNat)) := by
  unfold Bytes.searchArgs
  have e1 : selfAndSome (toString Bytes.Kind.bytes.name ++ toString "." ++ toString "find") "find" 1 3 ⟨[.bytes b t, .bytes c u, .int i v], []⟩ = pure (.bytes b t, [.bytes c u, .int i v]) := rfl
  have e2 : ([.bytes c u, .int i v] : List Value)[1]? = some (.int i v) := rfl
  have e3 : ([.bytes c u, .int i v] : List Value)[2]? = none := rfl
  have e4 : Bytes.bound? none = pure none := rfl
  have e5 : ([.bytes c u, .int i v] : List Value).headD .none = .bytes c u := rfl
  have e6 : Bytes.payload (.bytes b t) = pure b := rfl
  simp only [e1, e2, e3, e4, e5, e6, bound_int, KBy.buffer_eq, pure_bind]
theorem gives_find (b c : Array UInt8) (i : Int) (t u v : Tok) : Gives («bytes.find» ⟨[.bytes b t, .bytes c u, .int i v], []⟩) (.int (findR b c i)) := by
  refine .of_wp fun M A E s Q hq => ?_
  show wpAny M A (Bytes.searchM .bytes "find" false false _) _ E s
  unfold Bytes.searchM
  rw [args_search]
  refine wpAny_bind (wpAny_pure ?_)
  unfold findR at hq
  dsimp only at hq ⊢
  simp only [Bool.false_eq_true, if_false]
  revert hq
  generalize (Option.bind _ _ : Option Nat) = r
  intro hq
  cases r with
  | some i =>
    show wpAny M A (mkInt (i : Int) >>= fun r => ret r) _ E s
    exact wpAny_bind (wpAny_mkInt (wpAny_pure ⟨_, rfl, hq⟩))
  | none =>
    refine wpAny_bind (wpAny_rule ?_)
    show wpAny M A (mkInt (-1) >>= fun r => ret r) _ E s
    exact wpAny_bind (wpAny_mkInt (wpAny_pure ⟨_, rfl, hq⟩))
theorem find_one {b : Array UInt8} {d : UInt8} {st : Nat} : (Bytes.find? b #[d] st b.size).isSome = decide (d ∈ b.toList.drop st) := by
  unfold Bytes.find?
  rw [Bool.eq_iff_iff, decide_eq_true_iff, List.find?_isSome]
  constructor
  · rintro ⟨i, hi, he⟩
    obtain ⟨k, hk, rfl⟩ := List.mem_map.mp hi
    rw [List.mem_range] at hk
    have hsz : (#[d] : Array UInt8).size = 1 := rfl
    rw [hsz] at hk he
    have hlt : k + st < b.size := by omega
    have e : b.extract (k + st) (k + st + 1) = #[d] := by simpa using he
    have : b[k + st] = d := by
      have := congrArg (·[0]?) e
      have h2 := (by simpa [Array.getElem?_extract, hlt] using this : 0 < Min.min (k + st + 1) b.size - (k + st) ∧ b[k + st] = d)
      exact h2.2
    refine List.mem_iff_getElem.mpr ⟨k, by simp; omega, ?_⟩
    simp [List.getElem_drop, Nat.add_comm st k, this]
  · intro h
    obtain ⟨k, hk, e⟩ := List.mem_iff_getElem.mp h
    rw [List.length_drop] at hk
    have hlt : k + st < b.size := by simp at hk; omega
    refine ⟨k + st, List.mem_map.mpr ⟨k, List.mem_range.mpr ?_, rfl⟩, ?_⟩
    · show k < b.size + 1 - (st + 1)
      omega
    · have e' : b[k + st] = d := by
        rw [List.getElem_drop] at e
        simpa [Nat.add_comm st k] using e
      have : b.extract (k + st) (k + st + 1) = #[d] := by
        apply Array.ext
        · simp; omega
        · intro i h1 h2
          have : i = 0 := by simp at h2; omega
          subst this
          simp [e']
      simp [this]
theorem find_at {b : Array UInt8} {d : UInt8} : findR b #[d] 1 = -1 ↔ ¬ d ∈ b.toList.drop 1 := by
  have hw : Bytes.window b.size (some 1) none = (1, (b.size : Int)) := by
    have h1 : ¬ ((1 : Int) < 0) := by omega
    have h2 : ¬ ((b.size : Int) < 0) := by omega
    simp only [Bytes.window, Option.getD, h1, h2, if_false]
    rw [Int.min_self]
  unfold findR
  rw [hw]
  dsimp only
  have hsz : (#[d] : Array UInt8).size = 1 := rfl
  rw [hsz]
  by_cases hlt : (b.size : Int) - 1 < ((1 : Nat) : Int)
  · rw [if_pos hlt]
    refine ⟨fun _ h => ?_, fun _ => rfl⟩
    have : b.toList.drop 1 = [] := by apply List.drop_eq_nil_of_le; simp; omega
    rw [this] at h; cases h
  · rw [if_neg hlt]
    have ht : ((1 : Int)).toNat = 1 := rfl
    have ht2 : ((b.size : Int)).toNat = b.size := by omega
    simp only [Option.bind_some, ht, ht2]
    have hf := find_one (b := b) (d := d) (st := 1)
    cases e : Bytes.find? b #[d] 1 b.size with
    | none =>
      rw [e] at hf
      simp only [Option.isSome_none] at hf
      exact ⟨fun _ h => (by rw [decide_eq_true h] at hf; cases hf), fun _ => rfl⟩
    | some i =>
      rw [e] at hf
      simp only [Option.isSome_some] at hf
      have hm : d ∈ b.toList.drop 1 := of_decide_eq_true hf.symm
      exact ⟨fun h => (by have : (i : Int) = -1 := h; omega), fun h => absurd hm h⟩
theorem mem_ints {b : Array UInt8} {n : Nat} {d : UInt8} : d ∈ b.toList.drop n ↔ (d.toNat : Int) ∈ (KBw.bInts b).drop n := by
  have e : (KBw.bInts b).drop n = (b.toList.drop n).map fun c => (c.toNat : Int) := by unfold KBw.bInts; rw [List.map_drop]
  rw [e, List.mem_map]
  constructor
  · exact fun h => ⟨d, h, rfl⟩
  · rintro ⟨c, hc, q⟩
    have : c = d := UInt8.toNat_inj.mp (by omega)
    exact this ▸ hc
section
variable {prog : Program} {w : World} {A : Around} {E : Value → Shared → Prop} {s : Shared} {b c : Array UInt8} {t u v : Tok} {Q : Value → Shared → Prop} {ks ls : List Int}
theorem lower_K (hk : KBw.bInts b = ks) (hz : ks.length ≤ 1000) (h : ∀ b' t' k, KBw.bInts b' = ks.map lowI → Q (.bytes b' t') { s with toks := k }) : wpAny (model prog w) A (call (.builtin "bytes.lower") [.bytes b t]) Q E s := by
  refine call_meets slot_lower (typeIs_bytes _ _ _) entry_lower (args_lower _) (gives_lower b t).meets ⟨?_, h _ _ _ ?_⟩
  · have := KBw.ints_length b
    rw [hk] at this
    rw [sizeLine_eq]; simp; omega
  · show KBw.bInts _ = _
    rw [← hk]
    unfold KBw.bInts
    simp only [List.map_map]
    exact List.map_congr_left fun c _ => low_toNat c
theorem drop_ints (d : List UInt8) : ∀ l : List UInt8, (l.dropWhile d.contains).map (fun c => (c.toNat : Int)) = (l.map fun c => (c.toNat : Int)).dropWhile (d.map fun c => (c.toNat : Int)).contains
  | [] => rfl
  | a :: r => by
    have e : (d.map fun c => (c.toNat : Int)).contains (a.toNat : Int) = d.contains a := by
      rw [Bool.eq_iff_iff, List.contains_iff_mem, List.contains_iff_mem, List.mem_map]
      constructor
      · rintro ⟨c, hc, q⟩
        have : c = a := UInt8.toNat_inj.mp (by omega)
        exact this ▸ hc
      · exact fun h => ⟨a, h, rfl⟩
    rw [List.map_cons, List.dropWhile_cons, List.dropWhile_cons, e]
    split
    · exact drop_ints d r
    · rfl
theorem strip_K (hk : KBw.bInts b = ks) (hl : KBw.bInts c = ls) (hz : ks.length ≤ 1000) (h : ∀ b' t' k, KBw.bInts b' = stripL ls ks → Q (.bytes b' t') { s with toks := k }) :
    wpAny (model prog w) A (call (.builtin "bytes.strip") [.bytes b t, .bytes c u]) Q E s := by
  have hb := KBw.ints_length b
  rw [hk] at hb
  have e : (((b.toList.dropWhile c.contains).reverse.dropWhile c.contains).reverse.map fun c => (c.toNat : Int)) = stripL ls ks := by
    have hc : (fun x => c.contains x) = c.toList.contains := by funext x; simp
    have hc' : c.contains = c.toList.contains := hc
    rw [hc', List.map_reverse, drop_ints, List.map_reverse, drop_ints]
    show _ = stripL ls ks
    rw [← hk, ← hl]
    rfl
  have hlen : ((b.toList.dropWhile c.contains).reverse.dropWhile c.contains).reverse.length ≤ b.size := by
    rw [List.length_reverse]
    refine Nat.le_trans (List.dropWhile_sublist _).length_le ?_
    rw [List.length_reverse]
    refine Nat.le_trans (List.dropWhile_sublist _).length_le ?_
    simp
  refine call_meets slot_strip (typeIs_bytes _ _ _) entry_strip (args_strip _ _) (gives_strip b c t u (by rw [sizeLine_eq]; omega)).meets ?_
  show Made.post (ite _ _ _) _ s
  split
  · rename_i hq
    have hsub : List.Sublist ((b.toList.dropWhile c.contains).reverse.dropWhile c.contains).reverse b.toList := by
      have h1 : List.Sublist ((b.toList.dropWhile c.contains).reverse.dropWhile c.contains) (b.toList.dropWhile c.contains).reverse := List.dropWhile_sublist _
      have h2 := h1.reverse
      rw [List.reverse_reverse] at h2
      exact h2.trans (List.dropWhile_sublist _)
    have heq := hsub.eq_of_length (by rw [hq]; simp)
    refine h b t s.toks ?_
    rw [← e, heq]; rfl
  · refine ⟨by rw [sizeLine_eq]; simp at hlen ⊢; omega, h _ _ _ ?_⟩
    rw [← e]; rfl
theorem find_K (hk : KBw.bInts b = ks) (hl : KBw.bInts c = [58]) (h : ∀ (r : Int) t' k, (r = -1 ↔ ¬ (58 : Int) ∈ ks.drop 1) → Q (.int r t') { s with toks := k }) :
    wpAny (model prog w) A (call (.builtin "bytes.find") [.bytes b t, .bytes c u, .int 1 v]) Q E s := by
  have hc : c = #[58] := by
    have hsz := KBw.ints_length c
    rw [hl] at hsz
    have h1 : c.size = 1 := by simpa using hsz.symm
    apply Array.ext
    · rw [h1]; rfl
    · intro i hi hj
      have : i = 0 := by omega
      subst this
      have : ((c[0]).toNat : Int) = 58 := by
        have q : (KBw.bInts c)[0]? = some 58 := by rw [hl]; rfl
        rw [KBw.ints_get (c := c[0]) (by simp [h1])] at q
        exact Option.some.inj q
      exact UInt8.toNat_inj.mp (by have : (58 : UInt8).toNat = 58 := rfl; simp; omega)
  subst hc
  refine call_meets slot_find (typeIs_bytes _ _ _) entry_find (args_find _ _ _) (gives_find b #[58] 1 t u v).meets (h _ _ _ ?_)
  rw [find_at, mem_ints, hk]
  rfl
end

end
section
open PySem PySem.W PyProof.Rows PySem.Calls
set_option Elab.async false
set_option maxRecDepth 100000
set_option maxHeartbeats 4000000
set_option linter.unusedVariables false
open Builtin
theorem no_bytes_index : typeLookup (.type "bytes") "__index__" = pure none := by rw [typeLookup_type, builtinLookup_eq_fast]; kernel_rfl
theorem typeName_bytes : typeNameCut 200 (.type "bytes") = pure "bytes" := by kernel_rfl
section
variable {α : Type} {M : Model} {A : Around} {E : Value → Shared → Prop} {s : Shared} {b c : Array UInt8} {t u : Tok}
theorem asIndex_bytes {Q : Int → Shared → Prop} (hh : A.handled = none) (h : ∀ h' tk e, Heap.NewExc s.heap h' e "TypeError" → E (.ref e) { s with heap := h', toks := tk }) : wpAny M A (asIndex (.bytes c u)) Q E s := by
  unfold asIndex
  refine wpAny_bind (m := asInt? (.bytes c u)) (wpAny_of_eq (a := none) rfl ?_)
  refine wpAny_bind (wpAny_callSpecial?_none (typeIs_bytes s c u) no_bytes_index ?_)
  dsimp only
  refine wpAny_bind (m := typeNameOfCut 200 (.bytes c u)) ?_
  unfold typeNameOfCut shownTypeOf
  refine wpAny_bind (wpAny_bind (wpAny_typeOf (typeIs_bytes s c u) ?_))
  simp only [show (Value.type "bytes" == Value.type "builtin_function_or_method") = false by decide, Bool.false_eq_true, if_false]
  refine wpAny_pure ?_
  rw [typeName_bytes]
  refine wpAny_pure ?_
  refine wpAny_raiseErrorMade plainExc_TypeError hh h (by rw [sizeLine_eq]; decide +kernel)
theorem meets_contains (b c : Array UInt8) (t u : Tok) : Meets («bytes.__contains__» ⟨[.bytes b t, .bytes c u], []⟩)
    (fun A R s => A.handled = none ∧ ∀ h' tk, Ext s.heap h' → R (.ok (.ret (.bool (Bytes.find? b c 0 b.size).isSome))) { s with heap := h', toks := tk }) := by
  refine .of_wp fun prog w A R s h => ?_
  obtain ⟨hh, h⟩ := h
  show wpAny _ A.in1 (Bytes.containsIn "bytes.__contains__" (.bytes b t) (.bytes c u) >>= fun r => ret (.bool r)) _ _ s
  refine wpAny_bind ?_
  unfold Bytes.containsIn
  refine wpAny_bind (wpAny_attempt (asIndex_bytes hh fun h' tk e ne => ?_))
  rw [KBy.buffer_eq]
  refine wpAny_bind (wpAny_pure ?_)
  dsimp only
  rw [KBy.buffer_eq]
  refine wpAny_bind (wpAny_pure ?_)
  dsimp only
  exact wpAny_bind (wpAny_rule (wpAny_pure (wpAny_pure ⟨_, rfl, h h' tk fun b o e => ne.keeps b o e⟩)))
end
section
variable {prog : Program} {w : World} {A : Around} {E : Value → Shared → Prop} {s : Shared} {b c : Array UInt8} {t u v : Tok} {Q : Value → Shared → Prop} {ks ls : List Int} {h₀ : Heap} {L : Addr} {m : PySem.Str → Option Value} {news : List (Addr × Obj)}
theorem one_byte {d : UInt8} (hl : KBw.bInts c = [(d.toNat : Int)]) : c = #[d] := by
  have hsz := KBw.ints_length c
  rw [hl] at hsz
  have h1 : c.size = 1 := by simpa using hsz.symm
  apply Array.ext
  · rw [h1]; rfl
  · intro i hi hj
    have : i = 0 := by omega
    subst this
    have : ((c[0]).toNat : Int) = d.toNat := by
      have q : (KBw.bInts c)[0]? = some (d.toNat : Int) := by rw [hl]; rfl
      rw [KBw.ints_get (c := c[0]) (by simp [h1])] at q
      exact Option.some.inj q
    exact UInt8.toNat_inj.mp (by simp; omega)
theorem inb_K (hk : KBw.bInts b = ks) (hl : KBw.bInts c = [58]) (hh : A.handled = none) (F : Fr h₀ L s.heap m) (N : News h₀ L s.heap news)
    (h : ∀ h' tk, Fr h₀ L h' m → News h₀ L h' news → Q (.bool (decide ((58 : Int) ∈ ks))) { s with heap := h', toks := tk }) : wpAny (model prog w) A (compareOp .In (.bytes c u) (.bytes b t)) Q E s := by
  have hc : c = #[58] := one_byte (d := 58) hl
  subst hc
  refine SeqRoads2.in_meets (typeIs_bytes _ _ _) FB.slot_bytes_contains FB.entry_bytes_contains (FB.args_bytes_contains_2 _ _) (meets_contains b #[58] t u) ⟨hh, fun h' tk x => ⟨_, rfl, ?_⟩⟩
  have e : (Bytes.find? b #[58] 0 b.size).isSome = decide ((58 : Int) ∈ ks) := by
    rw [find_one, ← hk]
    have := mem_ints (b := b) (n := 0) (d := 58)
    rw [List.drop_zero, List.drop_zero] at this
    rw [List.drop_zero, Bool.eq_iff_iff, decide_eq_true_iff, decide_eq_true_iff]
    exact this
  rw [e]
  exact h h' tk (x.fr F) (x.news N)
/-! ### equality of byte strings, as a list or a tuple asks for it -/
theorem eqb_same {x y : Array UInt8} : (x.toList == y.toList) = decide (KBw.bInts x = KBw.bInts y) := by
  rw [Bool.eq_iff_iff, beq_iff_eq, decide_eq_true_iff]
  unfold KBw.bInts
  constructor
  · exact fun h => by rw [h]
  · intro h
    exact (List.map_inj_right fun a b e => UInt8.toNat_inj.mp (by omega)).mp h
theorem eqGives_bytes (x y : Array UInt8) (t u : Tok) : MeetsSeq.EqGives (.bytes x t) (.bytes y u) (decide (KBw.bInts x = KBw.bInts y)) := by
  intro prog w A E s Q h
  rw [← eqb_same] at h
  unfold eqBool
  refine wpAny_holding ?_
  refine wpAny_ite_split (fun hab => ?_) (fun hab => ?_)
  · have e : x = y := by have := eq_of_beq hab; injection this
    subst e
    exact wpAny_bind (wpAny_rule (wpAny_pure (by simpa using h)))
  · exact wpAny_bind (richCompare_gives (typeIs_bytes s x t) (typeIs_bytes s y u) FB.slot_bytes_eq FB.entry_bytes_eq (FB.args_bytes_eq_2 _ _) (gives_bytes_eq x y t u) (by simp [Made.takes]) (wpAny_truthy_bool h))
end
/-! ### in, among byte strings -/
section
variable {prog : Program} {w : World} {A : Around} {E : Value → Shared → Prop} {s : Shared} {x : Array UInt8} {t : Tok} {Q : Value → Shared → Prop} {l : Addr} {items : Array Value} {n : Nat}
noncomputable def isB : Value → Bool
  | .bytes _ _ => true
  | _ => false
noncomputable def bInt? : Value → List Int
  | .bytes b _ => KBw.bInts b
  | _ => []
theorem anyB {items : Array Value} {kss : List (List Int)} {ks : List Int} (hk : KBw.bInts x = ks) (hit : items.toList.map bInt? = kss) : items.any (fun y => decide (bInt? y = KBw.bInts x)) = kss.contains ks := by
  rw [← hit, hk, ← Array.any_toList, Bool.eq_iff_iff, List.any_eq_true, List.contains_iff_mem, List.mem_map]
  exact ⟨fun ⟨y, hy, e⟩ => ⟨y, hy, of_decide_eq_true e⟩, fun ⟨y, hy, e⟩ => ⟨y, hy, decide_eq_true e⟩⟩
theorem allB {items : Array Value} (hb : items.toList.all isB = true) : ∀ y ∈ items, MeetsSeq.EqGives y (.bytes x t) (decide (bInt? y = KBw.bInts x)) := fun y hy => by
  have := List.all_eq_true.mp hb y (by simpa using hy)
  cases y with
  | bytes b u => exact eqGives_bytes b x u t
  | _ => cases this
variable {kss : List (List Int)} {ks : List Int}
theorem in_tupB (hl : s.heap.get? l = some { cls := .type "tuple", data := .seq items n }) (hb : items.toList.all isB = true) (hit : items.toList.map bInt? = kss) (hk : KBw.bInts x = ks)
    (h : Q (.bool (kss.contains ks)) s) : wpAny (model prog w) A (compareOp .In (.bytes x t) (.ref l)) Q E s :=
  SeqRoads2.in_tuple (items := items) (n := n) _ (allB hb) hl (by rw [anyB hk hit]; exact h)
theorem notIn_tupB (hl : s.heap.get? l = some { cls := .type "tuple", data := .seq items n }) (hb : items.toList.all isB = true) (hit : items.toList.map bInt? = kss) (hk : KBw.bInts x = ks)
    (h : Q (.bool (!kss.contains ks)) s) : wpAny (model prog w) A (compareOp .NotIn (.bytes x t) (.ref l)) Q E s :=
  SeqRoads2.notIn_tuple (items := items) (n := n) _ (allB hb) hl (by rw [anyB hk hit]; exact h)
theorem in_listB (hl : s.heap.get? l = some { cls := .type "list", data := .seq items n }) (hb : items.toList.all isB = true) (hit : items.toList.map bInt? = kss) (hk : KBw.bInts x = ks)
    (h : Q (.bool (kss.contains ks)) s) : wpAny (model prog w) A (compareOp .In (.bytes x t) (.ref l)) Q E s :=
  SeqRoads2.in_list (items := items) (n := n) _ (allB hb) hl (by rw [anyB hk hit]; exact h)
theorem notIn_listB (hl : s.heap.get? l = some { cls := .type "list", data := .seq items n }) (hb : items.toList.all isB = true) (hit : items.toList.map bInt? = kss) (hk : KBw.bInts x = ks)
    (h : Q (.bool (!kss.contains ks)) s) : wpAny (model prog w) A (compareOp .NotIn (.bytes x t) (.ref l)) Q E s :=
  SeqRoads2.notIn_list (items := items) (n := n) _ (allB hb) hl (by rw [anyB hk hit]; exact h)
end

end
section
open PySem PySem.W PyProof.Rows PySem.Calls
set_option Elab.async false
set_option maxRecDepth 100000
set_option maxHeartbeats 4000000
set_option linter.unusedVariables false
open Builtin
theorem slot_brepr : Slot "bytes" "__repr__" "bytes.__repr__" :=
  .of (owner := "bytes") (n := "__repr__") (by rw [typeLookup_type, builtinLookup_eq_fast]; kernel_rfl) (by decide +kernel) (by decide +kernel) (by decide +kernel)
    (by first | exact .inl (by decide +kernel) | exact .inr (by decide +kernel)) (by rw [isSubtype_type]; kernel_rfl)
theorem entry_brepr : entryFor table "bytes.__repr__" = some Builtin.«bytes.__repr__» := entryFor_of_tree (by kernel_rfl)
theorem args_brepr (a : Value) : argsOk "bytes.__repr__" ⟨[a], []⟩ := by
  unfold argsOk; rw [signature?_of (id := "bytes.__repr__") (n := ['_', '_', 'r', 'p', 'e', 'r', '_', '_']) (o := ['s', 'e', 't', 'y', 'b']) (by kernel_rfl) FB.owner_bytes]; kernel_rfl
theorem foldl_len {g : Array Nat → UInt8 → Array Nat} (hg : ∀ acc c, (g acc c).size ≤ acc.size + 4) : ∀ (l : List UInt8) (acc : Array Nat), (l.foldl g acc).size ≤ acc.size + 4 * l.length
  | [], acc => by simp
  | c :: l, acc => by
    rw [List.foldl_cons]
    refine Nat.le_trans (foldl_len hg l _) ?_
    rw [List.length_cons]
    have := hg acc c
    omega
theorem literal_len (b : Array UInt8) : (Bytes.literal b).length ≤ 4 * b.size + 3 := by
  unfold Bytes.literal
  show (Array.push (Array.foldl _ _ b) _).size ≤ _
  rw [Array.size_push, ← Array.foldl_toList]
  refine Nat.succ_le_succ (Nat.le_trans (foldl_len (fun acc c => ?_) _ _) ?_)
  · dsimp only
    rw [Array.size_append]
    refine Nat.add_le_add_left ?_ _
    repeat' split
    all_goals (simp)
  · simp
    omega
theorem gives_brepr (b : Array UInt8) (t : Tok) (hz : b.size ≤ 1000) : Gives («bytes.__repr__» ⟨[.bytes b t], []⟩) (.str (Bytes.literal b)) := by
  refine .of_wp fun M A E s Q hq => ?_
  show wpAny M A (Bytes.literalAsked b >>= fun r => retStr r) _ E s
  have e : Bytes.literalAsked b = pure (Bytes.literal b) := by
    unfold Bytes.literalAsked
    have : Bytes.tooLong (4 * b.size + 3 + 0) = false := KBy.tooLong_not (by omega)
    rw [this]
    rfl
  rw [e]
  refine wpAny_bind (wpAny_pure ?_)
  exact wpAny_bind (wpAny_mkStr (wpAny_pure ⟨_, rfl, hq.2⟩) hq.1)
section
variable {prog : Program} {w : World} {A : Around} {E : Value → Shared → Prop} {s : Shared} {b : Array UInt8} {t : Tok} {Q : Value → Shared → Prop} {ks : List Int}
theorem repr_K (hk : KBw.bInts b = ks) (hz : ks.length ≤ 1000) (h : ∀ (x : PySem.Str) t' k, x.length ≤ 4003 → Q (.str x t') { s with toks := k }) : wpAny (model prog w) A (pyReprObj (.bytes b t)) Q E s := by
  have hb := KBw.ints_length b
  rw [hk] at hb
  have hl := literal_len b
  exact wpAny_pyReprObj_gives (typeIs_bytes s b t) slot_brepr entry_brepr (args_brepr _) (gives_brepr b t (by omega)) (h _ _ _ (by omega)) (hx := by rw [sizeLine_eq]; omega)
end
/-- the length of a text put together, by halves -/
theorem len_half {a b : PySem.Str} {n : Nat} (ha : a.length ≤ n / 2) (hb : b.length ≤ n / 2) : (a ++ b).length ≤ n :=
  Nat.le_trans (PySem.W.KT.len_app ha hb) (by omega)

end
section
open PySem PySem.W PyProof.Rows PySem.Calls
set_option Elab.async false
set_option maxRecDepth 100000
set_option maxHeartbeats 4000000
set_option linter.unusedVariables false
/-- the numbers of a written byte string -/
noncomputable def bl (l : List UInt8) : List Int := l.map fun c => (c.toNat : Int)
theorem bl_ints (l : List UInt8) : KBw.bInts l.toArray = bl l := rfl
noncomputable abbrev nMethod : List Int := bl [58, 109, 101, 116, 104, 111, 100]
noncomputable abbrev nScheme : List Int := bl [58, 115, 99, 104, 101, 109, 101]
noncomputable abbrev nAuth : List Int := bl [58, 97, 117, 116, 104, 111, 114, 105, 116, 121]
noncomputable abbrev nPath : List Int := bl [58, 112, 97, 116, 104]
noncomputable abbrev nStatus : List Int := bl [58, 115, 116, 97, 116, 117, 115]
noncomputable abbrev nProt : List Int := bl [58, 112, 114, 111, 116, 111, 99, 111, 108]
noncomputable abbrev nHost : List Int := bl [104, 111, 115, 116]
noncomputable abbrev nTe : List Int := bl [116, 101]
noncomputable abbrev vTrailers : List Int := bl [116, 114, 97, 105, 108, 101, 114, 115]
noncomputable abbrev vConnect : List Int := bl [67, 79, 78, 78, 69, 67, 84]
noncomputable abbrev wConn : List Int := bl [99, 111, 110, 110, 101, 99, 116, 105, 111, 110]
noncomputable abbrev wProxy : List Int := bl [112, 114, 111, 120, 121, 45, 99, 111, 110, 110, 101, 99, 116, 105, 111, 110]
noncomputable abbrev wKeep : List Int := bl [107, 101, 101, 112, 45, 97, 108, 105, 118, 101]
noncomputable abbrev wTransfer : List Int := bl [116, 114, 97, 110, 115, 102, 101, 114, 45, 101, 110, 99, 111, 100, 105, 110, 103]
noncomputable abbrev wUpgrade : List Int := bl [117, 112, 103, 114, 97, 100, 101]
noncomputable def ownL : List (List Int) := [wConn, wProxy, wKeep, wTransfer, wUpgrade]
noncomputable def allowedL : List (List Int) := [nMethod, nScheme, nAuth, nPath, nStatus, nProt]
noncomputable def reqL : List (List Int) := [nScheme, nPath, nAuth, nMethod, nProt]
section
variable {prog : Program} {w : World} {A : Around} {E : Value → Shared → Prop} {s : Shared} {b c : Array UInt8} {t u : Tok} {Q : Value → Shared → Prop} {ks ls : List Int}
theorem eqB_K (hk : KBw.bInts b = ks) (hl : KBw.bInts c = ls) (h : Q (.bool (decide (ks = ls))) s) : wpAny (model prog w) A (compareOp .Eq (.bytes b t) (.bytes c u)) Q E s := by
  refine eq_bytes ?_
  rw [eqb_same, hk, hl]; exact h
theorem neB_K (hk : KBw.bInts b = ks) (hl : KBw.bInts c = ls) (h : Q (.bool (!decide (ks = ls))) s) : wpAny (model prog w) A (compareOp .NotEq (.bytes b t) (.bytes c u)) Q E s := by
  refine ne_bytes ?_
  rw [bne, eqb_same, hk, hl]; exact h
end
noncomputable def KeepP (P : Prop) : Prop := P
section
variable {prog : Program} {w : World} {A : Around} {E : Value → Shared → Prop} {s : Shared} {value slice : Expr} {b : Array UInt8} {t ui : Tok} {ks : List Int} {i : Int} {Q : Value → Shared → Prop}
theorem item_A (hk : KBw.bInts b = ks) (hfit : ks.length ≤ 1000) (h0 : 0 ≤ i) (h1 : i < (ks.length : Int)) (h : ∀ c t' k, KeepP (c = ks.getD i.toNat 0) → 0 ≤ c → c < 256 → Q (.int c t') { s with toks := k })
    (hs : subscripted slice false (.bytes b t) (.int i ui) = operate [.bytes b t, .int i ui] (getItem (.bytes b t) (.int i ui)) := by with_unfolding_all rfl)
    (ht : ∀ r, letTemporaryGo value (.bytes b t) r = pure () := by intro _; with_unfolding_all rfl) : wpAny (model prog w) A (subscriptTail value slice (.bytes b t) (.int i ui)) Q E s :=
  KBw.item_K hk (by omega) h0 h1 (fun t' k hl hh => h _ t' k rfl hl hh) hs ht
theorem itemR_A (hk : KBw.bInts b = ks) (hfit : ks.length ≤ 1000) (h0 : -(ks.length : Int) ≤ i) (h1 : i < 0) (h : ∀ c t' k, KeepP (c = ks.getD (i + ks.length).toNat 0) → 0 ≤ c → c < 256 → Q (.int c t') { s with toks := k })
    (hs : subscripted slice false (.bytes b t) (.int i ui) = operate [.bytes b t, .int i ui] (getItem (.bytes b t) (.int i ui)) := by with_unfolding_all rfl)
    (ht : ∀ r, letTemporaryGo value (.bytes b t) r = pure () := by intro _; with_unfolding_all rfl) : wpAny (model prog w) A (subscriptTail value slice (.bytes b t) (.int i ui)) Q E s :=
  KBc.itemR_K hk (by omega) h0 h1 (fun t' k hl hh => h _ t' k rfl hl hh) hs ht
theorem item0_A (hk : KBw.bInts b = ks) (hfit : ks.length ≤ 1000) (h1 : 0 < ks.length) (h : ∀ c t' k, KeepP (c = ks.getD 0 0) → 0 ≤ c → c < 256 → Q (.int c t') { s with toks := k })
    (hs : subscripted slice false (.bytes b t) (.int 0 ui) = operate [.bytes b t, .int 0 ui] (getItem (.bytes b t) (.int 0 ui)) := by with_unfolding_all rfl)
    (ht : ∀ r, letTemporaryGo value (.bytes b t) r = pure () := by intro _; with_unfolding_all rfl) : wpAny (model prog w) A (subscriptTail value slice (.bytes b t) (.int 0 ui)) Q E s :=
  item_A hk hfit (by omega) (by omega) (fun c t' k e => h c t' k e) hs ht
theorem itemL_A (hk : KBw.bInts b = ks) (hfit : ks.length ≤ 1000) (h1 : 0 < ks.length) (h : ∀ c t' k, KeepP (c = ks.getD (ks.length - 1) 0) → 0 ≤ c → c < 256 → Q (.int c t') { s with toks := k })
    (hs : subscripted slice false (.bytes b t) (.int (-1) ui) = operate [.bytes b t, .int (-1) ui] (getItem (.bytes b t) (.int (-1) ui)) := by with_unfolding_all rfl)
    (ht : ∀ r, letTemporaryGo value (.bytes b t) r = pure () := by intro _; with_unfolding_all rfl) : wpAny (model prog w) A (subscriptTail value slice (.bytes b t) (.int (-1) ui)) Q E s :=
  itemR_A hk hfit (by omega) (by omega) (fun c t' k e => h c t' k (by
    have e2 : (-1 + (ks.length : Int)).toNat = ks.length - 1 := by omega
    unfold KeepP at e ⊢
    rw [e2] at e; exact e)) hs ht
end
theorem tupK {K : Frag} {h₀ h : Heap} {L l : Addr} {m : PySem.Str → Option Value} {o : Obj} (X : K.In h₀) (F : Fr h₀ L h m) (e : K.lookup l = some o) : h.get? l = some o := F.keep _ _ (X _ _ e)

end
section
open PySem PySem.W PyProof.Rows PySem.Calls PySem.W.X
set_option Elab.async false
set_option maxRecDepth 100000
set_option maxHeartbeats 4000000
set_option linter.unusedVariables false
/-! ## a raise within a loop of a function's body -/
noncomputable def EPass (P : Prop) (fp : Addr → Prop) (l : List Env) (s₁ : Shared) : Value → Shared → Prop := fun x s' => P ∧ ∃ e, x = .ref e ∧ StpE fp l e s₁ s'
theorem epass_passes {w : World} {A : Around} {P : Prop} {fp : Addr → Prop} {env : Env} {outer : List Env} {L : Addr} {s₁ : Shared} (hfr : A.frames = some (env :: outer)) (hf : env.frame = some L) :
    PassesOwn (model Pg w) A env (EPass P fp (env :: outer) s₁) := by
  rintro x s' ⟨hP, e, rfl, h', tk', rfl, infl, hsl⟩
  unfold notedBy
  refine note_any hfr hf infl fun h₁ a0 hh hu => ?_
  unfold cameBackBy
  obtain ⟨⟨g1, g2, g3, oe, vs, T, oT, ts, he, hcls, hd, h1, hnT, hTe, hT, hdT, h3⟩, nd⟩ := id hh
  refine wpAny_bind (wpAny_field he hd h1 ?_)
  rw [if_neg (by simp)]
  rw [hf]
  unfold setFlight
  refine wpAny_bind (wpAny_field he hd h1 ?_)
  rw [if_pos (show (Value.ref T != Value.none) = true from by simp)]
  have other : ∀ b, b ≠ T → (h₁.update T (Obj.mapFields (·.setIfInBounds 3 ((some L).elim Value.none fun f => rawInt f)))).get? b = h₁.get? b := fun b hb => Heap.get?_update_other _ _ (Ne.symm hb)
  have noRecord : ∀ b o, h₁.get? b = some o → (∀ vs, o.data ≠ .fields vs) → b ≠ T := fun b o hb hnf q => by
    rw [q, hT] at hb; injection hb with hb; subst hb; exact hnf ts hdT
  have hsz3 : 3 < ts.size := (Array.getElem?_eq_some_iff.mp h3).1
  refine wpAny_setField hT hdT hsz3 ⟨hP, e, rfl, _, _, rfl, .inr (.inr ⟨env, outer, L, a0, rfl, hf, ⟨⟨fun b o hbo => (other b fun q => by rw [q, hnT] at hbo; cases hbo).trans (g1 b o hbo), g2,
    g3.of_keeps fun b o hb hnf => ⟨o, (other b (noRecord b o hb hnf)).trans hb, rfl⟩, ?_⟩, fun o ho => nd o (((other e (Ne.symm hTe)).symm).trans ho)⟩⟩), fun b hb hnf => ?_⟩
  · exact ⟨oe, vs, T, _, _, (other e (Ne.symm hTe)).trans he, hcls, hd, h1, hnT, hTe, Heap.get?_update_self _ hT (Obj.isFreed_of_fields (Obj.data_mapFields hdT _)), Obj.data_mapFields hdT _, by simp [hsz3]⟩
  · refine (hsl b hb hnf).trans ((upTo_frs hu infl.frames b hb).trans fun o ho => ⟨o.slots, ?_⟩)
    obtain ⟨o', ho', hnf'⟩ := funFrames_there g3 b hb
    rw [ho] at ho'; cases ho'
    exact (other b (noRecord b o ho hnf')).trans ho
theorem with_epass {w : World} {A : Around} {α : Type} {n : Sem Unit} {m : Sem α} {Q : α → Shared → Prop} {E : Value → Shared → Prop} {P : Prop} {fp : Addr → Prop} {env : Env} {outer : List Env} {L : Addr} {s₁ s : Shared}
    (hE : P → ∀ s' e, StpE fp (env :: outer) e s₁ s' → E (.ref e) s')
    (h : ∀ EE : Value → Shared → Prop, PassesOwn (model Pg w) A env EE → (P → ∀ s' e, StpE fp (env :: outer) e s₁ s' → EE (.ref e) s') → wpAny (model Pg w) A n (fun _ s' => wpAny (model Pg w) A m Q EE s') EE s)
    (hfr : A.frames = some (env :: outer)) (hf : env.frame = some L) : wpAny (model Pg w) A n (fun _ s' => wpAny (model Pg w) A m Q E s') E s :=
  wpAny_mono (h _ (epass_passes hfr hf) fun hP s' e st => ⟨hP, e, rfl, st⟩) (fun _ _ x => wpAny_mono x (fun _ _ x => x) fun x s' ⟨hP, e, he, st⟩ => he ▸ hE hP s' e st) fun x s' ⟨hP, e, he, st⟩ => he ▸ hE hP s' e st
/-! ## a loop over a byte string that looks at each number -/
noncomputable def LoopMine (w : World) (A : Around) (h₀ : Heap) (env : Env) (x : Str) (body : List Stmt) (Q : Flow → Shared → Prop) (E : Value → Shared → Prop) (it : Value) (s₂ : Shared) : Prop := LoopAtV Pg w A h₀ env x body Q E it s₂
section
variable {w : World} {A : Around} {E : Value → Shared → Prop} {s : Shared} {env : Env} {h₀ : Heap} {x : Str} {body : List Stmt} {Q : Flow → Shared → Prop} {b : Array UInt8} {tb : Tok} {ks : List Int} {m₀ : Str → Option Value} {news : List (Addr × Obj)}
theorem For_mine {px pos : Pos} {iter : Expr} (F : Fr h₀ env.locals s.heap m₀) (hE : PassesOwn (model Pg w) A env E) (hx : env.kindOf x = some .local)
    (hp : (env.scope.kind == .class || (env.scope.kind == .module && env.locals != env.globals)) = false) (hs : ∀ x, foldedSetIterable iter env x = pure x)
    (h : wpAny (model Pg w) A (eval iter env) (fun xv s₁ => wpAny (model Pg w) A (pyIter xv) (fun it s₂ => LoopMine w A h₀ env x body Q E it s₂) E s₁) E s) :
    wpAny (model Pg w) A (exec (.For (.Name x px) iter body [] pos) env) Q E s := For_invV h₀ hx hp h hs hE
theorem iter_check (ok : Int → Bool) (hk : KBw.bInts b = ks) (hh : A.handled = none) (F : Fr h₀ env.locals s.heap m₀) (N : News h₀ env.locals s.heap news)
    (turn : ∀ (QQ : Flow → Shared → Prop) k t h tk own, k ∈ ks → 0 ≤ k → k < 256 → OwnOff own (news.map (·.1)) → Fr h₀ env.locals h (fun z => if z = x then some (.int k t) else m₀ z) → News h₀ env.locals h (news ++ own) →
      (∀ h' tk' m', Fr h₀ env.locals h' m' → (∀ z, z ≠ x → m' z = m₀ z) → News h₀ env.locals h' (news ++ own) → ok k = true → QQ .next { s with heap := h', toks := tk' }) →
      wpAny (model Pg w) A (execs body env) QQ E { s with heap := h, toks := tk })
    (done : (∀ k ∈ ks, ok k = true) → ∀ (u : Str → Option Value) h tk, Fr h₀ env.locals h (fun z => if z = x then u z else m₀ z) → News h₀ env.locals h news → Q .next { s with heap := h, toks := tk }) :
    wpAny (model Pg w) A (pyIter (.bytes b tb)) (fun it s₂ => LoopMine w A h₀ env x body Q E it s₂) E s := by
  refine KBw.iter_bytesS (σ := Bool) (fun a m nx => nx = news ∧ (∀ z, z ≠ x → m z = m₀ z) ∧ a = true) (fun a k => a && ok k) true hk hh F N ⟨rfl, fun _ _ => rfl, rfl⟩ ?_ ?_
  · rintro k t a m₁ nx h tk own hm0 h0 h1 hoff ⟨rfl, hm, rfl⟩ F₁ N₁
    have e : (fun y => if y = x then some (Value.int k t) else m₁ y) = fun y => if y = x then some (Value.int k t) else m₀ y := by
      funext y
      by_cases hy : y = x
      · rw [if_pos hy, if_pos hy]
      · rw [if_neg hy, if_neg hy]; exact hm y hy
    rw [e] at F₁
    exact turn _ k t h tk own hm0 h0 h1 hoff F₁ N₁ fun h' tk' m' F' hm' N' hok =>
      show InvEndN _ _ _ _ _ _ _ from ⟨h', tk', m', nx ++ own, nx, rfl, F', N', fun p hp => List.mem_append_left _ hp, fun p hp => List.mem_append_right _ hp, rfl, rfl, hm', by rw [hok]; rfl⟩
  · rintro m₁ nx h tk ⟨rfl, hm, hall⟩ F₁ N₁
    have hall' : ∀ (l : List Int) (a : Bool), l.foldl (fun a k => a && ok k) a = true → a = true ∧ ∀ k ∈ l, ok k = true := by
      intro l
      induction l with
      | nil => exact fun a h => ⟨h, fun k hk => nomatch hk⟩
      | cons k r ih =>
        intro a h
        obtain ⟨h1, h2⟩ := ih _ h
        rw [Bool.and_eq_true] at h1
        refine ⟨h1.1, fun k' hk' => ?_⟩
        rcases List.mem_cons.mp hk' with rfl | hk'
        · exact h1.2
        · exact h2 k' hk'
    refine done (hall' _ _ hall).2 m₁ h tk ?_ N₁
    have e : (fun z => if z = x then m₁ z else m₀ z) = m₁ := by
      funext z
      by_cases hz : z = x
      · rw [if_pos hz]
      · rw [if_neg hz]; exact (hm z hz).symm
    rw [e]; exact F₁
end

end
section
open PySem PySem.W PyProof.Rows PySem.Calls PySem.W.X
set_option Elab.async false
set_option maxRecDepth 100000
set_option maxHeartbeats 4000000
set_option linter.unusedVariables false
/-! ## a base that holds the kept objects too -/
noncomputable def under (L : Addr) (h : Heap) : Heap := ⟨h.objs.extract 0 L, h.life⟩
theorem under_get {L b : Addr} {h : Heap} : (under L h).get? b = if b < L then h.get? b else none := by
  unfold Heap.get? under
  have e : (h.objs.extract 0 L)[b]? = if b < L then h.objs[b]? else none := by
    rw [Array.getElem?_extract, Nat.zero_add, Nat.sub_zero]
    by_cases hb : b < L
    · rw [if_pos hb]
      by_cases hb2 : b < h.objs.size
      · rw [if_pos (Nat.lt_min.mpr ⟨hb, hb2⟩)]
      · rw [if_neg (fun q => hb2 (Nat.lt_min.mp q).2)]
        exact (Array.getElem?_eq_none (Nat.le_of_not_lt hb2)).symm
    · rw [if_neg hb, if_neg (fun q => hb (Nat.lt_min.mp q).1)]
  by_cases hb : b < L
  · rw [if_pos hb] at e ⊢
    rw [e]
  · rw [if_neg hb] at e ⊢
    rw [e]
theorem base_kp {b0 h : Heap} {kp : List (Addr × Obj)} {L : Addr} (x : Ext b0 h) (k : Kept kp h) (hlow : b0.objs.size ≤ L) (hkl : ∀ p ∈ kp, p.1 < L) :
    ∃ b1, Ext b0 b1 ∧ Ext b1 h ∧ b1.objs.size ≤ L ∧ Kept kp b1 ∧ ∀ b, b0.get? b = none → (∀ p ∈ kp, p.1 ≠ b) → b1.get? b = none := by
  refine ⟨hideP (under L h) (fun b => b0.get? b = none ∧ ∀ p ∈ kp, p.1 ≠ b), fun b o e => ?_, fun b o e => ?_, ?_, fun p hp => ?_, fun b h0 h1 => hideP_none ⟨h0, h1⟩⟩
  · refine hideP_get ?_ fun q => by rw [q.1] at e; cases e
    rw [under_get, if_pos (Nat.lt_of_lt_of_le (Heap.lt_size e) hlow)]
    exact x b o e
  · have := of_hideP e
    rw [under_get] at this
    split at this
    · exact this
    · cases this
  · unfold hideP
    rw [hideAll_size]
    show (h.objs.extract 0 L).size ≤ L
    rw [Array.size_extract, Nat.sub_zero]; exact Nat.min_le_left _ _
  · refine hideP_get ?_ fun q => q.2 p hp rfl
    rw [under_get, if_pos (hkl p hp)]
    exact k p hp
section
variable {w : World} {A : Around} {E : Value → Shared → Prop} {s : Shared} {h₀ : Heap} {L a : Addr} {m : PySem.Str → Option Value} {value slice : Expr} {n v : Array UInt8} {tn tv u : Tok} {c : Nat} {Q : Value → Shared → Prop}
theorem pair0_A (F : Fr h₀ L s.heap m) (hA : h₀.get? a = some (pairO n v tn tv c)) (h : Q (.bytes n tn) s)
    (hs : subscripted slice false (.ref a) (.int 0 u) = operate [.ref a, .int 0 u] (getItem (.ref a) (.int 0 u)) := by with_unfolding_all rfl) :
    wpAny (model Pg w) A (subscriptTail value slice (.ref a) (.int 0 u)) Q E s :=
  item_tupleT (l := [.bytes n tn, .bytes v tv]) ⟨_, F.keep _ _ hA, rfl, _, rfl⟩ (by decide) (by decide) (j := 0) rfl rfl h hs
theorem pair1_A (F : Fr h₀ L s.heap m) (hA : h₀.get? a = some (pairO n v tn tv c)) (h : Q (.bytes v tv) s)
    (hs : subscripted slice false (.ref a) (.int 1 u) = operate [.ref a, .int 1 u] (getItem (.ref a) (.int 1 u)) := by with_unfolding_all rfl) :
    wpAny (model Pg w) A (subscriptTail value slice (.ref a) (.int 1 u)) Q E s :=
  item_tupleT (l := [.bytes n tn, .bytes v tv]) ⟨_, F.keep _ _ hA, rfl, _, rfl⟩ (by decide) (by decide) (j := 1) rfl rfl h hs
end
noncomputable def optm (m : PySem.Str → Option Value) (x : PySem.Str) : Option (List Int) → Prop
  | none => m x = some .none
  | some ks => ∃ b t, m x = some (.bytes b t) ∧ KBw.bInts b = ks ∧ ks.length ≤ 1000
theorem ns_set {h : Heap} {L : Addr} {m : PySem.Str → Option Value} {x : PySem.Str} {v : Value} (n : h.Ns L m) (e : m x = some v) : h.Ns L (fun y => if y = x then some v else m y) := by
  have : (fun y => if y = x then some v else m y) = m := by
    funext y
    by_cases hy : y = x
    · rw [if_pos hy, hy, e]
    · rw [if_neg hy]
  rw [this]; exact n

end
section
open PySem PySem.W PyProof.Rows PySem.Calls PySem.W.X PySem.Spec
set_option Elab.async false
set_option maxRecDepth 100000
set_option maxHeartbeats 4000000
set_option linter.unusedVariables false
section
variable {w : World} {A : Around} {s : Shared} {R : Result → Shared → Prop} {name qual : Str} {params : Arguments} {body : List Stmt} {scope : Scope} {dV kV doc pm cdv ct oc : Value} {an od : Option Addr} {osl : Array (Option Value)} {f : Addr} {args : Args} {binds : List (Str × Value)}
/-- a call of a def some of whose names are cells -/
theorem enterC {K : Frag} (X : K.In s.heap) (hlim : s.heap.NoLimit)
    (ho : K.lookup f = some ⟨oc, od, .func (fnOf name qual params body scope dV kV doc pm an cdv ct), osl⟩) (hcd : codeIn K cdv qual = true) (hroom : A.depth < recursionLimit)
    (hbind : bindArgs (fnOf name qual params body scope dV kV doc pm an cdv ct) args = pure binds)
    (hkind : ∀ n, ∀ x ∈ binds, scope.names.lookup x.1 = some .local ∨ (scope.names.lookup x.1 = some .cell ∧ ((cellsFrom n scope.names []).lookup x.1).isSome = true))
    (hnd : ((cellsFrom 0 scope.names []).map (·.1)).Nodup)
    (h : ∀ L' h₁ tk cells, Fr s.heap L' h₁ (bindL (envOfC qual scope L' f cdv).kindOf binds fun _ => none) → News s.heap L' h₁ cells →
      CellsAre (bindC (envOfC qual scope L' f cdv).kindOf binds fun _ => none) (cellsFrom (L' + 1) scope.names []) cells →
      wpAny (model Pg w) (A.deeper (envOfC qual scope L' f cdv)) (execs body (envOfC qual scope L' f cdv))
        (fun fl s' => R (.ok (.ret (match fl with | .ret v => v | _ => .none))) s')
        (fun e s' => wpAny (model Pg w) (A.deeper (envOfC qual scope L' f cdv)) (leaving (envOfC qual scope L' f cdv) e) (fun _ s'' => R (.error e) s'') (fun e' s'' => R (.error e') s'') s')
        { s with heap := h₁, toks := tk })
    (hco : scope.isCoroutine = false) (hgen : scope.isGenerator = false) (hk : scope.kind = .function) :
    codeAny (model Pg w) A (.call (.ref f) args) R s := by
  refine codeAny_call_function hroom (X _ _ ho) rfl hco hgen rfl (codeRec_of X hcd) (BindsTo.of_eq hbind _ _ _ _ ?_)
  refine wpAny_newFunctionEnv_cells hk (hkind _) fun env' he s' x => ?_
  subst he
  refine ⟨hlim.keeps x.toInCall.keep, codeAny_func ?_⟩
  obtain ⟨h₁, tk, rfl, _⟩ := x.done
  have hk₁ := x.toInCall.keep
  obtain ⟨cells, NC, Y⟩ := Cl.news (h₀ := s.heap) (Nat.le_refl _) fun n c hm => ⟨x.cell n c (lookup_of_mem_nodup (cellsFrom_names scope.names 0 (s.heap.objs.size + 1) [] [] rfl ▸ hnd) hm), x.above n c hm⟩
  exact h s.heap.objs.size h₁ tk cells ⟨x.toInCall.ns, hk₁, Nat.le_refl _⟩ NC Y
theorem enterB {K : Frag} (X : K.In s.heap) (hlim : s.heap.NoLimit)
    (ho : K.lookup f = some ⟨oc, od, .func (fnOf name qual params body scope dV kV doc pm an cdv ct), osl⟩) (hcd : codeIn K cdv qual = true) (hroom : A.depth < recursionLimit)
    (hbind : BindsTo s (fnOf name qual params body scope dV kV doc pm an cdv ct) args binds) (hloc : ∀ y ∈ binds, scope.names.lookup y.1 = some .local)
    (h : ∀ L' h₁, Fr s.heap L' h₁ (fun y => binds.reverse.lookup y) → News s.heap L' h₁ [] →
      wpAny (model Pg w) (A.deeper (envOf qual scope L' f cdv)) (execs body (envOf qual scope L' f cdv))
        (fun fl s' => R (.ok (.ret (match fl with | .ret v => v | _ => .none))) s')
        (fun e s' => wpAny (model Pg w) (A.deeper (envOf qual scope L' f cdv)) (leaving (envOf qual scope L' f cdv) e) (fun _ s'' => R (.error e) s'') (fun e' s'' => R (.error e') s'') s')
        { s with heap := h₁, toks := s.toks + binds.length })
    (hcell : ∀ x ∈ scope.names, x.2 ≠ .cell) (hco : scope.isCoroutine = false) (hgen : scope.isGenerator = false) (hk : scope.kind = .function) :
    codeAny (model Pg w) A (.call (.ref f) args) R s := by
  refine codeAny_call_def (fd := fnOf name qual params body scope dV kV doc pm an cdv ct) (body := body) (binds := binds) hroom (X _ _ ho) rfl hlim (codeRec_of X hcd) rfl hbind hcell hloc (fun h₁ hns hk₁ => ?_) hco hgen hk
  exact h _ h₁ ⟨hns, hk₁, Nat.le_refl _⟩ News.nil
/-! ## the flags -/
theorem type_G {E : Value → Shared → Prop} {h₀ : Heap} {L a : Addr} {m : Str → Option Value} {o : Obj} {Q : Value → Shared → Prop} (F : Fr h₀ L s.heap m) (hA : h₀.get? a = some o) (hn : (o.cls == .type "builtin_function_or_method") = false) (hq : Q o.cls s) :
    wpAny (model Pg w) A (call (.type "type") [.ref a]) Q E s := by
  obtain ⟨hh, g, d, t, os⟩ := s
  exact call_type_obj (F.keep _ _ hA) hn hq
end

end
section
open PySem PySem.W PyProof.Rows PySem.Calls PySem.W.X PySem.Spec
set_option Elab.async false
set_option maxRecDepth 100000
set_option maxHeartbeats 4000000
set_option linter.unusedVariables false
/-! ## raises that leave a called def -/
theorem infl_base {B B' h : Heap} {l : List Env} {e : Addr} {cls : Value} (i : ∀ b o, B.get? b = some o → B'.get? b = some o) (x : InFl B' l e cls h) : InFl B l e cls h := by
  have hn : B'.get? e = none → B.get? e = none := fun q => by
    cases z : B.get? e with
    | none => rfl
    | some o => rw [i e o z] at q; cases q
  rcases x with ⟨a0, x⟩ | ⟨f, g, fr, r⟩ | ⟨env, r, L, a0, el, ef, x⟩
  · exact .inl ⟨a0, flyD_base i x⟩
  · exact .inr (.inl ⟨fun b o q => f b o (i b o q), hn g, funFrames_to i fr, r⟩)
  · obtain ⟨⟨g1, g2, g3, oe, vs, T, oT, ts, he, hcls, hd, h1, hnT, r'⟩, nd⟩ := x
    refine .inr (.inr ⟨env, r, L, a0, el, ef, ⟨fun b o q => g1 b o (i b o q), hn g2, funFrames_to i g3, oe, vs, T, oT, ts, he, hcls, hd, h1, ?_, r'⟩, nd⟩)
    cases z : B.get? T with
    | none => rfl
    | some o => rw [i T o z] at hnT; cases hnT
section
variable {w : World} {mean : ExcName → Option Value} {mg mb : Str → Option Value} {b0 : Heap} {A : Around} {env : Env} {outer : List Env} {L e : Addr} {s s' : Shared} {h h' : Heap} {m : Str → Option Value} {args : List Value} {E E' : Value → Shared → Prop} {tk : Nat}
noncomputable abbrev NoFp : Addr → Prop := fun _ => False
/-- a raise made in a def's frame leaves it -/
theorem leave_made (hk : env.scope.kind ≠ .module) (hf : env.frame = some L) (hfr : A.frames = some (env :: outer)) (G : Gd w mean mg mb b0 outer s.heap) (F : Fr s.heap L h m) (M : h.MadeExcOf h' e PE args)
    (hE : ∀ s', StpE NoFp outer e s s' → E (.ref e) s') :
    wpAny (model Pg w) A (leaving env (.ref e)) (fun _ s'' => E (.ref e) s'') E' ⟨h', s.gens, s.drawn, tk, s.os⟩ := by
  have hL0 : s.heap.get? L = none := Heap.get?_none_of_le F.above
  have ff : h'.FunFrames {} (env :: outer) := Heap.FunFrames.cons hk hf (F.ns.keeps M.keeps) (by simp [Heap.get?]) (G.F.of_keeps fun b o e _ => ⟨o, M.keeps b o (F.keep b o e), rfl⟩)
  have x : InFl (hideP s.heap fun b => NoFp b ∨ b ∈ frs outer) (env :: outer) e PE h' := by
    refine .inr (.inl ⟨fun b o q => M.keeps b o (F.keep b o (of_hideP q)), ?_, funFrames_p (p := fun _ => True) ff fun b hb => ?_, ?_⟩)
    · cases q : (hideP s.heap fun b => NoFp b ∨ b ∈ frs outer).get? e with
      | none => rfl
      | some o => have := F.keep e o (of_hideP q); rw [M.new] at this; cases this
    · rw [frs_cons hf] at hb
      rcases List.mem_cons.mp hb with rfl | hb
      · cases q : (hideP s.heap fun b => NoFp b ∨ b ∈ frs outer).get? b with
        | none => rfl
        | some o => have := of_hideP q; rw [hL0] at this; cases this
      · exact hideP_none (.inr hb)
    · obtain ⟨t, ht, _⟩ := M.there
      exact ⟨_, _, .ref t, ht, rfl, rfl, rfl, rfl, rfl⟩
  refine leave_any hfr hf x fun h'' a0 fly hu => hE _ ⟨h'', tk, rfl, .inl ⟨a0, fly⟩, fun b hb _ => ?_⟩
  exact (slotEq.of_keep fun o e => M.keeps b o (F.keep b o e)).trans (upTo_frs hu x.frames b (by rw [frs_cons hf]; exact .tail _ hb))
/-- a raise out of a callee leaves a def's frame -/
theorem leave_through (hk : env.scope.kind ≠ .module) (hf : env.frame = some L) (hfr : A.frames = some (env :: outer)) (F : Fr s.heap L h m)
    (st : StpE NoFp (env :: outer) e { s with heap := h, toks := tk } s') (hE : ∀ s', StpE NoFp outer e s s' → E (.ref e) s') :
    wpAny (model Pg w) A (leaving env (.ref e)) (fun _ s'' => E (.ref e) s'') E' s' := by
  obtain ⟨h', tk', rfl, x, hsl⟩ := st
  have hL0 : s.heap.get? L = none := Heap.get?_none_of_le F.above
  refine leave_any hfr hf x fun h'' a0 fly hu => hE _ ⟨h'', tk', rfl, .inl ⟨a0, flyD_base (fun b o q => ?_) fly⟩, fun b hb _ => ?_⟩
  · have hb := hideP_notp q
    refine hideP_get (F.keep b o (of_hideP q)) fun z => hb ?_
    rcases z with z | z
    · exact .inl z
    · rw [frs_cons hf] at z
      rcases List.mem_cons.mp z with rfl | z
      · have := of_hideP q; rw [hL0] at this; cases this
      · exact .inr z
  · have hb' : b ∈ frs (env :: outer) := by rw [frs_cons hf]; exact .tail _ hb
    exact (slotEq.of_keep fun o e => F.keep b o e).trans ((hsl b hb' id).trans (upTo_frs hu x.frames b hb'))
/-- a callee's raise seen from an earlier state of the same frame -/
theorem stpE_then {l : List Env} {fp : Addr → Prop} (k : ∀ b o, ¬ fp b → s.heap.get? b = some o → h.get? b = some o) (st : StpE NoFp l e { s with heap := h, toks := tk } s') : StpE fp l e s s' := by
  obtain ⟨h', tk', rfl, x, hsl⟩ := st
  refine ⟨h', tk', rfl, infl_base (fun b o q => ?_) x, fun b hb hnf => (slotEq.of_keep fun o e => k b o hnf e).trans (hsl b hb id)⟩
  have hb := hideP_notp q
  exact hideP_get (k b o (fun z => hb (.inl z)) (of_hideP q)) fun z => hb (z.elim (fun z => z.elim) .inr)
end
section
variable {w : World} {A : Around} {E : Value → Shared → Prop} {s : Shared} {h₀ : Heap} {mg : Str → Option Value} {C : Addr} {bm : List Value} {newId initId Bn : String} {x : Str} {np cpos pos : Pos} {Q : Flow → Shared → Prop} {env : Env}
/-- raise X(..), X an own exception, in any frame -/
theorem Raise_G {e₀ : Expr} {rest : List Expr} (hld : ∀ Q' : Value → Shared → Prop, Q' (.ref C) s → wpAny (model Pg w) A (eval (.Name x np) env) Q' E s) (O : OwnCls x C bm newId mg h₀) (FB : ExcBaseFacts Bn newId initId bm) (hh : A.handled = none)
    (h : wpAny (model Pg w) A (spliced (backTo cpos (starEach (e₀ :: rest) env))) (fun vs s₂ => vs.length ≤ sizeLine ∧ (∀ b o, h₀.get? b = some o → s₂.heap.get? b = some o) ∧
      ∀ h' e, Heap.MadeExcOf s₂.heap h' e (.ref C) vs → E (.ref e) { s₂ with heap := h' }) E s)
    (he : starEach (e₀ :: rest) env = (false, eval e₀ env) :: starEach rest env)
    (hplain : (backTo cpos (starEach rest env)).any (·.1) = false) :
    wpAny (model Pg w) A (exec (.Raise (some (.Call (.Name x np) (e₀ :: rest) [] cpos)) none pos) env) Q E s := by
  obtain ⟨tl, N, nm, q, bs, hdct, sn, sub, ab, col, dd, k0, k1, k2, k3, k5, mN, hC, hN, hni, T⟩ := O.obj
  refine wpAny_Raise_call_subT (C := C) (nm := nm) (q := q) (N := N) (bs := bs) (bm := tl) (hdct := hdct) (sn := sn) (sub := sub) (ab := ab) (col := col) (dd := dd) (k0 := k0) (k1 := k1) (k2 := k2) (k3 := k3) (k5 := k5)
    FB (mN := mN) (T.hasType FB.hasBase) hh (by rw [he]; show (false || (backTo cpos (starEach rest env)).any (·.1)) = false; rw [hplain]; rfl) hni (hld _ ⟨rfl, ?_⟩)
  rw [he] at h ⊢
  exact Calls.evalArgs_plain (wpAny_mono h (fun vs s₂ h₂ => ⟨rfl, h₂.1, h₂.2.1 _ _ hC, hN.keeps h₂.2.1, T.keeps h₂.2.1, h₂.2.2⟩) fun _ _ y => y)
end

end
section
open PySem PySem.W PyProof.Rows PySem.Calls PySem.Spec
set_option Elab.async false
set_option maxRecDepth 100000
set_option maxHeartbeats 4000000
set_option linter.unusedVariables false
/-! ## list comprehensions of one clause over any iterator -/
section
variable {w : World} {A : Around} {R : Result → Shared → Prop} {s : Shared} {target elt iter : Expr} {ifs : List Expr} {scope : Scope} {pos : Pos}
noncomputable abbrev testsOf (ifs : List Expr) (env : Env) : Sem Bool := forIn ifs true fun c r => if r = true then do let ok ← isTrue c env (eval c env); pure (ForInStep.yield ok) else pure (ForInStep.yield r)
theorem loop_G {it acc : Value} {env : Env} (I : Nat → Shared → Prop)
    (turn : ∀ n s, I n s → wpAny (model Pg w) A (pyNext it) (fun r s₁ => match r with
      | none => R (.ok .next) s₁
      | some v => wpAny (model Pg w) A (letOwnedTupleGo target it v) (fun _ s₁' => wpAny (model Pg w) A (assign target env v) (fun _ s₂ =>
          wpAny (model Pg w) A (testsOf ifs env) (fun ok s₃ =>
            if ok = true then wpAny (model Pg w) A (eval elt env) (fun x s₄ =>
              wpAny (model Pg w) A (call (.builtin "list.append") [acc, x]) (fun _ s₅ => ∃ m, m < n ∧ I m s₅) (notedBy (model Pg w) A env fun e s' => R (.error e) s') s₄) (notedBy (model Pg w) A env fun e s' => R (.error e) s') s₃
            else ∃ m, m < n ∧ I m s₃) (notedBy (model Pg w) A env fun e s' => R (.error e) s') s₂) (notedBy (model Pg w) A env fun e s' => R (.error e) s') s₁') (notedBy (model Pg w) A env fun e s' => R (.error e) s') s₁) (notedBy (model Pg w) A env fun e s' => R (.error e) s') s)
    (n : Nat) (h : I n s) : codeAny (model Pg w) A (.compLoop (.ListComp elt [⟨target, iter, ifs, 0⟩] scope pos) 0 it acc env) R s := by
  refine codeAny_loop rfl I (fun n s hI => ?_) n h
  show wpAny _ A ((compTurn (.ListComp elt [⟨target, iter, ifs, 0⟩] scope pos) 0 it acc env).onRaise (fun x => do noteFrame x env; theTreesLotGoes x)) _ _ s
  refine wpAny_noted ?_
  rw [compTurn_list]
  refine wpAny_bind (wpAny_standAt (wpAny_bind (wpAny_mono (turn n s hI) (fun r s₁ h₁ => ?_) fun _ _ h' => h')))
  cases r with
  | none => exact wpAny_pure h₁
  | some v =>
    refine wpAny_bind (wpAny_mono h₁ (fun _ s₁' h₁' => ?_) fun _ _ h' => h')
    refine wpAny_bind (wpAny_mono h₁' (fun _ s₂ h₂ => wpAny_bind (wpAny_mono h₂ (fun ok s₃ h₃ => ?_) fun _ _ h' => h')) fun _ _ h' => h')
    cases ok with
    | false => exact wpAny_pure ⟨rfl, h₃⟩
    | true =>
      rw [if_pos rfl] at h₃
      exact wpAny_bind (wpAny_bind (wpAny_mono h₃ (fun x s₄ h₄ => wpAny_bind (wpAny_mono h₄ (fun _ s₅ h₅ => wpAny_pure (wpAny_pure ⟨rfl, h₅⟩)) fun _ _ h' => h')) fun _ _ h' => h'))
/-- from s to s' nothing but C has changed, which is a frame still -/
noncomputable def Kb (C : Addr) (s s' : Shared) : Prop := ∃ h' tk, s' = { s with heap := h', toks := tk } ∧ (∀ b o, b ≠ C → s.heap.get? b = some o → h'.get? b = some o) ∧ ∃ m, h'.Ns C m
/-- one turn: item i is kept iff p i; what is kept of it is f i -/
noncomputable abbrev TurnG (w : World) (A : Around) (env : Env) (target elt : Expr) (ifs : List Expr) (scope : Scope) (cl : List (Str × Addr)) (wr : List Addr) (n : Nat) (P : Nat → Value → Heap → Prop) (p : Nat → Bool) (f : Nat → Value → Prop) (s₂ : Shared) : Prop :=
  ∀ C i v s₃ (E' : Value → Shared → Prop), s₂.heap.objs.size ≤ C → i < n → P i v s₃.heap → (∃ m, s₃.heap.Ns C m) → (∀ b o, b ∉ wr → s₂.heap.get? b = some o → s₃.heap.get? b = some o) → s₃.gens = s₂.gens → s₃.drawn = s₂.drawn → s₃.os = s₂.os →
    wpAny (model Pg w) A (assign target (compEnvC scope cl C env) v) (fun _ s₄ => wpAny (model Pg w) A (testsOf ifs (compEnvC scope cl C env)) (fun ok s₅ =>
      if ok = true then wpAny (model Pg w) A (eval elt (compEnvC scope cl C env)) (fun y s₆ => p i = true ∧ f i y ∧ Kb C s₃ s₆) E' s₅ else p i = false ∧ Kb C s₃ s₅) E' s₄) E' s₃
theorem range_snoc_filter (p : Nat → Bool) (i : Nat) : (List.range (i + 1)).filter p = (List.range i).filter p ++ (if p i = true then [i] else []) := by
  rw [List.range_succ, List.filter_append]
  congr 1
  cases h : p i <;> simp [h]
theorem block_G {env : Env} {cl : List (Str × Addr)} {s₂ : Shared} {I : Addr} {fp wr : List Addr} {n : Nat} {P Md : Nat → Value → Heap → Prop} {St : Nat → Heap → Prop} {E : Value → Shared → Prop}
    (W : KTurns Pg w A target I fp wr n P Md St) (hsz : n ≤ sizeLine) (hself : ∀ i (s : Shared) (Q : Value → Shared → Prop) (E : Value → Shared → Prop), St i s.heap → Q (.ref I) s → wpAny (model Pg w) A (pyIter (.ref I)) Q E s) (p : Nat → Bool) (f : Nat → Value → Prop) {RR : Value → Addr → Result → Shared → Prop}
    (hPk : ∀ i v h h', P i v h → (∀ b o, h.get? b = some o → h'.get? b = some o) → P i v h')
    (hcell : ∀ y ∈ scope.names, y.2 ≠ .cell) (hkind : scope.kind = .function) (hst : St 0 s₂.heap) (hfp : ∀ b ∈ fp, b < s₂.heap.objs.size)
    (turn : TurnG w A env target elt ifs scope cl wr n P p f s₂)
    (hRR : ∀ D C h' tk m', s₂.heap.get? D = none → s₂.heap.get? C = none → D ≠ C → h'.Ns C m' → (∃ ys, h'.PlainList D ys ∧ Paired f ((List.range n).filter p) ys.toList) →
      (∀ b o, b ∉ wr → s₂.heap.get? b = some o → h'.get? b = some o) → RR (.ref D) C (.ok .next) { s₂ with heap := h', toks := tk }) :
    wpAny (model Pg w) A (newList []) (fun acc s₃ => wpAny (model Pg w) A (newFunctionEnv scope env.globals cl [] env.qual none .none (some env)) (fun cenv s₄ =>
      codeAny (model Pg w) A (.compStart (.ListComp elt [⟨target, iter, ifs, 0⟩] scope pos) 0 (.ref I) acc { cenv with scope := relabel scope env }) (RR acc cenv.locals) s₄) E s₃) E s₂ := by
  refine wpAny_newObj_type (wpAny_newFunctionEnv hcell (by intro y hy; simp at hy) (fun h₁ hns₁ hsb₁ => ?_) hkind)
  dsimp only at hns₁ hsb₁ ⊢
  generalize hH2 : s₂.heap.push { cls := .type "list", dict := none, data := .seq ([] : List Value).toArray } = H2 at hns₁ hsb₁ ⊢
  have hC : H2.objs.size = s₂.heap.objs.size + 1 := by rw [← hH2, Heap.size_push]
  have hDC : s₂.heap.objs.size ≠ H2.objs.size := by rw [hC]; exact Nat.ne_of_lt (Nat.lt_succ_self _)
  have hCle : s₂.heap.objs.size ≤ H2.objs.size := by rw [hC]; exact Nat.le_succ _
  have below : ∀ b, b < s₂.heap.objs.size → b ≠ H2.objs.size ∧ b ≠ s₂.heap.objs.size := fun b hb => ⟨by rw [hC]; exact Nat.ne_of_lt (Nat.lt_succ_of_lt hb), Nat.ne_of_lt hb⟩
  have hDf : s₂.heap.objs.size ∉ fp := fun hm => Nat.lt_irrefl _ (hfp _ hm)
  have hCf : H2.objs.size ∉ fp := fun hm => by have := hfp _ hm; rw [hC] at this; exact Nat.lt_irrefl _ (Nat.lt_of_succ_lt this)
  have old : ∀ b o, s₂.heap.get? b = some o → h₁.get? b = some o := fun b o e => hsb₁.extBut b o (below b (Heap.lt_size e)).1 (Heap.get?_push_of_some _ (hH2 ▸ Heap.get?_push_of_some _ e))
  have hacc : h₁.PlainList s₂.heap.objs.size #[] := ⟨_, hsb₁.extBut _ _ hDC (Heap.get?_push_of_some _ (hH2 ▸ Heap.get?_push_size _ rfl))⟩
  have hst₁ : St 0 h₁ := W.frame _ _ _ hst fun b _ o e => old b o e
  have fresh : ∀ a, s₂.heap.objs.size ≤ a → s₂.heap.get? a = none := fun a ha => by
    cases e : s₂.heap.get? a with
    | none => rfl
    | some o' => exact absurd (Heap.lt_size e) (Nat.not_lt.mpr ha)
  have hCw : H2.objs.size ∉ wr := fun h => hCf (W.sub _ h)
  have hDw : s₂.heap.objs.size ∉ wr := fun h => hDf (W.sub _ h)
  have loop : ∀ s₃ : Shared, s₃ = { s₂ with heap := h₁, toks := s₂.toks + ([] : List (Str × Value)).length } →
      codeAny (model Pg w) A (.compLoop (.ListComp elt [⟨target, iter, ifs, 0⟩] scope pos) 0 (.ref I) (.ref s₂.heap.objs.size) (compEnvC scope cl H2.objs.size env))
        (RR (.ref s₂.heap.objs.size) H2.objs.size) s₃ := by
    rintro s₃ rfl
    refine loop_G
      (fun k s' => ∃ h' tk i m', s' = { s₂ with heap := h', toks := tk } ∧ i ≤ n ∧ k = n + 1 - i ∧ St i h' ∧ h'.Ns H2.objs.size m' ∧ (∃ ys, h'.PlainList s₂.heap.objs.size ys ∧ Paired f ((List.range i).filter p) ys.toList) ∧
        (∀ b o, b ≠ H2.objs.size → b ∉ wr → b ≠ s₂.heap.objs.size → s₂.heap.get? b = some o → h'.get? b = some o)) ?_ (n + 1)
      ⟨h₁, _, 0, _, rfl, Nat.zero_le _, rfl, hst₁, hns₁, ⟨_, hacc, Paired.nil⟩, fun b o _ _ _ e => old b o e⟩
    rintro k s' ⟨h', tk, i, m', rfl, hi, rfl, hst', hn', ⟨ys, hl', hys⟩, hk'⟩
    by_cases hlt : i < n
    · refine W.item i _ _ _ hlt hst' fun v h₂ tk₂ hMd hk₂ => ?_
      refine W.go i v _ _ _ hMd fun h₃ hP hst₃ hk₃ => ?_
      have up : ∀ b o, b ∉ wr → h'.get? b = some o → h₃.get? b = some o := fun b o hb e => hk₃ b o hb (hk₂ b o hb e)
      have up2 : ∀ b o, b ∉ wr → s₂.heap.get? b = some o → h₃.get? b = some o := fun b o hb e => up b o hb (hk' b o (below b (Heap.lt_size e)).1 hb (below b (Heap.lt_size e)).2 e)
      refine wpAny_mono (turn H2.objs.size i v { s₂ with heap := h₃, toks := tk₂ } _ hCle hlt hP ⟨m', hn'.at' fun o e => up _ o hCw e⟩ up2 rfl rfl rfl) (fun _ s₄ h₄ => wpAny_mono h₄ (fun ok s₅ h₅ => ?_) fun _ _ e => e) fun _ _ e => e
      have fin : ∀ h₆ m₆, h₆.Ns H2.objs.size m₆ → (∀ b o, b ≠ H2.objs.size → h₃.get? b = some o → h₆.get? b = some o) → St (i + 1) h₆ ∧ (∀ b o, b ≠ H2.objs.size → b ∉ wr → b ≠ s₂.heap.objs.size → s₂.heap.get? b = some o → h₆.get? b = some o) ∧
          h₆.PlainList s₂.heap.objs.size ys := fun h₆ m₆ hn₆ hk₆ =>
        ⟨W.frame _ _ _ hst₃ fun b hb o e => hk₆ b o (fun q => hCf (q ▸ hb)) e, fun b o hbC hbw hbD e => hk₆ b o hbC (up2 b o hbw e), hl'.at fun o e => hk₆ _ o hDC (up _ o hDw e)⟩
      cases ok with
      | false =>
        rw [if_neg (by simp)] at h₅ ⊢
        obtain ⟨hp, h₆, tk₆, rfl, hk₆, m₆, hn₆⟩ := h₅
        obtain ⟨f1, f2, f3⟩ := fin h₆ m₆ hn₆ hk₆
        refine ⟨n + 1 - (i + 1), by omega, h₆, tk₆, i + 1, m₆, rfl, hlt, rfl, f1, hn₆, ⟨ys, f3, ?_⟩, f2⟩
        rw [range_snoc_filter, if_neg (by rw [hp]; simp), List.append_nil]
        exact hys
      | true =>
        rw [if_pos rfl] at h₅ ⊢
        refine wpAny_mono h₅ (fun y s₆ h₆ => ?_) fun _ _ e => e
        obtain ⟨hp, hfy, h₆, tk₆, rfl, hk₆, m₆, hn₆⟩ := h₆
        obtain ⟨f1, f2, f3⟩ := fin h₆ m₆ hn₆ hk₆
        have hlen : ys.size ≤ sizeLine := by
          have h1 := hys.length
          have := List.length_filter_le p (List.range i)
          rw [List.length_range] at this
          have h2 : ys.toList.length = ys.size := by simp
          omega
        refine wpAny_list_append_plain (hsz := hlen) f3 fun h₇ hl₇ hs₇ => ?_
        refine ⟨n + 1 - (i + 1), by omega, h₇, tk₆, i + 1, m₆, rfl, hlt, rfl, W.frame _ _ _ f1 fun b hb o e => hs₇.extBut b o (fun q => hDf (q ▸ hb)) e, hn₆.sameBut hs₇ (Ne.symm hDC), ⟨_, hl₇, ?_⟩, fun b o hbC hbw hbD e => hs₇.extBut b o hbD (f2 b o hbC hbw hbD e)⟩
        rw [range_snoc_filter, if_pos hp]
        simpa using Paired.snoc hys hfy
    · obtain rfl : i = n := Nat.le_antisymm hi (Nat.not_lt.mp hlt)
      refine W.done _ _ _ hst' fun h₂ tk₂ hk₂ => ?_
      exact hRR _ _ h₂ tk₂ m' (fresh _ (Nat.le_refl _)) (fresh _ hCle) hDC (hn'.at' fun o e => hk₂ _ o hCw e) ⟨ys, hl'.at fun o e => hk₂ _ o hDw e, hys⟩
        fun b o hbw e => hk₂ b o hbw (hk' b o (below b (Heap.lt_size e)).1 hbw (below b (Heap.lt_size e)).2 e)
  exact codeAny_compStart_list (loop _ rfl) (hself 0 _ _ _ hst₁ (loop _ rfl))
/-- the iterator is made; the turns; the end -/
noncomputable def CompG (w : World) (A : Around) (env : Env) (target elt : Expr) (ifs : List Expr) (scope : Scope) (cl : List (Str × Addr)) (Fin : Value → Shared → Prop) (it : Value) (s₂ : Shared) : Prop :=
  ∃ (I : Addr) (fp wr : List Addr) (n : Nat) (P Md : Nat → Value → Heap → Prop) (St : Nat → Heap → Prop) (p : Nat → Bool) (f : Nat → Value → Prop), it = .ref I ∧ KTurns Pg w A target I fp wr n P Md St ∧ n ≤ sizeLine ∧
    (∀ i (s : Shared) (Q : Value → Shared → Prop) (E : Value → Shared → Prop), St i s.heap → Q (.ref I) s → wpAny (model Pg w) A (pyIter (.ref I)) Q E s) ∧ (∀ i v h h', P i v h → (∀ b o, h.get? b = some o → h'.get? b = some o) → P i v h') ∧
    St 0 s₂.heap ∧ (∀ b ∈ fp, b < s₂.heap.objs.size) ∧ TurnG w A env target elt ifs scope cl wr n P p f s₂ ∧
    ∀ D h' tk ys, s₂.heap.get? D = none → h'.PlainList D ys → Paired f ((List.range n).filter p) ys.toList → (∀ b o, b ∉ wr → s₂.heap.get? b = some o → h'.get? b = some o) → Fin (.ref D) { s₂ with heap := h', toks := tk }
theorem ListComp_G {env : Env} {cl : List (Str × Addr)} {Q : Value → Shared → Prop} {E : Value → Shared → Prop}
    (hclos : closureFor scope env = pure cl) (hcell : ∀ y ∈ scope.names, y.2 ≠ .cell) (hkind : scope.kind = .function)
    (hnames : ∀ y ∈ scope.names, y.2 = .local → scope.names.lookup y.1 = some .local)
    (h : wpAny (model Pg w) A (eval iter env) (fun xv s₁ => wpAny (model Pg w) A (pyIter xv) (fun it s₂ => CompG w A env target elt ifs scope cl Q it s₂) E s₁) E s)
    (hs : ∀ x, foldedSetIterable iter env x = pure x) :
    wpAny (model Pg w) A (eval (.ListComp elt [⟨target, iter, ifs, 0⟩] scope pos) env) Q E s := by
  rw [eval_ListComp]
  refine wpAny_comprehension_free (use := none) rfl hs hclos hkind hnames (wpAny_mono h (fun xv s₁ h₁ => wpAny_mono h₁ (fun it s₂ h₂ => ?_) fun _ _ e => e) fun _ _ e => e)
  obtain ⟨I, fp, wr, n, P, Md, St, p, f, rfl, W, hsz, hself, hPk, hst, hfp, turn, hQ⟩ := h₂
  refine block_G (RR := fun acc C => compPost (model Pg w) A E none Q acc C) W hsz hself p f hPk hcell hkind hst hfp turn ?_
  intro D C h' tk m' hD hC hDC hn ⟨ys, hl, hys⟩ hk
  refine ⟨m', hn, fun h'' hs'' => hQ D h'' tk ys hD (hl.at fun o e => hs''.extBut D o hDC e) hys fun b o hbf e => hs''.extBut b o (fun q => ?_) (hk b o hbf e)⟩
  rw [q, hC] at e; cases e
theorem AssignComp_G {env : Env} {cl : List (Str × Addr)} {y : Str} {py spos : Pos} {Q : Flow → Shared → Prop} {E : Value → Shared → Prop}
    (hsw : swapsWith (.ListComp elt [⟨target, iter, ifs, 0⟩] scope pos) (some (.Name y py)) spos.line env = pure true)
    (hclos : closureFor scope env = pure cl) (hcell : ∀ y ∈ scope.names, y.2 ≠ .cell) (hkind : scope.kind = .function)
    (hnames : ∀ y ∈ scope.names, y.2 = .local → scope.names.lookup y.1 = some .local)
    (h : wpAny (model Pg w) A (eval iter env) (fun xv s₁ => wpAny (model Pg w) A (pyIter xv) (fun it s₂ => CompG w A env target elt ifs scope cl
      (fun v s₃ => wpAny (model Pg w) A (assign (.Name y py) env v) (fun _ s₄ => ∀ C, s₂.heap.get? C = none → (∃ m, s₃.heap.Ns C m) → (∃ m, s₄.heap.Ns C m) ∧ ∀ h', Heap.SameBut C s₄.heap h' → Q .next { s₄ with heap := h' }) E s₃) it s₂) E s₁) E s)
    (hs : ∀ x, foldedSetIterable iter env x = pure x) :
    wpAny (model Pg w) A (exec (.Assign [.Name y py] (.ListComp elt [⟨target, iter, ifs, 0⟩] scope pos) spos) env) Q E s := by
  rw [exec_Assign_Name_used _ _ _ _ hsw]
  refine wpAny_bind (wpAny_standAt (wpAny_bind ?_))
  show wpAny _ A (do let _ ← comprehension (.ListComp elt [⟨target, iter, ifs, 0⟩] scope pos) scope env _ (newList []) false (eval iter env) (some (assign (.Name y py) env))) _ _ s
  refine wpAny_bind (wpAny_mono (wpAny_comprehension_free (use := some (assign (.Name y py) env)) (Q := fun _ s' => Q .next s') rfl hs hclos hkind hnames
    (wpAny_mono h (fun xv s₁ h₁ => wpAny_mono h₁ (fun it s₂ h₂ => ?_) fun _ _ e => e) fun _ _ e => e)) (fun _ s' hq => wpAny_pure (wpAny_pure hq)) fun _ _ e => e)
  obtain ⟨I, fp, wr, n, P, Md, St, p, f, rfl, W, hsz, hself, hPk, hst, hfp, turn, hQ⟩ := h₂
  refine block_G (RR := fun acc C => compPost (model Pg w) A E (some (assign (.Name y py) env)) (fun _ s' => Q .next s') acc C) W hsz hself p f hPk hcell hkind hst hfp turn ?_
  intro D C h' tk m' hD hC hDC hn ⟨ys, hl, hys⟩ hk
  show wpAny _ A (assign (.Name y py) env (.ref D)) _ _ _
  refine wpAny_mono (hQ D h' tk ys hD hl hys hk) (fun _ s₄ h₄ => ?_) fun _ _ e => e
  obtain ⟨⟨m₄, hm₄⟩, h₄⟩ := h₄ C hC ⟨m', hn⟩
  exact ⟨m₄, hm₄, fun h'' hs'' => h₄ h'' hs''⟩
end

end
section
open PySem PySem.W PyProof.Rows PySem.Calls PySem.Spec PyProof.Rows.LCg
set_option Elab.async false
set_option maxRecDepth 100000
set_option maxHeartbeats 4000000
set_option linter.unusedVariables false
section
variable {w : World} {A : Around} {E : Value → Shared → Prop} {scope : Scope} {pos : Pos} {h₀ : Heap} {L : Addr} {m : Str → Option Value} {news : List (Addr × Obj)} {env : Env} {cl : List (Str × Addr)} {s₁ : Shared}
/-- the tests of a turn, the block's variables being those of m₃ -/
noncomputable abbrev TestsF (w : World) (A : Around) (h₀ : Heap) (L : Addr) (m : Str → Option Value) (news : List (Addr × Obj)) (env : Env) (ifs : List Expr) (scope : Scope) (cl : List (Str × Addr)) (s₁ : Shared) (V : Nat → (Str → Option Value) → Prop) (n : Nat) (p : Nat → Bool) : Prop :=
  ∀ C oC m₃ i h₃ tk₃ (E' : Value → Shared → Prop), i < n → V i m₃ → NsObj oC m₃ → Fr h₀ L h₃ m → News h₀ L h₃ ((C, oC) :: news) → (∀ p ∈ news, p.1 ≠ C) →
    wpAny (model Pg w) A (testsOf ifs (compEnvC scope cl C env)) (fun ok s₅ => ok = p i ∧ Keeps { s₁ with heap := h₃, toks := tk₃ } s₅) E' { s₁ with heap := h₃, toks := tk₃ }
/-- what holds of the made list -/
noncomputable abbrev FinF (h₀ : Heap) (L : Addr) (m : Str → Option Value) (news : List (Addr × Obj)) (s₁ : Shared) (Fi : Nat → Value → Prop) (n : Nat) (p : Nat → Bool) (Q : Value → Shared → Prop) : Prop :=
  ∀ D h' tk ys c, Fr h₀ L h' m → News h₀ L h' ((D, listO ys c) :: news) → (∀ p ∈ news, p.1 ≠ D) → Paired Fi ((List.range n).filter p) ys.toList → Q (.ref D) { s₁ with heap := h', toks := tk }
theorem name_local {C : Addr} {x : Str} {px : Pos} {m₃ : Str → Option Value} {s : Shared} {v : Value} {Q : Value → Shared → Prop} (hkind : scope.kind = .function) (hx : scope.names.lookup x = some .local) (hd : (x == ("__debug__" : Str)) = false) (hn : s.heap.Ns C m₃) (hv : m₃ x = some v) (h : Q v s) :
    wpAny (model Pg w) A (eval (.Name x px) (compEnvC scope cl C env)) Q E s :=
  wpAny_Name (wpAny_loadName_local (env := compEnvC scope cl C env) (by simp [compEnvC, relabel, hkind]) (lookup_relabel_local hx) hn hv h) hd
/-- from one state to a turn's start: what the frame and the ledger know -/
theorem turn_facts {I C : Addr} {oI : Obj} {s₃ : Shared} (F : Fr h₀ L s₁.heap m) (N : News h₀ L s₁.heap news) (hI : I = s₁.heap.objs.size) (hC : (s₁.heap.push oI).objs.size ≤ C)
    (k : ∀ b o, b ∉ [I] → (s₁.heap.push oI).get? b = some o → s₃.heap.get? b = some o) :
    Fr h₀ L s₃.heap m ∧ News h₀ L s₃.heap news ∧ C ≠ L ∧ h₀.get? C = none ∧ (∀ p ∈ news, p.1 ≠ C) ∧ ∀ b o, s₁.heap.get? b = some o → s₃.heap.get? b = some o ∧ b ≠ C := by
  rw [Heap.size_push] at hC
  have up : ∀ b o, s₁.heap.get? b = some o → s₃.heap.get? b = some o := fun b o e => k b o (fun hm => by rw [List.mem_singleton.mp hm, hI] at e; exact Nat.lt_irrefl _ (Heap.lt_size e)) (Heap.get?_push_of_some _ e)
  have lt : ∀ b o, s₁.heap.get? b = some o → b ≠ C := fun b o e q => by
    have h1 := Heap.lt_size e
    rw [q] at h1
    exact Nat.lt_irrefl _ (Nat.lt_trans h1 hC)
  obtain ⟨oL, _, _, hoL, _⟩ := id F.ns
  refine ⟨F.keeps up, N.grown up, fun q => lt L _ hoL q.symm, ?_, fun p hp => lt _ _ (N p hp).1, fun b o e => ⟨up b o e, lt b o e⟩⟩
  cases e : h₀.get? C with
  | none => rfl
  | some o => exact absurd rfl (lt C o (F.keep C o e))
/-- one name, any iterator made of one new object -/
theorem compat_name {x xe : Str} {px pe : Pos} {ifs : List Expr} {oI : Obj} {fp : List Addr} {n : Nat} {P : Nat → Value → Prop} {St : Nat → Heap → Prop} {p : Nat → Bool} {Fin : Value → Shared → Prop}
    (F : Fr h₀ L s₁.heap m) (N : News h₀ L s₁.heap news) (W : Walks Pg w A s₁.heap.objs.size fp [s₁.heap.objs.size] n P St) (hsz : n ≤ sizeLine) (hst : St 0 (s₁.heap.push oI)) (hfp : ∀ b ∈ fp, b < (s₁.heap.push oI).objs.size)
    (hkind : scope.kind = .function) (hx : scope.names.lookup x = some .local) (hxe : xe = x) (hd : (x == ("__debug__" : Str)) = false)
    (tst : TestsF w A h₀ L m news env ifs scope cl s₁ (fun i m₃ => ∃ v, P i v ∧ m₃ x = some v) n p)
    (fin : FinF h₀ L m news s₁ P n p Fin) :
    CompG w A env (.Name x px) (.Name xe pe) ifs scope cl Fin (.ref s₁.heap.objs.size) { s₁ with heap := s₁.heap.push oI } := by
  subst hxe
  refine ⟨_, fp, [s₁.heap.objs.size], n, _, _, St, p, P, rfl, KTurns.ofWalks W fun i v s Q E st hq => ?_, hsz, W.self, fun i v h h' hP _ => hP, hst, hfp, ?_, ?_⟩
  · rw [let_name]; exact wpAny_pure hq
  · intro C i v s₃ E' hC hi hP ⟨m₀, hn₀⟩ k hg hdr hos
    obtain ⟨F₃, N₃, hCL, hC₀, hCn, up⟩ := turn_facts F N rfl hC k
    refine wpAny_assign_Name (wpAny_storeName_local (env := compEnvC scope cl C env) (lookup_relabel_local hx) hn₀ (fun h₄ hn₄ hs₄ => ?_) (by simp [compEnvC, relabel, hkind]))
    have hn₄ : h₄.Ns C _ := hn₄
    have hs₄ : Heap.SameBut C s₃.heap h₄ := hs₄
    obtain ⟨oC, heC, hoC⟩ := ns_obj hn₄
    have F₄ : Fr h₀ L h₄ m := F₃.change hs₄ hCL hC₀
    have N₄ : News h₀ L h₄ ((C, oC) :: news) := fun q hq => by
      rcases List.mem_cons.mp hq with rfl | hq
      · exact ⟨heC, hCL, hC₀⟩
      · exact ⟨hs₄.extBut _ _ (hCn q hq) (N₃ q hq).1, (N₃ q hq).2⟩
    obtain ⟨hh₃, gg, dd, tt, oo⟩ := s₃
    dsimp only at hg hdr hos
    subst hg; subst hdr; subst hos
    refine wpAny_mono (tst C oC _ i h₄ _ E' hi ⟨v, hP, by simp⟩ hoC F₄ N₄ hCn) (fun ok s₅ h₅ => ?_) fun _ _ e => e
    obtain ⟨rfl, h₅, tk₅, rfl, hk₅⟩ := h₅
    have kb : Kb C ⟨hh₃, s₁.gens, s₁.drawn, tt, s₁.os⟩ ⟨h₅, s₁.gens, s₁.drawn, tk₅, s₁.os⟩ := ⟨h₅, tk₅, rfl, fun b o hb e => hk₅ b o (hs₄.extBut b o hb e), _, hn₄.keeps hk₅⟩
    cases hp : p i with
    | false =>
      rw [if_neg (by simp)]
      exact ⟨rfl, kb⟩
    | true =>
      rw [if_pos rfl]
      exact name_local hkind hx hd (hn₄.keeps hk₅) (by simp) ⟨rfl, hP, kb⟩
  · intro D h' tk ys hD hl hys hk
    obtain ⟨c, hl⟩ := hl
    have up : ∀ b o, s₁.heap.get? b = some o → h'.get? b = some o := fun b o e => hk b o (fun hm => by rw [List.mem_singleton.mp hm] at e; exact Nat.lt_irrefl _ (Heap.lt_size e)) (Heap.get?_push_of_some _ e)
    have nD : ∀ b o, s₁.heap.get? b = some o → b ≠ D := fun b o e q => by
      have e' : s₁.heap.get? D = some o := q ▸ e
      have := Heap.get?_push_of_some oI e'
      rw [show (s₁.heap.push oI).get? D = none from hD] at this; cases this
    obtain ⟨oL, _, _, hoL, _⟩ := id F.ns
    refine fin D h' tk ys c (F.keeps up) (fun q hq => ?_) (fun q hq => nD _ _ (N q hq).1) hys
    rcases List.mem_cons.mp hq with rfl | hq
    · refine ⟨hl, fun q => nD L _ hoL q.symm, ?_⟩
      cases e : h₀.get? D with
      | none => rfl
      | some o => exact absurd rfl (nD D o (F.keep D o e))
    · exact ⟨up _ _ (N q hq).1, (N q hq).2⟩
theorem iter_name_bytes {x xe : Str} {px pe : Pos} {ifs : List Expr} {b : Array UInt8} {tb : Tok} {p : Nat → Bool} {Fin : Value → Shared → Prop} (hh : A.handled = none)
    (F : Fr h₀ L s₁.heap m) (N : News h₀ L s₁.heap news) (hsz : b.size ≤ sizeLine) (hkind : scope.kind = .function) (hx : scope.names.lookup x = some .local) (hxe : xe = x) (hd : (x == ("__debug__" : Str)) = false)
    (tst : TestsF w A h₀ L m news env ifs scope cl s₁ (fun i m₃ => ∃ v, (∃ c u, b[i]? = some c ∧ v = .int (c.toNat : Int) u) ∧ m₃ x = some v) b.size p)
    (fin : FinF h₀ L m news s₁ (fun i v => ∃ c u, b[i]? = some c ∧ v = .int (c.toNat : Int) u) b.size p Fin) :
    wpAny (model Pg w) A (pyIter (.bytes b tb)) (fun it s₂ => CompG w A env (.Name x px) (.Name xe pe) ifs scope cl Fin it s₂) E s₁ := by
  refine KBw.pyIter_bytes (compat_name F N (KBw.walks hh s₁.heap.objs.size b tb) hsz ⟨_, Heap.get?_push_size _ rfl, rfl, rfl⟩ (fun b hb => ?_) hkind hx hxe hd tst fin)
  rw [Heap.size_push, List.mem_singleton.mp hb]
  exact Nat.lt_succ_self _
end

end
section
open PySem PySem.W PyProof.Rows PySem.Calls PySem.Spec PyProof.Rows.LCg
set_option Elab.async false
set_option maxRecDepth 100000
set_option maxHeartbeats 4000000
set_option linter.unusedVariables false
section
variable {w : World} {A : Around} {E : Value → Shared → Prop} {scope : Scope} {pos : Pos} {h₀ : Heap} {L : Addr} {m : Str → Option Value} {news : List (Addr × Obj)} {env : Env} {cl : List (Str × Addr)} {s₁ : Shared}
/-- the made list is known to the frame and the ledger -/
theorem fin_facts {oI : Obj} {D : Addr} {h' : Heap} {ys : Array Value} {c : Nat} (F : Fr h₀ L s₁.heap m) (N : News h₀ L s₁.heap news) (hD : (s₁.heap.push oI).get? D = none) (hl : h'.get? D = some (listO ys c))
    (hk : ∀ b o, b ∉ [s₁.heap.objs.size] → (s₁.heap.push oI).get? b = some o → h'.get? b = some o) : Fr h₀ L h' m ∧ News h₀ L h' ((D, listO ys c) :: news) ∧ ∀ p ∈ news, p.1 ≠ D := by
  have up : ∀ b o, s₁.heap.get? b = some o → h'.get? b = some o := fun b o e => hk b o (fun hm => by rw [List.mem_singleton.mp hm] at e; exact Nat.lt_irrefl _ (Heap.lt_size e)) (Heap.get?_push_of_some _ e)
  have nD : ∀ b o, s₁.heap.get? b = some o → b ≠ D := fun b o e q => by
    have e' : s₁.heap.get? D = some o := q ▸ e
    have := Heap.get?_push_of_some oI e'
    rw [hD] at this; cases this
  obtain ⟨oL, _, _, hoL, _⟩ := id F.ns
  refine ⟨F.keeps up, fun q hq => ?_, fun q hq => nD _ _ (N q hq).1⟩
  rcases List.mem_cons.mp hq with rfl | hq
  · refine ⟨hl, fun q => nD L _ hoL q.symm, ?_⟩
    cases e : h₀.get? D with
    | none => rfl
    | some o => exact absurd rfl (nD D o (F.keep D o e))
  · exact ⟨up _ _ (N q hq).1, (N q hq).2⟩
/-! ## in the frame -/
theorem fresh_of_ns {h h' : Heap} {C D : Addr} {o : Obj} {m : Str → Option Value} (n : h.Ns C m) (e : h.get? D = some o) (ho : ∀ es ep, o.data ≠ .dict es ep) : C ≠ D := fun q => by
  obtain ⟨o', es, ep, ho', hd, _⟩ := n
  rw [q, e] at ho'; cases ho'
  exact ho _ _ hd
theorem Comp_K {target elt iter : Expr} {ifs : List Expr} {Q : Value → Shared → Prop} {s : Shared}
    (hclos : closureFor scope env = pure cl) (hcell : ∀ y ∈ scope.names, y.2 ≠ .cell) (hkind : scope.kind = .function)
    (hnames : ∀ y ∈ scope.names, y.2 = .local → scope.names.lookup y.1 = some .local)
    (hs : ∀ x, foldedSetIterable iter env x = pure x)
    (h : wpAny (model Pg w) A (eval iter env) (fun xv s₁ => wpAny (model Pg w) A (pyIter xv) (fun it s₂ => CompG w A env target elt ifs scope cl Q it s₂) E s₁) E s) :
    wpAny (model Pg w) A (eval (.ListComp elt [⟨target, iter, ifs, 0⟩] scope pos) env) Q E s := ListComp_G hclos hcell hkind hnames h hs
/-- the end of «y = [..]», y a local -/
noncomputable def FinL (h₀ : Heap) (L : Addr) (m : Str → Option Value) (news : List (Addr × Obj)) (y : Str) (s₁ : Shared) (Fi : Nat → Value → Prop) (n : Nat) (p : Nat → Bool) (Q : Flow → Shared → Prop) : Prop :=
  ∀ D h' tk ys c, Fr h₀ L h' (fun z => if z = y then some (.ref D) else m z) → News h₀ L h' ((D, listO ys c) :: news) → (∀ p ∈ news, p.1 ≠ D) → Paired Fi ((List.range n).filter p) ys.toList → Q .next { s₁ with heap := h', toks := tk }
theorem fin_local {y : Str} {py : Pos} {Fi : Nat → Value → Prop} {n : Nat} {p : Nat → Bool} {Q : Flow → Shared → Prop} {oI : Obj} (hL : env.locals = L) (hy : env.kindOf y = some .local) (hp : (env.scope.kind == .class || (env.scope.kind == .module && env.locals != env.globals)) = false)
    (hold : ∀ b o, s₁.heap.get? b = some o → (s₁.heap.push oI).get? b = some o)
    (N : News h₀ L s₁.heap news) (F : Fr h₀ L s₁.heap m) (fin : FinL h₀ L m news y s₁ Fi n p Q) :
    FinF h₀ L m news s₁ Fi n p (fun v s₃ => wpAny (model Pg w) A (assign (.Name y py) env v) (fun _ s₄ => ∀ C, (s₁.heap.push oI).get? C = none → (∃ m, s₃.heap.Ns C m) → (∃ m, s₄.heap.Ns C m) ∧ ∀ h', Heap.SameBut C s₄.heap h' → Q .next { s₄ with heap := h' }) E s₃) := by
  intro D h' tk ys c F' N' nD hys
  subst hL
  refine wpAny_assign_Name (wpAny_storeName_local hy F'.ns (fun h₂ hn₂ hs₂ => ?_) hp)
  rintro C hC ⟨mC, hmC⟩
  have hL₀ : h₀.get? env.locals = none := Heap.get?_none_of_le F'.above
  have nC : ∀ b o, s₁.heap.get? b = some o → b ≠ C := fun b o e q => by rw [← q, hold b o e] at hC; cases hC
  obtain ⟨oL, _, _, hoL, _⟩ := id F.ns
  have hCL : C ≠ env.locals := fun q => nC _ _ hoL q.symm
  have hC₀ : h₀.get? C = none := by
    cases e : h₀.get? C with
    | none => rfl
    | some o => exact absurd rfl (nC C o (F.keep C o e))
  have hCD : C ≠ D := fresh_of_ns (h' := h') hmC (N' _ (.head _)).1 (fun _ _ q => by cases q)
  refine ⟨⟨mC, hmC.sameBut hs₂ hCL⟩, fun h₃ hs₃ => fin D h₃ _ ys c ?_ (fun q hq => ?_) nD hys⟩
  · exact (Fr.set F' hn₂ hs₂).change hs₃ hCL hC₀
  · have z : h₂.get? q.1 = some q.2 := hs₂.extBut _ _ (N' q hq).2.1 (N' q hq).1
    refine ⟨hs₃.extBut _ _ ?_ z, (N' q hq).2⟩
    rcases List.mem_cons.mp hq with rfl | hq
    · exact Ne.symm hCD
    · exact nC _ _ (N q hq).1
/-- the end of «y = [..]», y a cell, the ledger's first -/
noncomputable def FinC (h₀ : Heap) (L : Addr) (m : Str → Option Value) (ca : Addr) (rest : List (Addr × Obj)) (s₁ : Shared) (Fi : Nat → Value → Prop) (n : Nat) (p : Nat → Bool) (Q : Flow → Shared → Prop) : Prop :=
  ∀ D h' tk ys c oc, Fr h₀ L h' m → News h₀ L h' ((D, listO ys c) :: (ca, oc) :: rest) → (∀ p ∈ (ca, oc) :: rest, p.1 ≠ D) → oc.data = .cell (some (.ref D)) → Paired Fi ((List.range n).filter p) ys.toList → Q .next { s₁ with heap := h', toks := tk }
end

end
section
open PySem PySem.W PyProof.Rows PySem.Calls
set_option Elab.async false
set_option maxRecDepth 100000
set_option maxHeartbeats 4000000
set_option linter.unusedVariables false
/-! ## sets of byte strings -/
theorem bl_inj {a b : List UInt8} (h : bl a = bl b) : a = b := (List.map_inj_right fun x y e => UInt8.toNat_inj.mp (by omega)).mp h
noncomputable def bset (seen : List (List Int)) (k : List UInt8) : Bool := seen.contains (bl k)
noncomputable def SetB (w : World) (so : Obj) (seen : List (List Int)) (n : Nat) : Prop := so.SetObjOf (PySem.W.bytesKind Pg w) (bset seen) n
section
variable {w : World} {A : Around} {E : Value → Shared → Prop} {s : Shared} {h₀ : Heap} {L sa : Addr} {m : PySem.Str → Option Value} {news : List (Addr × Obj)} {g : Obj → List (Addr × Obj)} {so : Obj} {seen : List (List Int)} {n : Nat} {b : Array UInt8} {t : Tok} {ks : List Int} {Q : Value → Shared → Prop}
theorem is_bytes : (PySem.W.bytesKind Pg w).is b.toList (.bytes b t) = true := by
  have := PySem.W.bytesKind_is Pg w b.toList t
  simpa using this
theorem newSet_B (F : Fr h₀ L s.heap m) (N : News h₀ L s.heap news)
    (h : ∀ D h' so', Fr h₀ L h' m → News h₀ L h' ((D, so') :: news) → (∀ p ∈ news, p.1 < D) → SetB w so' [] 0 → Q (.ref D) { s with heap := h' }) : wpAny (model Pg w) A (call (.type "set") []) Q E s :=
  newSet_N F N fun h' led F' N' => h _ h' _ F' N' (fun p hp => Heap.lt_size (N p hp).1) (setObjOf_fresh (knd := PySem.W.bytesKind Pg w) led)
theorem method_B {pl : Sem Bool} {Q : Value × List Value → Shared → Prop} (N : News h₀ L s.heap news) (U : UpdF sa so news g) (hso : SetB w so seen n) (hb : n < 4096) (h : Q (.builtin "set.add", [.ref sa]) s) :
    wpAny (model Pg w) A (getMethod (.ref sa) "add" pl) Q E s := kse_method N U hso hb h
theorem add_B (hk : KBw.bInts b = ks) (F : Fr h₀ L s.heap m) (N : News h₀ L s.heap news) (U : UpdF sa so news g) (hso : SetB w so seen n) (hb : n + 1 < 4096)
    (h : ∀ h' so' n', Fr h₀ L h' m → News h₀ L h' (g so') → SetB w so' (ks :: seen) n' → n' ≤ n + 1 → (seen.contains ks = false → n' = n + 1) → Q .none { s with heap := h', toks := s.toks + 1 }) :
    wpAny (model Pg w) A (call (.builtin "set.add") [.ref sa, .bytes b t]) Q E s := by
  have e : (fun k' => bset seen k' || decide (k' = b.toList)) = bset (ks :: seen) := by
    funext k'
    unfold bset
    rw [List.contains_cons, ← hk, Bool.or_comm]
    congr 1
    rw [Bool.eq_iff_iff, decide_eq_true_iff, beq_iff_eq]
    constructor
    · rintro rfl; rfl
    · exact fun q => bl_inj q
  refine kse_add F N U hso hb is_bytes rfl fun h' so' F' N' x => h h' so' (if bset seen b.toList then n else n + 1) F' N' ?_ ?_ ?_
  · rw [e] at x; exact x
  · split <;> omega
  · intro q
    have e2 : bset seen b.toList = seen.contains ks := by unfold bset; rw [← hk]; rfl
    rw [e2, q]; rfl
theorem in_B (hk : KBw.bInts b = ks) (N : News h₀ L s.heap news) (U : UpdF sa so news g) (hso : SetB w so seen n) (hb : n < 4096) (h : Q (.bool (seen.contains ks)) { s with toks := s.toks + 1 }) :
    wpAny (model Pg w) A (compareOp .In (.bytes b t) (.ref sa)) Q E s :=
  kse_in N U hso hb is_bytes rfl (by have e : bset seen b.toList = seen.contains ks := by { unfold bset; rw [← hk]; rfl }
                                     rw [e]; exact h)
theorem notIn_B (hk : KBw.bInts b = ks) (N : News h₀ L s.heap news) (U : UpdF sa so news g) (hso : SetB w so seen n) (hb : n < 4096) (h : Q (.bool (!seen.contains ks)) { s with toks := s.toks + 1 }) :
    wpAny (model Pg w) A (compareOp .NotIn (.bytes b t) (.ref sa)) Q E s :=
  kse_notin N U hso hb is_bytes rfl (by have e : bset seen b.toList = seen.contains ks := by { unfold bset; rw [← hk]; rfl }
                                        rw [e]; exact h)
end

end
section
open PySem PySem.W PyProof.Rows PySem.Calls
set_option Elab.async false
set_option maxRecDepth 100000
set_option maxHeartbeats 4000000
set_option linter.unusedVariables false
section
variable {w : World} {A : Around} {E : Value → Shared → Prop} {s : Shared} {h₀ : Heap} {L sa : Addr} {m : PySem.Str → Option Value} {so : Obj} {seen : List (List Int)} {n : Nat} {b : Array UInt8} {t : Tok} {ks : List Int} {Q : Value → Shared → Prop}
theorem newsOne {h : Heap} (e : h.get? sa = some so) : News {} (sa + 1) h [(sa, so)] := fun p hp => by
  rw [List.mem_singleton.mp hp]
  exact ⟨e, fun q => Nat.ne_of_lt (Nat.lt_succ_self sa) q, by simp [Heap.get?]⟩
theorem in_G (hk : KBw.bInts b = ks) (F : Fr h₀ L s.heap m) (hs : h₀.get? sa = some so) (hso : SetB w so seen n) (hb : n < 4096) (h : Q (.bool (seen.contains ks)) { s with toks := s.toks + 1 }) :
    wpAny (model Pg w) A (compareOp .In (.bytes b t) (.ref sa)) Q E s := in_B hk (newsOne (F.keep _ _ hs)) (UpdF.head fun _ hp => nomatch hp) hso hb h
theorem notIn_G (hk : KBw.bInts b = ks) (F : Fr h₀ L s.heap m) (hs : h₀.get? sa = some so) (hso : SetB w so seen n) (hb : n < 4096) (h : Q (.bool (!seen.contains ks)) { s with toks := s.toks + 1 }) :
    wpAny (model Pg w) A (compareOp .NotIn (.bytes b t) (.ref sa)) Q E s := notIn_B hk (newsOne (F.keep _ _ hs)) (UpdF.head fun _ hp => nomatch hp) hso hb h
end
section
variable {w : World} {A : Around} {E : Value → Shared → Prop} {s : Shared} {h₀ : Heap} {L sa : Addr} {m : PySem.Str → Option Value} {so : Obj} {seen : List (List Int)} {n : Nat}
theorem noBool_set : typeLookup (.type "set") "__bool__" = pure none := by rw [typeLookup_type, builtinLookup_eq_fast]; kernel_rfl
theorem truthy_G {Q : Bool → Shared → Prop} (F : Fr h₀ L s.heap m) (hs : h₀.get? sa = some so) (hso : SetB w so seen n) (hb : n < 4096) (h : Q (decide (0 < n)) { s with toks := s.toks + 1 + 1 }) :
    wpAny (model Pg w) A (truthy (.ref sa)) Q E s := by
  obtain ⟨hex, es, ep, t, hd, _, _, hn, hf⟩ := hso
  have ho := F.keep _ _ hs
  subst hn
  have hT : s.TypeIs (.ref sa) "set" := ⟨so, ho, hex.1⟩
  have hne : ((es.size : Int) != 0) = decide (0 < es.size) := by
    rcases Nat.eq_zero_or_pos es.size with e | e
    · rw [e]; rfl
    · rw [decide_eq_true e]; exact bne_iff_ne.mpr (by omega)
  have key : wpAny (model Pg w) A (runValue (.builtin "len" ⟨[.ref sa], []⟩)) (fun r s' => r = .int es.size (s.toks + 1) ∧ Q (decide (0 < es.size)) s') E s := by
    refine wpAny_runValue (codeAny_builtin entry_len ?_)
    rw [Around.under_plainId plain_len _]
    exact wpAny_mono (wpAny_len_body_set (Q := fun r s' => r = .int es.size (s.toks + 1) ∧ Q (decide (0 < es.size)) s') ho hex hd hf (by omega) ⟨rfl, h⟩)
      (fun fin s' h' => by obtain ⟨r, rfl, hq⟩ := h'; exact hq) fun _ _ e => e
  unfold truthy
  first
    | refine wpAny_bind (wpAny_callSpecial?_none (name := Str.ofString "__bool__") hT noBool_set ?_)
    | refine wpAny_bind (wpAny_pure (wpAny_bind (wpAny_callSpecial?_none (name := Str.ofString "__bool__") hT noBool_set ?_)))
  first
    | refine wpAny_bind (wpAny_specialOf (name := Str.ofString "__len__") hT PySem.F.slot_set_len.lookup ?_)
    | refine wpAny_bind (wpAny_pure (wpAny_bind (wpAny_specialOf (name := Str.ofString "__len__") hT PySem.F.slot_set_len.lookup ?_)))
  first
    | exact wpAny_bind (wpAny_mono key (fun r s' h' => by obtain ⟨rfl, hq⟩ := h'; exact wpAny_pure (hne ▸ hq)) fun _ _ e => e)
    | exact wpAny_bind (wpAny_pure (wpAny_bind (wpAny_mono key (fun r s' h' => by obtain ⟨rfl, hq⟩ := h'; exact wpAny_pure (hne ▸ hq)) fun _ _ e => e)))
end

end
section
open PySem PySem.W PyProof.Rows PySem.Calls PySem.Spec PyProof.Rows.LCg
set_option Elab.async false
set_option maxRecDepth 100000
set_option maxHeartbeats 4000000
set_option linter.unusedVariables false
noncomputable def noneOf (l seen : List (List Int)) : Bool := (l.filter fun k => seen.contains k).isEmpty
theorem range_getD (l : List Value) (d : Value) : (List.range l.length).map (fun i => l.getD i d) = l := by
  refine List.ext_getElem? fun i => ?_
  rw [List.getElem?_map]
  by_cases h : i < l.length
  · rw [List.getElem?_range h]
    simp [h]
  · rw [List.getElem?_eq_none (by simpa using h), List.getElem?_eq_none (by omega)]; rfl
theorem paired_map {Fi : Nat → Value → Prop} {g : Nat → Value} (hf : ∀ i v, Fi i v → v = g i) : ∀ {l : List Nat} {ys : List Value}, Paired Fi l ys → ys = l.map g
  | _, _, .nil => rfl
  | _, _, .cons h t => by rw [List.map_cons, ← paired_map hf t, hf _ _ h]
theorem paired_filter {its ys : List Value} {q : Value → Bool} (h : Paired (fun i v => its.toArray[i]? = some v) ((List.range its.toArray.size).filter fun i => q (its.getD i .none)) ys) : ys = its.filter q := by
  have e := paired_map (g := fun i => its.getD i .none) (fun i v hv => by
    have : its[i]? = some v := by simpa using hv
    rw [List.getD_eq_getElem?_getD, this]; rfl) h
  rw [e, List.size_toArray]
  have h2 := congrArg (List.filter q) (range_getD its .none)
  rw [List.filter_map] at h2
  exact h2
section
variable {w : World} {A : Around} {E : Value → Shared → Prop} {scope : Scope} {h₀ : Heap} {L : Addr} {m : Str → Option Value} {news : List (Addr × Obj)} {env : Env} {cl : List (Str × Addr)} {s : Shared}
/-- «y = [x for x in g if x in ph]», g a tuple of byte strings, ph a set of them in a cell -/
theorem acomp_in {y x ph g : Str} {py spos pos px pe pg p1 p2 p3 : Pos} {Q : Flow → Shared → Prop} {ax : Addr} {its : List Value} {D ca : Addr} {oc so : Obj} {seen : List (List Int)} {n : Nat}
    (hh : A.handled = none) (F : Fr h₀ L s.heap m) (N : News h₀ L s.heap news)
    (hit : ∀ Q : Value → Shared → Prop, Q (.ref ax) s → wpAny (model Pg w) A (eval (.Name g pg) env) Q E s)
    (ht : h₀.IsTuple ax its.toArray) (hz : its.length ≤ 8) (hb : ∀ v ∈ its, ∃ b t, v = .bytes b t ∧ b.size ≤ 1000)
    (hc : cl.lookup ph = some ca) (hm : (ca, oc) ∈ news) (hoc : oc.data = .cell (some (.ref D))) (hD : h₀.get? D = some so) (hset : SetB w so seen n) (hn : n ≤ 6)
    (hL : env.locals = L) (hy : env.kindOf y = some .local) (hp : (env.scope.kind == .class || (env.scope.kind == .module && env.locals != env.globals)) = false)
    (hsw : swapsWith (.ListComp (.Name x pe) [⟨.Name x px, .Name g pg, [.Compare (.Name x p1) [.In] [.Name ph p2] p3], 0⟩] scope pos) (some (.Name y py)) spos.line env = pure true)
    (hclos : closureFor scope env = pure cl) (hcell : ∀ y ∈ scope.names, y.2 ≠ .cell) (hkind : scope.kind = .function)
    (hnames : ∀ y ∈ scope.names, y.2 = .local → scope.names.lookup y.1 = some .local) (hx : scope.names.lookup x = some .local) (hdx : (x == ("__debug__" : Str)) = false) (hdp : (ph == ("__debug__" : Str)) = false)
    (hph : ∀ C, (compEnvC scope cl C env).kindOf ph = some .cell)
    (hs : ∀ v, foldedSetIterable (.Name g pg) env v = pure v)
    (fin : ∀ D h' tk ys c, Fr h₀ L h' (fun z => if z = y then some (.ref D) else m z) → News h₀ L h' ((D, listO ys c) :: news) → (∀ p ∈ news, p.1 ≠ D) → ys.isEmpty = noneOf (its.map bytesOf) seen → ys.size ≤ 8 → (∀ v ∈ ys.toList, ∃ b t, v = .bytes b t ∧ b.size ≤ 1000) → Q .next { s with heap := h', toks := tk }) :
    wpAny (model Pg w) A (exec (.Assign [.Name y py] (.ListComp (.Name x pe) [⟨.Name x px, .Name g pg, [.Compare (.Name x p1) [.In] [.Name ph p2] p3], 0⟩] scope pos) spos) env) Q E s := by
  refine AssignComp_G hsw hclos hcell hkind hnames (hit _ ?_) hs
  have hl : s.heap.IsTuple ax its.toArray := ht.at fun o e => F.keep _ o e
  obtain ⟨o, ho, _⟩ := id hl
  have hlt := Heap.lt_size ho
  refine wpAny_pyIter_tuple hl (compat_name (p := fun i => (fun v => seen.contains (bytesOf v)) (its.getD i .none)) F N (Walks.tuple hh s.heap.objs.size ax (Nat.ne_of_lt hlt) its.toArray) (by rw [List.size_toArray]; exact Nat.le_trans hz (by decide)) ⟨⟨_, Heap.get?_push_size _ rfl, rfl, rfl⟩, hl.at fun o e => Heap.get?_push_of_some _ e⟩ (fun b hb => ?_) hkind hx rfl hdx ?_ ?_)
  · rw [Heap.size_push]
    rcases List.mem_cons.mp hb with rfl | hb
    · exact Nat.lt_succ_self _
    · rw [List.mem_singleton.mp hb]; exact Nat.lt_succ_of_lt hlt
  · intro C oC m₃ i h₃ tk₃ E' hi hV hoC F₃ N₃ hnC
    obtain ⟨v, hv, hmv⟩ := hV
    have hv' : its[i]? = some v := by simpa using hv
    obtain ⟨b, t, rfl, _⟩ := hb v (List.mem_of_getElem? hv')
    have hCn := (N₃ (C, oC) (.head _)).1
    refine wpAny_tests_one (wpAny_isTrue_Compare1 (name_local hkind hx hdx (hoC.ns hCn) hmv ?_) rfl)
    refine wpAny_Name (wpAny_loadName_cell (env := compEnvC scope cl C env) (by simp [compEnvC, relabel, hkind]) (hph C) hc ⟨oc, (N₃ (ca, oc) (.tail _ hm)).1, hoc⟩ ?_) hdp
    refine in_G rfl F₃ hD hset (by omega) (wpAny_truthy_bool ⟨?_, _, _, rfl, fun _ _ e => e⟩)
    dsimp only
    rw [List.getD_eq_getElem?_getD, hv']; rfl
  · refine fin_local hL hy hp (fun b o e => Heap.get?_push_of_some _ e) N F ?_
    intro D h' tk ys c F' N' nD hys
    have e : ys.toList = its.filter (fun v => seen.contains (bytesOf v)) := paired_filter hys
    have hl := List.length_filter_le (fun v => seen.contains (bytesOf v)) its
    rw [← e, Array.length_toList] at hl
    exact fin D h' tk ys c F' N' nD (by unfold noneOf; rw [List.filter_map, List.isEmpty_map, show ys.isEmpty = ys.toList.isEmpty by simp, e]; rfl) (Nat.le_trans hl hz) fun v hv => hb v (List.mem_filter.mp (e ▸ hv)).1
end

end
section
open PySem PySem.W PyProof.Rows PySem.Calls PySem.Spec PyProof.Rows.LCg PySem.Builtin
set_option Elab.async false
set_option maxRecDepth 100000
set_option maxHeartbeats 4000000
set_option linter.unusedVariables false
theorem textFrom_up : ∀ (ts : List Str) (k : Nat) (acc : Str) (M : Nat), (∀ t ∈ ts, t.length ≤ M) → (textFrom k acc ts).length ≤ acc.length + (M + 2) * ts.length
  | [], k, acc, M, _ => by show acc.length ≤ _; omega
  | t :: r, k, acc, M, h => by
    have h1 := textFrom_up r (k + 1) (acc ++ (if k > 0 then ", " else "" : String) ++ t) M fun t ht => h t (.tail _ ht)
    have h2 := h t (.head _)
    have h3 : (Str.ofString (if k > 0 then ", " else "" : String)).length ≤ 2 := by split <;> decide
    have h4 : (acc ++ (if k > 0 then ", " else "" : String) ++ t).length ≤ acc.length + 2 + M := by
      rw [Str.length_append, Str.length_append]; omega
    show (textFrom (k + 1) (acc ++ (if k > 0 then ", " else "" : String) ++ t) r).length ≤ _
    rw [List.length_cons, Nat.mul_succ]
    omega
theorem listText_up {ts : List Str} {M : Nat} (h : ∀ t ∈ ts, t.length ≤ M) : (listText ts).length ≤ 2 + (M + 2) * ts.length := by
  have h1 := textFrom_up ts 0 "[" M h
  unfold listText
  rw [Str.length_append]
  have h2 : (Str.ofString "[").length = 1 := by decide
  have h3 : (Str.ofString "]").length = 1 := by decide
  rw [h2] at h1
  rw [h3]
  omega
section
variable {w : World} {A : Around} {E : Value → Shared → Prop} {h₀ : Heap} {L a : Addr} {m : Str → Option Value} {news : List (Addr × Obj)} {s : Shared} {ys : Array Value} {c : Nat} {Q : Value → Shared → Prop}
theorem reprIs_bytes {b : Array UInt8} (t : Tok) (hz : b.size ≤ 1000) : ReprIs Pg w (.bytes b t) (Bytes.literal b) := fun n hn _ _ s _ h => by
  have hn' : n ≤ sizeLine := by omega
  have hl := literal_len b
  rw [pyReprUnder_leaf (v := .bytes b t) hn' (fun _ e => nomatch e)]
  unfold pyRepr
  exact wpAny_bind (wpAny_pyReprObj_gives (typeIs_bytes s b t) slot_brepr entry_brepr (args_brepr _) (gives_brepr b t hz) (wpAny_pure (h _)) (hx := by rw [sizeLine_eq]; omega))
noncomputable def litOf : Value → Str
  | .bytes b _ => Bytes.literal b
  | _ => Str.empty
/-- the text of a list of byte strings -/
theorem call_repr_L (N : News h₀ L s.heap news) (F : Fr h₀ L s.heap m) (hm : (a, listO ys c) ∈ news) (hb : ∀ v ∈ ys.toList, ∃ b t, v = .bytes b t ∧ b.size ≤ 1000) (hz : ys.size ≤ 8) (hne : ys.isEmpty = false) (hg : A.guards = some []) (hu : A.units + 1 < cLine)
    (h : ∀ x t h' tk, x.length ≤ 40000 → (∀ b o, s.heap.get? b = some o → h'.get? b = some o) → Q (.str x t) { s with heap := h', toks := tk }) :
    wpAny (model Pg w) A (call (.builtin "list.__repr__") [.ref a]) Q E s := by
  obtain ⟨l, rfl⟩ : ∃ l : List Value, ys = l.toArray := ⟨ys.toList, by simp⟩
  cases l with
  | nil => simp at hne
  | cons x r =>
    have hlen : (listText ((x :: r).map litOf)).length ≤ 40000 := by
      refine Nat.le_trans (listText_up (M := 4003) fun t ht => ?_) ?_
      · obtain ⟨v, hv, rfl⟩ := List.mem_map.mp ht
        obtain ⟨b, t, rfl, hz⟩ := hb v (by simpa using hv)
        have := literal_len b
        show (Bytes.literal b).length ≤ 4003
        omega
      · rw [List.length_map]
        have : (x :: r).length ≤ 8 := by simpa using hz
        calc 2 + (4003 + 2) * (x :: r).length ≤ 2 + 4005 * 8 := by omega
          _ ≤ 40000 := by omega
    refine call_list_reprK (ts := (x :: r).map litOf) (as := []) (h₀ := s.heap) (d := 0) (N _ hm).1 rfl rfl (fun q => nomatch q) (by simp) (fun i y hy => ?_) hg (fun b _ => Clear.nil b) hu (fun _ _ e => e) (fun h' u tk k => h _ u h' tk hlen k) (by rw [sizeLine_eq]; omega)
    have hy' : (x :: r)[i]? = some y := by simpa using hy
    obtain ⟨b, t, rfl, hzb⟩ := hb y (by simpa using List.mem_of_getElem? hy')
    refine ⟨Bytes.literal b, ?_, ReprK.of_is (reprIs_bytes t hzb) [] s.heap 0⟩
    rw [List.getElem?_map, hy']; rfl
theorem format_L (N : News h₀ L s.heap news) (F : Fr h₀ L s.heap m) (hm : (a, listO ys c) ∈ news) (hb : ∀ v ∈ ys.toList, ∃ b t, v = .bytes b t ∧ b.size ≤ 1000) (hz : ys.size ≤ 8) (hne : ys.isEmpty = false) (hg : A.guards = some []) (hu : A.units + 4 < cLine)
    (h : ∀ x t h' tk, x.length ≤ 40000 → Fr h₀ L h' m → News h₀ L h' news → Q (.str x t) { s with heap := h', toks := tk }) :
    wpAny (model Pg w) A (formatField (.ref a) Str.empty) Q E s := by
  have hT : s.TypeIs (.ref a) "list" := ⟨_, (N _ hm).1, rfl⟩
  refine wpAny_formatField_slot (T := "list") (idr := "list.__repr__") (fun _ _ => nofun) (by omega) hT PySem.F.slot_list_format PySem.F.slot_list_str PySem.F.slot_list_repr.toG ?_
  exact call_repr_L (s := { s with toks := s.toks + 1 }) N F hm hb hz hne hg (by show A.units + 1 + 1 + 1 < cLine; omega) fun x t h' tk hx k => ⟨x, t, rfl, h x t h' tk hx (F.keeps k) (N.grown k)⟩
theorem repr_L (N : News h₀ L s.heap news) (F : Fr h₀ L s.heap m) (hm : (a, listO ys c) ∈ news) (hb : ∀ v ∈ ys.toList, ∃ b t, v = .bytes b t ∧ b.size ≤ 1000) (hz : ys.size ≤ 8) (hne : ys.isEmpty = false) (hg : A.guards = some []) (hu : A.units + 4 < cLine)
    (h : ∀ x t h' tk, x.length ≤ 40000 → Fr h₀ L h' m → News h₀ L h' news → Q (.str x t) { s with heap := h', toks := tk }) :
    wpAny (model Pg w) A (pyReprObj (.ref a)) Q E s := by
  have hT : s.TypeIs (.ref a) "list" := ⟨_, (N _ hm).1, rfl⟩
  exact wpAny_pyReprObj_slot (by omega) hT PySem.F.slot_list_repr.toG (call_repr_L N F hm hb hz hne hg (by omega) fun x t h' tk hx k => ⟨x, t, rfl, h x t h' tk hx (F.keeps k) (N.grown k)⟩)
end
/-! ## None and a byte string -/
theorem NoneType_eq_bytes (b : Array UInt8) (t : Tok) : Gives (Builtin.«NoneType.__eq__» ⟨[.none, .bytes b t], []⟩) (.val (Value.notImplemented)) :=
  .of_wp fun M A E s Q h => by obtain ⟨hp, g, d, tk, os⟩ := s; wp_walk; exact ⟨_, rfl, h⟩
theorem bytes_eq_None (b : Array UInt8) (t : Tok) : Gives (Builtin.«bytes.__eq__» ⟨[.bytes b t, .none], []⟩) (.val (Value.notImplemented)) :=
  .of_wp fun M A E s Q h => by
    have e : isSubtype (.type "NoneType") (.type "bytes") = pure false := by rw [isSubtype_type]; kernel_rfl
    obtain ⟨hp, g, d, tk, os⟩ := s; wp_walk; exact ⟨_, rfl, h⟩
theorem sub_bytes_NoneType : isSubtype (.type "bytes") (.type "NoneType") = pure false := by rw [isSubtype_type]; kernel_rfl
theorem eq_none_bytes {w : World} {A : Around} {E : Value → Shared → Prop} {s : Shared} {Q : Value → Shared → Prop} {b : Array UInt8} {t : Tok} (h : Q (.bool false) s) : wpAny (model Pg w) A (compareOp .Eq .none (.bytes b t)) Q E s := by
  show wpAny _ A (richCompare .Eq _ _) Q E s
  exact PySem.EqNone.wpAny_richCompare_eq_decline (k := false) (fun _ => rfl) (fun s' => typeIs_bytes s' b t) (by decide) sub_bytes_NoneType PySem.F.slot_NoneType_eq FB.slot_bytes_eq rfl
    (call_gives PySem.F.slot_NoneType_eq rfl PySem.F.entry_NoneType_eq (PySem.F.args_NoneType_eq_2 _ _) (NoneType_eq_bytes b t)
      ⟨rfl, call_gives FB.slot_bytes_eq (typeIs_bytes s b t) FB.entry_bytes_eq (FB.args_bytes_eq_2 _ _) (bytes_eq_None b t) ⟨rfl, h⟩⟩)

end
local macro_rules | `(tactic| kba_ints) => `(tactic| first | (with_reducible assumption) | (with_reducible exact bl_ints _))
section
open PySem PySem.W PyProof.Rows PySem.Calls PySem.W.X
set_option Elab.async false
set_option maxRecDepth 100000
set_option maxHeartbeats 8000000
set_option linter.unusedVariables false
set_option pp.deepTerms false
set_option pp.maxSteps 6000
noncomputable abbrev flagO (p q r t : Bool) (dx : Addr) (n : Nat) : Obj := { cls := .ref 182, dict := some dx, data := .seq #[.bool p, .bool q, .bool r, .bool t] n }
theorem issub_G {w : World} {A : Around} {E : Value → Shared → Prop} {s : Shared} {Q : Value → Shared → Prop} (X : (frJ.heap_1 w.params).In s.heap) (h : Q (.bool true) s) :
    wpAny (model Pg w) A (call (.builtin "issubclass") [.ref 182, .type "tuple"]) Q E s :=
  call_issubclass (S := fun _ R s => (frJ.heap_1 w.params).In s.heap ∧ R (.ok (.ret (.bool true))) s)
    (fun _ _ _ _ _ hs => issubclass_outer ((Looks.of_peek (r := .done (.ret (.bool true))) hs.1 (by kernel_rfl)).here hs.2)) ⟨X, h⟩
theorem meta_tuple : typeOf (.type "tuple") = pure (.type "type") := by kernel_rfl
theorem sub182 {w : World} : subIn (frJ.heap_1 w.params) (.ref 182) (.type "tuple") = some true := by kernel_rfl
theorem tupItem_G {w : World} {A : Around} {E : Value → Shared → Prop} {s : Shared} {Q : Value → Shared → Prop} {fa dx : Addr} {nf : Nat} {p q r t : Bool} {k : Int} {u : Tok} {j : Nat} {v : Value}
    {h₀ : Heap} {L : Addr} {m : PySem.Str → Option Value} (X : (frJ.heap_1 w.params).In s.heap) (F : Fr h₀ L s.heap m) (hfa₀ : h₀.get? fa = some (flagO p q r t dx nf)) (hlo : -(2 ^ 63) ≤ k) (hhi : k < 2 ^ 63) (hj : seqIndex? k 4 = some j) (hx : (#[.bool p, .bool q, .bool r, .bool t] : Array Value)[j]? = some v) (h : Q v s) :
    wpAny (model Pg w) A (call (.builtin "tuple.__getitem__") [.ref fa, .int k u]) Q E s := by
  have hfa := F.keep _ _ hfa₀
  refine wpAny_call (codeAny_call_builtin (by decide +kernel) entry_tuple_getitem ?_)
  refine check_slot (i := "tuple.__getitem__") (self := .ref fa) (rest := [.int k u]) (kw := []) (owner := "tuple") (n := "__getitem__") (by decide +kernel) (by decide +kernel) ?_ (args_tuple_getitem _ _) ?_
  · unfold isInstance
    exact ((Looks.ld hfa).andThen .now).andThen (looks_subIn X sub182)
  show wpAny _ _ (Builtin.Tuple.tupleItemsOf (.ref fa) >>= _) _ _ s
  unfold Builtin.Tuple.tupleItemsOf
  refine wpAny_bind (wpAny_bind (wpAny_seqItems hfa rfl (wpAny_pure ?_)))
  refine wpAny_bind (wpAny_typeOf (typeIs_int s k u) ?_)
  rw [if_neg (by decide)]
  refine wpAny_bind (wpAny_specialOf (T := "int") (typeIs_int s k u) int_index ?_)
  rw [if_neg (by simp)]
  refine wpAny_bind (wpAny_of_eq (a := k) rfl ?_)
  rw [if_neg (by simp only [Bool.or_eq_true, decide_eq_true_eq]; omega)]
  have hj' : seqIndex? k (#[.bool p, .bool q, .bool r, .bool t] : Array Value).size = some j := hj
  simp only [hj', Option.bind_some, hx]
  exact wpAny_pure h
theorem Get1_c {w : World} {mean : ExcName → Option Value} {mg mb : Str → Option Value} {outer : List Env} {dp un : Nat} {gd : Option (List Code)} {s : Shared} {Q E : Value → Shared → Prop} {p q r t : Bool}
    {fa dx : Addr} {nf : Nat}
    (X : (frJ.heap_1 w.params).In s.heap) (T : Top topProg loose mean mg mb s.heap) (hdp : dp + 4 < recursionLimit) (hun : un + 20 < cLine)
    (hfa : s.heap.get? fa = some (flagO p q r t dx nf))
    (ret : ∀ h' tk, Ext s.heap h' → Q (.bool q) { s with heap := h', toks := tk }) :
    wpAny (model Pg w) (AZ dp un gd outer) (call (.ref 82) [.ref 171, .ref fa, .ref 182]) Q E s := by
  k_with_none
  k_with "getMethod bytes" => (k_here; (with_reducible first | refine gm_lower ?_ | refine gm_strip ?_ | refine gm_find ?_))
  k_with "pyReprObj" => (k_here; (refine repr_K (by kba_ints) (by kba_size) ?_); intro _ _ _ _; (try dsimp only))
  k_with "call builtin:bytes.lower" => (k_here; (refine lower_K (by kba_ints) (by kba_size) ?_); intro _ _ _ _; (try dsimp only))
  k_with "call builtin:bytes.find" => (k_here; (refine find_K (by kba_ints) (by first | assumption | rfl | decide +kernel) ?_); intro _ _ _ _; (try dsimp only))
  k_with "compareOp Eq" => (k_here; (with_reducible show wpAny _ _ (compareOp CmpOp.Eq (Value.bytes _ _) (Value.bytes _ _)) _ _ _); (refine eqB_K (by kba_ints) (by kba_ints) ?_))
  k_with "compareOp NotEq" => (k_here; (with_reducible show wpAny _ _ (compareOp CmpOp.NotEq (Value.bytes _ _) (Value.bytes _ _)) _ _ _); (refine neB_K (by kba_ints) (by kba_ints) ?_))
  k_with "compareOp Eq bytes bytes" => (k_here; (refine eqB_K (by kba_ints) (by kba_ints) ?_))
  k_with "compareOp NotEq bytes bytes" => (k_here; (refine neB_K (by kba_ints) (by kba_ints) ?_))
  k_with "compareOp In bytes ref" => (k_here; k_dflt (first | (refine' in_tupB (kss := ownL) (tupK ?qX ?qF ?qh) ?qhb ?qhit ?qhk ?_; (case qX => assumption); (case qF => assumption); (case qh => k_is); (case qhb => exact rfl); (case qhit => exact rfl); (case qhk => kba_ints)) | (refine' in_tupB (kss := allowedL) (tupK ?qX ?qF ?qh) ?qhb ?qhit ?qhk ?_; (case qX => assumption); (case qF => assumption); (case qh => k_is); (case qhb => exact rfl); (case qhit => exact rfl); (case qhk => kba_ints))))
  k_with "compareOp NotIn bytes ref" => (k_here; k_dflt (refine' notIn_tupB (kss := allowedL) (tupK ?qX ?qF ?qh) ?qhb ?qhit ?qhk ?_; (case qX => assumption); (case qF => assumption); (case qh => k_is); (case qhb => exact rfl); (case qhit => exact rfl); (case qhk => kba_ints)))
  k_with "subscriptTail" => (k_here; (with_reducible show wpAny _ _ (subscriptTail _ _ (Value.bytes _ _) (Value.int _ _)) _ _ _); (first | refine item0_A (by kba_ints) (by omega) (by omega) ?_ | refine itemL_A (by kba_ints) (by omega) (by omega) ?_); intro _ _ _ _ _ _; (try dsimp only))
  k_with "exec For" => (k_here; (with_unfolding_all refine' For_mine ?qF ?qhE ?qhx ?qhp ?qhs ?_; (case qF => assumption); (case qhE => assumption); (case qhx => exact rfl); (case qhp => exact rfl); (case qhs => exact fun _ => rfl); k_whole))
  k_with "exec For Name Name cons nil" => (k_here; (with_unfolding_all refine' For_mine ?qF ?qhE ?qhx ?qhp ?qhs ?_; (case qF => assumption); (case qhE => assumption); (case qhx => exact rfl); (case qhp => exact rfl); (case qhs => exact fun _ => rfl); k_whole))
  k_with "subscriptTail" => (k_here; (with_reducible show wpAny _ _ (subscriptTail _ _ (Value.ref _) (Value.int _ _)) _ _ _); (first | (refine pair0_A (by k_asm) (by assumption) ?_) | (refine pair1_A (by k_asm) (by assumption) ?_)))
  k_with "call type:type" => (k_here; (refine type_G (by k_asm) (by assumption) (by rfl) ?_); (try dsimp only))
  k_with "call builtin:issubclass" => (k_here; (refine issub_G (by k_in) ?_))
  k_with "getMethod type:tuple" => (k_here; refine' method_type ?qF ?qX ?qm (by decide +kernel) ?qe ?qh ?_; (case qF => k_asm); (case qX => k_asm); (case qm => exact meta_tuple); (case qe => k_dflt k_is); (case qh => k_handed))
  k_with "call builtin:tuple.__getitem__" => (k_here; (refine tupItem_G (by k_in) (by k_asm) (by assumption) (by decide) (by decide) rfl rfl ?_))
  refine wpAny_call ?_
  k_dflt (refine' enterB (binds := [(Str.ofString "self", .ref 171), (Str.ofString "obj", .ref fa), (Str.ofString "objtype", .ref 182)]) X T.nolimit ?ho ?hcd ?hroom ?hbind ?hloc ?_ ?c5 ?c6 ?c7 ?c8; (case ho => k_is); (case hcd => k_is); (case hroom => show dp < recursionLimit; omega); (case hbind => exact binds_K X rfl (by k_is) rfl rfl rfl); (case hloc => exact locs rfl); (case c5 => decide); (case c6 => exact rfl); (case c7 => exact rfl); (case c8 => exact rfl); k_whole; intro L' h' F' N')
  k_steps
  exact ret _ _ (Fr.keep (by assumption))
theorem Get2_c {w : World} {mean : ExcName → Option Value} {mg mb : Str → Option Value} {outer : List Env} {dp un : Nat} {gd : Option (List Code)} {s : Shared} {Q E : Value → Shared → Prop} {p q r t : Bool}
    {fa dx : Addr} {nf : Nat}
    (X : (frJ.heap_1 w.params).In s.heap) (T : Top topProg loose mean mg mb s.heap) (hdp : dp + 4 < recursionLimit) (hun : un + 20 < cLine)
    (hfa : s.heap.get? fa = some (flagO p q r t dx nf))
    (ret : ∀ h' tk, Ext s.heap h' → Q (.bool r) { s with heap := h', toks := tk }) :
    wpAny (model Pg w) (AZ dp un gd outer) (call (.ref 82) [.ref 174, .ref fa, .ref 182]) Q E s := by
  k_with_none
  k_with "getMethod bytes" => (k_here; (with_reducible first | refine gm_lower ?_ | refine gm_strip ?_ | refine gm_find ?_))
  k_with "pyReprObj" => (k_here; (refine repr_K (by kba_ints) (by kba_size) ?_); intro _ _ _ _; (try dsimp only))
  k_with "call builtin:bytes.lower" => (k_here; (refine lower_K (by kba_ints) (by kba_size) ?_); intro _ _ _ _; (try dsimp only))
  k_with "call builtin:bytes.find" => (k_here; (refine find_K (by kba_ints) (by first | assumption | rfl | decide +kernel) ?_); intro _ _ _ _; (try dsimp only))
  k_with "compareOp Eq" => (k_here; (with_reducible show wpAny _ _ (compareOp CmpOp.Eq (Value.bytes _ _) (Value.bytes _ _)) _ _ _); (refine eqB_K (by kba_ints) (by kba_ints) ?_))
  k_with "compareOp NotEq" => (k_here; (with_reducible show wpAny _ _ (compareOp CmpOp.NotEq (Value.bytes _ _) (Value.bytes _ _)) _ _ _); (refine neB_K (by kba_ints) (by kba_ints) ?_))
  k_with "compareOp Eq bytes bytes" => (k_here; (refine eqB_K (by kba_ints) (by kba_ints) ?_))
  k_with "compareOp NotEq bytes bytes" => (k_here; (refine neB_K (by kba_ints) (by kba_ints) ?_))
  k_with "compareOp In bytes ref" => (k_here; k_dflt (first | (refine' in_tupB (kss := ownL) (tupK ?qX ?qF ?qh) ?qhb ?qhit ?qhk ?_; (case qX => assumption); (case qF => assumption); (case qh => k_is); (case qhb => exact rfl); (case qhit => exact rfl); (case qhk => kba_ints)) | (refine' in_tupB (kss := allowedL) (tupK ?qX ?qF ?qh) ?qhb ?qhit ?qhk ?_; (case qX => assumption); (case qF => assumption); (case qh => k_is); (case qhb => exact rfl); (case qhit => exact rfl); (case qhk => kba_ints))))
  k_with "compareOp NotIn bytes ref" => (k_here; k_dflt (refine' notIn_tupB (kss := allowedL) (tupK ?qX ?qF ?qh) ?qhb ?qhit ?qhk ?_; (case qX => assumption); (case qF => assumption); (case qh => k_is); (case qhb => exact rfl); (case qhit => exact rfl); (case qhk => kba_ints)))
  k_with "subscriptTail" => (k_here; (with_reducible show wpAny _ _ (subscriptTail _ _ (Value.bytes _ _) (Value.int _ _)) _ _ _); (first | refine item0_A (by kba_ints) (by omega) (by omega) ?_ | refine itemL_A (by kba_ints) (by omega) (by omega) ?_); intro _ _ _ _ _ _; (try dsimp only))
  k_with "exec For" => (k_here; (with_unfolding_all refine' For_mine ?qF ?qhE ?qhx ?qhp ?qhs ?_; (case qF => assumption); (case qhE => assumption); (case qhx => exact rfl); (case qhp => exact rfl); (case qhs => exact fun _ => rfl); k_whole))
  k_with "exec For Name Name cons nil" => (k_here; (with_unfolding_all refine' For_mine ?qF ?qhE ?qhx ?qhp ?qhs ?_; (case qF => assumption); (case qhE => assumption); (case qhx => exact rfl); (case qhp => exact rfl); (case qhs => exact fun _ => rfl); k_whole))
  k_with "subscriptTail" => (k_here; (with_reducible show wpAny _ _ (subscriptTail _ _ (Value.ref _) (Value.int _ _)) _ _ _); (first | (refine pair0_A (by k_asm) (by assumption) ?_) | (refine pair1_A (by k_asm) (by assumption) ?_)))
  k_with "call type:type" => (k_here; (refine type_G (by k_asm) (by assumption) (by rfl) ?_); (try dsimp only))
  k_with "call builtin:issubclass" => (k_here; (refine issub_G (by k_in) ?_))
  k_with "getMethod type:tuple" => (k_here; refine' method_type ?qF ?qX ?qm (by decide +kernel) ?qe ?qh ?_; (case qF => k_asm); (case qX => k_asm); (case qm => exact meta_tuple); (case qe => k_dflt k_is); (case qh => k_handed))
  k_with "call builtin:tuple.__getitem__" => (k_here; (refine tupItem_G (by k_in) (by k_asm) (by assumption) (by decide) (by decide) rfl rfl ?_))
  refine wpAny_call ?_
  k_dflt (refine' enterB (binds := [(Str.ofString "self", .ref 174), (Str.ofString "obj", .ref fa), (Str.ofString "objtype", .ref 182)]) X T.nolimit ?ho ?hcd ?hroom ?hbind ?hloc ?_ ?c5 ?c6 ?c7 ?c8; (case ho => k_is); (case hcd => k_is); (case hroom => show dp < recursionLimit; omega); (case hbind => exact binds_K X rfl (by k_is) rfl rfl rfl); (case hloc => exact locs rfl); (case c5 => decide); (case c6 => exact rfl); (case c7 => exact rfl); (case c8 => exact rfl); k_whole; intro L' h' F' N')
  k_steps
  exact ret _ _ (Fr.keep (by assumption))
theorem slot_tupga : Slot "tuple" "__getattribute__" "tuple.__getattribute__" :=
  .of (owner := "tuple") (n := "__getattribute__") (by rw [typeLookup_type, builtinLookup_eq_fast]; kernel_rfl) (by decide +kernel) (by decide +kernel) (by decide +kernel)
    (by first | exact .inl (by decide +kernel) | exact .inr (by decide +kernel)) (by rw [isSubtype_type]; kernel_rfl)
theorem entry_tupga : entryFor table "tuple.__getattribute__" = some Builtin.«object.__getattribute__» :=
  entryFor_alias (id' := "object.__getattribute__") (by rw [fastTable_eq_tree]; kernel_rfl) (by first | rfl | decide +kernel) (by decide +kernel) (by rw [fastTable_eq_tree]; kernel_rfl)
theorem args_tupga (a b : Value) : argsOk "tuple.__getattribute__" ⟨[a, b], []⟩ := by unfold argsOk; kernel_rfl
theorem flag_attr {w : World} {A : Around} {s : Shared} {Q E : Value → Shared → Prop} {p q r t : Bool} {fa dx desc : Addr} {nf : Nat} {name : Str} {expr : Bool}
    (X : (frJ.heap_1 w.params).In s.heap) (hfa : s.heap.get? fa = some (flagO p q r t dx nf))
    (hfind : Looks (model Pg w) s.heap (Builtin.ObjectAttr.find (.ref fa) (.ref 182) name) (.bind (.ref 82) (.ref desc)))
    (hcall : ∀ tk, wpAny (model Pg w) A.in1 (call (.ref 82) [.ref desc, .ref fa, .ref 182]) (fun v s' => ∃ b, v = .bool b ∧ Q (.bool b) s') (fun _ _ => False) { s with toks := tk }) :
    wpAny (model Pg w) A (getAttr (.ref fa) name expr) Q E s := by
  have L0 : Looks (model Pg w) s.heap (typeOf (.ref fa)) (.ref 182) := (Looks.ld hfa).andThen .now
  have hga : findIn (frJ.heap_1 w.params) (.ref 182) "__getattribute__" = some (some (.builtin "tuple.__getattribute__")) := by kernel_rfl
  have L1 := looks_findIn (M := model Pg w) X hga
  have hhk : findIn (frJ.heap_1 w.params) (.ref 182) "__getattr__" = some none := by kernel_rfl
  have L2 := looks_findIn (M := model Pg w) X hhk
  refine wpAny_bind (wpAny_mkText (wpAny_holding (wpAny_bind (L0 _ _ _ _ (fun _ _ e => e) (wpAny_bind (L1 _ _ _ _ (fun _ _ e => e) ?_))))))
  dsimp only
  rw [if_neg (by rw [show (Value.builtin "tuple.__getattribute__" == Value.builtin "object.__getattribute__") = false from by decide +kernel, Bool.and_false]; decide)]
  unfold getAttrByItsOwn hookBefore
  refine wpAny_bind (L2 _ _ _ _ (fun _ _ e => e) (wpAny_bind (wpAny_attempt (wpAny_holding ?_))))
  unfold callGetattribute
  rw [show (expr && onTheHeap (Value.builtin "tuple.__getattribute__")) = false from Bool.and_false _, if_neg (by decide)]
  unfold boundAndCalled
  rw [slot_tupga.bind]
  refine wpAny_bind (wpAny_pure ?_)
  show wpAny _ _ (call (.builtin "tuple.__getattribute__") [.ref fa, .str name s.toks]) _ _ _
  refine wpAny_call (codeAny_call_builtin (by decide +kernel) entry_tupga ?_)
  refine check_slot (i := "tuple.__getattribute__") (self := .ref fa) (rest := [.str name s.toks]) (kw := []) (owner := "tuple") (n := "__getattribute__") (by decide +kernel) (by decide +kernel) ?_ (args_tupga _ _) ?_
  · unfold isInstance
    exact L0.andThen (looks_subIn X sub182)
  show wpAny _ _ (typeOf (.ref fa) >>= _) _ _ _
  refine wpAny_bind (L0 _ _ _ _ (fun _ _ e => e) (wpAny_bind (hfind _ _ _ _ (fun _ _ e => e) ?_)))
  show wpAny _ _ (do ret (← holding [.ref desc] (call (.ref 82) [.ref desc, .ref fa, .ref 182]))) _ _ _
  refine wpAny_bind (wpAny_holding (wpAny_mono (hcall _) (fun v s' h' => ?_) fun _ _ f => f.elim))
  obtain ⟨b, rfl, h'⟩ := h'
  exact wpAny_pure (wpAny_pure h')
theorem find1 {w : World} {h : Heap} {fa : Addr} (X : (frJ.heap_1 w.params).In h) : Looks (model Pg w) h (Builtin.ObjectAttr.find (.ref fa) (.ref 182) (Str.ofString "is_trailer")) (.bind (.ref 82) (.ref 171)) := Looks.of_peek X (by kernel_rfl)
theorem find2 {w : World} {h : Heap} {fa : Addr} (X : (frJ.heap_1 w.params).In h) : Looks (model Pg w) h (Builtin.ObjectAttr.find (.ref fa) (.ref 182) (Str.ofString "is_response_header")) (.bind (.ref 82) (.ref 174)) := Looks.of_peek X (by kernel_rfl)
section
variable {w : World} {mean : ExcName → Option Value} {mg mb : Str → Option Value} {outer : List Env} {dp un : Nat} {gd : Option (List Code)} {s : Shared} {Q E : Value → Shared → Prop} {p q r t : Bool} {fa dx : Addr} {nf : Nat} {expr : Bool} {h₀ : Heap} {L : Addr} {m : PySem.Str → Option Value} {news : List (Addr × Obj)}
theorem flag1_K (X₀ : (frJ.heap_1 w.params).In h₀) (T₀ : Top topProg loose mean mg mb h₀) (F : Fr h₀ L s.heap m) (N : News h₀ L s.heap news) (hfa : h₀.get? fa = some (flagO p q r t dx nf)) (hdp : dp + 4 < recursionLimit) (hun : un + 30 < cLine)
    (hq : ∀ h' tk, Fr h₀ L h' m → News h₀ L h' news → Q (.bool q) { s with heap := h', toks := tk }) : wpAny (model Pg w) (AZ dp un gd outer) (getAttr (.ref fa) (Str.ofString "is_trailer") expr) Q E s :=
  flag_attr (X₀.keeps F.keep) (F.keep _ _ hfa) (find1 (X₀.keeps F.keep)) fun tk => Get1_c (dp := dp) (un := un + 1) (gd := gd) (outer := outer) (X₀.keeps F.keep) (T₀.keeps F.keep) hdp (by omega) (F.keep _ _ hfa) fun h' tk x => ⟨q, rfl, hq h' tk (Ext.fr x F) (Ext.news x N)⟩
theorem flag2_K (X₀ : (frJ.heap_1 w.params).In h₀) (T₀ : Top topProg loose mean mg mb h₀) (F : Fr h₀ L s.heap m) (N : News h₀ L s.heap news) (hfa : h₀.get? fa = some (flagO p q r t dx nf)) (hdp : dp + 4 < recursionLimit) (hun : un + 30 < cLine)
    (hq : ∀ h' tk, Fr h₀ L h' m → News h₀ L h' news → Q (.bool r) { s with heap := h', toks := tk }) : wpAny (model Pg w) (AZ dp un gd outer) (getAttr (.ref fa) (Str.ofString "is_response_header") expr) Q E s :=
  flag_attr (X₀.keeps F.keep) (F.keep _ _ hfa) (find2 (X₀.keeps F.keep)) fun tk => Get2_c (dp := dp) (un := un + 1) (gd := gd) (outer := outer) (X₀.keeps F.keep) (T₀.keeps F.keep) hdp (by omega) (F.keep _ _ hfa) fun h' tk x => ⟨r, rfl, hq h' tk (Ext.fr x F) (Ext.news x N)⟩
end

end
section
open PySem PySem.W PyProof.Rows PySem.Calls PySem.W.X
set_option Elab.async false
set_option maxRecDepth 100000
set_option maxHeartbeats 8000000
set_option linter.unusedVariables false
set_option pp.deepTerms false
set_option pp.maxSteps 6000
theorem Assert_c {w : World} {mean : ExcName → Option Value} {mg mb : Str → Option Value} {b0 : Heap} {outer : List Env} {dp un : Nat} {gd : Option (List Code)} {s : Shared} {Q E : Value → Shared → Prop}
    {D : Addr} {so : Obj} {seen : List (List Int)} {n : Nat} {b : Array UInt8} {t : Tok} {ks : List Int}
    (G : Gd w mean mg mb b0 outer s.heap) (hdp : dp + 4 < recursionLimit) (hun : un + 30 < cLine) (hD : s.heap.get? D = some so) (hset : SetB w so seen n) (hn : n ≤ 6) (hk : KBw.bInts b = ks) (hl : ks.length ≤ 1000)
    (ok : seen.contains ks = true → ∀ h' tk, Ext s.heap h' → Q .none { s with heap := h', toks := tk })
    (bad : seen.contains ks = false → ∀ s' e, StpE NoFp outer e s s' → E (.ref e) s') :
    wpAny (model Pg w) (AZ dp un gd outer) (call (.ref 227) [.bytes b t, .ref D]) Q E s := by
  k_with_none
  k_with "And" => (k_here; (with_reducible show PySem.Str.length (_ ++ _) ≤ sizeLine ∧ wpAny _ _ (joinParts _ _) _ _ _); refine' ⟨?qhA, ?_⟩; (case qhA => ((repeat' (with_reducible refine len_half ?_ ?_)) <;> first | exact Nat.le_trans (by with_reducible assumption) (Nat.le_of_ble_eq_true (by kernel_rfl)) | ((with_reducible first | show PySem.Str.length (PySem.Str.ofString _) ≤ _ | show PySem.Str.length PySem.Str.empty ≤ _ | show PySem.Str.length (PySem.Str.mk _) ≤ _); exact Nat.le_of_ble_eq_true (by kernel_rfl)))))
  k_with "joinParts" => (k_here; (first | (with_reducible show wpAny _ _ (joinParts _ []) _ _ _) | (with_reducible show wpAny _ _ (joinParts _ (evalEach [] _)) _ _ _)); k_dflt (refine' joinParts_nil ?_ ?qhA; (case qhA => ((repeat' (with_reducible refine len_half ?_ ?_)) <;> first | exact Nat.le_trans (by with_reducible assumption) (Nat.le_of_ble_eq_true (by kernel_rfl)) | ((with_reducible first | show PySem.Str.length (PySem.Str.ofString _) ≤ _ | show PySem.Str.length PySem.Str.empty ≤ _ | show PySem.Str.length (PySem.Str.mk _) ≤ _); exact Nat.le_of_ble_eq_true (by kernel_rfl))))))
  k_with "getMethod bytes" => (k_here; (with_reducible first | refine gm_lower ?_ | refine gm_strip ?_ | refine gm_find ?_))
  k_with "pyReprObj" => (k_here; (refine repr_K (by kba_ints) (by kba_size) ?_); intro _ _ _ _; (try dsimp only))
  k_with "call builtin:bytes.lower" => (k_here; (refine lower_K (by kba_ints) (by kba_size) ?_); intro _ _ _ _; (try dsimp only))
  k_with "call builtin:bytes.find" => (k_here; (refine find_K (by kba_ints) (by first | assumption | rfl | decide +kernel) ?_); intro _ _ _ _; (try dsimp only))
  k_with "compareOp Eq" => (k_here; (with_reducible show wpAny _ _ (compareOp CmpOp.Eq (Value.bytes _ _) (Value.bytes _ _)) _ _ _); (refine eqB_K (by kba_ints) (by kba_ints) ?_))
  k_with "compareOp NotEq" => (k_here; (with_reducible show wpAny _ _ (compareOp CmpOp.NotEq (Value.bytes _ _) (Value.bytes _ _)) _ _ _); (refine neB_K (by kba_ints) (by kba_ints) ?_))
  k_with "compareOp Eq bytes bytes" => (k_here; (refine eqB_K (by kba_ints) (by kba_ints) ?_))
  k_with "compareOp NotEq bytes bytes" => (k_here; (refine neB_K (by kba_ints) (by kba_ints) ?_))
  k_with "compareOp In bytes ref" => (k_here; k_dflt (first | (refine' in_tupB (kss := ownL) (tupK ?qX ?qF ?qh) ?qhb ?qhit ?qhk ?_; (case qX => assumption); (case qF => assumption); (case qh => k_is); (case qhb => exact rfl); (case qhit => exact rfl); (case qhk => kba_ints)) | (refine' in_tupB (kss := allowedL) (tupK ?qX ?qF ?qh) ?qhb ?qhit ?qhk ?_; (case qX => assumption); (case qF => assumption); (case qh => k_is); (case qhb => exact rfl); (case qhit => exact rfl); (case qhk => kba_ints))))
  k_with "compareOp NotIn bytes ref" => (k_here; k_dflt (refine' notIn_tupB (kss := allowedL) (tupK ?qX ?qF ?qh) ?qhb ?qhit ?qhk ?_; (case qX => assumption); (case qF => assumption); (case qh => k_is); (case qhb => exact rfl); (case qhit => exact rfl); (case qhk => kba_ints)))
  k_with "subscriptTail" => (k_here; (with_reducible show wpAny _ _ (subscriptTail _ _ (Value.bytes _ _) (Value.int _ _)) _ _ _); (first | refine item0_A (by kba_ints) (by omega) (by omega) ?_ | refine itemL_A (by kba_ints) (by omega) (by omega) ?_); intro _ _ _ _ _ _; (try dsimp only))
  k_with "exec For" => (k_here; (with_unfolding_all refine' For_mine ?qF ?qhE ?qhx ?qhp ?qhs ?_; (case qF => assumption); (case qhE => assumption); (case qhx => exact rfl); (case qhp => exact rfl); (case qhs => exact fun _ => rfl); k_whole))
  k_with "exec For Name Name cons nil" => (k_here; (with_unfolding_all refine' For_mine ?qF ?qhE ?qhx ?qhp ?qhs ?_; (case qF => assumption); (case qhE => assumption); (case qhx => exact rfl); (case qhp => exact rfl); (case qhs => exact fun _ => rfl); k_whole))
  k_with "subscriptTail" => (k_here; (with_reducible show wpAny _ _ (subscriptTail _ _ (Value.ref _) (Value.int _ _)) _ _ _); (first | (refine pair0_A (by k_asm) (by assumption) ?_) | (refine pair1_A (by k_asm) (by assumption) ?_)))
  k_with "compareOp In bytes ref" => (k_here; (refine in_G (by kba_ints) (by k_asm) (by assumption) (by assumption) (by omega) ?_))
  k_with "compareOp NotIn bytes ref" => (k_here; (refine notIn_G (by kba_ints) (by k_asm) (by assumption) (by assumption) (by omega) ?_))
  have X := G.X
  have T := G.T
  refine wpAny_call ?_
  k_dflt (refine' enter (binds := [(Str.ofString "bytes_header", .bytes b t), (Str.ofString "header_set", .ref D)]) X T.nolimit ?ho ?hcd ?hroom ?hbind ?hloc ?_ ?c5 ?c6 ?c7 ?c8; (case ho => k_is); (case hcd => k_is); (case hroom => show dp < recursionLimit; omega); (case hbind => exact rfl); (case hloc => exact locs rfl); (case c5 => decide); (case c6 => exact rfl); (case c7 => exact rfl); (case c8 => exact rfl); k_whole; intro L' h' F' N')
  k_steps
  · exact ok (by assumption) _ _ (Fr.keep (by assumption))
  · exact leave_made (fun e => nomatch e) rfl rfl G (by assumption) (by assumption) (fun s' => bad (by assumption) s' _)
theorem gd_in {w : World} {mean : ExcName → Option Value} {mg mb : Str → Option Value} {b0 h₀ h : Heap} {outer : List Env} {env : Env} {L : Addr} {m : PySem.Str → Option Value} (G : Gd w mean mg mb b0 outer h₀) (F : Fr h₀ L h m) (hk : env.scope.kind ≠ .module) (hf : env.frame = some L) : Gd w mean mg mb b0 (env :: outer) h :=
  (G.ext F.keep).cons hk hf F.ns
section
variable {w : World} {mean : ExcName → Option Value} {mg mb : Str → Option Value} {outer : List Env} {dp un : Nat} {gd : Option (List Code)} {s : Shared} {Q E : Value → Shared → Prop} {D : Addr} {so : Obj} {seen : List (List Int)} {n : Nat} {b : Array UInt8} {t : Tok} {ks : List Int} {h₀ : Heap} {L : Addr} {m : PySem.Str → Option Value} {news : List (Addr × Obj)} {b0 : Heap}
theorem assert_K (X₀ : (frJ.heap_1 w.params).In h₀) (T₀ : Top topProg loose mean mg mb h₀) (F : Fr h₀ L s.heap m) (N : News h₀ L s.heap news) (G : Gd w mean mg mb b0 outer s.heap) (hD : h₀.get? D = some so) (hset : SetB w so seen n) (hn : n ≤ 6) (hdp : dp + 4 < recursionLimit) (hun : un + 30 < cLine) (hk : KBw.bInts b = ks) (hl : ks.length ≤ 1000)
    (ok : seen.contains ks = true → ∀ h' tk, Fr h₀ L h' m → News h₀ L h' news → Q .none { s with heap := h', toks := tk })
    (bad : seen.contains ks = false → ∀ s' e, StpE NoFp outer e s s' → E (.ref e) s') :
    wpAny (model Pg w) (AZ dp un gd outer) (call (.ref 227) [.bytes b t, .ref D]) Q E s :=
  Assert_c G hdp hun (F.keep _ _ hD) hset hn hk hl (fun h h' tk x => ok h h' tk (Ext.fr x F) (Ext.news x N)) bad
end
noncomputable def reqOnlyL : List (List Int) := [nScheme, nPath, nAuth, nMethod, nProt]
noncomputable def accR (me ic pr sc pa nst npr : Bool) : Bool := me && ((if ic && !(ic && pr) then !(sc || pa) else sc && pa) && (nst && (ic || npr)))
/-- what 239 lets pass: q a trailer, r a response -/
noncomputable def accF (q r : Bool) (seen : List (List Int)) (meth : Option (List Int)) : Bool :=
  if q && decide (0 < seen.length) then false
  else if r then seen.contains nStatus && noneOf reqOnlyL seen
  else if q then true
  else accR (seen.contains nMethod) (decide (meth = some vConnect)) (seen.contains nProt) (seen.contains nScheme) (seen.contains nPath) (noneOf [nStatus] seen) (noneOf [nProt] seen)
theorem accF_req {seen : List (List Int)} {meth : Option (List Int)} : accF false false seen meth = accR (seen.contains nMethod) (decide (meth = some vConnect)) (seen.contains nProt) (seen.contains nScheme) (seen.contains nPath) (noneOf [nStatus] seen) (noneOf [nProt] seen) := rfl
theorem accR_w {seen : List (List Int)} {meth : Option (List Int)} {a b c d e f g v : Bool} (ha : seen.contains nMethod = a) (hb : decide (meth = some vConnect) = b) (hc : seen.contains nProt = c) (hd : seen.contains nScheme = d) (he : seen.contains nPath = e) (hf : noneOf [nStatus] seen = f) (hg : noneOf [nProt] seen = g) (h : accR a b c d e f g = v) : accF false false seen meth = v := by
  subst ha; subst hb; subst hc; subst hd; subst he; subst hf; subst hg; exact h
theorem accP_w {seen : List (List Int)} {meth : Option (List Int)} {a b v : Bool} (ha : seen.contains nStatus = a) (hb : noneOf reqOnlyL seen = b) (h : (a && b) = v) : accF false true seen meth = v := by
  subst ha; subst hb; exact h
theorem accF_tr_bad {r : Bool} {seen : List (List Int)} {meth : Option (List Int)} (h : 0 < seen.length) : accF true r seen meth = false := by simp [accF, h]
theorem accF_tr_ok {seen : List (List Int)} {meth : Option (List Int)} (h : ¬ 0 < seen.length) : accF true false seen meth = true := by
  have : seen = [] := List.length_eq_zero_iff.mp (by omega)
  subst this; rfl
theorem accF_resp {seen : List (List Int)} {meth : Option (List Int)} : accF false true seen meth = (seen.contains nStatus && noneOf reqOnlyL seen) := rfl
theorem eq_meth {w : World} {A : Around} {E : Value → Shared → Prop} {s : Shared} {Q : Value → Shared → Prop} {mv : Value} {meth : Option (List Int)} {b : Array UInt8} {t : Tok} {ks : List Int}
    (hmeth : match meth with | none => mv = .none | some ks => ∃ b t, mv = .bytes b t ∧ KBw.bInts b = ks ∧ ks.length ≤ 1000) (hk : KBw.bInts b = ks) (h : Q (.bool (decide (meth = some ks))) s) : wpAny (model Pg w) A (compareOp .Eq mv (.bytes b t)) Q E s := by
  cases meth with
  | none => subst hmeth; exact eq_none_bytes h
  | some ms =>
    obtain ⟨b', t', rfl, hb, _⟩ := hmeth
    refine eqB_K hb hk ?_
    rw [show decide (ms = ks) = decide (some ms = some ks) from by simp]
    exact h
theorem Accept_c {w : World} {mean : ExcName → Option Value} {mg mb : Str → Option Value} {b0 : Heap} {outer : List Env} {dp un : Nat} {gd : Option (List Code)} {s : Shared} {Q E : Value → Shared → Prop} {p q r t : Bool}
    {D fa dx : Addr} {nf n : Nat} {mv : Value} {so : Obj} {seen : List (List Int)} {meth : Option (List Int)}
    (G : Gd w mean mg mb b0 outer s.heap) (hgd : gd = some []) (hdp : dp + 20 < recursionLimit) (hun : un + 100 < cLine) (hD : s.heap.get? D = some so) (hset : SetB w so seen n) (hn : n ≤ 6) (hnl : n = seen.length)
    (hfa : s.heap.get? fa = some (flagO p q r t dx nf))
    (hmeth : match meth with | none => mv = .none | some ks => ∃ b t, mv = .bytes b t ∧ KBw.bInts b = ks ∧ ks.length ≤ 1000)
    (hqr : (q && r) = false)
    (ok : accF q r seen meth = true → ∀ h' tk, Ext s.heap h' → Q .none { s with heap := h', toks := tk })
    (bad : accF q r seen meth = false → ∀ s' e, StpE NoFp outer e s s' → E (.ref e) s') :
    wpAny (model Pg w) (AZ dp un gd outer) (call (.ref 239) [.ref D, mv, .ref fa]) Q E s := by
  k_with_none
  k_with "And" => (k_here; (with_reducible show PySem.Str.length (_ ++ _) ≤ sizeLine ∧ wpAny _ _ (joinParts _ _) _ _ _); refine' ⟨?qhA, ?_⟩; (case qhA => ((repeat' (with_reducible refine len_half ?_ ?_)) <;> first | exact Nat.le_trans (by with_reducible assumption) (Nat.le_of_ble_eq_true (by kernel_rfl)) | ((with_reducible first | show PySem.Str.length (PySem.Str.ofString _) ≤ _ | show PySem.Str.length PySem.Str.empty ≤ _ | show PySem.Str.length (PySem.Str.mk _) ≤ _); exact Nat.le_of_ble_eq_true (by kernel_rfl)))))
  k_with "joinParts" => (k_here; (first | (with_reducible show wpAny _ _ (joinParts _ []) _ _ _) | (with_reducible show wpAny _ _ (joinParts _ (evalEach [] _)) _ _ _)); k_dflt (refine' joinParts_nil ?_ ?qhA; (case qhA => ((repeat' (with_reducible refine len_half ?_ ?_)) <;> first | exact Nat.le_trans (by with_reducible assumption) (Nat.le_of_ble_eq_true (by kernel_rfl)) | ((with_reducible first | show PySem.Str.length (PySem.Str.ofString _) ≤ _ | show PySem.Str.length PySem.Str.empty ≤ _ | show PySem.Str.length (PySem.Str.mk _) ≤ _); exact Nat.le_of_ble_eq_true (by kernel_rfl))))))
  k_with "getMethod bytes" => (k_here; (with_reducible first | refine gm_lower ?_ | refine gm_strip ?_ | refine gm_find ?_))
  k_with "pyReprObj" => (k_here; (refine repr_K (by kba_ints) (by kba_size) ?_); intro _ _ _ _; (try dsimp only))
  k_with "call builtin:bytes.lower" => (k_here; (refine lower_K (by kba_ints) (by kba_size) ?_); intro _ _ _ _; (try dsimp only))
  k_with "call builtin:bytes.find" => (k_here; (refine find_K (by kba_ints) (by first | assumption | rfl | decide +kernel) ?_); intro _ _ _ _; (try dsimp only))
  k_with "compareOp Eq" => (k_here; (with_reducible show wpAny _ _ (compareOp CmpOp.Eq (Value.bytes _ _) (Value.bytes _ _)) _ _ _); (refine eqB_K (by kba_ints) (by kba_ints) ?_))
  k_with "compareOp NotEq" => (k_here; (with_reducible show wpAny _ _ (compareOp CmpOp.NotEq (Value.bytes _ _) (Value.bytes _ _)) _ _ _); (refine neB_K (by kba_ints) (by kba_ints) ?_))
  k_with "compareOp Eq bytes bytes" => (k_here; (refine eqB_K (by kba_ints) (by kba_ints) ?_))
  k_with "compareOp NotEq bytes bytes" => (k_here; (refine neB_K (by kba_ints) (by kba_ints) ?_))
  k_with "compareOp In bytes ref" => (k_here; k_dflt (first | (refine' in_tupB (kss := ownL) (tupK ?qX ?qF ?qh) ?qhb ?qhit ?qhk ?_; (case qX => assumption); (case qF => assumption); (case qh => k_is); (case qhb => exact rfl); (case qhit => exact rfl); (case qhk => kba_ints)) | (refine' in_tupB (kss := allowedL) (tupK ?qX ?qF ?qh) ?qhb ?qhit ?qhk ?_; (case qX => assumption); (case qF => assumption); (case qh => k_is); (case qhb => exact rfl); (case qhit => exact rfl); (case qhk => kba_ints))))
  k_with "compareOp NotIn bytes ref" => (k_here; k_dflt (refine' notIn_tupB (kss := allowedL) (tupK ?qX ?qF ?qh) ?qhb ?qhit ?qhk ?_; (case qX => assumption); (case qF => assumption); (case qh => k_is); (case qhb => exact rfl); (case qhit => exact rfl); (case qhk => kba_ints)))
  k_with "subscriptTail" => (k_here; (with_reducible show wpAny _ _ (subscriptTail _ _ (Value.bytes _ _) (Value.int _ _)) _ _ _); (first | refine item0_A (by kba_ints) (by omega) (by omega) ?_ | refine itemL_A (by kba_ints) (by omega) (by omega) ?_); intro _ _ _ _ _ _; (try dsimp only))
  k_with "exec For" => (k_here; (with_unfolding_all refine' For_mine ?qF ?qhE ?qhx ?qhp ?qhs ?_; (case qF => assumption); (case qhE => assumption); (case qhx => exact rfl); (case qhp => exact rfl); (case qhs => exact fun _ => rfl); k_whole))
  k_with "exec For Name Name cons nil" => (k_here; (with_unfolding_all refine' For_mine ?qF ?qhE ?qhx ?qhp ?qhs ?_; (case qF => assumption); (case qhE => assumption); (case qhx => exact rfl); (case qhp => exact rfl); (case qhs => exact fun _ => rfl); k_whole))
  k_with "subscriptTail" => (k_here; (with_reducible show wpAny _ _ (subscriptTail _ _ (Value.ref _) (Value.int _ _)) _ _ _); (first | (refine pair0_A (by k_asm) (by assumption) ?_) | (refine pair1_A (by k_asm) (by assumption) ?_)))
  k_with "compareOp In bytes ref" => (k_here; (refine in_G (by kba_ints) (by k_asm) (by assumption) (by assumption) (by omega) ?_))
  k_with "compareOp NotIn bytes ref" => (k_here; (refine notIn_G (by kba_ints) (by k_asm) (by assumption) (by assumption) (by omega) ?_))
  k_with "getAttr ref" => (k_here; (with_reducible show wpAny _ _ (getAttr (Value.ref _) (Str.ofString "is_trailer") _) _ _ _); k_dflt (refine flag1_K (by k_asm) (by k_asm) (by k_asm) (by k_asm) (by with_reducible assumption) (by first | omega | (dsimp only; omega) | (dsimp only [AZ]; omega)) (by first | omega | (dsimp only; omega) | (dsimp only [AZ]; omega)) ?_); intro _ _ _ _; (try dsimp only))
  k_with "getAttr ref" => (k_here; (with_reducible show wpAny _ _ (getAttr (Value.ref _) (Str.ofString "is_response_header") _) _ _ _); k_dflt (refine flag2_K (by k_asm) (by k_asm) (by k_asm) (by k_asm) (by with_reducible assumption) (by first | omega | (dsimp only; omega) | (dsimp only [AZ]; omega)) (by first | omega | (dsimp only; omega) | (dsimp only [AZ]; omega)) ?_); intro _ _ _ _; (try dsimp only))
  k_with "truthy ref" => (k_here; (refine truthy_G (by k_asm) (by assumption) (by assumption) (by omega) ?_); (try dsimp only))
  k_with "exec Raise some none" => (k_here; (with_reducible show wpAny _ _ (exec (Stmt.Raise (some (Expr.Call (Expr.Name _ _) (_ :: _) [] _)) none _) (envOfC _ _ _ _ _)) _ _ _); k_dflt (refine' Raise_G ?qld ?qO PySem.F.excBase_Exception ?qh ?_ ?qa ?qb; (case qld => (intro _ hq'; k_steps; exact hq')); (case qO => exact own_of_in (by k_asm) (by k_asm) (by k_is) (by k_exc)); (case qh => first | rfl | assumption); (case qa => rfl); (case qb => rfl); k_whole))
  k_with "call ref" => (k_here; (with_reducible show wpAny _ _ (call (Value.ref _) [Value.bytes _ _, Value.ref _]) _ _ _); k_dflt (refine assert_K (by k_asm) (by k_asm) (by k_asm) (by k_asm) (gd_in (by with_reducible assumption) (by k_asm) (fun e => nomatch e) rfl) (by with_reducible assumption) (by with_reducible assumption) (by with_reducible assumption) (by first | omega | (dsimp only; omega) | (dsimp only [AZ]; omega)) (by first | omega | (dsimp only; omega) | (dsimp only [AZ]; omega)) (bl_ints _) (by exact Nat.le_of_ble_eq_true rfl) (fun _ _ _ _ _ => ?_) (fun _ _ _ _ => ?_)) <;> (try dsimp only))
  k_with "exec Assign cons ListComp" => (k_here; k_dflt (refine' acomp_in ?qhh ?qF ?qN ?qhit ?qht ?qhz ?qhb ?qhc ?qhm ?qhoc ?qhD ?qhset ?qhn ?qhL ?qhy ?qhp ?qhsw ?qhclos ?qhcell ?qhkind ?qhnames ?qhx ?qhdx ?qhdp ?qhph ?qhs ?_; (case qhh => exact rfl); (case qF => k_asm); (case qN => k_asm); (case qhit => (intro _ hq'; k_steps; exact hq')); (case qht => exact PySem.W.tupK (by assumption) (by k_is)); (case qhz => decide); (case qhb => (intro v' hv'; (repeat (first | (rcases List.mem_cons.mp hv' with rfl | hv'; exact ⟨_, _, rfl, by decide⟩) | cases hv')))); (case qhclos => with_unfolding_all rfl); (case qhc => rfl); (case qhm => k_mem); (case qhoc => assumption); (case qhD => assumption); (case qhset => assumption); (case qhn => assumption); (case qhL => rfl); (case qhy => rfl); (case qhp => rfl); (case qhsw => with_unfolding_all rfl); (case qhcell => decide); (case qhkind => rfl); (case qhnames => decide); (case qhx => rfl); (case qhdx => decide); (case qhdp => decide); (case qhph => (intro _; rfl)); (case qhs => (intro _; rfl)); k_whole); intro _ _ _ _ _ _ _ _ _ _ _; (try dsimp only))
  k_with "truthy ref" => (k_here; (refine truthy_L (by k_asm) (by k_mem) (by with_reducible assumption) ?_); (try dsimp only))
  k_with "formatField ref" => (k_here; (refine format_L (by k_asm) (by k_asm) (by k_mem) (by with_reducible assumption) (by with_reducible assumption) (by with_reducible assumption) (by rfl) (by first | omega | (dsimp only; omega) | (dsimp only [AZ, Around.deeper]; omega)) ?_); intro _ _ _ _ _ _ _; (try dsimp only))
  k_with "pyReprObj ref" => (k_here; (refine repr_L (by k_asm) (by k_asm) (by k_mem) (by with_reducible assumption) (by with_reducible assumption) (by with_reducible assumption) (by rfl) (by first | omega | (dsimp only; omega) | (dsimp only [AZ, Around.deeper]; omega)) ?_); intro _ _ _ _ _ _ _; (try dsimp only))
  k_with "compareOp Eq bytes" => (k_here; (refine eq_meth (by assumption) (by kba_ints) ?_))
  k_with "compareOp Eq" => (k_here; (refine eq_meth (by assumption) (by kba_ints) ?_))
  subst hgd
  have X := G.X
  have T := G.T
  refine wpAny_call ?_
  k_dflt (refine' enterC (binds := [(Str.ofString "pseudo_headers", .ref D), (Str.ofString "method", mv), (Str.ofString "hdr_validation_flags", .ref fa)]) X T.nolimit ?ho ?hcd ?hroom ?hbind ?hkind ?hnd ?_ ?c6 ?c7 ?c8; (case ho => k_is); (case hcd => k_is); (case hroom => show dp < recursionLimit; omega); (case hbind => exact rfl); (case hkind => exact fun n y hy => by { rcases List.mem_cons.mp hy with rfl | hy; exact .inr ⟨rfl, rfl⟩; rcases List.mem_cons.mp hy with rfl | hy; exact .inl rfl; rcases List.mem_cons.mp hy with rfl | hy; exact .inl rfl; cases hy }); (case hnd => decide); (case c6 => exact rfl); (case c7 => exact rfl); (case c8 => exact rfl); k_whole; intro L' h' tk' cells' F' N' Y')
  obtain ⟨o', hE', d1'⟩ := CellsAre.one Y'
  subst hE'
  clear Y'
  have d1 : o'.data = .cell (some (.ref D)) := d1'
  clear d1'
  cases q with
  | true =>
    cases r with
    | true => cases hqr
    | false =>
      k_steps
      all_goals try first
        | exact ok (by (first | exact accF_tr_bad (by omega) | exact accF_tr_ok (by omega))) _ _ (Fr.keep (by assumption))
        | exact leave_made (fun e => nomatch e) rfl rfl G (by assumption) (by assumption) (fun s' => bad (by (first | exact accF_tr_bad (by omega) | exact accF_tr_ok (by omega))) s' _)
        | (refine' leave_through (fun e => nomatch e) rfl rfl ?fr ?st (fun s' => bad (by (first | exact accF_tr_bad (by omega) | exact accF_tr_ok (by omega))) s' _); (case st => assumption); (case fr => assumption))
  | false =>
    cases r with
    | true =>
      k_steps
      all_goals try first
        | exact ok (by (refine' accP_w ?wa ?wb ?wh; (case wa => first | (with_reducible assumption) | exact rfl); (case wb => first | exact (Eq.symm (show _ = noneOf reqOnlyL seen from by assumption)).trans (by with_reducible assumption) | exact rfl); (case wh => first | exact rfl | simp))) _ _ (Fr.keep (by assumption))
        | exact leave_made (fun e => nomatch e) rfl rfl G (by assumption) (by assumption) (fun s' => bad (by (refine' accP_w ?wa ?wb ?wh; (case wa => first | (with_reducible assumption) | exact rfl); (case wb => first | exact (Eq.symm (show _ = noneOf reqOnlyL seen from by assumption)).trans (by with_reducible assumption) | exact rfl); (case wh => first | exact rfl | simp))) s' _)
        | (refine' leave_through (fun e => nomatch e) rfl rfl ?fr ?st (fun s' => bad (by (refine' accP_w ?wa ?wb ?wh; (case wa => first | (with_reducible assumption) | exact rfl); (case wb => first | exact (Eq.symm (show _ = noneOf reqOnlyL seen from by assumption)).trans (by with_reducible assumption) | exact rfl); (case wh => first | exact rfl | simp))) s' _); (case st => assumption); (case fr => assumption))
      all_goals (try (walk_at "call ref"))
      all_goals k_steps
      all_goals try first
        | exact ok (by (refine' accP_w ?wa ?wb ?wh; (case wa => first | (with_reducible assumption) | exact rfl); (case wb => first | exact (Eq.symm (show _ = noneOf reqOnlyL seen from by assumption)).trans (by with_reducible assumption) | exact rfl); (case wh => first | exact rfl | simp))) _ _ (Fr.keep (by assumption))
        | exact leave_made (fun e => nomatch e) rfl rfl G (by assumption) (by assumption) (fun s' => bad (by (refine' accP_w ?wa ?wb ?wh; (case wa => first | (with_reducible assumption) | exact rfl); (case wb => first | exact (Eq.symm (show _ = noneOf reqOnlyL seen from by assumption)).trans (by with_reducible assumption) | exact rfl); (case wh => first | exact rfl | simp))) s' _)
        | (refine' leave_through (fun e => nomatch e) rfl rfl ?fr ?st (fun s' => bad (by (refine' accP_w ?wa ?wb ?wh; (case wa => first | (with_reducible assumption) | exact rfl); (case wb => first | exact (Eq.symm (show _ = noneOf reqOnlyL seen from by assumption)).trans (by with_reducible assumption) | exact rfl); (case wh => first | exact rfl | simp))) s' _); (case st => assumption); (case fr => assumption))
    | false =>
      k_steps
      all_goals try first
        | exact ok (by (refine' accR_w ?wa ?wb ?wc ?wd ?we ?wf ?wg ?wh; (case wa => first | (with_reducible assumption) | exact rfl); (case wb => first | exact decide_eq_true (by with_reducible assumption) | exact decide_eq_false (by with_reducible assumption) | exact rfl); (case wc => first | (with_reducible assumption) | exact rfl); (case wd => first | (with_reducible assumption) | exact rfl); (case we => first | (with_reducible assumption) | exact rfl); (case wf => first | exact (Eq.symm (show _ = noneOf [nStatus] seen from by assumption)).trans (by with_reducible assumption) | exact rfl); (case wg => first | exact (Eq.symm (show _ = noneOf [nProt] seen from by assumption)).trans (by with_reducible assumption) | exact rfl); (case wh => first | exact rfl | simp [accR]))) _ _ (Fr.keep (by assumption))
        | exact leave_made (fun e => nomatch e) rfl rfl G (by assumption) (by assumption) (fun s' => bad (by (refine' accR_w ?wa ?wb ?wc ?wd ?we ?wf ?wg ?wh; (case wa => first | (with_reducible assumption) | exact rfl); (case wb => first | exact decide_eq_true (by with_reducible assumption) | exact decide_eq_false (by with_reducible assumption) | exact rfl); (case wc => first | (with_reducible assumption) | exact rfl); (case wd => first | (with_reducible assumption) | exact rfl); (case we => first | (with_reducible assumption) | exact rfl); (case wf => first | exact (Eq.symm (show _ = noneOf [nStatus] seen from by assumption)).trans (by with_reducible assumption) | exact rfl); (case wg => first | exact (Eq.symm (show _ = noneOf [nProt] seen from by assumption)).trans (by with_reducible assumption) | exact rfl); (case wh => first | exact rfl | simp [accR]))) s' _)
        | (refine' leave_through (fun e => nomatch e) rfl rfl ?fr ?st (fun s' => bad (by (refine' accR_w ?wa ?wb ?wc ?wd ?we ?wf ?wg ?wh; (case wa => first | (with_reducible assumption) | exact rfl); (case wb => first | exact decide_eq_true (by with_reducible assumption) | exact decide_eq_false (by with_reducible assumption) | exact rfl); (case wc => first | (with_reducible assumption) | exact rfl); (case wd => first | (with_reducible assumption) | exact rfl); (case we => first | (with_reducible assumption) | exact rfl); (case wf => first | exact (Eq.symm (show _ = noneOf [nStatus] seen from by assumption)).trans (by with_reducible assumption) | exact rfl); (case wg => first | exact (Eq.symm (show _ = noneOf [nProt] seen from by assumption)).trans (by with_reducible assumption) | exact rfl); (case wh => first | exact rfl | simp [accR]))) s' _); (case st => assumption); (case fr => assumption))
      all_goals (try (walk_at "call ref"))
      all_goals k_steps
      all_goals try first
        | exact ok (by (refine' accR_w ?wa ?wb ?wc ?wd ?we ?wf ?wg ?wh; (case wa => first | (with_reducible assumption) | exact rfl); (case wb => first | exact decide_eq_true (by with_reducible assumption) | exact decide_eq_false (by with_reducible assumption) | exact rfl); (case wc => first | (with_reducible assumption) | exact rfl); (case wd => first | (with_reducible assumption) | exact rfl); (case we => first | (with_reducible assumption) | exact rfl); (case wf => first | exact (Eq.symm (show _ = noneOf [nStatus] seen from by assumption)).trans (by with_reducible assumption) | exact rfl); (case wg => first | exact (Eq.symm (show _ = noneOf [nProt] seen from by assumption)).trans (by with_reducible assumption) | exact rfl); (case wh => first | exact rfl | simp [accR]))) _ _ (Fr.keep (by assumption))
        | exact leave_made (fun e => nomatch e) rfl rfl G (by assumption) (by assumption) (fun s' => bad (by (refine' accR_w ?wa ?wb ?wc ?wd ?we ?wf ?wg ?wh; (case wa => first | (with_reducible assumption) | exact rfl); (case wb => first | exact decide_eq_true (by with_reducible assumption) | exact decide_eq_false (by with_reducible assumption) | exact rfl); (case wc => first | (with_reducible assumption) | exact rfl); (case wd => first | (with_reducible assumption) | exact rfl); (case we => first | (with_reducible assumption) | exact rfl); (case wf => first | exact (Eq.symm (show _ = noneOf [nStatus] seen from by assumption)).trans (by with_reducible assumption) | exact rfl); (case wg => first | exact (Eq.symm (show _ = noneOf [nProt] seen from by assumption)).trans (by with_reducible assumption) | exact rfl); (case wh => first | exact rfl | simp [accR]))) s' _)
        | (refine' leave_through (fun e => nomatch e) rfl rfl ?fr ?st (fun s' => bad (by (refine' accR_w ?wa ?wb ?wc ?wd ?we ?wf ?wg ?wh; (case wa => first | (with_reducible assumption) | exact rfl); (case wb => first | exact decide_eq_true (by with_reducible assumption) | exact decide_eq_false (by with_reducible assumption) | exact rfl); (case wc => first | (with_reducible assumption) | exact rfl); (case wd => first | (with_reducible assumption) | exact rfl); (case we => first | (with_reducible assumption) | exact rfl); (case wf => first | exact (Eq.symm (show _ = noneOf [nStatus] seen from by assumption)).trans (by with_reducible assumption) | exact rfl); (case wg => first | exact (Eq.symm (show _ = noneOf [nProt] seen from by assumption)).trans (by with_reducible assumption) | exact rfl); (case wh => first | exact rfl | simp [accR]))) s' _); (case st => assumption); (case fr => assumption))
      all_goals (try (walk_at "call ref"))
      all_goals k_steps
      all_goals try first
        | exact ok (by (refine' accR_w ?wa ?wb ?wc ?wd ?we ?wf ?wg ?wh; (case wa => first | (with_reducible assumption) | exact rfl); (case wb => first | exact decide_eq_true (by with_reducible assumption) | exact decide_eq_false (by with_reducible assumption) | exact rfl); (case wc => first | (with_reducible assumption) | exact rfl); (case wd => first | (with_reducible assumption) | exact rfl); (case we => first | (with_reducible assumption) | exact rfl); (case wf => first | exact (Eq.symm (show _ = noneOf [nStatus] seen from by assumption)).trans (by with_reducible assumption) | exact rfl); (case wg => first | exact (Eq.symm (show _ = noneOf [nProt] seen from by assumption)).trans (by with_reducible assumption) | exact rfl); (case wh => first | exact rfl | simp [accR]))) _ _ (Fr.keep (by assumption))
        | exact leave_made (fun e => nomatch e) rfl rfl G (by assumption) (by assumption) (fun s' => bad (by (refine' accR_w ?wa ?wb ?wc ?wd ?we ?wf ?wg ?wh; (case wa => first | (with_reducible assumption) | exact rfl); (case wb => first | exact decide_eq_true (by with_reducible assumption) | exact decide_eq_false (by with_reducible assumption) | exact rfl); (case wc => first | (with_reducible assumption) | exact rfl); (case wd => first | (with_reducible assumption) | exact rfl); (case we => first | (with_reducible assumption) | exact rfl); (case wf => first | exact (Eq.symm (show _ = noneOf [nStatus] seen from by assumption)).trans (by with_reducible assumption) | exact rfl); (case wg => first | exact (Eq.symm (show _ = noneOf [nProt] seen from by assumption)).trans (by with_reducible assumption) | exact rfl); (case wh => first | exact rfl | simp [accR]))) s' _)
        | (refine' leave_through (fun e => nomatch e) rfl rfl ?fr ?st (fun s' => bad (by (refine' accR_w ?wa ?wb ?wc ?wd ?we ?wf ?wg ?wh; (case wa => first | (with_reducible assumption) | exact rfl); (case wb => first | exact decide_eq_true (by with_reducible assumption) | exact decide_eq_false (by with_reducible assumption) | exact rfl); (case wc => first | (with_reducible assumption) | exact rfl); (case wd => first | (with_reducible assumption) | exact rfl); (case we => first | (with_reducible assumption) | exact rfl); (case wf => first | exact (Eq.symm (show _ = noneOf [nStatus] seen from by assumption)).trans (by with_reducible assumption) | exact rfl); (case wg => first | exact (Eq.symm (show _ = noneOf [nProt] seen from by assumption)).trans (by with_reducible assumption) | exact rfl); (case wh => first | exact rfl | simp [accR]))) s' _); (case st => assumption); (case fr => assumption))
      all_goals (try (walk_at "call ref"))
      all_goals k_steps
      all_goals try first
        | exact ok (by (refine' accR_w ?wa ?wb ?wc ?wd ?we ?wf ?wg ?wh; (case wa => first | (with_reducible assumption) | exact rfl); (case wb => first | exact decide_eq_true (by with_reducible assumption) | exact decide_eq_false (by with_reducible assumption) | exact rfl); (case wc => first | (with_reducible assumption) | exact rfl); (case wd => first | (with_reducible assumption) | exact rfl); (case we => first | (with_reducible assumption) | exact rfl); (case wf => first | exact (Eq.symm (show _ = noneOf [nStatus] seen from by assumption)).trans (by with_reducible assumption) | exact rfl); (case wg => first | exact (Eq.symm (show _ = noneOf [nProt] seen from by assumption)).trans (by with_reducible assumption) | exact rfl); (case wh => first | exact rfl | simp [accR]))) _ _ (Fr.keep (by assumption))
        | exact leave_made (fun e => nomatch e) rfl rfl G (by assumption) (by assumption) (fun s' => bad (by (refine' accR_w ?wa ?wb ?wc ?wd ?we ?wf ?wg ?wh; (case wa => first | (with_reducible assumption) | exact rfl); (case wb => first | exact decide_eq_true (by with_reducible assumption) | exact decide_eq_false (by with_reducible assumption) | exact rfl); (case wc => first | (with_reducible assumption) | exact rfl); (case wd => first | (with_reducible assumption) | exact rfl); (case we => first | (with_reducible assumption) | exact rfl); (case wf => first | exact (Eq.symm (show _ = noneOf [nStatus] seen from by assumption)).trans (by with_reducible assumption) | exact rfl); (case wg => first | exact (Eq.symm (show _ = noneOf [nProt] seen from by assumption)).trans (by with_reducible assumption) | exact rfl); (case wh => first | exact rfl | simp [accR]))) s' _)
        | (refine' leave_through (fun e => nomatch e) rfl rfl ?fr ?st (fun s' => bad (by (refine' accR_w ?wa ?wb ?wc ?wd ?we ?wf ?wg ?wh; (case wa => first | (with_reducible assumption) | exact rfl); (case wb => first | exact decide_eq_true (by with_reducible assumption) | exact decide_eq_false (by with_reducible assumption) | exact rfl); (case wc => first | (with_reducible assumption) | exact rfl); (case wd => first | (with_reducible assumption) | exact rfl); (case we => first | (with_reducible assumption) | exact rfl); (case wf => first | exact (Eq.symm (show _ = noneOf [nStatus] seen from by assumption)).trans (by with_reducible assumption) | exact rfl); (case wg => first | exact (Eq.symm (show _ = noneOf [nProt] seen from by assumption)).trans (by with_reducible assumption) | exact rfl); (case wh => first | exact rfl | simp [accR]))) s' _); (case st => assumption); (case fr => assumption))

end
section
open PySem PySem.W PyProof.Rows PySem.Calls PySem.W.X
set_option Elab.async false
set_option maxRecDepth 100000
set_option maxHeartbeats 4000000
set_option linter.unusedVariables false
section
variable {w : World} {A : Around} {s : Shared} {Q E : Value → Shared → Prop}
/-- list(l), l a list -/
theorem list_copy {l : Addr} {lo : Obj} {items : Array Value} {c : Nat} (hl : s.heap.get? l = some lo) (hcls : lo.cls = .type "list") (hdat : lo.data = .seq items c) (hz : items.size ≤ sizeLine)
    (h : ∀ h' S c', (∀ b o, s.heap.get? b = some o → h'.get? b = some o) → s.heap.objs.size ≤ S → h'.get? S = some (listO items c') → Q (.ref S) { s with heap := h' }) :
    wpAny (model Pg w) A (call (.type "list") [.ref l]) Q E s := by
  have kk : ∀ b o, s.heap.get? b = some o → (s.heap.push (listO #[] 0)).get? b = some o := fun b o e => Heap.get?_push_of_some _ e
  refine callType_codes (Q₁ := fun obj s₁ => obj = .ref s.heap.objs.size ∧ s₁ = { s with heap := s.heap.push { cls := .type "list", data := .seq #[] } }) F.called_list (F.typeCall_list_1 _) F.entry_list_init
    (code_list_new _ ⟨rfl, rfl⟩) fun obj s₁ h₁ => ?_
  obtain ⟨rfl, rfl⟩ := h₁
  have hS : (s.heap.push { cls := .type "list", data := .seq #[] }).get? s.heap.objs.size = some (listO #[] 0) := Heap.get?_push_size _ rfl
  refine ⟨⟨_, hS, rfl⟩, F.args_list_init_2 _ _, ?_⟩
  have hlS : s.heap.objs.size ≠ l := Nat.ne_of_gt (Heap.lt_size hl)
  show wpAny _ _ (do let old ← Builtin.List.listItems (.ref s.heap.objs.size); Builtin.List.listUpdate (.ref s.heap.objs.size) (fun _ => #[]); letGo old.toList.reverse; Builtin.List.listExtendWith (.ref s.heap.objs.size) (.ref l) .none) _ _ _
  refine wpAny_bind ?_
  unfold Builtin.List.listItems
  refine wpAny_bind (wpAny_seqItems hS rfl (wpAny_pure ?_))
  show wpAny _ _ (updateSeq s.heap.objs.size (fun _ => #[]) >>= fun _ => letGo (#[] : Array Value).toList.reverse >>= fun _ => Builtin.List.listExtendWith (.ref s.heap.objs.size) (.ref l) .none) _ _ _
  refine wpAny_bind (wpAny_updateSeq hS rfl ?_)
  have hS₂ := Heap.get?_update_self (Obj.mapSeq (fun _ => (#[] : Array Value))) hS rfl
  have k2 : ∀ b o, s.heap.get? b = some o → ((s.heap.push { cls := .type "list", data := .seq #[] }).update s.heap.objs.size (Obj.mapSeq (fun _ => (#[] : Array Value)))).get? b = some o :=
    fun b o e => (Heap.get?_update_other _ _ (Nat.ne_of_gt (Heap.lt_size e))).trans (kk b o e)
  refine wpAny_bind (wpAny_letGo ?_)
  unfold Builtin.List.listExtendWith
  refine wpAny_bind (wpAny_typeOf (T := "list") ⟨lo, k2 l lo hl, hcls⟩ ?_)
  rw [if_pos (by simp)]
  unfold Builtin.List.listItems
  refine wpAny_bind (wpAny_bind (wpAny_seqItems (k2 l lo hl) hdat (wpAny_pure ?_)))
  refine wpAny_bind (wpAny_bind (wpAny_seqItems hS₂ rfl (wpAny_pure ?_)))
  rw [if_neg (by simp)]
  show wpAny _ _ (updateSeq s.heap.objs.size (· ++ items) >>= fun _ => ret .none) _ _ _
  have hz1 : (#[] ++ items : Array Value).size ≤ sizeLine + 1 := by rw [Array.size_append]; simpa using Nat.le_succ_of_le hz
  refine wpAny_bind (wpAny_updateSeq hS₂ rfl ?_ (by simp) hz1)
  have hS₃ := Heap.get?_update_self (Obj.mapSeq (· ++ items)) hS₂ rfl
  have e0 : (#[] ++ items : Array Value) = items := by simp
  obtain ⟨c', hc'⟩ : ∃ c', Obj.mapSeq (fun x => x ++ items) (Obj.mapSeq (fun _ => (#[] : Array Value)) (listO #[] 0)) = listO items c' := ⟨_, congrArg (fun x => listO x _) e0⟩
  refine wpAny_pure ⟨rfl, h _ _ c' (fun b o e => (Heap.get?_update_other _ _ (Nat.ne_of_gt (Heap.lt_size e))).trans (k2 b o e)) (Nat.le_refl _) (hS₃.trans (congrArg some hc'))⟩
end

end
section
open PySem PySem.W PyProof.Rows PySem.Calls PySem.W.X
set_option Elab.async false
set_option maxRecDepth 100000
set_option maxHeartbeats 4000000
set_option linter.unusedVariables false
/-! ## error.error_code -/
noncomputable def errV (w : World) : Value := match findIn (frJ.heap_1 w.params) (.ref 58) "error_code" with | some (some v) => v | _ => .none
noncomputable def isInt1 : Value → Bool
  | .int 1 _ => true
  | _ => false
theorem errV_one (w : World) : isInt1 (errV w) = true := by kernel_rfl
theorem isInt1_of {v : Value} (h : isInt1 v = true) : ∃ t, v = .int 1 t := by
  unfold isInt1 at h
  split at h
  · exact ⟨_, rfl⟩
  · cases h
theorem errV_int (w : World) : ∃ t, errV w = .int 1 t := isInt1_of (errV_one w)
theorem errV_find {w : World} : findObj (frJ.heap_1 w.params) 58 none "error_code" = some (.value (errV w)) := by kernel_rfl
theorem slot_excga : Slot "BaseException" "__getattribute__" "BaseException.__getattribute__" :=
  .of (owner := "BaseException") (n := "__getattribute__") (by rw [typeLookup_type, builtinLookup_eq_fast]; kernel_rfl) (by decide +kernel) (by decide +kernel) (by decide +kernel)
    (by first | exact .inl (by decide +kernel) | exact .inr (by decide +kernel)) (by rw [isSubtype_type]; kernel_rfl)
theorem entry_excga : entryFor table "BaseException.__getattribute__" = some Builtin.«object.__getattribute__» :=
  entryFor_alias (id' := "object.__getattribute__") (by rw [fastTable_eq_tree]; kernel_rfl) (by first | rfl | decide +kernel) (by decide +kernel) (by rw [fastTable_eq_tree]; kernel_rfl)
theorem args_excga (a b : Value) : argsOk "BaseException.__getattribute__" ⟨[a, b], []⟩ := by unfold argsOk; kernel_rfl
theorem sub58 {w : World} : subIn (frJ.heap_1 w.params) (.ref 58) (.type "BaseException") = some true := by kernel_rfl
theorem err_attr {w : World} {A : Around} {s : Shared} {Q E : Value → Shared → Prop} {e : Addr} {oe : Obj} {vs : Array Value} {expr : Bool}
    (X : (frJ.heap_1 w.params).In s.heap) (he : s.heap.get? e = some oe) (hc : oe.cls = PE) (hdt : oe.data = .fields vs) (hn : oe.dict = none)
    (h : ∀ t tk, Q (.int 1 t) { s with toks := tk }) : wpAny (model Pg w) A (getAttr (.ref e) (Str.ofString "error_code") expr) Q E s := by
  have L0 : Looks (model Pg w) s.heap (typeOf (.ref e)) (.ref 58) := by
    have q : Looks (model Pg w) s.heap (typeOf (.ref e)) oe.cls := (Looks.ld he).andThen .now
    rw [hc] at q; exact q
  have hga : findIn (frJ.heap_1 w.params) (.ref 58) "__getattribute__" = some (some (.builtin "BaseException.__getattribute__")) := by kernel_rfl
  have L1 := looks_findIn (M := model Pg w) X hga
  have hhk : findIn (frJ.heap_1 w.params) (.ref 58) "__getattr__" = some none := by kernel_rfl
  have L2 := looks_findIn (M := model Pg w) X hhk
  have L3 : Looks (model Pg w) s.heap (Builtin.ObjectAttr.find (.ref e) (.ref 58) "error_code") (.value (errV w)) :=
    looks_find (od := none) X ⟨he, hc, by unfold notCls; rw [hdt], by rw [hn]; trivial⟩ errV_find
  refine wpAny_bind (wpAny_mkText (wpAny_holding (wpAny_bind (L0 _ _ _ _ (fun _ _ e => e) (wpAny_bind (L1 _ _ _ _ (fun _ _ e => e) ?_))))))
  dsimp only
  rw [if_neg (by rw [show (Value.builtin "BaseException.__getattribute__" == Value.builtin "object.__getattribute__") = false from by decide +kernel, Bool.and_false]; decide)]
  unfold getAttrByItsOwn hookBefore
  refine wpAny_bind (L2 _ _ _ _ (fun _ _ e => e) (wpAny_bind (wpAny_attempt (wpAny_holding ?_))))
  unfold callGetattribute
  rw [show (expr && onTheHeap (Value.builtin "BaseException.__getattribute__")) = false from Bool.and_false _, if_neg (by decide)]
  unfold boundAndCalled
  rw [slot_excga.bind]
  refine wpAny_bind (wpAny_pure ?_)
  show wpAny _ _ (call (.builtin "BaseException.__getattribute__") [.ref e, .str (Str.ofString "error_code") s.toks]) _ _ _
  refine wpAny_call (codeAny_call_builtin (by decide +kernel) entry_excga ?_)
  refine check_slot (i := "BaseException.__getattribute__") (self := .ref e) (rest := [.str (Str.ofString "error_code") s.toks]) (kw := []) (owner := "BaseException") (n := "__getattribute__") (by decide +kernel) (by decide +kernel) ?_ (args_excga _ _) ?_
  · unfold isInstance
    exact L0.andThen (looks_subIn X sub58)
  show wpAny _ _ (typeOf (.ref e) >>= _) _ _ _
  refine wpAny_bind (L0 _ _ _ _ (fun _ _ e => e) (wpAny_bind (L3 _ _ _ _ (fun _ _ e => e) ?_)))
  obtain ⟨t, ht⟩ := errV_int w
  rw [ht]
  refine wpAny_pure ?_
  exact wpAny_pure (h t _)
/-- the mark is off already -/
theorem lands_D {M : Model} {A : Around} {E : Value → Shared → Prop} {s : Shared} {B : Heap} {l : List Env} {e : Addr} {cls a0 : Value} {Q : Unit → Shared → Prop} (x : FlyD B l e cls a0 s.heap) (hQ : ∀ h', FlyD B l e cls a0 h' → s.heap.UpToSlots h' → Q () { s with heap := h' }) : wpAny M A (setFlight (.ref e) none) Q E s := by
  obtain ⟨⟨f1, f2, f3, oe, vs, T, oT, ts, he, hc, hd, h1, hnT, hTe, hT, hdT, h3⟩, nd⟩ := x
  unfold setFlight
  refine wpAny_bind (wpAny_field he hd h1 ?_)
  rw [if_pos (by simp)]
  have off : ∀ b o, b ≠ T → s.heap.get? b = some o → (s.heap.update T (Obj.mapFields (·.setIfInBounds 3 ((none : Option Addr).elim Value.none fun f => rawInt f)))).get? b = some o := fun b o hb ho => (Heap.get?_update_other _ _ (Ne.symm hb)).trans ho
  have notT : ∀ b o, s.heap.get? b = some o → (∀ ws, o.data ≠ .fields ws) → b ≠ T := fun b o hb hn q => by
    subst q; rw [hT] at hb; exact hn ts (Option.some.inj hb ▸ hdT)
  have hz : 3 < ts.size := (Array.getElem?_eq_some_iff.mp h3).1
  refine wpAny_setField hT hdT hz (hQ _ ⟨⟨fun b o hb => off b o (fun q => by rw [q, hnT] at hb; cases hb) (f1 b o hb), f2, f3.of_keeps fun b o hb hn => ⟨o, off b o (notT b o hb hn) hb, rfl⟩,
    oe, vs, T, _, _, off e oe (Ne.symm hTe) he, hc, hd, h1, hnT, hTe, Heap.get?_update_self _ hT (Obj.isFreed_of_fields (Obj.data_mapFields hdT _)), Obj.data_mapFields hdT _, by simp [hz]⟩, fun o ho => ?_⟩ fun b o hb hn => ⟨o.slots, off b o (notT b o hb hn) hb⟩)
  rw [off e oe (Ne.symm hTe) he] at ho
  exact nd o (he.trans ho)

end
section
open PySem PySem.W PyProof.Rows PySem.Calls PySem.W.X
set_option Elab.async false
set_option maxRecDepth 100000
set_option maxHeartbeats 4000000
set_option linter.unusedVariables false
section
variable {w : World} {A : Around} {E : Value → Shared → Prop} {s' : Shared} {B Bx : Heap} {outer : List Env} {L a e : Addr} {m : PySem.Str → Option Value} {name : PySem.Str} {scope : Scope} {cd : Value}
  {n : PySem.Str} {b₀ : Stmt} {suite : List Stmt} {pos np : Pos} {rest : List ExceptHandler} {Q : Flow → Shared → Prop} {KF : Frag} {bmB : List Value} {newId : String} {p : Program} {loose : List PySem.Str} {mg mb : PySem.Str → Option Value} {x : PySem.Str}
/-- a ProtocolError in flight is caught by name and bound -/
theorem catch_PE (hfr : A.frames = some (envOf name scope L a cd :: outer)) (y : InFl Bx (envOf name scope L a cd :: outer) e PE s'.heap) (i : Ext B Bx) (hns : s'.heap.Ns L m) (hBL : B.objs.size ≤ L) (hLo : L ∉ frs outer)
    (X : KF.In B) (T : TopRead p loose mg mb B) (ex : nsIn KF mainGlobals x = some (some (.ref 58))) (q : excIn KF 58 bmB newId = true) (hbase : bmB.contains (.type "BaseException") = true)
    (k : ∀ h' tk oe vs, Fr B L h' (fun y => if y = n then some (.ref e) else m y) → News B L h' [(e, oe)] → oe.cls = PE → oe.data = .fields vs → oe.dict = none → Ext Bx h' → Bx.get? e = none → h'.FunFrames Bx (envOf name scope L a cd :: outer) → (∀ b ∈ frs outer, slotEq s'.heap h' b) →
      wpAny (model Pg w) (A.mark (some (.ref e))) (execs (b₀ :: suite) (envOf name scope L a cd))
        (fun f s₄ => wpAny (model Pg w) A (do bindName (envOf name scope L a cd) n .none; unbindBehindTheSuite (envOf name scope L a cd) n pos) (fun _ s₅ => Q f s₅) E s₄)
        (AsSuiteRaised (model Pg w) (A.mark (some (.ref e))) (envOf name scope L a cd) n pos (notedBy (model Pg w) (A.mark (some (.ref e))) (envOf name scope L a cd) (cameBackBy (model Pg w) A (envOf name scope L a cd) E)))
        { s' with heap := h', toks := tk })
    (hk : scope.kind = .function) (hlo : (envOf name scope L a cd).kindOf n = some .local) (hx : (envOf name scope L a cd).kindOf x = some .globalImplicit) (hd : (x == ("__debug__" : PySem.Str)) = false) :
    wpAny (model Pg w) A (noteFrame (.ref e) (envOf name scope L a cd))
      (fun _ s₂ => wpAny (model Pg w) A (setFlight (.ref e) none) (fun _ s₃ =>
        wpAny (model Pg w) A (handleBy (.ref e) (envOf name scope L a cd) (.ExceptHandler (some (.Name x np)) (some n) (b₀ :: suite) pos :: rest)) Q E s₃) E s₂) E s' := by
  have ffs := y.frames
  refine note_any hfr rfl y fun h₄ a0 hh₄ hu₄ => ?_
  refine lands_any (s := { s' with heap := h₄ }) hh₄ fun h₅ fl₅ hu₅ => ?_
  have F₅ : Fr B L h₅ m := ⟨(hu₄.trans hu₅).ns hns, fun b o hb => (fl₅.1.1 b o (i b o hb)), hBL⟩
  obtain ⟨ob, hob, hobc⟩ := fl₅.1.there
  refine wpAny_handleBy_cons (codeAny_handlers_test (name_K F₅ X T ex ?_ hk hx hd)) (by intro q; cases q)
  obtain ⟨bm, N, nm, qn, bs, hdct, sn, sub, ab, col, dd, k0, k1, k2, k3, k5, mN, hC, hN, hni, TL⟩ := ((own_of_in X T ex q).keeps F₅.keep).obj
  refine wpAny_excMatches_sub_self hC hob hobc (TL.hasType hbase) (codeAny_handlers_suite_as ?_)
  refine lands_D (s := ⟨h₅, s'.gens, s'.drawn, s'.toks, s'.os⟩) fl₅ fun h₆ fl₆ hu₆ => ?_
  have hu := (hu₄.trans hu₅).trans hu₆
  have F₆ : Fr B L h₆ m := ⟨hu.ns hns, fun b o hb => (fl₆.1.1 b o (i b o hb)), hBL⟩
  have ff₆ := fl₆.1.2.2.1
  obtain ⟨⟨g1, g2, g3, oe, vs, T', oT, ts, he, ⟨hc, h0⟩, hdt, _⟩, nd⟩ := fl₆
  have hndt := nd oe he
  have heL : e ≠ L := fun z => by
    obtain ⟨oL, es, ep, hoL, hdL, _⟩ := F₆.ns
    rw [z, hoL] at he; cases he; rw [hdL] at hdt; cases hdt
  have gB : B.get? e = none := by
    cases z : B.get? e with
    | none => rfl
    | some o => rw [i e o z] at g2; cases g2
  have N₆ : News B L h₆ [(e, oe)] := fun pp hp => by
    rcases List.mem_cons.mp hp with rfl | hp
    · exact ⟨he, heL, gB⟩
    · cases hp
  have hkm : scope.kind ≠ .module := fun z => by rw [hk] at z; cases z
  refine wpAny_storeName_local hlo F₆.ns (fun h₇ hn hs => ?_) (by show (scope.kind == .class || (scope.kind == .module && L != mainGlobals)) = false; rw [hk]; rfl)
  have F₇ := F₆.set hn hs
  obtain ⟨_, ⟨L₂, _, hL₂, hBL₂, _, _⟩, hrest⟩ := ff₆
  have e2 : L = L₂ := Option.some.inj hL₂
  subst e2
  have keep : ∀ b ∈ frs outer, ∀ o, h₆.get? b = some o → h₇.get? b = some o := fun b hb o ho => hs.extBut b o (fun z => hLo (by have z' : b = L := z; rw [← z']; exact hb)) ho
  refine k h₇ _ oe vs F₇ (N₆.set hs) hc hdt hndt (fun b o hb => hs.extBut b o (fun z => by have z' : b = L := z; rw [z', hBL₂] at hb; cases hb) (g1 b o hb)) g2 (Heap.FunFrames.cons hkm rfl F₇.ns hBL₂ (funFrames_keep hrest fun b hb o ho => ⟨o, keep b hb o ho, rfl⟩)) fun b hb => ?_
  exact (upTo_frs hu ffs b (by rw [frs_cons (env := envOf name scope L a cd) (L := L) rfl]; exact .tail _ hb)).trans (slotEq.of_keep fun o ho => keep b hb o ho)
end

end
section
open PySem PySem.W PyProof.Rows PySem.Calls PySem.SeqAt
set_option Elab.async false
set_option linter.unusedVariables false
/-! ## what was told beside what was due -/
section
variable {A : Around} {s : Shared} {items : Array Value}
theorem eq_lists {a b : Addr} (ha : s.heap.IsList a items) (hb : s.heap.IsList b items) (hu : A.units < cLine) : EqAt A s (.ref a) (.ref b) true := by
  by_cases e : a = b
  · rw [e]; exact EqAt.same _
  · refine EqAt.of_refs e ?_
    have h := RcAt.lists (A := A) (s := s) (e := fun _ => true) ha hb rfl hu fun j h1 h2 => EqAt.same _
    have e2 : (List.range items.size).all (fun _ => true) = true := by rw [List.all_eq_true]; intro _ _; rfl
    rwa [e2] at h
theorem eq_strs (x : Str) (t u : Tok) : EqAt A s (.str x t) (.str x u) true := by
  have h := EqAt.str_str (A := A) (s := s) x t x u
  rwa [beq_self_eq_true] at h
theorem eq_ints (x : Int) (t u : Tok) : EqAt A s (.int x t) (.int x u) true := by
  have h := EqAt.int_int (A := A) (s := s) x t x u
  rwa [beq_self_eq_true] at h
variable {T U : Addr} {a1 a2 a3 b1 b2 b3 : Value}
theorem eq_three (hT : s.heap.IsTuple T #[a1, a2, a3]) (hU : s.heap.IsTuple U #[b1, b2, b3]) (hu : A.units < cLine) (h1 : EqAt A.in1 s a1 b1 true) (h2 : EqAt A.in1 s a2 b2 true) (h3 : EqAt A.in1 s a3 b3 true) : RcAt A s (.ref T) (.ref U) true :=
  RcAt.tuples (e := fun _ => true) hT hU hu fun j hj _ => match j, hj with
    | 0, _ => h1
    | 1, _ => h2
    | 2, _ => h3
theorem ne_three (hT : s.heap.IsTuple T #[a1, a2, a3]) (hU : s.heap.IsTuple U #[b1, b2, b3]) (hu : A.units < cLine) (h1 : EqAt A.in1 s a1 b1 true) (h2 : EqAt A.in1 s a2 b2 true) (h3 : EqAt A.in1 s a3 b3 true) : RcNeAt A s (.ref T) (.ref U) false :=
  RcNeAt.tuples (e := fun _ => true) hT hU hu fun j hj _ => match j, hj with
    | 0, _ => h1
    | 1, _ => h2
    | 2, _ => h3
end

end
section
open PySem PySem.W PyProof.Rows PySem.Calls PySem.W.X
set_option Elab.async false
set_option maxRecDepth 100000
set_option maxHeartbeats 8000000
set_option linter.unusedVariables false
set_option pp.deepTerms false
set_option pp.maxSteps 6000
noncomputable abbrev sixL : List (List Int) := [nMethod, nScheme, nAuth, nPath, nStatus, nProt]
theorem Own_c {w : World} {mean : ExcName → Option Value} {mg mb : Str → Option Value} {b0 : Heap} {outer : List Env} {dp un : Nat} {gd : Option (List Code)} {s : Shared} {Q E : Value → Shared → Prop}
    (G : Gd w mean mg mb b0 outer s.heap) (hdp : dp + 4 < recursionLimit) (hun : un + 30 < cLine)
    (ret : ∀ D h' tk its c, Ext s.heap h' → s.heap.get? D = none → h'.get? D = some (listO its c) → its.toList.all isB = true → its.toList.map bInt? = ownL → Q (.ref D) { s with heap := h', toks := tk }) :
    wpAny (model Pg w) (AZ dp un gd outer) (call (.ref 324) []) Q E s := by
  k_with_none
  k_with "getMethod bytes" => (k_here; (with_reducible first | refine gm_lower ?_ | refine gm_strip ?_ | refine gm_find ?_))
  k_with "pyReprObj" => (k_here; (refine repr_K (by kba_ints) (by kba_size) ?_); intro _ _ _ _; (try dsimp only))
  k_with "call builtin:bytes.lower" => (k_here; (refine lower_K (by kba_ints) (by kba_size) ?_); intro _ _ _ _; (try dsimp only))
  k_with "call builtin:bytes.find" => (k_here; (refine find_K (by kba_ints) (by first | assumption | rfl | decide +kernel) ?_); intro _ _ _ _; (try dsimp only))
  k_with "compareOp Eq" => (k_here; (with_reducible show wpAny _ _ (compareOp CmpOp.Eq (Value.bytes _ _) (Value.bytes _ _)) _ _ _); (refine eqB_K (by kba_ints) (by kba_ints) ?_))
  k_with "compareOp NotEq" => (k_here; (with_reducible show wpAny _ _ (compareOp CmpOp.NotEq (Value.bytes _ _) (Value.bytes _ _)) _ _ _); (refine neB_K (by kba_ints) (by kba_ints) ?_))
  k_with "compareOp Eq bytes bytes" => (k_here; (refine eqB_K (by kba_ints) (by kba_ints) ?_))
  k_with "compareOp NotEq bytes bytes" => (k_here; (refine neB_K (by kba_ints) (by kba_ints) ?_))
  k_with "compareOp In bytes ref" => (k_here; k_dflt (first | (refine' in_tupB (kss := ownL) (tupK ?qX ?qF ?qh) ?qhb ?qhit ?qhk ?_; (case qX => assumption); (case qF => assumption); (case qh => k_is); (case qhb => exact rfl); (case qhit => exact rfl); (case qhk => kba_ints)) | (refine' in_tupB (kss := allowedL) (tupK ?qX ?qF ?qh) ?qhb ?qhit ?qhk ?_; (case qX => assumption); (case qF => assumption); (case qh => k_is); (case qhb => exact rfl); (case qhit => exact rfl); (case qhk => kba_ints))))
  k_with "compareOp NotIn bytes ref" => (k_here; k_dflt (refine' notIn_tupB (kss := allowedL) (tupK ?qX ?qF ?qh) ?qhb ?qhit ?qhk ?_; (case qX => assumption); (case qF => assumption); (case qh => k_is); (case qhb => exact rfl); (case qhit => exact rfl); (case qhk => kba_ints)))
  k_with "subscriptTail" => (k_here; (with_reducible show wpAny _ _ (subscriptTail _ _ (Value.bytes _ _) (Value.int _ _)) _ _ _); (first | refine item0_A (by kba_ints) (by omega) (by omega) ?_ | refine itemL_A (by kba_ints) (by omega) (by omega) ?_); intro _ _ _ _ _ _; (try dsimp only))
  k_with "exec For" => (k_here; (with_unfolding_all refine' For_mine ?qF ?qhE ?qhx ?qhp ?qhs ?_; (case qF => assumption); (case qhE => assumption); (case qhx => exact rfl); (case qhp => exact rfl); (case qhs => exact fun _ => rfl); k_whole))
  k_with "exec For Name Name cons nil" => (k_here; (with_unfolding_all refine' For_mine ?qF ?qhE ?qhx ?qhp ?qhs ?_; (case qF => assumption); (case qhE => assumption); (case qhx => exact rfl); (case qhp => exact rfl); (case qhs => exact fun _ => rfl); k_whole))
  k_with "subscriptTail" => (k_here; (with_reducible show wpAny _ _ (subscriptTail _ _ (Value.ref _) (Value.int _ _)) _ _ _); (first | (refine pair0_A (by k_asm) (by assumption) ?_) | (refine pair1_A (by k_asm) (by assumption) ?_)))
  have X := G.X
  have T := G.T
  refine wpAny_call ?_
  k_dflt (refine' enter (binds := []) X T.nolimit ?ho ?hcd ?hroom ?hbind ?hloc ?_ ?c5 ?c6 ?c7 ?c8; (case ho => k_is); (case hcd => k_is); (case hroom => show dp < recursionLimit; omega); (case hbind => exact rfl); (case hloc => exact locs rfl); (case c5 => decide); (case c6 => exact rfl); (case c7 => exact rfl); (case c8 => exact rfl); k_whole; intro L' h' F' N')
  k_steps
  rename_i l4 h4 F4 N4 _
  exact ret l4 h4 _ _ 0 F4.keep (N4 _ (.head _)).2.2 (N4 _ (.head _)).1 rfl rfl
theorem Six_c {w : World} {mean : ExcName → Option Value} {mg mb : Str → Option Value} {b0 : Heap} {outer : List Env} {dp un : Nat} {gd : Option (List Code)} {s : Shared} {Q E : Value → Shared → Prop}
    (G : Gd w mean mg mb b0 outer s.heap) (hdp : dp + 4 < recursionLimit) (hun : un + 30 < cLine)
    (ret : ∀ D h' tk its c, Ext s.heap h' → s.heap.get? D = none → h'.get? D = some (listO its c) → its.toList.all isB = true → its.toList.map bInt? = sixL → Q (.ref D) { s with heap := h', toks := tk }) :
    wpAny (model Pg w) (AZ dp un gd outer) (call (.ref 317) []) Q E s := by
  k_with_none
  k_with "getMethod bytes" => (k_here; (with_reducible first | refine gm_lower ?_ | refine gm_strip ?_ | refine gm_find ?_))
  k_with "pyReprObj" => (k_here; (refine repr_K (by kba_ints) (by kba_size) ?_); intro _ _ _ _; (try dsimp only))
  k_with "call builtin:bytes.lower" => (k_here; (refine lower_K (by kba_ints) (by kba_size) ?_); intro _ _ _ _; (try dsimp only))
  k_with "call builtin:bytes.find" => (k_here; (refine find_K (by kba_ints) (by first | assumption | rfl | decide +kernel) ?_); intro _ _ _ _; (try dsimp only))
  k_with "compareOp Eq" => (k_here; (with_reducible show wpAny _ _ (compareOp CmpOp.Eq (Value.bytes _ _) (Value.bytes _ _)) _ _ _); (refine eqB_K (by kba_ints) (by kba_ints) ?_))
  k_with "compareOp NotEq" => (k_here; (with_reducible show wpAny _ _ (compareOp CmpOp.NotEq (Value.bytes _ _) (Value.bytes _ _)) _ _ _); (refine neB_K (by kba_ints) (by kba_ints) ?_))
  k_with "compareOp Eq bytes bytes" => (k_here; (refine eqB_K (by kba_ints) (by kba_ints) ?_))
  k_with "compareOp NotEq bytes bytes" => (k_here; (refine neB_K (by kba_ints) (by kba_ints) ?_))
  k_with "compareOp In bytes ref" => (k_here; k_dflt (first | (refine' in_tupB (kss := ownL) (tupK ?qX ?qF ?qh) ?qhb ?qhit ?qhk ?_; (case qX => assumption); (case qF => assumption); (case qh => k_is); (case qhb => exact rfl); (case qhit => exact rfl); (case qhk => kba_ints)) | (refine' in_tupB (kss := allowedL) (tupK ?qX ?qF ?qh) ?qhb ?qhit ?qhk ?_; (case qX => assumption); (case qF => assumption); (case qh => k_is); (case qhb => exact rfl); (case qhit => exact rfl); (case qhk => kba_ints))))
  k_with "compareOp NotIn bytes ref" => (k_here; k_dflt (refine' notIn_tupB (kss := allowedL) (tupK ?qX ?qF ?qh) ?qhb ?qhit ?qhk ?_; (case qX => assumption); (case qF => assumption); (case qh => k_is); (case qhb => exact rfl); (case qhit => exact rfl); (case qhk => kba_ints)))
  k_with "subscriptTail" => (k_here; (with_reducible show wpAny _ _ (subscriptTail _ _ (Value.bytes _ _) (Value.int _ _)) _ _ _); (first | refine item0_A (by kba_ints) (by omega) (by omega) ?_ | refine itemL_A (by kba_ints) (by omega) (by omega) ?_); intro _ _ _ _ _ _; (try dsimp only))
  k_with "exec For" => (k_here; (with_unfolding_all refine' For_mine ?qF ?qhE ?qhx ?qhp ?qhs ?_; (case qF => assumption); (case qhE => assumption); (case qhx => exact rfl); (case qhp => exact rfl); (case qhs => exact fun _ => rfl); k_whole))
  k_with "exec For Name Name cons nil" => (k_here; (with_unfolding_all refine' For_mine ?qF ?qhE ?qhx ?qhp ?qhs ?_; (case qF => assumption); (case qhE => assumption); (case qhx => exact rfl); (case qhp => exact rfl); (case qhs => exact fun _ => rfl); k_whole))
  k_with "subscriptTail" => (k_here; (with_reducible show wpAny _ _ (subscriptTail _ _ (Value.ref _) (Value.int _ _)) _ _ _); (first | (refine pair0_A (by k_asm) (by assumption) ?_) | (refine pair1_A (by k_asm) (by assumption) ?_)))
  have X := G.X
  have T := G.T
  refine wpAny_call ?_
  k_dflt (refine' enter (binds := []) X T.nolimit ?ho ?hcd ?hroom ?hbind ?hloc ?_ ?c5 ?c6 ?c7 ?c8; (case ho => k_is); (case hcd => k_is); (case hroom => show dp < recursionLimit; omega); (case hbind => exact rfl); (case hloc => exact locs rfl); (case c5 => decide); (case c6 => exact rfl); (case c7 => exact rfl); (case c8 => exact rfl); k_whole; intro L' h' F' N')
  k_steps
  rename_i l4 h4 F4 N4 _
  exact ret l4 h4 _ _ 0 F4.keep (N4 _ (.head _)).2.2 (N4 _ (.head _)).1 rfl rfl

end
section
open PySem PySem.W PyProof.Rows PySem.Calls PySem.W.X
set_option Elab.async false
set_option maxRecDepth 100000
set_option maxHeartbeats 8000000
set_option linter.unusedVariables false
set_option pp.deepTerms false
set_option pp.maxSteps 6000
noncomputable def okEmpty (n x : List Int) : Bool := !decide (n.length = 0)
noncomputable def stEmpty (kp : List (Addr × Obj)) (_ : Unit) (v : Value) : Option Unit := if okEmpty (cont kp v).1 (cont kp v).2 then some () else none
theorem Empty_c {w : World} {mean : ExcName → Option Value} {mg mb : Str → Option Value} {b0 : Heap} {outer : List Env} {dp un : Nat} {gd : Option (List Code)} {s s0 : Shared} {Q E : Value → Shared → Prop} {src fl : Value}
    {kp : List (Addr × Obj)} {dn un' : Nat} {strm : Strm}
    (G : Gd w mean mg mb b0 outer s.heap) (hdp : dp + 20 < recursionLimit) (hun : un + 100 < cLine) (hb0 : b0.objs.size ≤ s.heap.objs.size) (hkp : Kept kp s.heap)
    (hx0 : ∀ b o, s0.heap.get? b = some o → ∃ o', s.heap.get? b = some o') (hz : s0.gens.size ≤ s.gens.size)
    (hsrc : SrcAt w mean mg mb b0 kp dn un' strm src s0 s) (hall : strmAll (Item kp) strm)
    (ret : ∀ a h' tk gs, Ext s.heap h' → gs.bare = true → GenAt w mean mg mb b0 kp (dn + 1) (un' + 4) (outS (stEmpty kp) (fun _ => true) () strm) a s0 { s with heap := h', gens := s.gens.push gs, toks := tk } → Q (.ref a) { s with heap := h', gens := s.gens.push gs, toks := tk }) :
    wpAny (model Pg w) (AZ dp un gd outer) (call (.ref 206) [src, fl]) Q E s := by
  k_with_none
  k_with "And" => (k_here; (with_reducible show PySem.Str.length (_ ++ _) ≤ sizeLine ∧ wpAny _ _ (joinParts _ _) _ _ _); refine' ⟨?qhA, ?_⟩; (case qhA => ((repeat' (with_reducible refine len_half ?_ ?_)) <;> first | exact Nat.le_trans (by with_reducible assumption) (Nat.le_of_ble_eq_true (by kernel_rfl)) | ((with_reducible first | show PySem.Str.length (PySem.Str.ofString _) ≤ _ | show PySem.Str.length PySem.Str.empty ≤ _ | show PySem.Str.length (PySem.Str.mk _) ≤ _); exact Nat.le_of_ble_eq_true (by kernel_rfl)))))
  k_with "joinParts" => (k_here; (first | (with_reducible show wpAny _ _ (joinParts _ []) _ _ _) | (with_reducible show wpAny _ _ (joinParts _ (evalEach [] _)) _ _ _)); k_dflt (refine' joinParts_nil ?_ ?qhA; (case qhA => ((repeat' (with_reducible refine len_half ?_ ?_)) <;> first | exact Nat.le_trans (by with_reducible assumption) (Nat.le_of_ble_eq_true (by kernel_rfl)) | ((with_reducible first | show PySem.Str.length (PySem.Str.ofString _) ≤ _ | show PySem.Str.length PySem.Str.empty ≤ _ | show PySem.Str.length (PySem.Str.mk _) ≤ _); exact Nat.le_of_ble_eq_true (by kernel_rfl))))))
  k_with "getMethod bytes" => (k_here; (with_reducible first | refine gm_lower ?_ | refine gm_strip ?_ | refine gm_find ?_))
  k_with "pyReprObj" => (k_here; (refine repr_K (by kba_ints) (by kba_size) ?_); intro _ _ _ _; (try dsimp only))
  k_with "call builtin:bytes.lower" => (k_here; (refine lower_K (by kba_ints) (by kba_size) ?_); intro _ _ _ _; (try dsimp only))
  k_with "call builtin:bytes.find" => (k_here; (refine find_K (by kba_ints) (by first | assumption | rfl | decide +kernel) ?_); intro _ _ _ _; (try dsimp only))
  k_with "compareOp Eq" => (k_here; (with_reducible show wpAny _ _ (compareOp CmpOp.Eq (Value.bytes _ _) (Value.bytes _ _)) _ _ _); (refine eqB_K (by kba_ints) (by kba_ints) ?_))
  k_with "compareOp NotEq" => (k_here; (with_reducible show wpAny _ _ (compareOp CmpOp.NotEq (Value.bytes _ _) (Value.bytes _ _)) _ _ _); (refine neB_K (by kba_ints) (by kba_ints) ?_))
  k_with "compareOp Eq bytes bytes" => (k_here; (refine eqB_K (by kba_ints) (by kba_ints) ?_))
  k_with "compareOp NotEq bytes bytes" => (k_here; (refine neB_K (by kba_ints) (by kba_ints) ?_))
  k_with "compareOp In bytes ref" => (k_here; k_dflt (first | (refine' in_tupB (kss := ownL) (tupK ?qX ?qF ?qh) ?qhb ?qhit ?qhk ?_; (case qX => assumption); (case qF => assumption); (case qh => k_is); (case qhb => exact rfl); (case qhit => exact rfl); (case qhk => kba_ints)) | (refine' in_tupB (kss := allowedL) (tupK ?qX ?qF ?qh) ?qhb ?qhit ?qhk ?_; (case qX => assumption); (case qF => assumption); (case qh => k_is); (case qhb => exact rfl); (case qhit => exact rfl); (case qhk => kba_ints))))
  k_with "compareOp NotIn bytes ref" => (k_here; k_dflt (refine' notIn_tupB (kss := allowedL) (tupK ?qX ?qF ?qh) ?qhb ?qhit ?qhk ?_; (case qX => assumption); (case qF => assumption); (case qh => k_is); (case qhb => exact rfl); (case qhit => exact rfl); (case qhk => kba_ints)))
  k_with "subscriptTail" => (k_here; (with_reducible show wpAny _ _ (subscriptTail _ _ (Value.bytes _ _) (Value.int _ _)) _ _ _); (first | refine item0_A (by kba_ints) (by omega) (by omega) ?_ | refine itemL_A (by kba_ints) (by omega) (by omega) ?_); intro _ _ _ _ _ _; (try dsimp only))
  k_with "exec For" => (k_here; (with_unfolding_all refine' For_mine ?qF ?qhE ?qhx ?qhp ?qhs ?_; (case qF => assumption); (case qhE => assumption); (case qhx => exact rfl); (case qhp => exact rfl); (case qhs => exact fun _ => rfl); k_whole))
  k_with "exec For Name Name cons nil" => (k_here; (with_unfolding_all refine' For_mine ?qF ?qhE ?qhx ?qhp ?qhs ?_; (case qF => assumption); (case qhE => assumption); (case qhx => exact rfl); (case qhp => exact rfl); (case qhs => exact fun _ => rfl); k_whole))
  k_with "subscriptTail" => (k_here; (with_reducible show wpAny _ _ (subscriptTail _ _ (Value.ref _) (Value.int _ _)) _ _ _); (first | (refine pair0_A (by k_asm) (by assumption) ?_) | (refine pair1_A (by k_asm) (by assumption) ?_)))
  obtain ⟨oh, og, hsrc, hoh, hog⟩ := hsrc
  have X := G.X
  have T := G.T
  refine wpAny_call ?_
  k_dflt (refine' enterG (binds := [(Str.ofString "headers", src), (Str.ofString "hdr_validation_flags", fl)]) X T.nolimit ?ho ?hcd ?hroom ?hbind ?hloc ?_ ?c5 ?c6 ?c7 ?c8; (case ho => k_is); (case hcd => k_is); (case hroom => show dp < recursionLimit; omega); (case hbind => exact rfl); (case hloc => exact locs rfl); (case c5 => decide); (case c6 => exact rfl); (case c7 => exact rfl); (case c8 => exact rfl); k_whole; intro L' h' tk n q t t' hL F')
  have hlow : b0.objs.size ≤ L' := hL ▸ hb0
  have hkl : ∀ p ∈ kp, p.1 < L' := fun p hp => hL ▸ Heap.lt_size (hkp p hp)
  have hLs : s.heap.get? L' = none := by
    cases e : s.heap.get? L' with
    | none => rfl
    | some o => exact absurd (Heap.lt_size e) (by rw [hL]; exact Nat.lt_irrefl _)
  have hLo : ¬ oh L' := fun q => by obtain ⟨o, ho⟩ := (hoh _ q).2; rw [hLs] at ho; cases ho
  have hfpl : ∀ b, b = L' → b0.get? b = none ∧ ∀ p ∈ kp, p.1 ≠ b := by
    intro b hb
    rw [hb]
    refine ⟨?_, ?_⟩
    · cases e : b0.get? L' with
      | none => rfl
      | some o => rw [G.S _ o e] at hLs; cases hLs
    · intro p hp e
      have := hkp p hp
      rw [e, hLs] at this; cases this
  refine ret _ _ _ _ (fun b o e => Heap.get?_push_of_some _ (F'.keep b o e)) rfl (gen_new hx0 hz F' hLs hoh hog ?_)
  clear ret
  refine stage_new (L := L') (pre := [_]) (B := [_]) (post := []) (ItemP := Item kp) (ohk := fun b => oh b ∨ b = L') rfl ?hk ?hf ?hoL ?hns ?hfold ?start
  case hk => exact fun e => nomatch e
  case hf => exact rfl
  case hoL => exact .inr rfl
  case hns => exact ⟨_, (F'.push _).ns⟩
  case hfold => exact fun _ => rfl
  intro s₁ A' outer' E' ag cx hout'
  have hns : s₁.heap.Ns L' _ := (F'.push _).ns.at' fun o e => ag.heap L' o (.inr rfl) e
  have Fb : Fr b0 L' s₁.heap _ := ⟨hns, cx.G.S, hlow⟩
  have Xb := cx.G.X0
  have Tb := cx.G.T0
  have N := news_ledger (b0 := b0) (h := s₁.heap) (fp := fun b => b = L') (L := L') rfl
  clear X T hns
  obtain ⟨hd', dp', fr', gd', un''⟩ := A'
  have e1 := cx.hd
  have e2 := cx.fr
  dsimp only at e1 e2
  subst e1; subst e2
  generalize ledger b0 (fun b => b = L') s₁.heap = led at N
  k_steps
  refine ready_of (Inv := fun _ h => ∃ m, h.Ns L' m) (fp := fun b => b = L') hsrc (agree_new F'.keep (fun g hg => (hog g hg).2) (fun b h => .inl h) ⟨ag.heap, ag.gens⟩) ⟨rfl, rfl, cx.gs, cx.dp, cx.cu, cx.G, cx.d⟩ ?_ ⟨_, Fb.ns⟩ (fun b hb => ⟨hb ▸ hLo, .inl (.inr hb)⟩) (fun b h => .inl h) ⟨_, _, rfl, fun _ _ _ e => e⟩ hall
  clear cx Fb N led ag
  refine ⟨(fun e => nomatch e), rfl, rfl, rfl, rfl, hfpl, fun x h h' ⟨m, hm⟩ k => ⟨m, hm.at' fun o e => k L' o rfl e⟩, fun x h b ⟨m, hm⟩ hb => ?_, fun x h hm => hm, ?_, ?_⟩
  · obtain ⟨o, _, _, ho, _⟩ := hm
    exact ⟨o, hb ▸ ho⟩
  · intro x v s₁ A' outer Q E ⟨m, hm⟩ ⟨a, nn, vv, tn, tv, c, ev, hlk, hn1, hv1⟩ cx hout hs
    subst ev
    have hct := cont_of hlk
    obtain ⟨b1, x01, x1, hlow1, kb1, _⟩ := base_kp cx.G.S cx.d hlow hkl
    have Fb : Fr b1 L' s₁.heap _ := ⟨hm, x1, hlow1⟩
    have hA : b1.get? a = some (pairO nn vv tn tv c) := kb1 _ (mem_of_lookup hlk)
    clear kb1
    replace Xb := Xb.keeps x01
    replace Tb := Tb.keeps x01
    have N1 := news_ledger (b0 := b1) (h := s₁.heap) (fp := fun b => b = L') (L := L') rfl
    have G1 : Gd w mean mg mb b1 _ s₁.heap := ⟨Xb, Tb, x1, cx.G.F⟩
    generalize hled : ledger b1 (fun b => b = L') s₁.heap = led at N1
    generalize hks : KBw.bInts nn = ks at hn1 hct
    generalize hvs : KBw.bInts vv = vs at hv1 hct
    have cx' := cx
    obtain ⟨hd', dp', fr', gd', un''⟩ := A'
    have e1 := cx.hd
    have e2 := cx.fr
    dsimp only at e1 e2
    subst e1; subst e2
    k_steps
    all_goals (first
      | (have e3 : stEmpty kp x (.ref a) = some () := by rw [stEmpty, hct, if_pos (by simp_all [okEmpty])]
         rw [e3] at hs
         exact hs _ (end_ok x1 (by assumption) (by assumption) (by rw [hled]; exact fun p hp => by first | exact hp | exact List.mem_cons_of_mem _ hp | exact List.mem_append_left _ hp | exact List.mem_cons_of_mem _ (List.mem_cons_of_mem _ hp) | simp [hp])) ⟨_, Fr.ns (by assumption)⟩ fun py Q' E' hq => ld (by assumption) rfl hq)
      | (have e3 : stEmpty kp x (.ref a) = none := by rw [stEmpty, hct, if_neg (by simp_all [okEmpty])]
         rw [e3] at hs
         exact hs _ _ (end_raise (fun e => nomatch e) rfl G1 hout (by assumption) (by assumption) (by rw [hled]; exact fun p hp => by first | exact hp | exact List.mem_cons_of_mem _ hp | exact List.mem_append_left _ hp | exact List.mem_cons_of_mem _ (List.mem_cons_of_mem _ hp) | simp [hp]) (by assumption))))
  · intro x s₁ A' outer Q E ⟨m, hm⟩ cx hout hs
    rw [if_pos rfl] at hs
    exact wpAny_pure (hs _ ⟨s₁.heap, s₁.toks, rfl, fun _ _ _ e => e⟩)
noncomputable def okTe (n x : List Int) : Bool := !decide (n = nTe) || decide (x.map lowI = vTrailers)
noncomputable def stTe (kp : List (Addr × Obj)) (_ : Unit) (v : Value) : Option Unit := if okTe (cont kp v).1 (cont kp v).2 then some () else none
theorem Te_c {w : World} {mean : ExcName → Option Value} {mg mb : Str → Option Value} {b0 : Heap} {outer : List Env} {dp un : Nat} {gd : Option (List Code)} {s s0 : Shared} {Q E : Value → Shared → Prop} {src fl : Value}
    {kp : List (Addr × Obj)} {dn un' : Nat} {strm : Strm}
    (G : Gd w mean mg mb b0 outer s.heap) (hdp : dp + 20 < recursionLimit) (hun : un + 100 < cLine) (hb0 : b0.objs.size ≤ s.heap.objs.size) (hkp : Kept kp s.heap)
    (hx0 : ∀ b o, s0.heap.get? b = some o → ∃ o', s.heap.get? b = some o') (hz : s0.gens.size ≤ s.gens.size)
    (hsrc : SrcAt w mean mg mb b0 kp dn un' strm src s0 s) (hall : strmAll (Item kp) strm)
    (ret : ∀ a h' tk gs, Ext s.heap h' → gs.bare = true → GenAt w mean mg mb b0 kp (dn + 1) (un' + 4) (outS (stTe kp) (fun _ => true) () strm) a s0 { s with heap := h', gens := s.gens.push gs, toks := tk } → Q (.ref a) { s with heap := h', gens := s.gens.push gs, toks := tk }) :
    wpAny (model Pg w) (AZ dp un gd outer) (call (.ref 213) [src, fl]) Q E s := by
  k_with_none
  k_with "And" => (k_here; (with_reducible show PySem.Str.length (_ ++ _) ≤ sizeLine ∧ wpAny _ _ (joinParts _ _) _ _ _); refine' ⟨?qhA, ?_⟩; (case qhA => ((repeat' (with_reducible refine len_half ?_ ?_)) <;> first | exact Nat.le_trans (by with_reducible assumption) (Nat.le_of_ble_eq_true (by kernel_rfl)) | ((with_reducible first | show PySem.Str.length (PySem.Str.ofString _) ≤ _ | show PySem.Str.length PySem.Str.empty ≤ _ | show PySem.Str.length (PySem.Str.mk _) ≤ _); exact Nat.le_of_ble_eq_true (by kernel_rfl)))))
  k_with "joinParts" => (k_here; (first | (with_reducible show wpAny _ _ (joinParts _ []) _ _ _) | (with_reducible show wpAny _ _ (joinParts _ (evalEach [] _)) _ _ _)); k_dflt (refine' joinParts_nil ?_ ?qhA; (case qhA => ((repeat' (with_reducible refine len_half ?_ ?_)) <;> first | exact Nat.le_trans (by with_reducible assumption) (Nat.le_of_ble_eq_true (by kernel_rfl)) | ((with_reducible first | show PySem.Str.length (PySem.Str.ofString _) ≤ _ | show PySem.Str.length PySem.Str.empty ≤ _ | show PySem.Str.length (PySem.Str.mk _) ≤ _); exact Nat.le_of_ble_eq_true (by kernel_rfl))))))
  k_with "getMethod bytes" => (k_here; (with_reducible first | refine gm_lower ?_ | refine gm_strip ?_ | refine gm_find ?_))
  k_with "pyReprObj" => (k_here; (refine repr_K (by kba_ints) (by kba_size) ?_); intro _ _ _ _; (try dsimp only))
  k_with "call builtin:bytes.lower" => (k_here; (refine lower_K (by kba_ints) (by kba_size) ?_); intro _ _ _ _; (try dsimp only))
  k_with "call builtin:bytes.find" => (k_here; (refine find_K (by kba_ints) (by first | assumption | rfl | decide +kernel) ?_); intro _ _ _ _; (try dsimp only))
  k_with "compareOp Eq" => (k_here; (with_reducible show wpAny _ _ (compareOp CmpOp.Eq (Value.bytes _ _) (Value.bytes _ _)) _ _ _); (refine eqB_K (by kba_ints) (by kba_ints) ?_))
  k_with "compareOp NotEq" => (k_here; (with_reducible show wpAny _ _ (compareOp CmpOp.NotEq (Value.bytes _ _) (Value.bytes _ _)) _ _ _); (refine neB_K (by kba_ints) (by kba_ints) ?_))
  k_with "compareOp Eq bytes bytes" => (k_here; (refine eqB_K (by kba_ints) (by kba_ints) ?_))
  k_with "compareOp NotEq bytes bytes" => (k_here; (refine neB_K (by kba_ints) (by kba_ints) ?_))
  k_with "compareOp In bytes ref" => (k_here; k_dflt (first | (refine' in_tupB (kss := ownL) (tupK ?qX ?qF ?qh) ?qhb ?qhit ?qhk ?_; (case qX => assumption); (case qF => assumption); (case qh => k_is); (case qhb => exact rfl); (case qhit => exact rfl); (case qhk => kba_ints)) | (refine' in_tupB (kss := allowedL) (tupK ?qX ?qF ?qh) ?qhb ?qhit ?qhk ?_; (case qX => assumption); (case qF => assumption); (case qh => k_is); (case qhb => exact rfl); (case qhit => exact rfl); (case qhk => kba_ints))))
  k_with "compareOp NotIn bytes ref" => (k_here; k_dflt (refine' notIn_tupB (kss := allowedL) (tupK ?qX ?qF ?qh) ?qhb ?qhit ?qhk ?_; (case qX => assumption); (case qF => assumption); (case qh => k_is); (case qhb => exact rfl); (case qhit => exact rfl); (case qhk => kba_ints)))
  k_with "subscriptTail" => (k_here; (with_reducible show wpAny _ _ (subscriptTail _ _ (Value.bytes _ _) (Value.int _ _)) _ _ _); (first | refine item0_A (by kba_ints) (by omega) (by omega) ?_ | refine itemL_A (by kba_ints) (by omega) (by omega) ?_); intro _ _ _ _ _ _; (try dsimp only))
  k_with "exec For" => (k_here; (with_unfolding_all refine' For_mine ?qF ?qhE ?qhx ?qhp ?qhs ?_; (case qF => assumption); (case qhE => assumption); (case qhx => exact rfl); (case qhp => exact rfl); (case qhs => exact fun _ => rfl); k_whole))
  k_with "exec For Name Name cons nil" => (k_here; (with_unfolding_all refine' For_mine ?qF ?qhE ?qhx ?qhp ?qhs ?_; (case qF => assumption); (case qhE => assumption); (case qhx => exact rfl); (case qhp => exact rfl); (case qhs => exact fun _ => rfl); k_whole))
  k_with "subscriptTail" => (k_here; (with_reducible show wpAny _ _ (subscriptTail _ _ (Value.ref _) (Value.int _ _)) _ _ _); (first | (refine pair0_A (by k_asm) (by assumption) ?_) | (refine pair1_A (by k_asm) (by assumption) ?_)))
  obtain ⟨oh, og, hsrc, hoh, hog⟩ := hsrc
  have X := G.X
  have T := G.T
  refine wpAny_call ?_
  k_dflt (refine' enterG (binds := [(Str.ofString "headers", src), (Str.ofString "hdr_validation_flags", fl)]) X T.nolimit ?ho ?hcd ?hroom ?hbind ?hloc ?_ ?c5 ?c6 ?c7 ?c8; (case ho => k_is); (case hcd => k_is); (case hroom => show dp < recursionLimit; omega); (case hbind => exact rfl); (case hloc => exact locs rfl); (case c5 => decide); (case c6 => exact rfl); (case c7 => exact rfl); (case c8 => exact rfl); k_whole; intro L' h' tk n q t t' hL F')
  have hlow : b0.objs.size ≤ L' := hL ▸ hb0
  have hkl : ∀ p ∈ kp, p.1 < L' := fun p hp => hL ▸ Heap.lt_size (hkp p hp)
  have hLs : s.heap.get? L' = none := by
    cases e : s.heap.get? L' with
    | none => rfl
    | some o => exact absurd (Heap.lt_size e) (by rw [hL]; exact Nat.lt_irrefl _)
  have hLo : ¬ oh L' := fun q => by obtain ⟨o, ho⟩ := (hoh _ q).2; rw [hLs] at ho; cases ho
  have hfpl : ∀ b, b = L' → b0.get? b = none ∧ ∀ p ∈ kp, p.1 ≠ b := by
    intro b hb
    rw [hb]
    refine ⟨?_, ?_⟩
    · cases e : b0.get? L' with
      | none => rfl
      | some o => rw [G.S _ o e] at hLs; cases hLs
    · intro p hp e
      have := hkp p hp
      rw [e, hLs] at this; cases this
  refine ret _ _ _ _ (fun b o e => Heap.get?_push_of_some _ (F'.keep b o e)) rfl (gen_new hx0 hz F' hLs hoh hog ?_)
  clear ret
  refine stage_new (L := L') (pre := [_]) (B := [_]) (post := []) (ItemP := Item kp) (ohk := fun b => oh b ∨ b = L') rfl ?hk ?hf ?hoL ?hns ?hfold ?start
  case hk => exact fun e => nomatch e
  case hf => exact rfl
  case hoL => exact .inr rfl
  case hns => exact ⟨_, (F'.push _).ns⟩
  case hfold => exact fun _ => rfl
  intro s₁ A' outer' E' ag cx hout'
  have hns : s₁.heap.Ns L' _ := (F'.push _).ns.at' fun o e => ag.heap L' o (.inr rfl) e
  have Fb : Fr b0 L' s₁.heap _ := ⟨hns, cx.G.S, hlow⟩
  have Xb := cx.G.X0
  have Tb := cx.G.T0
  have N := news_ledger (b0 := b0) (h := s₁.heap) (fp := fun b => b = L') (L := L') rfl
  clear X T hns
  obtain ⟨hd', dp', fr', gd', un''⟩ := A'
  have e1 := cx.hd
  have e2 := cx.fr
  dsimp only at e1 e2
  subst e1; subst e2
  generalize ledger b0 (fun b => b = L') s₁.heap = led at N
  k_steps
  refine ready_of (Inv := fun _ h => ∃ m, h.Ns L' m) (fp := fun b => b = L') hsrc (agree_new F'.keep (fun g hg => (hog g hg).2) (fun b h => .inl h) ⟨ag.heap, ag.gens⟩) ⟨rfl, rfl, cx.gs, cx.dp, cx.cu, cx.G, cx.d⟩ ?_ ⟨_, Fb.ns⟩ (fun b hb => ⟨hb ▸ hLo, .inl (.inr hb)⟩) (fun b h => .inl h) ⟨_, _, rfl, fun _ _ _ e => e⟩ hall
  clear cx Fb N led ag
  refine ⟨(fun e => nomatch e), rfl, rfl, rfl, rfl, hfpl, fun x h h' ⟨m, hm⟩ k => ⟨m, hm.at' fun o e => k L' o rfl e⟩, fun x h b ⟨m, hm⟩ hb => ?_, fun x h hm => hm, ?_, ?_⟩
  · obtain ⟨o, _, _, ho, _⟩ := hm
    exact ⟨o, hb ▸ ho⟩
  · intro x v s₁ A' outer Q E ⟨m, hm⟩ ⟨a, nn, vv, tn, tv, c, ev, hlk, hn1, hv1⟩ cx hout hs
    subst ev
    have hct := cont_of hlk
    obtain ⟨b1, x01, x1, hlow1, kb1, _⟩ := base_kp cx.G.S cx.d hlow hkl
    have Fb : Fr b1 L' s₁.heap _ := ⟨hm, x1, hlow1⟩
    have hA : b1.get? a = some (pairO nn vv tn tv c) := kb1 _ (mem_of_lookup hlk)
    clear kb1
    replace Xb := Xb.keeps x01
    replace Tb := Tb.keeps x01
    have N1 := news_ledger (b0 := b1) (h := s₁.heap) (fp := fun b => b = L') (L := L') rfl
    have G1 : Gd w mean mg mb b1 _ s₁.heap := ⟨Xb, Tb, x1, cx.G.F⟩
    generalize hled : ledger b1 (fun b => b = L') s₁.heap = led at N1
    generalize hks : KBw.bInts nn = ks at hn1 hct
    generalize hvs : KBw.bInts vv = vs at hv1 hct
    have cx' := cx
    obtain ⟨hd', dp', fr', gd', un''⟩ := A'
    have e1 := cx.hd
    have e2 := cx.fr
    dsimp only at e1 e2
    subst e1; subst e2
    k_steps
    all_goals (first
      | (have e3 : stTe kp x (.ref a) = some () := by rw [stTe, hct, if_pos (by simp_all [okTe])]
         rw [e3] at hs
         exact hs _ (end_ok x1 (by assumption) (by assumption) (by rw [hled]; exact fun p hp => by first | exact hp | exact List.mem_cons_of_mem _ hp | exact List.mem_append_left _ hp | exact List.mem_cons_of_mem _ (List.mem_cons_of_mem _ hp) | simp [hp])) ⟨_, Fr.ns (by assumption)⟩ fun py Q' E' hq => ld (by assumption) rfl hq)
      | (have e3 : stTe kp x (.ref a) = none := by rw [stTe, hct, if_neg (by simp_all [okTe])]
         rw [e3] at hs
         exact hs _ _ (end_raise (fun e => nomatch e) rfl G1 hout (by assumption) (by assumption) (by rw [hled]; exact fun p hp => by first | exact hp | exact List.mem_cons_of_mem _ hp | exact List.mem_append_left _ hp | exact List.mem_cons_of_mem _ (List.mem_cons_of_mem _ hp) | simp [hp]) (by assumption))))
  · intro x s₁ A' outer Q E ⟨m, hm⟩ cx hout hs
    rw [if_pos rfl] at hs
    exact wpAny_pure (hs _ ⟨s₁.heap, s₁.toks, rfl, fun _ _ _ e => e⟩)
noncomputable def okConn (n x : List Int) : Bool := !ownL.contains n
noncomputable def stConn (kp : List (Addr × Obj)) (_ : Unit) (v : Value) : Option Unit := if okConn (cont kp v).1 (cont kp v).2 then some () else none
theorem Conn_c {w : World} {mean : ExcName → Option Value} {mg mb : Str → Option Value} {b0 : Heap} {outer : List Env} {dp un : Nat} {gd : Option (List Code)} {s s0 : Shared} {Q E : Value → Shared → Prop} {src fl : Value}
    {kp : List (Addr × Obj)} {dn un' : Nat} {strm : Strm}
    (G : Gd w mean mg mb b0 outer s.heap) (hdp : dp + 20 < recursionLimit) (hun : un + 100 < cLine) (hb0 : b0.objs.size ≤ s.heap.objs.size) (hkp : Kept kp s.heap)
    (hx0 : ∀ b o, s0.heap.get? b = some o → ∃ o', s.heap.get? b = some o') (hz : s0.gens.size ≤ s.gens.size)
    (hsrc : SrcAt w mean mg mb b0 kp dn un' strm src s0 s) (hall : strmAll (Item kp) strm)
    (ret : ∀ a h' tk gs, Ext s.heap h' → gs.bare = true → GenAt w mean mg mb b0 kp (dn + 1) (un' + 4) (outS (stConn kp) (fun _ => true) () strm) a s0 { s with heap := h', gens := s.gens.push gs, toks := tk } → Q (.ref a) { s with heap := h', gens := s.gens.push gs, toks := tk }) :
    wpAny (model Pg w) (AZ dp un gd outer) (call (.ref 220) [src, fl]) Q E s := by
  k_with_none
  k_with "And" => (k_here; (with_reducible show PySem.Str.length (_ ++ _) ≤ sizeLine ∧ wpAny _ _ (joinParts _ _) _ _ _); refine' ⟨?qhA, ?_⟩; (case qhA => ((repeat' (with_reducible refine len_half ?_ ?_)) <;> first | exact Nat.le_trans (by with_reducible assumption) (Nat.le_of_ble_eq_true (by kernel_rfl)) | ((with_reducible first | show PySem.Str.length (PySem.Str.ofString _) ≤ _ | show PySem.Str.length PySem.Str.empty ≤ _ | show PySem.Str.length (PySem.Str.mk _) ≤ _); exact Nat.le_of_ble_eq_true (by kernel_rfl)))))
  k_with "joinParts" => (k_here; (first | (with_reducible show wpAny _ _ (joinParts _ []) _ _ _) | (with_reducible show wpAny _ _ (joinParts _ (evalEach [] _)) _ _ _)); k_dflt (refine' joinParts_nil ?_ ?qhA; (case qhA => ((repeat' (with_reducible refine len_half ?_ ?_)) <;> first | exact Nat.le_trans (by with_reducible assumption) (Nat.le_of_ble_eq_true (by kernel_rfl)) | ((with_reducible first | show PySem.Str.length (PySem.Str.ofString _) ≤ _ | show PySem.Str.length PySem.Str.empty ≤ _ | show PySem.Str.length (PySem.Str.mk _) ≤ _); exact Nat.le_of_ble_eq_true (by kernel_rfl))))))
  k_with "getMethod bytes" => (k_here; (with_reducible first | refine gm_lower ?_ | refine gm_strip ?_ | refine gm_find ?_))
  k_with "pyReprObj" => (k_here; (refine repr_K (by kba_ints) (by kba_size) ?_); intro _ _ _ _; (try dsimp only))
  k_with "call builtin:bytes.lower" => (k_here; (refine lower_K (by kba_ints) (by kba_size) ?_); intro _ _ _ _; (try dsimp only))
  k_with "call builtin:bytes.find" => (k_here; (refine find_K (by kba_ints) (by first | assumption | rfl | decide +kernel) ?_); intro _ _ _ _; (try dsimp only))
  k_with "compareOp Eq" => (k_here; (with_reducible show wpAny _ _ (compareOp CmpOp.Eq (Value.bytes _ _) (Value.bytes _ _)) _ _ _); (refine eqB_K (by kba_ints) (by kba_ints) ?_))
  k_with "compareOp NotEq" => (k_here; (with_reducible show wpAny _ _ (compareOp CmpOp.NotEq (Value.bytes _ _) (Value.bytes _ _)) _ _ _); (refine neB_K (by kba_ints) (by kba_ints) ?_))
  k_with "compareOp Eq bytes bytes" => (k_here; (refine eqB_K (by kba_ints) (by kba_ints) ?_))
  k_with "compareOp NotEq bytes bytes" => (k_here; (refine neB_K (by kba_ints) (by kba_ints) ?_))
  k_with "compareOp In bytes ref" => (k_here; k_dflt (first | (refine' in_tupB (kss := ownL) (tupK ?qX ?qF ?qh) ?qhb ?qhit ?qhk ?_; (case qX => assumption); (case qF => assumption); (case qh => k_is); (case qhb => exact rfl); (case qhit => exact rfl); (case qhk => kba_ints)) | (refine' in_tupB (kss := allowedL) (tupK ?qX ?qF ?qh) ?qhb ?qhit ?qhk ?_; (case qX => assumption); (case qF => assumption); (case qh => k_is); (case qhb => exact rfl); (case qhit => exact rfl); (case qhk => kba_ints))))
  k_with "compareOp NotIn bytes ref" => (k_here; k_dflt (refine' notIn_tupB (kss := allowedL) (tupK ?qX ?qF ?qh) ?qhb ?qhit ?qhk ?_; (case qX => assumption); (case qF => assumption); (case qh => k_is); (case qhb => exact rfl); (case qhit => exact rfl); (case qhk => kba_ints)))
  k_with "subscriptTail" => (k_here; (with_reducible show wpAny _ _ (subscriptTail _ _ (Value.bytes _ _) (Value.int _ _)) _ _ _); (first | refine item0_A (by kba_ints) (by omega) (by omega) ?_ | refine itemL_A (by kba_ints) (by omega) (by omega) ?_); intro _ _ _ _ _ _; (try dsimp only))
  k_with "exec For" => (k_here; (with_unfolding_all refine' For_mine ?qF ?qhE ?qhx ?qhp ?qhs ?_; (case qF => assumption); (case qhE => assumption); (case qhx => exact rfl); (case qhp => exact rfl); (case qhs => exact fun _ => rfl); k_whole))
  k_with "exec For Name Name cons nil" => (k_here; (with_unfolding_all refine' For_mine ?qF ?qhE ?qhx ?qhp ?qhs ?_; (case qF => assumption); (case qhE => assumption); (case qhx => exact rfl); (case qhp => exact rfl); (case qhs => exact fun _ => rfl); k_whole))
  k_with "subscriptTail" => (k_here; (with_reducible show wpAny _ _ (subscriptTail _ _ (Value.ref _) (Value.int _ _)) _ _ _); (first | (refine pair0_A (by k_asm) (by assumption) ?_) | (refine pair1_A (by k_asm) (by assumption) ?_)))
  obtain ⟨oh, og, hsrc, hoh, hog⟩ := hsrc
  have X := G.X
  have T := G.T
  refine wpAny_call ?_
  k_dflt (refine' enterG (binds := [(Str.ofString "headers", src), (Str.ofString "hdr_validation_flags", fl)]) X T.nolimit ?ho ?hcd ?hroom ?hbind ?hloc ?_ ?c5 ?c6 ?c7 ?c8; (case ho => k_is); (case hcd => k_is); (case hroom => show dp < recursionLimit; omega); (case hbind => exact rfl); (case hloc => exact locs rfl); (case c5 => decide); (case c6 => exact rfl); (case c7 => exact rfl); (case c8 => exact rfl); k_whole; intro L' h' tk n q t t' hL F')
  have hlow : b0.objs.size ≤ L' := hL ▸ hb0
  have hkl : ∀ p ∈ kp, p.1 < L' := fun p hp => hL ▸ Heap.lt_size (hkp p hp)
  have hLs : s.heap.get? L' = none := by
    cases e : s.heap.get? L' with
    | none => rfl
    | some o => exact absurd (Heap.lt_size e) (by rw [hL]; exact Nat.lt_irrefl _)
  have hLo : ¬ oh L' := fun q => by obtain ⟨o, ho⟩ := (hoh _ q).2; rw [hLs] at ho; cases ho
  have hfpl : ∀ b, b = L' → b0.get? b = none ∧ ∀ p ∈ kp, p.1 ≠ b := by
    intro b hb
    rw [hb]
    refine ⟨?_, ?_⟩
    · cases e : b0.get? L' with
      | none => rfl
      | some o => rw [G.S _ o e] at hLs; cases hLs
    · intro p hp e
      have := hkp p hp
      rw [e, hLs] at this; cases this
  refine ret _ _ _ _ (fun b o e => Heap.get?_push_of_some _ (F'.keep b o e)) rfl (gen_new hx0 hz F' hLs hoh hog ?_)
  clear ret
  refine stage_new (L := L') (pre := [_]) (B := [_]) (post := []) (ItemP := Item kp) (ohk := fun b => oh b ∨ b = L') rfl ?hk ?hf ?hoL ?hns ?hfold ?start
  case hk => exact fun e => nomatch e
  case hf => exact rfl
  case hoL => exact .inr rfl
  case hns => exact ⟨_, (F'.push _).ns⟩
  case hfold => exact fun _ => rfl
  intro s₁ A' outer' E' ag cx hout'
  have hns : s₁.heap.Ns L' _ := (F'.push _).ns.at' fun o e => ag.heap L' o (.inr rfl) e
  have Fb : Fr b0 L' s₁.heap _ := ⟨hns, cx.G.S, hlow⟩
  have Xb := cx.G.X0
  have Tb := cx.G.T0
  have N := news_ledger (b0 := b0) (h := s₁.heap) (fp := fun b => b = L') (L := L') rfl
  clear X T hns
  obtain ⟨hd', dp', fr', gd', un''⟩ := A'
  have e1 := cx.hd
  have e2 := cx.fr
  dsimp only at e1 e2
  subst e1; subst e2
  generalize ledger b0 (fun b => b = L') s₁.heap = led at N
  k_steps
  refine ready_of (Inv := fun _ h => ∃ m, h.Ns L' m) (fp := fun b => b = L') hsrc (agree_new F'.keep (fun g hg => (hog g hg).2) (fun b h => .inl h) ⟨ag.heap, ag.gens⟩) ⟨rfl, rfl, cx.gs, cx.dp, cx.cu, cx.G, cx.d⟩ ?_ ⟨_, Fb.ns⟩ (fun b hb => ⟨hb ▸ hLo, .inl (.inr hb)⟩) (fun b h => .inl h) ⟨_, _, rfl, fun _ _ _ e => e⟩ hall
  clear cx Fb N led ag
  refine ⟨(fun e => nomatch e), rfl, rfl, rfl, rfl, hfpl, fun x h h' ⟨m, hm⟩ k => ⟨m, hm.at' fun o e => k L' o rfl e⟩, fun x h b ⟨m, hm⟩ hb => ?_, fun x h hm => hm, ?_, ?_⟩
  · obtain ⟨o, _, _, ho, _⟩ := hm
    exact ⟨o, hb ▸ ho⟩
  · intro x v s₁ A' outer Q E ⟨m, hm⟩ ⟨a, nn, vv, tn, tv, c, ev, hlk, hn1, hv1⟩ cx hout hs
    subst ev
    have hct := cont_of hlk
    obtain ⟨b1, x01, x1, hlow1, kb1, _⟩ := base_kp cx.G.S cx.d hlow hkl
    have Fb : Fr b1 L' s₁.heap _ := ⟨hm, x1, hlow1⟩
    have hA : b1.get? a = some (pairO nn vv tn tv c) := kb1 _ (mem_of_lookup hlk)
    clear kb1
    replace Xb := Xb.keeps x01
    replace Tb := Tb.keeps x01
    have N1 := news_ledger (b0 := b1) (h := s₁.heap) (fp := fun b => b = L') (L := L') rfl
    have G1 : Gd w mean mg mb b1 _ s₁.heap := ⟨Xb, Tb, x1, cx.G.F⟩
    generalize hled : ledger b1 (fun b => b = L') s₁.heap = led at N1
    generalize hks : KBw.bInts nn = ks at hn1 hct
    generalize hvs : KBw.bInts vv = vs at hv1 hct
    have cx' := cx
    obtain ⟨hd', dp', fr', gd', un''⟩ := A'
    have e1 := cx.hd
    have e2 := cx.fr
    dsimp only at e1 e2
    subst e1; subst e2
    k_steps
    all_goals (first
      | (have e3 : stConn kp x (.ref a) = some () := by rw [stConn, hct, if_pos (by simp_all [okConn])]
         rw [e3] at hs
         exact hs _ (end_ok x1 (by assumption) (by assumption) (by rw [hled]; exact fun p hp => by first | exact hp | exact List.mem_cons_of_mem _ hp | exact List.mem_append_left _ hp | exact List.mem_cons_of_mem _ (List.mem_cons_of_mem _ hp) | simp [hp])) ⟨_, Fr.ns (by assumption)⟩ fun py Q' E' hq => ld (by assumption) rfl hq)
      | (have e3 : stConn kp x (.ref a) = none := by rw [stConn, hct, if_neg (by simp_all [okConn])]
         rw [e3] at hs
         exact hs _ _ (end_raise (fun e => nomatch e) rfl G1 hout (by assumption) (by assumption) (by rw [hled]; exact fun p hp => by first | exact hp | exact List.mem_cons_of_mem _ hp | exact List.mem_append_left _ hp | exact List.mem_cons_of_mem _ (List.mem_cons_of_mem _ hp) | simp [hp]) (by assumption))))
  · intro x s₁ A' outer Q E ⟨m, hm⟩ cx hout hs
    rw [if_pos rfl] at hs
    exact wpAny_pure (hs _ ⟨s₁.heap, s₁.toks, rfl, fun _ _ _ e => e⟩)

end
section
open PySem PySem.W PyProof.Rows PySem.Calls PySem.W.X
set_option Elab.async false
set_option maxRecDepth 100000
set_option maxHeartbeats 8000000
set_option linter.unusedVariables false
set_option pp.deepTerms false
set_option pp.maxSteps 6000
noncomputable def okN (k : Int) : Bool := !(decide (65 ≤ k) && decide (k ≤ 90)) && !(decide (k ≤ 32) || decide (127 ≤ k))
noncomputable def okV (k : Int) : Bool := !(decide (k = 0) || decide (k = 10) || decide (k = 13))
noncomputable def okE (x : List Int) : Bool := !(decide (x.getD 0 0 = 32) || decide (x.getD 0 0 = 9) || decide (x.getD (x.length - 1) 0 = 32) || decide (x.getD (x.length - 1) 0 = 9))
noncomputable def okIll (n x : List Int) : Bool := n.all okN && !decide ((58 : Int) ∈ n.drop 1) && (decide (x.length = 0) || (x.all okV && okE x))
theorem ill1 {n x : List Int} (h : okIll n x = true) : ∀ k ∈ n, okN k = true := by
  simp only [okIll, Bool.and_eq_true, List.all_eq_true] at h; exact h.1.1
theorem ill2 {n x : List Int} (h : okIll n x = true) : ¬ (58 : Int) ∈ n.drop 1 := by
  simp only [okIll, Bool.and_eq_true, Bool.not_eq_true', decide_eq_false_iff_not] at h; exact h.1.2
theorem ill3 {n x : List Int} (h : okIll n x = true) (hx : 0 < x.length) : (∀ k ∈ x, okV k = true) ∧ okE x = true := by
  simp only [okIll, Bool.and_eq_true, Bool.or_eq_true, decide_eq_true_eq, List.all_eq_true] at h
  rcases h.2 with h | h
  · omega
  · exact h
theorem ill_of {n x : List Int} (h1 : ∀ k ∈ n, okN k = true) (h2 : ¬ (58 : Int) ∈ n.drop 1) (h3 : x.length = 0 ∨ ((∀ k ∈ x, okV k = true) ∧ okE x = true)) : okIll n x = true := by
  simp only [okIll, Bool.and_eq_true, Bool.or_eq_true, decide_eq_true_eq, List.all_eq_true, Bool.not_eq_true', decide_eq_false_iff_not]
  exact ⟨⟨h1, h2⟩, h3⟩
theorem okN_iff {k : Int} : okN k = true ↔ ¬ (65 ≤ k ∧ k ≤ 90) ∧ 32 < k ∧ k < 127 := by
  simp only [okN, Bool.and_eq_true, Bool.not_eq_true', Bool.or_eq_false_iff, Bool.and_eq_false_imp, decide_eq_false_iff_not, decide_eq_true_eq]
  omega
theorem okV_iff {k : Int} : okV k = true ↔ k ≠ 0 ∧ k ≠ 10 ∧ k ≠ 13 := by
  simp only [okV, Bool.not_eq_true', Bool.or_eq_false_iff, decide_eq_false_iff_not]
  omega
theorem okE_iff {x : List Int} : okE x = true ↔ x.getD 0 0 ≠ 32 ∧ x.getD 0 0 ≠ 9 ∧ x.getD (x.length - 1) 0 ≠ 32 ∧ x.getD (x.length - 1) 0 ≠ 9 := by
  simp only [okE, Bool.not_eq_true', Bool.or_eq_false_iff, decide_eq_false_iff_not]
  exact ⟨fun ⟨⟨⟨a, b⟩, c⟩, d⟩ => ⟨a, b, c, d⟩, fun ⟨a, b, c, d⟩ => ⟨⟨⟨a, b⟩, c⟩, d⟩⟩
noncomputable def stIll (kp : List (Addr × Obj)) (_ : Unit) (v : Value) : Option Unit := if okIll (cont kp v).1 (cont kp v).2 then some () else none
theorem Ill_c {w : World} {mean : ExcName → Option Value} {mg mb : Str → Option Value} {b0 : Heap} {outer : List Env} {dp un : Nat} {gd : Option (List Code)} {s s0 : Shared} {Q E : Value → Shared → Prop} {src fl : Value}
    {kp : List (Addr × Obj)} {dn un' : Nat} {strm : Strm}
    (G : Gd w mean mg mb b0 outer s.heap) (hdp : dp + 20 < recursionLimit) (hun : un + 100 < cLine) (hb0 : b0.objs.size ≤ s.heap.objs.size) (hkp : Kept kp s.heap)
    (hx0 : ∀ b o, s0.heap.get? b = some o → ∃ o', s.heap.get? b = some o') (hz : s0.gens.size ≤ s.gens.size)
    (hsrc : SrcAt w mean mg mb b0 kp dn un' strm src s0 s) (hall : strmAll (Item kp) strm)
    (ret : ∀ a h' tk gs, Ext s.heap h' → gs.bare = true → GenAt w mean mg mb b0 kp (dn + 1) (un' + 4) (outS (stIll kp) (fun _ => true) () strm) a s0 { s with heap := h', gens := s.gens.push gs, toks := tk } → Q (.ref a) { s with heap := h', gens := s.gens.push gs, toks := tk }) :
    wpAny (model Pg w) (AZ dp un gd outer) (call (.ref 199) [src, fl]) Q E s := by
  k_with_none
  k_with "And" => (k_here; (with_reducible show PySem.Str.length (_ ++ _) ≤ sizeLine ∧ wpAny _ _ (joinParts _ _) _ _ _); refine' ⟨?qhA, ?_⟩; (case qhA => ((repeat' (with_reducible refine len_half ?_ ?_)) <;> first | exact Nat.le_trans (by with_reducible assumption) (Nat.le_of_ble_eq_true (by kernel_rfl)) | ((with_reducible first | show PySem.Str.length (PySem.Str.ofString _) ≤ _ | show PySem.Str.length PySem.Str.empty ≤ _ | show PySem.Str.length (PySem.Str.mk _) ≤ _); exact Nat.le_of_ble_eq_true (by kernel_rfl)))))
  k_with "joinParts" => (k_here; (first | (with_reducible show wpAny _ _ (joinParts _ []) _ _ _) | (with_reducible show wpAny _ _ (joinParts _ (evalEach [] _)) _ _ _)); k_dflt (refine' joinParts_nil ?_ ?qhA; (case qhA => ((repeat' (with_reducible refine len_half ?_ ?_)) <;> first | exact Nat.le_trans (by with_reducible assumption) (Nat.le_of_ble_eq_true (by kernel_rfl)) | ((with_reducible first | show PySem.Str.length (PySem.Str.ofString _) ≤ _ | show PySem.Str.length PySem.Str.empty ≤ _ | show PySem.Str.length (PySem.Str.mk _) ≤ _); exact Nat.le_of_ble_eq_true (by kernel_rfl))))))
  k_with "getMethod bytes" => (k_here; (with_reducible first | refine gm_lower ?_ | refine gm_strip ?_ | refine gm_find ?_))
  k_with "pyReprObj" => (k_here; (refine repr_K (by kba_ints) (by kba_size) ?_); intro _ _ _ _; (try dsimp only))
  k_with "call builtin:bytes.lower" => (k_here; (refine lower_K (by kba_ints) (by kba_size) ?_); intro _ _ _ _; (try dsimp only))
  k_with "call builtin:bytes.find" => (k_here; (refine find_K (by kba_ints) (by first | assumption | rfl | decide +kernel) ?_); intro _ _ _ _; (try dsimp only))
  k_with "compareOp Eq" => (k_here; (with_reducible show wpAny _ _ (compareOp CmpOp.Eq (Value.bytes _ _) (Value.bytes _ _)) _ _ _); (refine eqB_K (by kba_ints) (by kba_ints) ?_))
  k_with "compareOp NotEq" => (k_here; (with_reducible show wpAny _ _ (compareOp CmpOp.NotEq (Value.bytes _ _) (Value.bytes _ _)) _ _ _); (refine neB_K (by kba_ints) (by kba_ints) ?_))
  k_with "compareOp Eq bytes bytes" => (k_here; (refine eqB_K (by kba_ints) (by kba_ints) ?_))
  k_with "compareOp NotEq bytes bytes" => (k_here; (refine neB_K (by kba_ints) (by kba_ints) ?_))
  k_with "compareOp In bytes ref" => (k_here; k_dflt (first | (refine' in_tupB (kss := ownL) (tupK ?qX ?qF ?qh) ?qhb ?qhit ?qhk ?_; (case qX => assumption); (case qF => assumption); (case qh => k_is); (case qhb => exact rfl); (case qhit => exact rfl); (case qhk => kba_ints)) | (refine' in_tupB (kss := allowedL) (tupK ?qX ?qF ?qh) ?qhb ?qhit ?qhk ?_; (case qX => assumption); (case qF => assumption); (case qh => k_is); (case qhb => exact rfl); (case qhit => exact rfl); (case qhk => kba_ints))))
  k_with "compareOp NotIn bytes ref" => (k_here; k_dflt (refine' notIn_tupB (kss := allowedL) (tupK ?qX ?qF ?qh) ?qhb ?qhit ?qhk ?_; (case qX => assumption); (case qF => assumption); (case qh => k_is); (case qhb => exact rfl); (case qhit => exact rfl); (case qhk => kba_ints)))
  k_with "subscriptTail" => (k_here; (with_reducible show wpAny _ _ (subscriptTail _ _ (Value.bytes _ _) (Value.int _ _)) _ _ _); (first | refine item0_A (by kba_ints) (by omega) (by omega) ?_ | refine itemL_A (by kba_ints) (by omega) (by omega) ?_); intro _ _ _ _ _ _; (try dsimp only))
  k_with "exec For" => (k_here; (with_unfolding_all refine' For_mine ?qF ?qhE ?qhx ?qhp ?qhs ?_; (case qF => assumption); (case qhE => assumption); (case qhx => exact rfl); (case qhp => exact rfl); (case qhs => exact fun _ => rfl); k_whole))
  k_with "exec For Name Name cons nil" => (k_here; (with_unfolding_all refine' For_mine ?qF ?qhE ?qhx ?qhp ?qhs ?_; (case qF => assumption); (case qhE => assumption); (case qhx => exact rfl); (case qhp => exact rfl); (case qhs => exact fun _ => rfl); k_whole))
  k_with "subscriptTail" => (k_here; (with_reducible show wpAny _ _ (subscriptTail _ _ (Value.ref _) (Value.int _ _)) _ _ _); (first | (refine pair0_A (by k_asm) (by assumption) ?_) | (refine pair1_A (by k_asm) (by assumption) ?_)))
  obtain ⟨oh, og, hsrc, hoh, hog⟩ := hsrc
  have X := G.X
  have T := G.T
  refine wpAny_call ?_
  k_dflt (refine' enterG (binds := [(Str.ofString "headers", src), (Str.ofString "hdr_validation_flags", fl)]) X T.nolimit ?ho ?hcd ?hroom ?hbind ?hloc ?_ ?c5 ?c6 ?c7 ?c8; (case ho => k_is); (case hcd => k_is); (case hroom => show dp < recursionLimit; omega); (case hbind => exact rfl); (case hloc => exact locs rfl); (case c5 => decide); (case c6 => exact rfl); (case c7 => exact rfl); (case c8 => exact rfl); k_whole; intro L' h' tk n q t t' hL F')
  have hlow : b0.objs.size ≤ L' := hL ▸ hb0
  have hkl : ∀ p ∈ kp, p.1 < L' := fun p hp => hL ▸ Heap.lt_size (hkp p hp)
  have hLs : s.heap.get? L' = none := by
    cases e : s.heap.get? L' with
    | none => rfl
    | some o => exact absurd (Heap.lt_size e) (by rw [hL]; exact Nat.lt_irrefl _)
  have hLo : ¬ oh L' := fun q => by obtain ⟨o, ho⟩ := (hoh _ q).2; rw [hLs] at ho; cases ho
  have hfpl : ∀ b, b = L' → b0.get? b = none ∧ ∀ p ∈ kp, p.1 ≠ b := by
    intro b hb
    rw [hb]
    refine ⟨?_, ?_⟩
    · cases e : b0.get? L' with
      | none => rfl
      | some o => rw [G.S _ o e] at hLs; cases hLs
    · intro p hp e
      have := hkp p hp
      rw [e, hLs] at this; cases this
  refine ret _ _ _ _ (fun b o e => Heap.get?_push_of_some _ (F'.keep b o e)) rfl (gen_new hx0 hz F' hLs hoh hog ?_)
  clear ret
  refine stage_new (L := L') (pre := [_]) (B := [_, _, _, _]) (post := []) (ItemP := Item kp) (ohk := fun b => oh b ∨ b = L') rfl ?hk ?hf ?hoL ?hns ?hfold ?start
  case hk => exact fun e => nomatch e
  case hf => exact rfl
  case hoL => exact .inr rfl
  case hns => exact ⟨_, (F'.push _).ns⟩
  case hfold => exact fun _ => rfl
  intro s₁ A' outer' E' ag cx hout'
  have hns : s₁.heap.Ns L' _ := (F'.push _).ns.at' fun o e => ag.heap L' o (.inr rfl) e
  have Fb : Fr b0 L' s₁.heap _ := ⟨hns, cx.G.S, hlow⟩
  have Xb := cx.G.X0
  have Tb := cx.G.T0
  have N := news_ledger (b0 := b0) (h := s₁.heap) (fp := fun b => b = L') (L := L') rfl
  clear X T hns
  obtain ⟨hd', dp', fr', gd', un''⟩ := A'
  have e1 := cx.hd
  have e2 := cx.fr
  dsimp only at e1 e2
  subst e1; subst e2
  generalize ledger b0 (fun b => b = L') s₁.heap = led at N
  k_steps
  refine ready_of (Inv := fun _ h => ∃ m, h.Ns L' m) (fp := fun b => b = L') hsrc (agree_new F'.keep (fun g hg => (hog g hg).2) (fun b h => .inl h) ⟨ag.heap, ag.gens⟩) ⟨rfl, rfl, cx.gs, cx.dp, cx.cu, cx.G, cx.d⟩ ?_ ⟨_, Fb.ns⟩ (fun b hb => ⟨hb ▸ hLo, .inl (.inr hb)⟩) (fun b h => .inl h) ⟨_, _, rfl, fun _ _ _ e => e⟩ hall
  clear cx Fb N led ag
  refine ⟨(fun e => nomatch e), rfl, rfl, rfl, rfl, hfpl, fun x h h' ⟨m, hm⟩ k => ⟨m, hm.at' fun o e => k L' o rfl e⟩, fun x h b ⟨m, hm⟩ hb => ?_, fun x h hm => hm, ?_, ?_⟩
  · obtain ⟨o, _, _, ho, _⟩ := hm
    exact ⟨o, hb ▸ ho⟩
  · intro x v s₁ A' outer Q E ⟨m, hm⟩ ⟨a, nn, vv, tn, tv, c, ev, hlk, hn1, hv1⟩ cx hout hs
    subst ev
    have hct := cont_of hlk
    obtain ⟨b1, x01, x1, hlow1, kb1, _⟩ := base_kp cx.G.S cx.d hlow hkl
    have Fb : Fr b1 L' s₁.heap _ := ⟨hm, x1, hlow1⟩
    have hA : b1.get? a = some (pairO nn vv tn tv c) := kb1 _ (mem_of_lookup hlk)
    clear kb1
    replace Xb := Xb.keeps x01
    replace Tb := Tb.keeps x01
    have N1 := news_ledger (b0 := b1) (h := s₁.heap) (fp := fun b => b = L') (L := L') rfl
    have G1 : Gd w mean mg mb b1 _ s₁.heap := ⟨Xb, Tb, x1, cx.G.F⟩
    generalize hled : ledger b1 (fun b => b = L') s₁.heap = led at N1
    generalize hks : KBw.bInts nn = ks at hn1 hct
    generalize hvs : KBw.bInts vv = vs at hv1 hct
    have cx' := cx
    obtain ⟨hd', dp', fr', gd', un''⟩ := A'
    have e1 := cx.hd
    have e2 := cx.fr
    dsimp only at e1 e2
    subst e1; subst e2
    refine with_epass (P := stIll kp x (.ref a) = none) (fp := fun b => b = L') (s₁ := s₁) (outer := outer) (fun hp s' e st => ?_) (fun EE hPass hEE => ?_) rfl rfl
    · rw [hp] at hs; exact hs _ _ st
    have khs : KeepP _ := hs
    have khE : KeepP _ := hEE
    have kcx : KeepP _ := cx'
    have khout : KeepP _ := hout
    have khct : KeepP _ := hct
    have khled : KeepP _ := hled
    clear hs hEE hout hct hled cx' cx hlk hsrc hall hog hoh hx0 hz hkp hb0 hun hdp G hfpl hLo hLs F' hL hkl
    k_steps
    refine iter_check okN hks rfl (by k_asm) (by k_asm) ?_ ?_
    · intro QQ k t h tk own hkm hk1 hk2 hoff F1 N1 hQQ
      k_steps
      all_goals (unfold KeepP at *)
      all_goals first
        | (refine khE (show stIll kp x (.ref a) = none by rw [stIll, khct, if_neg (show ¬ okIll ks vs = true from fun q => by have z := okN_iff.mp (ill1 q k hkm); omega)]) _ _ (end_raise (fun e => nomatch e) rfl G1 khout (by k_asm) (by k_asm) (by rw [khled]; exact fun p hp => by repeat (first | exact hp | exact List.mem_append_left _ hp | refine List.Mem.tail _ ?_)) (by k_asm)))
        | exact hQQ _ _ _ (by k_asm) (fun z hz => if_neg hz) (by k_asm) (okN_iff.mpr (by omega))
    · intro hall1 u h tk F1 N1
      have kall1 : KeepP (∀ k ∈ ks, okN k = true) := hall1
      clear hall1
      k_steps
      · unfold KeepP at *
        (refine khE (show stIll kp x (.ref a) = none by rw [stIll, khct, if_neg (show ¬ okIll ks vs = true from fun q => by have z := (‹(_ : Int) = -1 ↔ ¬ (58 : Int) ∈ List.drop 1 ks›).mpr (ill2 q); omega)]) _ _ (end_raise (fun e => nomatch e) rfl G1 khout (by k_asm) (by k_asm) (by rw [khled]; exact fun p hp => by repeat (first | exact hp | exact List.mem_append_left _ hp | refine List.Mem.tail _ ?_)) (by k_asm)))
      · rename_i F2 N2 hpos
        clear F1 N1
        refine iter_check okV hvs rfl F2 N2 ?turn ?done
        case turn =>
          intro QQ k t h tk own hkm hk1 hk2 hoff F3 N3 hQQ
          clear F2 N2
          k_steps
          all_goals (unfold KeepP at *)
          all_goals first
            | (refine khE (show stIll kp x (.ref a) = none by rw [stIll, khct, if_neg (show ¬ okIll ks vs = true from fun q => by have z := okV_iff.mp ((ill3 q hpos).1 k hkm); omega)]) _ _ (end_raise (fun e => nomatch e) rfl G1 khout (by k_asm) (by k_asm) (by rw [khled]; exact fun p hp => by repeat (first | exact hp | exact List.mem_append_left _ hp | refine List.Mem.tail _ ?_)) (by k_asm)))
            | exact hQQ _ _ _ (by k_asm) (fun z hz => if_neg hz) (by k_asm) (okV_iff.mpr (by omega))
        case done =>
          intro hall2 u2 h2 tk2 F3 N3
          have kall2 : KeepP (∀ k ∈ vs, okV k = true) := hall2
          clear hall2 F2 N2
          k_steps
          all_goals (unfold KeepP at *)
          all_goals first
            | (refine khE (show stIll kp x (.ref a) = none by rw [stIll, khct, if_neg (show ¬ okIll ks vs = true from fun q => by have z := okE_iff.mp (ill3 q hpos).2; omega)]) _ _ (end_raise (fun e => nomatch e) rfl G1 khout (by k_asm) (by k_asm) (by rw [khled]; exact fun p hp => by repeat (first | exact hp | exact List.mem_append_left _ hp | refine List.Mem.tail _ ?_)) (by k_asm)))
            | (have e3 : stIll kp x (.ref a) = some () := (by rw [stIll, khct, if_pos (show okIll ks vs = true from ill_of kall1 ((‹(_ : Int) = -1 ↔ ¬ (58 : Int) ∈ List.drop 1 ks›).mp (by first | assumption | omega)) (.inr ⟨kall2, okE_iff.mpr (by omega)⟩))]); rw [e3] at khs; exact khs _ (end_ok x1 (by k_asm) (by k_asm) (by rw [khled]; exact fun p hp => by repeat (first | exact hp | exact List.mem_append_left _ hp | refine List.Mem.tail _ ?_))) ⟨_, Fr.ns (by k_asm)⟩ fun py Q' E' hq => ld (by k_asm) rfl hq)
      · unfold KeepP at *
        (have e3 : stIll kp x (.ref a) = some () := (by rw [stIll, khct, if_pos (show okIll ks vs = true from ill_of kall1 ((‹(_ : Int) = -1 ↔ ¬ (58 : Int) ∈ List.drop 1 ks›).mp (by first | assumption | omega)) (.inl (by omega)))]); rw [e3] at khs; exact khs _ (end_ok x1 (by k_asm) (by k_asm) (by rw [khled]; exact fun p hp => by repeat (first | exact hp | exact List.mem_append_left _ hp | refine List.Mem.tail _ ?_))) ⟨_, Fr.ns (by k_asm)⟩ fun py Q' E' hq => ld (by k_asm) rfl hq)
  · intro x s₁ A' outer Q E ⟨m, hm⟩ cx hout hs
    rw [if_pos rfl] at hs
    exact wpAny_pure (hs _ ⟨s₁.heap, s₁.toks, rfl, fun _ _ _ e => e⟩)

end
section
open PySem PySem.W PyProof.Rows PySem.Calls PySem.W.X
set_option Elab.async false
set_option maxRecDepth 100000
set_option maxHeartbeats 8000000
set_option linter.unusedVariables false
set_option pp.deepTerms false
set_option pp.maxSteps 6000
noncomputable abbrev HostSt := Option (List Int) × Option (List Int)
noncomputable def stHost (kp : List (Addr × Obj)) (σ : HostSt) (v : Value) : Option HostSt :=
  if (cont kp v).1 = nAuth then some (some (cont kp v).2, σ.2) else if (cont kp v).1 = nHost then (if σ.2 = none then some (σ.1, some (cont kp v).2) else none) else some σ
noncomputable def finHost (σ : HostSt) : Bool := !(decide (σ.1 = none) && decide (σ.2 = none)) && !(!decide (σ.1 = none) && !decide (σ.2 = none) && !decide (σ.1 = σ.2))
noncomputable def InvHost (L : Addr) (σ : HostSt) (h : Heap) : Prop := ∃ m, h.Ns L m ∧ optm m (Str.ofString "authority_header_val") σ.1 ∧ optm m (Str.ofString "host_header_val") σ.2
theorem Host_c {w : World} {mean : ExcName → Option Value} {mg mb : Str → Option Value} {b0 : Heap} {outer : List Env} {dp un : Nat} {gd : Option (List Code)} {s s0 : Shared} {Q E : Value → Shared → Prop} {src : Value}
    {kp : List (Addr × Obj)} {dn un' : Nat} {strm : Strm}
    (G : Gd w mean mg mb b0 outer s.heap) (hdp : dp + 20 < recursionLimit) (hun : un + 100 < cLine) (hb0 : b0.objs.size ≤ s.heap.objs.size) (hkp : Kept kp s.heap)
    (hx0 : ∀ b o, s0.heap.get? b = some o → ∃ o', s.heap.get? b = some o') (hz : s0.gens.size ≤ s.gens.size)
    (hsrc : SrcAt w mean mg mb b0 kp dn un' strm src s0 s) (hall : strmAll (Item kp) strm)
    (ret : ∀ a h' tk gs, Ext s.heap h' → gs.bare = true → GenAt w mean mg mb b0 kp (dn + 1) (un' + 4) (outS (stHost kp) finHost (none, none) strm) a s0 { s with heap := h', gens := s.gens.push gs, toks := tk } → Q (.ref a) { s with heap := h', gens := s.gens.push gs, toks := tk }) :
    wpAny (model Pg w) (AZ dp un gd outer) (call (.ref 246) [src]) Q E s := by
  k_with_none
  k_with "And" => (k_here; (with_reducible show PySem.Str.length (_ ++ _) ≤ sizeLine ∧ wpAny _ _ (joinParts _ _) _ _ _); refine' ⟨?qhA, ?_⟩; (case qhA => ((repeat' (with_reducible refine len_half ?_ ?_)) <;> first | exact Nat.le_trans (by with_reducible assumption) (Nat.le_of_ble_eq_true (by kernel_rfl)) | ((with_reducible first | show PySem.Str.length (PySem.Str.ofString _) ≤ _ | show PySem.Str.length PySem.Str.empty ≤ _ | show PySem.Str.length (PySem.Str.mk _) ≤ _); exact Nat.le_of_ble_eq_true (by kernel_rfl)))))
  k_with "joinParts" => (k_here; (first | (with_reducible show wpAny _ _ (joinParts _ []) _ _ _) | (with_reducible show wpAny _ _ (joinParts _ (evalEach [] _)) _ _ _)); k_dflt (refine' joinParts_nil ?_ ?qhA; (case qhA => ((repeat' (with_reducible refine len_half ?_ ?_)) <;> first | exact Nat.le_trans (by with_reducible assumption) (Nat.le_of_ble_eq_true (by kernel_rfl)) | ((with_reducible first | show PySem.Str.length (PySem.Str.ofString _) ≤ _ | show PySem.Str.length PySem.Str.empty ≤ _ | show PySem.Str.length (PySem.Str.mk _) ≤ _); exact Nat.le_of_ble_eq_true (by kernel_rfl))))))
  k_with "getMethod bytes" => (k_here; (with_reducible first | refine gm_lower ?_ | refine gm_strip ?_ | refine gm_find ?_))
  k_with "pyReprObj" => (k_here; (refine repr_K (by kba_ints) (by kba_size) ?_); intro _ _ _ _; (try dsimp only))
  k_with "call builtin:bytes.lower" => (k_here; (refine lower_K (by kba_ints) (by kba_size) ?_); intro _ _ _ _; (try dsimp only))
  k_with "call builtin:bytes.find" => (k_here; (refine find_K (by kba_ints) (by first | assumption | rfl | decide +kernel) ?_); intro _ _ _ _; (try dsimp only))
  k_with "compareOp Eq" => (k_here; (with_reducible show wpAny _ _ (compareOp CmpOp.Eq (Value.bytes _ _) (Value.bytes _ _)) _ _ _); (refine eqB_K (by kba_ints) (by kba_ints) ?_))
  k_with "compareOp NotEq" => (k_here; (with_reducible show wpAny _ _ (compareOp CmpOp.NotEq (Value.bytes _ _) (Value.bytes _ _)) _ _ _); (refine neB_K (by kba_ints) (by kba_ints) ?_))
  k_with "compareOp Eq bytes bytes" => (k_here; (refine eqB_K (by kba_ints) (by kba_ints) ?_))
  k_with "compareOp NotEq bytes bytes" => (k_here; (refine neB_K (by kba_ints) (by kba_ints) ?_))
  k_with "compareOp In bytes ref" => (k_here; k_dflt (first | (refine' in_tupB (kss := ownL) (tupK ?qX ?qF ?qh) ?qhb ?qhit ?qhk ?_; (case qX => assumption); (case qF => assumption); (case qh => k_is); (case qhb => exact rfl); (case qhit => exact rfl); (case qhk => kba_ints)) | (refine' in_tupB (kss := allowedL) (tupK ?qX ?qF ?qh) ?qhb ?qhit ?qhk ?_; (case qX => assumption); (case qF => assumption); (case qh => k_is); (case qhb => exact rfl); (case qhit => exact rfl); (case qhk => kba_ints))))
  k_with "compareOp NotIn bytes ref" => (k_here; k_dflt (refine' notIn_tupB (kss := allowedL) (tupK ?qX ?qF ?qh) ?qhb ?qhit ?qhk ?_; (case qX => assumption); (case qF => assumption); (case qh => k_is); (case qhb => exact rfl); (case qhit => exact rfl); (case qhk => kba_ints)))
  k_with "subscriptTail" => (k_here; (with_reducible show wpAny _ _ (subscriptTail _ _ (Value.bytes _ _) (Value.int _ _)) _ _ _); (first | refine item0_A (by kba_ints) (by omega) (by omega) ?_ | refine itemL_A (by kba_ints) (by omega) (by omega) ?_); intro _ _ _ _ _ _; (try dsimp only))
  k_with "exec For" => (k_here; (with_unfolding_all refine' For_mine ?qF ?qhE ?qhx ?qhp ?qhs ?_; (case qF => assumption); (case qhE => assumption); (case qhx => exact rfl); (case qhp => exact rfl); (case qhs => exact fun _ => rfl); k_whole))
  k_with "exec For Name Name cons nil" => (k_here; (with_unfolding_all refine' For_mine ?qF ?qhE ?qhx ?qhp ?qhs ?_; (case qF => assumption); (case qhE => assumption); (case qhx => exact rfl); (case qhp => exact rfl); (case qhs => exact fun _ => rfl); k_whole))
  k_with "subscriptTail" => (k_here; (with_reducible show wpAny _ _ (subscriptTail _ _ (Value.ref _) (Value.int _ _)) _ _ _); (first | (refine pair0_A (by k_asm) (by assumption) ?_) | (refine pair1_A (by k_asm) (by assumption) ?_)))
  obtain ⟨oh, og, hsrc, hoh, hog⟩ := hsrc
  have X := G.X
  have T := G.T
  refine wpAny_call ?_
  k_dflt (refine' enterG (binds := [(Str.ofString "headers", src)]) X T.nolimit ?ho ?hcd ?hroom ?hbind ?hloc ?_ ?c5 ?c6 ?c7 ?c8; (case ho => k_is); (case hcd => k_is); (case hroom => show dp < recursionLimit; omega); (case hbind => exact rfl); (case hloc => exact locs rfl); (case c5 => decide); (case c6 => exact rfl); (case c7 => exact rfl); (case c8 => exact rfl); k_whole; intro L' h' tk n q t t' hL F')
  have hlow : b0.objs.size ≤ L' := hL ▸ hb0
  have hkl : ∀ p ∈ kp, p.1 < L' := fun p hp => hL ▸ Heap.lt_size (hkp p hp)
  have hLs : s.heap.get? L' = none := by
    cases e : s.heap.get? L' with
    | none => rfl
    | some o => exact absurd (Heap.lt_size e) (by rw [hL]; exact Nat.lt_irrefl _)
  have hLo : ¬ oh L' := fun q => by obtain ⟨o, ho⟩ := (hoh _ q).2; rw [hLs] at ho; cases ho
  have hfpl : ∀ b, b = L' → b0.get? b = none ∧ ∀ p ∈ kp, p.1 ≠ b := by
    intro b hb
    rw [hb]
    refine ⟨?_, ?_⟩
    · cases e : b0.get? L' with
      | none => rfl
      | some o => rw [G.S _ o e] at hLs; cases hLs
    · intro p hp e
      have := hkp p hp
      rw [e, hLs] at this; cases this
  refine ret _ _ _ _ (fun b o e => Heap.get?_push_of_some _ (F'.keep b o e)) rfl (gen_new hx0 hz F' hLs hoh hog ?_)
  clear ret
  refine stage_new (L := L') (pre := [_, _, _]) (B := [_]) (post := [_, _, _, _]) (ItemP := Item kp) (ohk := fun b => oh b ∨ b = L') rfl ?hk ?hf ?hoL ?hns ?hfold ?start
  case hk => exact fun e => nomatch e
  case hf => exact rfl
  case hoL => exact .inr rfl
  case hns => exact ⟨_, (F'.push _).ns⟩
  case hfold => exact fun _ => rfl
  intro s₁ A' outer' E' ag cx hout'
  have hns : s₁.heap.Ns L' _ := (F'.push _).ns.at' fun o e => ag.heap L' o (.inr rfl) e
  have Fb : Fr b0 L' s₁.heap _ := ⟨hns, cx.G.S, hlow⟩
  have Xb := cx.G.X0
  have Tb := cx.G.T0
  have N := news_ledger (b0 := b0) (h := s₁.heap) (fp := fun b => b = L') (L := L') rfl
  clear X T hns
  obtain ⟨hd', dp', fr', gd', un''⟩ := A'
  have e1 := cx.hd
  have e2 := cx.fr
  dsimp only at e1 e2
  subst e1; subst e2
  generalize hled : ledger b0 (fun b => b = L') s₁.heap = led at N
  have cx' := cx
  have khout : KeepP _ := hout'
  have khled : KeepP _ := hled
  clear hled hout'
  k_steps
  unfold KeepP at khout khled
  rename_i Fe Ne
  have kk := kept_of (fp := fun b => b = L') cx'.G.S Fe Ne (by rw [khled]; exact fun p hp => hp)
  have cx2 := cxb_step (tk := 0) cx' (fun e => nomatch e) rfl kk Fe.ns (fun b hb q => khout b hb (.inr q)) hfpl
  have ag1 := agree_new (oh := oh) (og := og) (ohk := fun b => oh b ∨ b = L') F'.keep (fun g hg => (hog g hg).2) (fun b h => .inl h) ⟨ag.heap, ag.gens⟩
  refine ready_of (Inv := InvHost L') (fp := fun b => b = L') hsrc ⟨fun b o hb e => kk b o (fun q => hLo (q ▸ hb)) (ag1.heap b o hb e), ag1.gens⟩ ⟨rfl, rfl, cx2.gs, cx2.dp, cx2.cu, cx2.G, cx2.d⟩ ?_ ⟨_, Fe.ns, rfl, rfl⟩ (fun b hb => ⟨hb ▸ hLo, .inl (.inr hb)⟩) (fun b h => .inl h) ⟨_, _, rfl, fun b o hb e => kk b o (fun q => hb (.inr q)) e⟩ hall
  clear cx cx' cx2 kk Fe Ne khled led khout ag1 ag
  refine ⟨(fun e => nomatch e), rfl, rfl, rfl, rfl, hfpl, fun x h h' ⟨m, hm, h1, h2⟩ k => ⟨m, hm.at' fun o e => k L' o rfl e, h1, h2⟩, fun x h b ⟨m, hm, _⟩ hb => ?_, fun x h ⟨m, hm, _⟩ => ⟨m, hm⟩, ?_, ?_⟩
  · obtain ⟨o, _, _, ho, _⟩ := hm
    exact ⟨o, hb ▸ ho⟩
  · intro x v s₁ A' outer Q E hinv ⟨a, nn, vv, tn, tv, c, ev, hlk, hn1, hv1⟩ cx hout hs
    obtain ⟨σa, σh⟩ := x
    obtain ⟨m, hm, ha, hh⟩ := hinv
    obtain ⟨va, hva, hva'⟩ : ∃ va, m (Str.ofString "authority_header_val") = some va ∧ (∀ m', m' (Str.ofString "authority_header_val") = some va → optm m' (Str.ofString "authority_header_val") σa) := by
      cases σa with
      | none => exact ⟨_, ha, fun m' h => h⟩
      | some ks => obtain ⟨b, t, h1, h2, h3⟩ := ha; exact ⟨_, h1, fun m' h => ⟨b, t, h, h2, h3⟩⟩
    subst ev
    have hct := cont_of hlk
    obtain ⟨b1, x01, x1, hlow1, kb1, _⟩ := base_kp cx.G.S cx.d hlow hkl
    have hA : b1.get? a = some (pairO nn vv tn tv c) := kb1 _ (mem_of_lookup hlk)
    clear kb1
    replace Xb := Xb.keeps x01
    replace Tb := Tb.keeps x01
    have N1 := news_ledger (b0 := b1) (h := s₁.heap) (fp := fun b => b = L') (L := L') rfl
    have G1 : Gd w mean mg mb b1 _ s₁.heap := ⟨Xb, Tb, x1, cx.G.F⟩
    generalize hled : ledger b1 (fun b => b = L') s₁.heap = led at N1
    generalize hks : KBw.bInts nn = ks at hn1 hct
    generalize hvs : KBw.bInts vv = vs at hv1 hct
    have cx' := cx
    obtain ⟨hd', dp', fr', gd', un''⟩ := A'
    have e1 := cx.hd
    have e2 := cx.fr
    dsimp only at e1 e2
    subst e1; subst e2
    cases σh with
    | none =>
      have Fb : Fr b1 L' s₁.heap _ := ⟨ns_set (x := Str.ofString "host_header_val") (v := Value.none) (ns_set hm hva) ((if_neg (by decide)).trans hh), x1, hlow1⟩
      clear hm
      k_steps
      · (rw [show stHost kp (σa, none) (.ref a) = some (some vs, none) by rw [stHost, hct]; exact if_pos (by assumption)] at hs; exact hs _ (end_ok x1 (by k_asm) (by k_asm) (by rw [hled]; exact fun p hp => by first | exact hp | exact List.mem_cons_of_mem _ hp | exact List.mem_append_left _ hp | exact List.mem_cons_of_mem _ (List.mem_cons_of_mem _ hp) | simp [hp])) ⟨_, Fr.ns (by k_asm), ⟨vv, tv, (by exact rfl), hvs, hv1⟩, (by exact rfl)⟩ fun py Q' E' hq => ld (by k_asm) rfl hq)
      · (rw [show stHost kp (σa, none) (.ref a) = some (σa, some vs) by rw [stHost, hct]; exact (if_neg (by assumption)).trans ((if_pos (by assumption)).trans (if_pos rfl))] at hs; exact hs _ (end_ok x1 (by k_asm) (by k_asm) (by rw [hled]; exact fun p hp => by first | exact hp | exact List.mem_cons_of_mem _ hp | exact List.mem_append_left _ hp | exact List.mem_cons_of_mem _ (List.mem_cons_of_mem _ hp) | simp [hp])) ⟨_, Fr.ns (by k_asm), hva' _ (by exact rfl), ⟨vv, tv, (by exact rfl), hvs, hv1⟩⟩ fun py Q' E' hq => ld (by k_asm) rfl hq)
      · (rw [show stHost kp (σa, none) (.ref a) = some (σa, none) by rw [stHost, hct]; exact (if_neg (by assumption)).trans (if_neg (by assumption))] at hs; exact hs _ (end_ok x1 (by k_asm) (by k_asm) (by rw [hled]; exact fun p hp => by first | exact hp | exact List.mem_cons_of_mem _ hp | exact List.mem_append_left _ hp | exact List.mem_cons_of_mem _ (List.mem_cons_of_mem _ hp) | simp [hp])) ⟨_, Fr.ns (by k_asm), hva' _ (by exact rfl), (by exact rfl)⟩ fun py Q' E' hq => ld (by k_asm) rfl hq)
    | some hs0 =>
      obtain ⟨bh, th, hmh, hbh, hlh⟩ := hh
      have Fb : Fr b1 L' s₁.heap _ := ⟨ns_set (x := Str.ofString "host_header_val") (v := Value.bytes bh th) (ns_set hm hva) ((if_neg (by decide)).trans hmh), x1, hlow1⟩
      clear hm
      k_steps
      · (rw [show stHost kp (σa, some hs0) (.ref a) = some (some vs, some hs0) by rw [stHost, hct]; exact if_pos (by assumption)] at hs; exact hs _ (end_ok x1 (by k_asm) (by k_asm) (by rw [hled]; exact fun p hp => by first | exact hp | exact List.mem_cons_of_mem _ hp | exact List.mem_append_left _ hp | exact List.mem_cons_of_mem _ (List.mem_cons_of_mem _ hp) | simp [hp])) ⟨_, Fr.ns (by k_asm), ⟨vv, tv, (by exact rfl), hvs, hv1⟩, ⟨bh, th, (by exact rfl), hbh, hlh⟩⟩ fun py Q' E' hq => ld (by k_asm) rfl hq)
      · (rw [show stHost kp (σa, some hs0) (.ref a) = none by rw [stHost, hct]; exact (if_neg (by assumption)).trans ((if_pos (by assumption)).trans (if_neg (by simp)))] at hs; exact hs _ _ (end_raise (fun e => nomatch e) rfl G1 hout (by k_asm) (by k_asm) (by rw [hled]; exact fun p hp => by first | exact hp | exact List.mem_cons_of_mem _ hp | exact List.mem_append_left _ hp | exact List.mem_cons_of_mem _ (List.mem_cons_of_mem _ hp) | simp [hp]) (by k_asm)))
      · (rw [show stHost kp (σa, some hs0) (.ref a) = some (σa, some hs0) by rw [stHost, hct]; exact (if_neg (by assumption)).trans (if_neg (by assumption))] at hs; exact hs _ (end_ok x1 (by k_asm) (by k_asm) (by rw [hled]; exact fun p hp => by first | exact hp | exact List.mem_cons_of_mem _ hp | exact List.mem_append_left _ hp | exact List.mem_cons_of_mem _ (List.mem_cons_of_mem _ hp) | simp [hp])) ⟨_, Fr.ns (by k_asm), hva' _ (by exact rfl), ⟨bh, th, (by exact rfl), hbh, hlh⟩⟩ fun py Q' E' hq => ld (by k_asm) rfl hq)
  · intro x s₁ A' outer Q E hinv cx hout hs
    obtain ⟨σa, σh⟩ := x
    obtain ⟨m, hm, ha, hh⟩ := hinv
    have N1 := news_ledger (b0 := b0) (h := s₁.heap) (fp := fun b => b = L') (L := L') rfl
    generalize hled : ledger b0 (fun b => b = L') s₁.heap = led at N1
    have cx' := cx
    obtain ⟨hd', dp', fr', gd', un''⟩ := A'
    have e1 := cx.hd
    have e2 := cx.fr
    dsimp only at e1 e2
    subst e1; subst e2
    cases σh with
    | none =>
      cases σa with
      | none =>
        have Fb : Fr b0 L' s₁.heap _ := ⟨ns_set (x := Str.ofString "host_header_val") (v := Value.none) (ns_set hm ha) ((if_neg (by decide)).trans hh), cx.G.S, hlow⟩
        clear hm
        k_steps
        (rw [if_neg (show ¬ finHost (none, none) = true by simp [finHost])] at hs; exact hs _ _ (end_raise (fun e => nomatch e) rfl cx'.G hout (by k_asm) (by k_asm) (by rw [hled]; exact fun p hp => by first | exact hp | exact List.mem_cons_of_mem _ hp | exact List.mem_append_left _ hp | exact List.mem_cons_of_mem _ (List.mem_cons_of_mem _ hp) | simp [hp]) (by k_asm)))
      | some ks =>
        obtain ⟨ba, ta, hma, hba, hla⟩ := ha
        have Fb : Fr b0 L' s₁.heap _ := ⟨ns_set (x := Str.ofString "host_header_val") (v := Value.none) (ns_set hm hma) ((if_neg (by decide)).trans hh), cx.G.S, hlow⟩
        clear hm
        k_steps
        (rw [if_pos (show finHost (some ks, none) = true by simp [finHost])] at hs; exact hs _ (end_ok cx'.G.S (by k_asm) (by k_asm) (by rw [hled]; exact fun p hp => by first | exact hp | exact List.mem_cons_of_mem _ hp | exact List.mem_append_left _ hp | exact List.mem_cons_of_mem _ (List.mem_cons_of_mem _ hp) | simp [hp])))
    | some hs0 =>
      obtain ⟨bh, th, hmh, hbh, hlh⟩ := hh
      cases σa with
      | none =>
        have Fb : Fr b0 L' s₁.heap _ := ⟨ns_set (x := Str.ofString "host_header_val") (v := Value.bytes bh th) (ns_set hm ha) ((if_neg (by decide)).trans hmh), cx.G.S, hlow⟩
        clear hm
        k_steps
        (rw [if_pos (show finHost (none, some hs0) = true by simp [finHost])] at hs; exact hs _ (end_ok cx'.G.S (by k_asm) (by k_asm) (by rw [hled]; exact fun p hp => by first | exact hp | exact List.mem_cons_of_mem _ hp | exact List.mem_append_left _ hp | exact List.mem_cons_of_mem _ (List.mem_cons_of_mem _ hp) | simp [hp])))
      | some ks =>
        obtain ⟨ba, ta, hma, hba, hla⟩ := ha
        have Fb : Fr b0 L' s₁.heap _ := ⟨ns_set (x := Str.ofString "host_header_val") (v := Value.bytes bh th) (ns_set hm hma) ((if_neg (by decide)).trans hmh), cx.G.S, hlow⟩
        clear hm
        k_steps
        · (rw [if_pos (show finHost (some ks, some hs0) = true by simp [finHost, *])] at hs; exact hs _ (end_ok cx'.G.S (by k_asm) (by k_asm) (by rw [hled]; exact fun p hp => by first | exact hp | exact List.mem_cons_of_mem _ hp | exact List.mem_append_left _ hp | exact List.mem_cons_of_mem _ (List.mem_cons_of_mem _ hp) | simp [hp])))
        · (rw [if_neg (show ¬ finHost (some ks, some hs0) = true by simp [finHost, *])] at hs; exact hs _ _ (end_raise (fun e => nomatch e) rfl cx'.G hout (by k_asm) (by k_asm) (by rw [hled]; exact fun p hp => by first | exact hp | exact List.mem_cons_of_mem _ hp | exact List.mem_append_left _ hp | exact List.mem_cons_of_mem _ (List.mem_cons_of_mem _ hp) | simp [hp]) (by k_asm)))

end
section
open PySem PySem.W PyProof.Rows PySem.Calls PySem.W.X
set_option Elab.async false
set_option maxRecDepth 100000
set_option maxHeartbeats 8000000
set_option linter.unusedVariables false
set_option pp.deepTerms false
set_option pp.maxSteps 6000
noncomputable abbrev PsSt := List (List Int) × Bool × Option (List Int)
noncomputable def pStep (n x : List Int) (σ : PsSt) : Option PsSt :=
  if n.getD 0 0 = 58 then
    (if σ.1.contains n then none else if σ.2.1 then none else if !allowedL.contains n then none else some (n :: σ.1, σ.2.1, if n = nMethod then some x else σ.2.2))
  else some (σ.1, true, σ.2.2)
noncomputable def stPseudo (kp : List (Addr × Obj)) (σ : PsSt) (v : Value) : Option PsSt := pStep (cont kp v).1 (cont kp v).2 σ
noncomputable def finPseudo (q r : Bool) (σ : PsSt) : Bool := accF q r σ.1 σ.2.2
noncomputable def methV (mv : Value) (x : Option (List Int)) : Prop := match x with | none => mv = .none | some ks => ∃ b t, mv = .bytes b t ∧ KBw.bInts b = ks ∧ ks.length ≤ 1000
noncomputable def InvPs (w : World) (L D : Addr) (fl : Value) (σ : PsSt) (h : Heap) : Prop := ∃ m so n, h.Ns L m ∧ m (Str.ofString "seen_pseudo_header_fields") = some (.ref D) ∧ m (Str.ofString "seen_regular_header") = some (.bool σ.2.1) ∧ optm m (Str.ofString "method") σ.2.2 ∧ m (Str.ofString "hdr_validation_flags") = some fl ∧
  h.get? D = some so ∧ SetB w so σ.1 n ∧ n ≤ 6 ∧ n = σ.1.length ∧ σ.1.Nodup ∧ ∀ k ∈ σ.1, k ∈ allowedL
noncomputable def ItemN (kp : List (Addr × Obj)) (v : Value) : Prop := Item kp v ∧ 0 < (cont kp v).1.length
theorem sub_len : ∀ {l m : List (List Int)}, l.Nodup → (∀ k ∈ l, k ∈ m) → l.length ≤ m.length
  | [], _, _, _ => Nat.zero_le _
  | a :: r, m, hn, hs => by
    have ha := hs a (.head _)
    have hr : ∀ k ∈ r, k ∈ m.erase a := fun k hk => (List.mem_erase_of_ne (by intro e; subst e; exact (List.nodup_cons.mp hn).1 hk)).mpr (hs k (.tail _ hk))
    have h1 := sub_len (List.nodup_cons.mp hn).2 hr
    rw [List.length_erase_of_mem ha] at h1
    have h2 := List.length_pos_of_mem ha
    show r.length + 1 ≤ m.length
    omega
theorem allowed_len : allowedL.length = 6 := by decide
theorem not_contains {l : List (List Int)} {k : List Int} (h : l.contains k = false) : k ∉ l := fun q => by rw [List.contains_iff_mem.mpr q] at h; cases h
theorem ps_six {l : List (List Int)} (h1 : l.Nodup) (h2 : ∀ k ∈ l, k ∈ allowedL) : l.length ≤ 6 := by
  have := sub_len h1 h2
  rw [allowed_len] at this; exact this
section
variable {n x : List Int} {seen : List (List Int)} {reg : Bool} {meth : Option (List Int)}
theorem pStep_dup (h : n.getD 0 0 = 58) (h1 : seen.contains n = true) : pStep n x (seen, reg, meth) = none := by simp only [pStep]; rw [if_pos h, if_pos h1]
theorem pStep_reg (h : n.getD 0 0 = 58) (h2 : reg = true) : pStep n x (seen, reg, meth) = none := by simp only [pStep]; rw [if_pos h, h2]; simp
theorem pStep_cust (h : n.getD 0 0 = 58) (h3 : allowedL.contains n = false) : pStep n x (seen, reg, meth) = none := by simp only [pStep]; rw [if_pos h, h3]; simp
theorem pStep_new (h : n.getD 0 0 = 58) (h1 : seen.contains n = false) (h2 : reg = false) (h3 : allowedL.contains n = true) : pStep n x (seen, reg, meth) = some (n :: seen, reg, if n = nMethod then some x else meth) := by
  simp only [pStep]; rw [if_pos h, h1, h2, h3]; simp
theorem pStep_ord (h : ¬ n.getD 0 0 = 58) : pStep n x (seen, reg, meth) = some (seen, true, meth) := by simp only [pStep]; rw [if_neg h]
end
theorem Pseudo_c {w : World} {mean : ExcName → Option Value} {mg mb : Str → Option Value} {b0 : Heap} {outer : List Env} {dp un : Nat} {gd : Option (List Code)} {s s0 : Shared} {Q E : Value → Shared → Prop} {src : Value} {pf qf rf tf : Bool} {fa dx : Addr} {nf : Nat}
    {kp : List (Addr × Obj)} {dn un' : Nat} {strm : Strm}
    (G : Gd w mean mg mb b0 outer s.heap) (hdp : dp + 20 < recursionLimit) (hun : un + 100 < cLine) (hb0 : b0.objs.size ≤ s.heap.objs.size) (hkp : Kept kp s.heap)
    (hfl : (fa, flagO pf qf rf tf dx nf) ∈ kp) (hqr : (qf && rf) = false) (hdn : 20 ≤ dn) (hun2 : 100 ≤ un')
    (hx0 : ∀ b o, s0.heap.get? b = some o → ∃ o', s.heap.get? b = some o') (hz : s0.gens.size ≤ s.gens.size)
    (hsrc : SrcAt w mean mg mb b0 kp dn un' strm src s0 s) (hall : strmAll (ItemN kp) strm)
    (ret : ∀ a h' tk gs, Ext s.heap h' → gs.bare = true → GenAt w mean mg mb b0 kp (dn + 1) (un' + 4) (outS (stPseudo kp) (finPseudo qf rf) ([], false, none) strm) a s0 { s with heap := h', gens := s.gens.push gs, toks := tk } → Q (.ref a) { s with heap := h', gens := s.gens.push gs, toks := tk }) :
    wpAny (model Pg w) (AZ dp un gd outer) (call (.ref 234) [src, .ref fa]) Q E s := by
  k_with_none
  k_with "And" => (k_here; (with_reducible show PySem.Str.length (_ ++ _) ≤ sizeLine ∧ wpAny _ _ (joinParts _ _) _ _ _); refine' ⟨?qhA, ?_⟩; (case qhA => ((repeat' (with_reducible refine len_half ?_ ?_)) <;> first | exact Nat.le_trans (by with_reducible assumption) (Nat.le_of_ble_eq_true (by kernel_rfl)) | ((with_reducible first | show PySem.Str.length (PySem.Str.ofString _) ≤ _ | show PySem.Str.length PySem.Str.empty ≤ _ | show PySem.Str.length (PySem.Str.mk _) ≤ _); exact Nat.le_of_ble_eq_true (by kernel_rfl)))))
  k_with "joinParts" => (k_here; (first | (with_reducible show wpAny _ _ (joinParts _ []) _ _ _) | (with_reducible show wpAny _ _ (joinParts _ (evalEach [] _)) _ _ _)); k_dflt (refine' joinParts_nil ?_ ?qhA; (case qhA => ((repeat' (with_reducible refine len_half ?_ ?_)) <;> first | exact Nat.le_trans (by with_reducible assumption) (Nat.le_of_ble_eq_true (by kernel_rfl)) | ((with_reducible first | show PySem.Str.length (PySem.Str.ofString _) ≤ _ | show PySem.Str.length PySem.Str.empty ≤ _ | show PySem.Str.length (PySem.Str.mk _) ≤ _); exact Nat.le_of_ble_eq_true (by kernel_rfl))))))
  k_with "getMethod bytes" => (k_here; (with_reducible first | refine gm_lower ?_ | refine gm_strip ?_ | refine gm_find ?_))
  k_with "pyReprObj" => (k_here; (refine repr_K (by kba_ints) (by kba_size) ?_); intro _ _ _ _; (try dsimp only))
  k_with "call builtin:bytes.lower" => (k_here; (refine lower_K (by kba_ints) (by kba_size) ?_); intro _ _ _ _; (try dsimp only))
  k_with "call builtin:bytes.find" => (k_here; (refine find_K (by kba_ints) (by first | assumption | rfl | decide +kernel) ?_); intro _ _ _ _; (try dsimp only))
  k_with "compareOp Eq" => (k_here; (with_reducible show wpAny _ _ (compareOp CmpOp.Eq (Value.bytes _ _) (Value.bytes _ _)) _ _ _); (refine eqB_K (by kba_ints) (by kba_ints) ?_))
  k_with "compareOp NotEq" => (k_here; (with_reducible show wpAny _ _ (compareOp CmpOp.NotEq (Value.bytes _ _) (Value.bytes _ _)) _ _ _); (refine neB_K (by kba_ints) (by kba_ints) ?_))
  k_with "compareOp Eq bytes bytes" => (k_here; (refine eqB_K (by kba_ints) (by kba_ints) ?_))
  k_with "compareOp NotEq bytes bytes" => (k_here; (refine neB_K (by kba_ints) (by kba_ints) ?_))
  k_with "compareOp In bytes ref" => (k_here; k_dflt (first | (refine' in_tupB (kss := ownL) (tupK ?qX ?qF ?qh) ?qhb ?qhit ?qhk ?_; (case qX => assumption); (case qF => assumption); (case qh => k_is); (case qhb => exact rfl); (case qhit => exact rfl); (case qhk => kba_ints)) | (refine' in_tupB (kss := allowedL) (tupK ?qX ?qF ?qh) ?qhb ?qhit ?qhk ?_; (case qX => assumption); (case qF => assumption); (case qh => k_is); (case qhb => exact rfl); (case qhit => exact rfl); (case qhk => kba_ints))))
  k_with "compareOp NotIn bytes ref" => (k_here; k_dflt (refine' notIn_tupB (kss := allowedL) (tupK ?qX ?qF ?qh) ?qhb ?qhit ?qhk ?_; (case qX => assumption); (case qF => assumption); (case qh => k_is); (case qhb => exact rfl); (case qhit => exact rfl); (case qhk => kba_ints)))
  k_with "subscriptTail" => (k_here; (with_reducible show wpAny _ _ (subscriptTail _ _ (Value.bytes _ _) (Value.int _ _)) _ _ _); (first | refine item0_A (by kba_ints) (by omega) (by omega) ?_ | refine itemL_A (by kba_ints) (by omega) (by omega) ?_); intro _ _ _ _ _ _; (try dsimp only))
  k_with "exec For" => (k_here; (with_unfolding_all refine' For_mine ?qF ?qhE ?qhx ?qhp ?qhs ?_; (case qF => assumption); (case qhE => assumption); (case qhx => exact rfl); (case qhp => exact rfl); (case qhs => exact fun _ => rfl); k_whole))
  k_with "exec For Name Name cons nil" => (k_here; (with_unfolding_all refine' For_mine ?qF ?qhE ?qhx ?qhp ?qhs ?_; (case qF => assumption); (case qhE => assumption); (case qhx => exact rfl); (case qhp => exact rfl); (case qhs => exact fun _ => rfl); k_whole))
  k_with "subscriptTail" => (k_here; (with_reducible show wpAny _ _ (subscriptTail _ _ (Value.ref _) (Value.int _ _)) _ _ _); (first | (refine pair0_A (by k_asm) (by assumption) ?_) | (refine pair1_A (by k_asm) (by assumption) ?_)))
  k_with "call type:set nil nil" => (k_here; k_dflt (refine newSet_B (by k_asm) (by k_asm) ?_); intro _ _ _ _ _ _ _; (try dsimp only))
  k_with "getMethod ref" => (k_here; (with_reducible show wpAny _ _ (getMethod (Value.ref _) (Str.ofString "add") _) _ _ _); k_dflt (refine' method_B ?qN ?qU ?qd ?qz ?_; (case qN => k_asm); (case qU => first | exact UpdF.head (by assumption) | k_updF); (case qd => k_asm); (case qz => omega)))
  k_with "call builtin:set.add" => (k_here; k_dflt (refine' add_B ?qhk ?qF ?qN ?qU ?qd ?qz ?_; (case qhk => kba_ints); (case qF => k_asm); (case qN => k_asm); (case qU => first | exact UpdF.head (by assumption) | k_updF); (case qd => k_asm); (case qz => omega)); intro _ _ _ _ _ _ _ _; (try dsimp only))
  k_with "compareOp In bytes ref" => (k_here; k_dflt (refine' in_B ?qhk ?qN ?qU ?qd ?qz ?_; (case qhk => kba_ints); (case qN => k_asm); (case qU => first | exact UpdF.head (by assumption) | k_updF); (case qd => k_asm); (case qz => omega)); (try dsimp only))
  k_with "compareOp NotIn bytes ref" => (k_here; k_dflt (first | (refine' notIn_B ?qhk ?qN ?qU ?qd ?qz ?_; (case qhk => kba_ints); (case qN => k_asm); (case qU => first | exact UpdF.head (by assumption) | k_updF); (case qd => k_asm); (case qz => omega)) | (refine' notIn_tupB (kss := allowedL) (tupK ?qX ?qF ?qh) ?qhb ?qhit ?qhk ?_; (case qX => assumption); (case qF => assumption); (case qh => k_is); (case qhb => exact rfl); (case qhit => exact rfl); (case qhk => kba_ints))); (try dsimp only))
  obtain ⟨oh, og, hsrc, hoh, hog⟩ := hsrc
  have X := G.X
  have T := G.T
  refine wpAny_call ?_
  k_dflt (refine' enterG (binds := [(Str.ofString "headers", src), (Str.ofString "hdr_validation_flags", .ref fa)]) X T.nolimit ?ho ?hcd ?hroom ?hbind ?hloc ?_ ?c5 ?c6 ?c7 ?c8; (case ho => k_is); (case hcd => k_is); (case hroom => show dp < recursionLimit; omega); (case hbind => exact rfl); (case hloc => exact locs rfl); (case c5 => decide); (case c6 => exact rfl); (case c7 => exact rfl); (case c8 => exact rfl); k_whole; intro L' h' tk n q t t' hL F')
  have hlow : b0.objs.size ≤ L' := hL ▸ hb0
  have hkl : ∀ p ∈ kp, p.1 < L' := fun p hp => hL ▸ Heap.lt_size (hkp p hp)
  have hLs : s.heap.get? L' = none := by
    cases e : s.heap.get? L' with
    | none => rfl
    | some o => exact absurd (Heap.lt_size e) (by rw [hL]; exact Nat.lt_irrefl _)
  have hLo : ¬ oh L' := fun q => by obtain ⟨o, ho⟩ := (hoh _ q).2; rw [hLs] at ho; cases ho
  have hfpl : ∀ b, b = L' → b0.get? b = none ∧ ∀ p ∈ kp, p.1 ≠ b := by
    intro b hb
    rw [hb]
    refine ⟨?_, ?_⟩
    · cases e : b0.get? L' with
      | none => rfl
      | some o => rw [G.S _ o e] at hLs; cases hLs
    · intro p hp e
      have := hkp p hp
      rw [e, hLs] at this; cases this
  refine ret _ _ _ _ (fun b o e => Heap.get?_push_of_some _ (F'.keep b o e)) rfl (gen_new hx0 hz F' hLs hoh hog ?_)
  clear ret
  refine stage_new (L := L') (pre := [_, _, _, _]) (B := [_]) (post := [_]) (ItemP := ItemN kp) (ohk := fun b => oh b ∨ b = L') rfl ?hk ?hf ?hoL ?hns ?hfold ?start
  case hk => exact fun e => nomatch e
  case hf => exact rfl
  case hoL => exact .inr rfl
  case hns => exact ⟨_, (F'.push _).ns⟩
  case hfold => exact fun _ => rfl
  intro s₁ A' outer' E' ag cx hout'
  have hns : s₁.heap.Ns L' _ := (F'.push _).ns.at' fun o e => ag.heap L' o (.inr rfl) e
  have Fb : Fr b0 L' s₁.heap _ := ⟨hns, cx.G.S, hlow⟩
  have Xb := cx.G.X0
  have Tb := cx.G.T0
  have N := news_ledger (b0 := b0) (h := s₁.heap) (fp := fun b => b = L') (L := L') rfl
  clear X T hns
  obtain ⟨hd', dp', fr', gd', un''⟩ := A'
  have e1 := cx.hd
  have e2 := cx.fr
  dsimp only at e1 e2
  subst e1; subst e2
  generalize hled : ledger b0 (fun b => b = L') s₁.heap = led at N
  have cx' := cx
  have khout : KeepP _ := hout'
  have khled : KeepP _ := hled
  clear hled hout'
  k_steps
  unfold KeepP at khout khled
  rename_i D _ so lD hset _ _ hE Fe Ne
  have hDn := Ne (D, so) (.head _)
  have hDs : s₁.heap.get? D = none := by
    cases e : s₁.heap.get? D with
    | none => rfl
    | some o =>
      have hm := mem_ledger (fp := fun b => b = L') e hDn.2.1 hDn.2.2
      rw [khled] at hm
      exact absurd (lD _ hm) (Nat.lt_irrefl _)
  have hfpl2 : ∀ b, (b = L' ∨ b = D) → b0.get? b = none ∧ ∀ p ∈ kp, p.1 ≠ b := fun b hb => hb.elim (hfpl b) fun hb => hb ▸ ⟨hDn.2.2, fun p hp e => by have := cx'.d p hp; rw [e, hDs] at this; cases this⟩
  have kk := kept_of (fp := fun b => b = L') cx'.G.S Fe Ne (by rw [khled]; exact fun p hp => .tail _ hp)
  have cx2 := cxb_step (tk := 0) cx' (fun e => nomatch e) rfl kk Fe.ns (fun b hb q => khout b hb (.inr q)) hfpl
  have ag1 := agree_new (oh := oh) (og := og) (ohk := fun b => oh b ∨ b = L') F'.keep (fun g hg => (hog g hg).2) (fun b h => .inl h) ⟨ag.heap, ag.gens⟩
  have hDo : ¬ oh D := fun q => by
    obtain ⟨o, ho⟩ := (hoh _ q).2
    rw [ag1.heap D o q ho] at hDs; cases hDs
  refine ready_of (Inv := InvPs w L' D (.ref fa)) (fp := fun b => b = L' ∨ b = D) hsrc ⟨fun b o hb e => kk b o (fun q => hLo (q ▸ hb)) (ag1.heap b o hb e), ag1.gens⟩ ⟨rfl, rfl, cx2.gs, cx2.dp, cx2.cu, cx2.G, cx2.d⟩ ?_ ⟨_, so, 0, Fe.ns, rfl, rfl, rfl, rfl, hDn.1, hset, by decide, rfl, List.nodup_nil, fun k hk => nomatch hk⟩ (fun b hb => hb.elim (fun hb => ⟨hb ▸ hLo, .inl (.inr hb)⟩) fun hb => ⟨hb ▸ hDo, .inr (by rw [hb]; exact hDs)⟩) (fun b h => .inl h) ⟨_, _, rfl, fun b o hb e => kk b o (fun q => hb (.inr q)) e⟩ hall
  have hDL : D ≠ L' := hDn.2.1
  clear cx cx' cx2 kk Fe Ne khled led khout ag1 ag hDn hDs hset lD hE
  refine ⟨(fun e => nomatch e), rfl, rfl, rfl, .inl rfl, hfpl2, fun x h h' ⟨m, so, n, hm, h1, h2, h3, hf, h4, r⟩ k => ⟨m, so, n, hm.at' fun o e => k L' o (.inl rfl) e, h1, h2, h3, hf, k D so (.inr rfl) h4, r⟩, fun x h b ⟨m, so, n, hm, h1, h2, h3, hf, h4, r⟩ hb => ?_, fun x h ⟨m, so, n, hm, _⟩ => ⟨m, hm⟩, ?_, ?_⟩
  · rcases hb with hb | hb
    · obtain ⟨o, _, _, ho, _⟩ := hm
      exact ⟨o, hb ▸ ho⟩
    · exact ⟨so, hb ▸ h4⟩
  · intro x v s₁ A' outer Q E ⟨m, so, n, hm, m1, m2, m3, mf, hD, hset, hn6, hnl, hnd, hsub⟩ ⟨⟨a, nn, vv, tn, tv, c, ev, hlk, hn1, hv1⟩, hpos⟩ cx hout hs
    obtain ⟨seen, reg, meth⟩ := x
    subst ev
    have hct := cont_of hlk
    obtain ⟨b1, x01, x1, hlow1, kb1, hf1⟩ := base_kp cx.G.S cx.d hlow hkl
    have hA : b1.get? a = some (pairO nn vv tn tv c) := kb1 _ (mem_of_lookup hlk)
    clear kb1
    replace Xb := Xb.keeps x01
    replace Tb := Tb.keeps x01
    have G1 : Gd w mean mg mb b1 _ s₁.heap := ⟨Xb, Tb, x1, cx.G.F⟩
    have N1 := news_ledger (b0 := b1) (h := s₁.heap) (fp := fun b => b = L' ∨ b = D) (L := L') (.inl rfl)
    have hD1 : b1.get? D = none := hf1 D (hfpl2 D (.inr rfl)).1 (hfpl2 D (.inr rfl)).2
    clear hf1
    generalize hled : ledger b1 (fun b => b = L' ∨ b = D) s₁.heap = led at N1
    generalize hks : KBw.bInts nn = ks at hn1 hct
    generalize hvs : KBw.bInts vv = vs at hv1 hct
    rw [hct] at hpos
    have N2 : News b1 L' s₁.heap ((D, so) :: led) := fun p hp => by
      rcases List.mem_cons.mp hp with rfl | hp
      · exact ⟨hD, hDL, hD1⟩
      · exact N1 p hp
    clear N1
    have hap : ∀ p ∈ led, p.1 ≠ D := by
      intro p hp
      rw [← hled] at hp
      exact fun q => (of_ledger hp).2.1 (.inr q)
    have cx' := cx
    obtain ⟨hd', dp', fr', gd', un''⟩ := A'
    have e1 := cx.hd
    have e2 := cx.fr
    dsimp only at e1 e2
    subst e1; subst e2
    have Fb : Fr b1 L' s₁.heap _ := ⟨ns_set (x := Str.ofString "seen_pseudo_header_fields") (v := Value.ref D) (ns_set hm m2) ((if_neg (by decide)).trans m1), x1, hlow1⟩
    clear hm
    have hpos' : 0 < ks.length := hpos
    have khs : KeepP _ := hs
    clear hs
    dsimp only at m2 hset hnl
    k_steps
    all_goals (unfold KeepP at *)
    all_goals (dsimp only at *)
    · have e3 : stPseudo kp (seen, reg, meth) (.ref a) = none := by rw [stPseudo, hct]; dsimp only; exact pStep_dup (by omega) (by assumption)
      rw [e3] at khs
      exact khs _ _ (end_raise (fun e => nomatch e) rfl G1 hout (by assumption) (by assumption) (by rw [hled]; exact fun p hp => by first | exact hp | exact List.mem_cons_of_mem _ hp | exact List.mem_append_left _ hp | exact List.mem_cons_of_mem _ (List.mem_cons_of_mem _ hp) | simp [hp]) (by assumption))
    · have e3 : stPseudo kp (seen, reg, meth) (.ref a) = none := by rw [stPseudo, hct]; dsimp only; exact pStep_reg (by omega) (by assumption)
      rw [e3] at khs
      exact khs _ _ (end_raise (fun e => nomatch e) rfl G1 hout (by assumption) (by assumption) (by rw [hled]; exact fun p hp => by first | exact hp | exact List.mem_cons_of_mem _ hp | exact List.mem_append_left _ hp | exact List.mem_cons_of_mem _ (List.mem_cons_of_mem _ hp) | simp [hp]) (by assumption))
    · have e4 : ks ∈ allowedL := List.contains_iff_mem.mp (by assumption)
      have e5 : seen.contains ks = false := by assumption
      have hnd' : (ks :: seen).Nodup := List.nodup_cons.mpr ⟨not_contains e5, hnd⟩
      have hsub' : ∀ k ∈ ks :: seen, k ∈ allowedL := fun k hk => (List.mem_cons.mp hk).elim (fun e => e ▸ e4) (hsub k)
      have h6 := ps_six hnd' hsub'
      have e6 : ∀ nn : Nat, (seen.contains ks = false → nn = n + 1) → nn = (ks :: seen).length := fun nn q => by rw [q e5, hnl]; rfl
      have e3 : stPseudo kp (seen, reg, meth) (.ref a) = some (ks :: seen, reg, some vs) := by
        rw [stPseudo, hct]; dsimp only
        exact (pStep_new (by omega) e5 (by assumption) (by assumption)).trans (by rw [if_pos (show ks = nMethod by assumption)])
      rw [e3] at khs
      have hns : Heap.Ns _ L' _ := Fr.ns (h₀ := b1) (by assumption)
      have hnn := e6 _ (by assumption)
      exact khs _ (end_ok x1 (by assumption) (by assumption) (by rw [hled]; exact fun p hp => by first | exact hp | exact List.mem_cons_of_mem _ hp | exact List.mem_append_left _ hp | exact List.mem_cons_of_mem _ (List.mem_cons_of_mem _ hp) | simp [hp])) ⟨_, _, _, hns, rfl, rfl, (by exact ⟨vv, tv, rfl, hvs, hv1⟩), (by exact mf), News.get (by assumption) (.head _), by assumption, hnn ▸ h6, hnn, hnd', hsub'⟩ fun py Q' E' hq => ld (by assumption) rfl hq
    · have e4 : ks ∈ allowedL := List.contains_iff_mem.mp (by assumption)
      have e5 : seen.contains ks = false := by assumption
      have hnd' : (ks :: seen).Nodup := List.nodup_cons.mpr ⟨not_contains e5, hnd⟩
      have hsub' : ∀ k ∈ ks :: seen, k ∈ allowedL := fun k hk => (List.mem_cons.mp hk).elim (fun e => e ▸ e4) (hsub k)
      have h6 := ps_six hnd' hsub'
      have e6 : ∀ nn : Nat, (seen.contains ks = false → nn = n + 1) → nn = (ks :: seen).length := fun nn q => by rw [q e5, hnl]; rfl
      have e3 : stPseudo kp (seen, reg, meth) (.ref a) = some (ks :: seen, reg, meth) := by
        rw [stPseudo, hct]; dsimp only
        exact (pStep_new (by omega) e5 (by assumption) (by assumption)).trans (by rw [if_neg (show ¬ ks = nMethod by assumption)])
      rw [e3] at khs
      have hns : Heap.Ns _ L' _ := Fr.ns (h₀ := b1) (by assumption)
      have hnn := e6 _ (by assumption)
      exact khs _ (end_ok x1 (by assumption) (by assumption) (by rw [hled]; exact fun p hp => by first | exact hp | exact List.mem_cons_of_mem _ hp | exact List.mem_append_left _ hp | exact List.mem_cons_of_mem _ (List.mem_cons_of_mem _ hp) | simp [hp])) ⟨_, _, _, hns, rfl, rfl, (by exact m3), (by exact mf), News.get (by assumption) (.head _), by assumption, hnn ▸ h6, hnn, hnd', hsub'⟩ fun py Q' E' hq => ld (by assumption) rfl hq
    · have e3 : stPseudo kp (seen, reg, meth) (.ref a) = none := by rw [stPseudo, hct]; dsimp only; exact pStep_cust (by omega) (by assumption)
      rw [e3] at khs
      exact khs _ _ (end_raise (fun e => nomatch e) rfl G1 hout (by assumption) (by assumption) (by rw [hled]; exact fun p hp => by first | exact hp | exact List.mem_cons_of_mem _ hp | exact List.mem_append_left _ hp | exact List.mem_cons_of_mem _ (List.mem_cons_of_mem _ hp) | simp [hp]) (by assumption))
    · have e3 : stPseudo kp (seen, reg, meth) (.ref a) = some (seen, true, meth) := by rw [stPseudo, hct]; dsimp only; exact pStep_ord (by omega)
      rw [e3] at khs
      have hns : Heap.Ns _ L' _ := Fr.ns (h₀ := b1) (by assumption)
      exact khs _ (end_ok x1 (by assumption) (by assumption) (by rw [hled]; exact fun p hp => by first | exact hp | exact List.mem_cons_of_mem _ hp | exact List.mem_append_left _ hp | exact List.mem_cons_of_mem _ (List.mem_cons_of_mem _ hp) | simp [hp])) ⟨_, _, _, hns, rfl, rfl, (by exact m3), (by exact mf), News.get (by assumption) (.head _), hset, hn6, hnl, hnd, hsub⟩ fun py Q' E' hq => ld (by assumption) rfl hq
  · intro x s₁ A' outer Q E ⟨m, so, n, hm, m1, m2, m3, mf, hD, hset, hn6, hnl, hnd, hsub⟩ cx hout hs
    obtain ⟨seen, reg, meth⟩ := x
    obtain ⟨b1, x01, x1, hlow1, kb1, hf1⟩ := base_kp cx.G.S cx.d hlow hkl
    have hA : b1.get? fa = some (flagO pf qf rf tf dx nf) := kb1 _ hfl
    clear kb1
    replace Xb := Xb.keeps x01
    replace Tb := Tb.keeps x01
    have G1 : Gd w mean mg mb b1 _ s₁.heap := ⟨Xb, Tb, x1, cx.G.F⟩
    have N1 := news_ledger (b0 := b1) (h := s₁.heap) (fp := fun b => b = L' ∨ b = D) (L := L') (.inl rfl)
    have hD1 : b1.get? D = none := hf1 D (hfpl2 D (.inr rfl)).1 (hfpl2 D (.inr rfl)).2
    clear hf1
    generalize hled : ledger b1 (fun b => b = L' ∨ b = D) s₁.heap = led at N1
    have N2 : News b1 L' s₁.heap ((D, so) :: led) := fun p hp => by
      rcases List.mem_cons.mp hp with rfl | hp
      · exact ⟨hD, hDL, hD1⟩
      · exact N1 p hp
    clear N1
    have cx' := cx
    obtain ⟨hd', dp', fr', gd', un''⟩ := A'
    have e1 := cx.hd
    have e2 := cx.fr
    have e3 := cx.gs
    dsimp only at e1 e2 e3
    subst e1; subst e2; subst e3
    obtain ⟨mv, hmv, hmeth⟩ : ∃ mv, m (Str.ofString "method") = some mv ∧ methV mv meth := by
      cases meth with
      | none => exact ⟨_, m3, rfl⟩
      | some ks => obtain ⟨b, t, h1, h2⟩ := m3; exact ⟨_, h1, b, t, rfl, h2⟩
    have Fb : Fr b1 L' s₁.heap _ := ⟨ns_set (x := Str.ofString "seen_pseudo_header_fields") (v := Value.ref D) (ns_set (x := Str.ofString "method") (v := mv) (ns_set hm mf) ((if_neg (by decide)).trans hmv)) ((if_neg (by decide)).trans ((if_neg (by decide)).trans m1)), x1, hlow1⟩
    clear hm
    have hs1 : KeepP (finPseudo qf rf (seen, reg, meth) = true → ∀ s', Stp (fun b => b = L' ∨ b = D) s₁ s' → Q .next s') := fun h => by rw [if_pos h] at hs; exact hs
    have hs2 : KeepP (¬ finPseudo qf rf (seen, reg, meth) = true → ∀ s' e, StpE (fun b => b = L' ∨ b = D) (_ :: outer) e s₁ s' → E (.ref e) s') := fun h => by rw [if_neg h] at hs; exact hs
    clear hs
    k_steps
    unfold KeepP at hs1 hs2
    have d1 := cx'.dp
    have d2 := cx'.cu
    dsimp only at d1 d2
    refine Accept_c (G := G1) rfl (by omega) (by omega) hD hset hn6 hnl (x1 _ _ hA) hmeth hqr (fun hacc h' tk x => ?_) fun hacc s' e st => ?_
    · have F2 := Ext.fr x Fb
      have N3 := Ext.news x N2
      clear Fb N2 x hD hset
      k_steps
      exact hs1 hacc _ (end_ok x1 (by assumption) (by assumption) (by rw [hled]; exact fun p hp => by first | exact hp | exact List.mem_cons_of_mem _ hp | exact List.mem_append_left _ hp | exact List.mem_cons_of_mem _ (List.mem_cons_of_mem _ hp) | simp [hp]))
    · exact hs2 (fun q' => by rw [show finPseudo qf rf (seen, reg, meth) = accF qf rf seen meth from rfl, hacc] at q'; cases q') _ _ (stpE_then (fun _ _ _ e => e) st)

end
section
open PySem PySem.W PyProof.Rows PySem.Calls PySem.W.X
set_option Elab.async false
set_option maxRecDepth 100000
set_option maxHeartbeats 4000000
set_option linter.unusedVariables false
/-! ## a generator expression that hands on its source -/
section
variable {w : World} {mean : ExcName → Option Value} {mg mb : Str → Option Value} {b0 : Heap} {kp : List (Addr × Obj)} {dn un : Nat}
variable {x : Str} {pe px gpos : Pos} {iter : Expr} {scope : Scope} {it : Value} {cenv : Env} {C : Addr} {og : Nat → Prop}
noncomputable abbrev gxE (x : Str) (pe px : Pos) (iter : Expr) (scope : Scope) (gpos : Pos) : Expr := .GeneratorExp (.Name x pe) [⟨.Name x px, iter, [], 0⟩] scope gpos
noncomputable abbrev gxL (x : Str) (pe px : Pos) (iter : Expr) (scope : Scope) (gpos : Pos) (it : Value) (cenv : Env) : Code := .compLoop (gxE x pe px iter scope gpos) 0 it .none cenv
structure GxEnv (cenv : Env) (C : Addr) (x : Str) : Prop where
  hk : cenv.scope.kind = .function
  hf : cenv.frame = some C
  hl : cenv.locals = C
  hx : cenv.kindOf x = some .local
  hco : cenv.scope.isCoroutine = false
  hd : (x == ("__debug__" : Str)) = false
theorem gx_over {A : Around} {outer : List Env} (hh : A.handled = none) (hf : A.frames = some outer) (hg : A.guards = some []) :
    (A.over (gxL x pe px iter scope gpos it cenv) []).handled = none ∧ (A.over (gxL x pe px iter scope gpos it cenv) []).frames = some (cenv :: outer) ∧ (A.over (gxL x pe px iter scope gpos it cenv) []).guards = some [] ∧
      (A.over (gxL x pe px iter scope gpos it cenv) []).depth = A.depth + 1 ∧ (A.over (gxL x pe px iter scope gpos it cenv) []).units = A.units + 3 := by
  obtain ⟨hd, d, fr, gs, u⟩ := A
  subst hh; subst hf; subst hg
  exact ⟨rfl, rfl, rfl, rfl, rfl⟩
theorem gx_exc {A : Around} {outer : List Env} {s : Shared} {P : End → Shared → Prop} {B : Heap} {e : Addr} {c : Code} (hf : cenv.frame = some C) (hfr : (A.over c []).frames = some (cenv :: outer)) (y : InFl B (cenv :: outer) e PE s.heap)
    (hP : ∀ h' a0, FlyD B outer e PE a0 h' → s.heap.UpToSlots h' → P (.ret (.error (.ref e))) { s with heap := h' }) :
    SegX (model Pg w) A c (hndF cenv (.ref e)) [] s P := by
  unfold hndF
  refine sx_wrap (leave_any hfr hf y fun h' a0 fl hu => ?_)
  exact s_end Pg w A _ P _ (.error (.ref e)) _ rfl (hP h' a0 fl hu)
theorem gx_cx (V : GxEnv cenv C x) {oh : Addr → Prop} {s₁ : Shared} {A : Around} {outer : List Env} (cx : Cx w mean mg mb b0 kp (fun b => oh b ∨ b = C) (dn + 1) (un + 3) A outer s₁) (hn : ∃ m, s₁.heap.Ns C m) (hC : ¬ oh C) :
    Cx w mean mg mb b0 kp oh dn un (A.over (gxL x pe px iter scope gpos it cenv) []) (cenv :: outer) s₁ := by
  obtain ⟨m, hn⟩ := hn
  obtain ⟨o1, o2, o3, o4, o5⟩ := gx_over (x := x) (pe := pe) (px := px) (iter := iter) (scope := scope) (gpos := gpos) (it := it) (cenv := cenv) cx.hd cx.fr cx.gs
  have hk : cenv.scope.kind ≠ .module := fun e => by rw [V.hk] at e; cases e
  have hfr := frs_cons (outer := outer) V.hf
  refine ⟨o1, o2, o3, by rw [o4]; have := cx.dp; omega, by rw [o5]; have := cx.cu; omega, cx.G.cons hk V.hf hn, cx.d, fun b hb => ?_, fun b hb => cx.lo b (.inl hb), fun b hb => ?_⟩
  · rw [hfr] at hb
    rcases List.mem_cons.mp hb with rfl | hb
    · exact hC
    · exact fun q => cx.out b hb (.inl q)
  · rw [hfr] at hb
    rcases List.mem_cons.mp hb with hb | hb
    · exact hb ▸ (cx.lo C (.inr rfl)).1
    · exact cx.lof b hb
theorem gx_loop (V : GxEnv cenv C x) : ∀ (strm : Strm) (oh : Addr → Prop) (s : Shared), NextOk w mean mg mb b0 kp dn un strm it oh og s → (∃ m, s.heap.Ns C m) → ¬ oh C →
    ∀ s₁ A outer P, Agree (fun b => oh b ∨ b = C) og s s₁ → Cx w mean mg mb b0 kp (fun b => oh b ∨ b = C) (dn + 1) (un + 3) A outer s₁ →
      RunPost w mean mg mb b0 kp (dn + 1) (un + 3) strm (fun b => oh b ∨ b = C) og s₁ outer P →
      SegX (model Pg w) A (gxL x pe px iter scope gpos it cenv) (denote table (gxL x pe px iter scope gpos it cenv)) [] s₁ P := by
  intro strm
  induction strm with
  | fail =>
    intro oh s hn hN hC s₁ A outer P ag cx rp
    have hN₁ : ∃ m, s₁.heap.Ns C m := let ⟨m, h⟩ := hN; ⟨m, h.at' fun o e => ag.heap C o (.inr rfl) e⟩
    obtain ⟨o1, o2, o3, o4, o5⟩ := gx_over (x := x) (pe := pe) (px := px) (iter := iter) (scope := scope) (gpos := gpos) (it := it) (cenv := cenv) cx.hd cx.fr cx.gs
    show SegX _ A _ ((compTurn (gxE x pe px iter scope gpos) 0 it .none cenv).onRaise (leaving cenv)) [] s₁ P
    rw [Sem.onRaise_eq_wrap, compTurn_gen]
    have hH : (fun e => (leaving cenv e).bind fun _ => (.raise e : Sem Fin)) = hndF cenv := by funext e; exact Sem.bind_eq_wrap _ _
    rw [hH]
    refine sx_bind_wrap (wpAny_standAt ?_)
    refine sx_bind_wrap (hn s₁ _ (cenv :: outer) _ _ ⟨fun b o hb e => ag.heap b o (.inl hb) e, ag.gens⟩ (gx_cx V cx hN₁ hC) fun s₂ e fl => ?_)
    obtain ⟨a1, fly⟩ := fl.fly
    have hfr := frs_cons (outer := outer) V.hf
    refine gx_exc V.hf o2 (.fly fly) fun h' a0 fly' hu => rp e _ (fl_of (fun b o hb hf q => hideP_get q fun z => ?_) fly' (fun b hb => ?_) fl.gens fl.gsz fl.bare fl.drawn fl.os)
    · rcases z with z | z
      · exact hb (.inl z)
      · rw [hfr] at z
        rcases List.mem_cons.mp z with rfl | z
        · exact hb (.inr rfl)
        · exact hf z
    · exact (fl.frames b (by rw [hfr]; exact .tail _ hb)).trans (upTo_frs hu fly.1.2.2.1 b (by rw [hfr]; exact .tail _ hb))
  | done =>
    intro oh s hn hN hC s₁ A outer P ag cx rp
    have hN₁ : ∃ m, s₁.heap.Ns C m := let ⟨m, h⟩ := hN; ⟨m, h.at' fun o e => ag.heap C o (.inr rfl) e⟩
    show SegX _ A _ ((compTurn (gxE x pe px iter scope gpos) 0 it .none cenv).onRaise (leaving cenv)) [] s₁ P
    rw [Sem.onRaise_eq_wrap, compTurn_gen]
    refine sx_bind_wrap (wpAny_standAt ?_)
    refine sx_bind_wrap (hn s₁ _ (cenv :: outer) _ _ ⟨fun b o hb e => ag.heap b o (.inl hb) e, ag.gens⟩ (gx_cx V cx hN₁ hC) fun s₂ mv => ?_)
    exact s_end Pg w A _ P _ (.ok .next) _ rfl (rp .next _ rfl (mv.more fun b h => .inl h))
  | item v r ih =>
    intro oh s hn hN hC s₁ A outer P ag cx rp
    have hN₁ : ∃ m, s₁.heap.Ns C m := let ⟨m, h⟩ := hN; ⟨m, h.at' fun o e => ag.heap C o (.inr rfl) e⟩
    show SegX _ A _ ((compTurn (gxE x pe px iter scope gpos) 0 it .none cenv).onRaise (leaving cenv)) [] s₁ P
    rw [Sem.onRaise_eq_wrap, compTurn_gen]
    refine sx_bind_wrap (wpAny_standAt ?_)
    refine sx_bind_wrap (hn s₁ _ (cenv :: outer) _ _ ⟨fun b o hb e => ag.heap b o (.inl hb) e, ag.gens⟩ (gx_cx V cx hN₁ hC) fun s₂ mv hr => ?_)
    dsimp only
    rw [let_name]
    refine sx_bind_wrap (wpAny_pure ?_)
    obtain ⟨m, hn₁⟩ := hN₁
    have hn₂ : s₂.heap.Ns cenv.locals m := by rw [V.hl]; exact hn₁.at' fun o e => mv.heap C o hC e
    refine sx_bind_wrap (wpAny_assign_Name (wpAny_storeName_local V.hx hn₂ (fun h₃ hn₃ hs₃ => ?_) (by rw [V.hk]; rfl)))
    refine sx_bind_wrap (wpAny_tests_nil ?_)
    rw [if_pos rfl, Sem.bind_eq_wrap', Sem.wrap_wrap]
    refine sx_bind_wrap (wpAny_Name (wpAny_loadName_local V.hk V.hx hn₃ (if_pos rfl) ?_) V.hd)
    refine sx_bind_wrap (wpAny_standAt ?_)
    have hy : yieldOut cenv v = yieldValue v := by simp only [yieldOut, V.hco, Bool.false_eq_true, if_false]
    rw [hy]
    have keep : ∀ b o, b ≠ C → s₂.heap.get? b = some o → h₃.get? b = some o := fun b o hb e => hs₃.extBut b o (by rw [V.hl]; exact hb) e
    have hAf : After (fun b => oh b ∨ b = C) s₁ = fun b => After oh s₁ b ∨ b = C := by
      funext b
      exact propext ⟨fun h => h.elim (fun h => h.elim (fun h => .inl (.inl h)) .inr) fun h => .inl (.inr h), fun h => h.elim (fun h => h.elim (fun h => .inl (.inl h)) .inr) fun h => .inl (.inr h)⟩
    have hC' : ¬ After oh s₁ C := fun q => q.elim hC fun q => by
      obtain ⟨o, _, _, ho, _⟩ := hn₁
      have q' : s₁.heap.get? C = none := q
      rw [ho] at q'; cases q'
    have hn₃' : h₃.Ns C (fun y => if y = x then some v else m y) := by rw [V.hl] at hn₃; exact hn₃
    show SegX _ A _ (.yield v false [] _) [] _ P
    refine s_yield Pg w A _ [] P _ v _ _ rfl rfl fun p => rp _ _ rfl rfl ⟨fun b o hb e => keep b o (fun q => hb (.inr q)) (mv.heap b o (fun q => hb (.inl q)) e), mv.gens, mv.gsz, mv.bare, mv.drawn, mv.os⟩ ?_
    rw [hAf]
    refine grun_of fun s₄ A' outer' P' ag' cx' rp' => ?_
    show SegX _ A' _ (.pure (.again (gxL x pe px iter scope gpos it cenv))) [] s₄ P'
    refine s_again Pg w A' _ [] P' s₄ _ rfl ?_
    exact ih (After oh s₁) { s₂ with heap := h₃, toks := s₂.toks + 1 } (nextok_congr (s := s₂) (fun t ag'' => ⟨fun b o hb e => ag''.heap b o hb (keep b o (fun q => hC' (q ▸ hb)) e), ag''.gens⟩) hr) ⟨_, hn₃'⟩ hC' s₄ A' outer' P' ag' cx' rp'
end

end
section
open PySem PySem.W PyProof.Rows PySem.Calls PySem.W.X
/-- a code object's head and its table, the table as a whole object -/
noncomputable def IsCd (h : Heap) (c P : Addr) (ps : Array Value) : Prop := h.IsCode c P ps ∧ h.TableAt c P ps
section
variable {h h' : Heap} {c P a : Addr} {ps : Array Value}
theorem IsCd.keeps (x : IsCd h c P ps) (k : ∀ b o, h.get? b = some o → h'.get? b = some o) : IsCd h' c P ps := ⟨x.1.keeps k, x.2.keeps k⟩
theorem IsCd.push (x : IsCd h c P ps) (o : Obj) : IsCd (h.push o) c P ps := ⟨x.1.push o, x.2.push o⟩
theorem IsCd.extBut (x : IsCd h c P ps) (k : Heap.ExtBut a h h') (n1 : c ≠ a) (n2 : P ≠ a) : IsCd h' c P ps := ⟨x.1.extBut k n1 n2, x.2.extBut k n1 n2⟩
theorem IsCd.tab (x : IsCd h c P ps) : h.get? P = some (tabObj ps) := x.2.2
theorem IsCd.parts (x : IsCd h c P ps) : (∃ o vs, h.get? c = some o ∧ o.data = .fields vs) ∧ (∃ op, h.get? P = some op ∧ op.data = .fields ps) ∧ TriplesOk ps.toList ∧ c ≠ P := by
  obtain ⟨⟨o, vs, file, tf, flags, tg, inF, text, tt, op, a, r1, r2, r3, r4, r5, r6, b, r7, r8, r9⟩, _⟩ := x
  exact ⟨⟨o, vs, a, r1⟩, ⟨op, b, r7⟩, r8, r9⟩
theorem IsCd.head (x : IsCd h c P ps) : ∃ o, h.get? c = some o := x.parts.1.elim fun o ⟨_, a, _⟩ => ⟨o, a⟩
theorem IsCd.there (x : IsCd h c P ps) : ∃ o, h.get? P = some o := ⟨_, x.tab⟩
theorem IsCd.ne (x : IsCd h c P ps) : c ≠ P := x.parts.2.2.2
theorem IsCd.triples (x : IsCd h c P ps) : TriplesOk ps.toList := x.parts.2.2.1
/-- both objects are as they were -/
theorem IsCd.move (x : IsCd h c P ps) (k1 : ∀ o, h.get? c = some o → h'.get? c = some o) (k2 : ∀ o, h.get? P = some o → h'.get? P = some o) : IsCd h' c P ps := by
  obtain ⟨⟨o, vs, file, tf, flags, tg, inF, text, tt, op, a, r1, r2, r3, r4, r5, r6, b, r⟩, ⟨o2, vs2, e2, r2'⟩, t⟩ := x
  exact ⟨⟨o, vs, file, tf, flags, tg, inF, text, tt, op, k1 _ a, r1, r2, r3, r4, r5, r6, k2 _ b, r⟩, ⟨o2, vs2, k1 _ e2, r2'⟩, k2 _ t⟩
end

end
section
open PySem PySem.W PyProof.Rows PySem.Calls PySem.W.X
set_option Elab.async false
set_option maxRecDepth 100000
set_option maxHeartbeats 4000000
set_option linter.unusedVariables false
section
variable {w : World} {mean : ExcName → Option Value} {mg mb : Str → Option Value} {b0 : Heap} {kp : List (Addr × Obj)} {dn un : Nat}
variable {x : Str} {pe px gpos : Pos} {iter : Expr} {scope : Scope} {cenv : Env} {C : Addr} {og : Nat → Prop}
theorem gx_start (V : GxEnv cenv C x) {strm : Strm} {oh : Addr → Prop} {s : Shared} {a g : Addr} (hg : s.heap.IsGen a g) (ha : oh a) (hn : NextOk w mean mg mb b0 kp dn un strm (.ref a) oh og s) (hN : ∃ m, s.heap.Ns C m) (hC : ¬ oh C) :
    GRun w mean mg mb b0 kp (dn + 1) (un + 3) strm (.fresh (.compStart (gxE x pe px iter scope gpos) 0 (.ref a) .none cenv)) (fun b => oh b ∨ b = C) og s := by
  refine grun_of fun s₁ A outer P ag cx rp => ?_
  show SegX _ A _ ((compStart (gxE x pe px iter scope gpos) 0 (.ref a) .none cenv).onRaise (leaving cenv)) [] s₁ P
  have hg₁ : s₁.heap.IsGen a g := let ⟨o, nm, qn, ho, r⟩ := hg; ⟨o, nm, qn, ag.heap a o (.inl ha) ho, r⟩
  have go : SegX (model Pg w) A (.compStart (gxE x pe px iter scope gpos) 0 (.ref a) .none cenv) (.pure (.again (gxL x pe px iter scope gpos (.ref a) cenv))) [] s₁ P :=
    s_again Pg w A _ [] P s₁ _ rfl (gx_loop V strm oh s hn hN hC s₁ A outer P ag cx rp)
  rw [Sem.onRaise_eq_wrap]
  unfold compStart
  show SegX _ A _ ((ask >>= _).wrap _ _ _ _) [] s₁ P
  refine sx_bind_wrap (wpAny_askSetting ?_)
  split
  · exact go
  · refine sx_bind_wrap (wpAny_rule ?_)
    refine sx_bind_wrap (wpAny_standAt ?_)
    refine sx_bind_wrap (wpAny_pyIter_gen (g := g) hg₁ ?_)
    exact go
structure GenX (w : World) (mean : ExcName → Option Value) (mg mb : Str → Option Value) (b0 : Heap) (kp : List (Addr × Obj)) (dn un : Nat) (strm : Strm) (a g : Addr) (oh : Addr → Prop) (og : Nat → Prop) (s0 s : Shared) : Prop where
  hg : s.heap.IsGen a g
  ha : oh a
  hn : NextOk w mean mg mb b0 kp dn un strm (.ref a) oh og s
  h1 : ∀ b, oh b → s0.heap.get? b = none ∧ ∃ o, s.heap.get? b = some o
  h2 : ∀ g, og g → s0.gens.size ≤ g ∧ g < s.gens.size
theorem GenX.at {strm : Strm} {a g : Addr} {oh : Addr → Prop} {s0 s : Shared} (x : GenX w mean mg mb b0 kp dn un strm a g oh og s0 s) : GenAt w mean mg mb b0 kp dn un strm a s0 s := ⟨g, oh, og, x.hg, x.ha, x.hn, x.h1, x.h2⟩
theorem GenAt.toX {strm : Strm} {a : Addr} {s0 s : Shared} (x : GenAt w mean mg mb b0 kp dn un strm a s0 s) : ∃ g oh og, GenX w mean mg mb b0 kp dn un strm a g oh og s0 s := let ⟨g, oh, og, h1, h2, h3, h4, h5⟩ := x; ⟨g, oh, og, h1, h2, h3, h4, h5⟩
theorem GenX.later {strm : Strm} {a g : Addr} {oh : Addr → Prop} {s0 s s' : Shared} (x : GenX w mean mg mb b0 kp dn un strm a g oh og s0 s) (l : Later s0 s s') : GenX w mean mg mb b0 kp dn un strm a g oh og s0 s' :=
  ⟨(let ⟨o, nm, qn, ho, r⟩ := x.hg; ⟨o, nm, qn, l.heap a o (x.h1 a x.ha).1 ho, r⟩), x.ha, nextok_congr (l.agree x.h1 x.h2) x.hn, fun b hb => ⟨(x.h1 b hb).1, let ⟨o, ho⟩ := (x.h1 b hb).2; ⟨o, l.heap b o (x.h1 b hb).1 ho⟩⟩, fun g hg => l.lt (x.h2 g hg)⟩
/-- what a new generator owns -/
theorem gen_newX {strm : Strm} {s0 s : Shared} {gs : GenState} {h' : Heap} {nm qn : Str} {t t' : Tok} {tk : Nat} {oh : Addr → Prop} {L' : Addr} {m : Str → Option Value}
    (hx0 : ∀ b o, s0.heap.get? b = some o → ∃ o', s.heap.get? b = some o') (hz : s0.gens.size ≤ s.gens.size) (F : Fr s.heap L' h' m) (hL : s.heap.get? L' = none)
    (h1 : ∀ b, oh b → s0.heap.get? b = none ∧ ∃ o, s.heap.get? b = some o) (h2 : ∀ g, og g → s0.gens.size ≤ g ∧ g < s.gens.size)
    (hr : GRun w mean mg mb b0 kp dn (un + 1) strm gs (fun b => oh b ∨ b = L') og { s with heap := h'.push (genObj s.gens.size nm qn t t'), gens := s.gens.push gs, toks := tk }) :
    GenX w mean mg mb b0 kp dn (un + 2) strm h'.objs.size s.gens.size (fun b => (oh b ∨ b = L') ∨ b = h'.objs.size) (fun g => og g ∨ g = s.gens.size) s0 { s with heap := h'.push (genObj s.gens.size nm qn t t'), gens := s.gens.push gs, toks := tk } := by
  have hga : (h'.push (genObj s.gens.size nm qn t t')).IsGen h'.objs.size s.gens.size := ⟨_, _, _, Heap.get?_push_size _ rfl, rfl, rfl, rfl⟩
  have hn0 : h'.get? h'.objs.size = none := by
    cases e : h'.get? h'.objs.size with
    | none => rfl
    | some o => exact absurd (Heap.lt_size e) (Nat.lt_irrefl _)
  have hno : ∀ b, (∃ o, h'.get? b = some o) → b ≠ h'.objs.size := fun b ⟨o, ho⟩ q => by rw [q, hn0] at ho; cases ho
  obtain ⟨oL, _, _, hoL, _⟩ := id F.ns
  have s0n : ∀ b, s.heap.get? b = none → s0.heap.get? b = none := fun b hb => by
    cases e : s0.heap.get? b with
    | none => rfl
    | some o => obtain ⟨o', ho'⟩ := hx0 b o e; rw [hb] at ho'; cases ho'
  have sn : s.heap.get? h'.objs.size = none := by
    cases e : s.heap.get? h'.objs.size with
    | none => rfl
    | some o => rw [F.keep _ o e] at hn0; cases hn0
  refine ⟨hga, .inr rfl, next_of_gen strm hga (by simp) (fun q => absurd (h2 _ q).2 (Nat.lt_irrefl _)) (fun q => ?_) hr, fun b hb => ?_, fun g hg => ?_⟩
  · rcases q with q | q
    · obtain ⟨o, ho⟩ := (h1 _ q).2
      rw [sn] at ho; cases ho
    · exact hno L' ⟨_, hoL⟩ q.symm
  · rcases hb with (hb | rfl) | rfl
    · exact ⟨(h1 b hb).1, let ⟨o, ho⟩ := (h1 b hb).2; ⟨o, Heap.get?_push_of_some _ (F.keep b o ho)⟩⟩
    · exact ⟨s0n _ hL, oL, Heap.get?_push_of_some _ hoL⟩
    · exact ⟨s0n _ sn, _, Heap.get?_push_size _ rfl⟩
  · rcases hg with hg | rfl
    · exact ⟨(h2 g hg).1, by have := (h2 g hg).2; simp only [Array.size_push]; omega⟩
    · exact ⟨hz, by simp⟩
/-- the table after a code object was looked up or made at a place -/
theorem genexprCode_grow {M : Model} {A : Around} {E : Value → Shared → Prop} {s : Shared} {env : Env} {c P : Addr} {ps : Array Value} {pos : Pos} {qualname : Str} {scope : Scope} {Q : Value → Shared → Prop} (hc : env.code = .ref c) (hok : IsCd s.heap c P ps)
    (hQ : ∀ code h' tk ps', Heap.ExtBut P s.heap h' → IsCd h' c P ps' → (ps' = ps ∨ ∃ c', ps' = ps ++ #[rawInt pos.line, rawInt pos.col, .ref c']) → Q code { s with heap := h', toks := tk }) :
    wpAny M A (genexprCode env pos qualname scope) Q E s := by
  cases hnf : codeAmong pos ps.toList with
  | none => exact wpAny_genexprCodeX hc hok.1 hok.2 hnf fun c' h' tk hx _ _ hk _ ht _ => hQ _ h' tk _ hx ⟨hk, ht⟩ (.inr ⟨c', rfl⟩)
  | some cv =>
    obtain ⟨o, vs, file, tf, flags, tg, inF, text, tt, op, ho, hd, h11, h2, h7, h9, h10, hop, hpd, htr, hne⟩ := id hok.1
    unfold genexprCode codeAt
    rw [hc, if_neg (show ¬ ((Value.ref c == Value.none) = true) from Bool.false_ne_true)]
    refine wpAny_bind (wpAny_fieldsOf ho hd ?_)
    rw [h11]
    refine wpAny_bind (wpAny_fieldsOf hop hpd ?_)
    rw [hnf]
    exact wpAny_pure (hQ cv s.heap s.toks ps (Heap.ExtBut.refl _ _) hok (.inl rfl))
theorem codeAmong_other {pos : Pos} {l1 c1 : Int} {cv : Value} (hne : ¬ (l1 = pos.line ∧ c1 = pos.col)) : ∀ (l : List Value), TriplesOk l → codeAmong pos (l ++ [rawInt l1, rawInt c1, cv]) = codeAmong pos l := by
  intro l h
  fun_induction TriplesOk l with
  | case1 =>
    simp only [List.nil_append, codeAmong, rawInt]
    rw [if_neg]
    simpa using hne
  | case2 a t b u x rest ih =>
    simp only [List.cons_append, codeAmong]
    rw [ih h]
  | case3 l h1 h2 => exact h.elim
theorem genx {A : Around} {E : Value → Shared → Prop} {s s0 : Shared} {env : Env} {c P a g : Addr} {ps : Array Value} {strm : Strm} {oh : Addr → Prop} {Q : Value → Shared → Prop}
    (x0 : GenX w mean mg mb b0 kp dn un strm a g oh og s0 s) (hx0 : ∀ b o, s0.heap.get? b = some o → ∃ o', s.heap.get? b = some o') (hz : s0.gens.size ≤ s.gens.size) (hPs : ∃ o, s0.heap.get? P = some o)
    (T0 : Top topProg loose mean mg mb b0) (S : Ext b0 s.heap) (hP0 : b0.get? P = none)
    (hiter : ∀ Q' : Value → Shared → Prop, Q' (.ref a) s → wpAny (model Pg w) A (eval iter env) Q' E s)
    (hc : env.code = .ref c) (hge : env.globals = mainGlobals) (hok : IsCd s.heap c P ps) (hroom : A.depth < recursionLimit)
    (hco : scope.isCoroutine = false) (hclos : closureFor scope env = pure []) (hcell : ∀ y ∈ scope.names, y.2 ≠ .cell) (h0 : scope.names.lookup (".0" : Str) = some NameKind.local) (hkind : scope.kind = .function)
    (hx : scope.names.lookup x = some .local) (hdb : (x == ("__debug__" : Str)) = false) (hfold : ∀ v, genFold iter env v = pure v)
    (h : ∀ aG h' tk gs ps' g' oh' og', (∀ b o, b ≠ P → s.heap.get? b = some o → h'.get? b = some o) → IsCd h' c P ps' → (ps' = ps ∨ ∃ c', ps' = ps ++ #[rawInt gpos.line, rawInt gpos.col, .ref c']) → gs.bare = true →
      (∀ b, oh' b → oh b ∨ s.heap.get? b = none) → GenX w mean mg mb b0 kp (dn + 1) (un + 4) strm aG g' oh' og' s0 { s with heap := h', gens := s.gens.push gs, toks := tk } → Q (.ref aG) { s with heap := h', gens := s.gens.push gs, toks := tk }) :
    wpAny (model Pg w) A (eval (gxE x pe px iter scope gpos) env) Q E s := by
  refine wpAny_GeneratorExp_make hco hclos hcell h0 hkind hroom (hiter _ ?_) hfold
  refine wpAny_pyIter_gen (g := g) x0.hg ⟨T0.nolimit.keeps S, ?_⟩
  refine genexprCode_grow hc hok fun code h₃ tk₃ ps' hx₃ hok₃ hps => ?_
  have k3 : ∀ b o, b0.get? b = some o → h₃.get? b = some o := fun b o e => hx₃ b o (fun q => by rw [q, hP0] at e; cases e) (S b o e)
  obtain ⟨bm, ob, b1, b2, b3, b4, b5, b6⟩ := T0.bmain
  refine wpAny_builtinsFor (m := mg) (bm := bm) (by rw [hge]; exact T0.g.keeps k3) b1 b2 (k3 _ _ b3) b4 b5 b6 fun h' hn' hs' => ?_
  have hPoh : ∀ b, oh b → b ≠ P := fun b hb q => by
    obtain ⟨o, ho⟩ := hPs
    have := (x0.h1 b hb).1
    rw [q, ho] at this; cases this
  have k4 : ∀ b o, h₃.get? b = some o → h'.get? b = some o := fun b o e => hs'.extBut b o (Nat.ne_of_lt (Heap.lt_size e)) (Heap.get?_push_of_some _ e)
  have hL3 : h₃.get? h₃.objs.size = none := by
    cases e : h₃.get? h₃.objs.size with
    | none => rfl
    | some o => exact absurd (Heap.lt_size e) (Nat.lt_irrefl _)
  have s3 : ∀ b, (∃ o, s.heap.get? b = some o) → ∃ o, h₃.get? b = some o := fun b ⟨o, ho⟩ => by
    by_cases q : b = P
    · subst q
      exact hok₃.there
    · exact ⟨o, hx₃ b o q ho⟩
  have G := gen_newX (strm := strm) (s0 := s0) (s := { s with heap := h₃, toks := tk₃ }) (w := w) (mean := mean) (mg := mg) (mb := mb) (b0 := b0) (kp := kp) (dn := dn + 1) (un := un + 2) (oh := oh) (og := og) (L' := h₃.objs.size)
    (gs := .fresh (.compStart (gxE x pe px iter scope gpos) 0 (.ref a) .none (genEnv scope [] h₃.objs.size code builtinsNs env))) (h' := h') (nm := "<genexpr>") (qn := env.qual ++ "<genexpr>") (t := tk₃ + 1) (t' := tk₃ + 1 + 1) (tk := tk₃ + 1 + 1 + 1)
    (fun b o e => s3 b (hx0 b o e)) hz ⟨hn', k4, Nat.le_refl _⟩ hL3 (fun b hb => ⟨(x0.h1 b hb).1, s3 b (x0.h1 b hb).2⟩) x0.h2
    (gx_start (g := g) (cenv := genEnv scope [] h₃.objs.size code builtinsNs env) (C := h₃.objs.size) ⟨hkind, rfl, rfl, hx, hco, hdb⟩ (s := { s with heap := h'.push (genObj s.gens.size "<genexpr>" (env.qual ++ "<genexpr>") (tk₃ + 1) (tk₃ + 1 + 1)), gens := s.gens.push (.fresh (.compStart (gxE x pe px iter scope gpos) 0 (.ref a) .none (genEnv scope [] h₃.objs.size code builtinsNs env))), toks := tk₃ + 1 + 1 + 1 })
      (let ⟨o, nm, qn, ho, r⟩ := x0.hg; ⟨o, nm, qn, Heap.get?_push_of_some _ (k4 a o (hx₃ a o (hPoh a x0.ha) ho)), r⟩) x0.ha
      (nextok_congr (fun t ag => ⟨fun b o hb e => ag.heap b o hb (Heap.get?_push_of_some _ (k4 b o (hx₃ b o (hPoh b hb) e))), fun i hi => (ag.gens i hi).trans (by
        show (s.gens.push _)[i]? = _
        rw [Array.getElem?_push_lt (x0.h2 i hi).2]; exact (Array.getElem?_eq_getElem (x0.h2 i hi).2).symm)⟩) x0.hn)
      ⟨_, hn'.push _⟩ (fun q => by obtain ⟨o, ho⟩ := s3 _ (x0.h1 _ q).2; have ho' : h₃.get? h₃.objs.size = some o := ho; rw [hL3] at ho'; cases ho'))
  refine h h'.objs.size _ _ _ ps' _ _ _ (fun b o hb e => Heap.get?_push_of_some _ (k4 b o (hx₃ b o hb e))) (hok₃.keeps fun b o e => Heap.get?_push_of_some _ (k4 b o e)) hps rfl (fun b hb => ?_) G
  rcases hb with (hb | rfl) | rfl
  · exact .inl hb
  · refine .inr ?_
    cases e : s.heap.get? h₃.objs.size with
    | none => rfl
    | some o => obtain ⟨o', ho'⟩ := s3 _ ⟨o, e⟩; rw [hL3] at ho'; cases ho'
  · refine .inr ?_
    cases e : s.heap.get? h'.objs.size with
    | none => rfl
    | some o => obtain ⟨o', ho'⟩ := s3 _ ⟨o, e⟩; exact absurd (Heap.lt_size (k4 _ _ ho')) (Nat.lt_irrefl _)
end

end
section
open PySem PySem.W PyProof.Rows PySem.Calls PySem.W.X
set_option Elab.async false
set_option maxRecDepth 100000
set_option maxHeartbeats 8000000
set_option linter.unusedVariables false
set_option pp.deepTerms false
set_option pp.maxSteps 6000
theorem hideP_size {h : Heap} {p : Addr → Prop} : (hideP h p).objs.size = h.objs.size := hideAll_size _ _
/-- everything but the two tables -/
noncomputable abbrev isTab (b : Addr) : Prop := b = 248 ∨ b = 255
noncomputable abbrev offT (h : Heap) : Heap := hideP h isTab
theorem fr_off {h₀ h : Heap} {L : Addr} {m : PySem.Str → Option Value} (F : Fr h₀ L h m) : Fr (offT h₀) L h m := ⟨F.ns, fun b o e => F.keep b o (of_hideP e), Nat.le_trans (Nat.le_of_eq hideP_size) F.above⟩
theorem off_none {h : Heap} {b : Addr} (e : h.get? b = none) : (offT h).get? b = none := by
  cases q : (offT h).get? b with
  | none => rfl
  | some o => rw [of_hideP q] at e; cases e
theorem news_off {h₀ h : Heap} {L : Addr} {news : List (Addr × Obj)} (N : News h₀ L h news) : News (offT h₀) L h news := fun p hp => ⟨(N p hp).1, (N p hp).2.1, off_none (N p hp).2.2⟩
theorem ext_off {b0 h : Heap} (S : Ext b0 h) (h1 : b0.get? 248 = none) (h2 : b0.get? 255 = none) : Ext b0 (offT h) := fun b o e => hideP_get (S b o e) fun q => by
  rcases q with q | q
  · rw [q, h1] at e; cases e
  · rw [q, h2] at e; cases e
theorem isCode_off {h : Heap} {c P b : Addr} {ps : Array Value} {o : Obj} (x : IsCd h c P ps) (e : h.get? b = some o) (hn : ∀ vs, o.data ≠ .fields vs) : b ≠ P := fun q => by
  obtain ⟨op, hop, hd⟩ := x.parts.2.1
  rw [q, hop] at e; cases e; exact hn _ hd
noncomputable abbrev gxScope : Scope := { kind := ScopeKind.function, names := [(Str.ofString ".0", NameKind.local), (Str.ofString "h", NameKind.local)], isGenerator := true, isCoroutine := false }
theorem hostck_gen {w : World} {mean : ExcName → Option Value} {mg mb : Str → Option Value} {b0 : Heap} {outer : List Env} {s s0 : Shared} {A : Around} {Q E : Value → Shared → Prop} {env : Env} {pe px pi pos : Pos} {L : Addr} {m : PySem.Str → Option Value}
    {kp : List (Addr × Obj)} {dn un' tk : Nat} {h₁ : Heap} {strm : Strm} {c P a : Addr} {ps : Array Value}
    (hsrc : GenAt w mean mg mb b0 kp dn un' strm a s0 s) (hx0 : ∀ b o, s0.heap.get? b = some o → ∃ o', s.heap.get? b = some o') (hz : s0.gens.size ≤ s.gens.size) (hPs : ∃ o, s0.heap.get? P = some o) (G : Gd w mean mg mb b0 outer s.heap) (hP1 : b0.get? P = none) (hok : IsCd s.heap c P ps) (hroom : A.depth < recursionLimit) (F1 : Fr s.heap L h₁ m)
    (hiter : ∀ Q' : Value → Shared → Prop, Q' (.ref a) { s with heap := h₁, toks := tk } → wpAny (model Pg w) A (eval (.Name (Str.ofString "headers") pi) env) Q' E { s with heap := h₁, toks := tk })
    (hc : env.code = .ref c ) (hge : env.globals = mainGlobals )
    (h : ∀ aG h' tk' gs ps', (∀ b o, b ≠ P → s.heap.get? b = some o → h'.get? b = some o) → IsCd h' c P ps' → gs.bare = true → GenAt w mean mg mb b0 kp (dn + 1) (un' + 4) strm aG s0 { s with heap := h', gens := s.gens.push gs, toks := tk' } → Q (.ref aG) { s with heap := h', gens := s.gens.push gs, toks := tk' }) :
    wpAny (model Pg w) A (eval (gxE (Str.ofString "h") pe px (.Name (Str.ofString "headers") pi) gxScope pos) env) Q E { s with heap := h₁, toks := tk } := by
  obtain ⟨g, oh, og, x⟩ := hsrc.toX
  refine genx (s := { s with heap := h₁, toks := tk }) (x.later ⟨fun b o _ e => F1.keep _ _ e, fun _ _ _ => rfl⟩) (fun b o e => let ⟨o', ho'⟩ := hx0 b o e; ⟨o', F1.keep _ _ ho'⟩) hz hPs G.T0 (fun b o e => F1.keep _ _ (G.S b o e)) hP1 hiter hc hge (hok.keeps F1.keep) hroom rfl (by with_unfolding_all rfl) (by decide) rfl rfl rfl (by decide) (fun _ => rfl) fun aG h' tk' gs ps' g' oh' og' h1 h2 h3 h4 h5 h6 => ?_
  exact h aG h' tk' gs ps' (fun b o hb e => h1 b o hb (F1.keep _ _ e)) h2 h4 h6.at
theorem HostCk_c {w : World} {mean : ExcName → Option Value} {mg mb : Str → Option Value} {b0 : Heap} {outer : List Env} {dp un : Nat} {gd : Option (List Code)} {s s0 : Shared} {Q E : Value → Shared → Prop}
    {kp : List (Addr × Obj)} {dn un' : Nat} {strm : Strm} {a fa dx : Addr} {p q r t : Bool} {nf : Nat} {ps : Array Value}
    (G : Gd w mean mg mb b0 outer s.heap) (hdp : dp + 30 < recursionLimit) (hun : un + 130 < cLine) (hb0 : b0.objs.size ≤ s.heap.objs.size) (hkp : Kept kp s.heap)
    (hP1 : b0.get? 248 = none) (hP2 : b0.get? 255 = none) (hPs : ∃ o, s0.heap.get? 248 = some o) (ht255 : ∃ ps, IsCd s.heap 259 255 ps)
    (hx0 : ∀ b o, s0.heap.get? b = some o → ∃ o', s.heap.get? b = some o') (hz : s0.gens.size ≤ s.gens.size)
    (hsrc : GenAt w mean mg mb b0 kp dn un' strm a s0 s) (hall : strmAll (Item kp) strm)
    (hfa : s.heap.get? fa = some (flagO p q r t dx nf)) (hok : IsCd s.heap 252 248 ps)
    (ret : ∀ aG h' tk gs ps', (∀ b o, b ≠ 248 → s.heap.get? b = some o → h'.get? b = some o) → IsCd h' 252 248 ps' → gs.bare = true →
      GenAt w mean mg mb b0 kp (dn + 1) (un' + 4) (if r || q then strm else outS (stHost kp) finHost (none, none) strm) aG s0 { s with heap := h', gens := s.gens.push gs, toks := tk } → Q (.ref aG) { s with heap := h', gens := s.gens.push gs, toks := tk }) :
    wpAny (model Pg w) (AZ dp un gd outer) (call (.ref 253) [.ref a, .ref fa]) Q E s := by
  k_with_none
  k_with "getMethod bytes" => (k_here; (with_reducible first | refine gm_lower ?_ | refine gm_strip ?_ | refine gm_find ?_))
  k_with "pyReprObj" => (k_here; (refine repr_K (by kba_ints) (by kba_size) ?_); intro _ _ _ _; (try dsimp only))
  k_with "call builtin:bytes.lower" => (k_here; (refine lower_K (by kba_ints) (by kba_size) ?_); intro _ _ _ _; (try dsimp only))
  k_with "call builtin:bytes.find" => (k_here; (refine find_K (by kba_ints) (by first | assumption | rfl | decide +kernel) ?_); intro _ _ _ _; (try dsimp only))
  k_with "compareOp Eq" => (k_here; (with_reducible show wpAny _ _ (compareOp CmpOp.Eq (Value.bytes _ _) (Value.bytes _ _)) _ _ _); (refine eqB_K (by kba_ints) (by kba_ints) ?_))
  k_with "compareOp NotEq" => (k_here; (with_reducible show wpAny _ _ (compareOp CmpOp.NotEq (Value.bytes _ _) (Value.bytes _ _)) _ _ _); (refine neB_K (by kba_ints) (by kba_ints) ?_))
  k_with "compareOp Eq bytes bytes" => (k_here; (refine eqB_K (by kba_ints) (by kba_ints) ?_))
  k_with "compareOp NotEq bytes bytes" => (k_here; (refine neB_K (by kba_ints) (by kba_ints) ?_))
  k_with "compareOp In bytes ref" => (k_here; k_dflt (first | (refine' in_tupB (kss := ownL) (tupK ?qX ?qF ?qh) ?qhb ?qhit ?qhk ?_; (case qX => assumption); (case qF => assumption); (case qh => k_is); (case qhb => exact rfl); (case qhit => exact rfl); (case qhk => kba_ints)) | (refine' in_tupB (kss := allowedL) (tupK ?qX ?qF ?qh) ?qhb ?qhit ?qhk ?_; (case qX => assumption); (case qF => assumption); (case qh => k_is); (case qhb => exact rfl); (case qhit => exact rfl); (case qhk => kba_ints))))
  k_with "compareOp NotIn bytes ref" => (k_here; k_dflt (refine' notIn_tupB (kss := allowedL) (tupK ?qX ?qF ?qh) ?qhb ?qhit ?qhk ?_; (case qX => assumption); (case qF => assumption); (case qh => k_is); (case qhb => exact rfl); (case qhit => exact rfl); (case qhk => kba_ints)))
  k_with "subscriptTail" => (k_here; (with_reducible show wpAny _ _ (subscriptTail _ _ (Value.bytes _ _) (Value.int _ _)) _ _ _); (first | refine item0_A (by kba_ints) (by omega) (by omega) ?_ | refine itemL_A (by kba_ints) (by omega) (by omega) ?_); intro _ _ _ _ _ _; (try dsimp only))
  k_with "exec For" => (k_here; (with_unfolding_all refine' For_mine ?qF ?qhE ?qhx ?qhp ?qhs ?_; (case qF => assumption); (case qhE => assumption); (case qhx => exact rfl); (case qhp => exact rfl); (case qhs => exact fun _ => rfl); k_whole))
  k_with "exec For Name Name cons nil" => (k_here; (with_unfolding_all refine' For_mine ?qF ?qhE ?qhx ?qhp ?qhs ?_; (case qF => assumption); (case qhE => assumption); (case qhx => exact rfl); (case qhp => exact rfl); (case qhs => exact fun _ => rfl); k_whole))
  k_with "subscriptTail" => (k_here; (with_reducible show wpAny _ _ (subscriptTail _ _ (Value.ref _) (Value.int _ _)) _ _ _); (first | (refine pair0_A (by k_asm) (by assumption) ?_) | (refine pair1_A (by k_asm) (by assumption) ?_)))
  k_with "getAttr ref" => (k_here; (with_reducible show wpAny _ _ (getAttr (Value.ref _) (Str.ofString "is_trailer") _) _ _ _); k_dflt (refine flag1_K (by k_asm) (by k_asm) (by k_asm) (by k_asm) (by with_reducible assumption) (by first | omega | (dsimp only; omega) | (dsimp only [AZ]; omega)) (by first | omega | (dsimp only; omega) | (dsimp only [AZ]; omega)) ?_); intro _ _ _ _; (try dsimp only))
  k_with "getAttr ref" => (k_here; (with_reducible show wpAny _ _ (getAttr (Value.ref _) (Str.ofString "is_response_header") _) _ _ _); k_dflt (refine flag2_K (by k_asm) (by k_asm) (by k_asm) (by k_asm) (by with_reducible assumption) (by first | omega | (dsimp only; omega) | (dsimp only [AZ]; omega)) (by first | omega | (dsimp only; omega) | (dsimp only [AZ]; omega)) ?_); intro _ _ _ _; (try dsimp only))
  have X := G.X
  have T := G.T
  refine wpAny_call ?_
  k_dflt (refine' enter (binds := [(Str.ofString "headers", .ref a), (Str.ofString "hdr_validation_flags", .ref fa)]) X T.nolimit ?ho ?hcd ?hroom ?hbind ?hloc ?_ ?c5 ?c6 ?c7 ?c8; (case ho => k_is); (case hcd => k_is); (case hroom => show dp < recursionLimit; omega); (case hbind => exact rfl); (case hloc => exact locs rfl); (case c5 => decide); (case c6 => exact rfl); (case c7 => exact rfl); (case c8 => exact rfl); k_whole; intro L' h' F' N')
  cases r with
  | true =>
    k_steps
    rename_i F1 N1
    refine hostck_gen hsrc hx0 hz hPs G hP1 hok ?hr F1 ?hit rfl rfl fun aG h' tk gs ps' h1 h2 h3 h4 => ret aG h' tk gs ps' h1 h2 h3 h4
    case hr => show dp + 1 < recursionLimit; omega
    case hit => exact fun Q' hq => ld F1 rfl hq
  | false =>
    cases q with
    | true =>
      k_steps
      rename_i F1 N1
      refine hostck_gen hsrc hx0 hz hPs G hP1 hok ?hr F1 ?hit rfl rfl fun aG h' tk gs ps' h1 h2 h3 h4 => ret aG h' tk gs ps' h1 h2 h3 h4
      case hr => show dp + 1 < recursionLimit; omega
      case hit => exact fun Q' hq => ld F1 rfl hq
    | false =>
      k_steps
      rename_i F1 N1
      refine Host_c (dp := dp + 1) (un := un + 3) (outer := _ :: outer) (s0 := s0) ((G.ext F1.keep).cons (fun e => nomatch e) rfl F1.ns) (by omega) (by omega) (Nat.le_trans hb0 (Nat.le_trans F1.above (Nat.le_of_lt F1.ns.lt))) (hkp.keeps fun p _ o e => F1.keep _ _ e) (fun b o e => let ⟨o', ho'⟩ := hx0 b o e; ⟨o', F1.keep _ _ ho'⟩) hz (hsrc.src.later ⟨fun b o _ e => F1.keep _ _ e, fun _ _ _ => rfl⟩) hall fun a' h' tk' gs x hb hg => ?_
      exact ret a' h' tk' gs ps (fun b o _ e => x b o (F1.keep b o e)) (hok.keeps fun b o e => x b o (F1.keep b o e)) hb hg

end
section
open PySem PySem.W PyProof.Rows PySem.Calls PySem.W.X
set_option Elab.async false
set_option maxRecDepth 100000
set_option maxHeartbeats 4000000
set_option linter.unusedVariables false
section
variable {M : Model} {A : Around} {E : Value → Shared → Prop} {s : Shared} {name : Str} {params : Arguments} {body : List Stmt} {scope : Scope} {env : Env} {c P : Addr} {ps : Array Value} {pos : Pos} {mean : ExcName → Option Value} {mg mb : Str → Option Value} {b0 : Heap}
  {q : Str × Addr} {clos : List (Str × Addr)} {Q : Flow → Shared → Prop}
/-- a def within a def: the code's table may have it already -/
theorem def_in (T0 : Top topProg loose mean mg mb b0) (S : Ext b0 s.heap) (hP0 : b0.get? P = none) (hcl : closureFor scope env = pure (q :: clos)) (hge : env.globals = mainGlobals) (hcode : env.code = .ref c) (hok : IsCd s.heap c P ps) (hdoc : docOf body = none)
    (hd0 : params.defaults = []) (hk0 : params.kw_defaults = []) (ha : annTrees params none env = [])
    (h : ∀ f cv ctv h' tk ps', (∀ b o, b ≠ P → s.heap.get? b = some o → h'.get? b = some o) → IsCd h' c P ps' →
      ((codeAmong pos ps.toList = some cv ∧ ps' = ps) ∨ (codeAmong pos ps.toList = none ∧ ∃ c', cv = .ref c' ∧ s.heap.objs.size ≤ c' ∧ h'.CodeRec cv (qualnameIn env name name) ∧ ps' = ps ++ #[rawInt pos.line, rawInt pos.col, .ref c'])) → s.heap.objs.size ≤ f →
      h'.get? f = some { cls := .type "function", data := .func (fnX name (qualnameIn env name name) params body scope (q :: clos) .none .none .none ((mg "__name__").getD .none) none cv ctv) } →
      wpAny M A (storeName env name (.ref f)) (fun _ s'' => Q .next s'') E { s with heap := h', toks := tk }) :
    wpAny M A (exec (.FunctionDef name params body [] none [] scope none name pos) env) Q E s := by
  refine nestDef_K hd0 hk0 ha ?_
  rw [makeFunction_eq]
  simp only [List.zip_nil_right, List.filterMap_nil, List.isEmpty_nil, if_true, pure_bind]
  unfold makeTail
  rw [hcl, hge]
  refine wpAny_bind (wpAny_pure ?_)
  simp only [List.isEmpty_cons, Bool.false_eq_true, if_false]
  refine wpAny_bind (wpAny_newTextTuple ?_)
  generalize hH : s.heap.push { cls := .type "tuple", data := .seq (((q :: clos).mergeSort fun a b => decide (a.1.cps.toList ≤ b.1.cps.toList)).map fun x => Value.ref x.2).toArray } = H
  have kH : ∀ b o, s.heap.get? b = some o → H.get? b = some o := fun b o e => hH ▸ Heap.get?_push_of_some _ e
  have zH : s.heap.objs.size ≤ H.objs.size := by rw [← hH, Heap.size_push]; omega
  obtain ⟨bm, ob, b1, b2, b3, b4, b5, b6⟩ := T0.bmain
  have fin : ∀ (cv : Value) (h₃ : Heap) (tk : Nat) (ps' : Array Value) (ctv : Value), (∀ b o, b ≠ P → H.get? b = some o → h₃.get? b = some o) → IsCd h₃ c P ps' → H.objs.size ≤ h₃.objs.size →
      ((codeAmong pos ps.toList = some cv ∧ ps' = ps) ∨ (codeAmong pos ps.toList = none ∧ ∃ c', cv = .ref c' ∧ s.heap.objs.size ≤ c' ∧ h₃.CodeRec cv (qualnameIn env name name) ∧ ps' = ps ++ #[rawInt pos.line, rawInt pos.col, .ref c'])) →
      wpAny M A (builtinsFor mainGlobals env.builtins) (fun bi s₄ => wpAny M A (nsGet mainGlobals "__name__") (fun nm s₅ => wpAny M A (newObj (.type "function") (.func { fnX name (qualnameIn env name name) params body scope (q :: clos) .none .none .none (nm.getD .none) none cv ctv with builtins := bi }))
        (fun v s' => wpAny M A (storeName env name v) (fun _ s'' => Q .next s'') E s') E s₅) E s₄) E { s with heap := h₃, toks := tk } := by
    intro cv h₃ tk ps' ctv hx hok' hz hps
    have k3 : ∀ b o, b0.get? b = some o → h₃.get? b = some o := fun b o e => hx b o (fun q => by rw [q, hP0] at e; cases e) (kH b o (S b o e))
    refine wpAny_builtinsFor (m := mg) (bm := bm) (T0.g.keeps k3) b1 b2 (k3 _ _ b3) b4 b5 b6 ?_
    refine wpAny_nsGet (T0.g.keeps k3) ?_
    refine wpAny_newObj_type ?_ (by size_fits)
    refine h h₃.objs.size cv ctv _ _ ps' (fun b o hb e => Heap.get?_push_of_some _ (hx b o hb (kH b o e))) (hok'.push _) ?_ (Nat.le_trans zH hz) (Heap.get?_push_size _ rfl)
    rcases hps with hps | ⟨hn, c', e1, e2, ⟨c₂, o₂, vs₂, t₂, e₂, g₂, r₂⟩, e4⟩
    · exact .inl hps
    · exact .inr ⟨hn, c', e1, e2, ⟨c₂, o₂, vs₂, t₂, e₂, Heap.get?_push_of_some _ g₂, r₂⟩, e4⟩
  cases hca : codeAmong pos ps.toList with
  | some cv =>
    refine wpAny_bind (wpAny_functionCode_hit hcode (hok.keeps kH).1 hca ?_)
    have f1 := fin cv H s.toks ps (.ref s.heap.objs.size) (fun b o _ e => e) (hok.keeps kH) (Nat.le_refl _) (.inl ⟨hca, rfl⟩)
    refine wpAny_bind (wpAny_mono f1 (fun bi s₄ h₄ => wpAny_bind (wpAny_mono h₄ (fun nm s₅ h₅ => ?_) fun _ _ x => x)) fun _ _ x => x)
    refine wpAny_bind (by simp only [hdoc]; exact wpAny_pure h₅)
  | none =>
    refine wpAny_bind (wpAny_functionCodeX hcode (hok.keeps kH).1 (hok.keeps kH).2 hca fun c' h' tk hx hge' hlt hok1 hrec hok2 _ => ?_)
    have f1 := fin (.ref c') h' tk _ (.ref s.heap.objs.size) (fun b o hb e => hx b o hb e) ⟨hok1, hok2⟩ (Nat.le_of_lt (Nat.lt_of_le_of_lt hge' hlt)) (.inr ⟨hca, c', rfl, Nat.le_trans zH hge', hrec, rfl⟩)
    refine wpAny_bind (wpAny_mono f1 (fun bi s₄ h₄ => wpAny_bind (wpAny_mono h₄ (fun nm s₅ h₅ => ?_) fun _ _ x => x)) fun _ _ x => x)
    refine wpAny_bind (by simp only [hdoc]; exact wpAny_pure h₅)
end
section
variable {w : World} {A : Around} {s : Shared} {R : Result → Shared → Prop} {name qual : Str} {params : Arguments} {body : List Stmt} {scope : Scope} {cl : List (Str × Addr)} {doc pm cdv ctv : Value} {f : Addr} {args : Args} {binds : List (Str × Value)}
/-- a generator's def made within a def is called -/
theorem enterGX (hlim : s.heap.NoLimit) (ho : s.heap.get? f = some { cls := .type "function", data := .func (fnX name qual params body scope cl .none .none doc pm none cdv ctv) }) (hcd : s.heap.CodeRec cdv qual) (hroom : A.depth < recursionLimit)
    (hbind : bindArgs (fnX name qual params body scope cl .none .none doc pm none cdv ctv) args = pure binds) (hloc : ∀ y ∈ binds, scope.names.lookup y.1 = some .local)
    (h : ∀ L' h₁ tk₁ n q t t', (L' : Nat) = s.heap.objs.size → Fr s.heap L' h₁ (fun y => binds.reverse.lookup y) →
      R (.ok (.ret (.ref h₁.objs.size))) { s with gens := s.gens.push (.fresh (.func body (envX qual scope L' f cdv cl))), toks := tk₁, heap := h₁.push (genObj s.gens.size n q t t') })
    (hcell : ∀ x ∈ scope.names, x.2 ≠ .cell) (hco : scope.isCoroutine = false) (hgen : scope.isGenerator = true) (hk : scope.kind = .function) :
    codeAny (model Pg w) A (.call (.ref f) args) R s := by
  refine codeAny_call_generator (fd := fnX name qual params body scope cl .none .none doc pm none cdv ctv) (body := body) hroom ho rfl hco hgen rfl hcd ?_
  rw [hbind]
  refine wpAny_pure ?_
  refine wpAny_newFunctionEnv hcell hloc (fun h₀ hns₀ hsb₀ => ?_) hk
  have kp : ∀ b o, s.heap.get? b = some o → h₀.get? b = some o := fun b o e => hsb₀.extBut b o (Nat.ne_of_lt (Heap.lt_size e)) (Heap.get?_push_of_some _ e)
  exact ⟨hlim.fresh _ hsb₀, h _ h₀ _ _ _ _ _ rfl ⟨hns₀, kp, Nat.le_refl _⟩⟩
end

end
section
open PySem PySem.W PyProof.Rows PySem.Calls PySem.W.X
set_option Elab.async false
set_option maxRecDepth 100000
set_option maxHeartbeats 8000000
set_option linter.unusedVariables false
set_option pp.deepTerms false
set_option pp.maxSteps 6000
noncomputable def okPath (n x : List Int) : Bool := !(decide (n = nPath) && decide (x = []))
noncomputable def stPath (kp : List (Addr × Obj)) (_ : Unit) (v : Value) : Option Unit := if okPath (cont kp v).1 (cont kp v).2 then some () else none
noncomputable abbrev inPos : Pos := { line := 296, col := 4, endLine := 301, endCol := 24 }
noncomputable abbrev inQual : Str := "_check_path_header.<locals>.inner"
theorem isCode_tab {h : Heap} {c P : Addr} {ps : Array Value} (x : IsCd h c P ps) : ∃ op, h.get? P = some op ∧ ∀ h' : Heap, (∀ o, h.get? c = some o → h'.get? c = some o) → h'.get? P = some op → IsCd h' c P ps :=
  ⟨_, x.tab, fun h' k1 k2 => x.move k1 fun o e => by rw [x.tab] at e; cases e; exact k2⟩
theorem fr_off2 {h₀ h : Heap} {L : Addr} {m : PySem.Str → Option Value} (hn : h.Ns L m) (k : ∀ b o, b ≠ 255 → h₀.get? b = some o → h.get? b = some o) (hl : h₀.objs.size ≤ L) : Fr (offT h₀) L h m :=
  ⟨hn, fun b o e => k b o (fun q => hideP_notp e (.inr q)) (of_hideP e), Nat.le_trans (Nat.le_of_eq hideP_size) hl⟩
theorem PathCk_c {w : World} {mean : ExcName → Option Value} {mg mb : Str → Option Value} {b0 : Heap} {outer : List Env} {dp un : Nat} {gd : Option (List Code)} {s s0 : Shared} {Q E : Value → Shared → Prop}
    {kp : List (Addr × Obj)} {dn un' : Nat} {strm : Strm} {a fa dx g : Addr} {oh : Addr → Prop} {og : Nat → Prop} {p q r t : Bool} {nf : Nat} {ps : Array Value}
    (G : Gd w mean mg mb b0 outer s.heap) (hdp : dp + 30 < recursionLimit) (hun : un + 130 < cLine) (hb0 : b0.objs.size ≤ s.heap.objs.size) (hkp : Kept kp s.heap)
    (hP1 : b0.get? 248 = none) (hP2 : b0.get? 255 = none) (hPs : ∃ o, s0.heap.get? 255 = some o) (ht248 : ∃ ps, IsCd s.heap 252 248 ps)
    (hx0 : ∀ b o, s0.heap.get? b = some o → ∃ o', s.heap.get? b = some o') (hz : s0.gens.size ≤ s.gens.size)
    (hsrc : GenX w mean mg mb b0 kp dn un' strm a g oh og s0 s) (hall : strmAll (Item kp) strm)
    (hfa : s.heap.get? fa = some (flagO p q r t dx nf)) (hok : IsCd s.heap 259 255 ps)
    (hrec : ∀ cv, codeAmong inPos ps.toList = some cv → ∃ c', cv = .ref c' ∧ c' ≠ 255 ∧ c' ≠ 248 ∧ ¬ oh c' ∧ s.heap.CodeRec cv inQual)
    (ret : ∀ aG h' tk gs ps' g' oh' og', (∀ b o, b ≠ 255 → s.heap.get? b = some o → h'.get? b = some o) → IsCd h' 259 255 ps' → gs.bare = true →
      (∀ cv, codeAmong inPos ps'.toList = some cv → ∃ c', cv = .ref c' ∧ c' ≠ 255 ∧ c' ≠ 248 ∧ ¬ oh' c' ∧ h'.CodeRec cv inQual) →
      GenX w mean mg mb b0 kp (dn + 1) (un' + 4) (if r || q then strm else outS (stPath kp) (fun _ => true) () strm) aG g' oh' og' s0 { s with heap := h', gens := s.gens.push gs, toks := tk } → Q (.ref aG) { s with heap := h', gens := s.gens.push gs, toks := tk }) :
    wpAny (model Pg w) (AZ dp un gd outer) (call (.ref 260) [.ref a, .ref fa]) Q E s := by
  k_with_none
  k_with "getMethod bytes" => (k_here; (with_reducible first | refine gm_lower ?_ | refine gm_strip ?_ | refine gm_find ?_))
  k_with "pyReprObj" => (k_here; (refine repr_K (by kba_ints) (by kba_size) ?_); intro _ _ _ _; (try dsimp only))
  k_with "call builtin:bytes.lower" => (k_here; (refine lower_K (by kba_ints) (by kba_size) ?_); intro _ _ _ _; (try dsimp only))
  k_with "call builtin:bytes.find" => (k_here; (refine find_K (by kba_ints) (by first | assumption | rfl | decide +kernel) ?_); intro _ _ _ _; (try dsimp only))
  k_with "compareOp Eq" => (k_here; (with_reducible show wpAny _ _ (compareOp CmpOp.Eq (Value.bytes _ _) (Value.bytes _ _)) _ _ _); (refine eqB_K (by kba_ints) (by kba_ints) ?_))
  k_with "compareOp NotEq" => (k_here; (with_reducible show wpAny _ _ (compareOp CmpOp.NotEq (Value.bytes _ _) (Value.bytes _ _)) _ _ _); (refine neB_K (by kba_ints) (by kba_ints) ?_))
  k_with "compareOp Eq bytes bytes" => (k_here; (refine eqB_K (by kba_ints) (by kba_ints) ?_))
  k_with "compareOp NotEq bytes bytes" => (k_here; (refine neB_K (by kba_ints) (by kba_ints) ?_))
  k_with "compareOp In bytes ref" => (k_here; k_dflt (first | (refine' in_tupB (kss := ownL) (tupK ?qX ?qF ?qh) ?qhb ?qhit ?qhk ?_; (case qX => assumption); (case qF => assumption); (case qh => k_is); (case qhb => exact rfl); (case qhit => exact rfl); (case qhk => kba_ints)) | (refine' in_tupB (kss := allowedL) (tupK ?qX ?qF ?qh) ?qhb ?qhit ?qhk ?_; (case qX => assumption); (case qF => assumption); (case qh => k_is); (case qhb => exact rfl); (case qhit => exact rfl); (case qhk => kba_ints))))
  k_with "compareOp NotIn bytes ref" => (k_here; k_dflt (refine' notIn_tupB (kss := allowedL) (tupK ?qX ?qF ?qh) ?qhb ?qhit ?qhk ?_; (case qX => assumption); (case qF => assumption); (case qh => k_is); (case qhb => exact rfl); (case qhit => exact rfl); (case qhk => kba_ints)))
  k_with "subscriptTail" => (k_here; (with_reducible show wpAny _ _ (subscriptTail _ _ (Value.bytes _ _) (Value.int _ _)) _ _ _); (first | refine item0_A (by kba_ints) (by omega) (by omega) ?_ | refine itemL_A (by kba_ints) (by omega) (by omega) ?_); intro _ _ _ _ _ _; (try dsimp only))
  k_with "exec For" => (k_here; (with_unfolding_all refine' For_mine ?qF ?qhE ?qhx ?qhp ?qhs ?_; (case qF => assumption); (case qhE => assumption); (case qhx => exact rfl); (case qhp => exact rfl); (case qhs => exact fun _ => rfl); k_whole))
  k_with "exec For Name Name cons nil" => (k_here; (with_unfolding_all refine' For_mine ?qF ?qhE ?qhx ?qhp ?qhs ?_; (case qF => assumption); (case qhE => assumption); (case qhx => exact rfl); (case qhp => exact rfl); (case qhs => exact fun _ => rfl); k_whole))
  k_with "subscriptTail" => (k_here; (with_reducible show wpAny _ _ (subscriptTail _ _ (Value.ref _) (Value.int _ _)) _ _ _); (first | (refine pair0_A (by k_asm) (by assumption) ?_) | (refine pair1_A (by k_asm) (by assumption) ?_)))
  k_with "getAttr ref" => (k_here; (with_reducible show wpAny _ _ (getAttr (Value.ref _) (Str.ofString "is_trailer") _) _ _ _); k_dflt (refine flag1_K (by k_asm) (by k_asm) (by k_asm) (by k_asm) (by with_reducible assumption) (by first | omega | (dsimp only; omega) | (dsimp only [AZ]; omega)) (by first | omega | (dsimp only; omega) | (dsimp only [AZ]; omega)) ?_); intro _ _ _ _; (try dsimp only))
  k_with "getAttr ref" => (k_here; (with_reducible show wpAny _ _ (getAttr (Value.ref _) (Str.ofString "is_response_header") _) _ _ _); k_dflt (refine flag2_K (by k_asm) (by k_asm) (by k_asm) (by k_asm) (by with_reducible assumption) (by first | omega | (dsimp only; omega) | (dsimp only [AZ]; omega)) (by first | omega | (dsimp only; omega) | (dsimp only [AZ]; omega)) ?_); intro _ _ _ _; (try dsimp only))
  k_with "exec Raise some none" => (k_here; (with_reducible show wpAny _ _ (exec (Stmt.Raise (some (Expr.Call (Expr.Name _ _) (_ :: _) [] _)) none _) _) _ _ _); k_dflt (refine' Raise_G ?qld ?qO PySem.F.excBase_Exception ?qh ?_ ?qa ?qb; (case qld => (intro _ hq'; k_steps; exact hq')); (case qO => exact own_of_in (by k_asm) (by k_asm) (by k_is) (by k_exc)); (case qh => first | rfl | assumption); (case qa => rfl); (case qb => rfl); k_whole))
  have X := G.X
  have T := G.T
  refine wpAny_call ?_
  k_dflt (refine' enterC (binds := [(Str.ofString "headers", .ref a), (Str.ofString "hdr_validation_flags", .ref fa)]) X T.nolimit ?ho ?hcd ?hroom ?hbind ?hkind ?hnd ?_ ?c6 ?c7 ?c8; (case ho => k_is); (case hcd => k_is); (case hroom => show dp < recursionLimit; omega); (case hbind => exact rfl); (case hkind => exact fun n y hy => by { rcases List.mem_cons.mp hy with rfl | hy; exact .inr ⟨rfl, rfl⟩; rcases List.mem_cons.mp hy with rfl | hy; exact .inl rfl; cases hy }); (case hnd => decide); (case c6 => exact rfl); (case c7 => exact rfl); (case c8 => exact rfl); k_whole; intro L' h' tk' cells' F' N' Y')
  obtain ⟨o', hE', d1'⟩ := CellsAre.one Y'
  subst hE'
  clear Y'
  have d1 : o'.data = .cell (some (.ref a)) := d1'
  clear d1'
  have x0 := ext_off G.S hP1 hP2
  have Xb := G.X0.keeps x0
  have Tb := G.T0.keeps x0
  obtain ⟨ps2, hok2⟩ := ht248
  have hfb : (offT s.heap).get? fa = some (flagO p q r t dx nf) := hideP_get hfa fun z => z.elim (isCode_off hok2 hfa (fun vs h => nomatch h)) (isCode_off hok hfa (fun vs h => nomatch h))
  obtain ⟨op1, hop1, mv1⟩ := isCode_tab hok2
  k_steps
  refine def_in (P := 255) (c := 259) (ps := ps) G.T0 (fun b o e => F'.keep _ _ (G.S b o e)) hP2 rfl rfl rfl (hok.keeps F'.keep) rfl rfl rfl rfl fun f cv ctv h₂ tk₂ ps₂ hx₂ hok₂ hps₂ hf₂ hfo₂ => ?_
  dsimp only at hx₂ hf₂ hfo₂
  have k2 : ∀ b o, b ≠ 255 → s.heap.get? b = some o → h₂.get? b = some o := fun b o hb e => hx₂ b o hb (F'.keep _ _ e)
  obtain ⟨op2, hop2, mv2⟩ := isCode_tab hok₂
  have h5lt : (255 : Nat) < s.heap.objs.size := by
    obtain ⟨op, hop⟩ := hok.there
    exact Heap.lt_size hop
  have hfab : s.heap.objs.size ≤ L' := F'.above
  have hL5 : L' ≠ 255 := fun q => absurd h5lt (Nat.not_lt.mpr (q ▸ hfab))
  have F2 := fr_off2 (F'.ns.extBut hx₂ hL5) k2 F'.above
  have hsz : s.heap.objs.size ≤ h'.objs.size := Nat.le_trans F'.above (Nat.le_of_lt F'.ns.lt)
  have hcell := N' _ (.head _)
  have hC5 : L' + 1 ≠ 255 := fun q => absurd h5lt (Nat.not_lt.mpr (q ▸ Nat.le_succ_of_le hfab))
  obtain ⟨hca, cn, Ncn, hcn5, kcn⟩ : codeAmong inPos ps₂.toList = some cv ∧ ∃ cn, News (offT s.heap) L' h₂ cn ∧ (∀ p ∈ cn, p.1 ≠ 255) ∧ KeepP (∀ h, Ext (offT s.heap) h → (∀ p ∈ cn, h.get? p.1 = some p.2) → ∃ c', cv = .ref c' ∧ c' ≠ 255 ∧ c' ≠ 248 ∧ ¬ oh c' ∧ h.CodeRec cv inQual) := by
    rcases hps₂ with ⟨e1, e2⟩ | ⟨e0, c', e1, e2, e3, e4⟩
    · subst e2
      refine ⟨e1, [], (fun p hp => nomatch hp), (fun p hp => nomatch hp), fun h x _ => ?_⟩
      obtain ⟨c', q1, q2, q3, q4, c2, o2, vs, t, z1, z2, z3⟩ := hrec _ e1
      refine ⟨c', q1, q2, q3, q4, c2, o2, vs, t, z1, x _ _ (hideP_get z2 fun z => ?_), z3⟩
      rw [q1] at z1; injection z1 with z1
      exact z.elim (fun z => q3 (z1.trans z)) fun z => q2 (z1.trans z)
    · subst e4
      have ht : TriplesOk ps.toList := hok.triples
      refine ⟨?_, ?_⟩
      · rw [show (ps ++ #[rawInt inPos.line, rawInt inPos.col, Value.ref c']).toList = ps.toList ++ [rawInt inPos.line, rawInt inPos.col, .ref c'] by simp, e1]
        exact codeAmong_snoc _ ht e0
      · obtain ⟨c2, o2, vs, t, z1, z2, z3⟩ := e3
        rw [e1] at z1; injection z1 with z1
        subst z1
        have hlt : s.heap.objs.size ≤ c' := Nat.le_trans hsz e2
        have n0 : s.heap.get? c' = none := Heap.get?_none_of_le hlt
        refine ⟨[(c', o2)], fun p hp => ?_, fun p hp => ?_, fun h x k => ⟨c', e1, ?_, ?_, ?_, c', o2, vs, t, e1, k _ (.head _), z3⟩⟩
        · rcases List.mem_cons.mp hp with rfl | hp
          · exact ⟨z2, Nat.ne_of_gt (Nat.lt_of_lt_of_le F'.ns.lt e2), off_none n0⟩
          · cases hp
        · rcases List.mem_cons.mp hp with rfl | hp
          · exact Nat.ne_of_gt (Nat.lt_of_lt_of_le h5lt hlt)
          · cases hp
        · exact Nat.ne_of_gt (Nat.lt_of_lt_of_le h5lt hlt)
        · exact Nat.ne_of_gt (Nat.lt_of_lt_of_le (Heap.lt_size hop1) hlt)
        · exact fun q => by obtain ⟨o, ho⟩ := (hsrc.h1 _ q).2; rw [n0] at ho; cases ho
  have N2 : News (offT s.heap) L' h₂ ((f, _) :: (L' + 1, o') :: (255, op2) :: (248, op1) :: cn) := fun p hp => by
    rcases List.mem_cons.mp hp with rfl | hp
    · exact ⟨hfo₂, Nat.ne_of_gt (Nat.lt_of_lt_of_le F'.ns.lt hf₂), off_none (Heap.get?_none_of_le (Nat.le_trans hsz hf₂))⟩
    rcases List.mem_cons.mp hp with rfl | hp
    · exact ⟨hx₂ _ _ hC5 hcell.1, hcell.2.1, off_none hcell.2.2⟩
    rcases List.mem_cons.mp hp with rfl | hp
    · exact ⟨hop2, hL5.symm, hideP_none (.inr rfl)⟩
    rcases List.mem_cons.mp hp with rfl | hp
    · exact ⟨k2 248 _ (by decide) hop1, fun q => absurd (show L' < s.heap.objs.size from q ▸ Heap.lt_size hop1) (Nat.not_lt.mpr hfab), hideP_none (.inl rfl)⟩
    exact Ncn _ hp
  obtain ⟨o259, h259⟩ : ∃ o, s.heap.get? 259 = some o := hok.head
  have ht2 : TriplesOk ps₂.toList := hok₂.triples
  have kpost : KeepP (∀ (fo : Obj) (h₄ : Heap) (m : PySem.Str → Option Value) (tk : Nat), Fr (offT s.heap) L' h₄ m → News (offT s.heap) L' h₄ ((f, fo) :: (L' + 1, o') :: (255, op2) :: (248, op1) :: cn) →
      (∀ b o, b ≠ 255 → s.heap.get? b = some o → h₄.get? b = some o) ∧ IsCd h₄ 259 255 ps₂ ∧ GenX w mean mg mb b0 kp dn un' strm a g oh og s0 { s with heap := h₄, toks := tk } ∧ (∀ b o, s0.heap.get? b = some o → ∃ o', h₄.get? b = some o') ∧ Ext b0 h₄ ∧
      ∀ h₅ : Heap, (∀ b o, b ≠ 255 → h₄.get? b = some o → h₅.get? b = some o) → ∃ c', cv = .ref c' ∧ c' ≠ 255 ∧ c' ≠ 248 ∧ ¬ oh c' ∧ h₅.CodeRec cv inQual ∧ ∃ o, h₄.get? c' = some o) := by
    intro fo h₄ m₄ tk₄ F4 N4
    have k4 : ∀ b o, b ≠ 255 → s.heap.get? b = some o → h₄.get? b = some o := fun b o hb e => by
      by_cases q : b = 248
      · subst q; rw [hop1] at e; cases e; exact (N4 (248, op1) (.tail _ (.tail _ (.tail _ (.head _))))).1
      · exact F4.keep _ _ (hideP_get e (fun z => z.elim q hb))
    have hP4 := (N4 (255, op2) (.tail _ (.tail _ (.head _)))).1
    refine ⟨k4, mv2 h₄ (fun o e => ?_) hP4, hsrc.later ⟨fun b o h0 e => k4 b o (fun q => ?_) e, fun _ _ _ => rfl⟩, fun b o e => ?_, fun b o e => k4 b o (fun q => ?_) (G.S b o e), fun h₅ k5 => ?_⟩
    · rw [k2 259 o259 (by decide) h259] at e; cases e; exact k4 259 o259 (by decide) h259
    · obtain ⟨o', ho'⟩ := hPs; rw [q, ho'] at h0; cases h0
    · obtain ⟨o', ho'⟩ := hx0 b o e
      by_cases q : b = 255
      · exact ⟨op2, q ▸ hP4⟩
      · exact ⟨o', k4 b o' q ho'⟩
    · rw [q, hP2] at e; cases e
    · have kcn' : ∀ h, Ext (offT s.heap) h → (∀ p ∈ cn, h.get? p.1 = some p.2) → ∃ c', cv = .ref c' ∧ c' ≠ 255 ∧ c' ≠ 248 ∧ ¬ oh c' ∧ h.CodeRec cv inQual := kcn
      obtain ⟨c', q1, q2, q3, q4, q5⟩ := kcn' h₅ (fun b o e => k5 b o (fun q => hideP_notp e (.inr q)) (F4.keep _ _ e)) (fun p hp => k5 _ _ (hcn5 p hp) (N4 p (.tail _ (.tail _ (.tail _ (.tail _ hp))))).1)
      obtain ⟨c'', r1, _, _, _, c2, o2, vs, t, z1, z2, z3⟩ := kcn' h₄ (fun b o e => F4.keep _ _ e) (fun p hp => (N4 p (.tail _ (.tail _ (.tail _ (.tail _ hp))))).1)
      rw [q1] at z1; injection z1 with z1
      exact ⟨c', q1, q2, q3, q4, q5, o2, z1 ▸ z2⟩
  have kret : KeepP _ := ret
  have kF' : KeepP _ := F'
  have kG : KeepP _ := G
  have khsrc : KeepP _ := hsrc
  have khx0 : KeepP _ := hx0
  clear hx₂ hok₂ k2 mv1 mv2 X T F' N' hps₂ kcn hrec Ncn hcn5 hcell
  dsimp only
  cases r with
  | true =>
    k_steps
    rename_i F4 N4
    unfold KeepP at kpost
    obtain ⟨k4, hok4, hs4, hx4, hb4, hc4⟩ := kpost _ _ _ tk F4 N4
    refine genx (P := 255) (c := 259) (ps := ps₂) hs4 hx4 hz hPs G.T0 hb4 hP2 ?hit rfl rfl hok4 ?room rfl ?clos ?cell rfl rfl rfl ?dbg (fun _ => rfl) fun aG h₅ tk₅ gs ps₅ g₅ oh₅ og₅ y1 y2 y3 y4 y5 y6 => ?_
    case hit => (intro Q' hq'; k_steps; exact hq')
    case room => show dp + 1 < recursionLimit; omega
    case clos => with_unfolding_all rfl
    case cell => decide
    case dbg => decide
    refine ret aG h₅ tk₅ gs ps₅ g₅ oh₅ og₅ (fun b o hb e => y1 b o hb (k4 b o hb e)) y2 y4 (fun cv' hcv' => ?_) y6
    have e5 : codeAmong inPos ps₅.toList = some cv := by
      rcases y3 with rfl | ⟨c'', rfl⟩
      · exact hca
      · rw [Array.toList_append]
        exact (codeAmong_other (by decide) _ ht2).trans hca
    rw [e5] at hcv'
    cases hcv'
    obtain ⟨c', q1, q2, q3, q4, q5, q6⟩ := hc4 h₅ y1
    exact ⟨c', q1, q2, q3, (fun q => (y5 c' q).elim q4 fun z => by obtain ⟨o, ho⟩ := q6; exact absurd (ho.symm.trans z) (fun e => nomatch e)), q5⟩
  | false =>
    cases q with
    | true =>
      k_steps
      rename_i F4 N4
      unfold KeepP at kpost
      obtain ⟨k4, hok4, hs4, hx4, hb4, hc4⟩ := kpost _ _ _ tk F4 N4
      refine genx (P := 255) (c := 259) (ps := ps₂) hs4 hx4 hz hPs G.T0 hb4 hP2 ?hit rfl rfl hok4 ?room rfl ?clos ?cell rfl rfl rfl ?dbg (fun _ => rfl) fun aG h₅ tk₅ gs ps₅ g₅ oh₅ og₅ y1 y2 y3 y4 y5 y6 => ?_
      case hit => (intro Q' hq'; k_steps; exact hq')
      case room => show dp + 1 < recursionLimit; omega
      case clos => with_unfolding_all rfl
      case cell => decide
      case dbg => decide
      refine ret aG h₅ tk₅ gs ps₅ g₅ oh₅ og₅ (fun b o hb e => y1 b o hb (k4 b o hb e)) y2 y4 (fun cv' hcv' => ?_) y6
      have e5 : codeAmong inPos ps₅.toList = some cv := by
        rcases y3 with rfl | ⟨c'', rfl⟩
        · exact hca
        · rw [Array.toList_append]
          exact (codeAmong_other (by decide) _ ht2).trans hca
      rw [e5] at hcv'
      cases hcv'
      obtain ⟨c', q1, q2, q3, q4, q5, q6⟩ := hc4 h₅ y1
      exact ⟨c', q1, q2, q3, (fun q => (y5 c' q).elim q4 fun z => by obtain ⟨o, ho⟩ := q6; exact absurd (ho.symm.trans z) (fun e => nomatch e)), q5⟩
    | false =>
      k_steps
      rename_i h₄ F4 N4
      unfold KeepP at kpost
      obtain ⟨k4, hok4, hs4, hx4, hb4, hc4⟩ := kpost _ _ _ tk F4 N4
      refine callWith_F0 ⟨_, _, _, _, (N4 _ (.head _)).1⟩ ?_
      show wpAny _ _ (call (.ref f) []) _ _ _
      refine wpAny_call ?_
      obtain ⟨c', q1, q2, q3, q4, q5, q6⟩ := hc4 _ (fun b o _ e => e)
      refine enterGX (binds := []) (G.T0.nolimit.keeps hb4) (N4 _ (.head _)).1 q5 ?room ?bind (fun y hy => nomatch hy) (fun L₂ h₅ tk₅ n q t t' hL F₅ => ?_) ?cell rfl rfl rfl
      case room => show dp + 1 < recursionLimit; omega
      case bind => with_unfolding_all rfl
      case cell => decide
      have hz4 : s.heap.objs.size ≤ L₂ := by
        rw [hL]; exact Nat.le_trans hfab (Nat.le_of_lt F4.ns.lt)
      have hLs : _ = none := Heap.get?_none_of_le (h := _) (Nat.le_of_eq hL.symm)
      have hx4' := hx4
      have hCs0 : s0.heap.get? (L' + 1) = none := by
        cases e : s0.heap.get? (L' + 1) with
        | none => rfl
        | some o => obtain ⟨o', ho'⟩ := hx0 _ _ e; exact absurd (Heap.lt_size ho') (Nat.not_lt.mpr (Nat.le_succ_of_le hfab))
      have hcell4 := (N4 (L' + 1, o') (.tail _ (.head _))).1
      have hCo : ¬ oh (L' + 1) := fun q => by obtain ⟨o, ho⟩ := (hsrc.h1 _ q).2; exact absurd (Heap.lt_size ho) (Nat.not_lt.mpr (Nat.le_succ_of_le hfab))
      have hLo : ¬ (oh L₂ ∨ L₂ = L' + 1) := fun q => q.elim (fun q => by obtain ⟨o, ho⟩ := (hsrc.h1 _ q).2; exact absurd (Heap.lt_size ho) (Nat.not_lt.mpr hz4)) fun q => by rw [← q, hLs] at hcell4; cases hcell4
      have hlow : b0.objs.size ≤ L₂ := Nat.le_trans hb0 hz4
      have hkl : ∀ p ∈ kp, p.1 < L₂ := fun p hp => Nat.lt_of_lt_of_le (Heap.lt_size (hkp p hp)) hz4
      have hfpl : ∀ b, b = L₂ → b0.get? b = none ∧ ∀ p ∈ kp, p.1 ≠ b := by
        intro b hb
        rw [hb]
        exact ⟨Heap.get?_none_of_le hlow, fun p hp => Nat.ne_of_lt (hkl p hp)⟩
      have hsO := src_gen hs4.hg hs4.ha hs4.hn
      refine ret _ _ _ _ ps₂ _ _ _ (fun b o hb e => Heap.get?_push_of_some _ (F₅.keep _ _ (k4 b o hb e))) (hok4.keeps fun b o e => Heap.get?_push_of_some _ (F₅.keep _ _ e)) rfl ?hcv
        (gen_newX (s := { s with heap := h₄, toks := tk }) (strm := outS (stPath kp) (fun _ => true) () strm) (oh := fun b => oh b ∨ b = L' + 1) (og := og) (fun b o e => hx4 b o e) hz F₅ hLs (fun b hb => hb.elim (fun hb => hs4.h1 b hb) fun hb => hb ▸ ⟨hCs0, _, hcell4⟩) hs4.h2 ?_)
      case hcv =>
        intro cv' hcv'
        rw [hca] at hcv'
        cases hcv'
        obtain ⟨oc', ho'⟩ := q6
        refine ⟨c', q1, q2, q3, fun z => ?_, ?_⟩
        · rcases z with ((z | z) | z) | z
          · exact q4 z
          · obtain ⟨c2, o2, vs, t, z1, z2, z3, _⟩ := q5
            rw [q1] at z1; injection z1 with z1
            rw [← z1, z] at z2
            have z2' : h₄.get? (L' + 1) = some o2 := z2
            rw [show h₄.get? (L' + 1) = some o' from hcell4] at z2'
            cases z2'
            rw [d1] at z3; cases z3
          · rw [z, hLs] at ho'; cases ho'
          · rw [z] at ho'; exact absurd (Heap.lt_size (F₅.keep _ _ ho')) (Nat.lt_irrefl _)
        · obtain ⟨c2, o2, vs, t, z1, z2, z3⟩ := q5
          exact ⟨c2, o2, vs, t, z1, Heap.get?_push_of_some _ (F₅.keep _ _ z2), z3⟩
      clear ret
      have kx0 : KeepP _ := hx4
      refine stage_new (L := L₂) (pre := []) (B := [_]) (post := []) (ItemP := Item kp) (ohk := fun b => (oh b ∨ b = L' + 1) ∨ b = L₂) rfl ?hk ?hf ?hoL ?hns ?hfold ?start
      case hk => exact fun e => nomatch e
      case hf => exact rfl
      case hoL => exact .inr rfl
      case hns => exact ⟨_, (F₅.push _).ns⟩
      case hfold => exact fun _ => rfl
      intro s₁ A' outer' E' ag cx hout'
      have hns : s₁.heap.Ns L₂ _ := (F₅.push _).ns.at' fun o e => ag.heap L₂ o (.inr rfl) e
      have hcell1 := ag.heap (L' + 1) o' (.inl (.inr rfl)) (Heap.get?_push_of_some _ (F₅.keep _ _ hcell4))
      have Xb := cx.G.X0
      have Tb := cx.G.T0
      obtain ⟨hd', dp', fr', gd', un''⟩ := A'
      have e1 := cx.hd
      have e2 := cx.fr
      dsimp only at e1 e2
      subst e1; subst e2
      refine wpAny_pure ⟨rfl, ?_⟩
      refine wpAny_Name (wpAny_loadName_free (c := L' + 1) rfl rfl ?lk ⟨o', hcell1, d1⟩ ?_ (by decide)) (by decide)
      case lk => with_unfolding_all rfl
      refine ready_of (Inv := fun _ h => ∃ m, h.Ns L₂ m) (fp := fun b => b = L₂) hsO (agree_new (s := { s with heap := h₄, toks := tk }) F₅.keep (fun g hg => (hs4.h2 g hg).2) (fun b h => .inl (.inl h)) ⟨ag.heap, ag.gens⟩) ⟨rfl, rfl, cx.gs, cx.dp, cx.cu, cx.G, cx.d⟩ ?_ ⟨_, hns⟩ (fun b hb => ⟨fun q => hLo (.inl (hb ▸ q)), .inl (.inr hb)⟩) (fun b h => .inl (.inl h)) ⟨_, _, rfl, fun _ _ _ e => e⟩ hall
      clear cx ag kx0 hc4 N4 F4 hsO hs4 hx4 hx4' hcell4 hcell1 hb4 hok4 k4 kpost hns
      refine ⟨(fun e => nomatch e), rfl, rfl, rfl, rfl, hfpl, fun x h h' ⟨m, hm⟩ k => ⟨m, hm.at' fun o e => k L₂ o rfl e⟩, fun x h b ⟨m, hm⟩ hb => ?_, fun x h hm => hm, ?_, ?_⟩
      · obtain ⟨o, _, _, ho, _⟩ := hm
        exact ⟨o, hb ▸ ho⟩
      · intro x v s₁ A' outer Q E ⟨m, hm⟩ ⟨a, nn, vv, tn, tv, c, ev, hlk, hn1, hv1⟩ cx hout hs
        subst ev
        have hct := cont_of hlk
        obtain ⟨b1, x01, x1, hlow1, kb1, _⟩ := base_kp cx.G.S cx.d hlow hkl
        have Fb : Fr b1 L₂ s₁.heap _ := ⟨hm, x1, hlow1⟩
        have hA : b1.get? a = some (pairO nn vv tn tv c) := kb1 _ (mem_of_lookup hlk)
        clear kb1
        replace Xb := Xb.keeps x01
        replace Tb := Tb.keeps x01
        have N1 := news_ledger (b0 := b1) (h := s₁.heap) (fp := fun b => b = L₂) (L := L₂) rfl
        have G1 : Gd w mean mg mb b1 _ s₁.heap := ⟨Xb, Tb, x1, cx.G.F⟩
        generalize hled : ledger b1 (fun b => b = L₂) s₁.heap = led at N1
        generalize hks : KBw.bInts nn = ks at hn1 hct
        generalize hvs : KBw.bInts vv = vs at hv1 hct
        have cx' := cx
        obtain ⟨hd', dp', fr', gd', un''⟩ := A'
        have e1 := cx.hd
        have e2 := cx.fr
        dsimp only at e1 e2
        subst e1; subst e2
        k_steps
        all_goals (first
          | (have e3 : stPath kp x (.ref a) = some () := by rw [stPath, hct, if_pos (by simp_all [okPath, List.length_pos_iff])]
             rw [e3] at hs
             exact hs _ (end_ok x1 (by assumption) (by assumption) (by rw [hled]; exact fun p hp => by first | exact hp | exact List.mem_cons_of_mem _ hp | exact List.mem_append_left _ hp | exact List.mem_cons_of_mem _ (List.mem_cons_of_mem _ hp) | simp [hp])) ⟨_, Fr.ns (by assumption)⟩ fun py Q' E' hq => wpAny_Name (wpAny_loadName_local rfl rfl (Fr.ns (by assumption)) (if_pos rfl) hq) (by decide))
          | (have e3 : stPath kp x (.ref a) = none := by rw [stPath, hct, if_neg (by simp_all [okPath, List.length_pos_iff])]
             rw [e3] at hs
             exact hs _ _ (end_raise (fun e => nomatch e) rfl G1 hout (by assumption) (by assumption) (by rw [hled]; exact fun p hp => by first | exact hp | exact List.mem_cons_of_mem _ hp | exact List.mem_append_left _ hp | exact List.mem_cons_of_mem _ (List.mem_cons_of_mem _ hp) | simp [hp]) (by assumption))))
      · intro x s₁ A' outer Q E ⟨m, hm⟩ cx hout hs
        rw [if_pos rfl] at hs
        exact wpAny_pure (hs _ ⟨s₁.heap, s₁.toks, rfl, fun _ _ _ e => e⟩)

end
section
open PySem PySem.W PyProof.Rows PySem.Calls PySem.W.X
set_option Elab.async false
set_option maxRecDepth 100000
set_option maxHeartbeats 4000000
set_option linter.unusedVariables false
section
variable {w : World} {mean : ExcName → Option Value} {mg mb : Str → Option Value} {b0 : Heap} {kp : List (Addr × Obj)} {dn un : Nat}
theorem src_list {l : Addr} {lo : Obj} {items : List Value} (hkp : (l, lo) ∈ kp) (hlo : ∀ h : Heap, h.get? l = some lo → h.IsList l items.toArray) (s0 s : Shared) :
    SrcAt w mean mg mb b0 kp dn un (strmOf items) (.ref l) s0 s := by
  refine ⟨fun _ => False, fun _ => False, fun s₁ A' l' Q E ag cx k => ?_, fun b hb => hb.elim, fun g hg => hg.elim⟩
  have hl := cx.d _ hkp
  refine wpAny_pyIter_list (hlo _ hl) ?_
  have hne : s₁.heap.objs.size ≠ l := fun q => by have := Heap.lt_size hl; exact absurd this (by rw [← q]; exact Nat.lt_irrefl _)
  refine k { s₁ with heap := s₁.heap.push { cls := .type "list_iterator", data := .fields #[.ref l, .int 0 0] } } (.ref s₁.heap.objs.size) (fun b => b = s₁.heap.objs.size) ⟨_, s₁.toks, rfl, fun b o _ e => Heap.get?_push_of_some _ e⟩
    (next_of_list hkp hlo hne items 0 _ _ rfl rfl ⟨_, Heap.get?_push_size _ rfl, rfl, rfl⟩) fun b hb => .inr ?_
  rw [hb]
  exact Heap.get?_none_of_le (Nat.le_refl _)
theorem strmAll_mono {P R : Value → Prop} (h : ∀ v, P v → R v) : ∀ {s : Strm}, strmAll P s → strmAll R s
  | .fail, _ => trivial
  | .done, _ => trivial
  | .item v r, ⟨a, b⟩ => ⟨h v a, strmAll_mono h b⟩
/-- what passes a stage has passed its step -/
theorem strmAll_out {σ : Type} {step : σ → Value → Option σ} {fin : σ → Bool} {P R : Value → Prop} (h : ∀ x v, P v → (step x v).isSome = true → R v) : ∀ {s : Strm} (x : σ), strmAll P s → strmAll R (outS step fin x s)
  | .fail, _, _ => trivial
  | .done, x, _ => by
    show strmAll R (if fin x = true then Strm.done else Strm.fail)
    split <;> trivial
  | .item v r, x, ⟨a, b⟩ => by
    show strmAll R (match step x v with | some x' => .item v (outS step fin x' r) | none => .fail)
    cases e : step x v with
    | none => trivial
    | some x' => exact ⟨h x v a (by rw [e]; rfl), strmAll_out h x' b⟩
theorem strmAll_of {P : Value → Prop} : ∀ {l : List Value}, (∀ v ∈ l, P v) → strmAll P (strmOf l)
  | [], _ => trivial
  | v :: r, h => ⟨h v (.head _), strmAll_of fun x hx => h x (.tail _ hx)⟩
theorem later_of {s0 s s' : Shared} {L : Addr} (hL : ∃ o, s0.heap.get? L = some o) (k : ∀ b o, b ≠ L → s.heap.get? b = some o → s'.heap.get? b = some o) (hg : ∀ g, g < s.gens.size → s'.gens[g]? = s.gens[g]?) : Later s0 s s' :=
  ⟨fun b o h0 e => k b o (fun q => by obtain ⟨o', ho'⟩ := hL; rw [q, ho'] at h0; cases h0) e, fun g _ hg' => hg g hg'⟩
end

end
section
open PySem PySem.W PyProof.Rows PySem.Calls PySem.W.X
set_option Elab.async false
set_option maxRecDepth 100000
set_option maxHeartbeats 8000000
set_option linter.unusedVariables false
set_option pp.deepTerms false
set_option pp.maxSteps 6000
/-- the stages, one behind the other -/
noncomputable def valS (kp : List (Addr × Obj)) (q r : Bool) (s0 : Strm) : Strm :=
  let s1 := outS (stIll kp) (fun _ => true) () s0
  let s2 := outS (stEmpty kp) (fun _ => true) () s1
  let s3 := outS (stTe kp) (fun _ => true) () s2
  let s4 := outS (stConn kp) (fun _ => true) () s3
  let s5 := outS (stPseudo kp) (finPseudo q r) ([], false, none) s4
  let s6 := if r || q then s5 else outS (stHost kp) finHost (none, none) s5
  if r || q then s6 else outS (stPath kp) (fun _ => true) () s6
structure VSt (s : Shared) (h' : Heap) (ps2 : Array Value) (σh : Heap) (σg : Array GenState) : Prop where
  keep : ∀ b o, ¬ isTab b → s.heap.get? b = some o → σh.get? b = some o
  c1 : ∃ ps, IsCd σh 252 248 ps
  c2 : IsCd σh 259 255 ps2
  z : s.gens.size ≤ σg.size
  x0 : ∀ b o, h'.get? b = some o → ∃ o', σh.get? b = some o'
  gb : AllBare s.gens → AllBare σg
  gk : ∀ i, i < s.gens.size → σg[i]? = s.gens[i]?
theorem isCode_there {h : Heap} {c P : Addr} {ps : Array Value} (x : IsCd h c P ps) : ∃ o, h.get? P = some o := x.there
theorem bare_push {gs : Array GenState} {g : GenState} (h : AllBare gs) (hg : g.bare = true) : AllBare (gs.push g) := fun y hy => by
  rcases Array.mem_push.mp hy with hy | rfl
  · exact h y hy
  · exact hg
theorem VSt.call {s : Shared} {σh : Heap} {σg : Array GenState} {h' h1 : Heap} {ps2 : Array Value} {gs : GenState} (V : VSt s h' ps2 σh σg) (x : ∀ b o, b ≠ 248 → σh.get? b = some o → h1.get? b = some o) (hc : ∃ ps, IsCd h1 252 248 ps) (hb : gs.bare = true) :
    VSt s h' ps2 h1 (σg.push gs) :=
  ⟨fun b o hb e => x b o (fun q => hb (.inl q)) (V.keep b o hb e), hc, V.c2.extBut x (by decide) (by decide), by show s.gens.size ≤ (σg.push gs).size; rw [Array.size_push]; exact Nat.le_succ_of_le V.z,
    fun b o e => by
      obtain ⟨o', ho'⟩ := V.x0 b o e
      by_cases q : b = 248
      · obtain ⟨ps, hc⟩ := hc
        rw [q]; exact isCode_there hc
      · exact ⟨o', x b o' q ho'⟩,
    fun h => bare_push (V.gb h) hb, fun i hi => by
      show (σg.push gs)[i]? = _
      rw [Array.getElem?_push_lt (Nat.lt_of_lt_of_le hi V.z)]
      exact (Array.getElem?_eq_getElem (Nat.lt_of_lt_of_le hi V.z)).symm.trans (V.gk i hi)⟩
theorem VSt.walk {s : Shared} {σh : Heap} {σg : Array GenState} {h' h2 : Heap} {L' : Addr} {ps2 : Array Value} (V : VSt s h' ps2 σh σg) (hLs : s.heap.get? L' = none) (hn : ∃ o, h2.get? L' = some o) (h1 : (248 : Addr) ≠ L') (h2' : (255 : Addr) ≠ L') (h3 : (252 : Addr) ≠ L') (h4 : (259 : Addr) ≠ L')
    (k : ∀ b o, ¬ b = L' → σh.get? b = some o → h2.get? b = some o) : VSt s h' ps2 h2 σg :=
  ⟨fun b o hb e => k b o (fun q => by rw [q, hLs] at e; cases e) (V.keep b o hb e), let ⟨ps, c⟩ := V.c1; ⟨ps, c.extBut k h3 h1⟩, V.c2.extBut k h4 h2', V.z, fun b o e => by
    by_cases q : b = L'
    · rw [q]; exact hn
    · obtain ⟨o', ho'⟩ := V.x0 b o e; exact ⟨o', k b o' q ho'⟩, V.gb, V.gk⟩
theorem VSt.call2 {s : Shared} {h' h1 σh : Heap} {σg : Array GenState} {ps2 ps2' : Array Value} {gs : GenState} (V : VSt s h' ps2 σh σg) (x : ∀ b o, b ≠ 255 → σh.get? b = some o → h1.get? b = some o) (hc : IsCd h1 259 255 ps2') (hb : gs.bare = true) :
    VSt s h' ps2' h1 (σg.push gs) :=
  ⟨fun b o hb e => x b o (fun q => hb (.inr q)) (V.keep b o hb e), let ⟨ps, c⟩ := V.c1; ⟨ps, c.extBut x (by decide) (by decide)⟩, hc, by show s.gens.size ≤ (σg.push gs).size; rw [Array.size_push]; exact Nat.le_succ_of_le V.z,
    fun b o e => by
      obtain ⟨o', ho'⟩ := V.x0 b o e
      by_cases q : b = 255
      · rw [q]; exact isCode_there hc
      · exact ⟨o', x b o' q ho'⟩,
    fun h => bare_push (V.gb h) hb, fun i hi => by
      show (σg.push gs)[i]? = _
      rw [Array.getElem?_push_lt (Nat.lt_of_lt_of_le hi V.z)]
      exact (Array.getElem?_eq_getElem (Nat.lt_of_lt_of_le hi V.z)).symm.trans (V.gk i hi)⟩
theorem none_base {h h' : Heap} {b : Addr} (k : Ext h h') (h0 : h'.get? b = none) : h.get? b = none := by
  cases e : h.get? b with
  | none => rfl
  | some o => rw [k b o e] at h0; cases h0
theorem GenX.base {w : World} {mean : ExcName → Option Value} {mg mb : PySem.Str → Option Value} {b0 : Heap} {kp : List (Addr × Obj)} {dn un : Nat} {strm : Strm} {a g : Addr} {oh : Addr → Prop} {og : Nat → Prop} {s s1 : Shared} {h' : Heap} (x : GenX w mean mg mb b0 kp dn un strm a g oh og { s with heap := h' } s1) (k : Ext s.heap h') : GenX w mean mg mb b0 kp dn un strm a g oh og s s1 :=
  ⟨x.hg, x.ha, x.hn, fun b hb => ⟨none_base k (x.h1 b hb).1, (x.h1 b hb).2⟩, x.h2⟩
theorem isCode_data {h : Heap} {c P : Addr} {ps : Array Value} {o : Obj} (x : IsCd h c P ps) (e : h.get? P = some o) : o.data = .fields ps := by
  obtain ⟨op, hop, hd⟩ := x.parts.2.1
  rw [hop] at e; cases e; exact hd
theorem gd_vs {w : World} {mean : ExcName → Option Value} {mg mb : PySem.Str → Option Value} {b0 : Heap} {outer : List Env} {env : Env} {s : Shared} {σh : Heap} {σg : Array GenState} {h' : Heap} {L : Addr} {m : PySem.Str → Option Value} {ps1 ps2 ps2' : Array Value} (G : Gd w mean mg mb b0 outer s.heap) (V : VSt s h' ps2 σh σg)
    (hok1 : IsCd s.heap 252 248 ps1) (hok2 : IsCd s.heap 259 255 ps2') (hP1 : b0.get? 248 = none) (hP2 : b0.get? 255 = none) (hn : σh.Ns L m) (hk : env.scope.kind ≠ .module) (hf : env.frame = some L) : Gd w mean mg mb b0 (env :: outer) σh := by
  refine Gd.cons (outer := outer) ⟨G.X0, G.T0, fun b o e => V.keep b o (fun q => ?_) (G.S b o e), funFrames_keep G.F fun b hb o ho => ?_⟩ hk hf hn
  · rcases q with q | q
    · rw [q, hP1] at e; cases e
    · rw [q, hP2] at e; cases e
  · obtain ⟨o', ho', hd⟩ := funFrames_there G.F b hb
    have q0 : o = o' := Option.some.inj (ho.symm.trans ho')
    refine ⟨o', V.keep b o' (fun q => ?_) ho', by rw [q0]⟩
    rcases q with q | q
    · exact hd _ (isCode_data hok1 (q ▸ ho'))
    · exact hd _ (isCode_data hok2 (q ▸ ho'))
/-- between two calls: only the frame is written -/
theorem between {s : Shared} {h h2 : Heap} {L : Addr} {m : PySem.Str → Option Value} {led : List (Addr × Obj)} (x : Ext (offT s.heap) h) (F : Fr (offT s.heap) L h2 m) (N : News (offT s.heap) L h2 led) (e : ledger (offT s.heap) (fun b => b = L) h = led) :
    ∀ b o, ¬ b = L → h.get? b = some o → h2.get? b = some o := kept_of x F N (by rw [e]; exact fun p hp => hp)
theorem emptyN {kp : List (Addr × Obj)} {x : Unit} {v : Value} (h : (stEmpty kp x v).isSome = true) : 0 < (cont kp v).1.length := by
  unfold stEmpty okEmpty at h
  split at h
  · rename_i q
    have : ¬ (cont kp v).1.length = 0 := by simpa using q
    omega
  · cases h
theorem Vh_c {w : World} {mean : ExcName → Option Value} {mg mb : Str → Option Value} {b0 : Heap} {outer : List Env} {dp un : Nat} {gd : Option (List Code)} {s : Shared} {Q E : Value → Shared → Prop}
    {kp : List (Addr × Obj)} {l fa dx : Addr} {lo : Obj} {items : List Value} {p q r t : Bool} {nf : Nat} {ps1 ps2 : Array Value}
    (G : Gd w mean mg mb b0 outer s.heap) (hdp : dp + 60 < recursionLimit) (hun : un + 300 < cLine) (hb0 : b0.objs.size ≤ s.heap.objs.size) (hkp : Kept kp s.heap)
    (hP1 : b0.get? 248 = none) (hP2 : b0.get? 255 = none)
    (hkt : ∀ p ∈ kp, ¬ isTab p.1) (hl : (l, lo) ∈ kp) (hlo : ∀ h : Heap, h.get? l = some lo → h.IsList l items.toArray) (hfl : (fa, flagO p q r t dx nf) ∈ kp) (hqr : (q && r) = false) (hall : ∀ v ∈ items, Item kp v)
    (hok1 : IsCd s.heap 252 248 ps1) (hok2 : IsCd s.heap 259 255 ps2)
    (hrec : ∀ cv, codeAmong inPos ps2.toList = some cv → ∃ c', cv = .ref c' ∧ c' ≠ 255 ∧ c' ≠ 248 ∧ s.heap.CodeRec cv inQual)
    (ret : ∀ aG h' tk gens' g oh og ps1' ps2', (∀ b o, b ≠ 248 → b ≠ 255 → s.heap.get? b = some o → h'.get? b = some o) → IsCd h' 252 248 ps1' → IsCd h' 259 255 ps2' → (AllBare s.gens → AllBare gens') → s.gens.size ≤ gens'.size → (∀ i, i < s.gens.size → gens'[i]? = s.gens[i]?) →
      (∀ cv, codeAmong inPos ps2'.toList = some cv → ∃ c', cv = .ref c' ∧ c' ≠ 255 ∧ c' ≠ 248 ∧ ¬ oh c' ∧ h'.CodeRec cv inQual) →
      GenX w mean mg mb b0 kp 27 128 (valS kp q r (strmOf items)) aG g oh og s { s with heap := h', gens := gens', toks := tk } → Q (.ref aG) { s with heap := h', gens := gens', toks := tk }) :
    wpAny (model Pg w) (AZ dp un gd outer) (call (.ref 192) [.ref l, .ref fa]) Q E s := by
  k_with_none
  k_with "getMethod bytes" => (k_here; (with_reducible first | refine gm_lower ?_ | refine gm_strip ?_ | refine gm_find ?_))
  k_with "pyReprObj" => (k_here; (refine repr_K (by kba_ints) (by kba_size) ?_); intro _ _ _ _; (try dsimp only))
  k_with "call builtin:bytes.lower" => (k_here; (refine lower_K (by kba_ints) (by kba_size) ?_); intro _ _ _ _; (try dsimp only))
  k_with "call builtin:bytes.find" => (k_here; (refine find_K (by kba_ints) (by first | assumption | rfl | decide +kernel) ?_); intro _ _ _ _; (try dsimp only))
  k_with "compareOp Eq" => (k_here; (with_reducible show wpAny _ _ (compareOp CmpOp.Eq (Value.bytes _ _) (Value.bytes _ _)) _ _ _); (refine eqB_K (by kba_ints) (by kba_ints) ?_))
  k_with "compareOp NotEq" => (k_here; (with_reducible show wpAny _ _ (compareOp CmpOp.NotEq (Value.bytes _ _) (Value.bytes _ _)) _ _ _); (refine neB_K (by kba_ints) (by kba_ints) ?_))
  k_with "compareOp Eq bytes bytes" => (k_here; (refine eqB_K (by kba_ints) (by kba_ints) ?_))
  k_with "compareOp NotEq bytes bytes" => (k_here; (refine neB_K (by kba_ints) (by kba_ints) ?_))
  k_with "compareOp In bytes ref" => (k_here; k_dflt (first | (refine' in_tupB (kss := ownL) (tupK ?qX ?qF ?qh) ?qhb ?qhit ?qhk ?_; (case qX => assumption); (case qF => assumption); (case qh => k_is); (case qhb => exact rfl); (case qhit => exact rfl); (case qhk => kba_ints)) | (refine' in_tupB (kss := allowedL) (tupK ?qX ?qF ?qh) ?qhb ?qhit ?qhk ?_; (case qX => assumption); (case qF => assumption); (case qh => k_is); (case qhb => exact rfl); (case qhit => exact rfl); (case qhk => kba_ints))))
  k_with "compareOp NotIn bytes ref" => (k_here; k_dflt (refine' notIn_tupB (kss := allowedL) (tupK ?qX ?qF ?qh) ?qhb ?qhit ?qhk ?_; (case qX => assumption); (case qF => assumption); (case qh => k_is); (case qhb => exact rfl); (case qhit => exact rfl); (case qhk => kba_ints)))
  k_with "subscriptTail" => (k_here; (with_reducible show wpAny _ _ (subscriptTail _ _ (Value.bytes _ _) (Value.int _ _)) _ _ _); (first | refine item0_A (by kba_ints) (by omega) (by omega) ?_ | refine itemL_A (by kba_ints) (by omega) (by omega) ?_); intro _ _ _ _ _ _; (try dsimp only))
  k_with "exec For" => (k_here; (with_unfolding_all refine' For_mine ?qF ?qhE ?qhx ?qhp ?qhs ?_; (case qF => assumption); (case qhE => assumption); (case qhx => exact rfl); (case qhp => exact rfl); (case qhs => exact fun _ => rfl); k_whole))
  k_with "exec For Name Name cons nil" => (k_here; (with_unfolding_all refine' For_mine ?qF ?qhE ?qhx ?qhp ?qhs ?_; (case qF => assumption); (case qhE => assumption); (case qhx => exact rfl); (case qhp => exact rfl); (case qhs => exact fun _ => rfl); k_whole))
  k_with "subscriptTail" => (k_here; (with_reducible show wpAny _ _ (subscriptTail _ _ (Value.ref _) (Value.int _ _)) _ _ _); (first | (refine pair0_A (by k_asm) (by assumption) ?_) | (refine pair1_A (by k_asm) (by assumption) ?_)))
  have X := G.X
  have T := G.T
  refine wpAny_call ?_
  k_dflt (refine' enter (binds := [(Str.ofString "headers", .ref l), (Str.ofString "hdr_validation_flags", .ref fa)]) X T.nolimit ?ho ?hcd ?hroom ?hbind ?hloc ?_ ?c5 ?c6 ?c7 ?c8; (case ho => k_is); (case hcd => k_is); (case hroom => show dp < recursionLimit; omega); (case hbind => exact rfl); (case hloc => exact locs rfl); (case c5 => decide); (case c6 => exact rfl); (case c7 => exact rfl); (case c8 => exact rfl); k_whole; intro L' h' F' N')
  have x0 := ext_off G.S hP1 hP2
  have Xb := G.X0.keeps x0
  have Tb := G.T0.keeps x0
  have Fb := fr_off F'
  have hLs : s.heap.get? L' = none := Heap.get?_none_of_le F'.above
  obtain ⟨oL, _, _, hoL, _⟩ := id F'.ns
  have hfab : s.heap.objs.size ≤ L' := F'.above
  have hne : ∀ c : Addr, (∃ o, s.heap.get? c = some o) → c ≠ L' := fun c ⟨o, ho⟩ q => by rw [q, hLs] at ho; cases ho
  obtain ⟨o252, h252⟩ : ∃ o, s.heap.get? 252 = some o := hok1.head
  obtain ⟨o259, h259⟩ : ∃ o, s.heap.get? 259 = some o := hok2.head
  have n1 := hne 248 (isCode_there hok1)
  have n2 := hne 255 (isCode_there hok2)
  have n3 := hne 252 ⟨_, h252⟩
  have n4 := hne 259 ⟨_, h259⟩
  have V0 : VSt s h' ps2 h' s.gens := ⟨fun b o _ e => F'.keep _ _ e, ⟨ps1, hok1.keeps F'.keep⟩, hok2.keeps F'.keep, Nat.le_refl _, fun b o e => ⟨o, e⟩, id, fun _ _ => rfl⟩
  have hkk : ∀ {σh : Heap} {σg : Array GenState}, VSt s h' ps2 σh σg → Kept kp σh := fun V => hkp.keeps fun p hp o e => V.keep _ _ (hkt p hp) e
  have hL0 : ∃ o, h'.get? L' = some o := ⟨_, hoL⟩
  have hA0 := strmAll_of hall
  have kF' : KeepP _ := F'
  have kX : KeepP _ := X
  have kT : KeepP _ := T
  have kN : KeepP _ := N'
  have Nb := news_off N'
  clear F' X T N'
  have kG : KeepP _ := G
  have kV0 : KeepP _ := V0
  have kkk : KeepP _ := @hkk
  have kret : KeepP _ := ret
  have krec : KeepP _ := hrec
  clear V0 hkk ret G
  k_steps
  have V : VSt s h' ps2 _ _ := kV0
  refine Ill_c (dp := dp + 1) (un := un + 3) (outer := _ :: outer) (s0 := { s with heap := h' }) (kp := kp) (dn := 20) (un' := 100) (strm := strmOf items) (gd_vs kG V hok1 hok2 hP1 hP2 Fb.ns (fun e => nomatch e) rfl) (by omega) (by omega) (Nat.le_trans hb0 (Nat.le_trans hfab (Nat.le_of_lt Fb.ns.lt))) (kkk V) V.x0 V.z (src_list hl hlo _ _) hA0 fun a1 h1 tk1 gs1 x1 b1 g1 => ?_
  have V2 := V.call (fun b o _ e => x1 b o e) (let ⟨ps, c⟩ := V.c1; ⟨ps, c.keeps x1⟩) b1
  have F1 := x1.fr Fb
  have N1 := news_ledger (b0 := offT s.heap) (h := h1) (fp := fun b => b = L') (L := L') rfl
  generalize hled : ledger (offT s.heap) (fun b => b = L') h1 = led1 at N1
  have khled : KeepP _ := hled
  have kVc : KeepP _ := V2
  have kF1 : KeepP _ := F1.keep
  have kg : KeepP _ := g1
  clear hled V2 V x1 b1 g1 Fb Nb
  k_steps
  rename_i h1' F1' Nb
  have kk := between (s := s) kF1 F1' Nb khled
  have hLn := F1'.ns
  have kV1 : KeepP _ := VSt.walk kVc hLs (let ⟨o, _, _, ho, _⟩ := hLn; ⟨o, ho⟩) n1 n2 n3 n4 kk
  have S1 : SrcAt _ _ _ _ _ _ _ _ _ _ _ { s with heap := h1', gens := _, toks := tk } := (GenAt.src kg).later (later_of hL0 kk fun _ _ => rfl)
  clear kk hLn kVc kg khled kF1
  have hA1 : strmAll (Item kp) (outS (stIll kp) (fun _ => true) () (strmOf items)) := strmAll_out (fun _ _ p _ => p) _ hA0
  have V : VSt s h' ps2 _ _ := kV1
  refine Empty_c (dp := dp + 1) (un := un + 3) (outer := _ :: outer) (s0 := { s with heap := h' }) (kp := kp) (dn := 21) (un' := 104) (strm := (outS (stIll kp) (fun _ => true) () (strmOf items))) (gd_vs kG V hok1 hok2 hP1 hP2 F1'.ns (fun e => nomatch e) rfl) (by omega) (by omega) (Nat.le_trans hb0 (Nat.le_trans hfab (Nat.le_of_lt F1'.ns.lt))) (kkk V) V.x0 V.z S1 hA1 fun a2 h2 tk2 gs2 x2 b2 g2 => ?_
  have V2 := V.call (fun b o _ e => x2 b o e) (let ⟨ps, c⟩ := V.c1; ⟨ps, c.keeps x2⟩) b2
  have F2 := x2.fr F1'
  have N2 := news_ledger (b0 := offT s.heap) (h := h2) (fp := fun b => b = L') (L := L') rfl
  generalize hled : ledger (offT s.heap) (fun b => b = L') h2 = led2 at N2
  have khled : KeepP _ := hled
  have kVc : KeepP _ := V2
  have kF2 : KeepP _ := F2.keep
  have kg : KeepP _ := g2
  clear hled V2 V x2 b2 g2 F1' Nb
  k_steps
  rename_i h2' F2' Nb
  have kk := between (s := s) kF2 F2' Nb khled
  have hLn := F2'.ns
  have kV2 : KeepP _ := VSt.walk kVc hLs (let ⟨o, _, _, ho, _⟩ := hLn; ⟨o, ho⟩) n1 n2 n3 n4 kk
  have S2 : SrcAt _ _ _ _ _ _ _ _ _ _ _ { s with heap := h2', gens := _, toks := tk } := (GenAt.src kg).later (later_of hL0 kk fun _ _ => rfl)
  clear kk hLn kVc kg khled kF2
  have hA2 : strmAll (ItemN kp) (outS (stEmpty kp) (fun _ => true) () (outS (stIll kp) (fun _ => true) () (strmOf items))) := strmAll_out (fun x v p hp => ⟨p, emptyN hp⟩) _ hA1
  have V : VSt s h' ps2 _ _ := kV2
  refine Te_c (dp := dp + 1) (un := un + 3) (outer := _ :: outer) (s0 := { s with heap := h' }) (kp := kp) (dn := 22) (un' := 108) (strm := (outS (stEmpty kp) (fun _ => true) () (outS (stIll kp) (fun _ => true) () (strmOf items)))) (gd_vs kG V hok1 hok2 hP1 hP2 F2'.ns (fun e => nomatch e) rfl) (by omega) (by omega) (Nat.le_trans hb0 (Nat.le_trans hfab (Nat.le_of_lt F2'.ns.lt))) (kkk V) V.x0 V.z S2 (strmAll_mono (fun _ p => p.1) hA2) fun a3 h3 tk3 gs3 x3 b3 g3 => ?_
  have V2 := V.call (fun b o _ e => x3 b o e) (let ⟨ps, c⟩ := V.c1; ⟨ps, c.keeps x3⟩) b3
  have F3 := x3.fr F2'
  have N3 := news_ledger (b0 := offT s.heap) (h := h3) (fp := fun b => b = L') (L := L') rfl
  generalize hled : ledger (offT s.heap) (fun b => b = L') h3 = led3 at N3
  have khled : KeepP _ := hled
  have kVc : KeepP _ := V2
  have kF3 : KeepP _ := F3.keep
  have kg : KeepP _ := g3
  clear hled V2 V x3 b3 g3 F2' Nb
  k_steps
  rename_i h3' F3' Nb
  have kk := between (s := s) kF3 F3' Nb khled
  have hLn := F3'.ns
  have kV3 : KeepP _ := VSt.walk kVc hLs (let ⟨o, _, _, ho, _⟩ := hLn; ⟨o, ho⟩) n1 n2 n3 n4 kk
  have S3 : SrcAt _ _ _ _ _ _ _ _ _ _ _ { s with heap := h3', gens := _, toks := tk } := (GenAt.src kg).later (later_of hL0 kk fun _ _ => rfl)
  clear kk hLn kVc kg khled kF3
  have hA3 : strmAll (ItemN kp) (outS (stTe kp) (fun _ => true) () (outS (stEmpty kp) (fun _ => true) () (outS (stIll kp) (fun _ => true) () (strmOf items)))) := strmAll_out (fun _ _ p _ => p) _ hA2
  have V : VSt s h' ps2 _ _ := kV3
  refine Conn_c (dp := dp + 1) (un := un + 3) (outer := _ :: outer) (s0 := { s with heap := h' }) (kp := kp) (dn := 23) (un' := 112) (strm := (outS (stTe kp) (fun _ => true) () (outS (stEmpty kp) (fun _ => true) () (outS (stIll kp) (fun _ => true) () (strmOf items))))) (gd_vs kG V hok1 hok2 hP1 hP2 F3'.ns (fun e => nomatch e) rfl) (by omega) (by omega) (Nat.le_trans hb0 (Nat.le_trans hfab (Nat.le_of_lt F3'.ns.lt))) (kkk V) V.x0 V.z S3 (strmAll_mono (fun _ p => p.1) hA3) fun a4 h4 tk4 gs4 x4 b4 g4 => ?_
  have V2 := V.call (fun b o _ e => x4 b o e) (let ⟨ps, c⟩ := V.c1; ⟨ps, c.keeps x4⟩) b4
  have F4 := x4.fr F3'
  have N4 := news_ledger (b0 := offT s.heap) (h := h4) (fp := fun b => b = L') (L := L') rfl
  generalize hled : ledger (offT s.heap) (fun b => b = L') h4 = led4 at N4
  have khled : KeepP _ := hled
  have kVc : KeepP _ := V2
  have kF4 : KeepP _ := F4.keep
  have kg : KeepP _ := g4
  clear hled V2 V x4 b4 g4 F3' Nb
  k_steps
  rename_i h4' F4' Nb
  have kk := between (s := s) kF4 F4' Nb khled
  have hLn := F4'.ns
  have kV4 : KeepP _ := VSt.walk kVc hLs (let ⟨o, _, _, ho, _⟩ := hLn; ⟨o, ho⟩) n1 n2 n3 n4 kk
  have S4 : SrcAt _ _ _ _ _ _ _ _ _ _ _ { s with heap := h4', gens := _, toks := tk } := (GenAt.src kg).later (later_of hL0 kk fun _ _ => rfl)
  clear kk hLn kVc kg khled kF4
  have hA4 : strmAll (ItemN kp) (outS (stConn kp) (fun _ => true) () (outS (stTe kp) (fun _ => true) () (outS (stEmpty kp) (fun _ => true) () (outS (stIll kp) (fun _ => true) () (strmOf items))))) := strmAll_out (fun _ _ p _ => p) _ hA3
  have V : VSt s h' ps2 _ _ := kV4
  refine Pseudo_c (dp := dp + 1) (un := un + 3) (outer := _ :: outer) (s0 := { s with heap := h' }) (kp := kp) (dn := 24) (un' := 116) (strm := (outS (stConn kp) (fun _ => true) () (outS (stTe kp) (fun _ => true) () (outS (stEmpty kp) (fun _ => true) () (outS (stIll kp) (fun _ => true) () (strmOf items)))))) (gd_vs kG V hok1 hok2 hP1 hP2 F4'.ns (fun e => nomatch e) rfl) (by omega) (by omega) (Nat.le_trans hb0 (Nat.le_trans hfab (Nat.le_of_lt F4'.ns.lt))) (kkk V) hfl hqr (by omega) (by omega) V.x0 V.z S4 hA4 fun a5 h5 tk5 gs5 x5 b5 g5 => ?_
  have V2 := V.call (fun b o _ e => x5 b o e) (let ⟨ps, c⟩ := V.c1; ⟨ps, c.keeps x5⟩) b5
  have F5 := x5.fr F4'
  have N5 := news_ledger (b0 := offT s.heap) (h := h5) (fp := fun b => b = L') (L := L') rfl
  generalize hled : ledger (offT s.heap) (fun b => b = L') h5 = led5 at N5
  have khled : KeepP _ := hled
  have kVc : KeepP _ := V2
  have kF5 : KeepP _ := F5.keep
  have kg : KeepP _ := g5
  clear hled V2 V x5 b5 g5 F4' Nb
  k_steps
  rename_i h5' F5' Nb
  have kk := between (s := s) kF5 F5' Nb khled
  have hLn := F5'.ns
  have kV5 : KeepP _ := VSt.walk kVc hLs (let ⟨o, _, _, ho, _⟩ := hLn; ⟨o, ho⟩) n1 n2 n3 n4 kk
  have S5 : GenAt _ _ _ _ _ _ _ _ _ _ _ { s with heap := h5', gens := _, toks := tk } := (GenAt.later kg) (later_of hL0 kk fun _ _ => rfl)
  clear kk hLn kVc kg khled kF5
  have hA5 : strmAll (ItemN kp) (outS (stPseudo kp) (finPseudo q r) ([], false, none) (outS (stConn kp) (fun _ => true) () (outS (stTe kp) (fun _ => true) () (outS (stEmpty kp) (fun _ => true) () (outS (stIll kp) (fun _ => true) () (strmOf items)))))) := strmAll_out (fun _ _ p _ => p) _ hA4
  have V : VSt s h' ps2 _ _ := kV5
  obtain ⟨ps6, c6⟩ := V.c1
  refine HostCk_c (dp := dp + 1) (un := un + 3) (outer := _ :: outer) (s0 := { s with heap := h' }) (kp := kp) (dn := 25) (un' := 120) (strm := (outS (stPseudo kp) (finPseudo q r) ([], false, none) (outS (stConn kp) (fun _ => true) () (outS (stTe kp) (fun _ => true) () (outS (stEmpty kp) (fun _ => true) () (outS (stIll kp) (fun _ => true) () (strmOf items))))))) (gd_vs kG V hok1 hok2 hP1 hP2 F5'.ns (fun e => nomatch e) rfl) (by omega) (by omega) (Nat.le_trans hb0 (Nat.le_trans hfab (Nat.le_of_lt F5'.ns.lt))) (kkk V) hP1 hP2 ⟨_, kF'.keep _ _ (isCode_there hok1).choose_spec⟩ ⟨_, V.c2⟩ V.x0 V.z S5 (strmAll_mono (fun _ p => p.1) hA5) (kkk V _ hfl) c6 fun a6 h6 tk6 gs6 ps6' x6 c6' b6 g6 => ?_
  have V2 := V.call x6 ⟨_, c6'⟩ b6
  have F6 : Fr (offT s.heap) L' h6 _ := ⟨F5'.ns.extBut x6 n1.symm, fun b o e => x6 b o (fun q => hideP_notp e (.inl q)) (F5'.keep b o e), F5'.above⟩
  have N6 := news_ledger (b0 := offT s.heap) (h := h6) (fp := fun b => b = L') (L := L') rfl
  generalize hled : ledger (offT s.heap) (fun b => b = L') h6 = led6 at N6
  have khled : KeepP _ := hled
  have kVc : KeepP _ := V2
  have kF6 : KeepP _ := F6.keep
  have kg : KeepP _ := g6
  have hA6 : strmAll (ItemN kp) (if (r || q) = true then (outS (stPseudo kp) (finPseudo q r) ([], false, none) (outS (stConn kp) (fun _ => true) () (outS (stTe kp) (fun _ => true) () (outS (stEmpty kp) (fun _ => true) () (outS (stIll kp) (fun _ => true) () (strmOf items)))))) else outS (stHost kp) finHost (none, none) (outS (stPseudo kp) (finPseudo q r) ([], false, none) (outS (stConn kp) (fun _ => true) () (outS (stTe kp) (fun _ => true) () (outS (stEmpty kp) (fun _ => true) () (outS (stIll kp) (fun _ => true) () (strmOf items))))))) := by
    split
    · exact hA5
    · exact strmAll_out (fun _ _ p _ => p) _ hA5
  clear hled V2 V x6 b6 g6 F5' Nb c6 c6' kV5
  k_steps
  rename_i h6' F6' Nb
  have kk := between (s := s) kF6 F6' Nb khled
  have hLn := F6'.ns
  have V : VSt s h' ps2 _ _ := VSt.walk kVc hLs (let ⟨o, _, _, ho, _⟩ := hLn; ⟨o, ho⟩) n1 n2 n3 n4 kk
  have S6 : GenAt _ _ _ _ _ _ _ _ _ _ _ { s with heap := h6', gens := _, toks := tk } := (GenAt.later kg) (later_of hL0 kk fun _ _ => rfl)
  obtain ⟨g, oh, og, X6⟩ := S6.toX
  refine PathCk_c (dp := dp + 1) (un := un + 3) (outer := _ :: outer) (s0 := { s with heap := h' }) (kp := kp) (dn := 26) (un' := 124) (gd_vs kG V hok1 hok2 hP1 hP2 F6'.ns (fun e => nomatch e) rfl) (by omega) (by omega) (Nat.le_trans hb0 (Nat.le_trans hfab (Nat.le_of_lt F6'.ns.lt))) (kkk V) hP1 hP2 ⟨_, kF'.keep _ _ (isCode_there hok2).choose_spec⟩ V.c1 V.x0 V.z X6 (strmAll_mono (fun _ p => p.1) hA6) (kkk V _ hfl) V.c2 (fun cv hcv => ?hr) fun a7 h7 tk7 gs7 ps7 g7 oh7 og7 x7 c7 b7 r7 gx7 => ?_
  case hr =>
    obtain ⟨c', q1, q2, q3, c2, o2, vs, t, z1, z2, z3⟩ := krec cv hcv
    have e2 : c' = c2 := by rw [q1] at z1; injection z1
    refine ⟨c', q1, q2, q3, fun q => ?_, c2, o2, vs, t, z1, V.keep _ _ (fun z => z.elim (fun z => q3 (e2.trans z)) fun z => q2 (e2.trans z)) z2, z3⟩
    have h0 := (X6.h1 c' q).1
    have h0' : h'.get? c' = none := h0
    rw [e2, kF'.keep _ _ z2] at h0'; cases h0'
  have V7 : VSt s h' ps7 h7 _ := VSt.call2 V x7 c7 b7
  exact kret a7 h7 tk7 _ g7 oh7 og7 _ ps7 (fun b o h1 h2 e => V7.keep b o (fun z => z.elim h1 h2) e) V7.c1.choose_spec c7 V7.gb V7.z V7.gk r7 (gx7.base kF'.keep)

end
section
open PySem PySem.W PyProof.Rows
set_option linter.unusedVariables false
set_option linter.unusedSimpArgs false
noncomputable abbrev Pr := List Int × List Int
/-- a stage over written pairs -/
noncomputable def runP {σ : Type} (step : σ → Pr → Option σ) (fin : σ → Bool) : σ → List Pr → Bool
  | x, [] => fin x
  | x, p :: r => match step x p with
    | some x' => runP step fin x' r
    | none => false
noncomputable def hStep (σ : HostSt) (p : Pr) : Option HostSt :=
  if p.1 = nAuth then some (some p.2, σ.2) else if p.1 = nHost then (if σ.2 = none then some (σ.1, some p.2) else none) else some σ
/-- what validate_headers lets pass -/
noncomputable def valL (q r : Bool) (L : List Pr) : Bool :=
  (L.all fun p => okIll p.1 p.2) && (L.all fun p => okEmpty p.1 p.2) && (L.all fun p => okTe p.1 p.2) && (L.all fun p => okConn p.1 p.2) &&
  runP (fun σ p => pStep p.1 p.2 σ) (fun σ => accF q r σ.1 σ.2.2) ([], false, none) L &&
  (if r || q then true else runP hStep finHost (none, none) L && L.all fun p => okPath p.1 p.2)
/-- _law_field -/
noncomputable def fieldF (n x : List Int) : Bool :=
  if decide (n = []) || decide ((58 : Int) ∈ n.drop 1) || !n.all okN then false
  else if !x.all okV then false
  else if !decide (x = stripL [32, 9] x) || ownL.contains n then false
  else if !decide (n = nTe) then true else decide (x.map lowI = vTrailers)
/-- the names with a colon ahead -/
noncomputable def specL (L : List Pr) : List (List Int) := (L.map (·.1)).filter fun n => n.take 1 == [58]
noncomputable def saidL (L : List Pr) (k : List Int) : Option (List Int) := ((L.take (specL L).length).reverse).lookup k
noncomputable def hostsL (L : List Pr) : List (List Int) := (L.filter fun p => p.1 == nHost).map (·.2)
/-- _law_sound's last questions: c a CONNECT, e an extended one -/
noncomputable def soundH (L : List Pr) : Bool :=
  if (specL L).contains nAuth then (hostsL L).isEmpty || decide (hostsL L = (saidL L nAuth).toList) else decide ((hostsL L).length = 1)
noncomputable def soundR (L : List Pr) (c e : Bool) : Bool :=
  if c && !e then (if (specL L).contains nScheme || (specL L).contains nPath then false else soundH L)
  else if !c && e then false
  else if !(specL L).contains nScheme || !(specL L).contains nPath || decide (saidL L nPath = some []) then false
  else soundH L
/-- _law_sound -/
noncomputable def soundF (q r : Bool) (L : List Pr) : Bool :=
  if !(L.all fun p => fieldF p.1 p.2) then false
  else if !decide ((L.map (·.1)).take (specL L).length = specL L) then false
  else if !((specL L).filter fun n => !allowedL.contains n || !decide ((specL L).count n = 1)).isEmpty then false
  else if q then (specL L).isEmpty
  else if r then decide (specL L = [nStatus])
  else if !(specL L).contains nMethod || (specL L).contains nStatus then false
  else soundR L (decide (saidL L nMethod = some vConnect)) ((specL L).contains nProt)
-- the field's questions
theorem dropWhile_head {d : List Int} : ∀ {l : List Int}, (l.dropWhile d.contains) = l ↔ l = [] ∨ d.contains (l.getD 0 0) = false
  | [] => by simp
  | a :: r => by
    rw [List.dropWhile_cons]
    by_cases h : d.contains a = true
    · simp only [h, if_true]
      constructor
      · intro e
        have h1 := (List.dropWhile_sublist d.contains (l := r)).length_le
        rw [e] at h1; simp at h1
        omega
      · rintro (e | e)
        · cases e
        · simp at e h; exact absurd h e
    · simp at h; simp [h]
theorem strip_same {d x : List Int} : x = stripL d x ↔ x = [] ∨ (d.contains (x.getD 0 0) = false ∧ d.contains (x.getD (x.length - 1) 0) = false) := by
  constructor
  · intro e
    by_cases hx : x = []
    · exact .inl hx
    refine .inr ?_
    have l1 := (List.dropWhile_sublist d.contains (l := x)).length_le
    have l2 := (List.dropWhile_sublist d.contains (l := (x.dropWhile d.contains).reverse)).length_le
    have l3 : x.length = ((x.dropWhile d.contains).reverse.dropWhile d.contains).length := by
      have := congrArg List.length e
      unfold stripL at this; rw [List.length_reverse] at this; exact this
    rw [List.length_reverse] at l2
    have e1 : x.dropWhile d.contains = x := (List.dropWhile_sublist d.contains).eq_of_length (by omega)
    have e2 : (x.dropWhile d.contains).reverse.dropWhile d.contains = (x.dropWhile d.contains).reverse := (List.dropWhile_sublist d.contains).eq_of_length (by rw [List.length_reverse]; omega)
    rw [e1] at e2
    refine ⟨(dropWhile_head.mp e1).resolve_left hx, ?_⟩
    have := (dropWhile_head.mp e2).resolve_left (by simpa using hx)
    have hl : 0 < x.length := List.length_pos_iff.mpr hx
    rwa [List.getD_eq_getElem?_getD, List.getElem?_reverse hl, ← List.getD_eq_getElem?_getD, Nat.sub_zero] at this
  · rintro (rfl | ⟨h1, h2⟩)
    · rfl
    · by_cases hx : x = []
      · subst hx; rfl
      have hl : 0 < x.length := List.length_pos_iff.mpr hx
      have e1 : x.dropWhile d.contains = x := dropWhile_head.mpr (.inr h1)
      have e2 : x.reverse.dropWhile d.contains = x.reverse := dropWhile_head.mpr (.inr (by
        rw [List.getD_eq_getElem?_getD, List.getElem?_reverse hl, ← List.getD_eq_getElem?_getD, Nat.sub_zero]; exact h2))
      unfold stripL
      rw [e1, e2, List.reverse_reverse]
theorem okE_strip {x : List Int} : (decide (x.length = 0) || okE x) = decide (x = stripL [32, 9] x) := by
  rw [Bool.eq_iff_iff]
  simp only [Bool.or_eq_true, decide_eq_true_eq, strip_same, okE, Bool.not_eq_true', Bool.or_eq_false_iff, decide_eq_false_iff_not]
  rw [List.length_eq_zero_iff]
  simp only [List.contains_cons, List.contains_nil, Bool.or_false, Bool.or_eq_false_iff, beq_eq_false_iff_ne, ne_eq]
  constructor <;> rintro (h | h)
  · exact .inl h
  · exact .inr ⟨⟨h.1.1.1, h.1.1.2⟩, h.1.2, h.2⟩
  · exact .inl h
  · exact .inr ⟨⟨⟨h.1.1, h.1.2⟩, h.2.1⟩, h.2.2⟩
theorem field_ok (n x : List Int) : fieldF n x = (okIll n x && okEmpty n x && okTe n x && okConn n x) := by
  have e := @okE_strip x
  have ev : (decide (x.length = 0) || (x.all okV && okE x)) = (x.all okV && decide (x = stripL [32, 9] x)) := by
    rw [← e]
    by_cases hx : x = []
    · subst hx; rfl
    · have : decide (x.length = 0) = false := by simpa using hx
      rw [this]; simp
  unfold fieldF okIll okEmpty okTe okConn
  rw [ev]
  have e1 : decide (n.length = 0) = decide (n = []) := decide_eq_decide.mpr List.length_eq_zero_iff
  rw [e1]
  generalize decide (n = []) = b1, decide ((58 : Int) ∈ n.drop 1) = b2, n.all okN = b3, x.all okV = b4, decide (x = stripL [32, 9] x) = b5, ownL.contains n = b6, decide (n = nTe) = b7, decide (x.map lowI = vTrailers) = b8
  revert b1 b2 b3 b4 b5 b6 b7 b8
  decide
-- the colon's stage
theorem sp_iff {n : List Int} : (n.take 1 == [58]) = decide (n.getD 0 0 = 58) := by
  cases n with
  | nil => rfl
  | cons a r => rw [Bool.eq_iff_iff]; simp
theorem spec_cons_t {p : Pr} {r : List Pr} (h : p.1.getD 0 0 = 58) : specL (p :: r) = p.1 :: specL r := by
  unfold specL; rw [List.map_cons, List.filter_cons, sp_iff, decide_eq_true h, if_pos rfl]
theorem spec_cons_f {p : Pr} {r : List Pr} (h : ¬ p.1.getD 0 0 = 58) : specL (p :: r) = specL r := by
  unfold specL; rw [List.map_cons, List.filter_cons, sp_iff, decide_eq_false h, if_neg (by decide)]
noncomputable def A1 (L : List Pr) : Bool := decide ((L.map (·.1)).take (specL L).length = specL L)
noncomputable def A2 : List (List Int) → List (List Int) → Bool
  | _, [] => true
  | seen, n :: r => !seen.contains n && allowedL.contains n && A2 (n :: seen) r
theorem A1_t {p : Pr} {r : List Pr} (h : p.1.getD 0 0 = 58) : A1 (p :: r) = A1 r := by
  unfold A1; rw [spec_cons_t h, List.map_cons, List.length_cons, List.take_succ_cons]
  exact decide_eq_decide.mpr ⟨fun e => (List.cons.inj e).2, fun e => by rw [e]⟩
theorem A1_f {p : Pr} {r : List Pr} (h : ¬ p.1.getD 0 0 = 58) : A1 (p :: r) = (specL r).isEmpty := by
  unfold A1; rw [spec_cons_f h, List.map_cons]
  cases e : specL r with
  | nil => rfl
  | cons n t =>
    have hn : n.getD 0 0 = 58 := by
      have : n ∈ specL r := by rw [e]; exact .head _
      unfold specL at this
      have := (List.mem_filter.mp this).2
      rw [sp_iff] at this; exact of_decide_eq_true this
    rw [List.length_cons, List.take_succ_cons]
    exact decide_eq_false fun q => h ((List.cons.inj q).1 ▸ hn)
theorem ps_reg (g : List (List Int) → Option (List Int) → Bool) : ∀ (L : List Pr) (seen : List (List Int)) (m : Option (List Int)),
    runP (fun σ p => pStep p.1 p.2 σ) (fun σ => g σ.1 σ.2.2) (seen, true, m) L = ((specL L).isEmpty && g seen m)
  | [], seen, m => rfl
  | p :: r, seen, m => by
    unfold runP pStep
    by_cases h : p.1.getD 0 0 = 58
    · rw [if_pos h, spec_cons_t h]
      cases seen.contains p.1 <;> rfl
    · rw [if_neg h, spec_cons_f h]
      exact ps_reg g r seen m
theorem said_t {p : Pr} {r : List Pr} {k : List Int} (h : p.1.getD 0 0 = 58) : saidL (p :: r) k = (saidL r k).or (if k == p.1 then some p.2 else none) := by
  unfold saidL
  rw [spec_cons_t h, List.length_cons, List.take_succ_cons, List.reverse_cons, List.lookup_append]
  congr 1
  cases e : (k == p.1) <;> simp [List.lookup, e]
theorem pStep_t {n x : List Int} {seen : List (List Int)} {b : Bool} {m : Option (List Int)} (h : n.getD 0 0 = 58) : pStep n x (seen, b, m) = if seen.contains n then none else if b then none else if !allowedL.contains n then none else some (n :: seen, b, if n = nMethod then some x else m) := if_pos h
theorem pStep_f {n x : List Int} {seen : List (List Int)} {b : Bool} {m : Option (List Int)} (h : ¬ n.getD 0 0 = 58) : pStep n x (seen, b, m) = some (seen, true, m) := if_neg h
theorem ps_run (g : List (List Int) → Option (List Int) → Bool) : ∀ (L : List Pr) (seen : List (List Int)) (m : Option (List Int)),
    runP (fun σ p => pStep p.1 p.2 σ) (fun σ => g σ.1 σ.2.2) (seen, false, m) L = (A1 L && A2 seen (specL L) && g ((specL L).reverse ++ seen) ((saidL L nMethod).or m))
  | [], seen, m => rfl
  | p :: r, seen, m => by
    unfold runP
    by_cases h : p.1.getD 0 0 = 58
    · rw [pStep_t h, A1_t h, said_t h, spec_cons_t h, A2]
      cases h1 : seen.contains p.1 with
      | true => simp
      | false =>
        cases h2 : allowedL.contains p.1 with
        | false => simp
        | true =>
          simp only [Bool.false_eq_true, if_false, Bool.not_true, Bool.not_false, Bool.true_and]
          rw [ps_run g r]
          congr 2
          · simp
          · by_cases e : p.1 = nMethod
            · have e' : (nMethod == p.1) = true := by rw [e]; exact beq_self_eq_true _
              rw [if_pos e, if_pos e']
              cases saidL r nMethod <;> rfl
            · have e' : ¬ (nMethod == p.1) = true := fun q => e (eq_of_beq q).symm
              rw [if_neg e, if_neg e']
              cases saidL r nMethod <;> rfl
    · rw [pStep_f h, A1_f h]
      dsimp only
      rw [ps_reg g r, spec_cons_f h]
      have hs : specL r = [] → saidL (p :: r) nMethod = none := fun e => by
        unfold saidL; rw [spec_cons_f h, e]; rfl
      cases e : specL r with
      | nil => rw [hs e]; simp [A2]
      | cons _ _ => rfl
theorem A2_iff : ∀ {S seen : List (List Int)}, A2 seen S = true ↔ S.Nodup ∧ (∀ n ∈ S, n ∉ seen) ∧ ∀ n ∈ S, n ∈ allowedL
  | [], seen => by simp [A2]
  | n :: r, seen => by
    rw [A2, Bool.and_eq_true, Bool.and_eq_true, A2_iff, List.nodup_cons]
    simp only [Bool.not_eq_true', List.contains_eq_mem, decide_eq_false_iff_not, decide_eq_true_eq, List.mem_cons, not_or]
    constructor
    · rintro ⟨⟨h1, h2⟩, h3, h4, h5⟩
      exact ⟨⟨fun hm => (h4 n hm).1 rfl, h3⟩, fun x hx => hx.elim (fun e => e ▸ h1) fun hx => (h4 x hx).2, fun x hx => hx.elim (fun e => e ▸ h2) (h5 x)⟩
    · rintro ⟨⟨h1, h2⟩, h3, h4⟩
      exact ⟨⟨h3 n (.inl rfl), h4 n (.inl rfl)⟩, h2, fun x hx => ⟨fun e => h1 (e ▸ hx), h3 x (.inr hx)⟩, fun x hx => h4 x (.inr hx)⟩
theorem A2_filter {S : List (List Int)} : A2 [] S = (S.filter fun n => !allowedL.contains n || !decide (S.count n = 1)).isEmpty := by
  rw [Bool.eq_iff_iff, A2_iff, List.isEmpty_iff, List.filter_eq_nil_iff]
  simp only [Bool.or_eq_true, Bool.not_eq_true', decide_eq_false_iff_not, not_or, Bool.not_eq_false, List.contains_eq_mem, decide_eq_true_eq, Decidable.not_not]
  constructor
  · rintro ⟨h1, _, h3⟩ a ha
    exact ⟨h3 a ha, by rw [h1.count, if_pos ha]⟩
  · intro h
    refine ⟨List.nodup_iff_count.mpr fun a => ?_, fun _ _ => List.not_mem_nil, fun a ha => (h a ha).1⟩
    by_cases ha : a ∈ S
    · exact Nat.le_of_eq (h a ha).2
    · rw [List.count_eq_zero.mpr ha]; exact Nat.zero_le _
-- said, looked up in the whole
theorem said_rev {k : List Int} (hk : k.getD 0 0 = 58) : ∀ {L : List Pr}, A1 L = true → saidL L k = L.reverse.lookup k
  | [], _ => rfl
  | p :: r, h => by
    by_cases hp : p.1.getD 0 0 = 58
    · rw [A1_t hp] at h
      rw [said_t hp, said_rev hk h, List.reverse_cons, List.lookup_append]
      congr 1
      cases e : (k == p.1) <;> simp [List.lookup, e]
    · rw [A1_f hp, List.isEmpty_iff] at h
      have e1 : saidL (p :: r) k = none := by unfold saidL; rw [spec_cons_f hp, h]; rfl
      rw [e1]
      symm
      rw [List.lookup_eq_none_iff]
      intro q hq
      rw [bne_iff_ne]
      intro e
      rcases List.mem_cons.mp (List.mem_reverse.mp hq) with rfl | hq
      · exact hp (e ▸ hk)
      · have : q.1 ∈ specL r := List.mem_filter.mpr ⟨List.mem_map.mpr ⟨q, hq, rfl⟩, by rw [sp_iff, ← e]; exact decide_eq_true hk⟩
        rw [h] at this; cases this
theorem said_has {k : List Int} (hk : k.getD 0 0 = 58) {L : List Pr} (h : A1 L = true) : (specL L).contains k = (saidL L k).isSome := by
  rw [said_rev hk h, Bool.eq_iff_iff]
  have : specL L = (L.map (·.1)).filter fun n => n.take 1 == [58] := rfl
  rw [List.contains_eq_mem, decide_eq_true_eq, this, List.mem_filter, sp_iff]
  constructor
  · rintro ⟨hm, _⟩
    obtain ⟨q, hq, e⟩ := List.mem_map.mp hm
    cases z : L.reverse.lookup k with
    | some _ => rfl
    | none =>
      have := List.lookup_eq_none_iff.mp z q (List.mem_reverse.mpr hq)
      rw [e] at this; simp at this
  · intro hs
    obtain ⟨x, hx⟩ := Option.isSome_iff_exists.mp hs
    obtain ⟨l₁, l₂, e1, _⟩ := List.lookup_eq_some_iff.mp hx
    have : (k, x) ∈ L.reverse := by rw [e1]; simp
    exact ⟨List.mem_map.mpr ⟨_, List.mem_reverse.mp this, rfl⟩, decide_eq_true hk⟩
/-- with no name twice, every value of a name with a colon is what is said of it -/
theorem said_mem {L : List Pr} (h : A1 L = true) (hn : (specL L).Nodup) {p : Pr} (hp : p ∈ L) (hk : p.1.getD 0 0 = 58) : saidL L p.1 = some p.2 := by
  induction L with
  | nil => cases hp
  | cons a r ih =>
    by_cases ha : a.1.getD 0 0 = 58
    · rw [A1_t ha] at h
      rw [spec_cons_t ha, List.nodup_cons] at hn
      rw [said_t ha]
      rcases List.mem_cons.mp hp with rfl | hp
      · have : saidL r p.1 = none := by
          have := said_has hk h
          cases e : saidL r p.1 with
          | none => rfl
          | some _ => rw [e] at this; exact absurd (by simpa using this) hn.1
        rw [this, beq_self_eq_true, if_pos rfl]; rfl
      · rw [ih h hn.2 hp]; rfl
    · rw [A1_f ha, List.isEmpty_iff] at h
      rcases List.mem_cons.mp hp with rfl | hp
      · exact absurd hk ha
      · have : p.1 ∈ specL r := List.mem_filter.mpr ⟨List.mem_map.mpr ⟨p, hp, rfl⟩, by rw [sp_iff]; exact decide_eq_true hk⟩
        rw [h] at this; cases this
theorem path_all {L : List Pr} (h : A1 L = true) (hn : (specL L).Nodup) : (L.all fun p => okPath p.1 p.2) = !decide (saidL L nPath = some []) := by
  rw [Bool.eq_iff_iff, List.all_eq_true, Bool.not_eq_true', decide_eq_false_iff_not]
  constructor
  · intro ha e
    rw [said_rev rfl h] at e
    obtain ⟨l₁, l₂, e1, _⟩ := List.lookup_eq_some_iff.mp e
    have : (nPath, ([] : List Int)) ∈ L.reverse := by rw [e1]; simp
    have := ha _ (List.mem_reverse.mp this)
    simp [okPath] at this
  · intro e p hp
    unfold okPath
    by_cases q : p.1 = nPath
    · have := said_mem h hn hp (by rw [q]; rfl)
      by_cases q2 : p.2 = []
      · rw [q, q2] at this; exact absurd this e
      · simp [q2]
    · simp [q]
-- the host's stage
theorem hStep_is {σ : HostSt} {p : Pr} : hStep σ p = if p.1 = nAuth then some (some p.2, σ.2) else if p.1 = nHost then (if σ.2 = none then some (σ.1, some p.2) else none) else some σ := rfl
theorem host_some : ∀ (L : List Pr) (a : Option (List Int)) (x : List Int), runP hStep finHost (a, some x) L = ((hostsL L).isEmpty && finHost ((L.reverse.lookup nAuth).or a, some x))
  | [], a, x => rfl
  | p :: r, a, x => by
    unfold runP
    rw [hStep_is]
    have hl : (p :: r).reverse.lookup nAuth = (r.reverse.lookup nAuth).or (if p.1 = nAuth then some p.2 else none) := by
      rw [List.reverse_cons, List.lookup_append]
      congr 1
      by_cases e : p.1 = nAuth
      · simp [List.lookup, e]
      · have : (nAuth == p.1) = false := beq_eq_false_iff_ne.mpr (Ne.symm e)
        simp [List.lookup, this, e]
    have hh : hostsL (p :: r) = if p.1 = nHost then p.2 :: hostsL r else hostsL r := by
      unfold hostsL; rw [List.filter_cons]
      by_cases e : p.1 = nHost
      · simp [e]
      · simp [e]
    rw [hl, hh]
    by_cases e : p.1 = nAuth
    · have e2 : ¬ p.1 = nHost := by rw [e]; decide
      rw [if_pos e, if_neg e2, if_pos e]
      dsimp only
      rw [host_some r]
      cases r.reverse.lookup nAuth <;> rfl
    · rw [if_neg e]
      by_cases e2 : p.1 = nHost
      · rw [if_pos e2, if_pos e2]; rfl
      · rw [if_neg e2, if_neg e2, if_neg e]
        dsimp only
        rw [host_some r]
        cases r.reverse.lookup nAuth <;> rfl
theorem host_none : ∀ (L : List Pr) (a : Option (List Int)), runP hStep finHost (a, none) L = (decide ((hostsL L).length ≤ 1) && finHost ((L.reverse.lookup nAuth).or a, (hostsL L).head?))
  | [], a => rfl
  | p :: r, a => by
    unfold runP
    rw [hStep_is]
    have hl : (p :: r).reverse.lookup nAuth = (r.reverse.lookup nAuth).or (if p.1 = nAuth then some p.2 else none) := by
      rw [List.reverse_cons, List.lookup_append]
      congr 1
      by_cases e : p.1 = nAuth
      · simp [List.lookup, e]
      · have : (nAuth == p.1) = false := beq_eq_false_iff_ne.mpr (Ne.symm e)
        simp [List.lookup, this, e]
    have hh : hostsL (p :: r) = if p.1 = nHost then p.2 :: hostsL r else hostsL r := by
      unfold hostsL; rw [List.filter_cons]
      by_cases e : p.1 = nHost
      · simp [e]
      · simp [e]
    rw [hl, hh]
    by_cases e : p.1 = nAuth
    · have e2 : ¬ p.1 = nHost := by rw [e]; decide
      rw [if_pos e, if_neg e2, if_pos e]
      dsimp only
      rw [host_none r]
      cases r.reverse.lookup nAuth <;> rfl
    · rw [if_neg e]
      by_cases e2 : p.1 = nHost
      · rw [if_pos e2, if_pos e2, if_pos rfl, if_neg e]
        dsimp only
        rw [host_some r]
        cases hostsL r with
        | nil => cases r.reverse.lookup nAuth <;> simp
        | cons _ _ => simp
      · rw [if_neg e2, if_neg e2, if_neg e]
        dsimp only
        rw [host_none r]
        cases r.reverse.lookup nAuth <;> rfl
theorem host_is {L : List Pr} (h : A1 L = true) : runP hStep finHost (none, none) L = soundH L := by
  rw [host_none, ← said_rev rfl h]
  unfold soundH finHost
  rw [said_has rfl h]
  dsimp only
  cases saidL L nAuth with
  | none =>
    cases hostsL L with
    | nil => rfl
    | cons x t => cases t <;> simp
  | some v =>
    cases hostsL L with
    | nil => simp
    | cons x t =>
      cases t with
      | nil => simp [eq_comm]
      | cons _ _ => simp
theorem contains_rev {S : List (List Int)} {k : List Int} : (S.reverse ++ []).contains k = S.contains k := by simp
theorem noneOf_one {S : List (List Int)} {k : List Int} : noneOf [k] (S.reverse ++ []) = !S.contains k := by
  unfold noneOf
  rw [List.filter_cons, contains_rev]
  cases S.contains k <;> rfl
theorem resp_is {S : List (List Int)} (hn : S.Nodup) (ha : ∀ n ∈ S, n ∈ allowedL) : (S.contains nStatus && noneOf reqOnlyL (S.reverse ++ [])) = decide (S = [nStatus]) := by
  rw [Bool.eq_iff_iff, Bool.and_eq_true, decide_eq_true_eq, noneOf, List.isEmpty_iff, List.filter_eq_nil_iff]
  simp only [contains_rev, List.contains_eq_mem, decide_eq_true_eq]
  constructor
  · rintro ⟨h1, h2⟩
    have h3 : ∀ n ∈ S, n = nStatus := fun n hn => by
      have hm := ha n hn
      simp only [allowedL, List.mem_cons, List.not_mem_nil, or_false] at hm
      rcases hm with rfl | rfl | rfl | rfl | rfl | rfl
      · exact absurd (by simpa using hn) (h2 nMethod (by simp [reqOnlyL]))
      · exact absurd (by simpa using hn) (h2 nScheme (by simp [reqOnlyL]))
      · exact absurd (by simpa using hn) (h2 nAuth (by simp [reqOnlyL]))
      · exact absurd (by simpa using hn) (h2 nPath (by simp [reqOnlyL]))
      · rfl
      · exact absurd (by simpa using hn) (h2 nProt (by simp [reqOnlyL]))
    cases S with
    | nil => cases h1
    | cons a t =>
      have e1 := h3 a (.head _)
      cases t with
      | nil => rw [e1]
      | cons b t =>
        have e2 := h3 b (.tail _ (.head _))
        rw [e1, e2] at hn
        exact absurd (.head _) (List.nodup_cons.mp hn).1
  · rintro rfl
    refine ⟨.head _, fun n hm => ?_⟩
    simp only [reqOnlyL, List.mem_cons, List.not_mem_nil, or_false] at hm ⊢
    rcases hm with rfl | rfl | rfl | rfl | rfl <;> decide
theorem all_and' {α : Type} {f g : α → Bool} : ∀ {l : List α}, (l.all fun x => f x && g x) = (l.all f && l.all g)
  | [] => rfl
  | a :: r => by rw [List.all_cons, List.all_cons, List.all_cons, all_and']; cases f a <;> cases g a <;> cases r.all f <;> rfl
theorem law_is {q r : Bool} (hqr : (q && r) = false) (L : List Pr) : valL q r L = soundF q r L := by
  have hf : (L.all fun p => fieldF p.1 p.2) = ((L.all fun p => okIll p.1 p.2) && (L.all fun p => okEmpty p.1 p.2) && (L.all fun p => okTe p.1 p.2) && (L.all fun p => okConn p.1 p.2)) := by
    rw [← all_and', ← all_and', ← all_and']
    congr 1
    funext p; exact field_ok p.1 p.2
  unfold valL soundF
  rw [← hf, ps_run (accF q r)]
  cases (L.all fun p => fieldF p.1 p.2) with
  | false => rfl
  | true =>
    rw [← A2_filter]
    show (true && (A1 L && A2 [] (specL L) && _) && _) = if !true then false else if !A1 L then false else _
    cases h1 : A1 L with
    | false => rfl
    | true =>
      cases h2 : A2 [] (specL L) with
      | false => rfl
      | true =>
        obtain ⟨hn, _, ha⟩ := A2_iff.mp h2
        simp only [Bool.true_and, Bool.not_true, Bool.false_eq_true, if_false]
        unfold accF
        cases q with
        | true =>
          have : r = false := by simpa using hqr
          subst this
          cases specL L with
          | nil => rfl
          | cons a t =>
            have : decide (0 < ((a :: t).reverse ++ []).length) = true := by simp
            rw [this]; rfl
        | false =>
          cases r with
          | true =>
            simp only [Bool.false_and, Bool.false_eq_true, if_false, if_true, Bool.or_false, Bool.and_true]
            rw [contains_rev]
            exact resp_is hn ha
          | false =>
            simp only [Bool.false_and, Bool.false_eq_true, if_false, Bool.or_false]
            rw [contains_rev, contains_rev, contains_rev, contains_rev, noneOf_one, noneOf_one, host_is h1, path_all h1 hn]
            have hp : decide (saidL L nPath = some []) = true → (specL L).contains nPath = true := fun e => by
              rw [said_has rfl h1, of_decide_eq_true e]; rfl
            have ho : (saidL L nMethod).or none = saidL L nMethod := by cases saidL L nMethod <;> rfl
            rw [ho]
            unfold soundR accR
            generalize (specL L).contains nMethod = b1, decide (saidL L nMethod = some vConnect) = b2, (specL L).contains nProt = b3, (specL L).contains nScheme = b4, (specL L).contains nPath = b5, (specL L).contains nStatus = b6, soundH L = b7, decide (saidL L nPath = some []) = b8 at *
            revert hp
            revert b1 b2 b3 b4 b5 b6 b7 b8
            decide
theorem outS_all {σ : Type} {step : σ → Value → Option σ} {fin : σ → Bool} {g : Value → Pr} {st : σ → Pr → Option σ} (hs : ∀ x v, step x v = st x (g v)) : ∀ (s : Strm) (x : σ),
    (outS step fin x s).all = s.all.bind fun l => if runP st fin x (l.map g) then some l else none
  | .fail, _ => rfl
  | .done, x => by
    show (if fin x = true then Strm.done else Strm.fail).all = if fin x = true then some [] else none
    cases fin x <;> rfl
  | .item v r, x => by
    show (match step x v with | some x' => Strm.item v (outS step fin x' r) | none => .fail).all = (r.all.map (v :: ·)).bind _
    rw [hs]
    cases e : st x (g v) with
    | none =>
      show none = _
      cases r.all with
      | none => rfl
      | some l =>
        show none = if runP st fin x (g v :: l.map g) = true then _ else none
        unfold runP; rw [e]; rfl
    | some x' =>
      show (outS step fin x' r).all.map (v :: ·) = _
      rw [outS_all hs r x']
      cases r.all with
      | none => rfl
      | some l =>
        show (if runP st fin x' (l.map g) = true then some l else none).map (v :: ·) = if runP st fin x (g v :: l.map g) = true then some (v :: l) else none
        rw [show runP st fin x (g v :: l.map g) = runP st fin x' (l.map g) by conv => { lhs; unfold runP; rw [e] }]
        cases runP st fin x' (l.map g) <;> rfl
theorem strmOf_all : ∀ l : List Value, (strmOf l).all = some l
  | [] => rfl
  | v :: r => by show (strmOf r).all.map (v :: ·) = _; rw [strmOf_all r]; rfl
theorem runP_unit {ok : List Int → List Int → Bool} : ∀ (L : List Pr), runP (fun (_ : Unit) p => if ok p.1 p.2 = true then some () else none) (fun _ => true) () L = L.all fun p => ok p.1 p.2
  | [] => rfl
  | p :: r => by
    unfold runP
    rw [List.all_cons]
    cases ok p.1 p.2 with
    | true => exact (runP_unit r).trans (Bool.true_and _).symm
    | false => rfl
/-- the stages together -/
theorem valS_all (kp : List (Addr × Obj)) (q r : Bool) (items : List Value) : (valS kp q r (strmOf items)).all = if valL q r (items.map (cont kp)) then some items else none := by
  have h1 := outS_all (step := stIll kp) (fin := fun _ => true) (g := cont kp) (st := fun (_ : Unit) p => if okIll p.1 p.2 = true then some () else none) (fun _ _ => rfl)
  have h2 := outS_all (step := stEmpty kp) (fin := fun _ => true) (g := cont kp) (st := fun (_ : Unit) p => if okEmpty p.1 p.2 = true then some () else none) (fun _ _ => rfl)
  have h3 := outS_all (step := stTe kp) (fin := fun _ => true) (g := cont kp) (st := fun (_ : Unit) p => if okTe p.1 p.2 = true then some () else none) (fun _ _ => rfl)
  have h4 := outS_all (step := stConn kp) (fin := fun _ => true) (g := cont kp) (st := fun (_ : Unit) p => if okConn p.1 p.2 = true then some () else none) (fun _ _ => rfl)
  have h5 := outS_all (step := stPseudo kp) (fin := finPseudo q r) (g := cont kp) (st := fun σ p => pStep p.1 p.2 σ) (fun _ _ => rfl)
  have h6 := outS_all (step := stHost kp) (fin := finHost) (g := cont kp) (st := hStep) (fun _ _ => rfl)
  have h7 := outS_all (step := stPath kp) (fin := fun _ => true) (g := cont kp) (st := fun (_ : Unit) p => if okPath p.1 p.2 = true then some () else none) (fun _ _ => rfl)
  have e0 := strmOf_all items
  have g1 := h1 (strmOf items) ()
  rw [e0, Option.bind_some, runP_unit] at g1
  have g2 := h2 (outS (stIll kp) (fun _ => true) () (strmOf items)) ()
  have g3 := h3 (outS (stEmpty kp) (fun _ => true) () (outS (stIll kp) (fun _ => true) () (strmOf items))) ()
  have g4 := h4 (outS (stTe kp) (fun _ => true) () (outS (stEmpty kp) (fun _ => true) () (outS (stIll kp) (fun _ => true) () (strmOf items)))) ()
  have g5 := h5 (outS (stConn kp) (fun _ => true) () (outS (stTe kp) (fun _ => true) () (outS (stEmpty kp) (fun _ => true) () (outS (stIll kp) (fun _ => true) () (strmOf items))))) ([], false, none)
  unfold valS valL
  dsimp only
  rw [g1] at g2; rw [g2] at g3; rw [g3] at g4; rw [g4] at g5
  clear g1 g2 g3 g4
  have fp : ∀ σ : PsSt, finPseudo q r σ = accF q r σ.1 σ.2.2 := fun _ => rfl
  have fpe : finPseudo q r = fun σ => accF q r σ.1 σ.2.2 := funext fp
  rw [fpe] at g5
  rw [fpe]
  generalize outS (stPseudo kp) (fun σ => accF q r σ.1 σ.2.2) ([], false, none) _ = S5 at g5 ⊢
  have g6 := h6 S5 (none, none)
  have g7 := h7 (outS (stHost kp) finHost (none, none) S5) ()
  have g5' : S5.all = if ((items.map (cont kp)).all fun p => okIll p.1 p.2) && ((items.map (cont kp)).all fun p => okEmpty p.1 p.2) && ((items.map (cont kp)).all fun p => okTe p.1 p.2) && ((items.map (cont kp)).all fun p => okConn p.1 p.2) && runP (fun σ p => pStep p.1 p.2 σ) (fun σ => accF q r σ.1 σ.2.2) ([], false, none) (items.map (cont kp)) then some items else none := by
    rw [g5]
    cases ((items.map (cont kp)).all fun p => okIll p.1 p.2) with
    | false => rfl
    | true =>
      rw [if_pos rfl, Option.bind_some, runP_unit]
      cases ((items.map (cont kp)).all fun p => okEmpty p.1 p.2) with
      | false => rfl
      | true =>
        rw [if_pos rfl, Option.bind_some, runP_unit]
        cases ((items.map (cont kp)).all fun p => okTe p.1 p.2) with
        | false => rfl
        | true =>
          rw [if_pos rfl, Option.bind_some, runP_unit]
          cases ((items.map (cont kp)).all fun p => okConn p.1 p.2) with
          | false => rfl
          | true => rfl
  clear g5
  generalize (((items.map (cont kp)).all fun p => okIll p.1 p.2) && ((items.map (cont kp)).all fun p => okEmpty p.1 p.2) && ((items.map (cont kp)).all fun p => okTe p.1 p.2) && ((items.map (cont kp)).all fun p => okConn p.1 p.2) && runP (fun σ p => pStep p.1 p.2 σ) (fun σ => accF q r σ.1 σ.2.2) ([], false, none) (items.map (cont kp))) = b at g5'
  cases (r || q) with
  | true =>
    rw [if_pos rfl, if_pos rfl, if_pos rfl, g5']
    cases b <;> rfl
  | false =>
    rw [if_neg (by decide), if_neg (by decide), g7, g6, g5']
    show _ = if (b && (runP hStep finHost (none, none) (items.map (cont kp)) && (items.map (cont kp)).all fun p => okPath p.1 p.2)) = true then some items else none
    cases b with
    | false => rfl
    | true =>
      rw [if_pos rfl, Option.bind_some]
      cases runP hStep finHost (none, none) (items.map (cont kp)) with
      | false => rfl
      | true => rw [if_pos rfl, Option.bind_some, runP_unit]; rfl

end
section
open PySem PySem.W PyProof.Rows PySem.Calls PySem.Spec PyProof.Rows.LCg
set_option Elab.async false
set_option maxRecDepth 100000
set_option maxHeartbeats 4000000
set_option linter.unusedVariables false
section
variable {w : World} {A : Around} {E : Value → Shared → Prop} {scope : Scope} {pos : Pos} {h₀ : Heap} {L : Addr} {m : Str → Option Value} {news : List (Addr × Obj)} {env : Env} {cl : List (Str × Addr)} {s : Shared}
/-- [x for x in b if ..], b a byte string: whether anything is left -/
theorem comp_bytes {x xe : Str} {px pe : Pos} {iter : Expr} {ifs : List Expr} {b : Array UInt8} {tb : Tok} {ks : List Int} {Q : Value → Shared → Prop} (q : Int → Bool) (hb : KBw.bInts b = ks) (hl : ks.length ≤ 1000) (hh : A.handled = none)
    (F : Fr h₀ L s.heap m) (N : News h₀ L s.heap news)
    (hiter : ∀ Q' : Value → Shared → Prop, Q' (.bytes b tb) s → wpAny (model Pg w) A (eval iter env) Q' E s)
    (hclos : closureFor scope env = pure cl) (hcell : ∀ y ∈ scope.names, y.2 ≠ .cell) (hkind : scope.kind = .function)
    (hnames : ∀ y ∈ scope.names, y.2 = .local → scope.names.lookup y.1 = some .local) (hs : ∀ x, foldedSetIterable iter env x = pure x)
    (hx : scope.names.lookup x = some .local) (hxe : xe = x) (hd : (x == ("__debug__" : Str)) = false)
    (tst : ∀ C oC m₃ h₃ tk₃ (E' : Value → Shared → Prop) (c : Int) u, 0 ≤ c → c < 256 → m₃ x = some (.int c u) → NsObj oC m₃ → Fr h₀ L h₃ m → News h₀ L h₃ ((C, oC) :: news) → (∀ p ∈ news, p.1 ≠ C) →
      wpAny (model Pg w) A (testsOf ifs (compEnvC scope cl C env)) (fun ok s₅ => ok = q c ∧ Keeps { s with heap := h₃, toks := tk₃ } s₅) E' { s with heap := h₃, toks := tk₃ })
    (fin : ∀ D h' tk ys c, Fr h₀ L h' m → News h₀ L h' ((D, listO ys c) :: news) → (ys.isEmpty = (ks.filter q).isEmpty) → Q (.ref D) { s with heap := h', toks := tk }) :
    wpAny (model Pg w) A (eval (.ListComp (.Name xe pe) [⟨.Name x px, iter, ifs, 0⟩] scope pos) env) Q E s := by
  have hlen : b.size = ks.length := by rw [← hb]; simp [KBw.bInts]
  refine Comp_K hclos hcell hkind hnames hs (hiter _ ?_)
  refine iter_name_bytes (p := fun i => q (ks.getD i 0)) hh F N (by rw [hlen]; exact Nat.le_trans hl (by decide)) hkind hx hxe hd (fun C oC m₃ i h₃ tk₃ E' hi ⟨v, ⟨c, u, hc, hv⟩, hm⟩ ho F₃ N₃ hne => ?_) fun D h' tk ys c F' N' _ hP => fin D h' tk ys c F' N' ?_
  · have e : ks.getD i 0 = (c.toNat : Int) := by
      rw [← hb, KBw.bInts, List.getD_eq_getElem?_getD, List.getElem?_map]
      have : b.toList[i]? = some c := by simpa using hc
      rw [this]; rfl
    subst hv
    refine wpAny_mono (tst C oC m₃ h₃ tk₃ E' c.toNat u (by omega) (by have := c.toNat_lt; omega) hm ho F₃ N₃ hne) (fun ok s₅ hok => ⟨hok.1.trans (congrArg q e.symm), hok.2⟩) fun _ _ z => z
  · have h1 := Paired.length hP
    have h2 : ((List.range b.size).filter fun i => q (ks.getD i 0)).length = (ks.filter q).length := by
      have h3 : ks = (List.range ks.length).map fun i => ks.getD i 0 := by
        refine List.ext_getElem (by simp) fun i hi _ => ?_
        simp [List.getD_eq_getElem?_getD, List.getElem?_eq_getElem hi]
      conv => rhs; rw [h3]
      rw [List.filter_map, List.length_map, hlen]
      rfl
    rw [h2] at h1
    have h4 : ys.size = (ks.filter q).length := by simpa using h1.symm
    cases e : ks.filter q with
    | nil => rw [e] at h4; simp [Array.isEmpty, h4]
    | cons z r => rw [e] at h4; simp [Array.isEmpty, h4]
end

end
section
open PySem PySem.W PyProof.Rows PySem.Calls PySem.Spec PyProof.Rows.LCg
set_option Elab.async false
set_option maxRecDepth 100000
set_option maxHeartbeats 4000000
set_option linter.unusedVariables false
/-! ## for a, b in pairs: .. that goes on or comes back -/
section
variable {w : World} {A : Around} {E : Value → Shared → Prop} {s : Shared} {env : Env} {h₀ : Heap} {x x₂ : Str} {body : List Stmt} {Q : Flow → Shared → Prop} {m₀ : Str → Option Value} {news : List (Addr × Obj)}
noncomputable def setTwo (x x₂ : Str) (v v' : Value) (m : Str → Option Value) : Str → Option Value := fun z => if z = x₂ then some v' else if z = x then some v else m z
theorem For_pairs {px px₂ tp pos : Pos} {kt : Nat} {iter : Expr} {ax : Addr} {its : Array Value} {Ts : Nat → Addr} {v1 v2 : Nat → Value} (ok : Nat → Bool) (hh : A.handled = none) (F : Fr h₀ env.locals s.heap m₀) (N : News h₀ env.locals s.heap news) (hE : PassesOwn (model Pg w) A env E)
    (hx : env.kindOf x = some .local) (hx₂ : env.kindOf x₂ = some .local)
    (hp : (env.scope.kind == .class || (env.scope.kind == .module && env.locals != env.globals)) = false) (hs : ∀ x, foldedSetIterable iter env x = pure x)
    (hiter : ∀ Q' : Value → Shared → Prop, Q' (.ref ax) s → wpAny (model Pg w) A (eval iter env) Q' E s)
    (hl : h₀.IsList ax its) (hit : ∀ j, j < its.size → its[j]? = some (.ref (Ts j))) (htup : ∀ j, j < its.size → h₀.IsTuple (Ts j) #[v1 j, v2 j])
    (turn : ∀ (QQ : Flow → Shared → Prop) i h tk own, i < its.size → Fr h₀ env.locals h (setTwo x x₂ (v1 i) (v2 i) m₀) → News h₀ env.locals h (own ++ news) →
      (ok i = true → ∀ h' tk' m', Fr h₀ env.locals h' m' → (∀ z, z ≠ x → z ≠ x₂ → m' z = m₀ z) → News h₀ env.locals h' (own ++ news) → QQ .next { s with heap := h', toks := tk' }) →
      (ok i = false → ∀ h' tk' m', Fr h₀ env.locals h' m' → QQ (.ret (.bool false)) { s with heap := h', toks := tk' }) →
      wpAny (model Pg w) A (execs body env) QQ E { s with heap := h, toks := tk })
    (done : (∀ i, i < its.size → ok i = true) → ∀ (u : Str → Option Value) h tk, Fr h₀ env.locals h (fun z => if z = x₂ then u z else if z = x then u z else m₀ z) → News h₀ env.locals h news → Q .next { s with heap := h, toks := tk })
    (early : (∃ i, i < its.size ∧ ok i = false) → ∀ h' tk m', Fr h₀ env.locals h' m' → Q (.ret (.bool false)) { s with heap := h', toks := tk }) :
    wpAny (model Pg w) A (exec (.For (.Tuple [.Name x px, .Name x₂ px₂] kt tp) iter body [] pos) env) Q E s := by
  have hls : s.heap.IsList ax its := hl.at fun o e => F.keep ax o e
  obtain ⟨o, ho, _⟩ := id hls
  obtain ⟨o0, ho0, _⟩ := id hl
  have hlt := Heap.lt_size ho
  have hTlt : ∀ j, j < its.size → Ts j < h₀.objs.size := fun j hj => by obtain ⟨o, ho, _⟩ := htup j hj; exact Heap.lt_size ho
  have hTs : ∀ j, j < its.size → s.heap.IsTuple (Ts j) #[v1 j, v2 j] := fun j hj => (htup j hj).at fun o e => F.keep _ o e
  have hLlt := F.ns.lt
  have W := WalksU.listOfTuples (prog := Pg) (w := w) hh s.heap.objs.size ax (Nat.ne_of_lt hlt) its Ts (fun j => #[v1 j, v2 j]) hit (fun j hj => Nat.ne_of_lt (Nat.lt_of_lt_of_le (hTlt j hj) (Nat.le_trans F.above (Nat.le_of_lt hLlt))))
  refine For_turns F (hiter _ (wpAny_pyIter_list hls ?_)) hs hE
  have hnw : ∀ p ∈ news, p.1 ∉ [s.heap.objs.size] := fun p hp hm => by
    have := Heap.lt_size (N p hp).1
    rw [List.mem_singleton.mp hm] at this; exact Nat.lt_irrefl _ this
  refine ⟨s.heap.objs.size, _, [s.heap.objs.size], its.size, _, _, _, m₀, news, fun i m nx => nx = news ∧ (∀ z, z ≠ x → z ≠ x₂ → m z = m₀ z) ∧ ∀ j, j < i → ok j = true, rfl, KTurns.ofWalksU W, ?_, ?_, hnw, ⟨⟨_, Heap.get?_push_size _ rfl, rfl, rfl⟩, hls.push _, fun k hk => (hTs k hk).at fun o e => Heap.get?_push_of_some _ e⟩, F.push _, fun p hp => ⟨Heap.get?_push_of_some _ (N p hp).1, (N p hp).2⟩, ⟨rfl, fun _ _ _ => rfl, fun j hj => absurd hj (Nat.not_lt_zero _)⟩, ?_, ?_⟩
  · intro hb
    rcases List.mem_cons.mp hb with e | hb
    · rw [e] at hLlt; exact Nat.lt_irrefl _ hLlt
    · rcases List.mem_cons.mp hb with e | hb
      · exact Nat.lt_irrefl _ (Nat.lt_of_lt_of_le (e ▸ Heap.lt_size ho0 : env.locals < h₀.objs.size) F.above)
      · obtain ⟨k, hk, e⟩ := List.mem_map.mp hb
        have := hTlt k (List.mem_range.mp hk)
        exact Nat.lt_irrefl _ (Nat.lt_of_lt_of_le (e ▸ this : env.locals < h₀.objs.size) F.above)
  · intro b hb
    rw [List.mem_singleton.mp hb]
    exact Heap.get?_none_of_le (Nat.le_trans F.above (Nat.le_of_lt hLlt))
  · rintro i v m₁ news₁ h₁ tk₁ own hi ⟨T, vals, rfl, rfl, hT⟩ ⟨rfl, hm, hok⟩ hn₁ hfp hown hfp' st F₁ N₁
    refine assign_Tuple_tuple hh hT rfl rfl fun h₅ he => ?_
    have he' : ∀ b o, h₁.get? b = some o → h₅.get? b = some o := fun b o e => he b o (Nat.ne_of_lt (Heap.lt_size e)) e
    have F₅ := F₁.keeps he'
    have N₅ : News h₀ env.locals h₅ (own ++ news₁) := fun p hp => ⟨he' _ _ (N₁ p hp).1, (N₁ p hp).2⟩
    refine assignInOrder_cons (wpAny_assign_Name (wpAny_storeName_local hx F₅.ns (fun h₆ hn₆ hs₆ => ?_) hp))
    refine assignInOrder_cons (wpAny_assign_Name (wpAny_storeName_local hx₂ hn₆ (fun h₇ hn₇ hs₇ => ?_) hp))
    refine assignInOrder_nil ?_
    have hs₆ : Heap.SameBut env.locals h₅ h₆ := hs₆
    have hs₇ : Heap.SameBut env.locals h₆ h₇ := hs₇
    have hn₆ : h₆.Ns env.locals _ := hn₆
    have hn₇ : h₇.Ns env.locals _ := hn₇
    have F₇ : Fr h₀ env.locals h₇ _ := (F₅.set hn₆ hs₆).set hn₇ hs₇
    have N₇ : News h₀ env.locals h₇ (own ++ news₁) := fun p hp => ⟨((hs₇.2 _ (N₅ p hp).2.1).trans ((hs₆.2 _ (N₅ p hp).2.1).trans (N₅ p hp).1)), (N₅ p hp).2⟩
    have e : (fun y => if y = x₂ then some (v2 i) else if y = x then some (v1 i) else m₁ y) = setTwo x x₂ (v1 i) (v2 i) m₀ := by
      funext y
      unfold setTwo
      by_cases h1 : y = x₂
      · rw [if_pos h1, if_pos h1]
      · rw [if_neg h1, if_neg h1]
        by_cases h2 : y = x
        · rw [if_pos h2, if_pos h2]
        · rw [if_neg h2, if_neg h2]; exact hm y h2 h1
    replace F₇ : Fr h₀ env.locals h₇ (setTwo x x₂ (v1 i) (v2 i) m₀) := e ▸ F₇
    refine turn _ i h₇ _ own hi F₇ N₇ (fun hoki h' tk' m' F' hm' N' => ?_) fun hoki h' tk' m' F' => ?_
    · exact show LoopStepU _ _ _ _ _ _ _ _ from ⟨rfl, h', tk', m', news₁, rfl, F', N', hn₁, rfl, hm', fun j hj => (Nat.lt_succ_iff_lt_or_eq.mp hj).elim (hok j) fun q => q ▸ hoki⟩
    · exact early ⟨i, hi, hoki⟩ h' tk' m' F'
  · rintro h' tk m' news' F' N' hn ⟨rfl, hm, hok⟩
    refine done hok m' h' tk ?_ N'
    have e : (fun z => if z = x₂ then m' z else if z = x then m' z else m₀ z) = m' := by
      funext z
      by_cases h1 : z = x₂
      · rw [if_pos h1]
      · rw [if_neg h1]
        by_cases h2 : z = x
        · rw [if_pos h2]
        · rw [if_neg h2]; exact (hm z h2 h1).symm
    rw [e]; exact F'
end

end
section
open PySem PySem.W PyProof.Rows PySem.Calls PySem.W.X
set_option Elab.async false
set_option maxRecDepth 100000
set_option maxHeartbeats 8000000
set_option linter.unusedVariables false
set_option pp.deepTerms false
set_option pp.maxSteps 6000
theorem ne_nil_K {w : World} {A : Around} {s : Shared} {Q E : Value → Shared → Prop} {h₀ : Heap} {L D B : Addr} {news : List (Addr × Obj)} {ys : Array Value} {c c2 : Nat}
    (N : News h₀ L s.heap news) (m1 : (D, listO ys c) ∈ news) (m2 : (B, W.listOf #[] c2) ∈ news) (hu : A.units < cLine) (h : Q (.bool (!ys.isEmpty)) s) : wpAny (model Pg w) A (compareOp .NotEq (.ref D) (.ref B)) Q E s := by
  have h1 : s.heap.IsList D ys := ⟨_, (N _ m1).1, rfl, _, rfl⟩
  have h2 : s.heap.IsList B #[] := ⟨_, (N _ m2).1, rfl, _, rfl⟩
  by_cases hz : ys.size = 0
  · have : ys = #[] := Array.eq_empty_of_size_eq_zero hz
    subst this
    exact SeqAt.RcNeAt.lists (e := fun _ => true) h1 h2 rfl hu (fun j hj => absurd hj (Nat.not_lt_zero _)) Pg w E Q h
  · have e : ys.isEmpty = false := by simpa [Array.isEmpty] using hz
    rw [e] at h
    exact SeqAt.RcNeAt.lists_lengths h1 h2 (by simpa using hz) hu Pg w E Q h
theorem eq_nil_K {w : World} {A : Around} {s : Shared} {Q E : Value → Shared → Prop} {h₀ : Heap} {L D B : Addr} {news : List (Addr × Obj)} {ys : Array Value} {c c2 : Nat}
    (N : News h₀ L s.heap news) (m1 : s.heap.get? D = some (listO ys c)) (m2 : (B, W.listOf #[] c2) ∈ news) (hu : A.units < cLine) (h : Q (.bool ys.isEmpty) s) : wpAny (model Pg w) A (compareOp .Eq (.ref D) (.ref B)) Q E s := by
  have h1 : s.heap.IsList D ys := ⟨_, m1, rfl, _, rfl⟩
  have h2 : s.heap.IsList B #[] := ⟨_, (N _ m2).1, rfl, _, rfl⟩
  by_cases hz : ys.size = 0
  · have : ys = #[] := Array.eq_empty_of_size_eq_zero hz
    subst this
    exact SeqAt.RcAt.lists (e := fun _ => true) h1 h2 rfl hu (fun j hj => absurd hj (Nat.not_lt_zero _)) Pg w E Q h
  · have e : ys.isEmpty = false := by simpa [Array.isEmpty] using hz
    rw [e] at h
    exact SeqAt.RcAt.lists_lengths h1 h2 (by simpa using hz) hu Pg w E Q h
noncomputable def qName (k : Int) : Bool := decide (k ≤ 32) || (decide (127 ≤ k) || (decide (65 ≤ k) && decide (k ≤ 90)))
noncomputable def qVal (k : Int) : Bool := decide (k = 0) || (decide (k = 10) || decide (k = 13))
theorem news_new {h₀ h h' : Heap} {L D : Addr} {m : PySem.Str → Option Value} {news : List (Addr × Obj)} {o : Obj} (F : Fr h₀ L h m) (N : News h₀ L h news) (x : Ext h h') (hD : h.get? D = none) (hD' : h'.get? D = some o) : News h₀ L h' ((D, o) :: news) := fun p hp => by
  rcases List.mem_cons.mp hp with rfl | hp
  · refine ⟨hD', fun e => ?_, ?_⟩
    · obtain ⟨oL, _, _, hoL, _⟩ := F.ns
      rw [show L = D from e.symm, hD] at hoL; cases hoL
    · cases q : h₀.get? D with
      | none => rfl
      | some o' => rw [F.keep _ _ q] at hD; cases hD
  · exact Ext.news x N p hp
theorem own_K {w : World} {mean : ExcName → Option Value} {mg mb : Str → Option Value} {b0 : Heap} {outer : List Env} {dp un : Nat} {gd : Option (List Code)} {s : Shared} {Q E : Value → Shared → Prop} {h₀ : Heap} {L : Addr} {m : PySem.Str → Option Value} {news : List (Addr × Obj)}
    (F : Fr h₀ L s.heap m) (N : News h₀ L s.heap news) (G : Gd w mean mg mb b0 outer s.heap) (hdp : dp + 4 < recursionLimit) (hun : un + 30 < cLine)
    (ret : ∀ D h' tk its c, Fr h₀ L h' m → News h₀ L h' ((D, listO its c) :: news) → its.toList.all isB = true → its.toList.map bInt? = ownL → Q (.ref D) { s with heap := h', toks := tk }) :
    wpAny (model Pg w) (AZ dp un gd outer) (call (.ref 324) []) Q E s :=
  Own_c G hdp hun fun D h' tk its c x hD hD' => ret D h' tk its c (Ext.fr x F) (news_new F N x hD hD')
theorem inList_K {w : World} {A : Around} {s : Shared} {Q E : Value → Shared → Prop} {h₀ : Heap} {L D : Addr} {news : List (Addr × Obj)} {its : Array Value} {c : Nat} {x : Array UInt8} {t : Tok} {ks : List Int} {kss : List (List Int)}
    (N : News h₀ L s.heap news) (hm : (D, listO its c) ∈ news) (hb : its.toList.all isB = true) (hit : its.toList.map bInt? = kss) (hk : KBw.bInts x = ks) (h : Q (.bool (kss.contains ks)) s) : wpAny (model Pg w) A (compareOp .In (.bytes x t) (.ref D)) Q E s :=
  in_listB (N _ hm).1 hb hit hk h
noncomputable abbrev dropO (ks : List Int) : List Int := List.take (ks.length - clipAt ks.length 1) (List.drop (clipAt ks.length 1) ks)
theorem clip_one (ks : List Int) : dropO ks = ks.drop 1 := by
  have e : clipAt ks.length 1 = min 1 ks.length := by
    have := clipAt_cast ks.length 1
    rw [if_neg (by decide)] at this
    omega
  unfold dropO
  rw [e]
  cases ks with
  | nil => rfl
  | cons a r =>
    rw [List.length_cons, show min 1 (r.length + 1) = 1 by omega]
    rw [List.take_of_length_le (by simp)]
theorem okN_q (k : Int) : okN k = !qName k := by
  unfold okN qName
  rw [Bool.not_or, Bool.not_or]
  cases decide (65 ≤ k) <;> cases decide (k ≤ 90) <;> cases decide (k ≤ 32) <;> cases decide (127 ≤ k) <;> rfl
theorem okV_q (k : Int) : okV k = !qVal k := by
  unfold okV qVal
  cases decide (k = 0) <;> cases decide (k = 10) <;> cases decide (k = 13) <;> rfl
theorem all_filter {q ok : Int → Bool} (h : ∀ k, ok k = !q k) (l : List Int) : (l.filter q).isEmpty = l.all ok := by
  induction l with
  | nil => rfl
  | cons a r ih =>
    rw [List.filter_cons, List.all_cons, h, ← ih]
    cases q a <;> rfl
section
variable {ks vs : List Int} {y1 y2 : Bool}
theorem fld1 (h : ks = bl []) : fieldF ks vs = false := by
  have : ks = [] := h
  unfold fieldF; rw [decide_eq_true this]; rfl
theorem fld2 (h : (58 : Int) ∈ dropO ks) : fieldF ks vs = false := by
  rw [clip_one] at h
  unfold fieldF; rw [decide_eq_true h]
  cases decide (ks = []) <;> rfl
theorem fld3 (h : y1 = (List.filter qName ks).isEmpty) (e : y1 = false) : fieldF ks vs = false := by
  rw [all_filter okN_q] at h
  unfold fieldF; rw [← h, e]
  cases decide (ks = []) <;> cases decide ((58 : Int) ∈ ks.drop 1) <;> rfl
theorem fld4 (h : y2 = (List.filter qVal vs).isEmpty) (e : y2 = false) : fieldF ks vs = false := by
  rw [all_filter okV_q] at h
  unfold fieldF; rw [← h, e]
  split <;> rfl
theorem fld5 (h : ¬ vs = stripL (bl [32, 9]) vs) : fieldF ks vs = false := by
  have h' : ¬ vs = stripL [32, 9] vs := h
  unfold fieldF; rw [decide_eq_false h']
  split
  · rfl
  · split <;> rfl
theorem fld6 (h : ownL.contains ks = true) : fieldF ks vs = false := by
  unfold fieldF; rw [h, Bool.or_true]
  split
  · rfl
  · split <;> rfl
theorem fldAll (h1 : ¬ ks = bl []) (h2 : ¬ (58 : Int) ∈ dropO ks) (h3 : y1 = (List.filter qName ks).isEmpty) (e3 : y1 = true) (h4 : y2 = (List.filter qVal vs).isEmpty) (e4 : y2 = true) (h5 : vs = stripL (bl [32, 9]) vs) (h6 : ownL.contains ks = false) :
    fieldF ks vs = if !decide (ks = nTe) then true else decide (vs.map lowI = vTrailers) := by
  have h1' : ¬ ks = [] := h1
  rw [clip_one] at h2
  rw [all_filter okN_q] at h3
  rw [all_filter okV_q] at h4
  have h5' : vs = stripL [32, 9] vs := h5
  unfold fieldF
  rw [decide_eq_false h1', decide_eq_false h2, ← h3, e3, ← h4, e4, decide_eq_true h5', h6]
  rfl
theorem fld7 (h1 : ¬ ks = bl []) (h2 : ¬ (58 : Int) ∈ dropO ks) (h3 : y1 = (List.filter qName ks).isEmpty) (e3 : y1 = true) (h4 : y2 = (List.filter qVal vs).isEmpty) (e4 : y2 = true) (h5 : vs = stripL (bl [32, 9]) vs) (h6 : ownL.contains ks = false) (h7 : ¬ ks = nTe) : fieldF ks vs = !decide (ks = nTe) := by
  rw [fldAll h1 h2 h3 e3 h4 e4 h5 h6, decide_eq_false h7]; rfl
theorem fld8 (h1 : ¬ ks = bl []) (h2 : ¬ (58 : Int) ∈ dropO ks) (h3 : y1 = (List.filter qName ks).isEmpty) (e3 : y1 = true) (h4 : y2 = (List.filter qVal vs).isEmpty) (e4 : y2 = true) (h5 : vs = stripL (bl [32, 9]) vs) (h6 : ownL.contains ks = false) (h7 : ks = nTe) : fieldF ks vs = decide (vs.map lowI = vTrailers) := by
  rw [fldAll h1 h2 h3 e3 h4 e4 h5 h6, decide_eq_true h7]; rfl
end
theorem Field_c {w : World} {mean : ExcName → Option Value} {mg mb : Str → Option Value} {b0 : Heap} {outer : List Env} {dp un : Nat} {gd : Option (List Code)} {s : Shared} {Q E : Value → Shared → Prop}
    {n x : Array UInt8} {tn tx : Tok} {ks vs : List Int}
    (G : Gd w mean mg mb b0 outer s.heap) (hgd : gd = some []) (hdp : dp + 10 < recursionLimit) (hun : un + 60 < cLine) (hks : KBw.bInts n = ks) (hvs : KBw.bInts x = vs) (hl1 : ks.length ≤ 1000) (hl2 : vs.length ≤ 1000)
    (ret : ∀ h' tk, Ext s.heap h' → Q (.bool (fieldF ks vs)) { s with heap := h', toks := tk }) :
    wpAny (model Pg w) (AZ dp un gd outer) (call (.ref 350) [.bytes n tn, .bytes x tx]) Q E s := by
  k_with_none
  k_with "getMethod bytes" => (k_here; (with_reducible first | refine gm_lower ?_ | refine gm_strip ?_ | refine gm_find ?_))
  k_with "pyReprObj" => (k_here; (refine repr_K (by kba_ints) (by kba_size) ?_); intro _ _ _ _; (try dsimp only))
  k_with "call builtin:bytes.lower" => (k_here; (refine lower_K (by kba_ints) (by kba_size) ?_); intro _ _ _ _; (try dsimp only))
  k_with "call builtin:bytes.find" => (k_here; (refine find_K (by kba_ints) (by first | assumption | rfl | decide +kernel) ?_); intro _ _ _ _; (try dsimp only))
  k_with "compareOp Eq" => (k_here; (with_reducible show wpAny _ _ (compareOp CmpOp.Eq (Value.bytes _ _) (Value.bytes _ _)) _ _ _); (refine eqB_K (by kba_ints) (by kba_ints) ?_))
  k_with "compareOp NotEq" => (k_here; (with_reducible show wpAny _ _ (compareOp CmpOp.NotEq (Value.bytes _ _) (Value.bytes _ _)) _ _ _); (refine neB_K (by kba_ints) (by kba_ints) ?_))
  k_with "compareOp Eq bytes bytes" => (k_here; (refine eqB_K (by kba_ints) (by kba_ints) ?_))
  k_with "compareOp NotEq bytes bytes" => (k_here; (refine neB_K (by kba_ints) (by kba_ints) ?_))
  k_with "compareOp In bytes ref" => (k_here; k_dflt (first | (refine' in_tupB (kss := ownL) (tupK ?qX ?qF ?qh) ?qhb ?qhit ?qhk ?_; (case qX => assumption); (case qF => assumption); (case qh => k_is); (case qhb => exact rfl); (case qhit => exact rfl); (case qhk => kba_ints)) | (refine' in_tupB (kss := allowedL) (tupK ?qX ?qF ?qh) ?qhb ?qhit ?qhk ?_; (case qX => assumption); (case qF => assumption); (case qh => k_is); (case qhb => exact rfl); (case qhit => exact rfl); (case qhk => kba_ints))))
  k_with "compareOp NotIn bytes ref" => (k_here; k_dflt (refine' notIn_tupB (kss := allowedL) (tupK ?qX ?qF ?qh) ?qhb ?qhit ?qhk ?_; (case qX => assumption); (case qF => assumption); (case qh => k_is); (case qhb => exact rfl); (case qhit => exact rfl); (case qhk => kba_ints)))
  k_with "subscriptTail" => (k_here; (with_reducible show wpAny _ _ (subscriptTail _ _ (Value.bytes _ _) (Value.int _ _)) _ _ _); (first | refine item0_A (by kba_ints) (by omega) (by omega) ?_ | refine itemL_A (by kba_ints) (by omega) (by omega) ?_); intro _ _ _ _ _ _; (try dsimp only))
  k_with "exec For" => (k_here; (with_unfolding_all refine' For_mine ?qF ?qhE ?qhx ?qhp ?qhs ?_; (case qF => assumption); (case qhE => assumption); (case qhx => exact rfl); (case qhp => exact rfl); (case qhs => exact fun _ => rfl); k_whole))
  k_with "exec For Name Name cons nil" => (k_here; (with_unfolding_all refine' For_mine ?qF ?qhE ?qhx ?qhp ?qhs ?_; (case qF => assumption); (case qhE => assumption); (case qhx => exact rfl); (case qhp => exact rfl); (case qhs => exact fun _ => rfl); k_whole))
  k_with "subscriptTail" => (k_here; (with_reducible show wpAny _ _ (subscriptTail _ _ (Value.ref _) (Value.int _ _)) _ _ _); (first | (refine pair0_A (by k_asm) (by assumption) ?_) | (refine pair1_A (by k_asm) (by assumption) ?_)))
  k_with "compareOp In bytes bytes" => (k_here; k_dflt (refine' inb_K ?qhk ?qhl ?qhh ?qF ?qN ?_; (case qhk => kba_ints); (case qhl => exact rfl); (case qhh => exact rfl); (case qF => k_asm); (case qN => k_asm)); intro _ _ _ _; (try dsimp only))
  k_with "eval Name" => (k_here; (with_reducible show wpAny _ _ (eval (Expr.Name _ _) (compEnvC _ _ _ _)) _ _ _); (refine' name_local rfl rfl (by decide) (NsObj.ns (by with_reducible assumption) (by k_get)) (by with_reducible assumption) ?_); (try dsimp only))
  k_with "eval ListComp" => (k_here; (with_reducible show wpAny _ _ (eval (Expr.ListComp _ [⟨_, Expr.Name (Str.ofString "name") _, _, _⟩] _ _) _) _ _ _); k_dflt (refine' comp_bytes (q := qName) ?qhb ?qhl ?qhh ?qF ?qN ?qhiter ?qhclos ?qhcell ?qhkind ?qhnames ?qhs ?qhx ?qhxe ?qhd ?qtst ?_; (case qF => k_asm); (case qN => k_asm); (case qhiter => (intro _ hq'; k_steps; exact hq')); (case qhb => kba_ints); (case qhl => assumption); (case qhh => exact rfl); (case qhclos => with_unfolding_all rfl); (case qhcell => decide); (case qhkind => rfl); (case qhnames => decide); (case qhs => (intro _; rfl)); (case qhx => rfl); (case qhxe => rfl); (case qhd => decide); (case qtst => (intro _ _ _ _ _ _ c' _ _ _ _ _ F' N' _; refine' wpAny_tests_one ?_; k_steps; all_goals first | exact ⟨_, _, rfl, fun _ _ e => e⟩ | (simp [qName, qVal]; done) | (simp [qName, qVal]; omega))); k_whole); intro _ _ _ _ _ _ _ _; (try dsimp only))
  k_with "eval ListComp" => (k_here; (with_reducible show wpAny _ _ (eval (Expr.ListComp _ [⟨_, Expr.Name (Str.ofString "value") _, _, _⟩] _ _) _) _ _ _); k_dflt (refine' comp_bytes (q := qVal) ?qhb ?qhl ?qhh ?qF ?qN ?qhiter ?qhclos ?qhcell ?qhkind ?qhnames ?qhs ?qhx ?qhxe ?qhd ?qtst ?_; (case qF => k_asm); (case qN => k_asm); (case qhiter => (intro _ hq'; k_steps; exact hq')); (case qhb => kba_ints); (case qhl => assumption); (case qhh => exact rfl); (case qhclos => with_unfolding_all rfl); (case qhcell => decide); (case qhkind => rfl); (case qhnames => decide); (case qhs => (intro _; rfl)); (case qhx => rfl); (case qhxe => rfl); (case qhd => decide); (case qtst => (intro _ _ _ _ _ _ c' _ _ _ _ _ F' N' _; refine' wpAny_tests_one ?_; k_steps; all_goals first | exact ⟨_, _, rfl, fun _ _ e => e⟩ | (simp [qName, qVal]; done) | (simp [qName, qVal]; omega))); k_whole); intro _ _ _ _ _ _ _ _; (try dsimp only))
  k_with "call builtin:bytes.strip" => (k_here; (refine strip_K (by kba_ints) (by with_reducible exact bl_ints _) (by kba_size) ?_); intro _ _ _ _; (try dsimp only))
  k_with "compareOp NotEq ref ref" => (k_here; (refine ne_nil_K (by k_asm) (by k_mem) (by k_mem) (by first | omega | (dsimp only; omega) | (dsimp only [AZ, Around.deeper]; omega)) ?_); (try dsimp only))
  k_with "call ref" => (k_here; (with_reducible show wpAny _ _ (call (Value.ref 324) _) _ _ _); k_dflt (refine own_K (by k_asm) (by k_asm) (gd_in (by with_reducible assumption) (by k_asm) (fun e => nomatch e) rfl) (by first | omega | (dsimp only; omega) | (dsimp only [AZ]; omega)) (by first | omega | (dsimp only; omega) | (dsimp only [AZ]; omega)) ?_); intro _ _ _ _ _ _ _ _ _; (try dsimp only))
  k_with "compareOp In bytes ref" => (k_here; k_dflt (refine' inList_K ?qN ?qhm ?qhb ?qhit ?qhk ?_; (case qN => k_asm); (case qhm => k_mem); (case qhb => with_reducible assumption); (case qhit => with_reducible assumption); (case qhk => kba_ints)); (try dsimp only))
  subst hgd
  have X := G.X
  have T := G.T
  have kret : KeepP _ := ret
  clear ret
  refine wpAny_call ?_
  k_dflt (refine' enter (binds := [(Str.ofString "name", .bytes n tn), (Str.ofString "value", .bytes x tx)]) X T.nolimit ?ho ?hcd ?hroom ?hbind ?hloc ?_ ?c5 ?c6 ?c7 ?c8; (case ho => k_is); (case hcd => k_is); (case hroom => show dp < recursionLimit; omega); (case hbind => exact rfl); (case hloc => exact locs rfl); (case c5 => decide); (case c6 => exact rfl); (case c7 => exact rfl); (case c8 => exact rfl); k_whole; intro L' h' F' N')
  k_steps
  all_goals unfold KeepP at kret
  all_goals (first
    | (rw [fld1 (by assumption)] at kret; exact kret _ _ (Fr.keep (by assumption)))
    | (rw [fld2 (by with_reducible assumption)] at kret; exact kret _ _ (Fr.keep (by assumption)))
    | (rw [fld5 (by with_reducible assumption)] at kret; exact kret _ _ (Fr.keep (by assumption)))
    | (rw [fld6 (by with_reducible assumption)] at kret; exact kret _ _ (Fr.keep (by assumption)))
    | (rw [fld3 (by with_reducible assumption) (by with_reducible assumption)] at kret; exact kret _ _ (Fr.keep (by assumption)))
    | (rw [fld4 (by with_reducible assumption) (by with_reducible assumption)] at kret; exact kret _ _ (Fr.keep (by assumption)))
    | (rw [fld7 (by with_reducible assumption) (by with_reducible assumption) (by with_reducible assumption) (by with_reducible assumption) (by with_reducible assumption) (by with_reducible assumption) (by with_reducible assumption) (by with_reducible assumption) (by with_reducible assumption)] at kret; exact kret _ _ (Fr.keep (by assumption)))
    | (rw [fld8 (by with_reducible assumption) (by with_reducible assumption) (by with_reducible assumption) (by with_reducible assumption) (by with_reducible assumption) (by with_reducible assumption) (by with_reducible assumption) (by with_reducible assumption) (by with_reducible assumption)] at kret; exact kret _ _ (Fr.keep (by assumption))))

end
section
open PySem PySem.W PyProof.Rows PySem.Calls
set_option Elab.async false
set_option maxRecDepth 100000
set_option maxHeartbeats 4000000
set_option linter.unusedVariables false
theorem sub_attrError : isSubtype (.type "AttributeError") (.type "AttributeError") = pure true := by rw [isSubtype_type]; kernel_rfl
theorem first_attrError : ((Manifest.find? "AttributeError").elim false fun t => t.mro.contains "StopIteration" || t.mro.contains "SystemExit") = false := by decide +kernel
section
variable {α : Type} {M : Model} {A : Around} {E : Value → Shared → Prop} {s : Shared}
theorem noteAttr_K {e : Addr} {X : Obj} {v0 : Value} {o name : Value} {Q : Unit → Shared → Prop} (he : s.heap.get? e = some X) (hc : X.cls = .type "AttributeError") (hd : X.data = .fields (#[v0, .none, .none, .none, .bool false, .none] ++ #[unsetMember, unsetMember]))
    (h : ∀ f, Q () { s with heap := s.heap.update e (Obj.mapFields f) }) : wpAny M A (noteAttr (.ref e) o name) Q E s := by
  have hT : s.TypeIs (.ref e) "AttributeError" := ⟨_, he, hc⟩
  obtain ⟨c, d, dt, sl⟩ := X
  simp only at hd; subst hd
  unfold noteAttr
  dsimp only
  refine wpAny_bind ?_
  unfold lacksNameAndObj
  dsimp only
  refine wpAny_bind (wpAny_isInstance hT sub_attrError ?_)
  rw [if_neg (by decide)]
  refine wpAny_bind (wpAny_load he ?_)
  dsimp only
  rw [if_neg (by exact Bool.false_ne_true), if_neg (by exact Bool.false_ne_true)]
  refine wpAny_pure ?_
  rw [if_pos rfl]
  refine wpAny_bind (wpAny_rule (wpAny_bind (wpAny_typeOf hT ?_)))
  dsimp only
  unfold layMembers
  refine wpAny_bind (wpAny_load he ?_)
  dsimp only
  exact wpAny_update he (h _)
theorem raiseAttr_K {o : Value} {name msg : Str} {Q : α → Shared → Prop} (hh : A.handled = none) (hm : msg.length ≤ sizeLine)
    (h : ∀ h' tk e oe, Ext s.heap h' → h'.get? e = some oe → oe.cls = .type "AttributeError" → E (.ref e) { s with heap := h', toks := tk }) :
    wpAny M A (raiseAttrError o name msg : Sem α) Q E s := by
  unfold raiseAttrError
  refine wpAny_bind (wpAny_mkStr (wpAny_bind ?_) hm)
  unfold newExc newTuple
  refine wpAny_bind (wpAny_newObj_type ?_)
  refine wpAny_bind (m := firstArgMember _ _) (wpAny_of_eq (a := Value.none) (by simp only [firstArgMember, first_attrError]; rfl) ?_)
  refine wpAny_newObj_type ?_
  refine wpAny_bind (wpAny_mkText (wpAny_bind (noteAttr_K (Heap.get?_push_size _ rfl) rfl rfl fun f => ?_)))
  unfold raiseNew
  refine wpAny_bind (wpAny_handled ?_)
  rw [hh]
  refine wpAny_bind (wpAny_pure (wpAny_throw ?_))
  refine h _ _ _ _ ?_ (Heap.get?_update_self _ (Heap.get?_push_size _ rfl) rfl) rfl
  intro b ob hb
  have h1 := Heap.get?_push_of_some { cls := Value.type "tuple", data := Data.seq #[Value.str msg s.toks] } hb
  exact (Heap.get?_update_ne _ _ _ _ (Nat.ne_of_lt (Heap.lt_size h1))).trans (Heap.get?_push_of_some _ h1)
end
theorem lk_list_keys : typeLookup (.type "list") "keys" = pure none := by rw [typeLookup_type, builtinLookup_eq_fast]; kernel_rfl
theorem lk_list_getattr : typeLookup (.type "list") "__getattr__" = pure none := by rw [typeLookup_type, builtinLookup_eq_fast]; kernel_rfl
section
variable {prog : Program} {w : World} {A : Around} {E : Value → Shared → Prop} {h : Heap} {g : Array GenState} {d : Drawn} {t : Nat} {os : OsState} {a : Addr} {o : Obj}
theorem keys_entry {tk : Tok} {its : Array Value} {c : Nat} {Q : Fin → Shared → Prop} (hx : h.get? a = some (listO its c)) (hh : A.handled = none)
    (hq : ∀ h' tk e oe, Ext h h' → h'.get? e = some oe → oe.cls = .type "AttributeError" → E (.ref e) ⟨h', g, d, tk, os⟩) :
    wpAny (model prog w) A (Builtin.«object.__getattribute__» ⟨[.ref a, .str "keys" tk], []⟩) Q E ⟨h, g, d, t, os⟩ := by
  have hT : (⟨h, g, d, t, os⟩ : Shared).TypeIs (.ref a) "list" := ⟨_, hx, rfl⟩
  have f4 := lk_list_keys
  repeat (any_goals (first | assumption | wp_step))
  exact raiseAttr_K hh (by decide +kernel) hq
theorem keys_call {tk : Tok} {its : Array Value} {c : Nat} {R : Result → Shared → Prop} (hx : h.get? a = some (listO its c)) (hh : A.handled = none)
    (hq : ∀ h' tk e oe, Ext h h' → h'.get? e = some oe → oe.cls = .type "AttributeError" → R (.error (.ref e)) ⟨h', g, d, tk, os⟩) :
    codeAny (model prog w) A (.call (.builtin "list.__getattribute__") ⟨[.ref a, .str "keys" tk], []⟩) R ⟨h, g, d, t, os⟩ :=
  codeAny_call_builtin F.slot_list_getattribute.plain F.entry_list_ga (F.slot_list_getattribute.check _ _ _ _ _ _ _ _ (show (⟨h, g, d, t, os⟩ : Shared).TypeIs (.ref a) "list" from ⟨_, hx, rfl⟩) (F.args_list_getattribute_2 _ _) (keys_entry hx (by first | exact hh | simpa using hh) hq))
theorem keys_by {tk : Tok} {its : Array Value} {c : Nat} {Q : Value → Shared → Prop} (hx : h.get? a = some (listO its c)) (hh : A.handled = none)
    (hq : ∀ h' tk e oe, Ext h h' → h'.get? e = some oe → oe.cls = .type "AttributeError" → E (.ref e) ⟨h', g, d, tk, os⟩) : wpAny (model prog w) A (getAttrBy (.ref a) (.str "keys" tk) false) Q E ⟨h, g, d, t, os⟩ := by
  have hT : (⟨h, g, d, t, os⟩ : Shared).TypeIs (.ref a) "list" := ⟨_, hx, rfl⟩
  have f2 := F.slot_list_getattribute.lookup
  have f3 := F.slot_list_getattribute.bind (.ref a)
  repeat (any_goals (first | assumption | wp_step))
  refine keys_call hx hh fun h' tk e oe x he hc => ?_
  repeat (any_goals (first | assumption | wp_step))
  rw [hc]
  have f5 := sub_attrError
  have f6 := lk_list_getattr
  repeat (any_goals (first | assumption | wp_step))
  exact hq h' tk e oe x he hc
theorem keys_none {its : Array Value} {c : Nat} {Q : Option Value → Shared → Prop} (hx : h.get? a = some (listO its c)) (hh : A.handled = none)
    (hq : ∀ h' tk, Ext h h' → Q none ⟨h', g, d, tk, os⟩) : wpAny (model prog w) A (getAttr? (.ref a) "keys") Q E ⟨h, g, d, t, os⟩ := by
  unfold getAttr? getAttrBy?
  repeat (any_goals (first | assumption | with_reducible apply keys_by hx hh | wp_step))
  intro h' tk e oe x he hc
  show wpAny _ _ (do let __do_lift ← isInstance (.ref e) (.type "AttributeError"); if __do_lift = true then pure none else throw (.ref e)) _ _ _
  refine wpAny_bind (wpAny_isInstance ⟨_, he, hc⟩ sub_attrError ?_)
  rw [if_pos rfl]
  exact wpAny_pure (hq h' tk x)
end
theorem entry_dict_loop : entryFor table "dict.update.loop" = some Builtin.«dict.update.loop» := entryFor_of_tree (by kernel_rfl)
theorem plain_dict_loop : plainId "dict.update.loop" = true := by decide +kernel
section
variable {w : World} {A : Around} {R : Result → Shared → Prop} {I D : Addr} {fp wr : List Addr} {n : Nat} {P : Nat → Value → Prop} {St : Nat → Heap → Prop} {Ts : Nat → Addr} {bn bx : Nat → Array UInt8} {tn tx : Nat → Tok} {cn : Nat → Nat}
noncomputable abbrev kvOf (bn bx : Nat → Array UInt8) (tx : Nat → Tok) (n : Nat) : List (List UInt8 × Value) := (List.range n).map fun j => ((bn j).toList, .bytes (bx j) (tx j))
theorem dict_loop (W : Walks Pg w A.in1 I fp wr n P St) (hD : D ∉ fp) (hP : ∀ i v, P i v → v = .ref (Ts i)) (hTD : ∀ j, j < n → Ts j ≠ D) (hTw : ∀ j, j < n → Ts j ∉ wr) (hz : n ≤ 1000) (hn : ((kvOf bn bx tx n).map (·.1)).Nodup) :
    ∀ (k i : Nat) (s : Shared), n - i = k → i ≤ n → St i s.heap → (∀ j, j < n → s.heap.get? (Ts j) = some (pairO (bn j) (bx j) (tn j) (tx j) (cn j))) → s.heap.DictOf (bytesKind Pg w) D (kvOf bn bx tx i) →
      (∀ h' tk, (∀ b o, b ≠ D → b ∉ wr → s.heap.get? b = some o → h'.get? b = some o) → h'.DictOf (bytesKind Pg w) D (kvOf bn bx tx n) → R (.ok (.ret .none)) { s with heap := h', toks := tk }) →
      codeAny (model Pg w) A (.builtin "dict.update.loop" ⟨[.ref D, .ref I, rawInt i, .none], []⟩) R s := by
  have hDw : D ∉ wr := fun h => hD (W.sub _ h)
  intro k
  induction k with
  | zero =>
    intro i s hk hi hst hT hd hR
    have hin : i = n := by omega
    subst hin
    refine codeAny_builtin entry_dict_loop ?_
    rw [Around.under_plainId plain_dict_loop _]
    show wpAny _ A.in1 (pyNext (.ref I) >>= _) _ _ s
    refine wpAny_bind (W.done s _ _ hst fun h' tk hm => ?_)
    show wpAny _ A.in1 (Builtin.Dict.addKeywords D [] >>= fun _ => ret Value.none) _ _ _
    refine wpAny_bind (wpAny_pure (wpAny_pure (hR h' tk (fun b o _ hb e => hm b o hb e) ?_)))
    obtain ⟨o, es, ep, ho, rest⟩ := hd
    exact ⟨o, es, ep, hm D _ hDw ho, rest⟩
  | succ k ih =>
    intro i s hk hi hst hT hd hR
    have hlt : i < n := by omega
    refine codeAny_builtin entry_dict_loop ?_
    rw [Around.under_plainId plain_dict_loop _]
    show wpAny _ A.in1 (pyNext (.ref I) >>= _) _ _ s
    refine wpAny_bind (W.item i s _ _ hlt hst fun v h' tk hPv hst' hm => ?_)
    have hv := hP i v hPv
    subst hv
    have hT' : ∀ j, j < n → h'.get? (Ts j) = some (pairO (bn j) (bx j) (tn j) (tx j) (cn j)) := fun j hj => hm _ _ (hTw j hj) (hT j hj)
    have hd' : h'.DictOf (bytesKind Pg w) D (kvOf bn bx tx i) := by
      obtain ⟨o, es, ep, ho, rest⟩ := hd
      exact ⟨o, es, ep, hm D _ hDw ho, rest⟩
    have hTi := hT' i hlt
    have hTT : (⟨h', s.gens, s.drawn, tk, s.os⟩ : Shared).TypeIs (.ref (Ts i)) "tuple" := ⟨_, hTi, rfl⟩
    have hst3 : i + 1 ≤ n := hlt
    have stp : ∀ h'', h''.DictOf (bytesKind Pg w) D (kvOf bn bx tx (i + 1)) → Heap.SameBut D h' h'' → ∀ tk', codeAny (model Pg w) A (.builtin "dict.update.loop" ⟨[.ref D, .ref I, rawInt (i + 1 : Nat), .none], []⟩) R ⟨h'', s.gens, s.drawn, tk', s.os⟩ := by
      intro h'' hd'' hs'' tk'
      refine ih (i + 1) _ (by omega) hst3 (W.frame _ _ _ hst' fun b hb o e => ?_) (fun j hj => ?_) hd'' fun h3 tk3 hk3 hd3 => ?_
      · exact (hs''.2 b (fun h => hD (h ▸ hb))).trans e
      · exact (hs''.2 _ (hTD j hj)).trans (hT' j hj)
      · exact hR h3 tk3 (fun b o h1 h2 e => hk3 b o h1 h2 ((hs''.2 b h1).trans (hm b o h2 e))) hd3
    have hc : ((i : Int) + 1) = ((i + 1 : Nat) : Int) := by push_cast; rfl
    rw [hc]
    dsimp only
    have hnk : (kvOf bn bx tx i).length ≤ sizeLine := by
      rw [List.length_map, List.length_range]; exact Nat.le_trans (Nat.le_of_lt hlt) (Nat.le_trans hz (by decide))
    have hst : stored (kvOf bn bx tx i) (bn i).toList (.bytes (bx i) (tx i)) = kvOf bn bx tx (i + 1) := by
      have h1 : kvOf bn bx tx (i + 1) = kvOf bn bx tx i ++ [((bn i).toList, .bytes (bx i) (tx i))] := by
        unfold kvOf; rw [List.range_succ, List.map_append]; rfl
      have h2 : (bn i).toList ∉ (kvOf bn bx tx i).map (·.1) := by
        have hsub : ((kvOf bn bx tx (i + 1)).map (·.1)).Nodup := by
          refine List.Nodup.sublist ?_ hn
          refine List.Sublist.map _ (List.Sublist.map _ ?_)
          exact List.range_sublist.mpr hst3
        rw [h1, List.map_append, List.nodup_append] at hsub
        exact fun hm => hsub.2.2 _ hm _ (by simp) rfl
      rw [stored, if_neg, h1]
      rw [List.any_eq_true]
      rintro ⟨kv, hkv, he⟩
      exact h2 (List.mem_map.mpr ⟨kv, hkv, of_decide_eq_true he⟩)
    refine wpAny_bind (wpAny_holding (wpAny_bind (wpAny_tryCatch ?_)))
    unfold Builtin.Dict.pairItems
    refine wpAny_bind (wpAny_typeOf hTT ?_)
    rw [if_pos (by decide)]
    refine wpAny_bind (wpAny_seqItems hTi rfl (wpAny_pure ?_))
    show wpAny _ _ (holding [Value.bytes (bn i) (tn i), Value.bytes (bx i) (tx i)] (dictSet D (Value.bytes (bn i) (tn i)) (Value.bytes (bx i) (tx i)))) _ _ _
    refine wpAny_holding ?_
    unfold dictSet
    try with_reducible refine wpAny_holding ?_
    refine wpAny_bind ((bytesKind Pg w).pyHash (k := (bn i).toList) is_bytes ?_)
    refine wpAny_dictSetHashed_pairs (k := (bn i).toList) (kvs := kvOf bn bx tx i) is_bytes hd' (fun h'' hd'' hs'' => ?_) hnk
    rw [hst] at hd''
    exact wpAny_pure ⟨plainId_quiet plain_dict_loop _, stp h'' hd'' hs'' _⟩
end
section
variable {w : World} {A : Around} {E : Value → Shared → Prop} {s : Shared} {n : Nat} {Ts : Nat → Addr} {bn bx : Nat → Array UInt8} {tn tx : Nat → Tok} {cn : Nat → Nat}
/-- dict(pairs) -/
theorem dict_pairs {src : Addr} {its : Array Value} {c : Nat} {Q : Value → Shared → Prop} (hh : A.handled = none) (hl : s.heap.get? src = some (listO its c)) (hit : its.size = n) (hTs : ∀ j, j < n → its[j]? = some (.ref (Ts j)))
    (hT : ∀ j, j < n → s.heap.get? (Ts j) = some (pairO (bn j) (bx j) (tn j) (tx j) (cn j))) (hz : n ≤ 1000) (hn : ((kvOf bn bx tx n).map (·.1)).Nodup)
    (h : ∀ d h' tk, Ext s.heap h' → s.heap.get? d = none → h'.DictOf (bytesKind Pg w) d (kvOf bn bx tx n) → Q (.ref d) { s with heap := h', toks := tk }) :
    wpAny (model Pg w) A (call (.type "dict") [.ref src]) Q E s := by
  refine callType_codes (Q₁ := fun obj s₁ => obj = .ref s.heap.objs.size ∧ s₁ = { s with heap := s.heap.push { cls := .type "dict", data := .dict #[] } }) F.kt_called_dict (F.kt_typeCall_dict_1 _) F.entry_dict_init (kt_code_dict_new _ ⟨rfl, rfl⟩) ?_
  rintro obj s₁ ⟨rfl, rfl⟩
  have hnew : (s.heap.push { cls := .type "dict", data := .dict #[] }).DictOf (bytesKind Pg w) s.heap.objs.size [] := Heap.DictOf.new s.heap
  have hl1 : (s.heap.push { cls := .type "dict", data := .dict #[] }).get? src = some (listO its c) := Heap.get?_push_of_some _ hl
  have hTl : Shared.TypeIs { s with heap := s.heap.push { cls := .type "dict", data := .dict #[] } } (.ref src) "list" := ⟨_, hl1, rfl⟩
  have hlt := Heap.lt_size hl
  refine ⟨hnew.typeIs, F.args_dict_init_2 _ _, ?_⟩
  unfold Builtin.«dict.__init__»
  refine wpAny_bind ?_
  unfold Builtin.Dict.selfAndRest
  refine wpAny_bind (wpAny_notOrdered_dict hnew.typeIs ?_)
  show wpAny _ _ (pure (s.heap.objs.size, [Value.ref src])) _ _ _
  refine wpAny_pure ?_
  show wpAny _ _ (Builtin.Dict.updateFrom "dict.__init__" s.heap.objs.size (.ref src) [] .none) _ _ _
  unfold Builtin.Dict.updateFrom
  refine wpAny_bind (wpAny_typeOf hTl ?_)
  rw [if_pos (by decide)]
  refine wpAny_bind (keys_none hl1 (by first | exact hh | simpa using hh) fun h' tk x => ?_)
  rw [if_pos (show (none : Option Value).isNone = true from rfl)]
  have hx2 : ∀ b o, s.heap.get? b = some o → h'.get? b = some o := fun b o e => x b o (Heap.get?_push_of_some _ e)
  have hd' : h'.DictOf (bytesKind Pg w) s.heap.objs.size [] := by
    obtain ⟨o, es, ep, ho, rest⟩ := hnew
    exact ⟨o, es, ep, x _ _ ho, rest⟩
  have hl' : h'.get? src = some (listO its c) := hx2 _ _ hl
  have hDlt : s.heap.objs.size < h'.objs.size := by
    obtain ⟨o, es, ep, ho, rest⟩ := hd'
    exact Heap.lt_size ho
  have hlt' := Heap.lt_size hl'
  refine wpAny_bind (wpAny_rule (wpAny_bind (wpAny_pyIter_list ⟨_, hl', rfl, _, rfl⟩ ?_)))
  refine wpAny_pure ⟨plainId_quiet plain_dict_loop _, ?_⟩
  have W := Walks.list (prog := Pg) (w := w) (A := A.in1.in1) (by first | exact hh | simpa using hh) h'.objs.size src (Nat.ne_of_lt hlt') its
  rw [hit] at W
  refine dict_loop (i := 0) (k := n - 0) (Ts := Ts) (bn := bn) (bx := bx) (tn := tn) (tx := tx) (cn := cn) W ?_ (fun i v hv => ?_) (fun j hj => ?_) (fun j hj => ?_) hz hn _ rfl (Nat.zero_le _) ?_ (fun j hj => ?_) ?_ fun h3 tk3 hk3 hd3 => ?_
  · intro hm
    rcases List.mem_cons.mp hm with e | hm
    · exact Nat.lt_irrefl _ (e ▸ hDlt)
    · rw [List.mem_singleton] at hm; exact Nat.lt_irrefl _ (hm ▸ hlt)
  · have hi : i < n := by
      rw [← hit]
      cases Nat.lt_or_ge i its.size with
      | inl z => exact z
      | inr z => rw [Array.getElem?_eq_none z] at hv; cases hv
    rw [hTs i hi] at hv
    exact (Option.some.inj hv).symm
  · exact Nat.ne_of_lt (Heap.lt_size (hT j hj))
  · rw [List.mem_singleton]; exact Nat.ne_of_lt (Heap.lt_size (hx2 _ _ (hT j hj)))
  · exact ⟨⟨_, Heap.get?_push_size _ rfl, rfl, rfl⟩, ⟨_, Heap.get?_push_of_some _ hl', rfl, _, rfl⟩⟩
  · exact Heap.get?_push_of_some _ (hx2 _ _ (hT j hj))
  · obtain ⟨o, es, ep, ho, rest⟩ := hd'
    exact ⟨o, es, ep, Heap.get?_push_of_some _ ho, rest⟩
  · refine ⟨rfl, h _ h3 tk3 (fun b o e => ?_) (Heap.get?_none_of_le (Nat.le_refl _)) hd3⟩
    have hb := Heap.lt_size e
    refine hk3 b o (Nat.ne_of_lt hb) ?_ (Heap.get?_push_of_some _ (hx2 b o e))
    rw [List.mem_singleton]
    exact Nat.ne_of_lt (Nat.lt_trans hb hDlt)
end

end
section
open PySem PySem.W PyProof.Rows PySem.Calls PySem.W.X
set_option Elab.async false
set_option maxRecDepth 100000
set_option maxHeartbeats 2000000
set_option linter.unusedVariables false
structure EndP (tabs : List (Addr × Addr)) (s₁ : Shared) (r : Result) (s' : Shared) : Prop where
  r0 : r = .ok (.ret (.bool true))
  keep : ∀ b o, b ∉ tabs.map (·.2) → s₁.heap.get? b = some o → s'.heap.get? b = some o
  os : s'.os = s₁.os
  bare : AllBare s'.gens
  grown : GrownAll tabs s'.heap
/-- the law answers True: all is kept but the tables, which have grown; generators are bare -/
theorem end_law {M : Model} {A : Around} {cd : Code} {s s₁ : Shared} {cw : ClaimW} {cl : PySem.Str → Option Addr} {mean : ExcName → Option Value} {args : List WData} {tabs : List (Addr × Addr)} (hT : TabsAt tabs s₁.heap)
    (hn : ∀ cls, cw.raises args cls = false) (hp : cw.post args (.bool true) args = true)
    (h : codeAny M A cd (EndP tabs s₁) s) : codeAny M A cd (GoodWG cw cl mean args s₁) s :=
  codeAny_mono h fun r s' ⟨hr, keep, hos, hb, hgr⟩ => by
    have grown : ∀ b o, b ∈ tabs.map (·.2) → s₁.heap.get? b = some o → isCodeTable s₁.heap b ∧ o = tabObj #[] ∧ ∃ ps, s'.heap.get? b = some (tabObj ps) := fun b o hb e => by
      obtain ⟨q, hq, rfl⟩ := List.mem_map.mp hb
      have e2 := (hT q hq).2
      rw [e] at e2
      exact ⟨((hT q hq).1.tab (hT q hq).2).isCodeTable, Option.some.inj e2, hgr.get q hq⟩
    refine ⟨.inl ⟨_, .bool true, _, hr, hn, .bool true, hp, unshared_nil⟩, ⟨fun b o e => ?_, fun b o e => ?_⟩, hos, hb⟩
    · by_cases hb : b ∈ tabs.map (·.2)
      · obtain ⟨ht, rfl, ps, hP⟩ := grown b o hb e
        exact .inr (.inl ⟨ht, rfl, #[], ps, rfl, by rw [Array.empty_append]; exact hP⟩)
      · exact .inl (keep b o hb e)
    · by_cases hb : b ∈ tabs.map (·.2)
      · obtain ⟨_, _, ps, hP⟩ := grown b o hb e
        exact ⟨_, hP⟩
      · exact ⟨o, keep b o hb e⟩

end
section
open PySem PySem.W PyProof.Rows PySem.Calls PySem.Spec PyProof.Rows.LCg
set_option Elab.async false
set_option maxRecDepth 100000
set_option maxHeartbeats 4000000
set_option linter.unusedVariables false
/-! ## blocks -/
noncomputable def ctH (h : Heap) : Value → Pr
  | .ref a => match h.get? a with
    | some o => pairOf o
    | none => ([], [])
  | _ => ([], [])
noncomputable def ItemH (h : Heap) (N : Nat) (v : Value) : Prop := ∃ a n x tn tx c, v = .ref a ∧ h.get? a = some (pairO n x tn tx c) ∧ (KBw.bInts n).length ≤ N ∧ (KBw.bInts x).length ≤ N
theorem ctH_of {h : Heap} {a : Addr} {n x : Array UInt8} {tn tx : Tok} {c : Nat} (e : h.get? a = some (pairO n x tn tx c)) : ctH h (.ref a) = (KBw.bInts n, KBw.bInts x) := by
  show (match h.get? a with | some o => pairOf o | none => ([], [])) = _
  rw [e]; rfl
theorem ItemH.keeps {h h' : Heap} {N : Nat} {v : Value} (x : ItemH h N v) (k : ∀ a n x tn tx c, h.get? a = some (pairO n x tn tx c) → h'.get? a = some (pairO n x tn tx c)) : ItemH h' N v ∧ ctH h' v = ctH h v := by
  obtain ⟨a, n, b, tn, tx, c, rfl, e, l1, l2⟩ := x
  exact ⟨⟨a, n, b, tn, tx, c, rfl, k _ _ _ _ _ _ e, l1, l2⟩, (ctH_of (k _ _ _ _ _ _ e)).trans (ctH_of e).symm⟩
theorem ItemH.mono {h : Heap} {N N' : Nat} {v : Value} (x : ItemH h N v) (l : N ≤ N') : ItemH h N' v :=
  let ⟨a, n, b, tn, tx, c, e1, e, l1, l2⟩ := x; ⟨a, n, b, tn, tx, c, e1, e, Nat.le_trans l1 l, Nat.le_trans l2 l⟩
/-- what the items of a block are -/
structure Rows (h : Heap) (items : List Value) (N : Nat) (Ts : Nat → Addr) (bn bx : Nat → Array UInt8) (tn tx : Nat → Tok) (cn : Nat → Nat) : Prop where
  it : ∀ j, j < items.length → items[j]? = some (.ref (Ts j))
  ob : ∀ j, j < items.length → h.get? (Ts j) = some (pairO (bn j) (bx j) (tn j) (tx j) (cn j))
  ln : ∀ j, j < items.length → (KBw.bInts (bn j)).length ≤ N
  lx : ∀ j, j < items.length → (KBw.bInts (bx j)).length ≤ N
  ct : items.map (ctH h) = (List.range items.length).map fun j => (KBw.bInts (bn j), KBw.bInts (bx j))
theorem rows_of {h : Heap} {items : List Value} {N : Nat} (hi : ∀ v ∈ items, ItemH h N v) : ∃ Ts bn bx tn tx cn, Rows h items N Ts bn bx tn tx cn := by
  have hp : ∀ j, ∃ t : Addr × Array UInt8 × Array UInt8 × Tok × Tok × Nat, j < items.length → items[j]? = some (.ref t.1) ∧ h.get? t.1 = some (pairO t.2.1 t.2.2.1 t.2.2.2.1 t.2.2.2.2.1 t.2.2.2.2.2) ∧ (KBw.bInts t.2.1).length ≤ N ∧ (KBw.bInts t.2.2.1).length ≤ N := by
    intro j
    by_cases hj : j < items.length
    · obtain ⟨a, n, x, tn, tx, c, e1, e, l1, l2⟩ := hi items[j] (List.getElem_mem hj)
      exact ⟨⟨a, n, x, tn, tx, c⟩, fun _ => ⟨by rw [List.getElem?_eq_getElem hj, e1], e, l1, l2⟩⟩
    · exact ⟨⟨0, #[], #[], 0, 0, 0⟩, fun q => absurd q hj⟩
  obtain ⟨f, hf⟩ := Classical.axiomOfChoice hp
  refine ⟨fun j => (f j).1, fun j => (f j).2.1, fun j => (f j).2.2.1, fun j => (f j).2.2.2.1, fun j => (f j).2.2.2.2.1, fun j => (f j).2.2.2.2.2, fun j hj => (hf j hj).1, fun j hj => (hf j hj).2.1, fun j hj => (hf j hj).2.2.1, fun j hj => (hf j hj).2.2.2, ?_⟩
  refine List.ext_getElem (by simp) fun i h1 h2 => ?_
  have hi : i < items.length := by simpa using h1
  rw [List.getElem_map, List.getElem_map, List.getElem_range]
  have e := (hf i hi).1
  rw [List.getElem?_eq_getElem hi] at e
  rw [Option.some.inj e, ctH_of (hf i hi).2.1]
section
variable {w : World} {A : Around} {E : Value → Shared → Prop} {scope : Scope} {pos : Pos} {h₀ : Heap} {L : Addr} {m : Str → Option Value} {news : List (Addr × Obj)} {env : Env} {cl : List (Str × Addr)} {s₁ s : Shared}
/-- a comprehension's turn, where its tests begin: C its frame -/
structure CSt (h₀ : Heap) (L : Addr) (m : Str → Option Value) (news : List (Addr × Obj)) (h₁ : Heap) (C : Addr) (m₃ : Str → Option Value) (h₃ : Heap) : Prop where
  F1 : Fr h₀ L h₁ m
  F : Fr h₀ L h₃ m
  N : News h₀ L h₃ news
  ne : ∀ p ∈ news, p.1 ≠ C
  ns : h₃.Ns C m₃
  lo : h₀.objs.size ≤ C
  up : ∀ b o, h₁.get? b = some o → h₃.get? b = some o ∧ b ≠ C
noncomputable def KbN (C : Addr) (m₃ : Str → Option Value) (s s' : Shared) : Prop := ∃ h' tk, s' = { s with heap := h', toks := tk } ∧ (∀ b o, b ≠ C → s.heap.get? b = some o → h'.get? b = some o) ∧ h'.Ns C m₃
theorem CSt.Fc {h₁ h₃ : Heap} {C : Addr} {m₃ : Str → Option Value} (S : CSt h₀ L m news h₁ C m₃ h₃) : Fr h₀ C h₃ m₃ := ⟨S.ns, S.F.keep, S.lo⟩
theorem CSt.mem {h₁ h₃ : Heap} {C : Addr} {m₃ : Str → Option Value} (S : CSt h₀ L m news h₁ C m₃ h₃) {a : Addr} {o : Obj} (hm : (a, o) ∈ news) : (a, o) ∈ ledger h₀ (fun b => b = C) h₃ :=
  mem_ledger (S.N _ hm).1 (S.ne _ hm) (S.N _ hm).2.2
theorem CSt.open {h₁ h₃ : Heap} {C : Addr} {m₃ : Str → Option Value} (S : CSt h₀ L m news h₁ C m₃ h₃) : ∃ led, ledger h₀ (fun b => b = C) h₃ = led ∧ Fr h₀ C h₃ m₃ ∧ News h₀ C h₃ led ∧ ∀ p ∈ news, p ∈ led :=
  ⟨_, rfl, S.Fc, news_ledger rfl, fun p hp => S.mem hp⟩
theorem CSt.kept {h₁ h₃ h' : Heap} {C : Addr} {m₃ m' : Str → Option Value} {nw led : List (Addr × Obj)} (S : CSt h₀ L m news h₁ C m₃ h₃) (hled : ledger h₀ (fun b => b = C) h₃ = led) (F : Fr h₀ C h' m') (N : News h₀ C h' nw) (i : ∀ p ∈ led, p ∈ nw) :
    ∀ b o, b ≠ C → h₃.get? b = some o → h'.get? b = some o := kept_of S.F.keep F N (hled ▸ i)
theorem CSt.fin {h₁ h₃ h' : Heap} {C : Addr} {m₃ : Str → Option Value} {nw led : List (Addr × Obj)} {s : Shared} {tk tk' : Nat} (S : CSt h₀ L m news h₁ C m₃ h₃) (hled : ledger h₀ (fun b => b = C) h₃ = led) (F : Fr h₀ C h' m₃) (N : News h₀ C h' nw) (i : ∀ p ∈ led, p ∈ nw) :
    KbN C m₃ { s with heap := h₃, toks := tk } { s with heap := h', toks := tk' } := ⟨h', tk', rfl, S.kept hled F N i, F.ns⟩
theorem CSt.gd {w : World} {mean : ExcName → Option Value} {mg mb : Str → Option Value} {b0 : Heap} {l : List Env} {h₁ h₃ h' : Heap} {C : Addr} {m₃ m' : Str → Option Value} {nw led : List (Addr × Obj)} (S : CSt h₀ L m news h₁ C m₃ h₃) (G : Gd w mean mg mb b0 l h₁) (hled : ledger h₀ (fun b => b = C) h₃ = led) (F : Fr h₀ C h' m') (N : News h₀ C h' nw) (i : ∀ p ∈ led, p ∈ nw) :
    Gd w mean mg mb b0 l h' := G.ext fun b o e => S.kept hled F N i b o (S.up b o e).2 (S.up b o e).1
theorem CSt.gd2 {w : World} {mean : ExcName → Option Value} {mg mb : Str → Option Value} {b0 : Heap} {outer : List Env} {h₁ h₃ h' : Heap} {C : Addr} {m₃ m' : Str → Option Value} {nw led : List (Addr × Obj)} (S : CSt h₀ L m news h₁ C m₃ h₃) (G : Gd w mean mg mb b0 outer h₀) (hk : env.scope.kind ≠ .module) (hf : env.frame = some L) (hled : ledger h₀ (fun b => b = C) h₃ = led) (F : Fr h₀ C h' m') (N : News h₀ C h' nw) (i : ∀ p ∈ led, p ∈ nw) :
    Gd w mean mg mb b0 (env :: outer) h' := S.gd (gd_in G S.F1 hk hf) hled F N i
theorem iter_pairs2 {x x₂ xe : Str} {px px₂ pe tp : Pos} {kt : Nat} {ifs : List Expr} {ax : Addr} {its : Array Value} {Ts : Nat → Addr} {v1 v2 fe : Nat → Value} {p : Nat → Bool} {Fin : Shared → Value → Shared → Prop} (hh : A.handled = none)
    (F : Fr h₀ L s₁.heap m) (N : News h₀ L s₁.heap news) (hl : s₁.heap.IsList ax its) (hit : ∀ j, j < its.size → its[j]? = some (.ref (Ts j))) (htup : ∀ j, j < its.size → s₁.heap.IsTuple (Ts j) #[v1 j, v2 j]) (hsz : its.size ≤ sizeLine)
    (hkind : scope.kind = .function) (hx : scope.names.lookup x = some .local) (hx₂ : scope.names.lookup x₂ = some .local) (hxx : x ≠ x₂) (hxe : scope.names.lookup xe = some .local) (hd : (xe == ("__debug__" : Str)) = false)
    (hfe : ∀ i (m₃ : Str → Option Value), m₃ x = some (v1 i) → m₃ x₂ = some (v2 i) → m₃ xe = some (fe i))
    (tst : ∀ C m₃ i h₃ tk₃ (E' : Value → Shared → Prop), i < its.size → m₃ x = some (v1 i) → m₃ x₂ = some (v2 i) → CSt h₀ L m news s₁.heap C m₃ h₃ →
      wpAny (model Pg w) A (testsOf ifs (compEnvC scope cl C env)) (fun ok s₅ => ok = p i ∧ KbN C m₃ { s₁ with heap := h₃, toks := tk₃ } s₅) E' { s₁ with heap := h₃, toks := tk₃ })
    (fin : ∀ oI, FinF h₀ L m news s₁ (fun i v => v = fe i) its.size p (Fin { s₁ with heap := s₁.heap.push oI })) :
    wpAny (model Pg w) A (pyIter (.ref ax)) (fun it s₂ => CompG w A env (.Tuple [.Name x px, .Name x₂ px₂] kt tp) (.Name xe pe) ifs scope cl (Fin s₂) it s₂) E s₁ := by
  obtain ⟨o, ho, _⟩ := id hl
  have hlt := Heap.lt_size ho
  have hTlt : ∀ j, j < its.size → Ts j < s₁.heap.objs.size := fun j hj => by obtain ⟨o, ho, _⟩ := htup j hj; exact Heap.lt_size ho
  have W := WalksU.listOfTuples (prog := Pg) (w := w) hh s₁.heap.objs.size ax (Nat.ne_of_lt hlt) its Ts (fun j => #[v1 j, v2 j]) hit (fun j hj => Nat.ne_of_lt (hTlt j hj))
  refine wpAny_pyIter_list hl ?_
  refine ⟨_, _, [s₁.heap.objs.size], its.size, _, _, _, p, fun i v => v = fe i, rfl, KTurns.ofWalksU W, hsz, W.self, ?_, ⟨⟨_, Heap.get?_push_size _ rfl, rfl, rfl⟩, hl.push _, fun k hk => (htup k hk).at fun o e => Heap.get?_push_of_some _ e⟩, fun b hb => ?_, ?_, ?_⟩
  · rintro i v h h' ⟨T, vals, rfl, rfl, hT⟩ k
    exact ⟨T, _, rfl, rfl, hT.at fun o e => k T o e⟩
  · rw [Heap.size_push]
    rcases List.mem_cons.mp hb with rfl | hb
    · exact Nat.lt_succ_self _
    · rcases List.mem_cons.mp hb with rfl | hb
      · exact Nat.lt_succ_of_lt hlt
      · obtain ⟨k, hk, rfl⟩ := List.mem_map.mp hb
        exact Nat.lt_succ_of_lt (hTlt k (List.mem_range.mp hk))
  · rintro C i v s₃ E' hC hi ⟨T, vals, rfl, rfl, hT⟩ ⟨m₀, hn₀⟩ k hg hdr hos
    obtain ⟨F₃, N₃, hCL, hC₀, hCn, up⟩ := turn_facts F N rfl hC k
    obtain ⟨hh₃, gg, dd, tt, oo⟩ := s₃
    dsimp only at hg hdr hos
    subst hg; subst hdr; subst hos
    refine assign_Tuple_tuple hh hT rfl rfl fun h₅ he => ?_
    have he' : ∀ b o, hh₃.get? b = some o → h₅.get? b = some o := fun b o e => he b o (Nat.ne_of_lt (Heap.lt_size e)) e
    have hn₅ : h₅.Ns C m₀ := hn₀.keeps he'
    refine assignInOrder_cons (wpAny_assign_Name (wpAny_storeName_local (env := compEnvC scope cl C env) (lookup_relabel_local hx) hn₅ (fun h₆ hn₆ hs₆ => ?_) (by simp [compEnvC, relabel, hkind])))
    refine assignInOrder_cons (wpAny_assign_Name (wpAny_storeName_local (env := compEnvC scope cl C env) (lookup_relabel_local hx₂) hn₆ (fun h₄ hn₄ hs₄ => ?_) (by simp [compEnvC, relabel, hkind])))
    refine assignInOrder_nil ?_
    have hn₄ : h₄.Ns C _ := hn₄
    have hs₆ : Heap.SameBut C h₅ h₆ := hs₆
    have hs₄ : Heap.SameBut C h₆ h₄ := hs₄
    have old : ∀ b o, b ≠ C → hh₃.get? b = some o → h₄.get? b = some o := fun b o hb e => hs₄.extBut b o hb (hs₆.extBut b o hb (he' b o e))
    obtain ⟨oC, heC, hoC⟩ := ns_obj hn₄
    have F₄ : Fr h₀ L h₄ m := ((F₃.keeps he').change hs₆ hCL hC₀).change hs₄ hCL hC₀
    have N₄ : News h₀ L h₄ ((C, oC) :: news) := fun q hq => by
      rcases List.mem_cons.mp hq with rfl | hq
      · exact ⟨heC, hCL, hC₀⟩
      · exact ⟨old _ _ (hCn q hq) (N₃ q hq).1, (N₃ q hq).2⟩
    have hv1 : (fun y => if y = x₂ then some (v2 i) else if y = x then some (v1 i) else m₀ y) x = some (v1 i) := by simp [hxx]
    have hv2 : (fun y => if y = x₂ then some (v2 i) else if y = x then some (v1 i) else m₀ y) x₂ = some (v2 i) := by simp
    have cst : CSt h₀ L m news s₁.heap C _ h₄ := ⟨F, F₄, fun q hq => N₄ q (.tail _ hq), hCn, hn₄, Nat.le_trans F.above (Nat.le_trans (Nat.le_of_lt F.ns.lt) (by rw [Heap.size_push] at hC; exact Nat.le_of_succ_le hC)), fun b o e => ⟨old b o (up b o e).2 (up b o e).1, (up b o e).2⟩⟩
    refine wpAny_mono (tst C _ i h₄ _ E' hi hv1 hv2 cst) (fun ok s₅ h₅ => ?_) fun _ _ e => e
    obtain ⟨rfl, h₇, tk₅, rfl, hk₅, hn₇⟩ := h₅
    have kb : Kb C ⟨hh₃, s₁.gens, s₁.drawn, tt, s₁.os⟩ ⟨h₇, s₁.gens, s₁.drawn, tk₅, s₁.os⟩ := ⟨h₇, tk₅, rfl, fun b o hb e => hk₅ b o hb (old b o hb e), _, hn₇⟩
    cases hp : p i with
    | false =>
      rw [if_neg (by simp)]
      exact ⟨rfl, kb⟩
    | true =>
      rw [if_pos rfl]
      exact name_local hkind hxe hd hn₇ (hfe i (fun y => if y = x₂ then some (v2 i) else if y = x then some (v1 i) else m₀ y) hv1 hv2) ⟨rfl, rfl, kb⟩
  · intro D h' tk ys hD hl' hys hk
    obtain ⟨c, hl'⟩ := hl'
    obtain ⟨F', N', n'⟩ := fin_facts F N hD hl' hk
    exact fin _ D h' tk ys c F' N' n' hys
/-- the first or the second of a pair -/
noncomputable def pj (b : Bool) (p : Pr) : List Int := if b then p.1 else p.2
noncomputable abbrev TestP (w : World) (A : Around) (h₀ : Heap) (L : Addr) (m : Str → Option Value) (news : List (Addr × Obj)) (env : Env) (ifs : List Expr) (scope : Scope) (cl : List (Str × Addr)) (s₁ : Shared) (x x₂ : Str) (q : Pr → Bool) : Prop :=
  ∀ C m₃ h₃ tk₃ (E' : Value → Shared → Prop) (n v : Array UInt8) tn tv ks vs, KBw.bInts n = ks → KBw.bInts v = vs → ks.length ≤ 1000 → vs.length ≤ 1000 → m₃ x = some (.bytes n tn) → m₃ x₂ = some (.bytes v tv) → CSt h₀ L m news s₁.heap C m₃ h₃ →
    wpAny (model Pg w) A (testsOf ifs (compEnvC scope cl C env)) (fun ok s₅ => ok = q (ks, vs) ∧ KbN C m₃ { s₁ with heap := h₃, toks := tk₃ } s₅) E' { s₁ with heap := h₃, toks := tk₃ }
/-- what a comprehension over a block makes: byte strings -/
structure Made (ys : Array Value) (l : List (List Int)) : Prop where
  b : ys.toList.all isB = true
  c : ys.toList.map bInt? = l
  n : ∀ k ∈ l, k.length ≤ 1000
theorem Made.size {ys : Array Value} {l : List (List Int)} (x : Made ys l) : ys.size = l.length := by rw [← x.c]; simp
theorem made_of {items : List Value} {N : Nat} {Ts : Nat → Addr} {bn bx : Nat → Array UInt8} {tn tx : Nat → Tok} {cn : Nat → Nat} {h : Heap} {q : Pr → Bool} {b : Bool} {ys : Array Value} (hN : N ≤ 1000) (R : Rows h items N Ts bn bx tn tx cn)
    (hP : Paired (fun i v => v = if b then Value.bytes (bn i) (tn i) else .bytes (bx i) (tx i)) ((List.range items.toArray.size).filter fun i => q (KBw.bInts (bn i), KBw.bInts (bx i))) ys.toList) :
    Made ys (((items.map (ctH h)).filter q).map (pj b)) := by
  have e := paired_map (g := fun i => if b then Value.bytes (bn i) (tn i) else .bytes (bx i) (tx i)) (fun i v hv => hv) hP
  have hc : ys.toList.map bInt? = ((items.map (ctH h)).filter q).map (pj b) := by
    rw [e, R.ct, List.filter_map, List.map_map, List.map_map, List.size_toArray]
    refine List.map_congr_left fun i _ => ?_
    cases b <;> rfl
  refine ⟨?_, hc, ?_⟩
  · rw [e, List.all_map, List.all_eq_true]
    intro i _
    cases b <;> rfl
  · intro k hk
    obtain ⟨p, hp, rfl⟩ := List.mem_map.mp hk
    have hp' := (List.mem_filter.mp hp).1
    rw [R.ct] at hp'
    obtain ⟨j, hj, rfl⟩ := List.mem_map.mp hp'
    have hj := List.mem_range.mp hj
    cases b
    · exact Nat.le_trans (R.lx j hj) hN
    · exact Nat.le_trans (R.ln j hj) hN
theorem iter_block {x x₂ xe : Str} {px px₂ pe tp : Pos} {kt : Nat} {ifs : List Expr} {ax : Addr} {items : List Value} {cb N : Nat} {Fin : Shared → Value → Shared → Prop} (q : Pr → Bool) (b : Bool) (hh : A.handled = none)
    (F : Fr h₀ L s₁.heap m) (N' : News h₀ L s₁.heap news) (hl : h₀.get? ax = some (listO items.toArray cb)) (hi : ∀ v ∈ items, ItemH h₀ N v) (hN : N ≤ 1000) (hz : items.length ≤ 1000)
    (hkind : scope.kind = .function) (hx : scope.names.lookup x = some .local) (hx₂ : scope.names.lookup x₂ = some .local) (hxx : x ≠ x₂) (hxe : xe = if b then x else x₂) (hd : (xe == ("__debug__" : Str)) = false)
    (tst : TestP w A h₀ L m news env ifs scope cl s₁ x x₂ q)
    (fin : ∀ oI D h' tk ys c, Fr h₀ L h' m → News h₀ L h' ((D, listO ys c) :: news) → (∀ p ∈ news, p.1 ≠ D) → Made ys (((items.map (ctH h₀)).filter q).map (pj b)) → Fin { s₁ with heap := s₁.heap.push oI } (.ref D) { s₁ with heap := h', toks := tk }) :
    wpAny (model Pg w) A (pyIter (.ref ax)) (fun it s₂ => CompG w A env (.Tuple [.Name x px, .Name x₂ px₂] kt tp) (.Name xe pe) ifs scope cl (Fin s₂) it s₂) E s₁ := by
  obtain ⟨Ts, bn, bx, tn, tx, cn, R⟩ := rows_of hi
  have hle : xe = x ∨ xe = x₂ := by cases b; exact .inr hxe; exact .inl hxe
  refine iter_pairs2 (Ts := Ts) (v1 := fun i => .bytes (bn i) (tn i)) (v2 := fun i => .bytes (bx i) (tx i)) (fe := fun i => if b then .bytes (bn i) (tn i) else .bytes (bx i) (tx i)) (p := fun i => q (KBw.bInts (bn i), KBw.bInts (bx i))) hh F N' ⟨_, F.keep _ _ hl, rfl, _, rfl⟩
    (fun j hj => by rw [List.size_toArray] at hj; simpa using R.it j hj) (fun j hj => ⟨_, F.keep _ _ (R.ob j (by rwa [List.size_toArray] at hj)), rfl, _, rfl⟩) (by rw [List.size_toArray]; exact Nat.le_trans hz (by decide)) hkind hx hx₂ hxx (by rcases hle with e | e <;> rw [e] <;> assumption) hd ?_ ?_ ?_
  · intro i m₃ h1 h2
    cases b
    · rw [hxe]; exact h2
    · rw [hxe]; exact h1
  · intro C m₃ i h₃ tk₃ E' hlt h1 h2 S
    have hlt : i < items.length := by rwa [List.size_toArray] at hlt
    exact tst C m₃ h₃ tk₃ E' (bn i) (bx i) (tn i) (tx i) _ _ rfl rfl (Nat.le_trans (R.ln i hlt) hN) (Nat.le_trans (R.lx i hlt) hN) h1 h2 S
  · intro oI D h' tk ys c F' N2 n' hP
    exact fin oI D h' tk ys c F' N2 n' (made_of hN R hP)
/-- [a for a, b in block if ..] -/
theorem comp_block {x x₂ xe : Str} {px px₂ pe tp : Pos} {kt : Nat} {iter : Expr} {ifs : List Expr} {ax : Addr} {items : List Value} {cb N : Nat} {Q : Value → Shared → Prop} (q : Pr → Bool) (b : Bool) (hh : A.handled = none)
    (F : Fr h₀ L s.heap m) (N' : News h₀ L s.heap news) (hiter : ∀ Q' : Value → Shared → Prop, Q' (.ref ax) s → wpAny (model Pg w) A (eval iter env) Q' E s)
    (hl : h₀.get? ax = some (listO items.toArray cb)) (hi : ∀ v ∈ items, ItemH h₀ N v) (hN : N ≤ 1000) (hz : items.length ≤ 1000)
    (hclos : closureFor scope env = pure cl) (hcell : ∀ y ∈ scope.names, y.2 ≠ .cell) (hkind : scope.kind = .function)
    (hnames : ∀ y ∈ scope.names, y.2 = .local → scope.names.lookup y.1 = some .local) (hs : ∀ x, foldedSetIterable iter env x = pure x)
    (hx : scope.names.lookup x = some .local) (hx₂ : scope.names.lookup x₂ = some .local) (hxx : x ≠ x₂) (hxe : xe = if b then x else x₂) (hd : (xe == ("__debug__" : Str)) = false)
    (tst : TestP w A h₀ L m news env ifs scope cl s x x₂ q)
    (fin : ∀ D h' tk ys c, Fr h₀ L h' m → News h₀ L h' ((D, listO ys c) :: news) → (∀ p ∈ news, p.1 ≠ D) → Made ys (((items.map (ctH h₀)).filter q).map (pj b)) → Q (.ref D) { s with heap := h', toks := tk }) :
    wpAny (model Pg w) A (eval (.ListComp (.Name xe pe) [⟨.Tuple [.Name x px, .Name x₂ px₂] kt tp, iter, ifs, 0⟩] scope pos) env) Q E s :=
  Comp_K hclos hcell hkind hnames hs (hiter _ (iter_block (Fin := fun _ => Q) q b hh F N' hl hi hN hz hkind hx hx₂ hxx hxe hd tst fun _ => fin))
/-- y = [a for a, b in block if ..], y a local -/
theorem acomp_block {y x x₂ xe : Str} {py spos px px₂ pe tp : Pos} {kt : Nat} {iter : Expr} {ifs : List Expr} {ax : Addr} {items : List Value} {cb N : Nat} {Q : Flow → Shared → Prop} (q : Pr → Bool) (b : Bool) (hh : A.handled = none)
    (F : Fr h₀ L s.heap m) (N' : News h₀ L s.heap news) (hiter : ∀ Q' : Value → Shared → Prop, Q' (.ref ax) s → wpAny (model Pg w) A (eval iter env) Q' E s)
    (hl : h₀.get? ax = some (listO items.toArray cb)) (hi : ∀ v ∈ items, ItemH h₀ N v) (hN : N ≤ 1000) (hz : items.length ≤ 1000)
    (hL : env.locals = L) (hy : env.kindOf y = some .local) (hp : (env.scope.kind == .class || (env.scope.kind == .module && env.locals != env.globals)) = false)
    (hsw : swapsWith (.ListComp (.Name xe pe) [⟨.Tuple [.Name x px, .Name x₂ px₂] kt tp, iter, ifs, 0⟩] scope pos) (some (.Name y py)) spos.line env = pure true)
    (hclos : closureFor scope env = pure cl) (hcell : ∀ y ∈ scope.names, y.2 ≠ .cell) (hkind : scope.kind = .function)
    (hnames : ∀ y ∈ scope.names, y.2 = .local → scope.names.lookup y.1 = some .local) (hs : ∀ x, foldedSetIterable iter env x = pure x)
    (hx : scope.names.lookup x = some .local) (hx₂ : scope.names.lookup x₂ = some .local) (hxx : x ≠ x₂) (hxe : xe = if b then x else x₂) (hd : (xe == ("__debug__" : Str)) = false)
    (tst : TestP w A h₀ L m news env ifs scope cl s x x₂ q)
    (fin : ∀ D h' tk ys c, Fr h₀ L h' (fun z => if z = y then some (.ref D) else m z) → News h₀ L h' ((D, listO ys c) :: news) → (∀ p ∈ news, p.1 ≠ D) → Made ys (((items.map (ctH h₀)).filter q).map (pj b)) → Q .next { s with heap := h', toks := tk }) :
    wpAny (model Pg w) A (exec (.Assign [.Name y py] (.ListComp (.Name xe pe) [⟨.Tuple [.Name x px, .Name x₂ px₂] kt tp, iter, ifs, 0⟩] scope pos) spos) env) Q E s := by
  refine AssignComp_G hsw hclos hcell hkind hnames (hiter _ ?_) hs
  obtain ⟨Ts, bn, bx, tn, tx, cn, R⟩ := rows_of hi
  have hle : xe = x ∨ xe = x₂ := by cases b; exact .inr hxe; exact .inl hxe
  refine iter_pairs2 (Fin := fun s₂ v s₃ => wpAny (model Pg w) A (assign (.Name y py) env v) (fun _ s₄ => ∀ C, s₂.heap.get? C = none → (∃ m, s₃.heap.Ns C m) → (∃ m, s₄.heap.Ns C m) ∧ ∀ h', Heap.SameBut C s₄.heap h' → Q .next { s₄ with heap := h' }) E s₃) (Ts := Ts) (v1 := fun i => .bytes (bn i) (tn i)) (v2 := fun i => .bytes (bx i) (tx i)) (fe := fun i => if b then .bytes (bn i) (tn i) else .bytes (bx i) (tx i)) (p := fun i => q (KBw.bInts (bn i), KBw.bInts (bx i))) hh F N' ⟨_, F.keep _ _ hl, rfl, _, rfl⟩
    (fun j hj => by rw [List.size_toArray] at hj; simpa using R.it j hj) (fun j hj => ⟨_, F.keep _ _ (R.ob j (by rwa [List.size_toArray] at hj)), rfl, _, rfl⟩) (by rw [List.size_toArray]; exact Nat.le_trans hz (by decide)) hkind hx hx₂ hxx (by rcases hle with e | e <;> rw [e] <;> assumption) hd ?_ ?_ ?_
  · intro i m₃ h1 h2
    cases b
    · rw [hxe]; exact h2
    · rw [hxe]; exact h1
  · intro C m₃ i h₃ tk₃ E' hlt h1 h2 S
    have hlt : i < items.length := by rwa [List.size_toArray] at hlt
    exact tst C m₃ h₃ tk₃ E' (bn i) (bx i) (tn i) (tx i) _ _ rfl rfl (Nat.le_trans (R.ln i hlt) hN) (Nat.le_trans (R.lx i hlt) hN) h1 h2 S
  · intro oI
    exact fin_local hL hy hp (fun b o e => Heap.get?_push_of_some _ e) N' F fun D h' tk ys c F' N2 n' hP => fin D h' tk ys c F' N2 n' (made_of hN R hP)
/-- y = [a for a, b in block if ..], y a cell -/
theorem acompC_block {y x x₂ xe : Str} {py spos px px₂ pe tp : Pos} {kt : Nat} {iter : Expr} {ifs : List Expr} {ax ca : Addr} {oc : Obj} {rest : List (Addr × Obj)} {v₀ : Option Value} {items : List Value} {cb N : Nat} {Q : Flow → Shared → Prop} (q : Pr → Bool) (b : Bool) (hh : A.handled = none)
    (F : Fr h₀ L s.heap m) (N' : News h₀ L s.heap ((ca, oc) :: rest)) (hiter : ∀ Q' : Value → Shared → Prop, Q' (.ref ax) s → wpAny (model Pg w) A (eval iter env) Q' E s)
    (hl : h₀.get? ax = some (listO items.toArray cb)) (hi : ∀ v ∈ items, ItemH h₀ N v) (hN : N ≤ 1000) (hz : items.length ≤ 1000)
    (hk : env.scope.kind = .function) (hy : env.kindOf y = some .cell) (hca : env.cells.lookup y = some ca) (hoc : oc.data = .cell v₀) (hcr : ∀ p ∈ rest, p.1 ≠ ca)
    (hsw : swapsWith (.ListComp (.Name xe pe) [⟨.Tuple [.Name x px, .Name x₂ px₂] kt tp, iter, ifs, 0⟩] scope pos) (some (.Name y py)) spos.line env = pure false)
    (hclos : closureFor scope env = pure cl) (hcell : ∀ y ∈ scope.names, y.2 ≠ .cell) (hkind : scope.kind = .function)
    (hnames : ∀ y ∈ scope.names, y.2 = .local → scope.names.lookup y.1 = some .local) (hs : ∀ x, foldedSetIterable iter env x = pure x)
    (hx : scope.names.lookup x = some .local) (hx₂ : scope.names.lookup x₂ = some .local) (hxx : x ≠ x₂) (hxe : xe = if b then x else x₂) (hd : (xe == ("__debug__" : Str)) = false)
    (tst : TestP w A h₀ L m ((ca, oc) :: rest) env ifs scope cl s x x₂ q)
    (fin : ∀ D h' tk ys c oc, Fr h₀ L h' m → News h₀ L h' ((D, listO ys c) :: (ca, oc) :: rest) → oc.data = .cell (some (.ref D)) → Made ys (((items.map (ctH h₀)).filter q).map (pj b)) → Q .next { s with heap := h', toks := tk }) :
    wpAny (model Pg w) A (exec (.Assign [.Name y py] (.ListComp (.Name xe pe) [⟨.Tuple [.Name x px, .Name x₂ px₂] kt tp, iter, ifs, 0⟩] scope pos) spos) env) Q E s := by
  refine wpAny_Assign_Name (comp_block q b hh F N' hiter hl hi hN hz hclos hcell hkind hnames hs hx hx₂ hxx hxe hd tst fun D h' tk ys c F' N2 nD M => ?_) hsw
  have hc := N2 (ca, oc) (.tail _ (.head _))
  refine wpAny_storeName_cell hk hy hca ⟨oc, hc.1, hoc⟩ fun h₂ hv₂ hs₂ => ?_
  obtain ⟨oc', hoc', hd'⟩ := hv₂
  refine fin D h₂ tk ys c oc' (F'.change hs₂ hc.2.1 hc.2.2) (fun p hp => ?_) hd' M
  have hs₂ : Heap.SameBut ca h' h₂ := hs₂
  rcases List.mem_cons.mp hp with rfl | hp
  · have z := N2 (D, listO ys c) (.head _)
    exact ⟨hs₂.extBut _ _ (fun q => nD (ca, oc) (.head _) q.symm) z.1, z.2⟩
  · rcases List.mem_cons.mp hp with rfl | hp
    · exact ⟨hoc', hc.2⟩
    · have z := N2 p (.tail _ (.tail _ hp))
      exact ⟨hs₂.extBut _ _ (hcr p hp) z.1, z.2⟩
end

end
section
open PySem PySem.W PyProof.Rows PySem.Calls PySem.Spec PyProof.Rows.LCg PySem.SeqAt
set_option Elab.async false
set_option maxRecDepth 100000
set_option maxHeartbeats 4000000
set_option linter.unusedVariables false
section
variable {w : World} {A : Around} {E : Value → Shared → Prop} {scope : Scope} {pos : Pos} {h₀ : Heap} {L : Addr} {m : Str → Option Value} {news : List (Addr × Obj)} {env : Env} {cl : List (Str × Addr)} {s₁ s : Shared}
theorem compat_nameC {x xe : Str} {px pe : Pos} {ifs : List Expr} {oI : Obj} {fp : List Addr} {n : Nat} {P : Nat → Value → Prop} {St : Nat → Heap → Prop} {p : Nat → Bool} {Fin : Value → Shared → Prop}
    (F : Fr h₀ L s₁.heap m) (N : News h₀ L s₁.heap news) (W : Walks Pg w A s₁.heap.objs.size fp [s₁.heap.objs.size] n P St) (hsz : n ≤ sizeLine) (hst : St 0 (s₁.heap.push oI)) (hfp : ∀ b ∈ fp, b < (s₁.heap.push oI).objs.size)
    (hkind : scope.kind = .function) (hx : scope.names.lookup x = some .local) (hxe : xe = x) (hd : (x == ("__debug__" : Str)) = false)
    (tst : ∀ C m₃ i h₃ tk₃ (E' : Value → Shared → Prop) v, i < n → P i v → m₃ x = some v → CSt h₀ L m news s₁.heap C m₃ h₃ →
      wpAny (model Pg w) A (testsOf ifs (compEnvC scope cl C env)) (fun ok s₅ => ok = p i ∧ KbN C m₃ { s₁ with heap := h₃, toks := tk₃ } s₅) E' { s₁ with heap := h₃, toks := tk₃ })
    (fin : FinF h₀ L m news s₁ P n p Fin) :
    CompG w A env (.Name x px) (.Name xe pe) ifs scope cl Fin (.ref s₁.heap.objs.size) { s₁ with heap := s₁.heap.push oI } := by
  subst hxe
  refine ⟨_, fp, [s₁.heap.objs.size], n, _, _, St, p, P, rfl, KTurns.ofWalks W fun i v s Q E st hq => ?_, hsz, W.self, fun i v h h' hP _ => hP, hst, hfp, ?_, ?_⟩
  · rw [let_name]; exact wpAny_pure hq
  · intro C i v s₃ E' hC hi hP ⟨m₀, hn₀⟩ k hg hdr hos
    obtain ⟨F₃, N₃, hCL, hC₀, hCn, up⟩ := turn_facts F N rfl hC k
    refine wpAny_assign_Name (wpAny_storeName_local (env := compEnvC scope cl C env) (lookup_relabel_local hx) hn₀ (fun h₄ hn₄ hs₄ => ?_) (by simp [compEnvC, relabel, hkind]))
    have hn₄ : h₄.Ns C _ := hn₄
    have hs₄ : Heap.SameBut C s₃.heap h₄ := hs₄
    obtain ⟨oC, heC, hoC⟩ := ns_obj hn₄
    have F₄ : Fr h₀ L h₄ m := F₃.change hs₄ hCL hC₀
    have N₄ : News h₀ L h₄ ((C, oC) :: news) := fun q hq => by
      rcases List.mem_cons.mp hq with rfl | hq
      · exact ⟨heC, hCL, hC₀⟩
      · exact ⟨hs₄.extBut _ _ (hCn q hq) (N₃ q hq).1, (N₃ q hq).2⟩
    obtain ⟨hh₃, gg, dd, tt, oo⟩ := s₃
    dsimp only at hg hdr hos
    subst hg; subst hdr; subst hos
    have cst : CSt h₀ L m news s₁.heap C _ h₄ := ⟨F, F₄, fun q hq => N₄ q (.tail _ hq), hCn, hn₄, Nat.le_trans F.above (Nat.le_trans (Nat.le_of_lt F.ns.lt) (by rw [Heap.size_push] at hC; exact Nat.le_of_succ_le hC)), fun b o e => ⟨hs₄.extBut b o (up b o e).2 (up b o e).1, (up b o e).2⟩⟩
    refine wpAny_mono (tst C _ i h₄ _ E' v hi hP (by simp) cst) (fun ok s₅ h₅ => ?_) fun _ _ e => e
    obtain ⟨rfl, h₅, tk₅, rfl, hk₅, hn₅⟩ := h₅
    have kb : Kb C ⟨hh₃, s₁.gens, s₁.drawn, tt, s₁.os⟩ ⟨h₅, s₁.gens, s₁.drawn, tk₅, s₁.os⟩ := ⟨h₅, tk₅, rfl, fun b o hb e => hk₅ b o hb (hs₄.extBut b o hb e), _, hn₅⟩
    cases hp : p i with
    | false =>
      rw [if_neg (by simp)]
      exact ⟨rfl, kb⟩
    | true =>
      rw [if_pos rfl]
      exact name_local hkind hx hd hn₅ (by simp) ⟨rfl, hP, kb⟩
  · intro D h' tk ys hD hl hys hk
    obtain ⟨c, hl⟩ := hl
    have up : ∀ b o, s₁.heap.get? b = some o → h'.get? b = some o := fun b o e => hk b o (fun hm => by rw [List.mem_singleton.mp hm] at e; exact Nat.lt_irrefl _ (Heap.lt_size e)) (Heap.get?_push_of_some _ e)
    have nD : ∀ b o, s₁.heap.get? b = some o → b ≠ D := fun b o e q => by
      have e' : s₁.heap.get? D = some o := q ▸ e
      have := Heap.get?_push_of_some oI e'
      rw [show (s₁.heap.push oI).get? D = none from hD] at this; cases this
    obtain ⟨oL, _, _, hoL, _⟩ := id F.ns
    refine fin D h' tk ys c (F.keeps up) (fun q hq => ?_) (fun q hq => nD _ _ (N q hq).1) hys
    rcases List.mem_cons.mp hq with rfl | hq
    · refine ⟨hl, fun q => nD L _ hoL q.symm, ?_⟩
      cases e : h₀.get? D with
      | none => rfl
      | some o => exact absurd rfl (nD D o (F.keep D o e))
    · exact ⟨up _ _ (N q hq).1, (N q hq).2⟩
theorem iter_nameC {x xe : Str} {px pe : Pos} {ifs : List Expr} {ax : Addr} {its : Array Value} {p : Nat → Bool} {Fin : Value → Shared → Prop} (hh : A.handled = none)
    (F : Fr h₀ L s₁.heap m) (N : News h₀ L s₁.heap news) (hl : s₁.heap.IsList ax its) (hsz : its.size ≤ sizeLine) (hkind : scope.kind = .function) (hx : scope.names.lookup x = some .local) (hxe : xe = x) (hd : (x == ("__debug__" : Str)) = false)
    (tst : ∀ C m₃ i h₃ tk₃ (E' : Value → Shared → Prop) v, i < its.size → its[i]? = some v → m₃ x = some v → CSt h₀ L m news s₁.heap C m₃ h₃ →
      wpAny (model Pg w) A (testsOf ifs (compEnvC scope cl C env)) (fun ok s₅ => ok = p i ∧ KbN C m₃ { s₁ with heap := h₃, toks := tk₃ } s₅) E' { s₁ with heap := h₃, toks := tk₃ })
    (fin : FinF h₀ L m news s₁ (fun i v => its[i]? = some v) its.size p Fin) :
    wpAny (model Pg w) A (pyIter (.ref ax)) (fun it s₂ => CompG w A env (.Name x px) (.Name xe pe) ifs scope cl Fin it s₂) E s₁ := by
  obtain ⟨o, ho, _⟩ := id hl
  have hlt := Heap.lt_size ho
  refine wpAny_pyIter_list hl (compat_nameC F N (Walks.list hh s₁.heap.objs.size ax (Nat.ne_of_lt hlt) its) hsz ⟨⟨_, Heap.get?_push_size _ rfl, rfl, rfl⟩, hl.push _⟩ (fun b hb => ?_) hkind hx hxe hd tst fin)
  rw [Heap.size_push]
  rcases List.mem_cons.mp hb with rfl | hb
  · exact Nat.lt_succ_self _
  · rw [List.mem_singleton.mp hb]; exact Nat.lt_succ_of_lt hlt
/-- [a for a in made if ..] -/
theorem comp_made {x xe : Str} {px pe : Pos} {iter : Expr} {ifs : List Expr} {ax : Addr} {its : Array Value} {ci : Nat} {kss : List (List Int)} {Q : Value → Shared → Prop} (q : List Int → Bool) (hh : A.handled = none)
    (F : Fr h₀ L s.heap m) (N' : News h₀ L s.heap news) (hiter : ∀ Q' : Value → Shared → Prop, Q' (.ref ax) s → wpAny (model Pg w) A (eval iter env) Q' E s)
    (hm : (ax, listO its ci) ∈ news) (M : Made its kss) (hz : kss.length ≤ 1000)
    (hclos : closureFor scope env = pure cl) (hcell : ∀ y ∈ scope.names, y.2 ≠ .cell) (hkind : scope.kind = .function)
    (hnames : ∀ y ∈ scope.names, y.2 = .local → scope.names.lookup y.1 = some .local) (hs : ∀ x, foldedSetIterable iter env x = pure x)
    (hx : scope.names.lookup x = some .local) (hxe : xe = x) (hd : (x == ("__debug__" : Str)) = false)
    (tst : ∀ C m₃ h₃ tk₃ (E' : Value → Shared → Prop) (n : Array UInt8) tn ks, ks ∈ kss → ks.length ≤ 1000 → KBw.bInts n = ks → m₃ x = some (.bytes n tn) → CSt h₀ L m news s.heap C m₃ h₃ →
      wpAny (model Pg w) A (testsOf ifs (compEnvC scope cl C env)) (fun ok s₅ => ok = q ks ∧ KbN C m₃ { s with heap := h₃, toks := tk₃ } s₅) E' { s with heap := h₃, toks := tk₃ })
    (fin : ∀ D h' tk ys c, Fr h₀ L h' m → News h₀ L h' ((D, listO ys c) :: news) → (∀ p ∈ news, p.1 ≠ D) → Made ys (kss.filter q) → Q (.ref D) { s with heap := h', toks := tk }) :
    wpAny (model Pg w) A (eval (.ListComp (.Name xe pe) [⟨.Name x px, iter, ifs, 0⟩] scope pos) env) Q E s := by
  have hlen : its.size = kss.length := M.size
  have hkk : ∀ i (v : Value), its[i]? = some v → ∃ n tn, v = .bytes n tn ∧ KBw.bInts n = kss.getD i [] ∧ kss.getD i [] ∈ kss := by
    intro i v hv
    have hv' : its.toList[i]? = some v := by simpa using hv
    have hb := M.b
    rw [List.all_eq_true] at hb
    have hv2 := hb v (List.mem_of_getElem? hv')
    have hk : kss[i]? = some (bInt? v) := by rw [← M.c, List.getElem?_map, hv']; rfl
    cases v <;> try (cases hv2; done)
    rename_i n tn
    refine ⟨n, tn, rfl, ?_, ?_⟩
    · rw [List.getD_eq_getElem?_getD, hk]; rfl
    · rw [List.getD_eq_getElem?_getD, hk]; exact List.mem_of_getElem? hk
  refine Comp_K hclos hcell hkind hnames hs (hiter _ (iter_nameC (p := fun i => q (kss.getD i [])) hh F N' ⟨_, (N' _ hm).1, rfl, _, rfl⟩ (by rw [hlen]; exact Nat.le_trans hz (by decide)) hkind hx hxe hd ?_ ?_))
  · rintro C m₃ i h₃ tk₃ E' v hlt hv hmv S
    obtain ⟨n, tn, rfl, hb, hmem⟩ := hkk i v hv
    exact tst C m₃ h₃ tk₃ E' n tn _ hmem (M.n _ hmem) hb hmv S
  · intro D h' tk ys c F' N2 n' hP
    refine fin D h' tk ys c F' N2 n' ?_
    have e := paired_map (g := fun i => its.toList.getD i .none) (fun i v hv => by
      have hv' : its.toList[i]? = some v := by simpa using hv
      rw [List.getD_eq_getElem?_getD, hv']; rfl) hP
    have hsub : ∀ i ∈ (List.range its.size).filter (fun i => q (kss.getD i [])), i < its.size := fun i hi => List.mem_range.mp (List.mem_filter.mp hi).1
    have hget : ∀ i, i < its.size → its[i]? = some (its.toList.getD i .none) := fun i hi => by
      rw [List.getD_eq_getElem?_getD, Array.getElem?_toList, Array.getElem?_eq_getElem hi]; rfl
    refine ⟨?_, ?_, fun k hk => M.n k (List.mem_filter.mp hk).1⟩
    · rw [e, List.all_map, List.all_eq_true]
      intro i hi
      obtain ⟨n, tn, h1, _⟩ := hkk i _ (hget i (hsub i hi))
      show isB (its.toList.getD i .none) = true
      rw [h1]; rfl
    · have h3 : kss = (List.range kss.length).map fun i => kss.getD i [] := by
        refine List.ext_getElem (by simp) fun i hi _ => ?_
        simp [List.getD_eq_getElem?_getD, List.getElem?_eq_getElem hi]
      conv => rhs; rw [h3]
      rw [List.filter_map, e, List.map_map, hlen]
      refine List.map_congr_left fun i hi => ?_
      obtain ⟨n, tn, h1, h2, _⟩ := hkk i _ (hget i (hsub i (by rw [hlen]; exact hi)))
      show bInt? (its.toList.getD i .none) = kss.getD i []
      rw [h1]; exact h2
/-- a made list beside another -/
theorem made_eqs {its its2 : Array Value} {l1 l2 : List (List Int)} (M1 : Made its l1) (M2 : Made its2 l2) (A' : Around) (s' : Shared) (j : Nat) (h1 : j < its.size) (h2 : j < its2.size) : EqAt A' s' its[j] its2[j] (decide (l1.getD j [] = l2.getD j [])) := by
  have g : ∀ {its : Array Value} {l : List (List Int)} (M : Made its l) (h : j < its.size), ∃ b t, its[j] = .bytes b t ∧ KBw.bInts b = l.getD j [] := by
    intro its l M h
    have hb := M.b
    rw [List.all_eq_true] at hb
    have hj : its.toList[j]? = some its[j] := by rw [Array.getElem?_toList, Array.getElem?_eq_getElem h]
    have hv2 := hb _ (List.mem_of_getElem? hj)
    have hk : l[j]? = some (bInt? its[j]) := by rw [← M.c, List.getElem?_map, hj]; rfl
    generalize its[j] = v at hv2 hk
    cases v <;> try (cases hv2; done)
    rename_i n tn
    exact ⟨n, tn, rfl, by rw [List.getD_eq_getElem?_getD, hk]; rfl⟩
  obtain ⟨b, t, e1, k1⟩ := g M1 h1
  obtain ⟨c, u, e2, k2⟩ := g M2 h2
  rw [e1, e2, ← k1, ← k2]
  exact (eqGives_bytes b c t u).at A' s'
theorem made_all {l1 l2 : List (List Int)} (h : l1.length = l2.length) : ((List.range l1.length).all fun j => decide (l1.getD j [] = l2.getD j [])) = decide (l1 = l2) := by
  rw [Bool.eq_iff_iff, List.all_eq_true, decide_eq_true_eq]
  constructor
  · intro ha
    refine List.ext_getElem h fun i h1 h2 => ?_
    have := of_decide_eq_true (ha i (List.mem_range.mpr h1))
    simpa [List.getD_eq_getElem?_getD, List.getElem?_eq_getElem h1, List.getElem?_eq_getElem h2] using this
  · rintro rfl j _
    exact decide_eq_true rfl
theorem eq_made_K {a b : Addr} {its its2 : Array Value} {c c2 : Nat} {l1 l2 : List (List Int)} {Q : Value → Shared → Prop} (N : News h₀ L s.heap news) (m1 : (a, listO its c) ∈ news) (m2 : (b, listO its2 c2) ∈ news) (M1 : Made its l1) (M2 : Made its2 l2) (hu : A.units < cLine)
    (h : Q (.bool (decide (l1 = l2))) s) : wpAny (model Pg w) A (compareOp .Eq (.ref a) (.ref b)) Q E s := by
  have h1 : s.heap.IsList a its := ⟨_, (N _ m1).1, rfl, _, rfl⟩
  have h2 : s.heap.IsList b its2 := ⟨_, (N _ m2).1, rfl, _, rfl⟩
  by_cases hz : its.size = its2.size
  · refine RcAt.lists (e := fun j => decide (l1.getD j [] = l2.getD j [])) h1 h2 hz hu (fun j h1 h2 => made_eqs M1 M2 _ _ j h1 h2) Pg w E Q ?_
    rw [M1.size, made_all (by rw [← M1.size, ← M2.size]; exact hz)]; exact h
  · refine RcAt.lists_lengths h1 h2 (by simpa using hz) hu Pg w E Q ?_
    rwa [decide_eq_false (fun e => hz (by rw [M1.size, M2.size, e]))] at h
theorem ne_made_K {a b : Addr} {its its2 : Array Value} {c c2 : Nat} {l1 l2 : List (List Int)} {Q : Value → Shared → Prop} (N : News h₀ L s.heap news) (m1 : (a, listO its c) ∈ news) (m2 : (b, listO its2 c2) ∈ news) (M1 : Made its l1) (M2 : Made its2 l2) (hu : A.units < cLine)
    (h : Q (.bool (!decide (l1 = l2))) s) : wpAny (model Pg w) A (compareOp .NotEq (.ref a) (.ref b)) Q E s := by
  have h1 : s.heap.IsList a its := ⟨_, (N _ m1).1, rfl, _, rfl⟩
  have h2 : s.heap.IsList b its2 := ⟨_, (N _ m2).1, rfl, _, rfl⟩
  by_cases hz : its.size = its2.size
  · refine RcNeAt.lists (e := fun j => decide (l1.getD j [] = l2.getD j [])) h1 h2 hz hu (fun j h1 h2 => made_eqs M1 M2 _ _ j h1 h2) Pg w E Q ?_
    rw [M1.size, made_all (by rw [← M1.size, ← M2.size]; exact hz)]; exact h
  · refine RcNeAt.lists_lengths h1 h2 (by simpa using hz) hu Pg w E Q ?_
    rwa [decide_eq_false (fun e => hz (by rw [M1.size, M2.size, e]))] at h
theorem in_made_K {D : Addr} {its : Array Value} {c : Nat} {x : Array UInt8} {t : Tok} {ks : List Int} {kss : List (List Int)} {Q : Value → Shared → Prop} (N : News h₀ L s.heap news) (hm : (D, listO its c) ∈ news) (M : Made its kss) (hk : KBw.bInts x = ks) (h : Q (.bool (kss.contains ks)) s) :
    wpAny (model Pg w) A (compareOp .In (.bytes x t) (.ref D)) Q E s := in_listB (N _ hm).1 M.b M.c hk h
theorem notin_made_K {D : Addr} {its : Array Value} {c : Nat} {x : Array UInt8} {t : Tok} {ks : List Int} {kss : List (List Int)} {Q : Value → Shared → Prop} (N : News h₀ L s.heap news) (hm : (D, listO its c) ∈ news) (M : Made its kss) (hk : KBw.bInts x = ks) (h : Q (.bool (!kss.contains ks)) s) :
    wpAny (model Pg w) A (compareOp .NotIn (.bytes x t) (.ref D)) Q E s := notIn_listB (N _ hm).1 M.b M.c hk h
theorem count_made_K {D : Addr} {its : Array Value} {c : Nat} {x : Array UInt8} {t : Tok} {ks : List Int} {kss : List (List Int)} {Q : Value → Shared → Prop} (N : News h₀ L s.heap news) (hm : (D, listO its c) ∈ news) (M : Made its kss) (hk : KBw.bInts x = ks) (h : ∀ t, Q (.int (kss.count ks : Nat) t) { s with toks := s.toks + 1 }) :
    wpAny (model Pg w) A (call (.builtin "list.count") [.ref D, .bytes x t]) Q E s := by
  refine call_meets PySem.F.slot_list_count ⟨_, (N _ hm).1, rfl⟩ PySem.F.entry_list_count (PySem.F.args_list_count_2 _ _) (list_countAt D its c none #[] (.bytes x t) (fun y => decide (bInt? y = KBw.bInts x))) ⟨(N _ hm).1, fun y hy => (allB M.b y hy).at _ _, ?_⟩
  have e : its.toList.countP (fun y => decide (bInt? y = KBw.bInts x)) = kss.count ks := by
    rw [← M.c, List.count, List.countP_map, hk]
    refine List.countP_congr fun y _ => ?_
    show decide (bInt? y = ks) = true ↔ (bInt? y == ks) = true
    rw [decide_eq_true_eq, beq_iff_eq]
  rw [e]
  exact h _
theorem len_made_K {D : Addr} {its : Array Value} {c : Nat} {kss : List (List Int)} {Q : Value → Shared → Prop} (N : News h₀ L s.heap news) (hm : (D, listO its c) ∈ news) (M : Made its kss) (hz : kss.length ≤ 1000) (h : ∀ t tk, Q (.int (kss.length : Nat) t) { s with toks := tk }) :
    wpAny (model Pg w) A (call (.builtin "len") [.ref D]) Q E s := by
  refine call_len_list ⟨_, (N _ hm).1, rfl, _, rfl⟩ (by rw [M.size]; omega) ?_
  rw [M.size]; exact h _ _
theorem countM_K {D : Addr} {its : Array Value} {c : Nat} {pl : Sem Bool} {Q : Value × List Value → Shared → Prop} (N : News h₀ L s.heap news) (hm : (D, listO its c) ∈ news) (h : Q (.builtin "list.count", [.ref D]) s) : wpAny (model Pg w) A (getMethod (.ref D) "count" pl) Q E s :=
  getMethod_builtin ⟨_, (N _ hm).1, rfl⟩ PySem.F.plainAttrs_list PySem.F.slot_list_count PySem.F.type_list_count (fun a e => by cases e; exact ⟨_, (N _ hm).1, rfl⟩) h
/-- a name of the frame's cell, within a comprehension -/
theorem name_freeK {ph : Str} {pp : Pos} {C ca : Addr} {oc : Obj} {v : Value} {Q : Value → Shared → Prop} (hkind : scope.kind = .function) (hph : (compEnvC scope cl C env).kindOf ph = some .cell) (hc : cl.lookup ph = some ca) (N : News h₀ L s.heap news) (hm : (ca, oc) ∈ news) (hoc : oc.data = .cell (some v)) (hd : (ph == ("__debug__" : Str)) = false) (h : Q v s) :
    wpAny (model Pg w) A (eval (.Name ph pp) (compEnvC scope cl C env)) Q E s :=
  wpAny_Name (wpAny_loadName_cell (env := compEnvC scope cl C env) (by simp [compEnvC, relabel, hkind]) hph hc ⟨oc, (N _ hm).1, hoc⟩ h) hd
/-- a cut of a made list from its start -/
theorem pick_upto (its : Array Value) (k : Nat) : slicePick its none (some (k : Int)) none = (its.toList.take k).toArray := by
  have e : sliceBounds none (some (k : Int)) none its.size = (((0 : Nat) : Int), ((min k its.size : Nat) : Int), 1) := by
    simp only [sliceBounds, Option.getD_none, show (1 : Int) > 0 by decide, if_true, if_neg (show ¬ ((k : Int) < 0) by omega)]
    congr 1
    congr 1
    omega
  rw [kmk_pick_nat _ e, List.drop_zero, Nat.sub_zero]
  have := kmk_take_min its.toList k
  rw [Array.length_toList] at this
  rw [this]
theorem Made.take {its : Array Value} {kss : List (List Int)} (M : Made its kss) (k : Nat) : Made (its.toList.take k).toArray (kss.take k) := by
  refine ⟨?_, ?_, fun x hx => M.n x (List.mem_of_mem_take hx)⟩
  · have hb := M.b
    rw [List.all_eq_true] at hb ⊢
    exact fun v hv => hb v (List.mem_of_mem_take hv)
  · rw [← M.c]; exact List.map_take
theorem cut_made_K {value slice : Expr} {l : Addr} {its : Array Value} {ci : Nat} {kss : List (List Int)} {vu : Value} {k : Nat} {t : Tok} {Q : Value → Shared → Prop} (F : Fr h₀ L s.heap m) (N : News h₀ L s.heap news) (hm : (l, listO its ci) ∈ news) (M : Made its kss) (hz : kss.length ≤ 1000) (hvu : vu = .int (k : Int) t)
    (h : ∀ D h' its2, Fr h₀ L h' m → News h₀ L h' ((D, listO its2 0) :: news) → (∀ p ∈ news, p.1 ≠ D) → Made its2 (kss.take k) → Q (.ref D) { s with heap := h' })
    (hs : subscripted slice false (.ref l) (.ref s.heap.objs.size) = operate [.ref s.heap.objs.size, .ref l] (getItem (.ref l) (.ref s.heap.objs.size))) (ht : ∀ r, letTemporaryGo value (.ref l) r = pure ()) :
    wpAny (model Pg w) A (subscriptTail value slice (.ref l) (.ref s.heap.objs.size)) Q E { s with heap := s.heap.push { cls := .type "slice", data := .fields #[.none, vu, .none] } } := by
  subst hvu
  refine kmk_slice F N ⟨_, (N _ hm).1, rfl, _, rfl⟩ .none (.int _ _) (fun D h' F' N' l1 => h D h' _ F' ?_ (fun p hp => Nat.ne_of_lt (l1 p hp)) (M.take k)) hs ht (by rw [M.size]; exact Nat.le_trans hz (by decide))
  rw [← pick_upto]; exact N'
/-- a cut of the block -/
theorem cut_block_K {value slice : Expr} {l : Addr} {items : List Value} {cb : Nat} {vu : Value} {k : Nat} {t : Tok} {Q : Value → Shared → Prop} (F : Fr h₀ L s.heap m) (N : News h₀ L s.heap news) (hl : h₀.get? l = some (listO items.toArray cb)) (hz : items.length ≤ 1000) (hvu : vu = .int (k : Int) t)
    (h : ∀ D h', Fr h₀ L h' m → News h₀ L h' ((D, listO (items.take k).toArray 0) :: news) → (∀ p ∈ news, p.1 ≠ D) → Q (.ref D) { s with heap := h' })
    (hs : subscripted slice false (.ref l) (.ref s.heap.objs.size) = operate [.ref s.heap.objs.size, .ref l] (getItem (.ref l) (.ref s.heap.objs.size))) (ht : ∀ r, letTemporaryGo value (.ref l) r = pure ()) :
    wpAny (model Pg w) A (subscriptTail value slice (.ref l) (.ref s.heap.objs.size)) Q E { s with heap := s.heap.push { cls := .type "slice", data := .fields #[.none, vu, .none] } } := by
  subst hvu
  refine kmk_slice F N ⟨_, F.keep _ _ hl, rfl, _, rfl⟩ .none (.int _ _) (fun D h' F' N' l1 => h D h' F' ?_ (fun p hp => Nat.ne_of_lt (l1 p hp))) hs ht (by rw [List.size_toArray]; exact Nat.le_trans hz (by decide))
  rw [pick_upto] at N'; exact N'
end

end
section
open PySem PySem.W PyProof.Rows PySem.Calls PySem.Spec PyProof.Rows.LCg PySem.SeqAt
set_option Elab.async false
set_option maxRecDepth 100000
set_option maxHeartbeats 4000000
set_option linter.unusedVariables false
noncomputable def SaidO (w : World) (o : Obj) (f : List Int → Option (List Int)) : Prop :=
  ∃ kvs, o.IsDictOf (bytesKind Pg w) kvs ∧ ∀ (kb : Array UInt8) xs, f (KBw.bInts kb) = some xs → ∃ b t, valueAt kvs kb.toList = some (.bytes b t) ∧ KBw.bInts b = xs ∧ xs.length ≤ 1000
theorem bInts_inj {a b : Array UInt8} (h : KBw.bInts a = KBw.bInts b) : a.toList = b.toList := bl_inj h
theorem kv_nodup {bn bx : Nat → Array UInt8} {tx : Nat → Tok} {n : Nat} (h : ((List.range n).map fun j => KBw.bInts (bn j)).Nodup) : ((kvOf bn bx tx n).map (·.1)).Nodup := by
  unfold kvOf
  rw [List.map_map]
  have e : ((List.range n).map fun j => KBw.bInts (bn j)) = ((List.range n).map fun j => (bn j).toList).map bl := by rw [List.map_map]; rfl
  rw [e] at h
  exact List.Pairwise.of_map bl (fun a b h e => h (congrArg bl e)) h
theorem lookup_rev {l : List Pr} {k x : List Int} (h : l.reverse.lookup k = some x) : (k, x) ∈ l := by
  obtain ⟨l₁, l₂, e1, _⟩ := List.lookup_eq_some_iff.mp h
  have : (k, x) ∈ l.reverse := by rw [e1]; simp
  exact List.mem_reverse.mp this
theorem value_of {bn bx : Nat → Array UInt8} {tx : Nat → Tok} {n j : Nat} (hj : j < n) (hn : ((kvOf bn bx tx n).map (·.1)).Nodup) : valueAt (kvOf bn bx tx n) (bn j).toList = some (.bytes (bx j) (tx j)) := by
  have hm : ((bn j).toList, Value.bytes (bx j) (tx j)) ∈ kvOf bn bx tx n := List.mem_map.mpr ⟨j, List.mem_range.mpr hj, rfl⟩
  generalize kvOf bn bx tx n = l at hn hm
  unfold valueAt
  induction l with
  | nil => cases hm
  | cons p r ih =>
    rw [List.map_cons, List.nodup_cons] at hn
    rw [List.find?_cons]
    by_cases e : p.1 = (bn j).toList
    · rw [decide_eq_true e]
      rcases List.mem_cons.mp hm with q | q
      · rw [← q]; rfl
      · exact absurd (List.mem_map.mpr ⟨_, q, e.symm⟩) hn.1
    · rw [decide_eq_false e]
      rcases List.mem_cons.mp hm with q | q
      · exact absurd (by rw [← q]) e
      · exact ih hn.2 q
section
variable {w : World} {A : Around} {E : Value → Shared → Prop} {h₀ : Heap} {L : Addr} {m : Str → Option Value} {news : List (Addr × Obj)} {s : Shared} {Lp : List Pr}
noncomputable def badN (Lp : List Pr) (n : List Int) : Bool := !allowedL.contains n || !decide ((specL Lp).count n = 1)
theorem spec_nodup (h : (specL Lp).filter (badN Lp) = []) : (specL Lp).Nodup ∧ ∀ n ∈ specL Lp, n ∈ allowedL := by
  have : A2 [] (specL Lp) = true := by rw [A2_filter]; exact List.isEmpty_iff.mpr h
  obtain ⟨a, _, b⟩ := A2_iff.mp this
  exact ⟨a, b⟩
theorem dict_said_K {D : Addr} {items : List Value} {N k : Nat} {Q : Value → Shared → Prop} (hh : A.handled = none) (F : Fr h₀ L s.heap m) (Nw : News h₀ L s.heap news) (hm : (D, listO (items.take k).toArray 0) ∈ news) (hi : ∀ v ∈ items, ItemH h₀ N v) (hN : N ≤ 1000) (hz : items.length ≤ 1000)
    (hL : items.map (ctH h₀) = Lp) (hk : k = (specL Lp).length) (h1 : (Lp.map (·.1)).take (specL Lp).length = specL Lp) (h2' : decide ((specL Lp).filter (badN Lp) = []) = true)
    (ret : ∀ d o h' tk, Fr h₀ L h' m → News h₀ L h' ((d, o) :: news) → SaidO w o (saidL Lp) → Q (.ref d) { s with heap := h', toks := tk }) :
    wpAny (model Pg w) A (call (.type "dict") [.ref D]) Q E s := by
  have h2 := of_decide_eq_true h2'
  have hi' : ∀ v ∈ items.take k, ItemH h₀ N v := fun v hv => hi v (List.mem_of_mem_take hv)
  obtain ⟨Ts, bn, bx, tn, tx, cn, R⟩ := rows_of hi'
  have hLk : (items.take k).map (ctH h₀) = Lp.take (specL Lp).length := by rw [List.map_take, hL, hk]
  have hnd : ((List.range (items.take k).length).map fun j => KBw.bInts (bn j)).Nodup := by
    have e : ((List.range (items.take k).length).map fun j => KBw.bInts (bn j)) = specL Lp := by
      rw [← h1, ← List.map_take, ← hLk, R.ct, List.map_map]; rfl
    rw [e]; exact (spec_nodup h2).1
  have hkv := kv_nodup (bx := bx) (tx := tx) hnd
  refine dict_pairs (n := (items.take k).length) (Ts := Ts) (bn := bn) (bx := bx) (tn := tn) (tx := tx) (cn := cn) hh (Nw _ hm).1 (by simp) (fun j hj => by simpa using R.it j hj) (fun j hj => F.keep _ _ (R.ob j hj)) (by rw [List.length_take]; omega) hkv fun d h' tk x hd hdo => ?_
  obtain ⟨o, ho, hdict⟩ := Heap.dictOf_iff.mp hdo
  refine ret d o h' tk (Ext.fr x F) (news_new F Nw x hd ho) ⟨_, hdict, fun kb xs hf => ?_⟩
  unfold saidL at hf
  have hmem := lookup_rev hf
  rw [← hLk, R.ct] at hmem
  obtain ⟨j, hj, e⟩ := List.mem_map.mp hmem
  have hj := List.mem_range.mp hj
  have e1 : (bn j).toList = kb.toList := bInts_inj (congrArg Prod.fst e)
  have e2 : KBw.bInts (bx j) = xs := congrArg Prod.snd e
  exact ⟨bx j, tx j, by rw [← e1]; exact value_of hj hkv, e2, by rw [← e2]; exact Nat.le_trans (R.lx j hj) hN⟩
theorem said_K {value slice : Expr} {d : Addr} {o : Obj} {kb : Array UInt8} {kt : Tok} {kn : List Int} {Q : Value → Shared → Prop} (N : News h₀ L s.heap news) (hm : (d, o) ∈ news) (S : SaidO w o (saidL Lp)) (h1 : (Lp.map (·.1)).take (specL Lp).length = specL Lp)
    (hk : KBw.bInts kb = kn) (h58 : kn.getD 0 0 = 58) (hc : (specL Lp).contains kn = true)
    (h : ∀ b t tk xs, KBw.bInts b = xs → xs.length ≤ 1000 → saidL Lp kn = some xs → Q (.bytes b t) { s with toks := tk })
    (hs : subscripted slice false (.ref d) (.bytes kb kt) = operate [.ref d, .bytes kb kt] (getItem (.ref d) (.bytes kb kt)) := by with_unfolding_all rfl) (hg : ∀ r, letTemporaryGo value (.ref d) r = pure () := by intro _; rfl) :
    wpAny (model Pg w) A (subscriptTail value slice (.ref d) (.bytes kb kt)) Q E s := by
  obtain ⟨kvs, hdict, hv⟩ := S
  have hdo : s.heap.DictOf (bytesKind Pg w) d kvs := Heap.dictOf_iff.mpr ⟨o, N.get hm, hdict⟩
  have ha : A1 Lp = true := decide_eq_true h1
  rw [said_has h58 ha] at hc
  obtain ⟨xs, hxs⟩ := Option.isSome_iff_exists.mp hc
  obtain ⟨b, t, e1, e2, e3⟩ := hv kb xs (by rw [hk]; exact hxs)
  exact subscriptTail_builtin hdo.typeIs slot_dict_getitem.lookup (wpAny_getItem_of (k := kb.toList) is_bytes hdo.mapOf e1 (h b t _ xs e2 e3 hxs)) hs hg
/-- [a for a in special if a not in six or special.count(a) != 1] -/
theorem comp_bad {scope : Scope} {pos : Pos} {env : Env} {cl : List (Str × Addr)} {x xe : Str} {px pe : Pos} {iter : Expr} {ifs : List Expr} {ax : Addr} {its : Array Value} {ci : Nat} {Q : Value → Shared → Prop} (hh : A.handled = none)
    (F : Fr h₀ L s.heap m) (N' : News h₀ L s.heap news) (hiter : ∀ Q' : Value → Shared → Prop, Q' (.ref ax) s → wpAny (model Pg w) A (eval iter env) Q' E s)
    (hm : (ax, listO its ci) ∈ news) (M : Made its (specL Lp)) (hz : (specL Lp).length ≤ 1000)
    (hclos : closureFor scope env = pure cl) (hcell : ∀ y ∈ scope.names, y.2 ≠ .cell) (hkind : scope.kind = .function)
    (hnames : ∀ y ∈ scope.names, y.2 = .local → scope.names.lookup y.1 = some .local) (hs : ∀ x, foldedSetIterable iter env x = pure x)
    (hx : scope.names.lookup x = some .local) (hxe : xe = x) (hd : (x == ("__debug__" : Str)) = false)
    (tst : ∀ C m₃ h₃ tk₃ (E' : Value → Shared → Prop) (n : Array UInt8) tn ks, ks ∈ specL Lp → ks.length ≤ 1000 → KBw.bInts n = ks → m₃ x = some (.bytes n tn) → CSt h₀ L m news s.heap C m₃ h₃ →
      wpAny (model Pg w) A (testsOf ifs (compEnvC scope cl C env)) (fun ok s₅ => ok = badN Lp ks ∧ KbN C m₃ { s with heap := h₃, toks := tk₃ } s₅) E' { s with heap := h₃, toks := tk₃ })
    (fin : ∀ D h' tk ys c, Fr h₀ L h' m → News h₀ L h' ((D, listO ys c) :: news) → (∀ p ∈ news, p.1 ≠ D) → Made ys ((specL Lp).filter (badN Lp)) → Q (.ref D) { s with heap := h', toks := tk }) :
    wpAny (model Pg w) A (eval (.ListComp (.Name xe pe) [⟨.Name x px, iter, ifs, 0⟩] scope pos) env) Q E s :=
  comp_made (badN Lp) hh F N' hiter hm M hz hclos hcell hkind hnames hs hx hxe hd tst fin
end

end
section
open PySem PySem.W PyProof.Rows PySem.Calls PySem.W.X
set_option Elab.async false
set_option maxRecDepth 100000
set_option maxHeartbeats 2000000
set_option linter.unusedVariables false
set_option pp.deepTerms false
set_option pp.maxSteps 6000
theorem all64 {vs : List Value} (h : (vs.map bInt?).all (fun k => decide (k.length ≤ 64)) = true) : ∀ k ∈ vs.map bInt?, k.length ≤ 64 := fun k hk => of_decide_eq_true (List.all_eq_true.mp h k hk)
theorem made_all64 {h : Heap} {D : Addr} {its : Array Value} {c : Nat} (_ : h.get? D = some (listO its c)) (hb : its.toList.all isB = true) (hk : (its.toList.map bInt?).all (fun k => decide (k.length ≤ 64)) = true) : Made its (its.toList.map bInt?) :=
  ⟨hb, rfl, fun k hm => Nat.le_trans (all64 hk k hm) (by decide)⟩
theorem Names_c {w : World} {mean : ExcName → Option Value} {mg mb : Str → Option Value} {b0 : Heap} {outer : List Env} {dp un : Nat} {gd : Option (List Code)} {s : Shared} {Q E : Value → Shared → Prop}
    (G : Gd w mean mg mb b0 outer s.heap) (hdp : dp + 4 < recursionLimit) (hun : un + 30 < cLine)
    (ret : ∀ D h' tk its c l, Ext s.heap h' → s.heap.get? D = none → h'.get? D = some (listO its c) → Made its l → l.length = 20 → (∀ k ∈ l, k.length ≤ 64) → Q (.ref D) { s with heap := h', toks := tk }) :
    wpAny (model Pg w) (AZ dp un gd outer) (call (.ref 267) []) Q E s := by
  k_with_none
  k_with "getMethod bytes" => (k_here; (with_reducible first | refine gm_lower ?_ | refine gm_strip ?_ | refine gm_find ?_))
  k_with "pyReprObj" => (k_here; (refine repr_K (by kba_ints) (by kba_size) ?_); intro _ _ _ _; (try dsimp only))
  k_with "call builtin:bytes.lower" => (k_here; (refine lower_K (by kba_ints) (by kba_size) ?_); intro _ _ _ _; (try dsimp only))
  k_with "call builtin:bytes.find" => (k_here; (refine find_K (by kba_ints) (by first | assumption | rfl | decide +kernel) ?_); intro _ _ _ _; (try dsimp only))
  k_with "compareOp Eq" => (k_here; (with_reducible show wpAny _ _ (compareOp CmpOp.Eq (Value.bytes _ _) (Value.bytes _ _)) _ _ _); (refine eqB_K (by kba_ints) (by kba_ints) ?_))
  k_with "compareOp NotEq" => (k_here; (with_reducible show wpAny _ _ (compareOp CmpOp.NotEq (Value.bytes _ _) (Value.bytes _ _)) _ _ _); (refine neB_K (by kba_ints) (by kba_ints) ?_))
  k_with "compareOp Eq bytes bytes" => (k_here; (refine eqB_K (by kba_ints) (by kba_ints) ?_))
  k_with "compareOp NotEq bytes bytes" => (k_here; (refine neB_K (by kba_ints) (by kba_ints) ?_))
  k_with "compareOp In bytes ref" => (k_here; k_dflt (first | (refine' in_tupB (kss := ownL) (tupK ?qX ?qF ?qh) ?qhb ?qhit ?qhk ?_; (case qX => assumption); (case qF => assumption); (case qh => k_is); (case qhb => exact rfl); (case qhit => exact rfl); (case qhk => kba_ints)) | (refine' in_tupB (kss := allowedL) (tupK ?qX ?qF ?qh) ?qhb ?qhit ?qhk ?_; (case qX => assumption); (case qF => assumption); (case qh => k_is); (case qhb => exact rfl); (case qhit => exact rfl); (case qhk => kba_ints))))
  k_with "compareOp NotIn bytes ref" => (k_here; k_dflt (refine' notIn_tupB (kss := allowedL) (tupK ?qX ?qF ?qh) ?qhb ?qhit ?qhk ?_; (case qX => assumption); (case qF => assumption); (case qh => k_is); (case qhb => exact rfl); (case qhit => exact rfl); (case qhk => kba_ints)))
  k_with "subscriptTail" => (k_here; (with_reducible show wpAny _ _ (subscriptTail _ _ (Value.bytes _ _) (Value.int _ _)) _ _ _); (first | refine item0_A (by kba_ints) (by omega) (by omega) ?_ | refine itemL_A (by kba_ints) (by omega) (by omega) ?_); intro _ _ _ _ _ _; (try dsimp only))
  k_with "exec For" => (k_here; (with_unfolding_all refine' For_mine ?qF ?qhE ?qhx ?qhp ?qhs ?_; (case qF => assumption); (case qhE => assumption); (case qhx => exact rfl); (case qhp => exact rfl); (case qhs => exact fun _ => rfl); k_whole))
  k_with "exec For Name Name cons nil" => (k_here; (with_unfolding_all refine' For_mine ?qF ?qhE ?qhx ?qhp ?qhs ?_; (case qF => assumption); (case qhE => assumption); (case qhx => exact rfl); (case qhp => exact rfl); (case qhs => exact fun _ => rfl); k_whole))
  k_with "subscriptTail" => (k_here; (with_reducible show wpAny _ _ (subscriptTail _ _ (Value.ref _) (Value.int _ _)) _ _ _); (first | (refine pair0_A (by k_asm) (by assumption) ?_) | (refine pair1_A (by k_asm) (by assumption) ?_)))
  k_with "compareOp In bytes bytes" => (k_here; k_dflt (refine' inb_K ?qhk ?qhl ?qhh ?qF ?qN ?_; (case qhk => kba_ints); (case qhl => exact rfl); (case qhh => exact rfl); (case qF => k_asm); (case qN => k_asm)); intro _ _ _ _; (try dsimp only))
  k_with "eval Name" => (k_here; (with_reducible show wpAny _ _ (eval (Expr.Name _ _) (compEnvC _ _ _ _)) _ _ _); k_dflt (refine' name_local rfl rfl (by decide) (Fr.ns (by k_asm)) (by with_reducible assumption) ?_); (try dsimp only))
  have X := G.X
  have T := G.T
  have kret : KeepP _ := ret
  clear ret
  refine wpAny_call ?_
  k_dflt (refine' enter (binds := []) X T.nolimit ?ho ?hcd ?hroom ?hbind ?hloc ?_ ?c5 ?c6 ?c7 ?c8; (case ho => k_is); (case hcd => k_is); (case hroom => show dp < recursionLimit; omega); (case hbind => exact rfl); (case hloc => exact locs rfl); (case c5 => decide); (case c6 => exact rfl); (case c7 => exact rfl); (case c8 => exact rfl); k_whole; intro L' h' F' N')
  k_steps
  rename_i l4 h4 F4 N4 _
  exact kret l4 h4 _ _ 0 _ F4.keep (N4 _ (.head _)).2.2 (N4 _ (.head _)).1 (made_all64 (N4 _ (.head _)).1 rfl rfl) rfl (all64 rfl)
theorem Values_c {w : World} {mean : ExcName → Option Value} {mg mb : Str → Option Value} {b0 : Heap} {outer : List Env} {dp un : Nat} {gd : Option (List Code)} {s : Shared} {Q E : Value → Shared → Prop}
    (G : Gd w mean mg mb b0 outer s.heap) (hdp : dp + 4 < recursionLimit) (hun : un + 30 < cLine)
    (ret : ∀ D h' tk its c l, Ext s.heap h' → s.heap.get? D = none → h'.get? D = some (listO its c) → Made its l → l.length = 16 → (∀ k ∈ l, k.length ≤ 64) → Q (.ref D) { s with heap := h', toks := tk }) :
    wpAny (model Pg w) (AZ dp un gd outer) (call (.ref 274) []) Q E s := by
  k_with_none
  k_with "getMethod bytes" => (k_here; (with_reducible first | refine gm_lower ?_ | refine gm_strip ?_ | refine gm_find ?_))
  k_with "pyReprObj" => (k_here; (refine repr_K (by kba_ints) (by kba_size) ?_); intro _ _ _ _; (try dsimp only))
  k_with "call builtin:bytes.lower" => (k_here; (refine lower_K (by kba_ints) (by kba_size) ?_); intro _ _ _ _; (try dsimp only))
  k_with "call builtin:bytes.find" => (k_here; (refine find_K (by kba_ints) (by first | assumption | rfl | decide +kernel) ?_); intro _ _ _ _; (try dsimp only))
  k_with "compareOp Eq" => (k_here; (with_reducible show wpAny _ _ (compareOp CmpOp.Eq (Value.bytes _ _) (Value.bytes _ _)) _ _ _); (refine eqB_K (by kba_ints) (by kba_ints) ?_))
  k_with "compareOp NotEq" => (k_here; (with_reducible show wpAny _ _ (compareOp CmpOp.NotEq (Value.bytes _ _) (Value.bytes _ _)) _ _ _); (refine neB_K (by kba_ints) (by kba_ints) ?_))
  k_with "compareOp Eq bytes bytes" => (k_here; (refine eqB_K (by kba_ints) (by kba_ints) ?_))
  k_with "compareOp NotEq bytes bytes" => (k_here; (refine neB_K (by kba_ints) (by kba_ints) ?_))
  k_with "compareOp In bytes ref" => (k_here; k_dflt (first | (refine' in_tupB (kss := ownL) (tupK ?qX ?qF ?qh) ?qhb ?qhit ?qhk ?_; (case qX => assumption); (case qF => assumption); (case qh => k_is); (case qhb => exact rfl); (case qhit => exact rfl); (case qhk => kba_ints)) | (refine' in_tupB (kss := allowedL) (tupK ?qX ?qF ?qh) ?qhb ?qhit ?qhk ?_; (case qX => assumption); (case qF => assumption); (case qh => k_is); (case qhb => exact rfl); (case qhit => exact rfl); (case qhk => kba_ints))))
  k_with "compareOp NotIn bytes ref" => (k_here; k_dflt (refine' notIn_tupB (kss := allowedL) (tupK ?qX ?qF ?qh) ?qhb ?qhit ?qhk ?_; (case qX => assumption); (case qF => assumption); (case qh => k_is); (case qhb => exact rfl); (case qhit => exact rfl); (case qhk => kba_ints)))
  k_with "subscriptTail" => (k_here; (with_reducible show wpAny _ _ (subscriptTail _ _ (Value.bytes _ _) (Value.int _ _)) _ _ _); (first | refine item0_A (by kba_ints) (by omega) (by omega) ?_ | refine itemL_A (by kba_ints) (by omega) (by omega) ?_); intro _ _ _ _ _ _; (try dsimp only))
  k_with "exec For" => (k_here; (with_unfolding_all refine' For_mine ?qF ?qhE ?qhx ?qhp ?qhs ?_; (case qF => assumption); (case qhE => assumption); (case qhx => exact rfl); (case qhp => exact rfl); (case qhs => exact fun _ => rfl); k_whole))
  k_with "exec For Name Name cons nil" => (k_here; (with_unfolding_all refine' For_mine ?qF ?qhE ?qhx ?qhp ?qhs ?_; (case qF => assumption); (case qhE => assumption); (case qhx => exact rfl); (case qhp => exact rfl); (case qhs => exact fun _ => rfl); k_whole))
  k_with "subscriptTail" => (k_here; (with_reducible show wpAny _ _ (subscriptTail _ _ (Value.ref _) (Value.int _ _)) _ _ _); (first | (refine pair0_A (by k_asm) (by assumption) ?_) | (refine pair1_A (by k_asm) (by assumption) ?_)))
  k_with "compareOp In bytes bytes" => (k_here; k_dflt (refine' inb_K ?qhk ?qhl ?qhh ?qF ?qN ?_; (case qhk => kba_ints); (case qhl => exact rfl); (case qhh => exact rfl); (case qF => k_asm); (case qN => k_asm)); intro _ _ _ _; (try dsimp only))
  k_with "eval Name" => (k_here; (with_reducible show wpAny _ _ (eval (Expr.Name _ _) (compEnvC _ _ _ _)) _ _ _); k_dflt (refine' name_local rfl rfl (by decide) (Fr.ns (by k_asm)) (by with_reducible assumption) ?_); (try dsimp only))
  have X := G.X
  have T := G.T
  have kret : KeepP _ := ret
  clear ret
  refine wpAny_call ?_
  k_dflt (refine' enter (binds := []) X T.nolimit ?ho ?hcd ?hroom ?hbind ?hloc ?_ ?c5 ?c6 ?c7 ?c8; (case ho => k_is); (case hcd => k_is); (case hroom => show dp < recursionLimit; omega); (case hbind => exact rfl); (case hloc => exact locs rfl); (case c5 => decide); (case c6 => exact rfl); (case c7 => exact rfl); (case c8 => exact rfl); k_whole; intro L' h' F' N')
  k_steps
  rename_i l4 h4 F4 N4 _
  exact kret l4 h4 _ _ 0 _ F4.keep (N4 _ (.head _)).2.2 (N4 _ (.head _)).1 (made_all64 (N4 _ (.head _)).1 rfl rfl) rfl (all64 rfl)
theorem one_int {c : Int} (h : ((c.toNat.toUInt8.toNat : Nat) : Int) = c) : KBw.bInts #[c.toNat.toUInt8] = [c] := by
  show [((c.toNat.toUInt8.toNat : Nat) : Int)] = [c]
  rw [h]
theorem modI {prog : Program} {w : World} {A : Around} {s : Shared} {Q E : Value → Shared → Prop} {a b : Int} {t u : Tok} (hb : b ≠ 0) (h : ∀ t k, Q (.int (a.fmod b) t) { s with toks := k }) : wpAny (model prog w) A (binaryOp .Mod (.int a t) (.int b u)) Q E s := mod_int' hb (h _ _)
theorem fdivI {prog : Program} {w : World} {A : Around} {s : Shared} {Q E : Value → Shared → Prop} {a b : Int} {t u : Tok} (hb : b ≠ 0) (hp : Builtin.divisionGoesByPylong a b = false) (h : ∀ t k, Q (.int (a.fdiv b) t) { s with toks := k }) : wpAny (model prog w) A (binaryOp .FloorDiv (.int a t) (.int b u)) Q E s := floordiv_int hb (h _ _) (.inl hp)
structure IntsL (its : Array Value) : Prop where
  sz : its.size = 18
  all : ∀ v ∈ its.toList, ∃ n t, v = .int n t ∧ 0 ≤ n ∧ n < 256
theorem Octets_c {w : World} {mean : ExcName → Option Value} {mg mb : Str → Option Value} {b0 : Heap} {outer : List Env} {dp un : Nat} {gd : Option (List Code)} {s : Shared} {Q E : Value → Shared → Prop}
    (G : Gd w mean mg mb b0 outer s.heap) (hdp : dp + 4 < recursionLimit) (hun : un + 30 < cLine)
    (ret : ∀ D h' tk its c, Ext s.heap h' → s.heap.get? D = none → h'.get? D = some (listO its c) → IntsL its → Q (.ref D) { s with heap := h', toks := tk }) :
    wpAny (model Pg w) (AZ dp un gd outer) (call (.ref 281) []) Q E s := by
  k_with_none
  k_with "getMethod bytes" => (k_here; (with_reducible first | refine gm_lower ?_ | refine gm_strip ?_ | refine gm_find ?_))
  k_with "pyReprObj" => (k_here; (refine repr_K (by kba_ints) (by kba_size) ?_); intro _ _ _ _; (try dsimp only))
  k_with "call builtin:bytes.lower" => (k_here; (refine lower_K (by kba_ints) (by kba_size) ?_); intro _ _ _ _; (try dsimp only))
  k_with "call builtin:bytes.find" => (k_here; (refine find_K (by kba_ints) (by first | assumption | rfl | decide +kernel) ?_); intro _ _ _ _; (try dsimp only))
  k_with "compareOp Eq" => (k_here; (with_reducible show wpAny _ _ (compareOp CmpOp.Eq (Value.bytes _ _) (Value.bytes _ _)) _ _ _); (refine eqB_K (by kba_ints) (by kba_ints) ?_))
  k_with "compareOp NotEq" => (k_here; (with_reducible show wpAny _ _ (compareOp CmpOp.NotEq (Value.bytes _ _) (Value.bytes _ _)) _ _ _); (refine neB_K (by kba_ints) (by kba_ints) ?_))
  k_with "compareOp Eq bytes bytes" => (k_here; (refine eqB_K (by kba_ints) (by kba_ints) ?_))
  k_with "compareOp NotEq bytes bytes" => (k_here; (refine neB_K (by kba_ints) (by kba_ints) ?_))
  k_with "compareOp In bytes ref" => (k_here; k_dflt (first | (refine' in_tupB (kss := ownL) (tupK ?qX ?qF ?qh) ?qhb ?qhit ?qhk ?_; (case qX => assumption); (case qF => assumption); (case qh => k_is); (case qhb => exact rfl); (case qhit => exact rfl); (case qhk => kba_ints)) | (refine' in_tupB (kss := allowedL) (tupK ?qX ?qF ?qh) ?qhb ?qhit ?qhk ?_; (case qX => assumption); (case qF => assumption); (case qh => k_is); (case qhb => exact rfl); (case qhit => exact rfl); (case qhk => kba_ints))))
  k_with "compareOp NotIn bytes ref" => (k_here; k_dflt (refine' notIn_tupB (kss := allowedL) (tupK ?qX ?qF ?qh) ?qhb ?qhit ?qhk ?_; (case qX => assumption); (case qF => assumption); (case qh => k_is); (case qhb => exact rfl); (case qhit => exact rfl); (case qhk => kba_ints)))
  k_with "subscriptTail" => (k_here; (with_reducible show wpAny _ _ (subscriptTail _ _ (Value.bytes _ _) (Value.int _ _)) _ _ _); (first | refine item0_A (by kba_ints) (by omega) (by omega) ?_ | refine itemL_A (by kba_ints) (by omega) (by omega) ?_); intro _ _ _ _ _ _; (try dsimp only))
  k_with "exec For" => (k_here; (with_unfolding_all refine' For_mine ?qF ?qhE ?qhx ?qhp ?qhs ?_; (case qF => assumption); (case qhE => assumption); (case qhx => exact rfl); (case qhp => exact rfl); (case qhs => exact fun _ => rfl); k_whole))
  k_with "exec For Name Name cons nil" => (k_here; (with_unfolding_all refine' For_mine ?qF ?qhE ?qhx ?qhp ?qhs ?_; (case qF => assumption); (case qhE => assumption); (case qhx => exact rfl); (case qhp => exact rfl); (case qhs => exact fun _ => rfl); k_whole))
  k_with "subscriptTail" => (k_here; (with_reducible show wpAny _ _ (subscriptTail _ _ (Value.ref _) (Value.int _ _)) _ _ _); (first | (refine pair0_A (by k_asm) (by assumption) ?_) | (refine pair1_A (by k_asm) (by assumption) ?_)))
  k_with "compareOp In bytes bytes" => (k_here; k_dflt (refine' inb_K ?qhk ?qhl ?qhh ?qF ?qN ?_; (case qhk => kba_ints); (case qhl => exact rfl); (case qhh => exact rfl); (case qF => k_asm); (case qN => k_asm)); intro _ _ _ _; (try dsimp only))
  k_with "eval Name" => (k_here; (with_reducible show wpAny _ _ (eval (Expr.Name _ _) (compEnvC _ _ _ _)) _ _ _); k_dflt (refine' name_local rfl rfl (by decide) (Fr.ns (by k_asm)) (by with_reducible assumption) ?_); (try dsimp only))
  k_with "binaryOp Mod int int" => (k_here; k_dflt (refine modI (by first | decide | omega) ?_); intro _ _; (try dsimp only))
  k_with "binaryOp FloorDiv int int" => (k_here; k_dflt (refine fdivI (by decide) (PyProof.noPylong_of_log2 (by decide +kernel)) ?_); intro _ _; (try dsimp only))
  k_with "binaryOp Add bytes bytes" => (k_here; k_dflt (refine' KBa.add_K ?qa ?qb ?qz ?_; (case qa => kba_ints); (case qb => first | exact one_int (by with_reducible assumption) | kba_ints); (case qz => (simp only [List.length_take, List.length_append, List.length_cons, List.length_nil, List.length_drop]; omega))); intro _ _ _; (try dsimp only))
  have X := G.X
  have T := G.T
  have kret : KeepP _ := ret
  clear ret
  refine wpAny_call ?_
  k_dflt (refine' enter (binds := []) X T.nolimit ?ho ?hcd ?hroom ?hbind ?hloc ?_ ?c5 ?c6 ?c7 ?c8; (case ho => k_is); (case hcd => k_is); (case hroom => show dp < recursionLimit; omega); (case hbind => exact rfl); (case hloc => exact locs rfl); (case c5 => decide); (case c6 => exact rfl); (case c7 => exact rfl); (case c8 => exact rfl); k_whole; intro L' h' F' N')
  k_steps
  rename_i l4 h4 F4 N4 _
  refine kret l4 h4 _ _ 0 F4.keep (N4 _ (.head _)).2.2 (N4 _ (.head _)).1 ⟨rfl, ?_⟩
  intro v hv
  repeat (first | (rcases List.mem_cons.mp hv with rfl | hv; exact ⟨_, _, rfl, by decide, by decide⟩) | cases hv)
theorem octets_K {w : World} {mean : ExcName → Option Value} {mg mb : Str → Option Value} {b0 : Heap} {outer : List Env} {dp un : Nat} {gd : Option (List Code)} {s : Shared} {Q E : Value → Shared → Prop} {h₀ : Heap} {L : Addr} {m : PySem.Str → Option Value} {news : List (Addr × Obj)}
    (F : Fr h₀ L s.heap m) (N : News h₀ L s.heap news) (G : Gd w mean mg mb b0 outer s.heap) (hdp : dp + 4 < recursionLimit) (hun : un + 30 < cLine)
    (ret : ∀ D h' tk its c, Fr h₀ L h' m → News h₀ L h' ((D, listO its c) :: news) → IntsL its → Q (.ref D) { s with heap := h', toks := tk }) :
    wpAny (model Pg w) (AZ dp un gd outer) (call (.ref 281) []) Q E s :=
  Octets_c G hdp hun fun D h' tk its c x hD hD' hi => ret D h' tk its c (Ext.fr x F) (news_new F N x hD hD') hi
theorem fmod_lo (a : Int) {b : Int} (hb : 0 < b) : 0 ≤ a.fmod b := Int.fmod_nonneg_of_pos a hb
theorem fmod_hi (a : Int) {b : Int} (hb : 0 < b) : a.fmod b < b := Int.fmod_lt_of_pos a hb
theorem itemI_K {w : World} {A : Around} {s : Shared} {Q E : Value → Shared → Prop} {h₀ : Heap} {L D : Addr} {news : List (Addr × Obj)} {its : Array Value} {c : Nat} {i : Int} {ti : Tok} {value slice : Expr}
    (N : News h₀ L s.heap news) (hm : (D, listO its c) ∈ news) (hi : IntsL its) (h0 : 0 ≤ i) (h1 : i < 18) (h : ∀ n t, 0 ≤ n → n < 256 → Q (.int n t) s)
    (hs : subscripted slice false (.ref D) (.int i ti) = operate [.ref D, .int i ti] (getItem (.ref D) (.int i ti)) := by with_unfolding_all rfl):
    wpAny (model Pg w) A (subscriptTail value slice (.ref D) (.int i ti)) Q E s := by
  have hlt : i.toNat < its.size := by rw [hi.sz]; omega
  have hx : its[i.toNat]? = some its[i.toNat] := Array.getElem?_eq_getElem hlt
  obtain ⟨n, t, e, h2, h3⟩ := hi.all its[i.toNat] (by rw [Array.mem_toList_iff]; exact Array.getElem_mem hlt)
  rw [e] at hx
  have hl : s.heap.IsList D its := ⟨_, (N _ hm).1, rfl, _, rfl⟩
  exact tail_any hl.typeIs slot_list_getitem.lookup (wpAny_getItem_list hl h0 (by omega) hx (h n t h2 h3)) hs
theorem put_len {b : Array UInt8} {ks : List Int} {k c : Int} (h : KBw.bInts b = List.take (clipAt ks.length k) ks ++ [c] ++ List.take (ks.length - clipAt ks.length k) (List.drop (clipAt ks.length k) ks)) : (KBw.bInts b).length ≤ ks.length + 1 := by
  rw [h]
  simp only [List.length_append, List.length_take, List.length_drop, List.length_cons, List.length_nil]
  omega
theorem Octet_c {w : World} {mean : ExcName → Option Value} {mg mb : Str → Option Value} {b0 : Heap} {outer : List Env} {dp un : Nat} {gd : Option (List Code)} {s : Shared} {Q E : Value → Shared → Prop} {p : Int} {tp : Tok}
    (G : Gd w mean mg mb b0 outer s.heap) (hdp : dp + 10 < recursionLimit) (hun : un + 60 < cLine)
    (ret : ∀ h' tk c t, Ext s.heap h' → 0 ≤ c → c < 256 → Q (.int c t) { s with heap := h', toks := tk }) :
    wpAny (model Pg w) (AZ dp un gd outer) (call (.ref 331) [.int p tp]) Q E s := by
  k_with_none
  k_with "getMethod bytes" => (k_here; (with_reducible first | refine gm_lower ?_ | refine gm_strip ?_ | refine gm_find ?_))
  k_with "pyReprObj" => (k_here; (refine repr_K (by kba_ints) (by kba_size) ?_); intro _ _ _ _; (try dsimp only))
  k_with "call builtin:bytes.lower" => (k_here; (refine lower_K (by kba_ints) (by kba_size) ?_); intro _ _ _ _; (try dsimp only))
  k_with "call builtin:bytes.find" => (k_here; (refine find_K (by kba_ints) (by first | assumption | rfl | decide +kernel) ?_); intro _ _ _ _; (try dsimp only))
  k_with "compareOp Eq" => (k_here; (with_reducible show wpAny _ _ (compareOp CmpOp.Eq (Value.bytes _ _) (Value.bytes _ _)) _ _ _); (refine eqB_K (by kba_ints) (by kba_ints) ?_))
  k_with "compareOp NotEq" => (k_here; (with_reducible show wpAny _ _ (compareOp CmpOp.NotEq (Value.bytes _ _) (Value.bytes _ _)) _ _ _); (refine neB_K (by kba_ints) (by kba_ints) ?_))
  k_with "compareOp Eq bytes bytes" => (k_here; (refine eqB_K (by kba_ints) (by kba_ints) ?_))
  k_with "compareOp NotEq bytes bytes" => (k_here; (refine neB_K (by kba_ints) (by kba_ints) ?_))
  k_with "compareOp In bytes ref" => (k_here; k_dflt (first | (refine' in_tupB (kss := ownL) (tupK ?qX ?qF ?qh) ?qhb ?qhit ?qhk ?_; (case qX => assumption); (case qF => assumption); (case qh => k_is); (case qhb => exact rfl); (case qhit => exact rfl); (case qhk => kba_ints)) | (refine' in_tupB (kss := allowedL) (tupK ?qX ?qF ?qh) ?qhb ?qhit ?qhk ?_; (case qX => assumption); (case qF => assumption); (case qh => k_is); (case qhb => exact rfl); (case qhit => exact rfl); (case qhk => kba_ints))))
  k_with "compareOp NotIn bytes ref" => (k_here; k_dflt (refine' notIn_tupB (kss := allowedL) (tupK ?qX ?qF ?qh) ?qhb ?qhit ?qhk ?_; (case qX => assumption); (case qF => assumption); (case qh => k_is); (case qhb => exact rfl); (case qhit => exact rfl); (case qhk => kba_ints)))
  k_with "subscriptTail" => (k_here; (with_reducible show wpAny _ _ (subscriptTail _ _ (Value.bytes _ _) (Value.int _ _)) _ _ _); (first | refine item0_A (by kba_ints) (by omega) (by omega) ?_ | refine itemL_A (by kba_ints) (by omega) (by omega) ?_); intro _ _ _ _ _ _; (try dsimp only))
  k_with "exec For" => (k_here; (with_unfolding_all refine' For_mine ?qF ?qhE ?qhx ?qhp ?qhs ?_; (case qF => assumption); (case qhE => assumption); (case qhx => exact rfl); (case qhp => exact rfl); (case qhs => exact fun _ => rfl); k_whole))
  k_with "exec For Name Name cons nil" => (k_here; (with_unfolding_all refine' For_mine ?qF ?qhE ?qhx ?qhp ?qhs ?_; (case qF => assumption); (case qhE => assumption); (case qhx => exact rfl); (case qhp => exact rfl); (case qhs => exact fun _ => rfl); k_whole))
  k_with "subscriptTail" => (k_here; (with_reducible show wpAny _ _ (subscriptTail _ _ (Value.ref _) (Value.int _ _)) _ _ _); (first | (refine pair0_A (by k_asm) (by assumption) ?_) | (refine pair1_A (by k_asm) (by assumption) ?_)))
  k_with "compareOp In bytes bytes" => (k_here; k_dflt (refine' inb_K ?qhk ?qhl ?qhh ?qF ?qN ?_; (case qhk => kba_ints); (case qhl => exact rfl); (case qhh => exact rfl); (case qF => k_asm); (case qN => k_asm)); intro _ _ _ _; (try dsimp only))
  k_with "eval Name" => (k_here; (with_reducible show wpAny _ _ (eval (Expr.Name _ _) (compEnvC _ _ _ _)) _ _ _); k_dflt (refine' name_local rfl rfl (by decide) (Fr.ns (by k_asm)) (by with_reducible assumption) ?_); (try dsimp only))
  k_with "binaryOp Mod int int" => (k_here; k_dflt (refine modI (by first | decide | omega) ?_); intro _ _; (try dsimp only))
  k_with "binaryOp FloorDiv int int" => (k_here; k_dflt (refine fdivI (by decide) (PyProof.noPylong_of_log2 (by decide +kernel)) ?_); intro _ _; (try dsimp only))
  k_with "binaryOp Add bytes bytes" => (k_here; k_dflt (refine' KBa.add_K ?qa ?qb ?qz ?_; (case qa => kba_ints); (case qb => first | exact one_int (by with_reducible assumption) | kba_ints); (case qz => (simp only [List.length_take, List.length_append, List.length_cons, List.length_nil, List.length_drop]; omega))); intro _ _ _; (try dsimp only))
  k_with "call ref" => (k_here; (with_reducible show wpAny _ _ (call (Value.ref 281) _) _ _ _); k_dflt (refine octets_K (by k_asm) (by k_asm) (gd_in (by with_reducible assumption) (by k_asm) (fun e => nomatch e) rfl) (by first | omega | (dsimp only; omega) | (dsimp only [AZ]; omega)) (by first | omega | (dsimp only; omega) | (dsimp only [AZ]; omega)) ?_); intro _ _ _ _ _ _ _ _; (try dsimp only))
  k_with "subscriptTail" => (k_here; (with_reducible show wpAny _ _ (subscriptTail _ _ (Value.ref _) (Value.int _ _)) _ _ _); k_dflt (refine' itemI_K ?qN ?qhm ?qhi ?qh0 ?qh1 ?_; (case qN => k_asm); (case qhm => k_mem); (case qhi => with_reducible assumption); (case qh0 => exact fmod_lo _ (by decide)); (case qh1 => with_reducible assumption)); intro _ _ _ _; (try dsimp only))
  k_with "subscriptTail Call Name nil nil Name ref int" => (k_here; (with_reducible show wpAny _ _ (subscriptTail _ _ (Value.ref _) (Value.int _ _)) _ _ _); k_dflt (refine' itemI_K ?qN ?qhm ?qhi ?qh0 ?qh1 ?_; (case qN => k_asm); (case qhm => k_mem); (case qhi => with_reducible assumption); (case qh0 => exact fmod_lo _ (by decide)); (case qh1 => with_reducible assumption)); intro _ _ _ _; (try dsimp only))
  have X := G.X
  have T := G.T
  have kret : KeepP _ := ret
  clear ret
  refine wpAny_call ?_
  k_dflt (refine' enter (binds := [(Str.ofString "part", .int p tp)]) X T.nolimit ?ho ?hcd ?hroom ?hbind ?hloc ?_ ?c5 ?c6 ?c7 ?c8; (case ho => k_is); (case hcd => k_is); (case hroom => show dp < recursionLimit; omega); (case hbind => exact rfl); (case hloc => exact locs rfl); (case c5 => decide); (case c6 => exact rfl); (case c7 => exact rfl); (case c8 => exact rfl); k_whole; intro L' h' F' N')
  k_steps
  all_goals first
    | exact kret _ _ _ _ (Fr.keep (by assumption)) (by assumption) (by assumption)
    | exact kret _ _ _ _ (Fr.keep (by assumption)) (fmod_lo _ (by decide)) (fmod_hi _ (by decide))
theorem Put_c {w : World} {mean : ExcName → Option Value} {mg mb : Str → Option Value} {b0 : Heap} {outer : List Env} {dp un : Nat} {gd : Option (List Code)} {s : Shared} {Q E : Value → Shared → Prop} {p c : Int} {tp tc to : Tok} {o : Array UInt8} {ks : List Int}
    (G : Gd w mean mg mb b0 outer s.heap) (hdp : dp + 10 < recursionLimit) (hun : un + 60 < cLine) (hk : KBw.bInts o = ks) (hl : ks.length ≤ 1000) (hc0 : 0 ≤ c) (hc1 : c < 256)
    (ret : ∀ h' tk b t, Ext s.heap h' → (KBw.bInts b).length ≤ ks.length + 1 → Q (.bytes b t) { s with heap := h', toks := tk }) :
    wpAny (model Pg w) (AZ dp un gd outer) (call (.ref 338) [.bytes o to, .int p tp, .int c tc]) Q E s := by
  k_with_none
  k_with "getMethod bytes" => (k_here; (with_reducible first | refine gm_lower ?_ | refine gm_strip ?_ | refine gm_find ?_))
  k_with "pyReprObj" => (k_here; (refine repr_K (by kba_ints) (by kba_size) ?_); intro _ _ _ _; (try dsimp only))
  k_with "call builtin:bytes.lower" => (k_here; (refine lower_K (by kba_ints) (by kba_size) ?_); intro _ _ _ _; (try dsimp only))
  k_with "call builtin:bytes.find" => (k_here; (refine find_K (by kba_ints) (by first | assumption | rfl | decide +kernel) ?_); intro _ _ _ _; (try dsimp only))
  k_with "compareOp Eq" => (k_here; (with_reducible show wpAny _ _ (compareOp CmpOp.Eq (Value.bytes _ _) (Value.bytes _ _)) _ _ _); (refine eqB_K (by kba_ints) (by kba_ints) ?_))
  k_with "compareOp NotEq" => (k_here; (with_reducible show wpAny _ _ (compareOp CmpOp.NotEq (Value.bytes _ _) (Value.bytes _ _)) _ _ _); (refine neB_K (by kba_ints) (by kba_ints) ?_))
  k_with "compareOp Eq bytes bytes" => (k_here; (refine eqB_K (by kba_ints) (by kba_ints) ?_))
  k_with "compareOp NotEq bytes bytes" => (k_here; (refine neB_K (by kba_ints) (by kba_ints) ?_))
  k_with "compareOp In bytes ref" => (k_here; k_dflt (first | (refine' in_tupB (kss := ownL) (tupK ?qX ?qF ?qh) ?qhb ?qhit ?qhk ?_; (case qX => assumption); (case qF => assumption); (case qh => k_is); (case qhb => exact rfl); (case qhit => exact rfl); (case qhk => kba_ints)) | (refine' in_tupB (kss := allowedL) (tupK ?qX ?qF ?qh) ?qhb ?qhit ?qhk ?_; (case qX => assumption); (case qF => assumption); (case qh => k_is); (case qhb => exact rfl); (case qhit => exact rfl); (case qhk => kba_ints))))
  k_with "compareOp NotIn bytes ref" => (k_here; k_dflt (refine' notIn_tupB (kss := allowedL) (tupK ?qX ?qF ?qh) ?qhb ?qhit ?qhk ?_; (case qX => assumption); (case qF => assumption); (case qh => k_is); (case qhb => exact rfl); (case qhit => exact rfl); (case qhk => kba_ints)))
  k_with "subscriptTail" => (k_here; (with_reducible show wpAny _ _ (subscriptTail _ _ (Value.bytes _ _) (Value.int _ _)) _ _ _); (first | refine item0_A (by kba_ints) (by omega) (by omega) ?_ | refine itemL_A (by kba_ints) (by omega) (by omega) ?_); intro _ _ _ _ _ _; (try dsimp only))
  k_with "exec For" => (k_here; (with_unfolding_all refine' For_mine ?qF ?qhE ?qhx ?qhp ?qhs ?_; (case qF => assumption); (case qhE => assumption); (case qhx => exact rfl); (case qhp => exact rfl); (case qhs => exact fun _ => rfl); k_whole))
  k_with "exec For Name Name cons nil" => (k_here; (with_unfolding_all refine' For_mine ?qF ?qhE ?qhx ?qhp ?qhs ?_; (case qF => assumption); (case qhE => assumption); (case qhx => exact rfl); (case qhp => exact rfl); (case qhs => exact fun _ => rfl); k_whole))
  k_with "subscriptTail" => (k_here; (with_reducible show wpAny _ _ (subscriptTail _ _ (Value.ref _) (Value.int _ _)) _ _ _); (first | (refine pair0_A (by k_asm) (by assumption) ?_) | (refine pair1_A (by k_asm) (by assumption) ?_)))
  k_with "compareOp In bytes bytes" => (k_here; k_dflt (refine' inb_K ?qhk ?qhl ?qhh ?qF ?qN ?_; (case qhk => kba_ints); (case qhl => exact rfl); (case qhh => exact rfl); (case qF => k_asm); (case qN => k_asm)); intro _ _ _ _; (try dsimp only))
  k_with "eval Name" => (k_here; (with_reducible show wpAny _ _ (eval (Expr.Name _ _) (compEnvC _ _ _ _)) _ _ _); k_dflt (refine' name_local rfl rfl (by decide) (Fr.ns (by k_asm)) (by with_reducible assumption) ?_); (try dsimp only))
  k_with "binaryOp Mod int int" => (k_here; k_dflt (refine modI (by first | decide | omega) ?_); intro _ _; (try dsimp only))
  k_with "binaryOp FloorDiv int int" => (k_here; k_dflt (refine fdivI (by decide) (PyProof.noPylong_of_log2 (by decide +kernel)) ?_); intro _ _; (try dsimp only))
  k_with "binaryOp Add bytes bytes" => (k_here; k_dflt (refine' KBa.add_K ?qa ?qb ?qz ?_; (case qa => kba_ints); (case qb => first | exact one_int (by with_reducible assumption) | kba_ints); (case qz => (simp only [List.length_take, List.length_append, List.length_cons, List.length_nil, List.length_drop]; omega))); intro _ _ _; (try dsimp only))
  k_with "call ref" => (k_here; (with_reducible show wpAny _ _ (call (Value.ref 281) _) _ _ _); k_dflt (refine octets_K (by k_asm) (by k_asm) (gd_in (by with_reducible assumption) (by k_asm) (fun e => nomatch e) rfl) (by first | omega | (dsimp only; omega) | (dsimp only [AZ]; omega)) (by first | omega | (dsimp only; omega) | (dsimp only [AZ]; omega)) ?_); intro _ _ _ _ _ _ _ _; (try dsimp only))
  k_with "subscriptTail" => (k_here; (with_reducible show wpAny _ _ (subscriptTail _ _ (Value.ref _) (Value.int _ _)) _ _ _); k_dflt (refine' itemI_K ?qN ?qhm ?qhi ?qh0 ?qh1 ?_; (case qN => k_asm); (case qhm => k_mem); (case qhi => with_reducible assumption); (case qh0 => exact fmod_lo _ (by decide)); (case qh1 => with_reducible assumption)); intro _ _ _ _; (try dsimp only))
  k_with "subscriptTail Call Name nil nil Name ref int" => (k_here; (with_reducible show wpAny _ _ (subscriptTail _ _ (Value.ref _) (Value.int _ _)) _ _ _); k_dflt (refine' itemI_K ?qN ?qhm ?qhi ?qh0 ?qh1 ?_; (case qN => k_asm); (case qhm => k_mem); (case qhi => with_reducible assumption); (case qh0 => exact fmod_lo _ (by decide)); (case qh1 => with_reducible assumption)); intro _ _ _ _; (try dsimp only))
  have X := G.X
  have T := G.T
  have kret : KeepP _ := ret
  clear ret
  refine wpAny_call ?_
  k_dflt (refine' enter (binds := [(Str.ofString "octets", .bytes o to), (Str.ofString "place", .int p tp), (Str.ofString "number", .int c tc)]) X T.nolimit ?ho ?hcd ?hroom ?hbind ?hloc ?_ ?c5 ?c6 ?c7 ?c8; (case ho => k_is); (case hcd => k_is); (case hroom => show dp < recursionLimit; omega); (case hbind => exact rfl); (case hloc => exact locs rfl); (case c5 => decide); (case c6 => exact rfl); (case c7 => exact rfl); (case c8 => exact rfl); k_whole; intro L' h' F' N')
  k_steps
  exact kret _ _ _ _ (Fr.keep (by assumption)) (put_len (by with_reducible assumption))

end
section
open PySem PySem.W PyProof.Rows PySem.Calls PySem.W.X
set_option Elab.async false
set_option maxRecDepth 100000
set_option maxHeartbeats 2000000
set_option linter.unusedVariables false
set_option pp.deepTerms false
set_option pp.maxSteps 6000
structure M64 (its : Array Value) (n : Nat) : Prop where
  sz : its.size = n
  all : ∀ v ∈ its.toList, ∃ b t, v = .bytes b t ∧ (KBw.bInts b).length ≤ 64
theorem m64_of {its : Array Value} {l : List (List Int)} {n : Nat} (M : Made its l) (hn : l.length = n) (h : ∀ k ∈ l, k.length ≤ 64) : M64 its n := by
  refine ⟨by rw [M.size, hn], fun v hv => ?_⟩
  have hb := M.b
  rw [List.all_eq_true] at hb
  have hv2 := hb v hv
  have hk : bInt? v ∈ l := by rw [← M.c]; exact List.mem_map.mpr ⟨v, hv, rfl⟩
  cases v <;> try (cases hv2; done)
  rename_i b t
  exact ⟨b, t, rfl, h _ hk⟩
section
variable {w : World} {mean : ExcName → Option Value} {mg mb : Str → Option Value} {b0 : Heap} {outer : List Env} {dp un : Nat} {gd : Option (List Code)} {s : Shared} {Q E : Value → Shared → Prop} {h₀ : Heap} {L : Addr} {m : PySem.Str → Option Value} {news : List (Addr × Obj)}
theorem names_K (F : Fr h₀ L s.heap m) (N : News h₀ L s.heap news) (G : Gd w mean mg mb b0 outer s.heap) (hdp : dp + 4 < recursionLimit) (hun : un + 30 < cLine)
    (ret : ∀ D h' tk its c, Fr h₀ L h' m → News h₀ L h' ((D, listO its c) :: news) → M64 its 20 → Q (.ref D) { s with heap := h', toks := tk }) :
    wpAny (model Pg w) (AZ dp un gd outer) (call (.ref 267) []) Q E s :=
  Names_c G hdp hun fun D h' tk its c l x hD hD' M hn h => ret D h' tk its c (Ext.fr x F) (news_new F N x hD hD') (m64_of M hn h)
theorem values_K (F : Fr h₀ L s.heap m) (N : News h₀ L s.heap news) (G : Gd w mean mg mb b0 outer s.heap) (hdp : dp + 4 < recursionLimit) (hun : un + 30 < cLine)
    (ret : ∀ D h' tk its c, Fr h₀ L h' m → News h₀ L h' ((D, listO its c) :: news) → M64 its 16 → Q (.ref D) { s with heap := h', toks := tk }) :
    wpAny (model Pg w) (AZ dp un gd outer) (call (.ref 274) []) Q E s :=
  Values_c G hdp hun fun D h' tk its c l x hD hD' M hn h => ret D h' tk its c (Ext.fr x F) (news_new F N x hD hD') (m64_of M hn h)
theorem octet_K {p : Int} {tp : Tok} (F : Fr h₀ L s.heap m) (N : News h₀ L s.heap news) (G : Gd w mean mg mb b0 outer s.heap) (hdp : dp + 10 < recursionLimit) (hun : un + 60 < cLine)
    (ret : ∀ h' tk c t, Fr h₀ L h' m → News h₀ L h' news → 0 ≤ c → c < 256 → Q (.int c t) { s with heap := h', toks := tk }) :
    wpAny (model Pg w) (AZ dp un gd outer) (call (.ref 331) [.int p tp]) Q E s :=
  Octet_c G hdp hun fun h' tk c t x => ret h' tk c t (Ext.fr x F) (Ext.news x N)
theorem put_K {p c : Int} {tp tc to : Tok} {o : Array UInt8} {n : Nat} (F : Fr h₀ L s.heap m) (N : News h₀ L s.heap news) (G : Gd w mean mg mb b0 outer s.heap) (hdp : dp + 10 < recursionLimit) (hun : un + 60 < cLine) (hl : (KBw.bInts o).length ≤ n) (hn : n + 1 ≤ 1000) (hc0 : 0 ≤ c) (hc1 : c < 256)
    (ret : ∀ h' tk b t, Fr h₀ L h' m → News h₀ L h' news → (KBw.bInts b).length ≤ n + 1 → Q (.bytes b t) { s with heap := h', toks := tk }) :
    wpAny (model Pg w) (AZ dp un gd outer) (call (.ref 338) [.bytes o to, .int p tp, .int c tc]) Q E s :=
  Put_c G hdp hun rfl (by omega) hc0 hc1 fun h' tk b t x hb => ret h' tk b t (Ext.fr x F) (Ext.news x N) (by omega)
end
section
variable {w : World} {A : Around} {s : Shared} {Q E : Value → Shared → Prop} {h₀ : Heap} {L : Addr} {m : PySem.Str → Option Value} {news : List (Addr × Obj)} {value slice : Expr}
theorem item64_K {D : Addr} {its : Array Value} {c n : Nat} {i : Int} {ti : Tok} (N : News h₀ L s.heap news) (hm : (D, listO its c) ∈ news) (M : M64 its n) (h0 : 0 ≤ i) (h1 : i < (n : Int)) (hn : n ≤ 64) (h : ∀ b t, (KBw.bInts b).length ≤ 64 → Q (.bytes b t) s)
    (hs : subscripted slice false (.ref D) (.int i ti) = operate [.ref D, .int i ti] (getItem (.ref D) (.int i ti)) := by with_unfolding_all rfl) :
    wpAny (model Pg w) A (subscriptTail value slice (.ref D) (.int i ti)) Q E s := by
  have hlt : i.toNat < its.size := by rw [M.sz]; omega
  have hx : its[i.toNat]? = some its[i.toNat] := Array.getElem?_eq_getElem hlt
  obtain ⟨b, t, e, h2⟩ := M.all its[i.toNat] (by rw [Array.mem_toList_iff]; exact Array.getElem_mem hlt)
  rw [e] at hx
  have hl : s.heap.IsList D its := ⟨_, (N _ hm).1, rfl, _, rfl⟩
  exact tail_any hl.typeIs slot_list_getitem.lookup (wpAny_getItem_list hl h0 (by omega) hx (h b t h2)) hs
theorem itemB_K {D : Addr} {items : List Value} {c n : Nat} {i : Int} {ti : Tok} (F : Fr h₀ L s.heap m) (hl : h₀.get? D = some (listO items.toArray c)) (hi : ∀ v ∈ items, ItemH h₀ n v) (h0 : 0 ≤ i) (h1 : i < (items.length : Int)) (hz : items.length ≤ 1000)
    (h : ∀ T b x tn tx cT, h₀.get? T = some (pairO b x tn tx cT) → (KBw.bInts b).length ≤ n → (KBw.bInts x).length ≤ n → Q (.ref T) s)
    (hs : subscripted slice false (.ref D) (.int i ti) = operate [.ref D, .int i ti] (getItem (.ref D) (.int i ti)) := by with_unfolding_all rfl) :
    wpAny (model Pg w) A (subscriptTail value slice (.ref D) (.int i ti)) Q E s := by
  have hlt : i.toNat < items.length := by omega
  obtain ⟨T, b, x, tn, tx, cT, e, h2, h3, h4⟩ := hi items[i.toNat] (List.getElem_mem hlt)
  have hx : items.toArray[i.toNat]? = some (.ref T) := by
    rw [List.getElem?_toArray, List.getElem?_eq_getElem hlt, e]
  have hls : s.heap.IsList D items.toArray := ⟨_, F.keep _ _ hl, rfl, _, rfl⟩
  exact tail_any hls.typeIs slot_list_getitem.lookup (wpAny_getItem_list hls h0 (by omega) hx (h T b x tn tx cT h2 h3 h4)) hs
theorem lenB_K {D : Addr} {items : List Value} {c : Nat} (F : Fr h₀ L s.heap m) (hl : h₀.get? D = some (listO items.toArray c)) (hz : items.length ≤ 1000) (h : ∀ t tk, Q (.int (items.length : Nat) t) { s with toks := tk }) :
    wpAny (model Pg w) A (call (.builtin "len") [.ref D]) Q E s := by
  refine call_len_list ⟨_, F.keep _ _ hl, rfl, _, rfl⟩ (by rw [List.size_toArray]; omega) ?_
  rw [List.size_toArray]; exact h _ _
theorem eqB_nil {D B : Addr} {items : List Value} {c c2 : Nat} (F : Fr h₀ L s.heap m) (N : News h₀ L s.heap news) (hl : h₀.get? D = some (listO items.toArray c)) (m2 : (B, W.listOf #[] c2) ∈ news) (hu : A.units < cLine) (h : Q (.bool (decide (items.length = 0))) s) :
    wpAny (model Pg w) A (compareOp .Eq (.ref D) (.ref B)) Q E s := by
  refine eq_nil_K N (F.keep _ _ hl) m2 hu ?_
  have e : items.toArray.isEmpty = decide (items.length = 0) := by cases items <;> rfl
  rw [e]; exact h
theorem cut_hi (l : List Value) (p : Int) : slicePick l.toArray none (some p) none = (l.take (clipAt l.length p)).toArray := by
  rw [kmk_pick_nat _ (sliceBounds_plain none (some p) l.toArray.size)]
  simp
theorem cut_lo (l : List Value) (p : Int) : slicePick l.toArray (some p) none none = (l.drop (clipAt l.length p)).toArray := by
  rw [kmk_pick_nat _ (sliceBounds_plain (some p) none l.toArray.size)]
  simp only [Option.elim, List.size_toArray]
  rw [List.take_of_length_le (by simp)]
theorem cutHi_K {l : Addr} {items : List Value} {cb : Nat} {p : Int} {t : Tok} {vu : Value} (F : Fr h₀ L s.heap m) (N : News h₀ L s.heap news) (hl : h₀.get? l = some (listO items.toArray cb)) (hz : items.length ≤ 1000) (hvu : vu = .int p t)
    (h : ∀ D h', Fr h₀ L h' m → News h₀ L h' ((D, listO (items.take (clipAt items.length p)).toArray 0) :: news) → Q (.ref D) { s with heap := h' })
    (hs : subscripted slice false (.ref l) (.ref s.heap.objs.size) = operate [.ref s.heap.objs.size, .ref l] (getItem (.ref l) (.ref s.heap.objs.size))) (ht : ∀ r, letTemporaryGo value (.ref l) r = pure ()) :
    wpAny (model Pg w) A (subscriptTail value slice (.ref l) (.ref s.heap.objs.size)) Q E { s with heap := s.heap.push { cls := .type "slice", data := .fields #[.none, vu, .none] } } := by
  subst hvu
  refine kmk_slice F N ⟨_, F.keep _ _ hl, rfl, _, rfl⟩ .none (.int _ _) (fun D h' F' N' _ => h D h' F' ?_) hs ht (by rw [List.size_toArray]; exact Nat.le_trans hz (by decide))
  rw [cut_hi] at N'; exact N'
theorem cutLo_K {l : Addr} {items : List Value} {cb : Nat} {p : Int} {t : Tok} {vl : Value} (F : Fr h₀ L s.heap m) (N : News h₀ L s.heap news) (hl : h₀.get? l = some (listO items.toArray cb)) (hz : items.length ≤ 1000) (hvu : vl = .int p t)
    (h : ∀ D h', Fr h₀ L h' m → News h₀ L h' ((D, listO (items.drop (clipAt items.length p)).toArray 0) :: news) → Q (.ref D) { s with heap := h' })
    (hs : subscripted slice false (.ref l) (.ref s.heap.objs.size) = operate [.ref s.heap.objs.size, .ref l] (getItem (.ref l) (.ref s.heap.objs.size))) (ht : ∀ r, letTemporaryGo value (.ref l) r = pure ()) :
    wpAny (model Pg w) A (subscriptTail value slice (.ref l) (.ref s.heap.objs.size)) Q E { s with heap := s.heap.push { cls := .type "slice", data := .fields #[vl, .none, .none] } } := by
  subst hvu
  refine kmk_slice F N ⟨_, F.keep _ _ hl, rfl, _, rfl⟩ (.int _ _) .none (fun D h' F' N' _ => h D h' F' ?_) hs ht (by rw [List.size_toArray]; exact Nat.le_trans hz (by decide))
  rw [cut_lo] at N'; exact N'
theorem isl_mem {a : Addr} {x : List Value} {c : Nat} (N : News h₀ L s.heap news) (hm : (a, listO x.toArray c) ∈ news) : s.heap.IsList a x.toArray := ⟨_, (N _ hm).1, rfl, _, rfl⟩
theorem isl_base {a : Addr} {x : List Value} {c : Nat} (F : Fr h₀ L s.heap m) (hl : h₀.get? a = some (listO x.toArray c)) : s.heap.IsList a x.toArray := ⟨_, F.keep _ _ hl, rfl, _, rfl⟩
theorem addL_K {a b : Addr} {x y : List Value} (F : Fr h₀ L s.heap m) (N : News h₀ L s.heap news) (h1 : s.heap.IsList a x.toArray) (h2 : s.heap.IsList b y.toArray) (hz : x.length + y.length ≤ 5000)
    (h : ∀ D h', Fr h₀ L h' m → News h₀ L h' ((D, listO (x ++ y).toArray 0) :: news) → Q (.ref D) { s with heap := h' }) :
    wpAny (model Pg w) A (binaryOp .Add (.ref a) (.ref b)) Q E s :=
  add_arrays F N h1 h2 (fun h' F' N' => h _ h' F' N') (by simp only [List.size_toArray]; exact Nat.le_trans hz (by decide))
theorem assignPair_K {env : Env} {x x₂ : Str} {px px₂ tp : Pos} {kt : Nat} {T : Addr} {b v : Array UInt8} {tn tv : Tok} {cT : Nat} {Q : Unit → Shared → Prop} (hh : A.handled = none) (F : Fr h₀ env.locals s.heap m) (N : News h₀ env.locals s.heap news) (hT : h₀.get? T = some (pairO b v tn tv cT))
    (hx : env.kindOf x = some .local) (hx₂ : env.kindOf x₂ = some .local) (hp : (env.scope.kind == .class || (env.scope.kind == .module && env.locals != env.globals)) = false)
    (h : ∀ h' tk, Fr h₀ env.locals h' (fun y => if y = x₂ then some (.bytes v tv) else if y = x then some (.bytes b tn) else m y) → News h₀ env.locals h' news → Q () { s with heap := h', toks := tk }) :
    wpAny (model Pg w) A (assign (.Tuple [.Name x px, .Name x₂ px₂] kt tp) env (.ref T)) Q E s := by
  refine assign_Tuple_tuple hh (⟨_, F.keep _ _ hT, rfl, _, rfl⟩ : s.heap.IsTuple T #[.bytes b tn, .bytes v tv]) rfl rfl fun h₅ he => ?_
  have he' : ∀ b o, s.heap.get? b = some o → h₅.get? b = some o := fun b o e => he b o (Nat.ne_of_lt (Heap.lt_size e)) e
  have F₅ := F.keeps he'
  have N₅ : News h₀ env.locals h₅ news := fun p hp => ⟨he' _ _ (N p hp).1, (N p hp).2⟩
  refine assignInOrder_cons (wpAny_assign_Name (wpAny_storeName_local hx F₅.ns (fun h₆ hn₆ hs₆ => ?_) hp))
  refine assignInOrder_cons (wpAny_assign_Name (wpAny_storeName_local hx₂ hn₆ (fun h₇ hn₇ hs₇ => ?_) hp))
  refine assignInOrder_nil ?_
  have hs₆ : Heap.SameBut env.locals h₅ h₆ := hs₆
  have hs₇ : Heap.SameBut env.locals h₆ h₇ := hs₇
  have hn₆ : h₆.Ns env.locals _ := hn₆
  have hn₇ : h₇.Ns env.locals _ := hn₇
  exact h h₇ _ ((F₅.set hn₆ hs₆).set hn₇ hs₇) fun p hp => ⟨((hs₇.2 _ (N₅ p hp).2.1).trans ((hs₆.2 _ (N₅ p hp).2.1).trans (N₅ p hp).1)), (N₅ p hp).2⟩
end

end
section
open PySem PySem.W PyProof.Rows PySem.Calls PySem.W.X
set_option Elab.async false
set_option maxRecDepth 100000
set_option maxHeartbeats 2000000
set_option linter.unusedVariables false
set_option pp.deepTerms false
set_option pp.maxSteps 6000
theorem pos_ne {n : Nat} (h : ¬ n = 0) : (0 : Int) < (n : Int) := Int.ofNat_lt.mpr (Nat.pos_of_ne_zero h)
theorem len_a (l : List Value) (c : Nat) (v : Value) : (l.take c ++ [v] ++ l.drop c).length ≤ l.length + 1 := by simp; omega
theorem len_b (l : List Value) (v : Value) : (l ++ [v]).length ≤ l.length + 1 := by simp
theorem len_c {l : List Value} {c d : Nat} (h : c ≤ d) : (l.take c ++ l.drop d).length ≤ l.length + 1 := by simp; omega
theorem len_d {l : List Value} {c d : Nat} {v : Value} (h : c ≤ d) : (l.take c ++ [v] ++ l.drop d).length ≤ l.length + 1 := by simp; omega
theorem zt {l : List Value} {c : Nat} {v : Value} (h : l.length ≤ 1000) : (l.take c).length + ([v] : List Value).length ≤ 5000 := by simp; omega
theorem ztd {l : List Value} {c d : Nat} {v : Value} (h : l.length ≤ 1000) : (l.take c ++ [v]).length + (l.drop d).length ≤ 5000 := by simp; omega
theorem ztd2 {l : List Value} {c d : Nat} (h : l.length ≤ 1000) : (l.take c).length + (l.drop d).length ≤ 5000 := by simp; omega
theorem zl {l : List Value} {v : Value} (h : l.length ≤ 1000) : l.length + ([v] : List Value).length ≤ 5000 := by simp; omega
theorem clip_mono {n : Nat} {i : Int} (h : 0 ≤ i) : clipAt n i ≤ clipAt n (i + 1) := by
  have h1 := clipAt_cast n i
  have h2 := clipAt_cast n (i + 1)
  rw [if_neg (by omega)] at h1 h2
  omega
section
variable {h₀ h : Heap} {L : Addr} {m : PySem.Str → Option Value} {news : List (Addr × Obj)} {items x y : List Value} {n k : Nat}
noncomputable abbrev OkL (h : Heap) (n : Nat) (l : List Value) : Prop := ∀ v ∈ l, ItemH h n v
theorem ok_all (F : Fr h₀ L h m) (hi : ∀ v ∈ items, ItemH h₀ n v) : OkL h (n + 1) items := fun v hv => ((hi v hv).keeps fun _ _ _ _ _ _ e => F.keep _ _ e).1.mono (Nat.le_succ _)
theorem ok_take (F : Fr h₀ L h m) (hi : ∀ v ∈ items, ItemH h₀ n v) : OkL h (n + 1) (items.take k) := fun v hv => ok_all F hi v (List.mem_of_mem_take hv)
theorem ok_drop (F : Fr h₀ L h m) (hi : ∀ v ∈ items, ItemH h₀ n v) : OkL h (n + 1) (items.drop k) := fun v hv => ok_all F hi v (List.mem_of_mem_drop hv)
theorem ok_app (h1 : OkL h n x) (h2 : OkL h n y) : OkL h n (x ++ y) := fun v hv => (List.mem_append.mp hv).elim (h1 v) (h2 v)
theorem ok_one {T : Addr} {b v : Array UInt8} {tn tv : Tok} (N : News h₀ L h news) (hm : (T, pairO b v tn tv 0) ∈ news) (l1 : (KBw.bInts b).length ≤ n) (l2 : (KBw.bInts v).length ≤ n) : OkL h n [.ref T] := fun u hu => by
  rw [List.mem_singleton.mp hu]
  exact ⟨T, b, v, tn, tv, 0, rfl, (N _ hm).1, l1, l2⟩
end
theorem Turned_c {w : World} {mean : ExcName → Option Value} {mg mb : Str → Option Value} {b0 : Heap} {outer : List Env} {dp un : Nat} {gd : Option (List Code)} {s : Shared} {Q E : Value → Shared → Prop}
    {ba : Addr} {items : List Value} {cb n : Nat} {d p : Int} {td tp : Tok}
    (G : Gd w mean mg mb b0 outer s.heap) (hdp : dp + 30 < recursionLimit) (hun : un + 100 < cLine)
    (hbl : s.heap.get? ba = some (listO items.toArray cb)) (hi : ∀ v ∈ items, ItemH s.heap n v) (hn : 64 ≤ n) (hn2 : n + 1 ≤ 1000) (hz : items.length ≤ 100)
    (ret : ∀ D h' tk (items' : List Value) c, Ext s.heap h' → h'.get? D = some (listO items'.toArray c) → items'.length ≤ items.length + 1 → (∀ v ∈ items', ItemH h' (n + 1) v) → Q (.ref D) { s with heap := h', toks := tk }) :
    wpAny (model Pg w) (AZ dp un gd outer) (call (.ref 345) [.ref ba, .int d td, .int p tp]) Q E s := by
  k_with_none
  k_with "getMethod bytes" => (k_here; (with_reducible first | refine gm_lower ?_ | refine gm_strip ?_ | refine gm_find ?_))
  k_with "pyReprObj" => (k_here; (refine repr_K (by kba_ints) (by kba_size) ?_); intro _ _ _ _; (try dsimp only))
  k_with "call builtin:bytes.lower" => (k_here; (refine lower_K (by kba_ints) (by kba_size) ?_); intro _ _ _ _; (try dsimp only))
  k_with "call builtin:bytes.find" => (k_here; (refine find_K (by kba_ints) (by first | assumption | rfl | decide +kernel) ?_); intro _ _ _ _; (try dsimp only))
  k_with "compareOp Eq" => (k_here; (with_reducible show wpAny _ _ (compareOp CmpOp.Eq (Value.bytes _ _) (Value.bytes _ _)) _ _ _); (refine eqB_K (by kba_ints) (by kba_ints) ?_))
  k_with "compareOp NotEq" => (k_here; (with_reducible show wpAny _ _ (compareOp CmpOp.NotEq (Value.bytes _ _) (Value.bytes _ _)) _ _ _); (refine neB_K (by kba_ints) (by kba_ints) ?_))
  k_with "compareOp Eq bytes bytes" => (k_here; (refine eqB_K (by kba_ints) (by kba_ints) ?_))
  k_with "compareOp NotEq bytes bytes" => (k_here; (refine neB_K (by kba_ints) (by kba_ints) ?_))
  k_with "compareOp In bytes ref" => (k_here; k_dflt (first | (refine' in_tupB (kss := ownL) (tupK ?qX ?qF ?qh) ?qhb ?qhit ?qhk ?_; (case qX => assumption); (case qF => assumption); (case qh => k_is); (case qhb => exact rfl); (case qhit => exact rfl); (case qhk => kba_ints)) | (refine' in_tupB (kss := allowedL) (tupK ?qX ?qF ?qh) ?qhb ?qhit ?qhk ?_; (case qX => assumption); (case qF => assumption); (case qh => k_is); (case qhb => exact rfl); (case qhit => exact rfl); (case qhk => kba_ints))))
  k_with "compareOp NotIn bytes ref" => (k_here; k_dflt (refine' notIn_tupB (kss := allowedL) (tupK ?qX ?qF ?qh) ?qhb ?qhit ?qhk ?_; (case qX => assumption); (case qF => assumption); (case qh => k_is); (case qhb => exact rfl); (case qhit => exact rfl); (case qhk => kba_ints)))
  k_with "subscriptTail" => (k_here; (with_reducible show wpAny _ _ (subscriptTail _ _ (Value.bytes _ _) (Value.int _ _)) _ _ _); (first | refine item0_A (by kba_ints) (by omega) (by omega) ?_ | refine itemL_A (by kba_ints) (by omega) (by omega) ?_); intro _ _ _ _ _ _; (try dsimp only))
  k_with "exec For" => (k_here; (with_unfolding_all refine' For_mine ?qF ?qhE ?qhx ?qhp ?qhs ?_; (case qF => assumption); (case qhE => assumption); (case qhx => exact rfl); (case qhp => exact rfl); (case qhs => exact fun _ => rfl); k_whole))
  k_with "exec For Name Name cons nil" => (k_here; (with_unfolding_all refine' For_mine ?qF ?qhE ?qhx ?qhp ?qhs ?_; (case qF => assumption); (case qhE => assumption); (case qhx => exact rfl); (case qhp => exact rfl); (case qhs => exact fun _ => rfl); k_whole))
  k_with "subscriptTail" => (k_here; (with_reducible show wpAny _ _ (subscriptTail _ _ (Value.ref _) (Value.int _ _)) _ _ _); (first | (refine pair0_A (by k_asm) (by assumption) ?_) | (refine pair1_A (by k_asm) (by assumption) ?_)))
  k_with "binaryOp Mod int int" => (k_here; k_dflt (refine modI (by first | decide | omega) ?_); intro _ _; (try dsimp only))
  k_with "binaryOp FloorDiv int int" => (k_here; k_dflt (refine fdivI (by decide) (PyProof.noPylong_of_log2 (by decide +kernel)) ?_); intro _ _; (try dsimp only))
  k_with "call ref" => (k_here; (with_reducible show wpAny _ _ (call (Value.ref 267) _) _ _ _); k_dflt (refine names_K (by k_asm) (by k_asm) (gd_in (by with_reducible assumption) (by k_asm) (fun e => nomatch e) rfl) (by first | (with_reducible assumption) | omega | (dsimp only; omega) | (dsimp only [AZ]; omega) | (dsimp only [AZ, Around.deeper]; omega)) (by first | (with_reducible assumption) | omega | (dsimp only; omega) | (dsimp only [AZ]; omega) | (dsimp only [AZ, Around.deeper]; omega)) ?_); intro _ _ _ _ _ _ _ _; (try dsimp only))
  k_with "call ref" => (k_here; (with_reducible show wpAny _ _ (call (Value.ref 274) _) _ _ _); k_dflt (refine values_K (by k_asm) (by k_asm) (gd_in (by with_reducible assumption) (by k_asm) (fun e => nomatch e) rfl) (by first | (with_reducible assumption) | omega | (dsimp only; omega) | (dsimp only [AZ]; omega) | (dsimp only [AZ, Around.deeper]; omega)) (by first | (with_reducible assumption) | omega | (dsimp only; omega) | (dsimp only [AZ]; omega) | (dsimp only [AZ, Around.deeper]; omega)) ?_); intro _ _ _ _ _ _ _ _; (try dsimp only))
  k_with "call ref" => (k_here; (with_reducible show wpAny _ _ (call (Value.ref 331) _) _ _ _); k_dflt (refine octet_K (by k_asm) (by k_asm) (gd_in (by with_reducible assumption) (by k_asm) (fun e => nomatch e) rfl) (by first | (with_reducible assumption) | omega | (dsimp only; omega) | (dsimp only [AZ]; omega) | (dsimp only [AZ, Around.deeper]; omega)) (by first | (with_reducible assumption) | omega | (dsimp only; omega) | (dsimp only [AZ]; omega) | (dsimp only [AZ, Around.deeper]; omega)) ?_); intro _ _ _ _ _ _ _ _; (try dsimp only))
  k_with "call ref" => (k_here; (with_reducible show wpAny _ _ (call (Value.ref 338) _) _ _ _); k_dflt (refine put_K (by k_asm) (by k_asm) (gd_in (by with_reducible assumption) (by k_asm) (fun e => nomatch e) rfl) (by first | (with_reducible assumption) | omega | (dsimp only; omega) | (dsimp only [AZ]; omega) | (dsimp only [AZ, Around.deeper]; omega)) (by first | (with_reducible assumption) | omega | (dsimp only; omega) | (dsimp only [AZ]; omega) | (dsimp only [AZ, Around.deeper]; omega)) (by with_reducible assumption) (by first | assumption | omega) (by with_reducible assumption) (by with_reducible assumption) ?_); intro _ _ _ _ _ _ _; (try dsimp only))
  k_with "subscriptTail" => (k_here; (with_reducible show wpAny _ _ (subscriptTail _ _ (Value.ref _) (Value.int _ _)) _ _ _); k_dflt (refine' item64_K ?qN ?qhm ?qM ?qh0 ?qh1 ?qhn ?_; (case qN => k_asm); (case qhm => k_mem); (case qM => with_reducible assumption); (case qh0 => exact fmod_lo _ (by decide)); (case qh1 => exact fmod_hi _ (by decide)); (case qhn => decide)); intro _ _ _; (try dsimp only))
  k_with "subscriptTail Call Name nil nil BinOp ref int" => (k_here; (with_reducible show wpAny _ _ (subscriptTail _ _ (Value.ref _) (Value.int _ _)) _ _ _); k_dflt (refine' item64_K ?qN ?qhm ?qM ?qh0 ?qh1 ?qhn ?_; (case qN => k_asm); (case qhm => k_mem); (case qM => with_reducible assumption); (case qh0 => exact fmod_lo _ (by decide)); (case qh1 => exact fmod_hi _ (by decide)); (case qhn => decide)); intro _ _ _; (try dsimp only))
  k_with "subscriptTail Call Name nil nil Name ref int" => (k_here; (with_reducible show wpAny _ _ (subscriptTail _ _ (Value.ref _) (Value.int _ _)) _ _ _); k_dflt (refine' item64_K ?qN ?qhm ?qM ?qh0 ?qh1 ?qhn ?_; (case qN => k_asm); (case qhm => k_mem); (case qM => with_reducible assumption); (case qh0 => exact fmod_lo _ (by decide)); (case qh1 => exact fmod_hi _ (by decide)); (case qhn => decide)); intro _ _ _; (try dsimp only))
  k_with "subscriptTail" => (k_here; (with_reducible show wpAny _ _ (subscriptTail (Expr.Name (Str.ofString "block") _) _ (Value.ref _) (Value.int _ _)) _ _ _); k_dflt (refine' itemB_K ?qF ?qhl ?qhi ?qh0 ?qh1 ?qhz ?_; (case qF => k_asm); (case qhl => assumption); (case qhi => assumption); (case qh0 => exact fmod_lo _ (by first | exact pos_ne (by assumption) | omega)); (case qh1 => exact fmod_hi _ (by first | exact pos_ne (by assumption) | omega)); (case qhz => first | (with_reducible assumption) | omega)); intro _ _ _ _ _ _ _ _ _; (try dsimp only))
  k_with "subscriptTail Name Name ref int" => (k_here; (with_reducible show wpAny _ _ (subscriptTail (Expr.Name (Str.ofString "block") _) _ (Value.ref _) (Value.int _ _)) _ _ _); k_dflt (refine' itemB_K ?qF ?qhl ?qhi ?qh0 ?qh1 ?qhz ?_; (case qF => k_asm); (case qhl => assumption); (case qhi => assumption); (case qh0 => exact fmod_lo _ (by first | exact pos_ne (by assumption) | omega)); (case qh1 => exact fmod_hi _ (by first | exact pos_ne (by assumption) | omega)); (case qhz => first | (with_reducible assumption) | omega)); intro _ _ _ _ _ _ _ _ _; (try dsimp only))
  k_with "subscriptTail" => (k_here; (with_reducible show wpAny _ _ (subscriptTail (Expr.Name (Str.ofString "block") _) (Expr.Slice none (some _) none _) (Value.ref _) (Value.ref _)) _ _ _); k_dflt (refine' cutHi_K ?qF ?qN ?ql ?qz ?qv ?_ ?qs ?qt; (case qF => k_asm); (case qN => k_asm); (case ql => assumption); (case qz => first | (with_reducible assumption) | omega); (case qv => exact rfl); (case qs => with_unfolding_all rfl); (case qt => exact fun _ => rfl)); intro _ _ _ _; (try dsimp only))
  k_with "subscriptTail" => (k_here; (with_reducible show wpAny _ _ (subscriptTail (Expr.Name (Str.ofString "block") _) (Expr.Slice (some _) none none _) (Value.ref _) (Value.ref _)) _ _ _); k_dflt (refine' cutLo_K ?qF ?qN ?ql ?qz ?qv ?_ ?qs ?qt; (case qF => k_asm); (case qN => k_asm); (case ql => assumption); (case qz => first | (with_reducible assumption) | omega); (case qv => exact rfl); (case qs => with_unfolding_all rfl); (case qt => exact fun _ => rfl)); intro _ _ _ _; (try dsimp only))
  k_with "subscriptTail Name Slice ref ref" => (k_here; (with_reducible show wpAny _ _ (subscriptTail (Expr.Name (Str.ofString "block") _) (Expr.Slice none (some _) none _) (Value.ref _) (Value.ref _)) _ _ _); k_dflt (refine' cutHi_K ?qF ?qN ?ql ?qz ?qv ?_ ?qs ?qt; (case qF => k_asm); (case qN => k_asm); (case ql => assumption); (case qz => first | (with_reducible assumption) | omega); (case qv => exact rfl); (case qs => with_unfolding_all rfl); (case qt => exact fun _ => rfl)); intro _ _ _ _; (try dsimp only))
  k_with "subscriptTail Name Slice ref ref" => (k_here; (with_reducible show wpAny _ _ (subscriptTail (Expr.Name (Str.ofString "block") _) (Expr.Slice (some _) none none _) (Value.ref _) (Value.ref _)) _ _ _); k_dflt (refine' cutLo_K ?qF ?qN ?ql ?qz ?qv ?_ ?qs ?qt; (case qF => k_asm); (case qN => k_asm); (case ql => assumption); (case qz => first | (with_reducible assumption) | omega); (case qv => exact rfl); (case qs => with_unfolding_all rfl); (case qt => exact fun _ => rfl)); intro _ _ _ _; (try dsimp only))
  k_with "call builtin:len" => (k_here; k_dflt (refine' lenB_K ?qF ?ql ?qz ?_; (case qF => k_asm); (case ql => assumption); (case qz => first | (with_reducible assumption) | omega)); intro _ _; (try dsimp only))
  k_with "compareOp Eq ref ref" => (k_here; k_dflt (refine' eqB_nil ?qF ?qN ?ql ?qm ?qu ?_; (case qF => k_asm); (case qN => k_asm); (case ql => assumption); (case qm => k_mem); (case qu => first | omega | (dsimp only; omega) | (dsimp only [AZ, Around.deeper]; omega))); (try dsimp only))
  k_with "binaryOp Add ref ref" => (k_here; k_dflt (refine' addL_K ?qF ?qN ?qa ?qb ?qz ?_; (case qF => k_asm); (case qN => k_asm); (case qa => first | exact isl_mem (by k_asm) (by k_mem) | exact isl_base (by k_asm) (by assumption)); (case qb => first | exact isl_mem (by k_asm) (by k_mem) | exact isl_base (by k_asm) (by assumption)); (case qz => first | exact zt (by with_reducible assumption) | exact ztd (by with_reducible assumption) | exact ztd2 (by with_reducible assumption) | exact zl (by with_reducible assumption) | (simp only [List.length_append, List.length_take, List.length_drop, List.length_cons, List.length_nil]; omega))); intro _ _ _ _; (try dsimp only))
  k_with "assign Tuple" => (k_here; k_dflt (refine' assignPair_K ?qhh ?qF ?qN ?qT ?qx ?qx2 ?qp ?_; (case qhh => exact rfl); (case qF => k_asm); (case qN => k_asm); (case qT => with_reducible assumption); (case qx => exact rfl); (case qx2 => exact rfl); (case qp => exact rfl)); intro _ _ _ _; (try dsimp only))
  have X := G.X
  have T := G.T
  have kret : KeepP _ := ret
  clear ret
  have hd4 : dp + 1 + 4 < recursionLimit := by omega
  have hd10 : dp + 1 + 10 < recursionLimit := by omega
  have hu30 : un + 3 + 30 < cLine := by omega
  have hu60 : un + 3 + 60 < cLine := by omega
  have hz1 : items.length ≤ 1000 := by omega
  refine wpAny_call ?_
  k_dflt (refine' enter (binds := [(Str.ofString "block", .ref ba), (Str.ofString "deed", .int d td), (Str.ofString "part", .int p tp)]) X T.nolimit ?ho ?hcd ?hroom ?hbind ?hloc ?_ ?c5 ?c6 ?c7 ?c8; (case ho => k_is); (case hcd => k_is); (case hroom => show dp < recursionLimit; omega); (case hbind => exact rfl); (case hloc => exact locs rfl); (case c5 => decide); (case c6 => exact rfl); (case c7 => exact rfl); (case c8 => exact rfl); k_whole; intro L' h' F' N')
  k_steps
  all_goals unfold KeepP at kret
  all_goals (rename News _ _ _ _ => Nn; rename Fr _ _ _ _ => Fn)
  all_goals refine' kret _ _ _ _ 0 Fn.keep (Nn _ (.head _)).1 _ _
  all_goals first
    | exact len_a _ _ _
    | exact len_b _ _
    | exact len_c (clip_mono (fmod_lo p (pos_ne (by with_reducible assumption))))
    | exact len_d (clip_mono (fmod_lo p (pos_ne (by with_reducible assumption))))
    | (simp only [List.length_append, List.length_take, List.length_drop, List.length_cons, List.length_nil]; omega)
    | (have hc2 := clip_mono (n := items.length) (fmod_lo p (by omega : (0 : Int) < (items.length : Int))); simp only [List.length_append, List.length_take, List.length_drop, List.length_cons, List.length_nil]; omega)
    | (repeat' (first | exact ok_take Fn hi | exact ok_drop Fn hi | exact ok_all Fn hi | exact ok_one Nn (by k_mem) (by omega) (by omega) | apply ok_app))

end
section
open PySem PySem.W PyProof.Rows PySem.Calls PySem.W.X
set_option Elab.async false
set_option maxRecDepth 100000
set_option maxHeartbeats 2000000
set_option linter.unusedVariables false
set_option pp.deepTerms false
set_option pp.maxSteps 6000
theorem Due_c {w : World} {mean : ExcName → Option Value} {mg mb : Str → Option Value} {b0 : Heap} {outer : List Env} {dp un : Nat} {gd : Option (List Code)} {s : Shared} {Q E : Value → Shared → Prop}
    {ba : Addr} {b : Bool}
    (G : Gd w mean mg mb b0 outer s.heap) (hdp : dp + 4 < recursionLimit) (hun : un + 30 < cLine)
    (ok : b = true → ∀ T h' tk t, Ext s.heap h' → s.heap.get? T = none → h'.get? T = some { cls := .type "tuple", data := .seq #[.str (Str.ofString "told") t, .ref ba, .ref ba] } → Q (.ref T) { s with heap := h', toks := tk })
    (bad : b = false → ∀ T h' tk t t1, Ext s.heap h' → s.heap.get? T = none → h'.get? T = some { cls := .type "tuple", data := .seq #[.str (Str.ofString "refused") t, .int 1 t1, .ref ba] } → Q (.ref T) { s with heap := h', toks := tk }) :
    wpAny (model Pg w) (AZ dp un gd outer) (call (.ref 374) [.ref ba, .bool b]) Q E s := by
  k_with_none
  k_with "getMethod bytes" => (k_here; (with_reducible first | refine gm_lower ?_ | refine gm_strip ?_ | refine gm_find ?_))
  k_with "pyReprObj" => (k_here; (refine repr_K (by kba_ints) (by kba_size) ?_); intro _ _ _ _; (try dsimp only))
  k_with "call builtin:bytes.lower" => (k_here; (refine lower_K (by kba_ints) (by kba_size) ?_); intro _ _ _ _; (try dsimp only))
  k_with "call builtin:bytes.find" => (k_here; (refine find_K (by kba_ints) (by first | assumption | rfl | decide +kernel) ?_); intro _ _ _ _; (try dsimp only))
  k_with "compareOp Eq" => (k_here; (with_reducible show wpAny _ _ (compareOp CmpOp.Eq (Value.bytes _ _) (Value.bytes _ _)) _ _ _); (refine eqB_K (by kba_ints) (by kba_ints) ?_))
  k_with "compareOp NotEq" => (k_here; (with_reducible show wpAny _ _ (compareOp CmpOp.NotEq (Value.bytes _ _) (Value.bytes _ _)) _ _ _); (refine neB_K (by kba_ints) (by kba_ints) ?_))
  k_with "compareOp Eq bytes bytes" => (k_here; (refine eqB_K (by kba_ints) (by kba_ints) ?_))
  k_with "compareOp NotEq bytes bytes" => (k_here; (refine neB_K (by kba_ints) (by kba_ints) ?_))
  k_with "compareOp In bytes ref" => (k_here; k_dflt (first | (refine' in_tupB (kss := ownL) (tupK ?qX ?qF ?qh) ?qhb ?qhit ?qhk ?_; (case qX => assumption); (case qF => assumption); (case qh => k_is); (case qhb => exact rfl); (case qhit => exact rfl); (case qhk => kba_ints)) | (refine' in_tupB (kss := allowedL) (tupK ?qX ?qF ?qh) ?qhb ?qhit ?qhk ?_; (case qX => assumption); (case qF => assumption); (case qh => k_is); (case qhb => exact rfl); (case qhit => exact rfl); (case qhk => kba_ints))))
  k_with "compareOp NotIn bytes ref" => (k_here; k_dflt (refine' notIn_tupB (kss := allowedL) (tupK ?qX ?qF ?qh) ?qhb ?qhit ?qhk ?_; (case qX => assumption); (case qF => assumption); (case qh => k_is); (case qhb => exact rfl); (case qhit => exact rfl); (case qhk => kba_ints)))
  k_with "subscriptTail" => (k_here; (with_reducible show wpAny _ _ (subscriptTail _ _ (Value.bytes _ _) (Value.int _ _)) _ _ _); (first | refine item0_A (by kba_ints) (by omega) (by omega) ?_ | refine itemL_A (by kba_ints) (by omega) (by omega) ?_); intro _ _ _ _ _ _; (try dsimp only))
  k_with "exec For" => (k_here; (with_unfolding_all refine' For_mine ?qF ?qhE ?qhx ?qhp ?qhs ?_; (case qF => assumption); (case qhE => assumption); (case qhx => exact rfl); (case qhp => exact rfl); (case qhs => exact fun _ => rfl); k_whole))
  k_with "exec For Name Name cons nil" => (k_here; (with_unfolding_all refine' For_mine ?qF ?qhE ?qhx ?qhp ?qhs ?_; (case qF => assumption); (case qhE => assumption); (case qhx => exact rfl); (case qhp => exact rfl); (case qhs => exact fun _ => rfl); k_whole))
  k_with "subscriptTail" => (k_here; (with_reducible show wpAny _ _ (subscriptTail _ _ (Value.ref _) (Value.int _ _)) _ _ _); (first | (refine pair0_A (by k_asm) (by assumption) ?_) | (refine pair1_A (by k_asm) (by assumption) ?_)))
  have X := G.X
  have T := G.T
  have kok : KeepP _ := ok
  have kbad : KeepP _ := bad
  clear ok bad
  refine wpAny_call ?_
  k_dflt (refine' enter (binds := [(Str.ofString "block", .ref ba), (Str.ofString "sound", .bool b)]) X T.nolimit ?ho ?hcd ?hroom ?hbind ?hloc ?_ ?c5 ?c6 ?c7 ?c8; (case ho => k_is); (case hcd => k_is); (case hroom => show dp < recursionLimit; omega); (case hbind => exact rfl); (case hloc => exact locs rfl); (case c5 => decide); (case c6 => exact rfl); (case c7 => exact rfl); (case c8 => exact rfl); k_whole; intro L' h' F' N')
  k_steps
  all_goals (rename News _ _ _ _ => Nn; rename Fr _ _ _ _ => Fn)
  all_goals first
    | exact kok (by assumption) _ _ _ _ Fn.keep (Nn _ (.head _)).2.2 (Nn _ (.head _)).1
    | exact kbad (by assumption) _ _ _ _ _ Fn.keep (Nn _ (.head _)).2.2 (Nn _ (.head _)).1
open PySem.SeqAt in
theorem inPair_K {w : World} {A : Around} {s : Shared} {Q E : Value → Shared → Prop} {h₀ : Heap} {L : Addr} {m : PySem.Str → Option Value} {news : List (Addr × Obj)} {U ba : Addr} {b v : Array UInt8} {tb tv : Tok} {cU cb n : Nat} {items : List Value}
    (F : Fr h₀ L s.heap m) (N : News h₀ L s.heap news) (hm : (U, pairO b v tb tv cU) ∈ news) (hl : h₀.get? ba = some (listO items.toArray cb)) (hi : ∀ v ∈ items, ItemH h₀ n v) (hu : A.units + 1 < cLine) (h : ∀ k, Q (.bool k) s) :
    wpAny (model Pg w) A (compareOp .In (.ref U) (.ref ba)) Q E s := by
  classical
  have ex : ∀ y ∈ items, ∃ k, EqAt A.in1 s y (.ref U) k := by
    intro y hy
    obtain ⟨T, c, x, tc, tx, cT, rfl, e, _, _⟩ := hi y hy
    have hne : T ≠ U := fun q => by rw [q, (N _ hm).2.2] at e; cases e
    refine ⟨_, EqAt.of_refs hne (RcAt.tuples (e := fun j => match j with | 0 => decide (KBw.bInts c = KBw.bInts b) | _ => decide (KBw.bInts x = KBw.bInts v)) (⟨_, F.keep _ _ e, rfl, _, rfl⟩ : s.heap.IsTuple T #[.bytes c tc, .bytes x tx]) (⟨_, (N _ hm).1, rfl, _, rfl⟩ : s.heap.IsTuple U #[.bytes b tb, .bytes v tv]) (by first | omega | (dsimp only [Around.in1]; omega)) fun j h1 h2 => ?_)⟩
    match j, h1 with
    | 0, _ => exact (eqGives_bytes c b tc tb).at _ _
    | 1, _ => exact (eqGives_bytes x v tx tv).at _ _
  refine in_listAt (fun y => if hy : ∃ k, EqAt A.in1 s y (.ref U) k then Classical.choose hy else false) (⟨_, F.keep _ _ hl, rfl, _, rfl⟩ : s.heap.IsList ba items.toArray) (fun y hy => ?_) (h _)
  have hy' : ∃ k, EqAt A.in1 s y (.ref U) k := ex y (by simpa using hy)
  rw [dif_pos hy']
  exact Classical.choose_spec hy'

end
section
open PySem PySem.W PyProof.Rows PySem.Calls PySem.W.X
set_option Elab.async false
set_option maxRecDepth 100000
set_option maxHeartbeats 2000000
set_option linter.unusedVariables false
set_option pp.deepTerms false
set_option pp.maxSteps 6000
theorem Doubtful_c {w : World} {mean : ExcName → Option Value} {mg mb : Str → Option Value} {b0 : Heap} {outer : List Env} {dp un : Nat} {gd : Option (List Code)} {s : Shared} {Q E : Value → Shared → Prop}
    {ba : Addr} {items : List Value} {cb : Nat} {k : Str} {kt : Tok}
    (G : Gd w mean mg mb b0 outer s.heap) (hdp : dp + 30 < recursionLimit) (hun : un + 100 < cLine)
    (hbl : s.heap.get? ba = some (listO items.toArray cb)) (hi : ∀ v ∈ items, ItemH s.heap 1000 v) (hz : items.length ≤ 1000)
    (ret : ∀ h' tk b, Ext s.heap h' → Q (.bool b) { s with heap := h', toks := tk }) :
    wpAny (model Pg w) (AZ dp un gd outer) (call (.ref 360) [.ref ba, .str k kt]) Q E s := by
  k_with_none
  k_with "getMethod bytes" => (k_here; (with_reducible first | refine gm_lower ?_ | refine gm_strip ?_ | refine gm_find ?_))
  k_with "pyReprObj" => (k_here; (refine repr_K (by kba_ints) (by kba_size) ?_); intro _ _ _ _; (try dsimp only))
  k_with "call builtin:bytes.lower" => (k_here; (refine lower_K (by kba_ints) (by kba_size) ?_); intro _ _ _ _; (try dsimp only))
  k_with "call builtin:bytes.find" => (k_here; (refine find_K (by kba_ints) (by first | assumption | rfl | decide +kernel) ?_); intro _ _ _ _; (try dsimp only))
  k_with "compareOp Eq" => (k_here; (with_reducible show wpAny _ _ (compareOp CmpOp.Eq (Value.bytes _ _) (Value.bytes _ _)) _ _ _); (refine eqB_K (by kba_ints) (by kba_ints) ?_))
  k_with "compareOp NotEq" => (k_here; (with_reducible show wpAny _ _ (compareOp CmpOp.NotEq (Value.bytes _ _) (Value.bytes _ _)) _ _ _); (refine neB_K (by kba_ints) (by kba_ints) ?_))
  k_with "compareOp Eq bytes bytes" => (k_here; (refine eqB_K (by kba_ints) (by kba_ints) ?_))
  k_with "compareOp NotEq bytes bytes" => (k_here; (refine neB_K (by kba_ints) (by kba_ints) ?_))
  k_with "compareOp In bytes ref" => (k_here; k_dflt (first | (refine' in_tupB (kss := ownL) (tupK ?qX ?qF ?qh) ?qhb ?qhit ?qhk ?_; (case qX => assumption); (case qF => assumption); (case qh => k_is); (case qhb => exact rfl); (case qhit => exact rfl); (case qhk => kba_ints)) | (refine' in_tupB (kss := allowedL) (tupK ?qX ?qF ?qh) ?qhb ?qhit ?qhk ?_; (case qX => assumption); (case qF => assumption); (case qh => k_is); (case qhb => exact rfl); (case qhit => exact rfl); (case qhk => kba_ints))))
  k_with "compareOp NotIn bytes ref" => (k_here; k_dflt (refine' notIn_tupB (kss := allowedL) (tupK ?qX ?qF ?qh) ?qhb ?qhit ?qhk ?_; (case qX => assumption); (case qF => assumption); (case qh => k_is); (case qhb => exact rfl); (case qhit => exact rfl); (case qhk => kba_ints)))
  k_with "subscriptTail" => (k_here; (with_reducible show wpAny _ _ (subscriptTail _ _ (Value.bytes _ _) (Value.int _ _)) _ _ _); (first | refine item0_A (by kba_ints) (by omega) (by omega) ?_ | refine itemL_A (by kba_ints) (by omega) (by omega) ?_); intro _ _ _ _ _ _; (try dsimp only))
  k_with "exec For" => (k_here; (with_unfolding_all refine' For_mine ?qF ?qhE ?qhx ?qhp ?qhs ?_; (case qF => assumption); (case qhE => assumption); (case qhx => exact rfl); (case qhp => exact rfl); (case qhs => exact fun _ => rfl); k_whole))
  k_with "exec For Name Name cons nil" => (k_here; (with_unfolding_all refine' For_mine ?qF ?qhE ?qhx ?qhp ?qhs ?_; (case qF => assumption); (case qhE => assumption); (case qhx => exact rfl); (case qhp => exact rfl); (case qhs => exact fun _ => rfl); k_whole))
  k_with "subscriptTail" => (k_here; (with_reducible show wpAny _ _ (subscriptTail _ _ (Value.ref _) (Value.int _ _)) _ _ _); (first | (refine pair0_A (by k_asm) (by assumption) ?_) | (refine pair1_A (by k_asm) (by assumption) ?_)))
  k_with "exec Assign cons ListComp" => (k_here; k_dflt (refine' acomp_block (q := fun _ => true) (b := true) ?qhh ?qF ?qN ?qhiter ?qhl ?qhi ?qhN ?qhz ?qhL ?qhy ?qhp ?qhsw ?qhclos ?qhcell ?qhkind ?qhnames ?qhs ?qhx ?qhx2 ?qhxx ?qhxe ?qhd ?qtst ?_; (case qhh => exact rfl); (case qF => k_asm); (case qN => k_asm); (case qhiter => (intro _ hq'; k_steps; exact hq')); (case qhl => assumption); (case qhi => assumption); (case qhN => exact Nat.le_refl _); (case qhz => assumption); (case qhL => exact rfl); (case qhy => exact rfl); (case qhp => exact rfl); (case qhsw => with_unfolding_all rfl); (case qhclos => with_unfolding_all rfl); (case qhcell => decide); (case qhkind => rfl); (case qhnames => decide); (case qhs => (intro v'; rfl)); (case qhx => rfl); (case qhx2 => rfl); (case qhxx => decide); (case qhxe => rfl); (case qhd => decide); (case qtst => (intro _ _ _ _ _ _ _ _ _ _ _ _ _ _ _ _ _ S'; exact wpAny_pure ⟨rfl, _, _, rfl, fun _ _ _ e => e, S'.ns⟩)); k_whole); intro _ _ _ _ _ _ _ _ _; (try dsimp only))
  k_with "compareOp In ref ref" => (k_here; k_dflt (refine' inPair_K ?qF ?qN ?qm ?ql ?qi ?qu ?_; (case qF => k_asm); (case qN => k_asm); (case qm => k_mem); (case ql => assumption); (case qi => assumption); (case qu => first | omega | (dsimp only; omega) | (dsimp only [AZ, Around.deeper]; omega))); intro _; (try dsimp only))
  k_with "compareOp In bytes ref" => (k_here; k_dflt (refine' in_made_K ?qN ?qhm ?qM ?qhk ?_; (case qN => k_asm); (case qhm => k_mem); (case qM => with_reducible assumption); (case qhk => kba_ints)); (try dsimp only))
  k_with "compareOp NotIn bytes ref" => (k_here; k_dflt (refine' notin_made_K ?qN ?qhm ?qM ?qhk ?_; (case qN => k_asm); (case qhm => k_mem); (case qM => with_reducible assumption); (case qhk => kba_ints)); (try dsimp only))
  have X := G.X
  have T := G.T
  have kret : KeepP _ := ret
  clear ret
  refine wpAny_call ?_
  k_dflt (refine' enter (binds := [(Str.ofString "block", .ref ba), (Str.ofString "kind", .str k kt)]) X T.nolimit ?ho ?hcd ?hroom ?hbind ?hloc ?_ ?c5 ?c6 ?c7 ?c8; (case ho => k_is); (case hcd => k_is); (case hroom => show dp < recursionLimit; omega); (case hbind => exact rfl); (case hloc => exact locs rfl); (case c5 => decide); (case c6 => exact rfl); (case c7 => exact rfl); (case c8 => exact rfl); k_whole; intro L' h' F' N')
  k_steps
  all_goals first
    | exact kret _ _ _ (Fr.keep (by assumption))

end
section
open PySem PySem.W PyProof.Rows PySem.Calls PySem.W.X Builtin Builtin.ObjectAttr Builtin.Getset_descriptor
set_option Elab.async false
set_option maxRecDepth 100000
set_option maxHeartbeats 1000000
set_option linter.unusedVariables false
theorem fg_new {w : World} : findCls (frJ.heap_1 w.params) (.ref 182) (.type "type") "__new__" = findCls (frJ.heap_1 w.params) (.ref 182) (.type "type") "__new__" := rfl
theorem fg_typ {w : World} : instIn (frJ.heap_1 w.params) (.ref 182) (.type "type") = some true := by kernel_rfl
theorem fg_meta {w : World} : typeIn (frJ.heap_1 w.params) (.ref 182) = some (.type "type") := by kernel_rfl
theorem fg_reads {w : World} : readsIn (frJ.heap_1 w.params) 182 (.type "type") = true := by kernel_rfl
theorem fg_call {w : World} : specialIn (frJ.heap_1 w.params) (.ref 182) "__call__" = some (some (.builtin "type.__call__")) := by kernel_rfl
theorem fg_self {w : World} : subIn (frJ.heap_1 w.params) (.ref 182) (.ref 182) = some true := by kernel_rfl
theorem fg_init {w : World} : findIn (frJ.heap_1 w.params) (.ref 182) "__init__" = some (some (.builtin "object.__init__")) := by kernel_rfl
theorem fg_made {w : World} : peek (frJ.heap_1 w.params) ⟨Pg, w.params⟩ (Bind.madeBy (.ref 182)) = some none := by kernel_rfl
theorem fg_mro {w : World} : (peek (frJ.heap_1 w.params) ⟨Pg, w.params⟩ (mroOf (.ref 182))).map (·.isEmpty) = some false := by kernel_rfl
theorem fg_get {w : World} : findCls (frJ.heap_1 w.params) (.ref 182) (.type "type") "__new__" = some (.get (.builtin "staticmethod.__get__") (.ref 183) .none (.ref 182)) := by kernel_rfl
noncomputable def isRec : Option (List Value) → Bool
  | some (.ref 126 :: _) => true
  | _ => false
theorem fg_rec0 {w : World} : isRec (recIn (frJ.heap_1 w.params) 183 "staticmethod") = true := by kernel_rfl
theorem fg_rec {w : World} : ∃ rest, recIn (frJ.heap_1 w.params) 183 "staticmethod" = some (.ref 126 :: rest) := by
  have h := @fg_rec0 w
  generalize recIn (frJ.heap_1 w.params) 183 "staticmethod" = r at h
  unfold isRec at h
  split at h
  · exact ⟨_, rfl⟩
  · cases h
noncomputable def isC : Option Obj → Bool
  | some ⟨_, _, .cls _, _⟩ => true
  | _ => false
theorem fg_cls0 {w : World} : isC ((frJ.heap_1 w.params).lookup 182) = true := by kernel_rfl
theorem fg_cls {w : World} : ∃ oc od cd sl, (frJ.heap_1 w.params).lookup 182 = some ⟨oc, od, .cls cd, sl⟩ := by
  have h := @fg_cls0 w
  generalize (frJ.heap_1 w.params).lookup 182 = r at h
  unfold isC at h
  split at h
  · exact ⟨_, _, _, _, rfl⟩
  · cases h
theorem fg_mro' {w : World} : ∃ l, peek (frJ.heap_1 w.params) ⟨Pg, w.params⟩ (mroOf (.ref 182)) = some l ∧ l.isEmpty = false := Option.map_eq_some_iff.mp fg_mro
theorem tn_entry : entryFor table "tuple.__new__" = some Builtin.«tuple.__new__» := entryFor_of_tree (by kernel_rfl)
theorem tn_plain : plainId "tuple.__new__" = true := by decide +kernel
theorem tn_check {w : World} (D : Addr) : peek (frJ.heap_1 w.params) ⟨Pg, w.params⟩ (checkBuiltinCall "tuple.__new__" ⟨[.ref 182, .ref D], []⟩) = some () := by kernel_rfl
theorem tn_istype {w : World} : peek (frJ.heap_1 w.params) ⟨Pg, w.params⟩ (isType (.ref 182)) = some true := by kernel_rfl
theorem tn_here {w : World} : peek (frJ.heap_1 w.params) ⟨Pg, w.params⟩ (Bind.madeHere "tuple.__new__" (.ref 182)) = some () := by kernel_rfl
theorem tn_del {w : World} : peek (frJ.heap_1 w.params) ⟨Pg, w.params⟩ (classHasDel 182) = some false := by kernel_rfl
theorem tnew_K {w : World} {A : Around} {s : Shared} {Q E : Value → Shared → Prop} {D : Addr} {p q r t : Bool} (hh : A.handled = none) (X : (frJ.heap_1 w.params).In s.heap) (hD : s.heap.get? D = some { cls := .type "tuple", data := .seq #[.bool p, .bool q, .bool r, .bool t] })
    (h : ∀ x dx h' tk, Ext s.heap h' → s.heap.get? x = none → s.heap.get? dx = none → h'.get? x = some (flagO p q r t dx 0) → Q (.ref x) { s with heap := h', toks := tk }) :
    wpAny (model Pg w) A (call (.builtin "tuple.__new__") [.ref 182, .ref D]) Q E s := by
  have l1 : Looks (model Pg w) s.heap (checkBuiltinCall "tuple.__new__" ⟨[.ref 182, .ref D], []⟩) () := Looks.of_peek X (tn_check D)
  have l2 : Looks (model Pg w) s.heap (isType (.ref 182)) true := Looks.of_peek X tn_istype
  have l3 : Looks (model Pg w) s.heap (isSubtype (.ref 182) (.type "tuple")) true := looks_subIn X sub182
  have l4 : Looks (model Pg w) s.heap (Bind.madeHere "tuple.__new__" (.ref 182)) () := Looks.of_peek X tn_here
  have l5 : Looks (model Pg w) s.heap (typeLookup (.ref 182) "__init__") (some (.builtin "object.__init__")) := looks_findIn X fg_init
  refine wpAny_call (codeAny_call_builtin tn_plain tn_entry (l1.here ?_))
  unfold Builtin.«tuple.__new__»
  refine wpAny_bind (l2.here ?_)
  rw [if_neg (by decide)]
  refine wpAny_bind (l3.here ?_)
  rw [if_neg (by decide)]
  refine wpAny_bind (l4.here ?_)
  refine wpAny_bind (l5.here ?_)
  rw [if_pos (by decide)]
  refine wpAny_bind (wpAny_of_eq (a := ()) rfl ?_)
  refine wpAny_bind (wpAny_of_eq (a := ()) rfl ?_)
  dsimp only
  rw [if_neg (by decide)]
  refine wpAny_bind (wpAny_collect_seq D (.inr rfl) hD rfl rfl (fun h1 x1 => ?_) (by show 4 ≤ sizeLine; decide))
  refine wpAny_bind (wpAny_pure ?_)
  refine wpAny_bind (wpAny_alloc ?_)
  refine wpAny_bind ?_
  unfold newObj newObjAsIs
  dsimp only
  rw [if_neg (by exact (by decide : ¬ (4 > sizeLine)))]
  refine wpAny_bind (wpAny_alloc ?_)
  have x2 : Ext s.heap ((h1.push { cls := .type "dict", data := .dict #[] }).push (flagO p q r t h1.objs.size 0)) := fun b o e => Heap.get?_push_of_some _ (Heap.get?_push_of_some _ (x1 b o e))
  have l6 : Looks (model Pg w) s.heap (classHasDel 182) false := Looks.of_peek X tn_del
  refine wpAny_bind ?_
  refine l6 _ _ _ _ x2 ?_
  rw [if_neg (by decide)]
  refine wpAny_pure (wpAny_pure ?_)
  refine h _ h1.objs.size _ _ x2 ?_ ?_ (Heap.get?_push_size _ rfl)
  · cases e : s.heap.get? (h1.push { cls := .type "dict", data := .dict #[] }).objs.size with
    | none => rfl
    | some o => have := Heap.lt_size (x1 _ o e); rw [Heap.size_push] at this; exact absurd (Nat.lt_of_succ_lt this) (Nat.lt_irrefl _)
  · cases e : s.heap.get? h1.objs.size with
    | none => rfl
    | some o => exact absurd (Heap.lt_size (x1 _ o e)) (Nat.lt_irrefl _)
theorem tnew_N {w : World} {A : Around} {s : Shared} {Q E : Value → Shared → Prop} {D : Addr} {p q r t : Bool} {h₀ : Heap} {L : Addr} {m : PySem.Str → Option Value} {news : List (Addr × Obj)} (hh : A.handled = none) (F : Fr h₀ L s.heap m) (N : News h₀ L s.heap news) (X : (frJ.heap_1 w.params).In h₀) (hD : (D, ({ cls := .type "tuple", data := .seq #[.bool p, .bool q, .bool r, .bool t] } : Obj)) ∈ news)
    (h : ∀ x dx h' tk, Fr h₀ L h' m → News h₀ L h' ((x, flagO p q r t dx 0) :: news) → Q (.ref x) { s with heap := h', toks := tk }) :
    wpAny (model Pg w) A (call (.builtin "tuple.__new__") [.ref 182, .ref D]) Q E s :=
  tnew_K hh (X.keeps F.keep) (N _ hD).1 fun x dx h' tk x' hx _ hg => h x dx h' tk (Ext.fr x' F) (news_new F N x' hx hg)
theorem oi_args5 (a b c d e : Value) : argsOk "object.__init__" ⟨[a, b, c, d, e], []⟩ := by unfold argsOk; kernel_rfl
theorem fg_obj {w : World} : subIn (frJ.heap_1 w.params) (.ref 182) (.type "object") = some true := by kernel_rfl
theorem Flags_c {w : World} {mean : ExcName → Option Value} {mg mb : Str → Option Value} {b0 : Heap} {outer : List Env} {dp un : Nat} {gd : Option (List Code)} {s : Shared} {Q E : Value → Shared → Prop} {p q r t : Bool} {h₀ : Heap} {L : Addr} {m : PySem.Str → Option Value} {news : List (Addr × Obj)}
    (F : Fr h₀ L s.heap m) (N : News h₀ L s.heap news) (X₀ : (frJ.heap_1 w.params).In h₀) (G : Gd w mean mg mb b0 outer s.heap) (hdp : dp + 10 < recursionLimit) (hun : un + 60 < cLine)
    (ret : ∀ x dx h' tk, Fr h₀ L h' m → News h₀ L h' ((x, flagO p q r t dx 0) :: news) → Q (.ref x) { s with heap := h', toks := tk }) :
    wpAny (model Pg w) (AZ dp un gd outer) (call (.ref 182) [.bool p, .bool q, .bool r, .bool t]) Q E s := by
  k_with_none
  k_with "getMethod type:tuple" => (k_here; refine' method_type ?qF ?qX ?qm (by decide +kernel) ?qe ?qh ?_; (case qF => k_asm); (case qX => k_asm); (case qm => exact meta_tuple); (case qe => k_dflt k_is); (case qh => k_handed))
  k_with "call builtin:tuple.__new__" => (k_here; k_dflt (refine' tnew_N ?qhh ?qF ?qN ?qX ?qD ?_; (case qhh => exact rfl); (case qF => k_asm); (case qN => k_asm); (case qX => k_asm); (case qD => k_mem)); intro _ _ _ _ _ _; (try dsimp only))
  have X := G.X
  refine wpAny_call ?_
  refine codeAny_of_tree ?_
  show wpAny _ _ (callAny (.ref 182) _) _ _ _
  have hC : ∃ oc od cd sl, s.heap.get? 182 = some ⟨oc, od, .cls cd, sl⟩ := by
    obtain ⟨oc, od, cd, sl, h⟩ := @fg_cls w
    exact ⟨oc, od, cd, sl, X _ _ h⟩
  obtain ⟨oc, od, cd, sl, hC⟩ := hC
  have call : Looks (model Pg w) s.heap (specialOf (.ref 182) "__call__") (some (.builtin "type.__call__")) := looks_specialIn X fg_call
  have typ : Looks (model Pg w) s.heap (isInstance (.ref 182) (.type "type")) true := looks_instIn X fg_typ
  obtain ⟨l, hl, hle⟩ := @fg_mro' w
  have hm : Looks (model Pg w) s.heap (mroOf (.ref 182)) l := Looks.of_peek X hl
  have made : Looks (model Pg w) s.heap (Bind.madeBy (.ref 182)) none := Looks.of_peek X fg_made
  obtain ⟨rest, hrec⟩ := @fg_rec w
  refine nd_load hC ?_
  show wpAny _ _ (callAny.viaDunder (.ref 182) _) _ _ _
  unfold callAny.viaDunder
  refine wpAny_bind (call.at ?_)
  dsimp only
  rw [tc_bind]
  refine wpAny_bind (wpAny_pure (wpAny_bind (wpAny_pure ?_)))
  refine wpAny_pure (a := PySem.Fin.again (.call (.builtin "type.__call__") ⟨.ref 182 :: [.bool p, .bool q, .bool r, .bool t], []⟩)) (And.intro rfl ?_)
  refine codeAny_call_builtin_at (Code.quiet_builtin _ (by decide +kernel)) entry_typeCall (check_slot tc_kind tc_split typ (tc_args _ _ _) ?_)
  unfold Builtin.«type.__call__»
  repeat (first | simp only [hle, Bool.false_eq_true, if_false] | (with_reducible refine wpAny_call ?_) | (with_reducible refine cls_sm F X₀ fg_meta fg_reads fg_get hrec rfl ?_) | lk)
  have T := G.T
  k_dflt (refine' enter (binds := [(Str.ofString "_cls", .ref 182), (Str.ofString "is_client", .bool p), (Str.ofString "is_trailer", .bool q), (Str.ofString "is_response_header", .bool r), (Str.ofString "is_push_promise", .bool t)]) X T.nolimit ?ho ?hcd ?hroom ?hbind ?hloc ?_ ?c5 ?c6 ?c7 ?c8; (case ho => k_is); (case hcd => k_is); (case hroom => show dp + 1 < recursionLimit; omega); (case hbind => exact rfl); (case hloc => exact locs rfl); (case c5 => decide); (case c6 => exact rfl); (case c7 => exact rfl); (case c8 => exact rfl); k_whole; intro L' h' F' N')
  k_steps
  rename_i x1 dx1 h1 tk1 F1 N1
  have hx1 := (N1 _ (.head _)).1
  have X1 : (frJ.heap_1 w.params).In h1 := X.keeps F1.keep
  have t1 : Looks (model Pg w) h1 (typeOf (.ref x1)) (.ref 182) := (Looks.ld hx1).andThen .now
  have s1 : Looks (model Pg w) h1 (isSubtype (.ref 182) (.ref 182)) true := looks_subIn X1 fg_self
  have s2 : Looks (model Pg w) h1 (isSubtype (.ref 182) (.type "object")) true := looks_subIn X1 fg_obj
  have i1 : Looks (model Pg w) h1 (typeLookup (.ref 182) "__init__") (some (.builtin "object.__init__")) := looks_findIn X1 fg_init
  have b1 : Looks (model Pg w) h1 (bindSpecial (.builtin "object.__init__") (.ref x1)) (.builtin "object.__init__", [.ref x1]) := Looks.of_pure (oi_bind _)
  have m1 : Looks (model Pg w) h1 (Bind.madeBy (.ref 182)) none := Looks.of_peek X1 fg_made
  have ii : Looks (model Pg w) h1 (isInstance (.ref x1) (.type "object")) true := by unfold isInstance; exact t1.andThen s2
  unfold isInstance callSpecial? specialOf
  repeat (first | with_reducible refine wpAny_call ?_ | lk)
  refine codeAny_call_builtin oi_plain entry_oi (check_slot (i := "object.__init__") oi_kind oi_split ii (oi_args5 _ _ _ _ _) ?_)
  unfold Builtin.«object.__init__»
  dsimp only [List.cons_append, List.nil_append]
  rw [if_pos (by rfl)]
  refine wpAny_bind (t1.here ?_)
  refine wpAny_bind (i1.here ?_)
  refine wpAny_bind (m1.here ?_)
  dsimp only
  rw [if_neg (by decide), if_neg (by decide)]
  refine wpAny_pure ?_
  dsimp only
  repeat (first | simp only [bne_self_eq_false, Bool.false_eq_true, if_false] | lk)
  exact ret x1 dx1 h1 _ (Ext.fr F1.keep F) (news_new F N F1.keep (N1 _ (.head _)).2.2 hx1)

end
section
open PySem PySem.W PyProof.Rows PySem.Calls PySem.W.X
set_option Elab.async false
set_option maxRecDepth 100000
set_option maxHeartbeats 8000000
set_option linter.unusedVariables false
set_option pp.deepTerms false
set_option pp.maxSteps 6000
theorem errCode_K {w : World} {A : Around} {s : Shared} {Q E : Value → Shared → Prop} {h₀ : Heap} {L e : Addr} {m : PySem.Str → Option Value} {news : List (Addr × Obj)} {oe : Obj} {vs : Array Value} {expr : Bool}
    (X₀ : (frJ.heap_1 w.params).In h₀) (F : Fr h₀ L s.heap m) (N : News h₀ L s.heap news) (hm : (e, oe) ∈ news) (hc : oe.cls = PE) (hdt : oe.data = .fields vs) (hn : oe.dict = none)
    (h : ∀ t tk, Q (.int 1 t) { s with toks := tk }) : wpAny (model Pg w) A (getAttr (.ref e) (Str.ofString "error_code") expr) Q E s :=
  err_attr (X₀.keeps F.keep) (N _ hm).1 hc hdt hn h
structure TabOk (h : Heap) : Prop where
  c1 : ∃ ps, IsCd h 252 248 ps
  c2 : ∃ ps, IsCd h 259 255 ps ∧ ∀ cv, codeAmong inPos ps.toList = some cv → ∃ c', cv = .ref c' ∧ c' ≠ 255 ∧ c' ≠ 248 ∧ h.CodeRec cv inQual
theorem TabOk.keeps {h h' : Heap} (x : TabOk h) (k : Ext h h') : TabOk h' :=
  ⟨let ⟨ps, c⟩ := x.c1; ⟨ps, c.keeps k⟩, let ⟨ps, c, r⟩ := x.c2; ⟨ps, c.keeps k, fun cv hcv => let ⟨c', q1, q2, q3, c2, o2, vs, t, z1, z2, z3⟩ := r cv hcv; ⟨c', q1, q2, q3, c2, o2, vs, t, z1, k _ _ z2, z3⟩⟩⟩
structure ToldSt (outer : List Env) (s s' : Shared) : Prop where
  keep : ∀ b o, ¬ isTab b → b ∉ frs outer → s.heap.get? b = some o → s'.heap.get? b = some o
  frames : ∀ b ∈ frs outer, slotEq s.heap s'.heap b
  tab : TabOk s'.heap
  bare : AllBare s.gens → AllBare s'.gens
  drawn : s'.drawn = s.drawn
  os : s'.os = s.os
theorem lookup_kept {kp : List (Addr × Obj)} {h : Heap} {a : Addr} {o : Obj} (k : Kept kp h) (m : (a, o) ∈ kp) : kp.lookup a = some o := by
  induction kp with
  | nil => cases m
  | cons p r ih =>
    obtain ⟨b, o'⟩ := p
    rw [List.lookup_cons]
    have hm := k _ m
    split
    · rename_i e
      have e' : a = b := by simpa using e
      have hb := k (b, o') (.head _)
      rw [← e'] at hb
      have hb' : h.get? a = some o' := hb
      rw [show h.get? a = some o from hm] at hb'
      exact hb'.symm ▸ rfl
    · rename_i e
      rcases List.mem_cons.mp m with z | z
      · cases z; simp at e
      · exact ih (fun p hp => k p (.tail _ hp)) z
theorem listCopy_K {w : World} {A : Around} {s : Shared} {Q E : Value → Shared → Prop} {h₀ : Heap} {L l : Addr} {m : PySem.Str → Option Value} {news : List (Addr × Obj)} {items : Array Value} {c : Nat} (F : Fr h₀ L s.heap m) (N : News h₀ L s.heap news) (hl : h₀.get? l = some (listO items c)) (hz : items.size ≤ sizeLine)
    (h : ∀ D h' c', Fr h₀ L h' m → News h₀ L h' ((D, listO items c') :: news) → s.heap.get? D = none → Q (.ref D) { s with heap := h' }) : wpAny (model Pg w) A (call (.type "list") [.ref l]) Q E s := by
  refine list_copy (F.keep _ _ hl) rfl rfl hz fun h' S c' k hS hD => h S h' c' (Ext.fr k F) (fun p hp => ?_) (Heap.get?_none_of_le hS)
  rcases List.mem_cons.mp hp with rfl | hp
  · exact ⟨hD, Nat.ne_of_gt (Nat.lt_of_lt_of_le F.ns.lt hS), Heap.get?_none_of_le (Nat.le_trans F.above (Nat.le_trans (Nat.le_of_lt F.ns.lt) hS))⟩
  · exact Ext.news k N p hp
theorem isCode_move {h h' : Heap} {c P : Addr} {ps : Array Value} (x : IsCd h c P ps) (k1 : ∀ o, h.get? c = some o → h'.get? c = some o) (k2 : ∀ o, h.get? P = some o → h'.get? P = some o) : IsCd h' c P ps :=
  let ⟨op, e, r⟩ := isCode_tab x; r h' k1 (k2 op e)
theorem codeRec_ne {h : Heap} {cv : Value} {q : PySem.Str} {L : Addr} {m : PySem.Str → Option Value} {c : Addr} (x : h.CodeRec cv q) (e : cv = .ref c) (hn : h.Ns L m) : c ≠ L := fun z => by
  obtain ⟨c2, o2, vs, t, z1, z2, z3, _⟩ := x
  rw [e] at z1; injection z1 with z1
  obtain ⟨oL, es, ep, hoL, hdL, _⟩ := hn
  rw [← z1, z, hoL] at z2; cases z2; rw [hdL] at z3; cases z3
theorem codeRec_move {h h' : Heap} {cv : Value} {q : PySem.Str} {c : Addr} (x : h.CodeRec cv q) (e : cv = .ref c) (k : ∀ o, h.get? c = some o → h'.get? c = some o) : h'.CodeRec cv q := by
  obtain ⟨c2, o2, vs, t, z1, z2, z3⟩ := x
  have e2 : c = c2 := by rw [e] at z1; injection z1
  exact ⟨c2, o2, vs, t, z1, e2 ▸ k o2 (e2 ▸ z2), z3⟩
theorem TabOk.walk {h h' : Heap} {L : Addr} {m : PySem.Str → Option Value} (x : TabOk h) (hn : h.Ns L m) (k : ∀ b o, ¬ b = L → h.get? b = some o → h'.get? b = some o) (n1 : L ≠ 248) (n2 : L ≠ 255) (n3 : L ≠ 252) (n4 : L ≠ 259) : TabOk h' :=
  ⟨let ⟨ps, c⟩ := x.c1; ⟨ps, isCode_move c (fun o => k _ o n3.symm) fun o => k _ o n1.symm⟩, let ⟨ps, c, r⟩ := x.c2; ⟨ps, isCode_move c (fun o => k _ o n4.symm) fun o => k _ o n2.symm, fun cv hcv => let ⟨c', q1, q2, q3, q4⟩ := r cv hcv
    ⟨c', q1, q2, q3, codeRec_move q4 q1 fun o => k _ o (codeRec_ne q4 q1 hn)⟩⟩⟩
theorem ns_slots {h h' : Heap} {L : Addr} {m : PySem.Str → Option Value} (hn : h.Ns L m) (x : slotEq h h' L) : h'.Ns L m := by
  obtain ⟨oL, es, ep, hoL, hdL, r1⟩ := hn
  obtain ⟨sl, hsl⟩ := x oL hoL
  exact ⟨_, es, ep, hsl, hdL, r1⟩
noncomputable def pairsOf (h : Heap) (items : List Value) : List (Addr × Obj) := items.filterMap fun v => match v with
  | .ref a => (h.get? a).map fun o => (a, o)
  | _ => none
theorem pairsOf_get {h : Heap} {items : List Value} : ∀ p ∈ pairsOf h items, h.get? p.1 = some p.2 ∧ Value.ref p.1 ∈ items := fun p hp => by
  obtain ⟨v, hv, he⟩ := List.mem_filterMap.mp hp
  cases v <;> try (cases he; done)
  rename_i a
  obtain ⟨o, ho, e⟩ := Option.map_eq_some_iff.mp he
  subst e
  exact ⟨ho, hv⟩
theorem mem_pairsOf {h : Heap} {items : List Value} {a : Addr} {o : Obj} (hv : Value.ref a ∈ items) (ho : h.get? a = some o) : (a, o) ∈ pairsOf h items :=
  List.mem_filterMap.mpr ⟨_, hv, by show (h.get? a).map _ = _; rw [ho]; rfl⟩
theorem outS_len {σ : Type} {step : σ → Value → Option σ} {fin : σ → Bool} : ∀ (s : Strm) (x : σ), (outS step fin x s).len ≤ s.len
  | .fail, _ => Nat.le_refl _
  | .done, x => by
    show (if fin x = true then Strm.done else Strm.fail).len ≤ 0
    split <;> exact Nat.le_refl _
  | .item v r, x => by
    show (match step x v with | some x' => Strm.item v (outS step fin x' r) | none => .fail).len ≤ r.len + 1
    cases step x v with
    | none => exact Nat.zero_le _
    | some x' => exact Nat.succ_le_succ (outS_len r x')
theorem strmOf_len : ∀ (l : List Value), (strmOf l).len = l.length
  | [] => rfl
  | v :: r => congrArg (· + 1) (strmOf_len r)
theorem valS_len {kp : List (Addr × Obj)} {q r : Bool} (s : Strm) : (valS kp q r s).len ≤ s.len := by
  have h5 : (outS (stPseudo kp) (finPseudo q r) ([], false, none) (outS (stConn kp) (fun _ => true) () (outS (stTe kp) (fun _ => true) () (outS (stEmpty kp) (fun _ => true) () (outS (stIll kp) (fun _ => true) () s))))).len ≤ s.len :=
    Nat.le_trans (outS_len _ _) (Nat.le_trans (outS_len _ _) (Nat.le_trans (outS_len _ _) (Nat.le_trans (outS_len _ _) (outS_len _ _))))
  unfold valS
  dsimp only
  split
  · exact h5
  · exact Nat.le_trans (outS_len _ _) (Nat.le_trans (outS_len _ _) h5)
theorem Told_c {w : World} {mean : ExcName → Option Value} {mg mb : Str → Option Value} {b0 : Heap} {outer : List Env} {dp un : Nat} {gd : Option (List Code)} {s : Shared} {Q E : Value → Shared → Prop}
    {bl fa dx : Addr} {items : List Value} {p q r t acc : Bool} {nf cb : Nat} {ct : Value → List Int × List Int}
    (G : Gd w mean mg mb b0 outer s.heap) (hgd : gd = some []) (hdp : dp + 100 < recursionLimit) (hun : un + 500 < cLine) (hb0 : b0.objs.size ≤ s.heap.objs.size)
    (hP1 : b0.get? 248 = none) (hP2 : b0.get? 255 = none) (hlof : ∀ b ∈ frs outer, b0.get? b = none)
    (hbl : s.heap.get? bl = some (listO items.toArray cb)) (hz : items.length ≤ 100) (hfa : s.heap.get? fa = some (flagO p q r t dx nf)) (hqr : (q && r) = false)
    (hitems : ∀ v ∈ items, ∃ a n x tn tx c, v = .ref a ∧ s.heap.get? a = some (pairO n x tn tx c) ∧ (KBw.bInts n).length ≤ 1000 ∧ (KBw.bInts x).length ≤ 1000 ∧ ct v = (KBw.bInts n, KBw.bInts x))
    (hacc : ∀ kp, (∀ v ∈ items, Item kp v ∧ cont kp v = ct v) → (valS kp q r (strmOf items)).all = if acc then some items else none)
    (hTab : TabOk s.heap)
    (ok : acc = true → ∀ s' T tl gv t c1 c2 cT, ToldSt outer s s' → s'.heap.get? T = some { cls := .type "tuple", data := .seq #[.str "told" t, .ref tl, .ref gv] cT } → s'.heap.get? tl = some (listO items.toArray c1) → s'.heap.get? gv = some (listO items.toArray c2) → Q (.ref T) s')
    (bad : acc = false → ∀ s' T gv t t1 c2 cT, ToldSt outer s s' → s'.heap.get? T = some { cls := .type "tuple", data := .seq #[.str "refused" t, .int 1 t1, .ref gv] cT } → s'.heap.get? gv = some (listO items.toArray c2) → Q (.ref T) s') :
    wpAny (model Pg w) (AZ dp un gd outer) (call (.ref 367) [.ref bl, .ref fa]) Q E s := by
  k_with_none
  k_with "getMethod bytes" => (k_here; (with_reducible first | refine gm_lower ?_ | refine gm_strip ?_ | refine gm_find ?_))
  k_with "pyReprObj" => (k_here; (refine repr_K (by kba_ints) (by kba_size) ?_); intro _ _ _ _; (try dsimp only))
  k_with "call builtin:bytes.lower" => (k_here; (refine lower_K (by kba_ints) (by kba_size) ?_); intro _ _ _ _; (try dsimp only))
  k_with "call builtin:bytes.find" => (k_here; (refine find_K (by kba_ints) (by first | assumption | rfl | decide +kernel) ?_); intro _ _ _ _; (try dsimp only))
  k_with "compareOp Eq" => (k_here; (with_reducible show wpAny _ _ (compareOp CmpOp.Eq (Value.bytes _ _) (Value.bytes _ _)) _ _ _); (refine eqB_K (by kba_ints) (by kba_ints) ?_))
  k_with "compareOp NotEq" => (k_here; (with_reducible show wpAny _ _ (compareOp CmpOp.NotEq (Value.bytes _ _) (Value.bytes _ _)) _ _ _); (refine neB_K (by kba_ints) (by kba_ints) ?_))
  k_with "compareOp Eq bytes bytes" => (k_here; (refine eqB_K (by kba_ints) (by kba_ints) ?_))
  k_with "compareOp NotEq bytes bytes" => (k_here; (refine neB_K (by kba_ints) (by kba_ints) ?_))
  k_with "compareOp In bytes ref" => (k_here; k_dflt (first | (refine' in_tupB (kss := ownL) (tupK ?qX ?qF ?qh) ?qhb ?qhit ?qhk ?_; (case qX => assumption); (case qF => assumption); (case qh => k_is); (case qhb => exact rfl); (case qhit => exact rfl); (case qhk => kba_ints)) | (refine' in_tupB (kss := allowedL) (tupK ?qX ?qF ?qh) ?qhb ?qhit ?qhk ?_; (case qX => assumption); (case qF => assumption); (case qh => k_is); (case qhb => exact rfl); (case qhit => exact rfl); (case qhk => kba_ints))))
  k_with "compareOp NotIn bytes ref" => (k_here; k_dflt (refine' notIn_tupB (kss := allowedL) (tupK ?qX ?qF ?qh) ?qhb ?qhit ?qhk ?_; (case qX => assumption); (case qF => assumption); (case qh => k_is); (case qhb => exact rfl); (case qhit => exact rfl); (case qhk => kba_ints)))
  k_with "subscriptTail" => (k_here; (with_reducible show wpAny _ _ (subscriptTail _ _ (Value.bytes _ _) (Value.int _ _)) _ _ _); (first | refine item0_A (by kba_ints) (by omega) (by omega) ?_ | refine itemL_A (by kba_ints) (by omega) (by omega) ?_); intro _ _ _ _ _ _; (try dsimp only))
  k_with "exec For" => (k_here; (with_unfolding_all refine' For_mine ?qF ?qhE ?qhx ?qhp ?qhs ?_; (case qF => assumption); (case qhE => assumption); (case qhx => exact rfl); (case qhp => exact rfl); (case qhs => exact fun _ => rfl); k_whole))
  k_with "exec For Name Name cons nil" => (k_here; (with_unfolding_all refine' For_mine ?qF ?qhE ?qhx ?qhp ?qhs ?_; (case qF => assumption); (case qhE => assumption); (case qhx => exact rfl); (case qhp => exact rfl); (case qhs => exact fun _ => rfl); k_whole))
  k_with "subscriptTail" => (k_here; (with_reducible show wpAny _ _ (subscriptTail _ _ (Value.ref _) (Value.int _ _)) _ _ _); (first | (refine pair0_A (by k_asm) (by assumption) ?_) | (refine pair1_A (by k_asm) (by assumption) ?_)))
  k_with "call type:list cons nil [ref ]" => (k_here; k_dflt (refine listCopy_K (by k_asm) (by k_asm) (by assumption) (by assumption) ?_); intro _ _ _ _ _ _; (try dsimp only))
  k_with "getAttr ref" => (k_here; (with_reducible show wpAny _ _ (getAttr (Value.ref _) (Str.ofString "error_code") _) _ _ _); k_dflt (refine errCode_K (by k_asm) (by k_asm) (by k_asm) (by k_mem) (by with_reducible assumption) (by with_reducible assumption) (by with_reducible assumption) ?_); intro _ _; (try dsimp only))
  subst hgd
  have X := G.X
  have T := G.T
  refine wpAny_call ?_
  k_dflt (refine' enter (binds := [(Str.ofString "block", .ref bl), (Str.ofString "flags", .ref fa)]) X T.nolimit ?ho ?hcd ?hroom ?hbind ?hloc ?_ ?c5 ?c6 ?c7 ?c8; (case ho => k_is); (case hcd => k_is); (case hroom => show dp < recursionLimit; omega); (case hbind => exact rfl); (case hloc => exact locs rfl); (case c5 => decide); (case c6 => exact rfl); (case c7 => exact rfl); (case c8 => exact rfl); k_whole; intro L' h' F' N')
  have hz2 : items.toArray.size ≤ sizeLine := by rw [List.size_toArray]; exact Nat.le_trans hz (by decide)
  have kok : KeepP _ := ok
  have kbad : KeepP _ := bad
  clear ok bad
  k_steps
  (refine listCopy_K (by k_asm) (by k_asm) (by assumption) (by assumption) ?_); intro D' h' c' F' N' hD'; (try dsimp only)
  k_steps
  rename_i h₁ F1 N1
  have hTab1 := hTab.keeps F1.keep
  have hD1 := (N1 _ (.head _)).1
  have hfa1 := F1.keep _ _ hfa
  obtain ⟨ps1, hc1⟩ := hTab1.c1
  obtain ⟨ps2, hc2, hrec2⟩ := hTab1.c2
  have hpr : ∀ pp ∈ pairsOf s.heap items, h₁.get? pp.1 = some pp.2 := fun pp hp => F1.keep _ _ (pairsOf_get pp hp).1
  generalize hkp : ((D', listO items.toArray c') :: (fa, flagO p q r t dx nf) :: pairsOf s.heap items : List (Addr × Obj)) = kp
  have kk : Kept kp h₁ := by
    rw [← hkp]
    intro pp hp
    rcases List.mem_cons.mp hp with rfl | hp
    · exact hD1
    rcases List.mem_cons.mp hp with rfl | hp
    · exact hfa1
    exact hpr pp hp
  have knf : ∀ pp ∈ kp, ∀ vs, pp.2.data ≠ .fields vs := by
    rw [← hkp]
    intro pp hp vs hd
    rcases List.mem_cons.mp hp with rfl | hp
    · cases hd
    rcases List.mem_cons.mp hp with rfl | hp
    · cases hd
    obtain ⟨h1, h2⟩ := pairsOf_get pp hp
    obtain ⟨a, n, x, tn, tx, c, e, ho, _⟩ := hitems _ h2
    cases e
    rw [ho] at h1; rw [← Option.some.inj h1] at hd; cases hd
  have hkt : ∀ pp ∈ kp, ¬ isTab pp.1 := fun pp hp z => by
    have := kk pp hp
    rcases z with z | z
    · rw [z] at this; exact knf pp hp _ (isCode_data hc1 this)
    · rw [z] at this; exact knf pp hp _ (isCode_data hc2 this)
  have hIt : ∀ v ∈ items, Item kp v ∧ cont kp v = ct v := fun v hv => by
    obtain ⟨a, n, x, tn, tx, c, e, ho, l1, l2, hct⟩ := hitems v hv
    subst e
    have hlk : kp.lookup a = some (pairO n x tn tx c) := lookup_kept kk (by rw [← hkp]; exact .tail _ (.tail _ (mem_pairsOf hv ho)))
    exact ⟨⟨a, n, x, tn, tx, c, rfl, hlk, l1, l2⟩, (cont_of hlk).trans hct.symm⟩
  have hDk : (D', listO items.toArray c') ∈ kp := by rw [← hkp]; exact .head _
  have hfk : (fa, flagO p q r t dx nf) ∈ kp := by rw [← hkp]; exact .tail _ (.head _)
  have hlL : s.heap.objs.size ≤ L' := F1.above
  have hLfr : L' ∉ frs outer := fun z => by
    obtain ⟨o, ho, _⟩ := funFrames_there G.F L' z
    exact absurd (Heap.lt_size ho) (Nat.not_lt.mpr hlL)
  refine Vh_c (dp := dp + 1) (un := un + 3) (outer := _ :: outer) (kp := kp) (items := items) ((G.ext F1.keep).cons (fun e => nomatch e) rfl F1.ns) (by omega) (by omega) (Nat.le_trans hb0 (Nat.le_trans hlL (Nat.le_of_lt F1.ns.lt))) kk hP1 hP2 hkt hDk (fun h e => ⟨_, e, rfl, _, rfl⟩) hfk hqr (fun v hv => (hIt v hv).1) hc1 hc2 hrec2 fun aG h2 tk2 gens2 g oh og ps1' ps2' x2 c1' c2' gb gz gk r2 gx => ?_
  dsimp only
  k_steps
  have hoh0 : ∀ b, oh b → h₁.get? b = none := fun b hb => (gx.h1 b hb).1
  have noh : ∀ b, (∃ o, h₁.get? b = some o) → ¬ oh b := fun b ⟨o, ho⟩ q => by rw [hoh0 b q] at ho; cases ho
  have hLs : s.heap.get? L' = none := Heap.get?_none_of_le hlL
  have hne : ∀ c : Addr, (∃ o, s.heap.get? c = some o) → L' ≠ c := fun c ⟨o, ho⟩ z => by rw [z, ho] at hLs; cases hLs
  have n1 := hne 248 (isCode_there hTab.c1.choose_spec)
  have n2 := hne 255 (isCode_there hTab.c2.choose_spec.1)
  have hn2 : h2.Ns L' _ := F1.ns.at' fun o e => x2 L' o n1 n2 e
  have kk2 : Kept kp h2 := kk.keeps fun pp hp o e => x2 _ _ (fun z => hkt pp hp (.inl z)) (fun z => hkt pp hp (.inr z)) e
  have S2 : Ext b0 h2 := fun b o e => x2 b o (fun z => by rw [z, hP1] at e; cases e) (fun z => by rw [z, hP2] at e; cases e) (F1.keep _ _ (G.S b o e))
  have G2 : Gd w mean mg mb b0 outer h2 := ⟨G.X0, G.T0, S2, funFrames_keep G.F fun b hb o ho => ?ff⟩
  case ff =>
    obtain ⟨o', ho', hd⟩ := funFrames_there G.F b hb
    have q0 : o = o' := Option.some.inj (ho.symm.trans ho')
    refine ⟨o', x2 b o' (fun z => ?_) (fun z => ?_) (F1.keep _ _ ho'), by rw [q0]⟩
    · exact hd _ (isCode_data hc1 (z ▸ F1.keep _ _ ho'))
    · exact hd _ (isCode_data hc2 (z ▸ F1.keep _ _ ho'))
  refine list_gen (outer := _ :: outer) (strm := valS kp q r (strmOf items)) gx.hn gx.hg (Nat.le_trans (valS_len _) (by rw [strmOf_len]; exact Nat.le_trans hz (by decide))) (fun b hb => (gx.h1 b hb).2) ⟨rfl, rfl, rfl, ?dp, ?cu, G2.cons (fun e => nomatch e) rfl hn2, kk2, ?out, ?lo, ?lof⟩ ?post
  case dp => show dp + 1 + 27 < recursionLimit; omega
  case cu => show un + 3 + 1 + 1 + 128 < cLine; omega
  case out =>
    intro b hb
    rw [frs_cons (L := L') rfl] at hb
    rcases List.mem_cons.mp hb with rfl | hb
    · exact noh _ (let ⟨o, _, _, ho, _⟩ := F1.ns; ⟨o, ho⟩)
    · obtain ⟨o, ho, _⟩ := funFrames_there G.F b hb
      exact noh _ ⟨o, F1.keep _ _ ho⟩
  case lo =>
    intro b hb
    refine ⟨?_, fun pp hp z => noh b ⟨_, z ▸ kk pp hp⟩ hb⟩
    cases e : b0.get? b with
    | none => rfl
    | some o => exact absurd hb (noh b ⟨o, F1.keep _ _ (G.S b o e)⟩)
  case lof =>
    intro b hb
    rw [frs_cons (L := L') rfl] at hb
    rcases List.mem_cons.mp hb with rfl | hb
    · exact Heap.get?_none_of_le (Nat.le_trans hb0 hlL)
    · exact hlof b hb
  case post =>
    unfold LPost
    rw [hacc kp hIt]
    cases acc with
    | true =>
      rw [if_pos rfl]
      intro s3 l3 c3 mv hl3 hg3
      obtain ⟨h3, g3, d3, tk3, o3⟩ := s3
      have e1 := mv.drawn
      have e2 := mv.os
      dsimp only at e1 e2 hg3 hl3
      subst e1; subst e2
      have there2 : ∀ b, (∃ o, s.heap.get? b = some o) → ∃ o, h2.get? b = some o := fun b ⟨o, ho⟩ => by
        by_cases z : b = 248
        · rw [z]; exact isCode_there c1'
        · by_cases z' : b = 255
          · rw [z']; exact isCode_there c2'
          · exact ⟨o, x2 b o z z' (F1.keep _ _ ho)⟩
      have hmv : ∀ b o, (∃ o, h₁.get? b = some o) → h2.get? b = some o → h3.get? b = some o := fun b o hb e => mv.heap b o (noh b hb) e
      have hL1 : ∃ o, h₁.get? L' = some o := let ⟨o, _, _, ho, _⟩ := F1.ns; ⟨o, ho⟩
      have hn3 : h3.Ns L' _ := hn2.at' fun o e => hmv L' o hL1 e
      have F3 : Fr (offT s.heap) L' h3 _ := ⟨hn3, fun b o e => hmv b o ⟨_, F1.keep _ _ (of_hideP e)⟩ (x2 b o (fun z => hideP_notp e (.inl z)) (fun z => hideP_notp e (.inr z)) (F1.keep _ _ (of_hideP e))), Nat.le_trans (Nat.le_of_eq hideP_size) hlL⟩
      have hl3L : l3 ≠ L' := fun z => by obtain ⟨o, _, _, ho, _⟩ := hn2; rw [← z, hl3] at ho; cases ho
      have hl3s : (offT s.heap).get? l3 = none := off_none (by
        cases e : s.heap.get? l3 with
        | none => rfl
        | some o => obtain ⟨o', ho'⟩ := there2 l3 ⟨o, e⟩; rw [hl3] at ho'; cases ho')
      have hDs : s.heap.get? D' = none := (N1 _ (.head _)).2.2
      have hD3 : h3.get? D' = some (listO items.toArray c') := hmv D' _ ⟨_, hD1⟩ (x2 D' _ (fun z => hkt _ hDk (.inl z)) (fun z => hkt _ hDk (.inr z)) hD1)
      have led3 := news_ledger (b0 := offT s.heap) (h := h3) (fp := fun b => b = L') (L := L') rfl
      generalize hled : ledger (offT s.heap) (fun b => b = L') h3 = led at led3
      have N3 : News (offT s.heap) L' h3 ((l3, listO items.toArray c3) :: (D', listO items.toArray c') :: led) := fun pp hp => by
        rcases List.mem_cons.mp hp with rfl | hp
        · exact ⟨hg3, hl3L, hl3s⟩
        rcases List.mem_cons.mp hp with rfl | hp
        · exact ⟨hD3, (N1 _ (.head _)).2.1, off_none hDs⟩
        exact led3 pp hp
      have hTab3 : TabOk h3 := ⟨⟨ps1', isCode_move c1' (fun o e => hmv 252 o (hc1.head) e) fun o e => hmv 248 o (isCode_there hc1) e⟩,
        ⟨ps2', isCode_move c2' (fun o e => hmv 259 o (hc2.head) e) fun o e => hmv 255 o (isCode_there hc2) e, fun cv hcv => let ⟨c', q1, q2, q3, q4, q5⟩ := r2 cv hcv
          ⟨c', q1, q2, q3, codeRec_move q5 q1 fun o e => mv.heap c' o q4 e⟩⟩⟩
      have n3 := hne 252 (hTab.c1.choose_spec.head)
      have n4 := hne 259 (hTab.c2.choose_spec.1.head)
      have kfin : KeepP (∀ (h4 : Heap) (m4 : PySem.Str → Option Value) (tk : Nat) (news : List (Addr × Obj)), Fr (offT s.heap) L' h4 m4 → News (offT s.heap) L' h4 news → (∀ p ∈ led, p ∈ news) → ToldSt outer s { s with heap := h4, gens := g3, toks := tk }) := by
        intro h4 m4 tk news F4 N4 hin
        have k4 := kept_of (fp := fun b => b = L') F3.keep F4 N4 (by rw [hled]; exact hin)
        exact ⟨fun b o hb _ e => F4.keep _ _ (hideP_get e hb), fun b hb o ho => ⟨o.slots, F4.keep _ _ (hideP_get ho fun z => by
          obtain ⟨o', ho', hd⟩ := funFrames_there G.F b hb
          rcases z with z | z
          · exact hd _ (isCode_data hTab.c1.choose_spec (z ▸ ho'))
          · exact hd _ (isCode_data hTab.c2.choose_spec.1 (z ▸ ho')))⟩, hTab3.walk hn3 k4 n1 n2 n3 n4, fun hb => mv.bare (gb hb), rfl, rfl⟩
      have x0 := ext_off G.S hP1 hP2
      have Xb := G.X0.keeps x0
      have Tb := G.T0.keeps x0
      clear mv gx r2 hmv hTab3 led3 F1 N1 X T hTab1 hTab hled
      k_steps
      rename_i D4 h4 F4 N4 _
      exact kok rfl _ D4 l3 D' _ c3 c' _ (kfin _ _ _ _ F4 N4 (fun pp hp => .tail _ (.tail _ (.tail _ hp)))) (N4 _ (.head _)).1 (N4 _ (.tail _ (.head _))).1 (N4 _ (.tail _ (.tail _ (.head _)))).1
    | false =>
      rw [if_neg (by decide)]
      intro s3 e fl
      obtain ⟨h3, g3, d3, tk3, o3⟩ := s3
      have e1 := fl.drawn
      have e2 := fl.os
      dsimp only at e1 e2
      subst e1; subst e2
      obtain ⟨a0, fly⟩ := fl.fly
      have x0 := ext_off G.S hP1 hP2
      have there2 : ∀ b, (∃ o, s.heap.get? b = some o) → ∃ o, h2.get? b = some o := fun b ⟨o, ho⟩ => by
        by_cases z : b = 248
        · rw [z]; exact isCode_there c1'
        · by_cases z' : b = 255
          · rw [z']; exact isCode_there c2'
          · exact ⟨o, x2 b o z z' (F1.keep _ _ ho)⟩
      -- the small base: what stood at the entry, without tables and frames
      generalize hB : hideP s.heap (fun b => isTab b ∨ b ∈ frs outer) = B
      have hBs : Ext B s.heap := fun b o e => of_hideP (hB ▸ e)
      have hBn : ∀ b o, B.get? b = some o → ¬ (isTab b ∨ b ∈ frs outer) := fun b o e => hideP_notp (h := s.heap) (p := fun b => isTab b ∨ b ∈ frs outer) (hB ▸ e)
      have hBsz : B.objs.size ≤ L' := by rw [← hB]; exact Nat.le_trans (Nat.le_of_eq hideP_size) hlL
      have hb0B : Ext b0 B := fun b o e => by
        rw [← hB]
        refine hideP_get (G.S b o e) fun z => z.elim (fun z => z.elim (fun z => by rw [z, hP1] at e; cases e) (fun z => by rw [z, hP2] at e; cases e)) fun z => by rw [hlof b z] at e; cases e
      have hL1 : ∃ o, h₁.get? L' = some o := let ⟨o, _, _, ho, _⟩ := F1.ns; ⟨o, ho⟩
      have hfrm := fl.frames L' (by rw [frs_cons (L := L') rfl]; exact .head _)
      have hn3 := ns_slots hn2 hfrm
      have hiB : ∀ b o, B.get? b = some o → h2.get? b = some o ∧ ¬ oh b ∧ b ≠ L' ∧ b ∉ frs outer := fun b o e => by
        have e0 := hBs b o e
        have hnb := hBn b o e
        exact ⟨x2 b o (fun z => hnb (.inl (.inl z))) (fun z => hnb (.inl (.inr z))) (F1.keep _ _ e0), noh b ⟨_, F1.keep _ _ e0⟩, (hne b ⟨_, e0⟩).symm, fun z => hnb (.inr z)⟩
      refine catch_PE (bmB := [.type "Exception", .type "BaseException", .type "object"]) (newId := "Exception.__new__") (B := B) (KF := frJ.heap_1 w.params) rfl (.fly fly) (fun b o e => ?iB) hn3 hBsz hLfr (G.X0.keeps hb0B) (topRead_of (G.T0.keeps hb0B)) ?ex ?q ?hbase (fun h4 tk oe vs F4 N4 hoc hod hon xB xe ff4 sl4 => ?_) rfl rfl rfl (by decide)
      case iB =>
        obtain ⟨i1, i2, i3, i4⟩ := hiB b o e
        refine hideP_get i1 fun z => z.elim i2 fun z => ?_
        rw [frs_cons (L := L') rfl] at z
        exact (List.mem_cons.mp z).elim i3 i4
      case ex => k_is
      case q => kernel_rfl
      case hbase => decide
      have Xb := G.X0.keeps hb0B
      have Tb := G.T0.keeps hb0B
      have hBx : ∀ b o, h2.get? b = some o → ¬ oh b → b ≠ L' → b ∉ frs outer → h4.get? b = some o := fun b o e i2 i3 i4 => xB b o (hideP_get e fun z => z.elim i2 fun z => by
        rw [frs_cons (L := L') rfl] at z
        exact (List.mem_cons.mp z).elim i3 i4)
      have hDs : s.heap.get? D' = none := (N1 _ (.head _)).2.2
      have hDL : D' ≠ L' := (N1 _ (.head _)).2.1
      have hDfr : D' ∉ frs outer := fun z => by obtain ⟨o, ho, _⟩ := funFrames_there G.F _ z; rw [hDs] at ho; cases ho
      have hD4 : h4.get? D' = some (listO items.toArray c') := hBx D' _ (x2 D' _ (fun z => hkt _ hDk (.inl z)) (fun z => hkt _ hDk (.inr z)) hD1) (noh _ ⟨_, hD1⟩) hDL hDfr
      have hDB : B.get? D' = none := by
        cases z : B.get? D' with
        | none => rfl
        | some o => rw [hBs D' o z] at hDs; cases hDs
      have led4 := news_ledger (b0 := B) (h := h4) (fp := fun b => b = L') (L := L') rfl
      generalize hled : ledger B (fun b => b = L') h4 = led at led4
      have N5 : News B L' h4 ((e, oe) :: (D', listO items.toArray c') :: led) := fun pp hp => by
        rcases List.mem_cons.mp hp with rfl | hp
        · exact N4 _ (.head _)
        rcases List.mem_cons.mp hp with rfl | hp
        · exact ⟨hD4, hDL, hDB⟩
        exact led4 pp hp
      have kF4 : KeepP _ := F4
      k_steps
      rename_i D6 h6 F6 N6 _
      refine name_goes_keeps F6 N6 (fun h7 v F7 N7 => ?_) rfl rfl
      have hBh4 : Ext B h4 := fun b o e => by
        obtain ⟨i1, i2, i3, i4⟩ := hiB b o e
        exact hBx b o i1 i2 i3 i4
      have k7 := kept_of (fp := fun b => b = L') hBh4 F7 N7 (by rw [hled]; exact fun pp hp => .tail _ (.tail _ (.tail _ hp)))
      have n3 := hne 252 (hTab.c1.choose_spec.head)
      have n4 := hne 259 (hTab.c2.choose_spec.1.head)
      have hfld : ∀ (c : Addr) (o : Obj) (vs : Array Value), h₁.get? c = some o → o.data = .fields vs → c ∉ frs outer := fun c o vs ho hd z => by
        obtain ⟨o', ho', hn'⟩ := funFrames_there G.F c z
        rw [F1.keep _ _ ho'] at ho; cases ho; exact hn' vs hd
      have hTab7 : TabOk h7 := by
        have mv : ∀ (c : Addr) (o : Obj) (vs : Array Value), h₁.get? c = some o → o.data = .fields vs → ∀ o2, h2.get? c = some o2 → c ≠ L' → h7.get? c = some o2 := fun c o vs ho hd o2 e ne => k7 c o2 ne (hBx c o2 e (noh c ⟨o, ho⟩) ne (hfld c o vs ho hd))
        obtain ⟨⟨oc1, vc1, p1, p2⟩, ⟨op1, p8, p9⟩, _⟩ := hc1.parts
        obtain ⟨⟨oc2, vc2, r1, r2'⟩, ⟨op2, r8, r9⟩, _⟩ := hc2.parts
        refine ⟨⟨ps1', isCode_move c1' (fun o e => mv 252 oc1 vc1 p1 p2 o e n3.symm) fun o e => mv 248 op1 _ p8 p9 o e n1.symm⟩,
          ⟨ps2', isCode_move c2' (fun o e => mv 259 oc2 vc2 r1 r2' o e n4.symm) fun o e => mv 255 op2 _ r8 r9 o e n2.symm, fun cv hcv => ?_⟩⟩
        obtain ⟨cc, q1, q2, q3, q4, q5⟩ := r2 cv hcv
        refine ⟨cc, q1, q2, q3, codeRec_move q5 q1 fun o e => ?_⟩
        have hcL := codeRec_ne q5 q1 hn2
        refine k7 cc o hcL (hBx cc o e q4 hcL fun z => ?_)
        obtain ⟨o', ho', hn'⟩ := funFrames_there G2.F cc z
        obtain ⟨c5, o5, vs5, t5, z1, z2, z3, _⟩ := q5
        rw [q1] at z1; injection z1 with z1
        rw [← z1, ho'] at z2; cases z2; exact hn' _ z3
      have hfr7 : ∀ b ∈ frs outer, slotEq s.heap h7 b := fun b hb => by
        have hbL : ¬ b = L' := fun z => hLfr (z ▸ hb)
        have hb2 : ∀ o, s.heap.get? b = some o → h2.get? b = some o := fun o ho => x2 b o (fun z => by
          obtain ⟨o', ho', hd⟩ := funFrames_there G.F b hb
          exact hd _ (isCode_data hTab.c1.choose_spec (z ▸ ho'))) (fun z => by
          obtain ⟨o', ho', hd⟩ := funFrames_there G.F b hb
          exact hd _ (isCode_data hTab.c2.choose_spec.1 (z ▸ ho'))) (F1.keep _ _ ho)
        exact (slotEq.of_keep hb2).trans (((fl.frames b (by rw [frs_cons (L := L') rfl]; exact .tail _ hb)).trans (sl4 b hb)).trans (slotEq.of_keep fun o ho => k7 b o hbL ho))
      exact kbad rfl _ D6 D' _ _ c' _ ⟨fun b o hb hbf e => k7 b o ((hne b ⟨o, e⟩).symm) (hBh4 b o (by rw [← hB]; exact hideP_get e fun z => z.elim hb hbf)), hfr7, hTab7, fun hb => fl.bare (gb hb), rfl, rfl⟩ (N7 _ (.head _)).1 (N7 _ (.tail _ (.tail _ (.head _)))).1

end
section
open PySem PySem.W PyProof.Rows PySem.Calls PySem.W.X PySem.SeqAt
set_option Elab.async false
set_option maxRecDepth 100000
set_option maxHeartbeats 2000000
set_option linter.unusedVariables false
/-! ## what the law keeps between its calls -/
/-- kept: all but the tables and the law's own frame -/
noncomputable def Kpt (L : Addr) (h h' : Heap) : Prop := ∀ b o, ¬ isTab b → b ≠ L → h.get? b = some o → h'.get? b = some o
theorem Kpt.refl {L : Addr} (h : Heap) : Kpt L h h := fun _ _ _ _ e => e
theorem Kpt.trans {L : Addr} {h h' h'' : Heap} (x : Kpt L h h') (y : Kpt L h' h'') : Kpt L h h'' := fun b o h1 h2 e => y b o h1 h2 (x b o h1 h2 e)
theorem tab_fields {h : Heap} {b : Addr} {o : Obj} (T : TabOk h) (hb : isTab b) (e : h.get? b = some o) : ∃ vs, o.data = .fields vs := by
  have g : ∀ {c P : Addr} {ps : Array Value}, IsCd h c P ps → h.get? P = some o → ∃ vs, o.data = .fields vs := by
    intro c P ps x e
    rw [x.tab] at e; cases e
    exact ⟨_, rfl⟩
  rcases hb with rfl | rfl
  · obtain ⟨ps, c⟩ := T.c1; exact g c e
  · obtain ⟨ps, c, _⟩ := T.c2; exact g c e
theorem seq_free {h : Heap} {L b : Addr} {o : Obj} {m : PySem.Str → Option Value} {vs : Array Value} {n : Nat} (T : TabOk h) (hn : h.Ns L m) (e : h.get? b = some o) (hd : o.data = .seq vs n) : ¬ isTab b ∧ b ≠ L := by
  refine ⟨fun hb => ?_, fun q => ?_⟩
  · obtain ⟨vs', h2⟩ := tab_fields T hb e
    rw [hd] at h2; cases h2
  · obtain ⟨oL, es, ep, hoL, hdL, _⟩ := hn
    rw [← q, e] at hoL; cases hoL
    rw [hd] at hdL; cases hdL
noncomputable def BlkH (h : Heap) (a : Addr) (k N : Nat) : Prop := ∃ (items : List Value) (c : Nat), h.get? a = some (listO items.toArray c) ∧ items.length ≤ k ∧ ∀ v ∈ items, ItemH h N v
theorem kpt_ext {h h' : Heap} {L : Addr} (x : Ext h h') : Kpt L h h' := fun b o _ _ e => x b o e
theorem kpt_told {outer : List Env} {s s' : Shared} {L : Addr} (x : ToldSt outer s s') (hL : ∀ b ∈ frs outer, b = L) : Kpt L s.heap s'.heap := fun b o h1 h2 e => x.keep b o h1 (fun q => h2 (hL b q)) e
/-- the ledger of all but the tables and the frame -/
theorem fr_told {outer : List Env} {s s' : Shared} {L : Addr} {b0 : Heap} {m : PySem.Str → Option Value} (x : ToldSt outer s s') (hL : ∀ b ∈ frs outer, b = L) (hLo : L ∈ frs outer) (h1 : b0.get? 248 = none) (h2 : b0.get? 255 = none) (F : Fr b0 L s.heap m) : Fr b0 L s'.heap m :=
  ⟨ns_slots F.ns (x.frames L hLo), fun b o e => kpt_told x hL b o (fun q => q.elim (fun q => by rw [q, h1] at e; cases e) fun q => by rw [q, h2] at e; cases e) (fun q => by rw [q, Heap.get?_none_of_le F.above] at e; cases e) (F.keep b o e), F.above⟩

end
section
open PySem PySem.W PyProof.Rows PySem.Calls
set_option Elab.async false
set_option linter.unusedVariables false
/-! ## for x in a list, by a word on the whole state (generators may come and go) -/
section
variable {prog : Program} {w : World} {A : Around} {E : Value → Shared → Prop} {env : Env} {x : Str} {px pos : Pos} {body : List Stmt} {Q : Flow → Shared → Prop}
noncomputable def Stop (p : Prop) : Prop := p
theorem stop {p : Prop} (h : Stop p) : p := h
/-- the iterator's object -/
noncomputable def IsIt (h : Heap) (I : Addr) : Prop := ∃ o l i, h.get? I = some o ∧ o.data = .fields #[.ref l, .int i 0]
theorem isIt_of {h : Heap} {I l : Addr} {i : Nat} (x : h.IsListIter I l i) : IsIt h I := let ⟨o, a, _, b⟩ := x; ⟨o, l, i, a, b⟩
/-- where a turn ends: the iterator and the list stand as they stood -/
noncomputable def TurnEnd (I ax : Addr) (Jn : Shared → Prop) (Q : Flow → Shared → Prop) (s₁ : Shared) (f : Flow) (s₃ : Shared) : Prop := match f with
  | .ret v => Q (.ret v) s₃
  | .brk => False
  | _ => Jn s₃ ∧ (∀ o, s₁.heap.get? I = some o → s₃.heap.get? I = some o) ∧ ∀ o, s₁.heap.get? ax = some o → s₃.heap.get? ax = some o
theorem For_st {iter : Expr} {s : Shared} (J : Addr → Addr → Array Value → Nat → Shared → Prop) (hh : A.handled = none) (hE : PassesOwn (model prog w) A env E) (hs : ∀ x, foldedSetIterable iter env x = pure x)
    (hJ : ∀ I ax its i (s s' : Shared), J I ax its i s → IsIt s.heap I → s'.gens = s.gens → s'.drawn = s.drawn → s'.os = s.os → (∀ b o, b ≠ I → s.heap.get? b = some o → s'.heap.get? b = some o) → J I ax its i s')
    (start : wpAny (model prog w) A (eval iter env) (fun xv s₁ => Stop (∃ ax its, xv = .ref ax ∧ s₁.heap.IsList ax its ∧ ∀ I h, I = s₁.heap.objs.size → (∀ b o, s₁.heap.get? b = some o → h.get? b = some o) → IsIt h I → J I ax its 0 { s₁ with heap := h } ∧
      (∀ i v s₂, its[i]? = some v → J I ax its i s₂ → IsIt s₂.heap I → wpAny (model prog w) A (assign (.Name x px) env v) (fun _ s₃ => wpAny (model prog w) A (execs body env) (TurnEnd I ax (J I ax its (i + 1)) Q s₂) E s₃) E s₂) ∧
      (∀ s₂, J I ax its its.size s₂ → Q .next s₂))) E s) :
    wpAny (model prog w) A (exec (.For (.Name x px) iter body [] pos) env) Q E s := by
  refine wpAny_For (wpAny_mono start (fun xv s₁ h₁ => ?_) fun _ _ e => e) hs
  obtain ⟨ax, its, rfl, hl, h2⟩ := h₁
  refine wpAny_pyIter_list hl ?_
  obtain ⟨o, ho, _⟩ := id hl
  have hne : ax ≠ s₁.heap.objs.size := Nat.ne_of_lt (Heap.lt_size ho)
  obtain ⟨hJ0, turn, done⟩ := h2 s₁.heap.objs.size _ rfl (fun b o e => Heap.get?_push_of_some { cls := .type "list_iterator", data := .fields #[.ref ax, .int 0 0] } e) ⟨_, _, _, Heap.get?_push_size _ rfl, rfl⟩
  have W := Walks.list (prog := prog) (w := w) hh s₁.heap.objs.size ax hne its
  refine codeAny_forLoop_any (fun k s' => ∃ i, s'.heap.IsListIter s₁.heap.objs.size ax i ∧ s'.heap.IsList ax its ∧ J s₁.heap.objs.size ax its i s' ∧ i ≤ its.size ∧ k = its.size + 1 - i) ?_ (its.size + 1)
    ⟨0, ⟨_, Heap.get?_push_size _ rfl, rfl, rfl⟩, hl.push _, hJ0, Nat.zero_le _, rfl⟩
  rintro k s' ⟨i, hit, hls, hj, hi, rfl⟩
  by_cases hlt : i < its.size
  · refine W.item i s' _ _ hlt ⟨hit, hls⟩ fun v h' tk hv hst' hk => ?_
    dsimp only
    rw [let_name']
    refine wpAny_pure ?_
    have hj' := hJ _ _ _ _ s' { s' with heap := h', toks := tk } hj (isIt_of hit) rfl rfl rfl fun b o hb e => hk b o (by simpa using hb) e
    refine wpAny_mono (turn i v _ hv hj' (isIt_of hst'.1)) (fun _ s₂ h₂ => wpAny_mono h₂ (fun f s₃ h₃ => ?_) hE) hE
    cases f with
    | ret v => exact h₃
    | brk => exact h₃.elim
    | next =>
      obtain ⟨a, b, c⟩ := h₃
      exact ⟨its.size + 1 - (i + 1), by omega, i + 1, hst'.1.at b, hst'.2.at c, a, hlt, rfl⟩
    | cont =>
      obtain ⟨a, b, c⟩ := h₃
      exact ⟨its.size + 1 - (i + 1), by omega, i + 1, hst'.1.at b, hst'.2.at c, a, hlt, rfl⟩
  · have hin : i = its.size := by omega
    subst hin
    refine W.done s' _ _ ⟨hit, hls⟩ fun h' tk hk => wpAny_execs_nil ?_
    exact done _ (hJ _ _ _ _ s' { s' with heap := h', toks := tk } hj (isIt_of hit) rfl rfl rfl fun b o hb e => hk b o (by simpa using hb) e)
where
  let_name' {x : Str} {px : Pos} {it v : Value} : letOwnedTupleGo (.Name x px) it v = pure () := by cases it <;> cases v <;> rfl
end

end
section
open PySem PySem.W PyProof.Rows PySem.Calls PySem.W.X
set_option Elab.async false
set_option maxRecDepth 100000
/-- the names that a top heap leaves open may be more -/
theorem Top.wider {p : Program} {l l' : List Str} {mean : ExcName → Option Value} {mg mb : Str → Option Value} {h : Heap} (T : Top p l mean mg mb h) (e1 : (l.all fun x => l'.contains x) = true) (e2 : clssOf p l = clssOf p l') : Top p l' mean mg mb h :=
  { g := T.g, b := T.b, nolimit := T.nolimit, nodigits := T.nodigits, fn := T.fn, own := T.own, const := T.const,
    free := fun x h1 h2 h3 h4 h5 => T.free x h1 (fun q => h2 (by have := List.all_eq_true.mp e1 x q; simpa using this)) h3 h4 (e2 ▸ h5),
    builtins := T.builtins, tab := T.tab, bmain := T.bmain, seer := T.seer }

end
section
open PySem PySem.W PyProof.Rows PySem.Calls PySem.W.X
set_option Elab.async false
set_option maxRecDepth 100000
set_option maxHeartbeats 2000000
set_option linter.unusedVariables false
set_option pp.deepTerms false
set_option pp.maxSteps 6000
theorem field_K {w : World} {mean : ExcName → Option Value} {mg mb : Str → Option Value} {b0 : Heap} {outer : List Env} {dp un : Nat} {gd : Option (List Code)} {s : Shared} {Q E : Value → Shared → Prop} {h₀ : Heap} {L : Addr} {m : PySem.Str → Option Value} {news : List (Addr × Obj)} {n x : Array UInt8} {tn tx : Tok} {ks vs : List Int}
    (F : Fr h₀ L s.heap m) (N : News h₀ L s.heap news) (G : Gd w mean mg mb b0 outer s.heap) (hgd : gd = some []) (hdp : dp + 10 < recursionLimit) (hun : un + 60 < cLine) (hks : KBw.bInts n = ks) (hvs : KBw.bInts x = vs) (hl1 : ks.length ≤ 1000) (hl2 : vs.length ≤ 1000)
    (ret : ∀ h' tk, Fr h₀ L h' m → News h₀ L h' news → Q (.bool (fieldF ks vs)) { s with heap := h', toks := tk }) :
    wpAny (model Pg w) (AZ dp un gd outer) (call (.ref 350) [.bytes n tn, .bytes x tx]) Q E s :=
  Field_c G hgd hdp hun hks hvs hl1 hl2 fun h' tk x => ret h' tk (Ext.fr x F) (Ext.news x N)
theorem snd_ct {h : Heap} {items : List Value} {N : Nat} {Ts : Nat → Addr} {bn bx : Nat → Array UInt8} {tn tx : Nat → Tok} {cn : Nat → Nat} {Lp : List Pr} (R : Rows h items N Ts bn bx tn tx cn) (hL : items.map (ctH h) = Lp) : Lp = (List.range items.length).map fun j => (KBw.bInts (bn j), KBw.bInts (bx j)) := by rw [← hL, R.ct]
theorem snd0 {h : Heap} {items : List Value} {N : Nat} {Ts : Nat → Addr} {bn bx : Nat → Array UInt8} {tn tx : Nat → Tok} {cn : Nat → Nat} {Lp : List Pr} (R : Rows h items N Ts bn bx tn tx cn) (hL : items.map (ctH h) = Lp) {i : Nat} (hi : i < items.length) (hf : fieldF (KBw.bInts (bn i)) (KBw.bInts (bx i)) = false) {q r : Bool} : soundF q r Lp = false := by
  have e : (Lp.all fun p => fieldF p.1 p.2) = false := by
    rw [snd_ct R hL]
    cases z : (((List.range items.length).map fun j => (KBw.bInts (bn j), KBw.bInts (bx j))).all fun p => fieldF p.1 p.2) with
    | false => rfl
    | true =>
      rw [List.all_eq_true] at z
      have := z _ (List.mem_map.mpr ⟨i, List.mem_range.mpr hi, rfl⟩)
      rw [hf] at this; cases this
  unfold soundF; rw [e]; rfl
theorem snd1 {h : Heap} {items : List Value} {N : Nat} {Ts : Nat → Addr} {bn bx : Nat → Array UInt8} {tn tx : Nat → Tok} {cn : Nat → Nat} {Lp : List Pr} (R : Rows h items N Ts bn bx tn tx cn) (hL : items.map (ctH h) = Lp) (hf : ∀ i, i < items.length → fieldF (KBw.bInts (bn i)) (KBw.bInts (bx i)) = true) : (Lp.all fun p => fieldF p.1 p.2) = true := by
  rw [snd_ct R hL, List.all_eq_true]
  intro p hp
  obtain ⟨j, hj, rfl⟩ := List.mem_map.mp hp
  exact hf j (List.mem_range.mp hj)
noncomputable def qSp (p : Pr) : Bool := p.1.take 1 == [58]
theorem clip_take (ks : List Int) : List.take (clipAt ks.length 1) ks = ks.take 1 := by
  have e : clipAt ks.length 1 = min 1 ks.length := by
    have := clipAt_cast ks.length 1
    rw [if_neg (by decide)] at this
    omega
  rw [e, kmk_take_min]
theorem qsp_clip {ks vs : List Int} : decide (List.take (clipAt ks.length 1) ks = bl [58]) = qSp (ks, vs) := by
  rw [clip_take]
  unfold qSp
  rw [Bool.eq_iff_iff, decide_eq_true_eq, beq_iff_eq]
  exact Iff.rfl
theorem spec_made {items : List Value} {h : Heap} {Lp : List Pr} (hL : items.map (ctH h) = Lp) {ys : Array Value} (M : Made ys (((items.map (ctH h)).filter qSp).map (pj true))) : Made ys (specL Lp) := by
  rw [hL] at M
  have e : specL Lp = (Lp.filter qSp).map (pj true) := by
    unfold specL; rw [List.filter_map]; rfl
  rw [e]; exact M
theorem spec_len {items : List Value} {h : Heap} {Lp : List Pr} (hL : items.map (ctH h) = Lp) (hz : items.length ≤ 1000) : (specL Lp).length ≤ 1000 := by
  unfold specL
  refine Nat.le_trans (List.length_filter_le _ _) ?_
  rw [← hL]; simpa using hz
theorem names_len {items : List Value} {h : Heap} {Lp : List Pr} (hL : items.map (ctH h) = Lp) (hz : items.length ≤ 1000) : (Lp.map (·.1)).length ≤ 1000 := by
  rw [← hL]; simpa using hz
theorem hosts_len {items : List Value} {h : Heap} {Lp : List Pr} (hL : items.map (ctH h) = Lp) (hz : items.length ≤ 1000) : (hostsL Lp).length ≤ 1000 := by
  unfold hostsL
  rw [List.length_map]
  refine Nat.le_trans (List.length_filter_le _ _) ?_
  rw [← hL]; simpa using hz
theorem names_made {items : List Value} {h : Heap} {Lp : List Pr} (hL : items.map (ctH h) = Lp) {ys : Array Value} (M : Made ys (((items.map (ctH h)).filter fun _ => true).map (pj true))) : Made ys (Lp.map (·.1)) := by
  rw [hL] at M
  have e : (Lp.filter fun _ => true) = Lp := List.filter_eq_self.mpr fun _ _ => rfl
  rw [e] at M; exact M
noncomputable def qHost (p : Pr) : Bool := p.1 == nHost
theorem qhost_is {ks vs : List Int} : decide (ks = nHost) = qHost (ks, vs) := by
  unfold qHost; rw [Bool.eq_iff_iff, decide_eq_true_eq, beq_iff_eq]
theorem hosts_made {items : List Value} {h : Heap} {Lp : List Pr} (hL : items.map (ctH h) = Lp) {ys : Array Value} (M : Made ys (((items.map (ctH h)).filter qHost).map (pj false))) : Made ys (hostsL Lp) := by
  rw [hL] at M; exact M
theorem made_nil : Made #[] [] := ⟨rfl, rfl, fun _ h => nomatch h⟩
theorem made_one {b : Array UInt8} {t : Tok} {xs : List Int} (h : KBw.bInts b = xs) (l : xs.length ≤ 1000) : Made #[.bytes b t] [xs] := ⟨rfl, by show [KBw.bInts b] = _; rw [h], fun k hk => by rw [List.mem_singleton.mp hk]; exact l⟩
theorem six_K {w : World} {mean : ExcName → Option Value} {mg mb : Str → Option Value} {b0 : Heap} {outer : List Env} {dp un : Nat} {gd : Option (List Code)} {s : Shared} {Q E : Value → Shared → Prop} {h₀ : Heap} {L : Addr} {m : PySem.Str → Option Value} {news : List (Addr × Obj)}
    (F : Fr h₀ L s.heap m) (N : News h₀ L s.heap news) (G : Gd w mean mg mb b0 outer s.heap) (hdp : dp + 4 < recursionLimit) (hun : un + 30 < cLine)
    (ret : ∀ D h' tk its c, Fr h₀ L h' m → News h₀ L h' ((D, listO its c) :: news) → Made its allowedL → Q (.ref D) { s with heap := h', toks := tk }) :
    wpAny (model Pg w) (AZ dp un gd outer) (call (.ref 317) []) Q E s :=
  Six_c G hdp hun fun D h' tk its c x hD hD' hb hc => ret D h' tk its c (Ext.fr x F) (news_new F N x hD hD') ⟨hb, hc, by decide⟩
theorem badN_1 {Lp : List Pr} {ks : List Int} (h : allowedL.contains ks = false) : true = badN Lp ks := by unfold badN; rw [h]; rfl
theorem badN_3 {Lp : List Pr} {ks : List Int} (h : (((specL Lp).count ks : Nat) : Int) ≠ 1) : true = badN Lp ks := by
  unfold badN; rw [decide_eq_false (by omega : ¬ (specL Lp).count ks = 1), Bool.not_false, Bool.or_true]
theorem badN_4 {Lp : List Pr} {ks : List Int} (h1 : allowedL.contains ks = true) (h : (((specL Lp).count ks : Nat) : Int) = 1) : false = badN Lp ks := by
  unfold badN; rw [h1, decide_eq_true (by omega : (specL Lp).count ks = 1)]; rfl
theorem badN_2 {Lp : List Pr} {ks : List Int} (h : allowedL.contains ks = true) : (!decide ((((specL Lp).count ks : Nat) : Int) = 1)) = badN Lp ks := by
  unfold badN; rw [h]
  have : decide ((((specL Lp).count ks : Nat) : Int) = 1) = decide ((specL Lp).count ks = 1) := decide_eq_decide.mpr (by omega)
  rw [this]; rfl
noncomputable def connC (c e sc pa ep : Bool) : Bool := if c && !e then !(sc || pa) else if !c && e then false else !(!sc || !pa || ep)
noncomputable abbrev condC (Lp : List Pr) : Prop := connC (decide (saidL Lp nMethod = some vConnect)) ((specL Lp).contains nProt) ((specL Lp).contains nScheme) ((specL Lp).contains nPath) (decide (saidL Lp nPath = some [])) = true
section
variable {w : World} {A : Around} {E : Value → Shared → Prop} {h₀ : Heap} {L : Addr} {m : PySem.Str → Option Value} {news : List (Addr × Obj)} {s : Shared} {Lp : List Pr} {q r : Bool}
theorem cut_if {o : Obj} {st : Stmt} {rest : List Stmt} {env : Env} {Q : Flow → Shared → Prop} (F : Fr h₀ L s.heap m) (N : News h₀ L s.heap news) (S : SaidO w o (saidL Lp))
    (h1 : ∀ QQ : Flow → Shared → Prop, KeepP (condC Lp → ∀ h tk, Fr h₀ L h m → News h₀ L h news → QQ .next { s with heap := h, toks := tk }) → KeepP (¬ condC Lp → ∀ h tk, Fr h₀ L h m → QQ (.ret (.bool false)) { s with heap := h, toks := tk }) → wpAny (model Pg w) A (exec st env) QQ E s)
    (h2 : condC Lp → ∀ h tk, Fr h₀ L h m → News h₀ L h news → wpAny (model Pg w) A (execs rest env) Q E { s with heap := h, toks := tk })
    (h3 : ¬ condC Lp → ∀ h tk, Fr h₀ L h m → Q (.ret (.bool false)) { s with heap := h, toks := tk }) : wpAny (model Pg w) A (execs (st :: rest) env) Q E s :=
  wpAny_execs_cons (wpAny_mono (h1 (fun f s' => (condC Lp ∧ f = .next ∧ ∃ h tk, s' = { s with heap := h, toks := tk } ∧ Fr h₀ L h m ∧ News h₀ L h news) ∨ (¬ condC Lp ∧ f = .ret (.bool false) ∧ ∃ h tk, s' = { s with heap := h, toks := tk } ∧ Fr h₀ L h m)) (fun c h tk F N => .inl ⟨c, rfl, h, tk, rfl, F, N⟩) (fun c h tk F => .inr ⟨c, rfl, h, tk, rfl, F⟩))
    (fun f s' x => by
      rcases x with ⟨c, rfl, h, tk, rfl, F, N⟩ | ⟨c, rfl, h, tk, rfl, F⟩
      · exact h2 c h tk F N
      · exact h3 c h tk F) fun _ _ x => x)
theorem snd2 (h : ¬ (Lp.map (·.1)).take (specL Lp).length = specL Lp) : soundF q r Lp = false := by
  unfold soundF; rw [decide_eq_false h]; split <;> rfl
theorem badN_def : (specL Lp).filter (fun n => !allowedL.contains n || !decide ((specL Lp).count n = 1)) = (specL Lp).filter (badN Lp) := rfl
theorem snd3 (h : decide ((specL Lp).filter (badN Lp) = []) = false) : soundF q r Lp = false := by
  have h' : ((specL Lp).filter (badN Lp)).isEmpty = false := by
    cases e : (specL Lp).filter (badN Lp) with
    | nil => exact absurd e (of_decide_eq_false h)
    | cons _ _ => rfl
  unfold soundF; rw [badN_def, h']
  split
  · rfl
  · split <;> rfl
theorem snd_head (hf : KeepP ((Lp.all fun p => fieldF p.1 p.2) = true)) (h1 : (Lp.map (·.1)).take (specL Lp).length = specL Lp) (h2 : decide ((specL Lp).filter (badN Lp) = []) = true) : soundF q r Lp =
    if q then (specL Lp).isEmpty else if r then decide (specL Lp = [nStatus]) else if !(specL Lp).contains nMethod || (specL Lp).contains nStatus then false else soundR Lp (decide (saidL Lp nMethod = some vConnect)) ((specL Lp).contains nProt) := by
  have hf : (Lp.all fun p => fieldF p.1 p.2) = true := hf
  unfold soundF; rw [badN_def, of_decide_eq_true h2, hf, decide_eq_true h1]; rfl
theorem snd4 (hf : KeepP ((Lp.all fun p => fieldF p.1 p.2) = true)) (h1 : (Lp.map (·.1)).take (specL Lp).length = specL Lp) (h2 : decide ((specL Lp).filter (badN Lp) = []) = true) (hq : q = true) : soundF q r Lp = decide (specL Lp = []) := by
  rw [snd_head hf h1 h2, hq, if_pos rfl]
  cases specL Lp <;> rfl
theorem snd5 (hf : KeepP ((Lp.all fun p => fieldF p.1 p.2) = true)) (h1 : (Lp.map (·.1)).take (specL Lp).length = specL Lp) (h2 : decide ((specL Lp).filter (badN Lp) = []) = true) (hq : q = false) (hr : r = true) : soundF q r Lp = decide (specL Lp = [nStatus]) := by
  rw [snd_head hf h1 h2, hq, hr]; rfl
theorem snd6 (hf : KeepP ((Lp.all fun p => fieldF p.1 p.2) = true)) (h1 : (Lp.map (·.1)).take (specL Lp).length = specL Lp) (h2 : decide ((specL Lp).filter (badN Lp) = []) = true) (hq : q = false) (hr : r = false) (hm : (specL Lp).contains nMethod = false) : soundF q r Lp = false := by
  rw [snd_head hf h1 h2, hq, hr, hm]; rfl
theorem snd7 (hf : KeepP ((Lp.all fun p => fieldF p.1 p.2) = true)) (h1 : (Lp.map (·.1)).take (specL Lp).length = specL Lp) (h2 : decide ((specL Lp).filter (badN Lp) = []) = true) (hq : q = false) (hr : r = false) (hm : (specL Lp).contains nStatus = true) : soundF q r Lp = false := by
  rw [snd_head hf h1 h2, hq, hr, hm, Bool.or_true]; rfl
theorem soundR_is {c e : Bool} : soundR Lp c e = if connC c e ((specL Lp).contains nScheme) ((specL Lp).contains nPath) (decide (saidL Lp nPath = some [])) then soundH Lp else false := by
  unfold soundR connC
  cases c <;> cases e <;> cases (specL Lp).contains nScheme <;> cases (specL Lp).contains nPath <;> cases decide (saidL Lp nPath = some []) <;> rfl
theorem snd8 (hf : KeepP ((Lp.all fun p => fieldF p.1 p.2) = true)) (h1 : (Lp.map (·.1)).take (specL Lp).length = specL Lp) (h2 : decide ((specL Lp).filter (badN Lp) = []) = true) (hq : q = false) (hr : r = false) (hm : (specL Lp).contains nMethod = true) (hs : (specL Lp).contains nStatus = false) (hc : ¬ condC Lp) : soundF q r Lp = false := by
  rw [snd_head hf h1 h2, hq, hr, hm, hs, soundR_is, if_neg hc]; rfl
theorem snd9 (hf : KeepP ((Lp.all fun p => fieldF p.1 p.2) = true)) (h1 : (Lp.map (·.1)).take (specL Lp).length = specL Lp) (h2 : decide ((specL Lp).filter (badN Lp) = []) = true) (hq : q = false) (hr : r = false) (hm : (specL Lp).contains nMethod = true) (hs : (specL Lp).contains nStatus = false) (hc : condC Lp) : soundF q r Lp = soundH Lp := by
  rw [snd_head hf h1 h2, hq, hr, hm, hs, soundR_is, if_pos hc]; rfl
theorem sndA (ha : (specL Lp).contains nAuth = true) (hh : decide (hostsL Lp = []) = true) : soundH Lp = decide (hostsL Lp = []) := by
  unfold soundH; rw [ha, hh, of_decide_eq_true hh]; rfl
theorem sndB (ha : (specL Lp).contains nAuth = true) (hh : decide (hostsL Lp = []) = false) {xs : List Int} (hs : saidL Lp nAuth = some xs) : soundH Lp = decide (hostsL Lp = [xs]) := by
  unfold soundH; rw [ha, hs]
  cases e : hostsL Lp with
  | nil => rw [e] at hh; cases hh
  | cons a t => rfl
theorem sndC (ha : (specL Lp).contains nAuth = false) : soundH Lp = decide ((((hostsL Lp).length : Nat) : Int) = 1) := by
  unfold soundH; rw [ha]
  show decide ((hostsL Lp).length = 1) = _
  exact decide_eq_decide.mpr (by omega)
end
section
variable {Lp : List Pr} {xs xs' ys : List Int}
theorem cnd (c e sc pa ep : Bool) (h1 : decide (saidL Lp nMethod = some vConnect) = c) (h2 : (specL Lp).contains nProt = e) (h3 : (specL Lp).contains nScheme = sc) (h4 : (specL Lp).contains nPath = pa) (h5 : decide (saidL Lp nPath = some []) = ep) (b : Bool) (h : connC c e sc pa ep = b) : condC Lp ↔ b = true := by
  unfold condC; rw [h1, h2, h3, h4, h5, h]
theorem c_t (hs : saidL Lp nMethod = some xs) (hx : xs = vConnect) : decide (saidL Lp nMethod = some vConnect) = true := by rw [hs, hx]; exact decide_eq_true rfl
theorem c_f (hs : saidL Lp nMethod = some xs) (hx : ¬ xs = vConnect) : decide (saidL Lp nMethod = some vConnect) = false := by rw [hs]; exact decide_eq_false fun e => hx (Option.some.inj e)
theorem p_t (hs : saidL Lp nPath = some ys) (hy : ys = bl []) : decide (saidL Lp nPath = some []) = true := by rw [hs, hy]; exact decide_eq_true rfl
theorem p_f (hs : saidL Lp nPath = some ys) (hy : ¬ ys = bl []) : decide (saidL Lp nPath = some []) = false := by rw [hs]; exact decide_eq_false fun e => hy (Option.some.inj e)
theorem nxt1 (hs : saidL Lp nMethod = some xs) (hx : xs = vConnect) (h2 : (specL Lp).contains nProt = false) (h3 : (specL Lp).contains nScheme = false) (h4 : (specL Lp).contains nPath = false) : condC Lp :=
  (cnd _ _ _ _ _ (c_t hs hx) h2 h3 h4 rfl true rfl).mpr rfl
theorem nxt2 (hs : saidL Lp nMethod = some xs) (hx : xs = vConnect) (h2 : (specL Lp).contains nProt = true) (h3 : (specL Lp).contains nScheme = true) (h4 : (specL Lp).contains nPath = true) (hp : saidL Lp nPath = some ys) (hy : ¬ ys = bl []) : condC Lp :=
  (cnd _ _ _ _ _ (c_t hs hx) h2 h3 h4 (p_f hp hy) true rfl).mpr rfl
theorem nxt3 (hs : saidL Lp nMethod = some xs) (hx : ¬ xs = vConnect) (h2 : (specL Lp).contains nProt = false) (h3 : (specL Lp).contains nScheme = true) (h4 : (specL Lp).contains nPath = true) (hp : saidL Lp nPath = some ys) (hy : ¬ ys = bl []) : condC Lp :=
  (cnd _ _ _ _ _ (c_f hs hx) h2 h3 h4 (p_f hp hy) true rfl).mpr rfl
theorem not_of (h : connC (decide (saidL Lp nMethod = some vConnect)) ((specL Lp).contains nProt) ((specL Lp).contains nScheme) ((specL Lp).contains nPath) (decide (saidL Lp nPath = some [])) = false) : ¬ condC Lp := by
  unfold condC; rw [h]; decide
theorem bad1 (hs : saidL Lp nMethod = some xs) (hx : xs = vConnect) (h2 : (specL Lp).contains nProt = false) (h3 : (specL Lp).contains nScheme = true) : ¬ condC Lp := not_of (by rw [c_t hs hx, h2, h3]; rfl)
theorem bad2 (hs : saidL Lp nMethod = some xs) (hx : xs = vConnect) (h2 : (specL Lp).contains nProt = false) (h4 : (specL Lp).contains nPath = true) : ¬ condC Lp := not_of (by rw [c_t hs hx, h2, h4]; cases (specL Lp).contains nScheme <;> rfl)
theorem bad3 (hs : saidL Lp nMethod = some xs) (hx : ¬ xs = vConnect) (h2 : (specL Lp).contains nProt = true) : ¬ condC Lp := not_of (by rw [c_f hs hx, h2]; rfl)
theorem bad4 (hs : saidL Lp nMethod = some xs) (hx : xs = vConnect) (h2 : (specL Lp).contains nProt = true) (h3 : (specL Lp).contains nScheme = false) : ¬ condC Lp := not_of (by rw [c_t hs hx, h2, h3]; rfl)
theorem bad5 (hs : saidL Lp nMethod = some xs) (hx : xs = vConnect) (h2 : (specL Lp).contains nProt = true) (h4 : (specL Lp).contains nPath = false) : ¬ condC Lp := not_of (by rw [c_t hs hx, h2, h4]; cases (specL Lp).contains nScheme <;> rfl)
theorem bad6 (hs : saidL Lp nMethod = some xs) (hx : xs = vConnect) (h2 : (specL Lp).contains nProt = true) (hp : saidL Lp nPath = some ys) (hy : ys = bl []) : ¬ condC Lp := not_of (by rw [c_t hs hx, h2, p_t hp hy]; cases (specL Lp).contains nScheme <;> cases (specL Lp).contains nPath <;> rfl)
theorem bad7 (hs : saidL Lp nMethod = some xs) (hx : ¬ xs = vConnect) (h3 : (specL Lp).contains nScheme = false) : ¬ condC Lp := not_of (by rw [c_f hs hx, h3]; cases (specL Lp).contains nProt <;> rfl)
theorem bad8 (hs : saidL Lp nMethod = some xs) (hx : ¬ xs = vConnect) (h4 : (specL Lp).contains nPath = false) : ¬ condC Lp := not_of (by rw [c_f hs hx, h4]; cases (specL Lp).contains nProt <;> cases (specL Lp).contains nScheme <;> rfl)
theorem bad9 (hs : saidL Lp nMethod = some xs) (hx : ¬ xs = vConnect) (hp : saidL Lp nPath = some ys) (hy : ys = bl []) : ¬ condC Lp := not_of (by rw [c_f hs hx, p_t hp hy]; cases (specL Lp).contains nProt <;> cases (specL Lp).contains nScheme <;> cases (specL Lp).contains nPath <;> rfl)
theorem contr1 (hs : saidL Lp nMethod = some xs) (hx : xs = vConnect) (hx' : ¬ xs' = vConnect) (hs' : saidL Lp nMethod = some xs') : False := by rw [hs] at hs'; exact hx' (Option.some.inj hs' ▸ hx)
end
theorem Sound_c {w : World} {mean : ExcName → Option Value} {mg mb : Str → Option Value} {b0 : Heap} {outer : List Env} {dp un : Nat} {gd : Option (List Code)} {s : Shared} {Q E : Value → Shared → Prop}
    {ba : Addr} {items : List Value} {cb : Nat} {k : Str} {kt : Tok} {Lp : List Pr}
    (G : Gd w mean mg mb b0 outer s.heap) (hgd : gd = some []) (hdp : dp + 30 < recursionLimit) (hun : un + 100 < cLine)
    (hbl : s.heap.get? ba = some (listO items.toArray cb)) (hi : ∀ v ∈ items, ItemH s.heap 1000 v) (hz : items.length ≤ 1000) (hL : items.map (ctH s.heap) = Lp)
    (ret : ∀ h' tk, Ext s.heap h' → Q (.bool (soundF (k == Str.ofString "trailers") (k == Str.ofString "response") Lp)) { s with heap := h', toks := tk }) :
    wpAny (model Pg w) (AZ dp un gd outer) (call (.ref 355) [.ref ba, .str k kt]) Q E s := by
  k_with_none
  k_with "getMethod bytes" => (k_here; (with_reducible first | refine gm_lower ?_ | refine gm_strip ?_ | refine gm_find ?_))
  k_with "pyReprObj" => (k_here; (refine repr_K (by kba_ints) (by kba_size) ?_); intro _ _ _ _; (try dsimp only))
  k_with "call builtin:bytes.lower" => (k_here; (refine lower_K (by kba_ints) (by kba_size) ?_); intro _ _ _ _; (try dsimp only))
  k_with "call builtin:bytes.find" => (k_here; (refine find_K (by kba_ints) (by first | assumption | rfl | decide +kernel) ?_); intro _ _ _ _; (try dsimp only))
  k_with "compareOp Eq" => (k_here; (with_reducible show wpAny _ _ (compareOp CmpOp.Eq (Value.bytes _ _) (Value.bytes _ _)) _ _ _); (refine eqB_K (by kba_ints) (by kba_ints) ?_))
  k_with "compareOp NotEq" => (k_here; (with_reducible show wpAny _ _ (compareOp CmpOp.NotEq (Value.bytes _ _) (Value.bytes _ _)) _ _ _); (refine neB_K (by kba_ints) (by kba_ints) ?_))
  k_with "compareOp Eq bytes bytes" => (k_here; (refine eqB_K (by kba_ints) (by kba_ints) ?_))
  k_with "compareOp NotEq bytes bytes" => (k_here; (refine neB_K (by kba_ints) (by kba_ints) ?_))
  k_with "compareOp In bytes ref" => (k_here; k_dflt (first | (refine' in_tupB (kss := ownL) (tupK ?qX ?qF ?qh) ?qhb ?qhit ?qhk ?_; (case qX => assumption); (case qF => assumption); (case qh => k_is); (case qhb => exact rfl); (case qhit => exact rfl); (case qhk => kba_ints)) | (refine' in_tupB (kss := allowedL) (tupK ?qX ?qF ?qh) ?qhb ?qhit ?qhk ?_; (case qX => assumption); (case qF => assumption); (case qh => k_is); (case qhb => exact rfl); (case qhit => exact rfl); (case qhk => kba_ints))))
  k_with "compareOp NotIn bytes ref" => (k_here; k_dflt (refine' notIn_tupB (kss := allowedL) (tupK ?qX ?qF ?qh) ?qhb ?qhit ?qhk ?_; (case qX => assumption); (case qF => assumption); (case qh => k_is); (case qhb => exact rfl); (case qhit => exact rfl); (case qhk => kba_ints)))
  k_with "subscriptTail" => (k_here; (with_reducible show wpAny _ _ (subscriptTail _ _ (Value.bytes _ _) (Value.int _ _)) _ _ _); (first | refine item0_A (by kba_ints) (by omega) (by omega) ?_ | refine itemL_A (by kba_ints) (by omega) (by omega) ?_); intro _ _ _ _ _ _; (try dsimp only))
  k_with "exec For" => (k_here; (with_unfolding_all refine' For_mine ?qF ?qhE ?qhx ?qhp ?qhs ?_; (case qF => assumption); (case qhE => assumption); (case qhx => exact rfl); (case qhp => exact rfl); (case qhs => exact fun _ => rfl); k_whole))
  k_with "exec For Name Name cons nil" => (k_here; (with_unfolding_all refine' For_mine ?qF ?qhE ?qhx ?qhp ?qhs ?_; (case qF => assumption); (case qhE => assumption); (case qhx => exact rfl); (case qhp => exact rfl); (case qhs => exact fun _ => rfl); k_whole))
  k_with "subscriptTail" => (k_here; (with_reducible show wpAny _ _ (subscriptTail _ _ (Value.ref _) (Value.int _ _)) _ _ _); (first | (refine pair0_A (by k_asm) (by assumption) ?_) | (refine pair1_A (by k_asm) (by assumption) ?_)))
  k_with "compareOp In bytes bytes" => (k_here; k_dflt (refine' inb_K ?qhk ?qhl ?qhh ?qF ?qN ?_; (case qhk => kba_ints); (case qhl => exact rfl); (case qhh => exact rfl); (case qF => k_asm); (case qN => k_asm)); intro _ _ _ _; (try dsimp only))
  k_with "eval Name" => (k_here; (with_reducible show wpAny _ _ (eval (Expr.Name _ _) (compEnvC _ _ _ _)) _ _ _); k_dflt (refine' name_local rfl rfl (by decide) (Fr.ns (by k_asm)) (by with_reducible assumption) ?_); (try dsimp only))
  k_with "call ref" => (k_here; (with_reducible show wpAny _ _ (call (Value.ref 350) _) _ _ _); k_dflt (refine field_K (by k_asm) (by k_asm) (gd_in (by with_reducible assumption) (by k_asm) (fun e => nomatch e) rfl) rfl (by first | omega | (dsimp only; omega) | (dsimp only [AZ]; omega)) (by first | omega | (dsimp only; omega) | (dsimp only [AZ]; omega)) (by with_reducible assumption) (by with_reducible assumption) (by with_reducible assumption) (by with_reducible assumption) ?_); intro _ _ _ _; (try dsimp only))
  k_with "eval ListComp" => (k_here; (with_reducible show wpAny _ _ (eval (Expr.ListComp _ [⟨Expr.Tuple _ _ _, _, [], _⟩] _ _) _) _ _ _); k_dflt (refine' comp_block (q := fun _ => true) (b := true) ?qhh ?qF ?qN ?qhiter ?qhl ?qhi ?qhN ?qhz ?qhclos ?qhcell ?qhkind ?qhnames ?qhs ?qhx ?qhx2 ?qhxx ?qhxe ?qhd ?qtst ?_; (case qF => k_asm); (case qN => k_asm); (case qhiter => (intro _ hq'; k_steps; exact hq')); (case qhl => assumption); (case qhi => assumption); (case qhN => exact Nat.le_refl _); (case qhz => assumption); (case qhh => exact rfl); (case qhclos => with_unfolding_all rfl); (case qhcell => decide); (case qhkind => rfl); (case qhnames => decide); (case qhs => (intro v'; rfl)); (case qhx => rfl); (case qhx2 => rfl); (case qhxx => decide); (case qhxe => rfl); (case qhd => decide); (case qtst => (intro _ _ _ _ _ _ _ _ _ _ _ _ _ _ _ _ _ S'; exact wpAny_pure ⟨rfl, _, _, rfl, fun _ _ _ e => e, S'.ns⟩)); k_whole); intro _ _ _ _ _ _ _ _ M'; (have M2' := names_made (by with_reducible assumption) M'); (clear M'); (try dsimp only))
  k_with "call builtin:len" => (k_here; k_dflt (refine len_made_K (by k_asm) (by k_mem) (by with_reducible assumption) (by with_reducible assumption) ?_); intro _ _; (try dsimp only))
  k_with "subscriptTail" => (k_here; (with_reducible show wpAny _ _ (subscriptTail _ (Expr.Slice _ _ _ _) (Value.ref _) (Value.ref _)) _ _ _); k_dflt (refine' cut_made_K ?qF ?qN ?qm ?qM ?qz ?qv ?_ ?qs ?qt; (case qF => k_asm); (case qN => k_asm); (case qm => k_mem); (case qM => with_reducible assumption); (case qz => with_reducible assumption); (case qv => exact rfl); (case qs => with_unfolding_all rfl); (case qt => exact fun _ => rfl)); intro _ _ _ _ _ _ _; (try dsimp only))
  k_with "compareOp NotEq ref ref" => (k_here; k_dflt (refine' ne_made_K ?qN ?qm ?qm2 ?qM ?qM2 ?qu ?_; (case qN => k_asm); (case qm => k_mem); (case qm2 => k_mem); (case qM => with_reducible assumption); (case qM2 => first | (with_reducible assumption) | exact made_nil | exact made_one (by kba_ints) (by first | assumption | decide)); (case qu => first | omega | (dsimp only; omega) | (dsimp only [AZ, Around.deeper]; omega))); (try dsimp only))
  k_with "eval Name" => (k_here; (with_reducible show wpAny _ _ (eval (Expr.Name (Str.ofString "special") _) (compEnvC _ _ _ _)) _ _ _); k_dflt (refine' name_freeK ?qhk ?qhph ?qhc ?qN ?qhm ?qhoc ?qhd ?_; (case qN => k_asm); (case qhk => exact rfl); (case qhph => exact rfl); (case qhc => exact rfl); (case qhm => ((repeat (first | (with_reducible assumption) | apply List.mem_cons_of_mem)))); (case qhoc => with_reducible assumption); (case qhd => decide)); (try dsimp only))
  k_with "getMethod ref" => (k_here; (with_reducible show wpAny _ _ (getMethod (Value.ref _) (Str.ofString "count") _) _ _ _); k_dflt (refine' countM_K ?qN ?qhm ?_; (case qN => k_asm); (case qhm => ((repeat (first | (with_reducible assumption) | apply List.mem_cons_of_mem))))); (try dsimp only))
  k_with "call builtin:list.count" => (k_here; k_dflt (refine' count_made_K ?qN ?qhm ?qM ?qhk ?_; (case qN => k_asm); (case qhm => ((repeat (first | (with_reducible assumption) | apply List.mem_cons_of_mem)))); (case qM => with_reducible assumption); (case qhk => kba_ints)); intro _; (try dsimp only))
  k_with "compareOp NotIn bytes ref" => (k_here; k_dflt (refine' notin_made_K ?qN ?qhm ?qM ?qhk ?_; (case qN => k_asm); (case qhm => first | k_mem | ((repeat (first | (with_reducible assumption) | apply List.mem_cons_of_mem)))); (case qM => with_reducible assumption); (case qhk => kba_ints)); (try dsimp only))
  k_with "compareOp In bytes ref" => (k_here; k_dflt (refine' in_made_K ?qN ?qhm ?qM ?qhk ?_; (case qN => k_asm); (case qhm => first | k_mem | ((repeat (first | (with_reducible assumption) | apply List.mem_cons_of_mem)))); (case qM => with_reducible assumption); (case qhk => kba_ints)); (try dsimp only))
  k_with "eval ListComp" => (k_here; (with_reducible show wpAny _ _ (eval (Expr.ListComp _ [⟨Expr.Name _ _, _, _, _⟩] _ _) _) _ _ _); k_dflt (refine' comp_bad ?qhh ?qF ?qN ?qhiter ?qhm ?qM ?qhz ?qhclos ?qhcell ?qhkind ?qhnames ?qhs ?qhx ?qhxe ?qhd ?qtst ?_; (case qF => k_asm); (case qN => k_asm); (case qhiter => (intro _ hq'; k_steps; exact hq')); (case qhm => k_mem); (case qM => with_reducible assumption); (case qhz => with_reducible assumption); (case qhh => exact rfl); (case qhclos => with_unfolding_all rfl); (case qhcell => decide); (case qhkind => rfl); (case qhnames => decide); (case qhs => (intro _; rfl)); (case qhx => rfl); (case qhxe => rfl); (case qhd => decide); (case qtst => (intro _ _ _ _ _ _ _ _ _ _ _ _ S'; obtain ⟨led', hled', Fc', Nc', hms'⟩ := S'.open; simp only [List.forall_mem_cons] at hms'; obtain ⟨hm1', hm2', hm3', hm4', hm5'⟩ := hms'; refine' wpAny_tests_one ?_; k_steps; all_goals first | exact S'.fin hled' (by with_reducible assumption) (by with_reducible assumption) (fun p hp => by simp [hp]) | exact badN_1 (by with_reducible assumption) | exact badN_2 (by with_reducible assumption) | exact badN_3 (by with_reducible assumption) | exact badN_4 (by with_reducible assumption) (by with_reducible assumption))); k_whole); intro _ _ _ _ _ _ _ _ _; (try dsimp only))
  k_with "compareOp Eq ref ref" => (k_here; k_dflt (refine' eq_made_K ?qN ?qm ?qm2 ?qM ?qM2 ?qu ?_; (case qN => k_asm); (case qm => k_mem); (case qm2 => k_mem); (case qM => with_reducible assumption); (case qM2 => first | (with_reducible assumption) | exact made_nil | exact made_one (by kba_ints) (by first | assumption | decide)); (case qu => first | omega | (dsimp only; omega) | (dsimp only [AZ, Around.deeper]; omega))); (try dsimp only))
  k_with "subscriptTail" => (k_here; (with_reducible show wpAny _ _ (subscriptTail (Expr.Name (Str.ofString "block") _) (Expr.Slice _ _ _ _) (Value.ref _) (Value.ref _)) _ _ _); k_dflt (refine' cut_block_K ?qF ?qN ?ql ?qz ?qv ?_ ?qs ?qt; (case qF => k_asm); (case qN => k_asm); (case ql => assumption); (case qz => assumption); (case qv => exact rfl); (case qs => with_unfolding_all rfl); (case qt => exact fun _ => rfl)); intro _ _ _ _ _; (try dsimp only))
  k_with "call type:dict" => (k_here; k_dflt (refine' dict_said_K ?qhh ?qF ?qN ?qhm ?qhi ?qhN ?qhz ?qhL ?qhk ?qh1 ?qh2 ?_; (case qhh => exact rfl); (case qF => k_asm); (case qN => k_asm); (case qhm => k_mem); (case qhi => assumption); (case qhN => exact Nat.le_refl _); (case qhz => assumption); (case qhL => assumption); (case qhk => exact rfl); (case qh1 => with_reducible assumption); (case qh2 => with_reducible assumption)); intro _ _ _ _ _ _ _; (try dsimp only))
  k_with "subscriptTail" => (k_here; (with_reducible show wpAny _ _ (subscriptTail _ _ (Value.ref _) (Value.bytes _ _)) _ _ _); k_dflt (refine' said_K ?qN ?qhm ?qS ?qh1 ?qhk ?qh58 ?qhc ?_; (case qN => k_asm); (case qhm => k_mem); (case qS => with_reducible assumption); (case qh1 => with_reducible assumption); (case qhk => exact bl_ints _); (case qh58 => exact rfl); (case qhc => with_reducible assumption)); intro _ _ _ _ _ _ _; (try dsimp only))
  k_with "exec Assign cons ListComp" => (k_here; (with_reducible show wpAny _ _ (exec (Stmt.Assign [Expr.Name (Str.ofString "hosts") _] _ _) _) _ _ _); k_dflt (refine' acomp_block (q := qHost) (b := false) ?qhh ?qF ?qN ?qhiter ?qhl ?qhi ?qhN ?qhz ?qhL ?qhy ?qhp ?qhsw ?qhclos ?qhcell ?qhkind ?qhnames ?qhs ?qhx ?qhx2 ?qhxx ?qhxe ?qhd ?qtst ?_; (case qhh => exact rfl); (case qF => k_asm); (case qN => k_asm); (case qhiter => (intro _ hq'; k_steps; exact hq')); (case qhl => assumption); (case qhi => assumption); (case qhN => exact Nat.le_refl _); (case qhz => assumption); (case qhL => exact rfl); (case qhy => exact rfl); (case qhp => exact rfl); (case qhsw => with_unfolding_all rfl); (case qhclos => with_unfolding_all rfl); (case qhcell => decide); (case qhkind => rfl); (case qhnames => decide); (case qhs => (intro v'; rfl)); (case qhx => rfl); (case qhx2 => rfl); (case qhxx => decide); (case qhxe => rfl); (case qhd => decide); (case qtst => (intro _ _ _ _ _ _ _ _ _ _ _ _ _ _ _ _ _ S'; obtain ⟨led', hled', Fc', Nc', hms'⟩ := S'.open; refine' wpAny_tests_one ?_; k_steps; all_goals first | exact qhost_is | exact S'.fin hled' (by with_reducible assumption) (by with_reducible assumption) (fun p hp => by simp [hp]))); k_whole); intro _ _ _ _ _ _ _ _ M'; (have M2' := hosts_made (by with_reducible assumption) M'); (have hzh' := hosts_len (by with_reducible assumption) (by with_reducible assumption)); (clear M'); (try dsimp only))
  k_with "call ref" => (k_here; (with_reducible show wpAny _ _ (call (Value.ref 317) _) _ _ _); k_dflt (refine' six_K ?qF ?qN ?qG ?qd ?qu ?_; (case qF => k_asm); (case qN => k_asm); (case qG => exact CSt.gd2 (by assumption) (by with_reducible assumption) (fun e => nomatch e) rfl (by with_reducible assumption) (by k_asm) (by k_asm) (fun p hp => by first | exact hp | simp [hp])); (case qd => first | omega | (dsimp only; omega) | (dsimp only [AZ]; omega)); (case qu => first | omega | (dsimp only; omega) | (dsimp only [AZ]; omega))); intro _ _ _ _ _ _ _ _; (try dsimp only))
  k_with "execs cons" => (k_here; (with_reducible show wpAny _ _ (execs (Stmt.If _ _ [Stmt.If _ _ _ _] _ :: Stmt.Assign [Expr.Name (Str.ofString "hosts") _] _ _ :: _) _) _ _ _); k_dflt (refine' cut_if ?qF ?qN ?qS ?qcut1 ?qcut2 ?qcut3; (case qF => k_asm); (case qN => k_asm); (case qS => with_reducible assumption); (case' qcut1 => intro _ _ _); (case' qcut2 => intro hc' h' tk' F' _); (case' qcut3 => intro _ _ _ _)); (try dsimp only))
  subst hgd
  have X := G.X
  have T := G.T
  have kret : KeepP _ := ret
  clear ret
  obtain ⟨Ts, bn, bx, tn, tx, cn, R⟩ := rows_of hi
  refine wpAny_call ?_
  k_dflt (refine' enterC (binds := [(Str.ofString "block", .ref ba), (Str.ofString "kind", .str k kt)]) X T.nolimit ?ho ?hcd ?hroom ?hbind ?hkind ?hnd ?_ ?c6 ?c7 ?c8; (case ho => k_is); (case hcd => k_is); (case hroom => show dp < recursionLimit; omega); (case hbind => exact rfl); (case hkind => exact fun n y hy => by { rcases List.mem_cons.mp hy with rfl | hy; exact .inl rfl; rcases List.mem_cons.mp hy with rfl | hy; exact .inl rfl; cases hy }); (case hnd => decide); (case c6 => exact rfl); (case c7 => exact rfl); (case c8 => exact rfl); k_whole; intro L' h' tk' cells' F' N' Y')
  obtain ⟨o', hE', d1'⟩ := CellsAre.one Y'
  subst hE'
  clear Y'
  have d1 : o'.data = .cell none := d1'
  clear d1'
  refine wpAny_execs_cons ?_
  refine' For_pairs (Ts := Ts) (v1 := fun i => .bytes (bn i) (tn i)) (v2 := fun i => .bytes (bx i) (tx i)) (ok := fun i => fieldF (KBw.bInts (bn i)) (KBw.bInts (bx i))) ?hh F' N' ?hE ?hx ?hx2 ?hp ?hs ?hiter ?hl ?hit ?htup ?turn ?done ?early
  case hh => exact rfl
  case hE => passes_own
  case hx => exact rfl
  case hx2 => exact rfl
  case hp => exact rfl
  case hs => exact fun _ => rfl
  case hiter =>
    intro Q' hq'
    k_steps
    exact hq'
  case hl => exact ⟨_, hbl, rfl, _, rfl⟩
  case hit => exact fun j hj => by rw [List.size_toArray] at hj; simpa using R.it j hj
  case htup => exact fun j hj => ⟨_, R.ob j (by rwa [List.size_toArray] at hj), rfl, _, rfl⟩
  case turn =>
    intro QQ i h1 tk1 own hlt F1 N1 hok hbad
    rw [List.size_toArray] at hlt
    have l1 := R.ln i hlt
    have l2 := R.lx i hlt
    have kok : KeepP _ := hok
    have kbad : KeepP _ := hbad
    clear hok hbad F' N' kret
    unfold setTwo at F1
    generalize hkn : KBw.bInts (bn i) = kn at kok kbad l1
    generalize hkx : KBw.bInts (bx i) = kx at kok kbad l2
    k_steps
    · exact kok (by with_reducible assumption) _ _ _ (by with_reducible assumption) (fun z z1 z2 => by (try dsimp only); rw [if_neg z2, if_neg z1]) (by with_reducible assumption)
    · exact kbad (by with_reducible assumption) _ _ _ (by with_reducible assumption)
  case early =>
    rintro ⟨i, hlt, hf⟩ h1 tk1 m1 F1
    rw [List.size_toArray] at hlt
    unfold KeepP at kret
    rw [snd0 R hL hlt hf] at kret
    exact kret _ _ F1.keep
  case done =>
    intro hall u h1 tk1 F1 N1
    have hfl0 : True := trivial
    have hfl : KeepP ((Lp.all fun p => fieldF p.1 p.2) = true) := snd1 R hL fun i hlt => hall i (by rwa [List.size_toArray])
    clear hall R F' N'
    dsimp only
    refine wpAny_execs_cons ?_
    k_dflt (refine' acompC_block (q := qSp) (b := true) ?hh ?F ?N ?hiter ?hl ?hi ?hN ?hz ?hk ?hy ?hca ?hoc ?hcr ?hsw ?hclos ?hcell ?hkind ?hnames ?hs ?hx ?hx2 ?hxx ?hxe ?hd ?tst ?_)
    case hh => exact rfl
    case F => k_asm
    case N => k_asm
    case hl => assumption
    case hi => assumption
    case hN => exact Nat.le_refl _
    case hz => assumption
    case hk => exact rfl
    case hy => exact rfl
    case hca => exact rfl
    case hoc => assumption
    case hcr => exact fun _ h => nomatch h
    case hsw => with_unfolding_all rfl
    case hclos => with_unfolding_all rfl
    case hcell => decide
    case hkind => rfl
    case hnames => decide
    case hs => (intro v'; rfl)
    case hx => rfl
    case hx2 => rfl
    case hxx => decide
    case hxe => rfl
    case hd => decide
    case hiter => (intro Q' hq'; k_steps; exact hq')
    case tst =>
      intro C' m' h3' tk3' E'' n' v' tn' tv' ks' vs' hn' hv' l1' l2' h1' h2' S'
      have Fc := S'.Fc
      have Nc := news_ledger (b0 := s.heap) (h := h3') (fp := fun b => b = C') (L := C') rfl
      generalize hled : ledger s.heap (fun b => b = C') h3' = led at Nc
      clear F1 N1
      refine' wpAny_tests_one ?_
      k_steps
      · exact qsp_clip
      · exact S'.fin hled (by with_reducible assumption) (by with_reducible assumption) (fun p hp => by simp [hp])
    intro D2 h2 tk2 ys2 c2 oc2 F2 N2 hoc2 M2
    have M3 := spec_made hL M2
    clear M2 F1 N1 hfl0
    dsimp only
    have hz1 := spec_len hL hz
    have hz2 := names_len hL hz
    k_steps
    all_goals try first
      | (unfold KeepP at kret; rw [snd2 (by with_reducible assumption)] at kret; exact kret _ _ (Fr.keep (by assumption)))
      | (unfold KeepP at kret; rw [snd3 (by with_reducible assumption)] at kret; exact kret _ _ (Fr.keep (by assumption)))
      | (unfold KeepP at kret; rw [snd4 (by with_reducible assumption) (by with_reducible assumption) (by with_reducible assumption) (by with_reducible assumption)] at kret; exact kret _ _ (Fr.keep (by assumption)))
      | (unfold KeepP at kret; rw [snd5 (by with_reducible assumption) (by with_reducible assumption) (by with_reducible assumption) (by with_reducible assumption) (by with_reducible assumption)] at kret; exact kret _ _ (Fr.keep (by assumption)))
      | (unfold KeepP at kret; rw [snd6 (by with_reducible assumption) (by with_reducible assumption) (by with_reducible assumption) (by with_reducible assumption) (by with_reducible assumption) (by with_reducible assumption)] at kret; exact kret _ _ (Fr.keep (by assumption)))
      | (unfold KeepP at kret; rw [snd7 (by with_reducible assumption) (by with_reducible assumption) (by with_reducible assumption) (by with_reducible assumption) (by with_reducible assumption) (by with_reducible assumption)] at kret; exact kret _ _ (Fr.keep (by assumption)))
      | (unfold KeepP at kret; rw [snd8 (by with_reducible assumption) (by with_reducible assumption) (by with_reducible assumption) (by with_reducible assumption) (by with_reducible assumption) (by with_reducible assumption) (by with_reducible assumption) (by with_reducible assumption)] at kret; exact kret _ _ (Fr.keep (by assumption)))
      | (unfold KeepP at kret; rw [snd9 (by with_reducible assumption) (by with_reducible assumption) (by with_reducible assumption) (by with_reducible assumption) (by with_reducible assumption) (by with_reducible assumption) (by with_reducible assumption) (by with_reducible assumption), sndA (by with_reducible assumption) (by with_reducible assumption)] at kret; exact kret _ _ (Fr.keep (by assumption)))
      | (unfold KeepP at kret; rw [snd9 (by with_reducible assumption) (by with_reducible assumption) (by with_reducible assumption) (by with_reducible assumption) (by with_reducible assumption) (by with_reducible assumption) (by with_reducible assumption) (by with_reducible assumption), sndB (by with_reducible assumption) (by with_reducible assumption) (by with_reducible assumption)] at kret; exact kret _ _ (Fr.keep (by assumption)))
      | (unfold KeepP at kret; rw [snd9 (by with_reducible assumption) (by with_reducible assumption) (by with_reducible assumption) (by with_reducible assumption) (by with_reducible assumption) (by with_reducible assumption) (by with_reducible assumption) (by with_reducible assumption), sndC (by with_reducible assumption)] at kret; exact kret _ _ (Fr.keep (by assumption)))
    all_goals try (rename KeepP (condC Lp → _) => kq; rename KeepP (¬ condC Lp → _) => kr; unfold KeepP at kq kr)
    all_goals try first
      | (exact kq (nxt1 (by with_reducible assumption) (by with_reducible assumption) (by with_reducible assumption) (by with_reducible assumption) (by with_reducible assumption)) _ _ (by assumption) (by assumption))
      | (exact kq (nxt2 (by with_reducible assumption) (by with_reducible assumption) (by with_reducible assumption) (by with_reducible assumption) (by with_reducible assumption) (by with_reducible assumption) (by with_reducible assumption)) _ _ (by assumption) (by assumption))
      | (exact kq (nxt3 (by with_reducible assumption) (by with_reducible assumption) (by with_reducible assumption) (by with_reducible assumption) (by with_reducible assumption) (by with_reducible assumption) (by with_reducible assumption)) _ _ (by assumption) (by assumption))
      | (exact kr (bad1 (by with_reducible assumption) (by with_reducible assumption) (by with_reducible assumption) (by with_reducible assumption)) _ _ (by assumption))
      | (exact kr (bad2 (by with_reducible assumption) (by with_reducible assumption) (by with_reducible assumption) (by with_reducible assumption)) _ _ (by assumption))
      | (exact kr (bad3 (by with_reducible assumption) (by with_reducible assumption) (by with_reducible assumption)) _ _ (by assumption))
      | (exact kr (bad4 (by with_reducible assumption) (by with_reducible assumption) (by with_reducible assumption) (by with_reducible assumption)) _ _ (by assumption))
      | (exact kr (bad5 (by with_reducible assumption) (by with_reducible assumption) (by with_reducible assumption) (by with_reducible assumption)) _ _ (by assumption))
      | (exact kr (bad6 (by with_reducible assumption) (by with_reducible assumption) (by with_reducible assumption) (by with_reducible assumption) (by with_reducible assumption)) _ _ (by assumption))
      | (exact kr (bad7 (by with_reducible assumption) (by with_reducible assumption) (by with_reducible assumption)) _ _ (by assumption))
      | (exact kr (bad8 (by with_reducible assumption) (by with_reducible assumption) (by with_reducible assumption)) _ _ (by assumption))
      | (exact kr (bad9 (by with_reducible assumption) (by with_reducible assumption) (by with_reducible assumption) (by with_reducible assumption)) _ _ (by assumption))
      | (exact absurd (contr1 (by with_reducible assumption) (by with_reducible assumption) (by with_reducible assumption) (by with_reducible assumption)) id)

end
section
open PySem PySem.W PyProof.Rows PySem.Calls PySem.W.X PySem.SeqAt
set_option Elab.async false
set_option maxRecDepth 100000
set_option maxHeartbeats 2000000
set_option linter.unusedVariables false
theorem head_mid {M : Model} {A : Around} {p : Sem Value} {Q E : Value → Shared → Prop} {s : Shared} (h : wpAny M A p (fun v s' => (∃ n t, v = .int n t) ∧ ∃ tk, s' = { s with toks := tk }) E s) (k : ∀ n t tk, Q (.int n t) { s with toks := tk }) : wpAny M A p Q E s :=
  wpAny_mono h (fun v s' ⟨⟨n, t, e⟩, tk, e2⟩ => by subst e; subst e2; exact k n t tk) fun _ _ e => e
noncomputable def tupIn (K : Frag) : Value → Bool
  | .ref t => match K.lookup t with
    | some ⟨.type "tuple", none, .seq vs _, sl⟩ => (match vs.toList with | [.bytes n _, .bytes x _] => Nat.ble n.size 64 && Nat.ble x.size 64 | _ => false) && sl.isEmpty
    | _ => false
  | _ => false
theorem tupIn_item {K : Frag} {h : Heap} {v : Value} (X : K.In h) (e : tupIn K v = true) : ItemH h 64 v := by
  unfold tupIn at e
  split at e
  · rename_i t
    split at e
    · rename_i vs c sl hk
      simp only [Bool.and_eq_true] at e
      obtain ⟨e, e2⟩ := e
      split at e
      · rename_i n tn x tx hv
        simp only [Bool.and_eq_true] at e
        have hvs : vs = #[.bytes n tn, .bytes x tx] := Array.toList_inj.mp hv
        have hsl : sl = #[] := by simpa using e2
        subst hvs; subst hsl
        exact ⟨t, n, x, tn, tx, c, rfl, X _ _ hk, by rw [KBw.ints_length]; exact Nat.le_of_ble_eq_true e.1, by rw [KBw.ints_length]; exact Nat.le_of_ble_eq_true e.2⟩
      · cases e
    · cases e
  · cases e
noncomputable def blkIn (K : Frag) : Value → Bool
  | .ref t => match K.lookup t with
    | some ⟨.type "list", none, .seq vs _, sl⟩ => (Nat.ble vs.toList.length 6 && vs.toList.all (tupIn K)) && sl.isEmpty
    | _ => false
  | _ => false
theorem blkIn_blk {K : Frag} {h : Heap} {v : Value} (X : K.In h) (e : blkIn K v = true) : ∃ (a : Addr) (items : List Value) (c : Nat), v = .ref a ∧ h.get? a = some (listO items.toArray c) ∧ items.length ≤ 6 ∧ ∀ v ∈ items, ItemH h 64 v := by
  unfold blkIn at e
  split at e
  · rename_i t
    split at e
    · rename_i vs c sl hk
      simp only [Bool.and_eq_true] at e
      obtain ⟨⟨e1, e3⟩, e2⟩ := e
      have hsl : sl = #[] := by simpa using e2
      subst hsl
      exact ⟨t, vs.toList, c, rfl, X _ _ hk, Nat.le_of_ble_eq_true e1, fun v hv => tupIn_item X (List.all_eq_true.mp e3 v hv)⟩
    · cases e
  · cases e
noncomputable def blocksL : List Value := [.ref 287, .ref 290, .ref 296, .ref 302, .ref 306, .ref 309]
theorem blocks_get {w : World} {h : Heap} (X : (frJ.heap_1 w.params).In h) : h.get? 310 = some (listO blocksL.toArray 0) := X _ _ (by kernel_rfl)
theorem blocks_all (w : World) : blocksL.all (blkIn (frJ.heap_1 w.params)) = true := by kernel_rfl
theorem blockB_K {w : World} {A : Around} {s : Shared} {Q E : Value → Shared → Prop} {h₀ : Heap} {L : Addr} {m : PySem.Str → Option Value} {value slice : Expr} {i : Int} {ti : Tok} (F : Fr h₀ L s.heap m) (X : (frJ.heap_1 w.params).In h₀) (h0 : 0 ≤ i) (h1 : i < 6)
    (h : ∀ (a : Addr) (items : List Value) (c : Nat), h₀.get? a = some (listO items.toArray c) → items.length ≤ 6 → items.toArray.size ≤ sizeLine → (∀ v ∈ items, ItemH h₀ 64 v) → Q (.ref a) s)
    (hs : subscripted slice false (.ref 310) (.int i ti) = operate [.ref 310, .int i ti] (getItem (.ref 310) (.int i ti)) := by with_unfolding_all rfl) :
    wpAny (model Pg w) A (subscriptTail value slice (.ref 310) (.int i ti)) Q E s := by
  have hls : s.heap.IsList 310 blocksL.toArray := ⟨_, F.keep _ _ (blocks_get X), rfl, _, rfl⟩
  have hlt : i.toNat < blocksL.length := by show i.toNat < 6; omega
  obtain ⟨a, items, c, e, hg, hl, hi⟩ := blkIn_blk X (List.all_eq_true.mp (blocks_all w) _ (List.getElem_mem hlt))
  have hx : blocksL.toArray[i.toNat]? = some (.ref a) := by
    rw [List.getElem?_toArray, List.getElem?_eq_getElem hlt, e]
  exact tail_any hls.typeIs slot_list_getitem.lookup (wpAny_getItem_list hls h0 (Int.lt_of_lt_of_le (show i < 6 from h1) (by decide)) hx (h a items c hg hl (by rw [List.size_toArray]; exact Nat.le_trans hl (by decide)) hi)) hs
/-! ## stops -/
/-! ## what is kept -/
/-- all lists and tuples are kept -/
noncomputable def Seqs (h h' : Heap) : Prop := ∀ b o vs n, o.data = .seq vs n → h.get? b = some o → h'.get? b = some o
theorem Seqs.trans {h h' h'' : Heap} (x : Seqs h h') (y : Seqs h' h'') : Seqs h h'' := fun b o vs n d e => y b o vs n d (x b o vs n d e)
theorem seqs_kpt {h h' : Heap} {L : Addr} {m : PySem.Str → Option Value} (T : TabOk h) (hn : h.Ns L m) (K : Kpt L h h') : Seqs h h' := fun b o vs n d e => let q := seq_free T hn e d; K b o q.1 q.2 e
theorem seqs_it {h h' : Heap} {I : Addr} (x : IsIt h I) (K : ∀ b o, b ≠ I → h.get? b = some o → h'.get? b = some o) : Seqs h h' := fun b o vs n d e => K b o (fun q => by
  obtain ⟨oI, l, i, hoI, hdI⟩ := x
  rw [q, hoI] at e; cases e; rw [hdI] at d; cases d) e
/-- a block and what is in it -/
structure Blk (h : Heap) (a : Addr) (its : List Value) (k N : Nat) : Prop where
  get : ∃ c, h.get? a = some (listO its.toArray c)
  len : its.length ≤ k
  item : ∀ v ∈ its, ItemH h N v
theorem Blk.move {h h' : Heap} {a : Addr} {its : List Value} {k N : Nat} (x : Blk h a its k N) (S : Seqs h h') : Blk h' a its k N :=
  ⟨let ⟨c, e⟩ := x.get; ⟨c, S _ _ _ _ rfl e⟩, x.len, fun v hv => ((x.item v hv).keeps fun _ _ _ _ _ _ e => S _ _ _ _ rfl e).1⟩
theorem Blk.cts {h h' : Heap} {a : Addr} {its : List Value} {k N : Nat} (x : Blk h a its k N) (S : Seqs h h') : its.map (ctH h') = its.map (ctH h) :=
  List.map_congr_left fun v hv => ((x.item v hv).keeps fun _ _ _ _ _ _ e => S _ _ _ _ rfl e).2
theorem Blk.mono {h : Heap} {a : Addr} {its : List Value} {k k' N N' : Nat} (x : Blk h a its k N) (l1 : k ≤ k') (l2 : N ≤ N') : Blk h a its k' N' :=
  ⟨x.get, Nat.le_trans x.len l1, fun v hv => (x.item v hv).mono l2⟩
/-- a tuple of what was told, or is due -/
structure TupT (h : Heap) (T : Addr) (acc : Bool) (its : Array Value) : Prop where
  ok : acc = true → ∃ (t : Tok) (tl gv : Addr) (c1 c2 cT : Nat), h.get? T = some { cls := .type "tuple", data := .seq #[.str "told" t, .ref tl, .ref gv] cT } ∧ h.get? tl = some (listO its c1) ∧ h.get? gv = some (listO its c2)
  bad : acc = false → ∃ (t t1 : Tok) (gv : Addr) (c2 cT : Nat), h.get? T = some { cls := .type "tuple", data := .seq #[.str "refused" t, .int 1 t1, .ref gv] cT } ∧ h.get? gv = some (listO its c2)
theorem TupT.move {h h' : Heap} {T : Addr} {acc : Bool} {its : Array Value} (x : TupT h T acc its) (S : Seqs h h') : TupT h' T acc its :=
  ⟨fun q => let ⟨t, tl, gv, c1, c2, cT, e1, e2, e3⟩ := x.ok q; ⟨t, tl, gv, c1, c2, cT, S _ _ _ _ rfl e1, S _ _ _ _ rfl e2, S _ _ _ _ rfl e3⟩,
    fun q => let ⟨t, t1, gv, c2, cT, e1, e2⟩ := x.bad q; ⟨t, t1, gv, c2, cT, S _ _ _ _ rfl e1, S _ _ _ _ rfl e2⟩⟩
theorem TupT.ne {A : Around} {s : Shared} {T U : Addr} {acc : Bool} {its : Array Value} (x : TupT s.heap T acc its) (y : TupT s.heap U acc its) (hu : A.units + 5 < cLine) : RcNeAt A s (.ref T) (.ref U) false := by
  cases acc with
  | true =>
    obtain ⟨t, tl, gv, c1, c2, cT, e1, e2, e3⟩ := x.ok rfl
    obtain ⟨t', tl', gv', c1', c2', cT', f1, f2, f3⟩ := y.ok rfl
    exact ne_three ⟨_, e1, rfl, _, rfl⟩ ⟨_, f1, rfl, _, rfl⟩ (by omega) (eq_strs _ _ _) (eq_lists (items := its) ⟨_, e2, rfl, _, rfl⟩ ⟨_, f2, rfl, _, rfl⟩ (by show A.units + 1 < cLine; omega)) (eq_lists (items := its) ⟨_, e3, rfl, _, rfl⟩ ⟨_, f3, rfl, _, rfl⟩ (by show A.units + 1 < cLine; omega))
  | false =>
    obtain ⟨t, t1, gv, c2, cT, e1, e3⟩ := x.bad rfl
    obtain ⟨t', t1', gv', c2', cT', f1, f3⟩ := y.bad rfl
    exact ne_three ⟨_, e1, rfl, _, rfl⟩ ⟨_, f1, rfl, _, rfl⟩ (by omega) (eq_strs _ _ _) (eq_ints _ _ _) (eq_lists (items := its) ⟨_, e3, rfl, _, rfl⟩ ⟨_, f3, rfl, _, rfl⟩ (by show A.units + 1 < cLine; omega))
theorem TupT.eq {A : Around} {s : Shared} {T U : Addr} {acc : Bool} {its : Array Value} (x : TupT s.heap T acc its) (y : TupT s.heap U acc its) (hu : A.units + 5 < cLine) : RcAt A s (.ref T) (.ref U) true := by
  cases acc with
  | true =>
    obtain ⟨t, tl, gv, c1, c2, cT, e1, e2, e3⟩ := x.ok rfl
    obtain ⟨t', tl', gv', c1', c2', cT', f1, f2, f3⟩ := y.ok rfl
    exact eq_three ⟨_, e1, rfl, _, rfl⟩ ⟨_, f1, rfl, _, rfl⟩ (by omega) (eq_strs _ _ _) (eq_lists (items := its) ⟨_, e2, rfl, _, rfl⟩ ⟨_, f2, rfl, _, rfl⟩ (by show A.units + 1 < cLine; omega)) (eq_lists (items := its) ⟨_, e3, rfl, _, rfl⟩ ⟨_, f3, rfl, _, rfl⟩ (by show A.units + 1 < cLine; omega))
  | false =>
    obtain ⟨t, t1, gv, c2, cT, e1, e3⟩ := x.bad rfl
    obtain ⟨t', t1', gv', c2', cT', f1, f3⟩ := y.bad rfl
    exact eq_three ⟨_, e1, rfl, _, rfl⟩ ⟨_, f1, rfl, _, rfl⟩ (by omega) (eq_strs _ _ _) (eq_ints _ _ _) (eq_lists (items := its) ⟨_, e3, rfl, _, rfl⟩ ⟨_, f3, rfl, _, rfl⟩ (by show A.units + 1 < cLine; omega))
/-- from one state of the law to a later one -/
structure Tl (b0 : Heap) (L : Addr) (m : PySem.Str → Option Value) (s s' : Shared) : Prop where
  kpt : Kpt L s.heap s'.heap
  fr : Fr b0 L s'.heap m
  tab : TabOk s'.heap
  bare : AllBare s.gens → AllBare s'.gens
  drawn : s'.drawn = s.drawn
  os : s'.os = s.os
section
variable {w : World} {mean : ExcName → Option Value} {mg mb : Str → Option Value} {b0 : Heap} {env : Env} {dp un : Nat} {s : Shared} {Q E : Value → Shared → Prop} {L : Addr} {m : PySem.Str → Option Value}
theorem gd_law {h : Heap} (X : (frJ.heap_1 w.params).In b0) (T : Top topProg loose mean mg mb b0) (F : Fr b0 L h m) (hk : env.scope.kind ≠ .module) (hf : env.frame = some L) : Gd w mean mg mb b0 [env] h :=
  (⟨X, T, F.keep, trivial⟩ : Gd w mean mg mb b0 [] h).cons hk hf F.ns
theorem frs_law (hf : env.frame = some L) : ∀ b ∈ frs [env], b = L := fun b hb => by
  rw [frs_cons hf] at hb
  exact (List.mem_cons.mp hb).elim id fun q => by cases q
theorem told_L {bl fa dx : Addr} {its : List Value} {p q r t acc : Bool} {nf k : Nat}
    (X : (frJ.heap_1 w.params).In b0) (T : Top topProg loose mean mg mb b0) (F : Fr b0 L s.heap m) (hk : env.scope.kind ≠ .module) (hf : env.frame = some L) (hdp : dp + 100 < recursionLimit) (hun : un + 500 < cLine)
    (hP1 : b0.get? 248 = none) (hP2 : b0.get? 255 = none) (hTab : TabOk s.heap) (B : Blk s.heap bl its k 1000) (hkk : k ≤ 100) (hfa : s.heap.get? fa = some (flagO p q r t dx nf)) (hqr : (q && r) = false) (hacc : soundF q r (its.map (ctH s.heap)) = acc)
    (ret : ∀ s' T, Tl b0 L m s s' → TupT s'.heap T acc its.toArray → Q (.ref T) s') :
    wpAny (model Pg w) (AZ dp un (some []) [env]) (call (.ref 367) [.ref bl, .ref fa]) Q E s := by
  obtain ⟨cb, hb⟩ := B.get
  have hL := frs_law hf
  have tl : ∀ {s'}, ToldSt [env] s s' → Tl b0 L m s s' := fun x => ⟨kpt_told x hL, fr_told x hL (by rw [frs_cons hf]; exact .head _) hP1 hP2 F, x.tab, x.bare, x.drawn, x.os⟩
  refine Told_c (acc := acc) (ct := ctH s.heap) (gd_law X T F hk hf) rfl hdp hun (Nat.le_trans F.above (Nat.le_of_lt F.ns.lt)) hP1 hP2 (fun b hb => by rw [hL b hb]; exact Heap.get?_none_of_le F.above) hb (Nat.le_trans B.len hkk) hfa hqr (fun v hv => ?_) (fun kp hkp => ?_) hTab (fun ha s' T tl' gv t c1 c2 cT x e1 e2 e3 => ret s' T (tl x) ⟨fun _ => ⟨t, tl', gv, c1, c2, cT, e1, e2, e3⟩, fun q => by rw [ha] at q; cases q⟩)
    (fun ha s' T gv t t1 c2 cT x e1 e2 => ret s' T (tl x) ⟨fun q => (by rw [ha] at q; cases q), fun _ => ⟨t, t1, gv, c2, cT, e1, e2⟩⟩)
  · obtain ⟨a, n, x, tn, tx, c, e, ho, l1, l2⟩ := B.item v hv
    exact ⟨a, n, x, tn, tx, c, e, ho, l1, l2, by rw [e, ctH_of ho]⟩
  · rw [valS_all, law_is hqr, List.map_congr_left fun v hv => (hkp v hv).2, hacc]
theorem due_L {ba : Addr} {b : Bool} {its : List Value} {k N : Nat}
    (X : (frJ.heap_1 w.params).In b0) (T : Top topProg loose mean mg mb b0) (F : Fr b0 L s.heap m) (hk : env.scope.kind ≠ .module) (hf : env.frame = some L) (hdp : dp + 4 < recursionLimit) (hun : un + 30 < cLine) {gd : Option (List Code)} (B : Blk s.heap ba its k N)
    (ret : ∀ h' tk U, Ext s.heap h' → TupT h' U b its.toArray → Q (.ref U) { s with heap := h', toks := tk }) :
    wpAny (model Pg w) (AZ dp un gd [env]) (call (.ref 374) [.ref ba, .bool b]) Q E s := by
  obtain ⟨cb, hb⟩ := B.get
  exact Due_c (gd_law X T F hk hf) hdp hun (fun ha U h' tk t x _ e => ret h' tk U x ⟨fun _ => ⟨t, ba, ba, cb, cb, _, e, x _ _ hb, x _ _ hb⟩, fun q => by rw [ha] at q; cases q⟩)
    (fun ha U h' tk t t1 x _ e => ret h' tk U x ⟨fun q => (by rw [ha] at q; cases q), fun _ => ⟨t, t1, ba, cb, _, e, x _ _ hb⟩⟩)
end
theorem strItem_K {w : World} {A : Around} {s : Shared} {Q E : Value → Shared → Prop} {h₀ : Heap} {L : Addr} {news : List (Addr × Obj)} {value slice : Expr} {D : Addr} {its : Array Value} {c : Nat} {i : Int} {ti : Tok}
    (N : News h₀ L s.heap news) (hm : (D, W.listOf its c) ∈ news) (M : ∀ v ∈ its.toList, ∃ k t, v = .str k t) (h0 : 0 ≤ i) (h1 : i < (its.size : Int)) (hz : its.size ≤ 64) (h : ∀ k t, Q (.str k t) s)
    (hs : subscripted slice false (.ref D) (.int i ti) = operate [.ref D, .int i ti] (getItem (.ref D) (.int i ti)) := by with_unfolding_all rfl) :
    wpAny (model Pg w) A (subscriptTail value slice (.ref D) (.int i ti)) Q E s := by
  have hlt : i.toNat < its.size := by omega
  have hx : its[i.toNat]? = some its[i.toNat] := Array.getElem?_eq_getElem hlt
  obtain ⟨k, t, e⟩ := M its[i.toNat] (by rw [Array.mem_toList_iff]; exact Array.getElem_mem hlt)
  rw [e] at hx
  have hl : s.heap.IsList D its := ⟨_, (N _ hm).1, rfl, _, rfl⟩
  exact tail_any hl.typeIs slot_list_getitem.lookup (wpAny_getItem_list hl h0 (Int.lt_of_lt_of_le h1 (Int.le_trans (Int.ofNat_le.mpr hz) (by decide))) hx (h k t)) hs
theorem strs_of : ∀ {l : List Value}, (l.all fun v => match v with | .str _ _ => true | _ => false) = true → ∀ v ∈ l, ∃ k t, v = .str k t := fun e v hv => by
  have := List.all_eq_true.mp e v hv
  cases v <;> first | exact ⟨_, _, rfl⟩ | cases this
/-- a name that is stored as it stands -/
theorem Fr.dup {h₀ h : Heap} {L : Addr} {m : PySem.Str → Option Value} {x : PySem.Str} {v : Option Value} (F : Fr h₀ L h m) (e : m x = v) : Fr h₀ L h (fun y => if y = x then v else m y) := by
  have : (fun y => if y = x then v else m y) = m := funext fun y => by
    by_cases q : y = x
    · rw [if_pos q, q, e]
    · rw [if_neg q]
  rw [this]; exact F
/-- behind an if that may store a text under x -/
structure IfP (h₀ : Heap) (L : Addr) (m : PySem.Str → Option Value) (news : List (Addr × Obj)) (x : PySem.Str) (s : Shared) (f : Flow) (s' : Shared) : Prop where
  f0 : f = .next
  ex : ∃ h' tk k t, s' = { s with heap := h', toks := tk } ∧ Fr h₀ L h' (fun y => if y = x then some (.str k t) else m y) ∧ News h₀ L h' news
theorem if_mid {M : Model} {A : Around} {p : Sem Flow} {Q : Flow → Shared → Prop} {E : Value → Shared → Prop} {s : Shared} {h₀ : Heap} {L : Addr} {m : PySem.Str → Option Value} {news : List (Addr × Obj)} {x : PySem.Str} (F : Fr h₀ L s.heap m)
    (h : wpAny M A p (IfP h₀ L m news x s) E s)
    (k : ∀ h' tk k t, Fr h₀ L h' (fun y => if y = x then some (.str k t) else m y) → News h₀ L h' news → Q .next { s with heap := h', toks := tk }) : wpAny M A p Q E s :=
  wpAny_mono h (fun f s' ⟨e0, h', tk, k', t, e, F, N⟩ => by subst e0; subst e; exact k h' tk k' t F N) fun _ _ e => e
/-! ## the ledger and the way from one stop to the next -/
/-- kept: all but the frame -/
noncomputable def Kl (L : Addr) (h h' : Heap) : Prop := ∀ b o, ¬ b = L → h.get? b = some o → h'.get? b = some o
theorem kl_ext {h h' : Heap} {L : Addr} (x : Ext h h') : Kl L h h' := fun b o _ e => x b o e
theorem kl_kpt {h h' : Heap} {L : Addr} (x : Kl L h h') : Kpt L h h' := fun b o _ n e => x b o n e
structure Led (b0 : Heap) (L : Addr) (h : Heap) (led : List (Addr × Obj)) : Prop where
  keep : Ext b0 h
  eq : ledger b0 (fun b => b = L) h = led
theorem led_of {b0 h : Heap} {L : Addr} {m : PySem.Str → Option Value} (F : Fr b0 L h m) : ∃ led, Led b0 L h led ∧ News b0 L h led := ⟨_, ⟨F.keep, rfl⟩, news_ledger rfl⟩
theorem Led.kept {b0 h h' : Heap} {L : Addr} {led news : List (Addr × Obj)} {m : PySem.Str → Option Value} (x : Led b0 L h led) (F : Fr b0 L h' m) (N : News b0 L h' news) (i : ∀ p ∈ led, p ∈ news) : Kl L h h' :=
  kept_of (fp := fun b => b = L) x.keep F N (by rw [x.eq]; exact i)
section
variable {b0 : Heap} {L : Addr} {m m' : PySem.Str → Option Value} {s s' : Shared} {h : Heap} {tk : Nat}
theorem Tl.refl (F : Fr b0 L s.heap m) (T : TabOk s.heap) : Tl b0 L m s s := ⟨Kpt.refl _, F, T, id, rfl, rfl⟩
theorem Tl.step (x : Tl b0 L m s s') (hL : 259 < L) (F : Fr b0 L h m') (k : Kl L s'.heap h) : Tl b0 L m' s { s' with heap := h, toks := tk } :=
  ⟨x.kpt.trans (kl_kpt k), F, x.tab.walk x.fr.ns k (Nat.ne_of_gt (Nat.lt_trans (by decide) hL)) (Nat.ne_of_gt (Nat.lt_trans (by decide) hL)) (Nat.ne_of_gt (Nat.lt_trans (by decide) hL)) (Nat.ne_of_gt hL), x.bare, x.drawn, x.os⟩
theorem Tl.ext (x : Tl b0 L m s s') (hL : 259 < L) (e : Ext s'.heap h) : Tl b0 L m s { s' with heap := h, toks := tk } := x.step hL (Ext.fr e x.fr) (kl_ext e)
theorem Tl.trans {s'' : Shared} (x : Tl b0 L m s s') (y : Tl b0 L m' s' s'') : Tl b0 L m' s s'' := ⟨x.kpt.trans y.kpt, y.fr, y.tab, y.bare ∘ x.bare, y.drawn.trans x.drawn, y.os.trans x.os⟩
theorem Tl.seqs (x : Tl b0 L m s s') (F : Fr b0 L s.heap m') (T : TabOk s.heap) : Seqs s.heap s'.heap := seqs_kpt T F.ns x.kpt
/-- the test told != due comes to False -/
structure TelF (b0 : Heap) (L : Addr) (m : PySem.Str → Option Value) (s : Shared) (b : Bool) (s' : Shared) : Prop where
  f0 : b = false
  tl : Tl b0 L m s s'
theorem tell_mid {M : Model} {A : Around} {p : Sem Bool} {Q : Bool → Shared → Prop} {E : Value → Shared → Prop} (F : Fr b0 L s.heap m) (h : wpAny M A p (TelF b0 L m s) E s) (k : ∀ s', Tl b0 L m s s' → Q false s') : wpAny M A p Q E s :=
  wpAny_mono h (fun b s' x => by obtain ⟨rfl, t⟩ := x; exact k s' t) fun _ _ e => e
end
theorem two_kinds (k : PySem.Str) : ((k == Str.ofString "trailers") && (k == Str.ofString "response")) = false := by
  cases h : (k == Str.ofString "trailers") with
  | false => rfl
  | true =>
    have e : k = Str.ofString "trailers" := eq_of_beq h
    subst e
    decide
/-! ## the loop's word -/
theorem it_rec {h : Heap} {I c : Addr} {cv : Value} {q : PySem.Str} (x : IsIt h I) (y : h.CodeRec cv q) (e : cv = .ref c) : c ≠ I := fun z => by
  obtain ⟨o, l, i, ho, hd⟩ := x
  obtain ⟨c2, o2, vs, t, z1, z2, z3, z4⟩ := y
  rw [e] at z1; injection z1 with z1
  rw [← z1, z, ho] at z2; cases z2
  rw [hd] at z3; cases z3; cases z4
theorem TabOk.off {h h' : Heap} {I : Addr} (T : TabOk h) (x : IsIt h I) (hI : 259 < I) (k : ∀ b o, b ≠ I → h.get? b = some o → h'.get? b = some o) : TabOk h' :=
  have n : ∀ c : Nat, c ≤ 259 → c ≠ I := fun c hc => Nat.ne_of_lt (Nat.lt_of_le_of_lt hc hI)
  ⟨let ⟨ps, c⟩ := T.c1; ⟨ps, c.move (fun o => k _ o (n 252 (by decide))) fun o => k _ o (n 248 (by decide))⟩,
    let ⟨ps, c, r⟩ := T.c2; ⟨ps, c.move (fun o => k _ o (n 259 (by decide))) fun o => k _ o (n 255 (by decide)), fun cv hcv => let ⟨c', q1, q2, q3, q4⟩ := r cv hcv
      ⟨c', q1, q2, q3, codeRec_move q4 q1 fun o => k _ o (it_rec x q4 q1)⟩⟩⟩
structure LP where
  fx : Addr
  dx : Addr
  k : PySem.Str
  kt : Tok
  p : Bool
  n : Int
  tn : Tok
structure LS (b0 : Heap) (L : Addr) (P : LP) (sI : Shared) (N : Nat) (s : Shared) (m : PySem.Str → Option Value) (B T : Addr) (itB itT : List Value) (b : Bool) : Prop where
  tl : Tl b0 L m sI s
  head : m (Str.ofString "head") = some (.int P.n P.tn)
  kind : m (Str.ofString "kind") = some (.str P.k P.kt)
  flags : m (Str.ofString "flags") = some (.ref P.fx)
  block : m (Str.ofString "block") = some (.ref B)
  trial : m (Str.ofString "trial") = some (.ref T)
  sound : m (Str.ofString "sound") = some (.bool b)
  blk : Blk s.heap B itB 6 N
  tri : Blk s.heap T itT 8 N
  snd : soundF (P.k == Str.ofString "trailers") (P.k == Str.ofString "response") (itT.map (ctH s.heap)) = b
  flg : s.heap.get? P.fx = some (flagO P.p (P.k == Str.ofString "trailers") (P.k == Str.ofString "response") false P.dx 0)
structure LJ (b0 : Heap) (L : Addr) (P : LP) (sI : Shared) (I ax : Addr) (its : Array Value) (i : Nat) (s : Shared) : Prop where
  ex : ∃ m B T itB itT b, LS b0 L P sI (64 + 2 * i) s m B T itB itT b
  iL : I ≠ L
  i0 : 259 < I
  ib : b0.get? I = none
  iS : sI.heap.get? I = none
  ls : ∃ c, s.heap.get? ax = some (listO its c)
theorem fr_i {b0 h h' : Heap} {L I : Addr} {m : PySem.Str → Option Value} (F : Fr b0 L h m) (iL : I ≠ L) (ib : b0.get? I = none) (k : ∀ b o, b ≠ I → h.get? b = some o → h'.get? b = some o) : Fr b0 L h' m :=
  ⟨F.ns.at' fun o e => k L o iL.symm e, fun b o e => k b o (fun q => by rw [q, ib] at e; cases e) (F.keep b o e), F.above⟩
theorem LJ.off {b0 : Heap} {L : Addr} {P : LP} {sI s s' : Shared} {I ax : Addr} {its : Array Value} {i : Nat} (x : LJ b0 L P sI I ax its i s) (it : IsIt s.heap I) (hg : s'.gens = s.gens) (hd : s'.drawn = s.drawn) (ho : s'.os = s.os)
    (k : ∀ b o, b ≠ I → s.heap.get? b = some o → s'.heap.get? b = some o) : LJ b0 L P sI I ax its i s' := by
  obtain ⟨⟨m, B, T, itB, itT, b, z⟩, iL, i0, ib, iS, c, hc⟩ := x
  have S := seqs_it it k
  refine ⟨⟨m, B, T, itB, itT, b, ⟨fun b o h1 h2 e => k b o (fun q => by rw [q, iS] at e; cases e) (z.tl.kpt b o h1 h2 e), fr_i z.tl.fr iL ib k, z.tl.tab.off it i0 k, fun hb => hg ▸ z.tl.bare hb, hd.trans z.tl.drawn, ho.trans z.tl.os⟩,
    z.head, z.kind, z.flags, z.block, z.trial, z.sound, z.blk.move S, z.tri.move S, ?_, S _ _ _ _ rfl z.flg⟩, iL, i0, ib, iS, c, S _ _ _ _ rfl hc⟩
  rw [z.tri.cts S]; exact z.snd
theorem none_kl {h h' : Heap} {L I : Addr} (k : Kl L h h') (e : I = h'.objs.size) (n : I ≠ L) : h.get? I = none := by
  cases q : h.get? I with
  | none => rfl
  | some o => exact absurd (Heap.lt_size (k I o n q)) (by rw [e]; exact Nat.lt_irrefl _)
theorem none_kpt {h h' : Heap} {L I : Addr} (k : Kpt L h h') (e : I = h'.objs.size) (n : I ≠ L) (i0 : 259 < I) : h.get? I = none := by
  cases q : h.get? I with
  | none => rfl
  | some o => exact absurd (Heap.lt_size (k I o (fun z => z.elim (fun z => absurd i0 (by rw [z]; decide)) fun z => absurd i0 (by rw [z]; decide)) n q)) (by rw [e]; exact Nat.lt_irrefl _)
theorem grown_tab {h : Heap} (T : TabOk h) : GrownAll [(252, 248), (259, 255)] h :=
  ⟨let ⟨ps, c⟩ := T.c1; ⟨ps, c.tab⟩, let ⟨ps, c, _⟩ := T.c2; ⟨ps, c.tab⟩, trivial⟩
/-- behind the second turning -/
structure IfT (b0 : Heap) (L : Addr) (m : PySem.Str → Option Value) (x : PySem.Str) (s : Shared) (N : Nat) (f : Flow) (s' : Shared) : Prop where
  f0 : f = .next
  ex : ∃ D its, Tl b0 L (fun y => if y = x then some (.ref D) else m y) s s' ∧ Blk s'.heap D its 8 N
theorem turn_mid {M : Model} {A : Around} {p : Sem Flow} {Q : Flow → Shared → Prop} {E : Value → Shared → Prop} {s : Shared} {b0 : Heap} {L : Addr} {m : PySem.Str → Option Value} {x : PySem.Str} {N : Nat} (F : Fr b0 L s.heap m)
    (h : wpAny M A p (IfT b0 L m x s N) E s)
    (k : ∀ s' D its, Tl b0 L (fun y => if y = x then some (.ref D) else m y) s s' → Blk s'.heap D its 8 N → Q .next s') : wpAny M A p Q E s :=
  wpAny_mono h (fun f s' ⟨e0, D, its, t, B⟩ => by subst e0; exact k s' D its t B) fun _ _ e => e
theorem turn_end {b0 : Heap} {L : Addr} {P : LP} {sI s₂ s₃ : Shared} {m m2 m' : PySem.Str → Option Value} {I ax : Addr} {its : Array Value} {i cj : Nat} {B T : Addr} {itB itT : List Value} {b : Bool}
    (jL : I ≠ L) (j0 : 259 < I) (jb : b0.get? I = none) (jS : sI.heap.get? I = none) (hj : s₂.heap.get? ax = some (listO its cj)) (F2 : Fr b0 L s₂.heap m2) (T2 : TabOk s₂.heap) (u : Tl b0 L m s₂ s₃)
    (z : LS b0 L P sI (64 + 2 * (i + 1)) s₃ m' B T itB itT b) :
    LJ b0 L P sI I ax its (i + 1) s₃ ∧ (∀ o, s₂.heap.get? I = some o → s₃.heap.get? I = some o) ∧ ∀ o, s₂.heap.get? ax = some o → s₃.heap.get? ax = some o :=
  have S := u.seqs F2 T2
  ⟨⟨⟨m', B, T, itB, itT, b, z⟩, jL, j0, jb, jS, cj, S _ _ _ _ rfl hj⟩, fun o e => u.kpt I o (fun q => q.elim (fun q => absurd j0 (by rw [q]; decide)) fun q => absurd j0 (by rw [q]; decide)) jL e,
    fun o e => by rw [hj] at e; cases e; exact S _ _ _ _ rfl hj⟩

end
section
open PySem PySem.W PyProof.Rows PySem.Calls PySem.W.X
set_option Elab.async false
set_option maxRecDepth 100000
set_option maxHeartbeats 2000000
set_option linter.unusedVariables false
set_option pp.maxSteps 3000
set_option pp.deepTerms false
set_option pp.deepTerms.threshold 6
theorem t : PySem.Challenge.rw_jb0017_01.Holds := hd (by
  k_with_none
  k_with "eval IfExp" => (k_dflt (refine' head_mid (wpAny_IfExp ?_) ?_; (· k_steps; all_goals exact ⟨⟨_, _, rfl⟩, _, rfl⟩); (intro _ _ _)))
  k_with "call type:list cons nil [ref ]" => (k_here; k_dflt (refine listCopy_K (by k_asm) (by k_asm) (by assumption) (by assumption) ?_); intro _ _ _ _ _ _; (try dsimp only))
  k_with "subscriptTail" => (k_here; (with_reducible show wpAny _ _ (subscriptTail _ _ (Value.ref 310) (Value.int _ _)) _ _ _); k_dflt (refine' blockB_K ?F ?X ?ga ?gb ?_; (case F => k_asm); (case X => assumption); (case ga => exact fmod_lo _ (by decide)); (case gb => exact fmod_hi _ (by decide)); k_whole); intro aB itB cB hB1 hB2 hB3 hB4; (try dsimp only))
  k_with "subscriptTail" => (k_here; (with_reducible show wpAny _ _ (subscriptTail (Expr.List _ _) _ (Value.ref _) (Value.int _ _)) _ _ _); k_dflt (refine' strItem_K ?N ?hm ?M ?ga ?gb ?hz ?_; (case N => k_asm); (case hm => k_mem); (case M => exact strs_of (by rfl)); (case ga => exact fmod_lo _ (by decide)); (case gb => exact fmod_hi _ (by decide)); (case hz => exact Nat.le_of_ble_eq_true rfl); k_whole); intro _ _; (try dsimp only))
  k_with "binaryOp Mod int int" => (k_here; k_dflt (refine modI (by first | decide | omega) ?_); intro _ _; (try dsimp only))
  k_with "binaryOp FloorDiv int int" => (k_here; k_dflt (refine fdivI (by decide) (PyProof.noPylong_of_log2 (by decide +kernel)) ?_); intro _ _; (try dsimp only))
  k_with "exec If" => (k_here; refine stop ?_)
  k_with "exec For" => (k_here; refine stop ?_)
  k_with "compareOp NotEq ref ref" => (k_here; refine stop ?_)
  k_with "compareOp Eq ref ref" => (k_here; refine stop ?_)
  k_with "call builtin:len" => (k_here; refine stop ?_)
  k_with "call ref" => (k_here; (with_reducible first | show wpAny _ _ (call (Value.ref 182) _) _ _ _ | show wpAny _ _ (call (Value.ref 345) _) _ _ _ | show wpAny _ _ (call (Value.ref 355) _) _ _ _ | show wpAny _ _ (call (Value.ref 360) _) _ _ _ | show wpAny _ _ (call (Value.ref 367) _) _ _ _ | show wpAny _ _ (call (Value.ref 374) _) _ _ _); refine stop ?_)
  k_fill
  intro w s₀ s₁ mg mb G Y fa o pm cd doc dV kV ho hd hcd hD hmg hg args vals as hpre hlay hrd hwl hlo
  have KX := km_in_of Y
  km_tabs Y
  have X := (Ground.X G).1
  have V := (Ground.X G).2
  refine Ground.open G ?_
  intro T B D TE TW
  try (refine guard_noD D (by decide +kernel) ?_; clear D)
  km_lay T hmg ho hd cd
  clear hmg
  wrow_args hpre hlay hrd hwl hlo
  all_goals (
    first | refine callC_kw (enter_call ?_) | refine enter_call ?_
    w_top on
    clear hT9
    have hT9 : TabsAt ([(252, 248), (259, 255)] : List (Addr × Addr)) s₁.heap := List.forall_mem_cons.mpr ⟨⟨codeHd_of_K (c := 252) (P := 248) KX (by kernel_rfl), hT8 248 (by k_mem)⟩, List.forall_mem_cons.mpr ⟨⟨codeHd_of_K (c := 259) (P := 255) KX (by kernel_rfl), hT8 255 (by k_mem)⟩, fun _ h => nomatch h⟩⟩
    refine end_law hT9 ?hn ?hp ?_
    (case hn => refine raisesW_false ?_; wrow_none_raised)
    (case hp => wrow_post)
    w_call any ho hd hcd hD T F
    clear hd
    kn_ghosts F T
    k_drop
    clear ho
    rename_i is_ hs hl0 hL1 hr1 hl2 w4 w3 aS vS w0 hL ra wl r0 hI hrA hcnd1 hcnd2 h1 X1 T1 K1 F1 hc1 N1 l1
    clear hs hl0 hL1 hr1 hl2 ra wl r0 hrA hcnd2 hD TE TW B V X Y G hcd hT8
    have T2 : Top topProg loose (ExcName.means s₀.heap) mg mb (ghostOf s₁.heap [(252, 248), (259, 255)]) := by
      exact Top.wider T1 (by kernel_rfl) (by kernel_rfl)
    have hP1 : (ghostOf s₁.heap [(252, 248), (259, 255)]).get? 248 = none := hideAll_none _ (.head _)
    have hP2 : (ghostOf s₁.heap [(252, 248), (259, 255)]).get? 255 = none := hideAll_none _ (.tail _ (.head _))
    have hbk : ∀ b o, b ∉ ([248, 255] : List Addr) → s₁.heap.get? b = some o → (ghostOf s₁.heap [(252, 248), (259, 255)]).get? b = some o := fun b o hb e => ghost_ne e hb
    have hTab : TabOk h1 := ⟨⟨#[], (hc1.keeps F1.keep).code (N1 _ (.head _)).1 trivial, (hc1.keeps F1.keep).tab (N1 _ (.head _)).1⟩,
      ⟨#[], ⟨(codeHd.keeps F1.keep).code (N1 _ (.tail _ (.head _))).1 trivial, (codeHd.keeps F1.keep).tab (N1 _ (.tail _ (.head _))).1⟩, fun cv hcv => by cases hcv⟩⟩
    have hz0 : (ghostOf s₁.heap [(252, 248), (259, 255)]).objs.size = s₁.heap.objs.size := hideAll_size _ _
    clear T T1 hL hT9 K1 hc1 codeHd
    have hbv : ∃ b0, b0 = ghostOf s₁.heap [(252, 248), (259, 255)] := ⟨_, rfl⟩
    obtain ⟨b0, hbv⟩ := hbv
    rw [← hbv] at X1 F1 N1 T2 hP1 hP2 lifted hz0
    have hbk' : ∀ b o, b ∉ ([248, 255] : List Addr) → s₁.heap.get? b = some o → b0.get? b = some o := by rw [hbv]; exact hbk
    clear hbk hbv
    have hn9 : ∃ o, b0.get? 259 = some o := (Option.isSome_iff_exists.mp (show ((frJ.heap_1 w.params).lookup 259).isSome = true by kernel_rfl)).elim fun o h => ⟨o, X1 _ _ h⟩
    have hL : 259 < s₁.heap.objs.size := Nat.lt_of_lt_of_le (Heap.lt_size hn9.choose_spec) F1.above
    have kT1 : KeepP _ := hTab
    have t1 : Tl b0 s₁.heap.objs.size _ { s₁ with heap := h1 } { s₁ with heap := h1 } := Tl.refl F1 hTab
    have kF1 : KeepP _ := F1
    clear N1
    obtain ⟨led, hled, N1⟩ := led_of F1
    k_steps
    rename_i n tn tk0 hp0 F0 N0 tt0 kk0
    (refine listCopy_K (by k_asm) (by k_asm) (by assumption) (by assumption) ?_); intro D h2 c2 F2 N2 hD2; (try dsimp only)
    k_steps
    (rename Fr _ _ _ _ => F3; rename News _ _ _ _ => N3)
    unfold Stop
    refine if_mid (x := Str.ofString "kind") (news := (D, listO itB.toArray c2) :: led) F3 ?ifh ?_
    case ifh =>
      refine wpAny_If ?_
      k_steps
      all_goals (rename Fr _ _ _ _ => F4; rename News _ _ _ _ => N4)
      · exact ⟨rfl, _, _, _, _, rfl, F4, fun p hp => N4 p (.tail _ (.tail _ hp))⟩
      · exact ⟨rfl, _, _, _, _, rfl, Fr.dup F4 rfl, fun p hp => N4 p (.tail _ hp)⟩
    clear F3 N3
    intro h3 tk3 k3 t3 F3 N3
    try dsimp only
    k_steps
    unfold Stop
    (rename Fr _ _ _ _ => F4; rename News _ _ _ _ => N4)
    refine Flags_c F4 N4 X1 (gd_law X1 T2 F4 (fun e => nomatch e) rfl) (by decide) (by decide) fun fx dx h5 tk5 F5 N5 => ?_
    clear F4 N4
    try dsimp only
    k_steps
    unfold Stop
    (rename Fr _ _ _ _ => F6; rename News _ _ _ _ => N6)
    have t6 := t1.step (tk := 0) hL F6 (hled.kept F6 N6 fun p hp => .tail _ (.tail _ hp))
    have B6 := (⟨⟨c2, (N6 _ (.tail _ (.head _))).1⟩, hB2, fun v hv => ((hB4 v hv).keeps fun _ _ _ _ _ _ e => F6.keep _ _ e).1⟩ : Blk _ D itB 6 64)
    have g6 := (N6 _ (.head _)).1
    try dsimp only at t6 g6
    refine Sound_c (gd_law X1 T2 F6 (fun e => nomatch e) rfl) rfl (by decide) (by decide) B6.get.choose_spec (fun v hv => (B6.item v hv).mono (by decide)) (Nat.le_trans B6.len (by decide)) rfl fun h7 tk7 x7 => ?_
    generalize hsb : soundF _ _ _ = sb
    have t7 := t6.ext (tk := tk7) hL x7
    try dsimp only at t7
    have S7 : Seqs _ h7 := fun b o vs n _ e => x7 b o e
    have B7 := B6.move S7
    have e7 := B6.cts S7
    have g7 := x7 _ _ g6
    have F7 := t7.fr
    try dsimp only at F7
    rw [← e7] at hsb
    clear t6 B6 g6 x7 F6 N6 S7 e7 t1 hled
    obtain ⟨led7, hled7, N7⟩ := led_of F7
    try dsimp only
    k_steps
    unfold Stop
    (rename Fr _ _ _ _ => F8; rename News _ _ _ _ => N8)
    have t8 := t7.step (tk := tk) hL F8 (hled7.kept F8 N8 fun p hp => hp)
    have S8 := seqs_kpt t7.tab t7.fr.ns (kl_kpt (hled7.kept F8 N8 fun p hp => hp))
    try dsimp only at t8 S8
    have B8 := B7.move S8
    have e8 := B7.cts S8
    have g8 := S8 _ _ _ _ rfl g7
    rw [← e8] at hsb
    clear t7 B7 e8 g7 hled7 N8 S8
    obtain ⟨led8, hled8, N8⟩ := led_of F8
    refine wpAny_If ?_
    refine tell_mid F8 ?tm ?_
    case tm =>
      have kF8 : KeepP _ := F8
      have u8 := Tl.refl (s := { s₁ with heap := _, toks := tk }) F8 t8.tab
      k_steps
      unfold Stop
      (rename Fr _ _ _ _ => F9; rename News _ _ _ _ => N9)
      have k9 := hled8.kept F9 N9 fun p hp => hp
      have u9 := u8.step (tk := tk) hL F9 k9
      have S9 := seqs_kpt t8.tab t8.fr.ns (kl_kpt k9)
      try dsimp only at u9 S9
      have B9 := B8.move S9
      have e9 := B8.cts S9
      refine told_L X1 T2 F9 (fun e => nomatch e) rfl (by decide) (by decide) hP1 hP2 u9.tab (B9.mono (Nat.le_refl _) (by decide)) (by decide) (S9 _ _ _ _ rfl g8) (two_kinds k3) (e9 ▸ hsb) fun s' T tl tt => ?_
      have u10 := u9.trans tl
      have SA := u9.seqs F8 t8.tab
      have S10 := tl.seqs F9 u9.tab
      obtain ⟨hp10, gn10, dr10, tk10, os10⟩ := s'
      have F10 := u10.fr
      try dsimp only at F10 S10 SA
      have B10 := B9.move S10
      clear F9 N9 k9 S9 tl u9 B9 e9 hled8
      obtain ⟨led10, hled10, N10⟩ := led_of F10
      try dsimp only
      k_steps
      unfold Stop
      (rename Fr _ _ _ _ => F11; rename News _ _ _ _ => N11)
      have k11 := hled10.kept F11 N11 fun p hp => hp
      have u11 := u10.step (tk := tk) hL F11 k11
      have S11 := seqs_kpt u10.tab u10.fr.ns (kl_kpt k11)
      try dsimp only at u11 S11
      have B11 := B10.move S11
      have tt11 := tt.move S11
      refine due_L X1 T2 F11 (by exact fun e => nomatch e) rfl (by decide) (by decide) B11 fun h12 tk12 U x12 tu => ?_
      have u12 := u11.ext (tk := tk12) hL x12
      have tt12 : TupT h12 _ _ _ := tt11.move fun b o vs n _ e => x12 b o e
      have F12 := u12.fr
      try dsimp only at u12 F12
      clear F11 N11 k11 u11 S11 u10 x12 tt11 tt B11 B10 S10 hled10
      obtain ⟨led12, hled12, N12⟩ := led_of F12
      try dsimp only
      k_steps
      unfold Stop
      (rename Fr _ _ _ _ => F13; rename News _ _ _ _ => N13)
      have k13 := hled12.kept F13 N13 fun p hp => hp
      have S13 := seqs_kpt u12.tab u12.fr.ns (kl_kpt k13)
      try dsimp only at S13
      refine (TupT.ne (tt12.move S13) (tu.move S13) (Nat.le_of_ble_eq_true rfl)) _ _ _ _ ?_
      k_steps
      exact ⟨rfl, u12.step hL F13 k13⟩
    intro s14 u14
    obtain ⟨h14, g14, d14, tk14, o14⟩ := s14
    have t14 := t8.trans u14
    have S14 := u14.seqs F8 t8.tab
    have F14 := t14.fr
    try dsimp only at t14 S14 F14
    have B14 := B8.move S14
    have e14 := B8.cts S14
    have q14 := S14 _ _ _ _ rfl g8
    rw [← e14] at hsb
    clear t8 B8 e14 g8 hled8 N8 S14 u14 F8
    obtain ⟨led14, hled14, N14⟩ := led_of F14
    try dsimp only
    k_steps
    unfold Stop
    refine For_st (LJ b0 s₁.heap.objs.size ⟨fx, dx, k3, t3, n.fmod 2 == 0, n, tn⟩ { s₁ with heap := h1 }) rfl ?hE ?hs ?hJ ?start
    case hE => first | passes_own | with_unfolding_all passes_own
    case hs => exact fun _ => rfl
    case hJ => exact fun I ax its i s s' x it hg hd ho k => x.off it hg hd ho k
    case start =>
      k_steps
      rename_i ax ws h15 F15 N15 lax iax cax dax
      have k15 := hled14.kept F15 N15 fun p hp => .tail _ hp
      have t15 := t14.step (tk := tk) hL F15 k15
      have S15 := seqs_kpt t14.tab t14.fr.ns (kl_kpt k15)
      try dsimp only at t15 S15
      refine ⟨ax, ws.toArray, rfl, ⟨_, (N15 _ (.head _)).1, rfl, _, rfl⟩, fun I h eI x it => ?_⟩
      have iL : I ≠ s₁.heap.objs.size := fun q => Nat.ne_of_lt F15.ns.lt (q.symm.trans eI)
      have i0 : 259 < I := Nat.lt_trans hL (by rw [eI]; exact F15.ns.lt)
      have B15 := B14.move (S15.trans fun b o vs n _ e => x b o e)
      have e15 := B14.cts (S15.trans fun b o vs n _ e => x b o e)
      refine ⟨⟨⟨_, D, D, itB, itB, sb, ⟨t15.ext hL x, rfl, rfl, rfl, rfl, rfl, rfl, B15, B15.mono (by decide) (Nat.le_refl _), by rw [e15]; exact hsb, x _ _ (S15 _ _ _ _ rfl q14)⟩⟩,
          iL, i0, Heap.get?_none_of_le (by rw [eI]; exact Nat.le_trans F15.above (Nat.le_of_lt F15.ns.lt)), none_kpt t15.kpt eI iL i0, _, x _ _ (N15 _ (.head _)).1⟩, fun i v s₂ hv J it2 => ?_, fun s₂ J => ?_⟩
      · obtain ⟨⟨m, B, T, itB2, itT, b, z⟩, jL, j0, jb, jS, cj, hj⟩ := J
        obtain ⟨h30, gn30, dr30, tk30, os30⟩ := s₂
        obtain ⟨d, td, hvd, hdd⟩ := iax.at i v (by rw [List.getElem?_toArray] at hv; exact hv)
        subst hvd
        have hi63 : i < 63 := by
          have h1 := iax.length
          have h2 := (List.getElem?_eq_some_iff.mp hdd).1
          omega
        have z1 := z.head
        have z2 := z.kind
        have z3 := z.block
        have z4 := z.flags
        have z5 := z.trial
        have z6 := z.sound
        have t30 := z.tl
        have T30 := z.tri
        have B30 := z.blk
        have d30 := z.snd
        have f30 := z.flg
        dsimp only at z1 z2 z3 z4 z5 z6 t30 T30 B30 d30 f30 hj
        have F30 := Fr.dup (x := Str.ofString "flags") (Fr.dup (x := Str.ofString "kind") (Fr.dup t30.fr z3) z2) z4
        have hN0 : 64 ≤ 64 + 2 * i := Nat.le_add_right _ _
        have hN1 : 64 + 2 * i + 2 ≤ 1000 := by omega
        have u30 := Tl.refl (s := ⟨h30, gn30, dr30, tk30, os30⟩) F30 t30.tab
        have Tab30 := t30.tab
        have kF30 : KeepP _ := F30
        clear z S15 t15 k15 B15 e15 x it hled14 hv it2
        (try clear N14); (try clear F14); (try clear t14); (try clear B14); (try clear q14); (try clear hsb); (try clear N15); (try clear F15)
        obtain ⟨led30, hled30, N30⟩ := led_of F30
        try dsimp only
        k_steps
        unfold Stop
        (rename Fr _ _ _ _ => F31; rename News _ _ _ _ => N31)
        have k31 := hled30.kept F31 N31 fun p hp => hp
        have u31 := u30.step (tk := tk) hL F31 k31
        have S31 := seqs_kpt u30.tab u30.fr.ns (kl_kpt k31)
        try dsimp only at u31 S31
        have B31 := B30.move S31
        have T31 := T30.move S31
        refine Turned_c (n := 64 + 2 * i) (gd_law X1 T2 F31 (fun e => nomatch e) rfl) (by decide) (by decide) B31.get.choose_spec B31.item hN0 (by omega) (Nat.le_trans B31.len (by decide)) fun D1 h32 tk32 it1 c1 x32 g32 l32 i32 => ?_
        have D32 := (⟨⟨c1, g32⟩, Nat.le_trans l32 (Nat.succ_le_succ B31.len), i32⟩ : Blk h32 D1 it1 7 (64 + 2 * i + 1))
        have S32 : Seqs h30 h32 := S31.trans fun b o vs n _ e => x32 b o e
        have u32 := u31.ext (tk := tk32) hL x32
        have F32 := u32.fr
        try dsimp only at u32 F32
        clear F31 N31 k31 u31 S31 B31 T31 x32 g32 l32 i32 hled30 u30
        (try clear F30)
        obtain ⟨led32, hled32, N32⟩ := led_of F32
        try dsimp only
        k_steps
        unfold Stop
        (rename Fr _ _ _ _ => F33; rename News _ _ _ _ => N33)
        have k33 := hled32.kept F33 N33 fun p hp => hp
        have u33 := u32.step (tk := tk) hL F33 k33
        have S33 := seqs_kpt u32.tab u32.fr.ns (kl_kpt k33)
        try dsimp only at u33 S33
        have D33 := D32.move S33
        have S30b := S32.trans S33
        clear k33 S33 D32 hled32 u32 N33 S32
        (try clear F32)
        obtain ⟨led33, hled33, N33⟩ := led_of F33
        refine turn_mid (x := Str.ofString "turned") (N := 64 + 2 * i + 2) F33 ?tif ?_
        case tif =>
          have v33 := Tl.refl (s := ⟨_, gn30, dr30, tk, os30⟩) F33 u33.tab
          have kF33 : KeepP _ := F33
          refine wpAny_If ?_
          k_steps
          · unfold Stop
            (rename Fr _ _ _ _ => F34; rename News _ _ _ _ => N34)
            have k34 := hled33.kept F34 N34 fun p hp => hp
            have v34 := v33.step (tk := 0) hL F34 k34
            have S34 := seqs_kpt u33.tab u33.fr.ns (kl_kpt k34)
            try dsimp only at v34 S34
            have D34 := D33.move S34
            refine Turned_c (n := 64 + 2 * i + 1) (gd_law X1 T2 F34 (fun e => nomatch e) rfl) (by decide) (by decide) D34.get.choose_spec D34.item (by omega) (by omega) (Nat.le_trans D34.len (by decide)) fun D2 h36 tk36 it2 c2 x36 g36 l36 i36 => ?_
            have D36 := (⟨⟨c2, g36⟩, Nat.le_trans l36 (Nat.succ_le_succ D34.len), i36⟩ : Blk h36 D2 it2 8 (64 + 2 * i + 2))
            have v36 := v34.ext (tk := tk36) hL x36
            have F36 := v36.fr
            try dsimp only at v36 F36
            clear F34 N34 k34 v34 S34 D34 x36 g36 l36 i36 v33 hled33
            obtain ⟨led36, hled36, N36⟩ := led_of F36
            try dsimp only
            k_steps
            (rename Fr _ _ _ _ => F37; rename News _ _ _ _ => N37)
            have k37 := hled36.kept F37 N37 fun p hp => hp
            exact ⟨rfl, D2, it2, v36.step hL F37 k37, D36.move (seqs_kpt v36.tab v36.fr.ns (kl_kpt k37))⟩
          · (rename Fr _ _ _ _ => F34; rename News _ _ _ _ => N34)
            have k34 := hled33.kept F34 N34 fun p hp => hp
            exact ⟨rfl, D1, it1, v33.step hL (Fr.dup F34 rfl) k34, (D33.move (seqs_kpt u33.tab u33.fr.ns (kl_kpt k34))).mono (by decide) (by omega)⟩
        intro s38 D its u38 D38
        obtain ⟨h38, gn38, dr38, tk38, os38⟩ := s38
        have S38 := S30b.trans (u38.seqs F33 u33.tab)
        have t38 := u33.trans u38
        have F38 := t38.fr
        try dsimp only at t38 F38 S38 D38
        clear u38 S30b D33 hled33 u33
        (try clear F33); (try clear N33)
        obtain ⟨led38, hled38, N38⟩ := led_of F38
        try dsimp only
        k_steps
        unfold Stop
        refine wpAny_If ?_
        k_steps
        unfold Stop
        (rename Fr _ _ _ _ => F39; rename News _ _ _ _ => N39)
        have k39 := hled38.kept F39 N39 fun p hp => hp
        have t39 := t38.step (tk := tk) hL F39 k39
        have S39 := seqs_kpt t38.tab t38.fr.ns (kl_kpt k39)
        try dsimp only at t39 S39
        have D39 := D38.move S39
        refine Doubtful_c (gd_law X1 T2 F39 (fun e => nomatch e) rfl) (by decide) (by decide) D39.get.choose_spec (fun v hv => (D39.item v hv).mono hN1) (Nat.le_trans D39.len (by decide)) fun h40 tk40 bD x40 => ?_
        have D40 := D39.move (h' := h40) fun b o vs n _ e => x40 b o e
        have S40 : Seqs h30 h40 := (S38.trans S39).trans fun b o vs n _ e => x40 b o e
        have t40 := t39.ext (tk := tk40) hL x40
        have F40 := t40.fr
        try dsimp only at t40 F40
        clear F39 N39 k39 t39 S39 D39 x40 hled38 t38 S38 D38
        (try clear F38); (try clear N38)
        obtain ⟨led40, hled40, N40⟩ := led_of F40
        try dsimp only
        cases bD with
        | true =>
          k_steps
          exact turn_end jL j0 jb jS hj kF30 Tab30 t40 ⟨t30.trans t40, z1, rfl, rfl, rfl, z5, z6, (B30.move S40).mono (Nat.le_refl _) (by omega), (T30.move S40).mono (Nat.le_refl _) (by omega), by rw [T30.cts S40]; exact d30, S40 _ _ _ _ rfl f30⟩
        | false =>
          k_steps
          unfold Stop
          (rename Fr _ _ _ _ => F41; rename News _ _ _ _ => N41)
          have k41 := hled40.kept F41 N41 fun p hp => hp
          have t41 := t40.step (tk := 0) hL F41 k41
          have S41 := seqs_kpt t40.tab t40.fr.ns (kl_kpt k41)
          try dsimp only at t41 S41
          have D41 := D40.move S41
          refine Sound_c (gd_law X1 T2 F41 (fun e => nomatch e) rfl) rfl (by decide) (by decide) D41.get.choose_spec (fun v hv => (D41.item v hv).mono hN1) (Nat.le_trans D41.len (by decide)) rfl fun h43 tk43 x43 => ?_
          generalize hsb : soundF _ _ _ = sb2
          have S42 : Seqs _ h43 := fun b o vs n _ e => x43 b o e
          have e43 := D41.cts S42
          rw [← e43] at hsb
          have D43 := D41.move S42
          have S43 : Seqs h30 h43 := (S40.trans S41).trans S42
          have t43 := t41.ext (tk := tk43) hL x43
          have F43 := t43.fr
          try dsimp only at t43 F43
          clear F41 N41 k41 t41 S41 D41 x43 hled40 t40 S40 D40 S42 e43
          (try clear F40); (try clear N40)
          obtain ⟨led43, hled43, N43⟩ := led_of F43
          try dsimp only
          k_steps
          unfold Stop
          (rename Fr _ _ _ _ => F44; rename News _ _ _ _ => N44)
          have k44 := hled43.kept F44 N44 fun p hp => hp
          have t44 := t43.step (tk := tk) hL F44 k44
          have S44 := seqs_kpt t43.tab t43.fr.ns (kl_kpt k44)
          try dsimp only at t44 S44
          have D44 := D43.move S44
          rw [← D43.cts S44] at hsb
          have S30c := S43.trans S44
          clear k44 t43 S43 D43 hled43 S44 N44
          (try clear F43); (try clear N43)
          obtain ⟨led44, hled44, N44⟩ := led_of F44
          refine wpAny_If ?_
          refine tell_mid F44 ?tm2 ?_
          case tm2 =>
            have kF44 : KeepP _ := F44
            have v44 := Tl.refl (s := ⟨_, gn38, dr38, tk, os38⟩) F44 t44.tab
            k_steps
            unfold Stop
            (rename Fr _ _ _ _ => F45; rename News _ _ _ _ => N45)
            have k45 := hled44.kept F45 N45 fun p hp => hp
            have v45 := v44.step (tk := tk) hL F45 k45
            have S45 := seqs_kpt t44.tab t44.fr.ns (kl_kpt k45)
            try dsimp only at v45 S45
            have D45 := D44.move S45
            have e45 := D44.cts S45
            refine told_L X1 T2 F45 (fun e => nomatch e) rfl (by decide) (by decide) hP1 hP2 v45.tab (D45.mono (Nat.le_refl _) hN1) (by decide) (S45 _ _ _ _ rfl (S30c _ _ _ _ rfl f30)) (two_kinds k3) (e45 ▸ hsb) fun s' T' tl tt => ?_
            have v46 := v45.trans tl
            have S46 := tl.seqs F45 v45.tab
            obtain ⟨h46, gn46, dr46, tk46, os46⟩ := s'
            have F46 := v46.fr
            try dsimp only at v46 F46 S46
            have D46 := D45.move S46
            clear F45 N45 k45 S45 tl v45 D45 e45 hled44 v44 S46
            obtain ⟨led46, hled46, N46⟩ := led_of F46
            try dsimp only
            k_steps
            unfold Stop
            (rename Fr _ _ _ _ => F47; rename News _ _ _ _ => N47)
            have k47 := hled46.kept F47 N47 fun p hp => hp
            have v47 := v46.step (tk := tk) hL F47 k47
            have S47 := seqs_kpt v46.tab v46.fr.ns (kl_kpt k47)
            try dsimp only at v47 S47
            have D47 := D46.move S47
            have tt47 := tt.move S47
            refine due_L X1 T2 F47 (by exact fun e => nomatch e) rfl (by decide) (by decide) D47 fun h48 tk48 U x48 tu => ?_
            have v48 := v47.ext (tk := tk48) hL x48
            have tt48 : TupT h48 _ _ _ := tt47.move fun b o vs n _ e => x48 b o e
            have F48 := v48.fr
            try dsimp only at v48 F48
            clear F47 N47 k47 v47 S47 v46 x48 tt47 tt D47 D46 hled46
            (try clear F46); (try clear N46)
            obtain ⟨led48, hled48, N48⟩ := led_of F48
            try dsimp only
            k_steps
            unfold Stop
            (rename Fr _ _ _ _ => F49; rename News _ _ _ _ => N49)
            have k49 := hled48.kept F49 N49 fun p hp => hp
            have S49 := seqs_kpt v48.tab v48.fr.ns (kl_kpt k49)
            try dsimp only at S49
            refine (TupT.ne (tt48.move S49) (tu.move S49) (Nat.le_of_ble_eq_true rfl)) _ _ _ _ ?_
            k_steps
            exact ⟨rfl, v48.step hL F49 k49⟩
          intro s50 u50
          obtain ⟨h50, gn50, dr50, tk50, os50⟩ := s50
          have S50 := u50.seqs F44 t44.tab
          have t50 := t44.trans u50
          have F50 := t50.fr
          try dsimp only at t50 F50 S50
          have D50 := D44.move S50
          rw [← D44.cts S50] at hsb
          have S30d := S30c.trans S50
          clear u50 S50 D44 hled44 t44 S30c
          (try clear F44); (try clear N44)
          obtain ⟨led50, hled50, N50⟩ := led_of F50
          have kF50 : KeepP _ := F50
          try dsimp only
          k_steps
          unfold Stop
          refine wpAny_If ?_
          cases sb2 with
          | true =>
            k_steps
            unfold Stop
            (rename Fr _ _ _ _ => F51; rename News _ _ _ _ => N51)
            have k51 := hled50.kept F51 N51 fun p hp => hp
            have S51 := seqs_kpt t50.tab t50.fr.ns (kl_kpt k51)
            try dsimp only at S51
            obtain ⟨c51, g51⟩ := (D50.move S51).get
            refine call_len_list ⟨_, g51, rfl, _, rfl⟩ (by rw [List.size_toArray]; exact Int.lt_of_le_of_lt (Int.ofNat_le.mpr D50.len) (by decide)) ?_
            try dsimp only
            k_steps
            · have hlen : its.length ≤ 6 := by
                have h1 : its.toArray.size = its.length := List.size_toArray
                omega
              (rename Fr _ _ _ _ => F52; rename News _ _ _ _ => N52)
              have k52 := hled50.kept F52 N52 fun p hp => hp
              have S52 := seqs_kpt t50.tab t50.fr.ns (kl_kpt k52)
              try dsimp only at S52
              have D52 := D50.move S52
              refine turn_end (B := D) (T := D) (itB := its) (itT := its) (b := true) jL j0 jb jS hj kF30 Tab30 (t50.step hL F52 k52) (LS.mk (t30.trans (t50.step hL F52 k52)) ?g1 ?g2 ?g3 ?g4 ?g5 ?g6 ?g7 ?g8 ?g9 ?gx)
              case g1 => exact z1
              case g2 => rfl
              case g3 => rfl
              case g4 => rfl
              case g5 => rfl
              case g6 => rfl
              case g7 => exact ⟨D52.get, hlen, fun v hv => (D52.item v hv).mono (by omega)⟩
              case g8 => exact D52.mono (Nat.le_refl _) (by omega)
              case g9 => rw [D50.cts S52]; exact hsb
              case gx => exact (S30d.trans S52) _ _ _ _ rfl f30
            · refine turn_end (B := B) (T := D) (itB := itB2) (itT := its) (b := true) jL j0 jb jS hj kF30 Tab30 (t50.ext hL fun _ _ e => e) (LS.mk (t30.trans (t50.ext hL fun _ _ e => e)) ?w1 ?w2 ?w3 ?w4 ?w5 ?w6 ?w7 ?w8 ?w9 ?wx)
              case w1 => exact z1
              case w2 => rfl
              case w3 => rfl
              case w4 => rfl
              case w5 => rfl
              case w6 => rfl
              case w7 => exact (B30.move S30d).mono (Nat.le_refl _) (by omega)
              case w8 => exact D50.mono (Nat.le_refl _) (by omega)
              case w9 => exact hsb
              case wx => exact S30d _ _ _ _ rfl f30
          | false =>
            k_steps
            have y50 := t30.trans t50
            refine turn_end (B := B) (T := D) (itB := itB2) (itT := its) (b := false) jL j0 jb jS hj kF30 Tab30 t50 (LS.mk y50 ?u1 ?u2 ?u3 ?u4 ?u5 ?u6 ?u7 ?u8 ?u9 ?ux)
            case u1 => exact z1
            case u2 => rfl
            case u3 => rfl
            case u4 => rfl
            case u5 => rfl
            case u6 => rfl
            case u7 => exact (B30.move S30d).mono (Nat.le_refl _) (by omega)
            case u8 => exact D50.mono (Nat.le_refl _) (by omega)
            case u9 => exact hsb
            case ux => exact S30d _ _ _ _ rfl f30
      · obtain ⟨⟨m, B, T, itB2, itT, b, z⟩, jL, j0, jb, jS, cj, hj⟩ := J
        obtain ⟨h20, gn20, dr20, tk20, os20⟩ := s₂
        have z1 := z.head
        have z2 := z.kind
        have z3 := z.trial
        have z4 := z.sound
        have t20 := z.tl
        have T20 := z.tri
        have d20 := z.snd
        dsimp only at z1 z2 z3 z4 t20 T20 d20
        have F20 := Fr.dup (x := Str.ofString "sound") (Fr.dup (x := Str.ofString "trial") (Fr.dup (x := Str.ofString "kind") (Fr.dup t20.fr z1) z2) z3) z4
        have hN : 64 + 2 * ws.toArray.size ≤ 1000 := by
          have h1 := iax.length
          have h2 : ws.toArray.size = ws.length := List.size_toArray ..
          omega
        have T20 := T20.mono (Nat.le_refl _) hN
        have t20 : Tl b0 _ _ _ _ := ⟨t20.kpt, F20, t20.tab, t20.bare, t20.drawn, t20.os⟩
        clear z z1 z2 z3 z4 jL j0 jb jS hj S15 t15 k15 B15 e15 x it hled14
        (try clear N14); (try clear F14); (try clear t14); (try clear B14); (try clear q14); (try clear hsb); (try clear N15); (try clear F15)
        try dsimp only at F20 t20
        obtain ⟨led20, hled20, N20⟩ := led_of F20
        try dsimp only
        k_steps
        unfold Stop
        (rename Fr _ _ _ _ => F21; rename News _ _ _ _ => N21)
        refine Flags_c F21 N21 X1 (gd_law X1 T2 F21 (fun e => nomatch e) rfl) (by decide) (by decide) fun fx2 dx2 h22 tk22 F22 N22 => ?_
        clear F21 N21
        try dsimp only
        k_steps
        unfold Stop
        (rename Fr _ _ _ _ => F23; rename News _ _ _ _ => N23)
        have k23 := hled20.kept F23 N23 fun p hp => .tail _ hp
        have t23 := t20.step (tk := tk) hL F23 k23
        have S23 := seqs_kpt t20.tab t20.fr.ns (kl_kpt k23)
        try dsimp only at t23 S23
        have B23 := T20.move S23
        have e23 := T20.cts S23
        rw [← e23] at d20
        refine told_L X1 T2 F23 (fun e => nomatch e) rfl (by decide) (by decide) hP1 hP2 t23.tab B23 (by decide) (N23 _ (.head _)).1 (two_kinds k3) d20 fun s' T' tl tt => ?_
        have t24 := t23.trans tl
        obtain ⟨h24, gn24, dr24, tk24, os24⟩ := s'
        have S24 := tl.seqs F23 t23.tab
        have F24 := t24.fr
        try dsimp only at t24 S24 F24
        have B24 := B23.move S24
        clear F23 N23 k23 S23 tl t23 B23 t20 e23 hled20 T20 S24 d20; (try clear F20)
        obtain ⟨led24, hled24, N24⟩ := led_of F24
        try dsimp only
        k_steps
        unfold Stop
        (rename Fr _ _ _ _ => F25; rename News _ _ _ _ => N25)
        have k25 := hled24.kept F25 N25 fun p hp => hp
        have t25 := t24.step (tk := tk) hL F25 k25
        have S25 := seqs_kpt t24.tab t24.fr.ns (kl_kpt k25)
        try dsimp only at t25 S25
        have B25 := B24.move S25
        have tt25 := tt.move S25
        refine due_L X1 T2 F25 (by exact fun e => nomatch e) rfl (by decide) (by decide) B25 fun h26 tk26 U x26 tu => ?_
        have t26 := t25.ext (tk := tk26) hL x26
        have tt26 : TupT h26 _ _ _ := tt25.move fun b o vs n _ e => x26 b o e
        have F26 := t26.fr
        try dsimp only at t26 F26
        clear F25 N25 k25 t25 S25 t24 x26 tt25 tt B25 B24 hled24; (try clear F24)
        obtain ⟨led26, hled26, N26⟩ := led_of F26
        try dsimp only
        k_steps
        unfold Stop
        (rename Fr _ _ _ _ => F27; rename News _ _ _ _ => N27)
        have k27 := hled26.kept F27 N27 fun p hp => hp
        have S27 := seqs_kpt t26.tab t26.fr.ns (kl_kpt k27)
        have t27 := t26.step (tk := 0) hL F27 k27
        try dsimp only at S27 t27
        refine (TupT.eq (tt26.move S27) (tu.move S27) (Nat.le_of_ble_eq_true rfl)) _ _ _ _ ?_
        k_steps
        exact ⟨rfl, fun b o hb e => t26.fr.keep b o (hbk' b o hb e), t26.os, t26.bare (show AllBare s₁.gens by rw [hg]; exact AllBare.empty), grown_tab t26.tab⟩))

end
end Jb
theorem PySem.Challenge.cw_jb0017_01_holds : PySem.Challenge.rw_jb0017_01.Holds := by
  exact Jb.t
