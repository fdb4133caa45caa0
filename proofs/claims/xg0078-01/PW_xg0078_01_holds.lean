import PyProof.Rows.All
import Wide.All
import OpenK.AllK
import Wide.FinOn
import PySem.Challenge.RW_xg0078_01
set_option Elab.async false
set_option maxHeartbeats 4000000
section
open PySem PySem.W PyProof.Rows
set_option Elab.async false
set_option maxRecDepth 100000
set_option maxHeartbeats 8000000
namespace Mine
noncomputable def vw : Program := view PySem.Challenge.rw_xg0078_01.row.prog [0, 1, 3, 4, 5, 6, 7, 9, 10, 12, 14, 16, 18, 19, 20, 21, 22, 23, 24, 25, 26, 27, 28]
noncomputable def oFence (p : Program) (w : World) (N : Nat) : Option Shared :=
  (PySem.W.Fast.tw10274390034422433532 PySem.W.Fast.tw14364793385576792824 (opening p) w N (PySem.W.Fast.tw1435165496053646825 (opening p)).1 (PySem.W.Fast.tw1435165496053646825 (opening p)).2).bind (PySem.W.Fast.tw14289696077712309145 p)
noncomputable def oTop (p : Program) (w : World) (N : Nat) (s₀ : Shared) : Option Shared :=
  match s₀.heap.isNs mainGlobals && s₀.gens.size == 0 with
  | true => (PySem.W.Fast.tw14082659384304107361 PySem.W.Fast.tw14364793385576792824 p w s₀.heap.objs.size (s₀.heap.nsMap mainGlobals "__annotations__") N s₀ (topStub p)).bind fun s₁ => match staticsOk (PySem.W.Fast.tw5923862056798008813 p.main.body) s₀.heap s₁.heap && namesBound p s₁.heap && gensDone s₁ && laidKept s₀.heap s₁.heap with
      | true => some s₁
      | false => none
  | false => none
theorem oFence_eq (p : Program) (w : World) (N : Nat) : fencedOpening treeTable p w N = oFence p w N := by
  unfold fencedOpening oFence
  rw [show treeTable = PySem.W.Fast.tw14364793385576792824 from PySem.W.Fast.te14364793385576792824,
    show importEnds = PySem.W.Fast.tw10274390034422433532 from PySem.W.Fast.te10274390034422433532,
    show start = PySem.W.Fast.tw1435165496053646825 from PySem.W.Fast.te1435165496053646825,
    show fenceModules? = PySem.W.Fast.tw14289696077712309145 from PySem.W.Fast.te14289696077712309145]
theorem oTop_eq (p : Program) (w : World) (N : Nat) (s : Shared) : topFrom treeTable p w N s = oTop p w N s := by
  unfold topFrom oTop
  rw [show treeTable = PySem.W.Fast.tw14364793385576792824 from PySem.W.Fast.te14364793385576792824,
    show topRun = PySem.W.Fast.tw14082659384304107361 from PySem.W.Fast.te14082659384304107361,
    show importedModules = PySem.W.Fast.tw5923862056798008813 from PySem.W.Fast.te5923862056798008813]
  rfl
theorem left_quick {p q : Program} {loose : List Str} {Xt : Shared → Bool} {α : Type} {Yf : Shared → α} {Ya : World → α} {N : Nat} {g0 : Bool} (row : String)
    (hf : ∀ w : World, ((oFence p (w.withFollow row false) N).bind (oTop p (w.withFollow row false) N)).map (fun s => (PySem.W.Fast.tw4187177175401517315 q loose (PySem.W.Fast.tw5923862056798008813 p.main.body) Xt g0 s, Yf s)) = some (openGood q loose, Ya (w.withFollow row false)))
    (ht : ∀ w : World, ((oFence p (w.withFollow row true) N).bind (oTop p (w.withFollow row true) N)).map (fun s => (PySem.W.Fast.tw4187177175401517315 q loose (PySem.W.Fast.tw5923862056798008813 p.main.body) Xt g0 s, Yf s)) = some (openGood q loose, Ya (w.withFollow row true))) : LeftO p q loose Xt Yf Ya N g0 := by
  have e : ∀ w, openEnds treeTable p w N = (oFence p w N).bind (oTop p w N) := fun w => by
    unfold openEnds
    rw [oFence_eq, show topFrom treeTable p w N = oTop p w N from funext fun s => oTop_eq p w N s]
  intro w
  rw [e, show @openSeen = @PySem.W.Fast.tw4187177175401517315 from PySem.W.Fast.te4187177175401517315, show importedModules = PySem.W.Fast.tw5923862056798008813 from PySem.W.Fast.te5923862056798008813]
  exact byRow2 row (P := fun w => ((oFence p w N).bind (oTop p w N)).map (fun s => (PySem.W.Fast.tw4187177175401517315 q loose (PySem.W.Fast.tw5923862056798008813 p.main.body) Xt g0 s, Yf s)) = some (openGood q loose, Ya w)) hf ht w
noncomputable def lse : List Str := [Str.ofString "_Accumulator", Str.ofString "_quoted", Str.ofString "_paren_depth", Str.ofString "Whitespace"]
noncomputable def xt (s : Shared) : Bool := xlAt Mine.vw [] s && recOk (RowW.records (OpenRow.toRowW (OpenLaw.row PySem.Challenge.rw_xg0078_01))) s
theorem xt2 (s : Shared) (e : xt s = true) : RecFacts (RowW.records (OpenRow.toRowW (OpenLaw.row PySem.Challenge.rw_xg0078_01))) s.heap := recFacts_of (Bool.and_eq_true_iff.mp e).2
theorem hol {r : OpenRow} {d : DefRec} {kwd : List (Str × Expr)} (H : Hook) (hRf : ∀ s, xt s = true → RecFacts r.records s.heap)
    (hdef : defOf vw r.name = some (d, kwd)) (hp : r.prog.theDef r.name = some (d.params, d.body, d.scope)) (hk : kwWritten? d.params.kwonlyargs d.params.kw_defaults = some kwd) (hwr : (!r.writes || r.records.isEmpty) = true)
    (k1 : r.wellSaid = true) (ok : (chainsOk vw && opensWell r.prog && (frees r.toRowW && r.within.isEmpty)) = true) (hb : r.prog.bare) (hw : r.toRowW.promised)
    (hc : LeftO r.prog vw lse xt H.obs H.val 4032 ∧ WalkO vw lse (XL vw []) H.says r.toRowW d kwd fun f vs => PySem.call f vs) : r.Holds :=
  holds_open hc.1 H.of H.keeps (fun _ e => xl_of _ (Bool.and_eq_true_iff.mp e).1) XL.keeps hdef hp hk hRf hwr k1 ok hb hw hc.2
local macro_rules
  | `(tactic| o_head $H) => `(tactic| refine hol $H xt2 (by rfl) (by rfl) (by rfl) (by rfl) ‹_› (by decide +kernel) ⟨rfl, rfl, rfl, rfl, rfl, by decide +kernel⟩ ?hw ?hc)
theorem wsd : OpenLaw.wellSaid PySem.Challenge.rw_xg0078_01 = true := by
  delta OpenLaw.wellSaid OpenRow.wellSaid OpenRow.partSaid looksOpen
  repeat' (first | with_reducible refine look_both ?_ ?_ | decide +kernel)
local macro_rules | `(tactic| o_law) => `(tactic| refine holds_law wsd fun said => ?_)
open_top hd for PySem.Challenge.rw_xg0078_01
noncomputable def kadr : List Addr := [2, 3, 32, 34, 35, 37, 38, 46, 48, 49, 51, 52, 53, 55, 56, 58, 59, 60, 61, 62, 63, 64, 67, 69, 70, 72, 73, 74, 76, 77, 79, 80, 81, 83, 84, 86, 87, 88, 90, 91, 93, 94, 95, 98, 103, 104, 105, 107, 108, 110, 111, 112, 114, 115, 117, 118, 119, 120, 122, 123, 125, 126, 127, 128, 130, 131, 133, 134, 135, 137, 138, 140, 141, 142, 144, 145, 147, 148, 149, 150, 152, 153, 155, 156, 157, 159, 160, 162, 163, 164, 165, 167, 168, 170, 171, 172, 173, 174, 175, 176, 182, 183, 184, 185, 187, 188, 190, 191, 192, 194, 195, 197, 198, 209, 211, 212, 214, 215, 216, 218, 219, 221, 222, 223, 225, 226, 228, 229, 230, 232, 233, 235, 236, 237, 239, 240, 242, 243, 244, 246, 247, 249, 250, 251, 253, 254, 256, 257, 258, 259, 260, 261, 262, 265, 267, 268, 270, 271, 272, 274, 275, 277, 278, 279, 281, 282, 284, 285, 286, 288, 289, 291, 292, 293, 296, 297, 298, 301, 302, 303, 305, 306, 308, 309, 310, 313, 314, 315, 317, 318, 320, 321, 322, 324, 325, 327, 328, 329, 332, 333]
noncomputable def hook : Hook := kHook Mine.hd.heap_1 kadr (fun _ => by kernel_rfl)
noncomputable def Half (b : Bool) : Prop := ∀ w : World, ((oFence PySem.Challenge.rw_xg0078_01.row.prog (w.withFollow "special-get-raises" b) 4032).bind (oTop PySem.Challenge.rw_xg0078_01.row.prog (w.withFollow "special-get-raises" b) 4032)).map (fun s => (PySem.W.Fast.tw4187177175401517315 vw lse (PySem.W.Fast.tw5923862056798008813 PySem.Challenge.rw_xg0078_01.row.prog.main.body) xt true s, kadr.map s.heap.get?)) = some (openGood vw lse, (Mine.hd.heap_1 (w.withFollow "special-get-raises" b).params).map fun p => some p.2)
noncomputable def tRun (tb : String → Option Builtin) (p : Program) (w : World) (n₀ : Nat) (ann : Option Value) : Nat → SharedT → Thread → Option SharedT
  | 0, _, _ => none
  | n + 1, s, t => match through t with
    | true => some s
    | false => match PySem.W.Fast.tw6613529449190102663 n₀ ann t with
      | false => none
      | true => match PySem.W.Fast.tw10156331382660048174 (PySem.W.Fast.tw11892475500146522536 tb) p w s t with
        | some x => tRun tb p w n₀ ann n x.1 x.2
        | none => none
theorem tRun_of {tb : String → Option Builtin} {p : Program} {w : World} {n₀ : Nat} {ann : Option Value} (n : Nat) : ∀ {s s' : SharedT} {t : Thread}, tRun tb p w n₀ ann n s t = some s' → topRun tb p w n₀ ann n s.abs t = some s'.abs := by
  induction n with
  | zero => intro s s' t h; cases h
  | succ n ih =>
    intro s s' t h
    unfold tRun at h
    unfold topRun
    rw [← show stepOk = PySem.W.Fast.tw6613529449190102663 from PySem.W.Fast.te6613529449190102663, ← show stepT = PySem.W.Fast.tw10156331382660048174 from PySem.W.Fast.te10156331382660048174, ← show denote = PySem.W.Fast.tw11892475500146522536 from PySem.W.Fast.te11892475500146522536] at h
    cases ht : through t with
    | true => rw [ht] at h; cases h; rfl
    | false =>
      rw [ht] at h
      dsimp only at h ⊢
      cases hk : stepOk n₀ ann t with
      | false => rw [hk] at h; cases h
      | true =>
        rw [hk] at h
        dsimp only at h ⊢
        cases hs : stepT (denote tb) p w s t with
        | none => rw [hs] at h; cases h
        | some x => rw [hs] at h; rw [stepT_spec (s' := x.1) (t' := x.2) hs]; exact ih h
noncomputable def toT : List Obj → BT → Nat → Option (BT × Nat)
  | [], t, n => some (t, n)
  | o :: os, t, n => match ((t.ins n o).get n).isSome with
    | true => toT os (t.ins n o) (n + 1)
    | false => none
theorem toT_of {life : Life} (os : List Obj) : ∀ {t : BT} {n : Nat} {x : BT × Nat}, toT os t n = some x → absHeap x.1 x.2 life = ⟨(absHeap t n life).objs ++ os.toArray, life⟩ := by
  induction os with
  | nil => intro t n x h; cases h; simp [absHeap]
  | cons o os ih =>
    intro t n x h
    unfold toT at h
    cases hg : ((t.ins n o).get n).isSome with
    | false => rw [hg] at h; cases h
    | true =>
      rw [hg] at h
      rw [ih h, absHeap_ins hg]
      unfold PySem.Heap.push
      simp
noncomputable def ofS (s : Shared) : Option SharedT := (toT s.heap.objs.toList .nil 0).map fun x => ⟨x.1, x.2, s.heap.life, s.gens, s.drawn, s.toks, s.os⟩
theorem ofS_abs {s : Shared} {x : SharedT} (h : ofS s = some x) : x.abs = s := by
  unfold ofS at h
  cases ht : toT s.heap.objs.toList .nil 0 with
  | none => rw [ht] at h; cases h
  | some y =>
    rw [ht] at h
    cases h
    obtain ⟨⟨objs, life⟩, gens, drawn, toks, os⟩ := s
    have e := toT_of (life := life) _ ht
    unfold SharedT.abs
    dsimp only at e ⊢
    rw [e]
    simp [absHeap, BT.list]
noncomputable def oTop2 (p : Program) (w : World) (N : Nat) (s₀ : Shared) : Option Shared :=
  match s₀.heap.isNs mainGlobals && s₀.gens.size == 0 with
  | true => (ofS s₀).bind fun x₀ => (tRun PySem.W.Fast.tw14364793385576792824 p w s₀.heap.objs.size (s₀.heap.nsMap mainGlobals "__annotations__") N x₀ (topStub p)).bind fun x => match staticsOk (PySem.W.Fast.tw5923862056798008813 p.main.body) s₀.heap x.abs.heap && namesBound p x.abs.heap && gensDone x.abs && laidKept s₀.heap x.abs.heap with
      | true => some x.abs
      | false => none
  | false => none
theorem oTop2_of {p : Program} {w : World} {N : Nat} {s₀ s : Shared} (h : oTop2 p w N s₀ = some s) : oTop p w N s₀ = some s := by
  unfold oTop2 at h
  unfold oTop
  cases hb : (s₀.heap.isNs mainGlobals && s₀.gens.size == 0) with
  | false => rw [hb] at h; cases h
  | true =>
    rw [hb] at h
    dsimp only at h ⊢
    cases h0 : ofS s₀ with
    | none => rw [h0] at h; cases h
    | some x₀ =>
      rw [h0, Option.bind_some] at h
      cases hr : tRun PySem.W.Fast.tw14364793385576792824 p w s₀.heap.objs.size (s₀.heap.nsMap mainGlobals "__annotations__") N x₀ (topStub p) with
      | none => rw [hr] at h; cases h
      | some x =>
        rw [hr, Option.bind_some] at h
        have q := tRun_of N hr
        rw [ofS_abs h0] at q
        rw [← show topRun = PySem.W.Fast.tw14082659384304107361 from PySem.W.Fast.te14082659384304107361, q, Option.bind_some]
        exact h
theorem halfOf {p : Program} {w : World} {N : Nat} {α : Type} {f : Shared → α} {y : α} (h : ((oFence p w N).bind (oTop2 p w N)).map f = some y) : ((oFence p w N).bind (oTop p w N)).map f = some y := by
  cases ho : oFence p w N with
  | none => rw [ho] at h; cases h
  | some s₀ =>
    rw [ho, Option.bind_some] at h
    rw [Option.bind_some]
    cases ht : oTop2 p w N s₀ with
    | none => rw [ht] at h; cases h
    | some s => rw [ht] at h; rw [oTop2_of ht]; exact h
theorem half_f : Half false := fun w => halfOf (by kernel_rfl)
theorem half_t : Half true := fun w => halfOf (by kernel_rfl)
theorem left : LeftO PySem.Challenge.rw_xg0078_01.row.prog vw lse xt (fun s => kadr.map s.heap.get?) (fun w => (Mine.hd.heap_1 w.params).map fun p => some p.2) 4032 := left_quick "special-get-raises" half_f half_t
end Mine
end
section
open PySem PySem.W PySem.Calls PyProof.Rows PySem.Spec
namespace Mine
local macro_rules | `(tactic| omega) => `(tactic| first
  | with_reducible first | assumption | exact Nat.le_refl _ | exact Nat.le_trans (by assumption) (by decide) | exact Nat.lt_of_le_of_lt (by assumption) (by decide) | exact Nat.lt_trans (by assumption) (by decide) | exact Nat.lt_of_lt_of_le (by assumption) (by decide) | exact Nat.le_of_lt (by assumption) | exact Nat.le_add_right _ _ | exact Nat.le_add_left _ _ | exact Nat.lt_add_of_pos_right (by decide) | rfl
  | lia | omega +splitDisjunctions)

section
open PySem PySem.W PySem.Calls PyProof.Rows PySem.Spec
set_option Elab.async false
set_option maxRecDepth 100000
set_option linter.unusedVariables false
section
noncomputable abbrev prog : Program := PySem.Challenge.rw_xg0078_01.row.prog
noncomputable abbrev Fz := Addr → Option Obj
section
variable {M : Model} {A : Around} {E : Value → Shared → Prop} {s : Shared} {α β : Type} {c : Prop} [Decidable c] {X Y : Sem α} {f : α → Sem β}
theorem wIfP {Q : α → Shared → Prop} (hc : c) (h : wpAny M A X Q E s) : wpAny M A (if c then X else Y) Q E s := by rw [if_pos hc]; exact h
theorem wIfN {Q : α → Shared → Prop} (hc : ¬ c) (h : wpAny M A Y Q E s) : wpAny M A (if c then X else Y) Q E s := by rw [if_neg hc]; exact h
theorem wIfPB {Q : β → Shared → Prop} (hc : c) (h : wpAny M A (X >>= f) Q E s) : wpAny M A ((if c then X else Y) >>= f) Q E s := by rw [if_pos hc]; exact h
theorem wIfNB {Q : β → Shared → Prop} (hc : ¬ c) (h : wpAny M A (Y >>= f) Q E s) : wpAny M A ((if c then X else Y) >>= f) Q E s := by rw [if_neg hc]; exact h
end
noncomputable def Sub (W W' : Fz) : Prop := ∀ b o, W b = some o → W' b = some o
theorem Sub.refl (W : Fz) : Sub W W := fun _ _ e => e
theorem Sub.trans {W W' W'' : Fz} (x : Sub W W') (y : Sub W' W'') : Sub W W'' := fun b o e => y b o (x b o e)
noncomputable def St (s : Shared) (h : Heap) (tk : Nat) : Shared := { s with heap := h, toks := tk + 1 }
inductive Dt where
  | none | bool (b : Bool) | int (i : Int) | str (s : Str) | bytes (b : Array UInt8)
  | tup (l : List Dt) | lst (l : List Dt) | dic (l : List (Int × Dt)) | inst (C : Addr) (fs : List (Str × Dt)) | val (v : Value)
noncomputable abbrev tupO (vs : Array Value) (n : Nat) : Obj := { cls := .type "tuple", data := .seq vs n }
noncomputable abbrev lstO (vs : Array Value) (n : Nat) : Obj := { cls := .type "list", data := .seq vs n }
noncomputable abbrev dicO (es : Array DictEntry) (n : Nat) : Obj := { cls := .type "dict", data := .dict es n }
mutual
inductive Rep (W : Fz) : Value → Dt → Prop
  | none : Rep W .none .none
  | bool (b) : Rep W (.bool b) (.bool b)
  | int (i t) : Rep W (.int i t) (.int i)
  | str (s t) : Rep W (.str s t) (.str s)
  | bytes (b t) : Rep W (.bytes b t) (.bytes b)
  | val (v) : Rep W v (.val v)
  | tup {a vs n ds} : W a = some (tupO vs n) → Reps W vs.toList ds → Rep W (.ref a) (.tup ds)
  | lst {a vs n ds} : W a = some (lstO vs n) → Reps W vs.toList ds → Rep W (.ref a) (.lst ds)
  | dic {a es n kvs} : W a = some (dicO es n) → Ents W es.toList kvs → (kvs.map Prod.fst).Nodup ∧ (a == sysModules) = false → Rep W (.ref a) (.dic kvs)
  | inst {x dx C es n fs} : W x = some ⟨.ref C, some dx, .plain, #[]⟩ → W dx = some (dicO es n) → Flds W es.toList fs → Rep W (.ref x) (.inst C fs)
inductive Reps (W : Fz) : List Value → List Dt → Prop
  | nil : Reps W [] []
  | cons {v vs d ds} : Rep W v d → Reps W vs ds → Reps W (v :: vs) (d :: ds)
inductive Ents (W : Fz) : List DictEntry → List (Int × Dt) → Prop
  | nil : Ents W [] []
  | cons {k t v d es kvs} : Rep W v d → Ents W es kvs → Ents W (⟨hashInt k, .int k t, v⟩ :: es) ((k, d) :: kvs)
inductive Flds (W : Fz) : List DictEntry → List (Str × Dt) → Prop
  | nil : Flds W [] []
  | cons {x hs t v d es fs} : Rep W v d → Flds W es fs → Flds W (⟨hs, .str x t, v⟩ :: es) ((x, d) :: fs)
end
noncomputable def RI (W : Fz) (v : Value) : Dt → Prop
  | .none => ∃ _ : Unit, v = .none
  | .bool b => ∃ _ : Unit, v = .bool b
  | .int i => ∃ t, v = .int i t
  | .str s => ∃ t, v = .str s t
  | .bytes b => ∃ t, v = .bytes b t
  | .val u => ∃ _ : Unit, v = u
  | .tup ds => ∃ a vs n, v = .ref a ∧ W a = some (tupO vs n) ∧ Reps W vs.toList ds
  | .lst ds => ∃ a vs n, v = .ref a ∧ W a = some (lstO vs n) ∧ Reps W vs.toList ds
  | .dic kvs => ∃ a es n, v = .ref a ∧ W a = some (dicO es n) ∧ Ents W es.toList kvs ∧ (kvs.map Prod.fst).Nodup ∧ (a == sysModules) = false
  | .inst C fs => ∃ x dx es n, v = .ref x ∧ W x = some ⟨.ref C, some dx, .plain, #[]⟩ ∧ W dx = some (dicO es n) ∧ Flds W es.toList fs
theorem Rep.inv {W : Fz} {v : Value} {d : Dt} (h : Rep W v d) : RI W v d :=
  Rep.casesOn h ⟨(), rfl⟩ (fun _ => ⟨(), rfl⟩) (fun _ t => ⟨t, rfl⟩) (fun _ t => ⟨t, rfl⟩) (fun _ t => ⟨t, rfl⟩) (fun _ => ⟨(), rfl⟩) (fun e r => ⟨_, _, _, rfl, e, r⟩) (fun e r => ⟨_, _, _, rfl, e, r⟩) (fun e r n => ⟨_, _, _, rfl, e, r, n⟩) (fun e e' r => ⟨_, _, _, _, rfl, e, e', r⟩)
theorem Rep.int_inv {W : Fz} {v : Value} {i : Int} (h : Rep W v (.int i)) : ∃ t, v = .int i t := h.inv
theorem Rep.str_inv {W : Fz} {v : Value} {s : Str} (h : Rep W v (.str s)) : ∃ t, v = .str s t := h.inv
theorem Rep.bytes_inv {W : Fz} {v : Value} {b : Array UInt8} (h : Rep W v (.bytes b)) : ∃ t, v = .bytes b t := h.inv
theorem Rep.tup_inv {W : Fz} {v : Value} {ds : List Dt} (h : Rep W v (.tup ds)) : ∃ a vs n, v = .ref a ∧ W a = some (tupO vs n) ∧ Reps W vs.toList ds := h.inv
theorem Rep.lst_inv {W : Fz} {v : Value} {ds : List Dt} (h : Rep W v (.lst ds)) : ∃ a vs n, v = .ref a ∧ W a = some (lstO vs n) ∧ Reps W vs.toList ds := h.inv
theorem Rep.dic_inv {W : Fz} {v : Value} {kvs : List (Int × Dt)} (h : Rep W v (.dic kvs)) : ∃ a es n, v = .ref a ∧ W a = some (dicO es n) ∧ Ents W es.toList kvs ∧ (kvs.map Prod.fst).Nodup ∧ (a == sysModules) = false := h.inv
theorem Rep.inst_inv {W : Fz} {v : Value} {C : Addr} {fs : List (Str × Dt)} (h : Rep W v (.inst C fs)) : ∃ x dx es n, v = .ref x ∧ W x = some ⟨.ref C, some dx, .plain, #[]⟩ ∧ W dx = some (dicO es n) ∧ Flds W es.toList fs := h.inv
noncomputable def RsI (W : Fz) (vs : List Value) : List Dt → Prop
  | [] => vs = []
  | d :: ds => ∃ v vs', vs = v :: vs' ∧ Rep W v d ∧ Reps W vs' ds
theorem Reps.inv {W : Fz} {vs : List Value} {ds : List Dt} (h : Reps W vs ds) : RsI W vs ds := Reps.casesOn h rfl fun a b => ⟨_, _, rfl, a, b⟩
theorem Reps.nil_inv {W : Fz} {vs : List Value} (h : Reps W vs []) : vs = [] := h.inv
theorem Reps.cons_inv {W : Fz} {vs : List Value} {d : Dt} {ds : List Dt} (h : Reps W vs (d :: ds)) : ∃ v vs', vs = v :: vs' ∧ Rep W v d ∧ Reps W vs' ds := h.inv
noncomputable def EsI (W : Fz) (es : List DictEntry) : List (Int × Dt) → Prop
  | [] => es = []
  | kd :: kvs => ∃ t v es', es = ⟨hashInt kd.1, .int kd.1 t, v⟩ :: es' ∧ Rep W v kd.2 ∧ Ents W es' kvs
theorem Ents.inv {W : Fz} {es : List DictEntry} {kvs : List (Int × Dt)} (h : Ents W es kvs) : EsI W es kvs := Ents.casesOn h rfl fun a b => ⟨_, _, _, rfl, a, b⟩
noncomputable def FsI (W : Fz) (es : List DictEntry) : List (Str × Dt) → Prop
  | [] => es = []
  | kd :: kvs => ∃ hs t v es', es = ⟨hs, .str kd.1 t, v⟩ :: es' ∧ Rep W v kd.2 ∧ Flds W es' kvs
theorem Flds.inv {W : Fz} {es : List DictEntry} {kvs : List (Str × Dt)} (h : Flds W es kvs) : FsI W es kvs := Flds.casesOn h rfl fun a b => ⟨_, _, _, _, rfl, a, b⟩
section
variable {W W' : Fz} (hs : Sub W W')
include hs
theorem Rep.mono {v d} (h : Rep W v d) : Rep W' v d :=
  Rep.rec (motive_1 := fun v d _ => Rep W' v d) (motive_2 := fun v d _ => Reps W' v d) (motive_3 := fun v d _ => Ents W' v d) (motive_4 := fun v d _ => Flds W' v d)
    .none .bool .int .str .bytes .val (fun e _ r => .tup (hs _ _ e) r) (fun e _ r => .lst (hs _ _ e) r) (fun e _ n r => .dic (hs _ _ e) r n) (fun e e' _ r => .inst (hs _ _ e) (hs _ _ e') r)
    .nil (fun _ _ a b => .cons a b) .nil (fun _ _ a b => .cons a b) .nil (fun _ _ a b => .cons a b) h
theorem Reps.mono {v d} (h : Reps W v d) : Reps W' v d :=
  Reps.rec (motive_1 := fun v d _ => Rep W' v d) (motive_2 := fun v d _ => Reps W' v d) (motive_3 := fun v d _ => Ents W' v d) (motive_4 := fun v d _ => Flds W' v d)
    .none .bool .int .str .bytes .val (fun e _ r => .tup (hs _ _ e) r) (fun e _ r => .lst (hs _ _ e) r) (fun e _ n r => .dic (hs _ _ e) r n) (fun e e' _ r => .inst (hs _ _ e) (hs _ _ e') r)
    .nil (fun _ _ a b => .cons a b) .nil (fun _ _ a b => .cons a b) .nil (fun _ _ a b => .cons a b) h
theorem Ents.mono {v d} (h : Ents W v d) : Ents W' v d :=
  Ents.rec (motive_1 := fun v d _ => Rep W' v d) (motive_2 := fun v d _ => Reps W' v d) (motive_3 := fun v d _ => Ents W' v d) (motive_4 := fun v d _ => Flds W' v d)
    .none .bool .int .str .bytes .val (fun e _ r => .tup (hs _ _ e) r) (fun e _ r => .lst (hs _ _ e) r) (fun e _ n r => .dic (hs _ _ e) r n) (fun e e' _ r => .inst (hs _ _ e) (hs _ _ e') r)
    .nil (fun _ _ a b => .cons a b) .nil (fun _ _ a b => .cons a b) .nil (fun _ _ a b => .cons a b) h
theorem Flds.mono {v d} (h : Flds W v d) : Flds W' v d :=
  Flds.rec (motive_1 := fun v d _ => Rep W' v d) (motive_2 := fun v d _ => Reps W' v d) (motive_3 := fun v d _ => Ents W' v d) (motive_4 := fun v d _ => Flds W' v d)
    .none .bool .int .str .bytes .val (fun e _ r => .tup (hs _ _ e) r) (fun e _ r => .lst (hs _ _ e) r) (fun e _ n r => .dic (hs _ _ e) r n) (fun e e' _ r => .inst (hs _ _ e) (hs _ _ e') r)
    .nil (fun _ _ a b => .cons a b) .nil (fun _ _ a b => .cons a b) .nil (fun _ _ a b => .cons a b) h
end
inductive Od where
  | lst (l : List Dt) | dic (l : List (Int × Dt)) | inst (C : Addr) (fs : List (Str × Dt)) | acc (C : Addr) (fs : List (Str × Dt)) (l : List Dt) | cell (d : Option Dt)
structure Ow where
  a : Addr
  b : Addr
  o : Od
noncomputable def Ow.ads : Ow → List Addr
  | ⟨a, b, .inst _ _⟩ => [a, b]
  | ⟨a, b, .acc _ _ _⟩ => [a, b]
  | ⟨a, _, _⟩ => [a]
noncomputable def Ow.Ok (W : Fz) (h : Heap) : Ow → Prop
  | ⟨a, _, .lst ds⟩ => ∃ vs n, h.get? a = some (lstO vs n) ∧ Reps W vs.toList ds
  | ⟨a, _, .dic kvs⟩ => ∃ es n, h.get? a = some (dicO es n) ∧ Ents W es.toList kvs ∧ (kvs.map Prod.fst).Nodup ∧ (a == sysModules) = false
  | ⟨a, b, .inst C fs⟩ => ∃ es n, h.get? a = some ⟨.ref C, some b, .plain, #[]⟩ ∧ h.get? b = some (dicO es n) ∧ Flds W es.toList fs
  | ⟨a, b, .acc C fs ds⟩ => ∃ es n vs k, h.get? a = some ⟨.ref C, some b, .seq vs k, #[]⟩ ∧ h.get? b = some (dicO es n) ∧ Flds W es.toList fs ∧ Reps W vs.toList ds
  | ⟨a, _, .cell d⟩ => ∃ v, h.get? a = some { cls := .type "cell", data := .cell v } ∧ (match d with | none => v = none | some d => ∃ x, v = some x ∧ Rep W x d)
theorem Ow.Ok.keeps {W W' : Fz} {h h' : Heap} (hs : Sub W W') {p : Ow} (hk : ∀ a ∈ p.ads, ∀ o, h.get? a = some o → h'.get? a = some o) (x : p.Ok W h) : p.Ok W' h' := by
  obtain ⟨a, b, o⟩ := p
  cases o with
  | lst ds => obtain ⟨vs, n, e, r⟩ := x; exact ⟨vs, n, hk a (.head _) _ e, r.mono hs⟩
  | dic ds => obtain ⟨vs, n, e, r, nd⟩ := x; exact ⟨vs, n, hk a (.head _) _ e, r.mono hs, nd⟩
  | inst C fs => obtain ⟨es, n, e, e', r⟩ := x; exact ⟨es, n, hk a (.head _) _ e, hk b (.tail _ (.head _)) _ e', r.mono hs⟩
  | acc C fs ds => obtain ⟨es, n, vs, k, e, e', r, r'⟩ := x; exact ⟨es, n, vs, k, hk a (.head _) _ e, hk b (.tail _ (.head _)) _ e', r.mono hs, r'.mono hs⟩
  | cell d =>
    obtain ⟨v, e, r⟩ := x
    refine ⟨v, hk a (.head _) _ e, ?_⟩
    cases d with
    | none => exact r
    | some d => obtain ⟨x, hx, r⟩ := r; exact ⟨x, hx, r.mono hs⟩
structure Frame where
  vars : List (Str × Dt)
  own : List Ow
noncomputable def Frame.ads (F : Frame) : List Addr := F.own.flatMap Ow.ads
noncomputable def Wd (w : World) (W : Fz) : Prop := ∃ (h : Heap) (p : Program) (loose : List Str) (mean : ExcName → Option Value) (mg mb : Str → Option Value),
  (Mine.hd.heap_1 w.params).In h ∧ Top p loose mean mg mb h ∧ ∀ a o, h.get? a = some o → W a = some o
theorem Wd.mono {w : World} {W W' : Fz} (hs : Sub W W') (x : Wd w W) : Wd w W' := by
  obtain ⟨h, p, l, me, mg, mb, X, T, k⟩ := x
  exact ⟨h, p, l, me, mg, mb, X, T, fun a o e => hs a o (k a o e)⟩
structure Cx where
  w : World
  s₀ : Shared
  W₀ : Fz
  bor : List Addr
  hid : List (Addr × Obj)
  L : Addr
  A : Around
  env : Env
  k : Nat
  hk : env.scope.kind = .function
  hL : env.locals = L
  hg : env.globals = mainGlobals
  hb : env.builtins = builtinsNs
  hh : A.handled = none
  room : A.depth + k < recursionLimit ∧ A.units + 8 * k + 4 < cLine
structure Inv (c : Cx) (F : Frame) (W : Fz) (h : Heap) : Prop where
  wd : Wd c.w W
  vars : ∃ m, h.Ns c.L m ∧ ∀ x d, F.vars.lookup x = some d → ∃ v, m x = some v ∧ Rep W v d
  base : ∀ b o, b ∉ c.bor → c.s₀.heap.get? b = some o → h.get? b = some o
  sub : Sub c.W₀ W
  keep : ∀ b o, W b = some o → h.get? b = some o
  new : ∀ b o, W b = some o → c.W₀ b = some o ∨ c.s₀.heap.objs.size ≤ b
  hL : c.s₀.heap.objs.size ≤ c.L
  wL : W c.L = none
  own : ∀ p ∈ F.own, p.Ok W h
  ads : ∀ a ∈ F.ads, a ≠ c.L ∧ W a = none ∧ (c.s₀.heap.objs.size ≤ a ∨ a ∈ c.bor)
  nd : F.ads.Nodup
  bor : ∀ a ∈ c.bor, a < c.s₀.heap.objs.size
  hid : ∀ p ∈ c.hid, h.get? p.1 = some p.2 ∧ p.1 ≠ c.L ∧ W p.1 = none ∧ p.1 ∉ F.ads ∧ c.s₀.heap.objs.size ≤ p.1
  hnd : (c.hid.map Prod.fst).Nodup
noncomputable def Go {α : Type} (c : Cx) (F : Frame) (W₁ : Fz) (t : Sem α) (P : α → Fz → Frame → Prop) : Prop :=
  ∀ W h tk Q E, Sub W₁ W → Inv c F W h → (∀ a W' h' tk' F', Inv c F' W' h' → Sub W W' → P a W' F' → Q a (St c.s₀ h' tk')) → wpAny (model prog c.w) c.A t Q E (St c.s₀ h tk)
section
variable {α β : Type} {c : Cx} {F : Frame} {W₁ : Fz}
theorem Go.pure {a : α} {P : α → Fz → Frame → Prop} (h : ∀ W, Sub W₁ W → P a W F) : Go c F W₁ (Pure.pure a : Sem α) P :=
  fun W hp tk Q _ hs I hQ => wpAny_pure (hQ a W hp tk F I (Sub.refl W) (h W hs))
theorem Go.bind {t : Sem α} {f : α → Sem β} {P : α → Fz → Frame → Prop} {P' : β → Fz → Frame → Prop} (h : Go c F W₁ t P) (h' : ∀ a W F', Sub W₁ W → P a W F' → Go c F' W (f a) P') : Go c F W₁ (t >>= f) P' :=
  fun W hp tk Q E hs I hQ => wpAny_bind (h W hp tk _ E hs I fun a W' h1 tk' F' I' hs' hP => h' a W' F' (hs.trans hs') hP W' h1 tk' Q E (Sub.refl _) I' fun b W'' h2 tk'' F'' I'' hs'' hP'' => hQ b W'' h2 tk'' F'' I'' (hs'.trans hs'') hP'')
theorem Go.mono {t : Sem α} {P P' : α → Fz → Frame → Prop} (h : Go c F W₁ t P) (h' : ∀ a W F', Sub W₁ W → P a W F' → P' a W F') : Go c F W₁ t P' :=
  fun W hp tk Q E hs I hQ => h W hp tk Q E hs I fun a W' h1 tk' F' I' hs' hP => hQ a W' h1 tk' F' I' hs' (h' a W' F' (hs.trans hs') hP)
theorem Go.up {t : Sem α} {P : α → Fz → Frame → Prop} {W₂ : Fz} (h : Go c F W₁ t P) (hs : Sub W₁ W₂) : Go c F W₂ t P := fun W hp tk Q E hs' I hQ => h W hp tk Q E (hs.trans hs') I hQ
theorem Go.at {t : Sem α} {P : α → Fz → Frame → Prop} {pos : Pos} (h : Go c F W₁ t P) : Go c F W₁ (standAt pos >>= fun _ => t) P := fun W hp tk Q E hs I hQ => wpAny_bind (wpAny_standAt (h W hp tk Q E hs I hQ))
theorem Go.holding {t : Sem α} {P : α → Fz → Frame → Prop} {vs : List Value} (h : Go c F W₁ t P) : Go c F W₁ (PySem.holding vs t) P := fun W hp tk Q E hs I hQ => wpAny_holding (h W hp tk Q E hs I hQ)
theorem Go.of_eq {t t' : Sem α} {P : α → Fz → Frame → Prop} (e : t = t') (h : Go c F W₁ t' P) : Go c F W₁ t P := e ▸ h
end
noncomputable def Is (F : Frame) (d : Dt) : Value → Fz → Frame → Prop := fun v W F' => F' = F ∧ Rep W v d
noncomputable def Ev (c : Cx) (F : Frame) (e : Expr) (d : Dt) : Prop := ∀ W₁, Go c F W₁ (eval e c.env) (Is F d)
theorem isK {α β : Type} {c : Cx} {F : Frame} {W₁ : Fz} {X : α → Fz → Prop} {f : α → Sem β} {P' : β → Fz → Frame → Prop} (k : ∀ a W, Sub W₁ W → X a W → Go c F W (f a) P') : ∀ a W F', Sub W₁ W → (F' = F ∧ X a W) → Go c F' W (f a) P' :=
  fun a W _ hs x => x.1 ▸ k a W hs x.2
theorem isQ {α : Type} {c : Cx} {F : Frame} {W₁ : Fz} {X : α → Fz → Prop} {R : α → Fz → Heap → Nat → Prop} (k : ∀ a W h tk, Inv c F W h → Sub W₁ W → X a W → R a W h tk) : ∀ a W h tk F', Inv c F' W h → Sub W₁ W → (F' = F ∧ X a W) → R a W h tk :=
  fun a W h tk _ I hs x => k a W h tk (x.1 ▸ I) hs x.2
theorem Wd.at {w : World} {W : Fz} {h : Heap} (x : Wd w W) (k : ∀ b o, W b = some o → h.get? b = some o) :
    ∃ (p : Program) (loose : List Str) (mean : ExcName → Option Value) (mg mb : Str → Option Value), (Mine.hd.heap_1 w.params).In h ∧ Top p loose mean mg mb h ∧
      (∀ n v, nsIn (Mine.hd.heap_1 w.params) mainGlobals n = some (some v) → mg n = some v) ∧ (∀ n, nsIn (Mine.hd.heap_1 w.params) mainGlobals n = some none → mg n = none) := by
  obtain ⟨h0, p, l, me, mg, mb, X, T, kk⟩ := x
  have k' : ∀ b o, h0.get? b = some o → h.get? b = some o := fun b o e => k b o (kk b o e)
  exact ⟨p, l, me, mg, mb, X.keeps k', T.keeps k', fun n v e => mg_of X T.g e, fun n e => mg_none_of X T.g e⟩
theorem lookup_store {l : List (Str × Dt)} {x y : Str} {d : Dt} : ((x, d) :: l).lookup y = if y = x then some d else l.lookup y := by
  rw [List.lookup_cons]
  by_cases h : y = x
  · subst h; simp
  · have : (y == x) = false := beq_eq_false_iff_ne.mpr h
    simp [this, h]
noncomputable def Frame.set (F : Frame) (x : Str) (d : Dt) : Frame := ⟨(x, d) :: F.vars, F.own⟩
theorem Inv.fresh_ne {c : Cx} {F : Frame} {W : Fz} {h : Heap} (I : Inv c F W h) : ∀ b o, W b = some o → b ≠ c.L := fun b o e q => by subst q; rw [I.wL] at e; cases e
theorem Inv.stored {c : Cx} {F : Frame} {W : Fz} {h h' : Heap} {x : Str} {d : Dt} {v : Value} {m : Str → Option Value} (I : Inv c F W h) (hm : ∀ x d, F.vars.lookup x = some d → ∃ v, m x = some v ∧ Rep W v d)
    (hn : h'.Ns c.L (fun y => if y = x then some v else m y)) (hs : Heap.SameBut c.L h h') (hv : Rep W v d) : Inv c (F.set x d) W h' where
  wd := I.wd
  vars := ⟨_, hn, fun y e hy => by
    rw [Frame.set, lookup_store] at hy
    by_cases q : y = x
    · rw [if_pos q] at hy ⊢; cases hy; exact ⟨v, rfl, hv⟩
    · rw [if_neg q] at hy ⊢; exact hm y e hy⟩
  base := fun b o hb e => (hs.2 b (by rintro rfl; exact absurd (Heap.lt_size e) (Nat.not_lt.mpr I.hL))).trans (I.base b o hb e)
  sub := I.sub
  keep := fun b o e => (hs.2 b (I.fresh_ne b o e)).trans (I.keep b o e)
  new := I.new
  hL := I.hL
  wL := I.wL
  own := fun p hp => (I.own p hp).keeps (Sub.refl _) fun a ha o e => (hs.2 a (I.ads a (List.mem_flatMap.mpr ⟨p, hp, ha⟩)).1).trans e
  ads := I.ads
  nd := I.nd
  bor := I.bor
  hid := fun p hp => ⟨(hs.2 _ (I.hid p hp).2.1).trans (I.hid p hp).1, (I.hid p hp).2⟩
  hnd := I.hnd
noncomputable def Cx.hides (c : Cx) (ps : List (Addr × Obj)) : Cx := { c with hid := ps ++ c.hid }
theorem kindOf_of {env : Env} {sc : Scope} {x : Str} {k : NameKind} (hs : env.scope = sc) (h : sc.names.lookup x = some k) : env.kindOf x = some k := by unfold Env.kindOf; rw [hs]; exact h
theorem ld_name {c : Cx} {F : Frame} {W₁ : Fz} {sc : Scope} {x : Str} {d : Dt} (hs : c.env.scope = sc) (hx : sc.names.lookup x = some .local) (hv : F.vars.lookup x = some d) :
    Go c F W₁ (loadName c.env x) (Is F d) := fun W h tk Q E hW I hQ => by
  obtain ⟨m, hn, hm⟩ := I.vars
  obtain ⟨v, e, r⟩ := hm x d hv
  exact wpAny_loadName_local c.hk (kindOf_of hs hx) (s := St c.s₀ h tk) (by rw [c.hL]; exact hn) e (hQ v W h tk F I (Sub.refl _) ⟨rfl, r⟩)
theorem Ev.name {c : Cx} {F : Frame} {sc : Scope} {x : Str} {pos : Pos} {d : Dt} (hs : c.env.scope = sc) (hx : sc.names.lookup x = some .local) (hv : F.vars.lookup x = some d)
    (hd : (x == ("__debug__" : Str)) = false := by decide) : Ev c F (.Name x pos) d := fun W₁ => by
  refine Go.of_eq (eval_Name _ _ _ hd) ?_
  exact Go.at (ld_name hs hx hv)
theorem Go.store {c : Cx} {F : Frame} {W₁ : Fz} {sc : Scope} {x : Str} {d : Dt} {v : Value} {P : Unit → Fz → Frame → Prop} (hs : c.env.scope = sc) (hx : sc.names.lookup x = some .local) (hv : Rep W₁ v d)
    (hP : ∀ W, Sub W₁ W → P () W (F.set x d)) : Go c F W₁ (storeName c.env x v) P := fun W h tk Q E hW I hQ => by
  obtain ⟨m, hn, hm⟩ := I.vars
  refine wpAny_storeName_local (s := St c.s₀ h tk) (kindOf_of hs hx) (m := m) (by rw [c.hL]; exact hn) (fun h' hn' hs' => ?_) (by rw [c.hk]; rfl)
  rw [c.hL] at hn' hs'
  exact hQ () W h' (tk + 1) _ (I.stored hm hn' hs' (hv.mono hW)) (Sub.refl _) (hP W hW)
end
end
local macro_rules | `(tactic| cases $h:ident) => `(tactic| first
  | (obtain ⟨_, q⟩ := Rep.inv $h; clear $h; subst q) | (have q := Reps.nil_inv $h; clear $h; subst q) | cases ($h))

section
open PySem PySem.W PySem.Calls PyProof.Rows PySem.Spec
set_option Elab.async false
set_option maxRecDepth 100000
set_option linter.unusedVariables false
section
noncomputable def Fz.put (W : Fz) (a : Addr) (o : Obj) : Fz := fun b => if b = a then some o else W b
theorem Fz.put_self (W : Fz) (a : Addr) (o : Obj) : W.put a o a = some o := by simp [Fz.put]
theorem Fz.sub_put {W : Fz} {a : Addr} {o : Obj} (h : W a = none) : Sub W (W.put a o) := fun b x e => by
  unfold Fz.put; split
  · rename_i q; subst q; rw [h] at e; cases e
  · exact e
section
variable {c : Cx} {F : Frame} {W W₁ : Fz} {h : Heap}
theorem Inv.none_size (I : Inv c F W h) : W h.objs.size = none := by
  cases e : W h.objs.size with
  | none => rfl
  | some o => exact absurd (Heap.lt_size (I.keep _ _ e)) (Nat.lt_irrefl _)
theorem Inv.L_lt (I : Inv c F W h) : c.L < h.objs.size := let ⟨_, hn, _⟩ := I.vars; hn.lt
theorem Ow.lt {p : Ow} (x : p.Ok W h) : ∀ a ∈ p.ads, a < h.objs.size := by
  obtain ⟨a, b, o⟩ := p
  cases o with
  | lst ds => obtain ⟨_, _, e, _⟩ := x; intro y hy; simp [Ow.ads] at hy; subst hy; exact Heap.lt_size e
  | dic ds => obtain ⟨_, _, e, _⟩ := x; intro y hy; simp [Ow.ads] at hy; subst hy; exact Heap.lt_size e
  | inst C fs => obtain ⟨_, _, e, e', _⟩ := x; intro y hy; simp [Ow.ads] at hy; rcases hy with rfl | rfl; exact Heap.lt_size e; exact Heap.lt_size e'
  | acc C fs ds => obtain ⟨_, _, _, _, e, e', _⟩ := x; intro y hy; simp [Ow.ads] at hy; rcases hy with rfl | rfl; exact Heap.lt_size e; exact Heap.lt_size e'
  | cell d => obtain ⟨_, e, _⟩ := x; intro y hy; simp [Ow.ads] at hy; subst hy; exact Heap.lt_size e
theorem Inv.ads_lt (I : Inv c F W h) : ∀ a ∈ F.ads, a < h.objs.size := fun a ha => by
  obtain ⟨p, hp, hq⟩ := List.mem_flatMap.mp ha
  exact Ow.lt (I.own p hp) a hq
theorem Inv.size (I : Inv c F W h) : c.s₀.heap.objs.size ≤ h.objs.size := Nat.le_trans I.hL (Nat.le_of_lt I.L_lt)
theorem Inv.grow {W' : Fz} {h' : Heap} (I : Inv c F W h) (hs : Sub W W') (hk : ∀ b o, h.get? b = some o → h'.get? b = some o) (hW : ∀ b o, W' b = some o → h'.get? b = some o)
    (hnew : ∀ b o, W' b = some o → W b = some o ∨ h.objs.size ≤ b) : Inv c F W' h' where
  wd := I.wd.mono hs
  vars := let ⟨m, hn, hm⟩ := I.vars; ⟨m, hn.keeps hk, fun x d e => let ⟨v, a, b⟩ := hm x d e; ⟨v, a, b.mono hs⟩⟩
  base := fun b o hb e => hk b o (I.base b o hb e)
  sub := I.sub.trans hs
  keep := hW
  new := fun b o e => (hnew b o e).elim (I.new b o) fun q => .inr (Nat.le_trans I.size q)
  hL := I.hL
  wL := by
    cases e : W' c.L with
    | none => rfl
    | some o => rcases hnew _ _ e with q | q
                · rw [I.wL] at q; cases q
                · exact absurd I.L_lt (Nat.not_lt.mpr q)
  own := fun p hp => (I.own p hp).keeps hs fun a _ o e => hk a o e
  ads := fun a ha => ⟨(I.ads a ha).1, by
    cases e : W' a with
    | none => rfl
    | some o => rcases hnew _ _ e with q | q
                · rw [(I.ads a ha).2.1] at q; cases q
                · exact absurd (I.ads_lt a ha) (Nat.not_lt.mpr q), (I.ads a ha).2.2⟩
  nd := I.nd
  bor := I.bor
  hid := fun p hp => ⟨hk _ _ (I.hid p hp).1, (I.hid p hp).2.1, by
    cases e : W' p.1 with
    | none => rfl
    | some o => rcases hnew _ _ e with q | q
                · rw [(I.hid p hp).2.2.1] at q; cases q
                · exact absurd (Heap.lt_size (I.hid p hp).1) (Nat.not_lt.mpr q), (I.hid p hp).2.2.2⟩
  hnd := I.hnd
theorem Inv.push (I : Inv c F W h) (o : Obj) (hf : o.isFreed = false) : Inv c F (W.put h.objs.size o) (h.push o) :=
  I.grow (Fz.sub_put I.none_size) (fun b x e => Heap.get?_push_of_some _ e)
    (fun b x e => by
      unfold Fz.put at e; split at e
      · rename_i q; cases e; rw [q]; exact Heap.get?_push_size _ hf
      · exact Heap.get?_push_of_some _ (I.keep _ _ e))
    (fun b x e => by
      unfold Fz.put at e; split at e
      · rename_i q; exact .inr (Nat.le_of_eq q.symm)
      · exact .inl e)
theorem Inv.push_own (I : Inv c F W h) (o : Obj) (p : Ow) (ha : p.ads = [h.objs.size]) (hp : p.Ok W (h.push o)) : Inv c ⟨F.vars, p :: F.own⟩ W (h.push o) :=
  have J := I.grow (W' := W) (h' := h.push o) (Sub.refl _) (fun b x e => Heap.get?_push_of_some _ e) (fun b x e => Heap.get?_push_of_some _ (I.keep _ _ e)) (fun b x e => .inl e)
  { wd := J.wd, vars := J.vars, base := J.base, sub := J.sub, keep := J.keep, new := J.new, hL := J.hL, wL := J.wL
    own := fun q hq => by rcases List.mem_cons.mp hq with rfl | hq; exact hp; exact J.own q hq
    ads := fun a hm => by
      rw [Frame.ads, List.flatMap_cons, ha] at hm
      rcases List.mem_append.mp hm with hm | hm
      · rw [List.mem_singleton] at hm; subst hm
        exact ⟨Nat.ne_of_gt I.L_lt, I.none_size, .inl I.size⟩
      · exact J.ads a hm
    nd := by
      rw [Frame.ads, List.flatMap_cons, ha]
      exact List.nodup_cons.mpr ⟨fun hm => absurd (I.ads_lt _ hm) (Nat.lt_irrefl _), J.nd⟩
    bor := J.bor
    hid := fun q hq => ⟨(J.hid q hq).1, (J.hid q hq).2.1, (J.hid q hq).2.2.1, by
      rw [Frame.ads, List.flatMap_cons, ha]
      intro hm
      rcases List.mem_cons.mp hm with hm | hm
      · exact absurd (Heap.lt_size (I.hid q hq).1) (by rw [hm]; exact Nat.lt_irrefl _)
      · exact (J.hid q hq).2.2.2.1 hm, (J.hid q hq).2.2.2.2⟩
    hnd := J.hnd }
theorem Reps.length {W : Fz} {vs ds} (r : Reps W vs ds) : vs.length = ds.length := by
  induction ds generalizing vs with
  | nil => obtain rfl := r.inv; rfl
  | cons d ds ih => obtain ⟨v, vs, rfl, _, r⟩ := r.inv; exact congrArg Nat.succ (ih r)
theorem Go.newTuple {vs : List Value} {ds : List Dt} {P : Value → Fz → Frame → Prop} (hv : Reps W₁ vs ds) (hP : ∀ v W, Sub W₁ W → Rep W v (.tup ds) → P v W F) (hsz : ds.length ≤ 100000 := by first | decide | simp) : Go c F W₁ (PySem.newTuple vs) P := fun W h tk Q E hW I hQ => by
  refine wpAny_newObj_type (s := St c.s₀ h tk) (hQ _ _ _ tk F (I.push (tupO vs.toArray 0) rfl) (Fz.sub_put I.none_size) (hP _ _ (hW.trans (Fz.sub_put I.none_size)) (.tup (Fz.put_self ..) ?_))) ?_
  · exact (hv.mono (hW.trans (Fz.sub_put I.none_size)))
  · show vs.toArray.size ≤ sizeLine
    rw [List.size_toArray, hv.length]; exact Nat.le_trans hsz (by decide)
theorem Go.newList {vs : List Value} {ds : List Dt} {P : Value → Fz → Frame → Prop} (hv : Reps W₁ vs ds) (hP : ∀ v W, Sub W₁ W → Rep W v (.lst ds) → P v W F) (hsz : ds.length ≤ 100000 := by first | decide | simp) : Go c F W₁ (PySem.newList vs) P := fun W h tk Q E hW I hQ => by
  refine wpAny_newObj_type (s := St c.s₀ h tk) (hQ _ _ _ tk F (I.push (lstO vs.toArray 0) rfl) (Fz.sub_put I.none_size) (hP _ _ (hW.trans (Fz.sub_put I.none_size)) (.lst (Fz.put_self ..) ?_))) ?_
  · exact (hv.mono (hW.trans (Fz.sub_put I.none_size)))
  · show vs.toArray.size ≤ sizeLine
    rw [List.size_toArray, hv.length]; exact Nat.le_trans hsz (by decide)
theorem Go.newListOwn {vs : List Value} {ds : List Dt} {P : Value → Fz → Frame → Prop} (hv : Reps W₁ vs ds) (hP : ∀ a W, Sub W₁ W → P (.ref a) W ⟨F.vars, ⟨a, 0, .lst ds⟩ :: F.own⟩) (hsz : ds.length ≤ 100000 := by first | decide | simp) : Go c F W₁ (PySem.newList vs) P := fun W h tk Q E hW I hQ => by
  refine wpAny_newObj_type (s := St c.s₀ h tk) (hQ _ W _ tk _ (I.push_own (lstO vs.toArray 0) ⟨h.objs.size, 0, .lst ds⟩ rfl ⟨vs.toArray, 0, Heap.get?_push_size _ rfl, hv.mono hW⟩) (Sub.refl _) (hP _ _ hW)) ?_
  show vs.toArray.size ≤ sizeLine
  rw [List.size_toArray, hv.length]; exact Nat.le_trans hsz (by decide)
end
section
variable {c : Cx} {F : Frame} {W₁ : Fz}
theorem Go.fresh_val {t : Sem Value} {d : Dt} (h : ∀ W h tk Q E, Sub W₁ W → Inv c F W h → (∀ v tk', Rep W v d → Q v (St c.s₀ h tk')) → wpAny (model prog c.w) c.A t Q E (St c.s₀ h tk)) : Go c F W₁ t (Is F d) :=
  fun W hp tk Q E hs I hQ => h W hp tk Q E hs I fun v tk' r => hQ v W hp tk' F I (Sub.refl _) ⟨rfl, r⟩
theorem Ev.int (i k pos) : Ev c F (.Constant (.int i) k pos) (.int i) := fun W₁ => Go.fresh_val fun W h tk Q E hs I hQ => wpAny_Constant_int (hQ _ _ (.int _ _))
theorem Ev.cstr (x k pos) : Ev c F (.Constant (.str x) k pos) (.str x) := fun W₁ => Go.fresh_val fun W h tk Q E hs I hQ => wpAny_Constant_str (hQ _ _ (.str _ _))
theorem Ev.cbytes (x k pos) : Ev c F (.Constant (.bytes x) k pos) (.bytes x.toArray) := fun W₁ => Go.fresh_val fun W h tk Q E hs I hQ => fun Γ p _ => hQ _ (tk + 1) (.bytes _ _)
theorem Ev.cnone (k pos) : Ev c F (.Constant .none k pos) .none := fun W₁ => Go.fresh_val fun W h tk Q E hs I hQ => wpAny_Constant_none (hQ _ _ .none)
theorem Ev.cbool (b k pos) : Ev c F (.Constant (.bool b) k pos) (.bool b) := fun W₁ => Go.fresh_val fun W h tk Q E hs I hQ => wpAny_Constant_bool (hQ _ _ (.bool _))
theorem Ev.global {sc : Scope} {x : Str} {pos : Pos} {v : Value} (hs : c.env.scope = sc) (hx : sc.names.lookup x = some .globalImplicit) (hv : ∀ P, nsIn (Mine.hd.heap_1 P) mainGlobals x = some (some v))
    (hd : (x == ("__debug__" : Str)) = false := by decide) : Ev c F (.Name x pos) (.val v) := fun W₁ => Go.fresh_val fun W h tk Q E hW I hQ => by
  obtain ⟨p, l, me, mg, mb, X, T, h1, h2⟩ := I.wd.at I.keep
  exact Calls.Name_function_global c.hk (kindOf_of hs hx) (Calls.loadGlobal_global (s := St c.s₀ h tk) (by rw [c.hg]; exact T.g) (h1 _ _ (hv _)) (hQ _ _ (.val _))) hd
theorem Ev.builtin {sc : Scope} {x : Str} {pos : Pos} {v : Value} (hs : c.env.scope = sc) (hx : sc.names.lookup x = some .globalImplicit) (hv : ∀ P, nsIn (Mine.hd.heap_1 P) mainGlobals x = some none)
    (hb : bootBuiltins x = some v) (hn : x ≠ "__name__") (hd : (x == ("__debug__" : Str)) = false := by decide) : Ev c F (.Name x pos) (.val v) := fun W₁ => Go.fresh_val fun W h tk Q E hW I hQ => by
  obtain ⟨p, l, me, mg, mb, X, T, h1, h2⟩ := I.wd.at I.keep
  exact Calls.Name_function_global c.hk (kindOf_of hs hx) (Calls.loadGlobal_builtin (s := St c.s₀ h tk) (by rw [c.hg]; exact T.g) (h2 _ (hv _)) (by rw [c.hb]; exact T.b) ((T.builtins x hn).trans hb) (hQ _ _ (.val _))) hd
noncomputable def Bop (op : Operator) (d1 d2 d : Dt) : Prop := ∀ (c : Cx) (F : Frame) (W₁ : Fz) (a b : Value), Rep W₁ a d1 → Rep W₁ b d2 → Go c F W₁ (binaryOp op a b) (Is F d)
theorem Go.operate {vs : List Value} {t : Sem Value} {P : Value → Fz → Frame → Prop} (h : Go c F W₁ t P) : Go c F W₁ (PySem.operate vs t) P := fun W hp tk Q E hs I hQ Γ p hΓ => by
  rw [Sem.wp_operate]; exact h W hp tk Q E hs I hQ Γ p hΓ
theorem Ev.binop {l r : Expr} {op : Operator} {pos : Pos} {d1 d2 d : Dt} (h1 : Ev c F l d1) (h2 : Ev c F r d2) (h : Bop op d1 d2 d) : Ev c F (.BinOp l op r pos) d := fun W₁ => by
  rw [eval_BinOp]
  refine Go.bind (h1 _) (isK fun a W hs r1 => ?_)
  refine Go.bind (Go.holding (h2 _)) (isK fun b W' hs' r2 => ?_)
  exact Go.at (Go.operate (h c _ _ a b (r1.mono hs') r2))
theorem Go.fresh_bool {t : Sem Bool} {b : Bool} (h : ∀ W h tk Q E, Sub W₁ W → Inv c F W h → (∀ tk', Q b (St c.s₀ h tk')) → wpAny (model prog c.w) c.A t Q E (St c.s₀ h tk)) : Go c F W₁ t (fun r _ F' => F' = F ∧ r = b) :=
  fun W hp tk Q E hs I hQ => h W hp tk Q E hs I fun tk' => hQ b W hp tk' F I (Sub.refl _) ⟨rfl, rfl⟩
noncomputable def Evs (c : Cx) (F : Frame) (es : List Expr) (ds : List Dt) : Prop := ∀ pos W₁, Go c F W₁ (spliced (backTo pos (starEach es c.env))) (fun vs W F' => F' = F ∧ Reps W vs ds)
theorem Evs.nil : Evs c F [] [] := fun _ _ => Go.pure fun _ _ => ⟨rfl, .nil⟩
theorem Evs.cons {e : Expr} {es : List Expr} {d : Dt} {ds : List Dt} (h1 : Ev c F e d) (h2 : Evs c F es ds) (he : starEach (e :: es) c.env = (false, eval e c.env) :: starEach es c.env := by rfl) : Evs c F (e :: es) (d :: ds) := fun pos W₁ => by
  rw [he]
  show Go c F W₁ (spliced ((false, eval e c.env) :: backTo pos (starEach es c.env))) _
  rw [spliced]
  refine Go.bind (h1 _) (isK fun v W hs r => ?_)
  refine Go.bind (P := fun a _ F'' => F'' = F ∧ a = [v]) (Go.pure fun _ _ => ⟨rfl, rfl⟩) (isK fun here W2 hs2 r2 => ?_)
  obtain rfl := r2
  refine Go.bind (Go.holding (h2 pos _)) (isK fun vs W3 hs3 r3 => ?_)
  exact Go.pure fun W4 hs4 => ⟨rfl, .cons (r.mono ((hs2.trans hs3).trans hs4)) (r3.mono hs4)⟩
theorem Evs.one {e : Expr} {d : Dt} (h1 : Ev c F e d) (he : starEach [e] c.env = [(false, eval e c.env)] := by rfl) : Evs c F [e] [d] := .cons h1 .nil he
theorem Ev.tuple {es : List Expr} {k : Nat} {pos : Pos} {ds : List Dt} (h : Evs c F es ds) (hsz : ds.length ≤ 100000 := by first | decide | simp) : Ev c F (.Tuple es k pos) (.tup ds) := fun W₁ => by
  refine Go.at (Go.bind (h pos _) (isK fun vs W hs r => ?_))
  exact Go.newTuple r (fun v W h r => ⟨rfl, r⟩) hsz
theorem Ev.list {es : List Expr} {pos : Pos} {ds : List Dt} (h : Evs c F es ds) (hsz : ds.length ≤ 100000 := by first | decide | simp) : Ev c F (.List es pos) (.lst ds) := fun W₁ => by
  refine Go.at (Go.bind (h pos _) (isK fun vs W hs r => ?_))
  exact Go.newList r (fun v W h r => ⟨rfl, r⟩) hsz
noncomputable def Te (c : Cx) (F : Frame) (e : Expr) (b : Bool) : Prop := ∀ W₁, Go c F W₁ (isTrue e c.env (eval e c.env)) (fun r _ F' => F' = F ∧ r = b)
theorem Ev.ifexp {t x y : Expr} {pos : Pos} {b : Bool} {d : Dt} (h : Te c F t b) (h1 : b = true → Ev c F x d) (h2 : b = false → Ev c F y d) : Ev c F (.IfExp t x y pos) d := fun W₁ => by
  refine Go.bind (h _) (isK fun r W hs e => ?_)
  obtain rfl := e
  cases r with
  | true => exact h1 rfl W
  | false => exact h2 rfl W
noncomputable def Tru (d : Dt) (b : Bool) : Prop := ∀ (c : Cx) (F : Frame) (W₁ : Fz) (v : Value), Rep W₁ v d → Go c F W₁ (truthy v) (fun r _ F' => F' = F ∧ r = b)
theorem Tru.bool (b : Bool) : Tru (.bool b) b := fun c F W₁ v r => by
  cases r
  exact Go.fresh_bool fun W h tk Q E hs I hQ => wpAny_truthy_bool (hQ _)
theorem Tru.int (i : Int) : Tru (.int i) (i != 0) := fun c F W₁ v r => by
  cases r
  exact Go.fresh_bool fun W h tk Q E hs I hQ => P.truthy_int (hQ _)
noncomputable def Cop (op : CmpOp) (d1 d2 : Dt) (b : Bool) : Prop := ∀ (c : Cx) (F : Frame) (W₁ : Fz) (x y : Value), Rep W₁ x d1 → Rep W₁ y d2 → Go c F W₁ (compareOp op x y) (Is F (.bool b))
theorem Ev.compare {l r : Expr} {op : CmpOp} {pos : Pos} {d1 d2 : Dt} {b : Bool} (h1 : Ev c F l d1) (h2 : Ev c F r d2) (h : Cop op d1 d2 b) (hm : behindInMarks op r = false := by rfl) : Ev c F (.Compare l [op] [r] pos) (.bool b) := fun W₁ => by
  show Go c F W₁ (do compareChain pos (← eval l c.env) [op] (markedEach [op] [r] [eval r c.env])) _
  refine Go.bind (h1 _) (isK fun a W hs r1 => ?_)
  show Go c F W (do let rv ← PySem.holding [a] (markedBehindIn op r (eval r c.env)); standAt pos; PySem.operate [a, rv] (compareOp op a rv)) _
  rw [markedBehindIn_of_false hm]
  refine Go.bind (Go.holding (h2 _)) (isK fun y W' hs' r2 => ?_)
  exact Go.at (Go.operate (h c _ _ a y (r1.mono hs') r2))
theorem Te.compare {l r : Expr} {op : CmpOp} {pos : Pos} {d1 d2 : Dt} {b : Bool} (h1 : Ev c F l d1) (h2 : Ev c F r d2) (h : Cop op d1 d2 b) (hm : behindInMarks op r = false := by rfl) : Te c F (.Compare l [op] [r] pos) b := fun W₁ => by
  show Go c F W₁ (do testChain pos (← eval l c.env) [op] (markedEach [op] [r] [eval r c.env])) _
  refine Go.bind (h1 _) (isK fun a W hs r1 => ?_)
  show Go c F W (do let rv ← PySem.holding [a] (markedBehindIn op r (eval r c.env)); standAt pos; let x ← PySem.operate [a, rv] (compareOp op a rv); PySem.holding [x] (truthy x)) _
  rw [markedBehindIn_of_false hm]
  refine Go.bind (Go.holding (h2 _)) (isK fun y W' hs' r2 => ?_)
  refine Go.at (Go.bind (Go.operate (h c _ _ a y (r1.mono hs') r2)) (isK fun z W3 hs3 r3 => ?_))
  exact Go.holding (Tru.bool b c _ _ z r3)
theorem Te.not {x : Expr} {pos : Pos} {b : Bool} (h : Te c F x b) : Te c F (.UnaryOp .Not x pos) (!b) := fun W₁ => by
  refine Go.bind (h _) (isK fun r W hs e => ?_)
  obtain rfl := e
  exact Go.pure fun _ _ => ⟨rfl, rfl⟩
theorem Te.value {e : Expr} {d : Dt} {b : Bool} (h : Ev c F e d) (ht : Tru d b) (he : isTrue e c.env (eval e c.env) = (do let v ← eval e c.env; standAt e.pos; PySem.holding [v] (truthy v)) := by rfl) : Te c F e b := fun W₁ => by
  rw [he]
  refine Go.bind (h _) (isK fun v W hs r => ?_)
  exact Go.at (Go.holding (ht c _ _ v r))
theorem Te.and2 {x y : Expr} {pos : Pos} {a b : Bool} (h1 : Te c F x a) (h2 : a = true → Te c F y b) : Te c F (.BoolOp .And [x, y] pos) (a && b) := fun W₁ => by
  show Go c F W₁ (do match BoolOp.And, ← isTrue x c.env (eval x c.env) with | .And, false => Pure.pure false | .Or, true => Pure.pure true | _, _ => allTrue .And [y] c.env) _
  refine Go.bind (h1 _) (isK fun r W hs e => ?_)
  obtain rfl := e
  cases r with
  | false => exact Go.pure fun _ _ => ⟨rfl, rfl⟩
  | true =>
    show Go c F W (do match BoolOp.And, ← isTrue y c.env (eval y c.env) with | .And, false => Pure.pure false | .Or, true => Pure.pure true | _, _ => allTrue .And [] c.env) _
    refine Go.bind (h2 rfl _) (isK fun r W2 hs e => ?_)
    obtain rfl := e
    cases r <;> exact Go.pure fun _ _ => ⟨rfl, rfl⟩
theorem Te.or2 {x y : Expr} {pos : Pos} {a b : Bool} (h1 : Te c F x a) (h2 : a = false → Te c F y b) : Te c F (.BoolOp .Or [x, y] pos) (a || b) := fun W₁ => by
  show Go c F W₁ (do match BoolOp.Or, ← isTrue x c.env (eval x c.env) with | .And, false => Pure.pure false | .Or, true => Pure.pure true | _, _ => allTrue .Or [y] c.env) _
  refine Go.bind (h1 _) (isK fun r W hs e => ?_)
  obtain rfl := e
  cases r with
  | true => exact Go.pure fun _ _ => ⟨rfl, rfl⟩
  | false =>
    show Go c F W (do match BoolOp.Or, ← isTrue y c.env (eval y c.env) with | .And, false => Pure.pure false | .Or, true => Pure.pure true | _, _ => allTrue .Or [] c.env) _
    refine Go.bind (h2 rfl _) (isK fun r W2 hs e => ?_)
    obtain rfl := e
    cases r <;> exact Go.pure fun _ _ => ⟨rfl, rfl⟩
theorem Te.or3 {x y z : Expr} {pos : Pos} {a b d : Bool} (h1 : Te c F x a) (h2 : a = false → Te c F y b) (h3 : a = false → b = false → Te c F z d) : Te c F (.BoolOp .Or [x, y, z] pos) (a || b || d) := fun W₁ => by
  show Go c F W₁ (do match BoolOp.Or, ← isTrue x c.env (eval x c.env) with | .And, false => Pure.pure false | .Or, true => Pure.pure true | _, _ => allTrue .Or [y, z] c.env) _
  refine Go.bind (h1 _) (isK fun r W hs e => ?_)
  obtain rfl := e
  cases r with
  | true => exact Go.pure fun _ _ => ⟨rfl, by simp⟩
  | false =>
    show Go c F W (do match BoolOp.Or, ← isTrue y c.env (eval y c.env) with | .And, false => Pure.pure false | .Or, true => Pure.pure true | _, _ => allTrue .Or [z] c.env) _
    refine Go.bind (h2 rfl _) (isK fun r W2 hs e => ?_)
    obtain rfl := e
    cases r with
    | true => exact Go.pure fun _ _ => ⟨rfl, by simp⟩
    | false =>
      show Go c F W2 (do match BoolOp.Or, ← isTrue z c.env (eval z c.env) with | .And, false => Pure.pure false | .Or, true => Pure.pure true | _, _ => allTrue .Or [] c.env) _
      refine Go.bind (h3 rfl rfl _) (isK fun r W3 hs e => ?_)
      obtain rfl := e
      cases r <;> exact Go.pure fun _ _ => ⟨rfl, by simp⟩
theorem Ev.neg {x : Expr} {pos : Pos} {i : Int} (h : Ev c F x (.int i)) : Ev c F (.UnaryOp .USub x pos) (.int (-i)) := fun W₁ => by
  refine Go.bind (h _) (isK fun v W hs r => ?_)
  cases r
  exact Go.at (Go.holding (Go.fresh_val fun W h tk Q E hs I hQ => P.neg_int (hQ _ _ (.int _ _))))
end
noncomputable def Kept (w : World) (f : Value) : Prop := ∀ M h, (Mine.hd.heap_1 w.params).In h → ∃ k, (k = Keeper.frame ∨ k = Keeper.machine ∨ k = Keeper.boundFrame) ∧ Looks M h (keeperOf f) k
theorem Kept.builtin (w : World) (id : String) : Kept w (.builtin id) := fun _ _ _ => ⟨.machine, .inr (.inl rfl), Looks.of_pure rfl⟩
theorem Kept.type (w : World) (id : String) : Kept w (.type id) := fun _ _ _ => ⟨.machine, .inr (.inl rfl), Looks.of_pure rfl⟩
theorem Kept.of {w : World} {f : Value} (h : keepIn (Mine.hd.heap_1 w.params) f = true) : Kept w f := fun M h' X => keeps_K h h' X
noncomputable def Cal (w : World) (f : Value) (n : Nat) (ds : List Dt) (d : Dt) : Prop := ∀ (c : Cx) (F : Frame) (W₁ : Fz) (vs : List Value), c.w = w → n ≤ c.k → Reps W₁ vs ds → Go c F W₁ (call f vs) (Is F d)
section
variable {c : Cx} {F : Frame} {W₁ : Fz}
theorem Go.evalArgs {f : Value} {args : List (Bool × Sem Value)} {ds : List Dt} (hst : args.any (·.1) = false) (h : Go c F W₁ (spliced args) (fun vs W F' => F' = F ∧ Reps W vs ds)) :
    Go c F W₁ (PySem.evalArgs f true args []) (fun a W F' => F' = F ∧ a.kw = [] ∧ Reps W a.pos ds) := by
  cases args with
  | nil =>
    refine Go.bind h (isK fun vs W hs r => ?_)
    refine Go.bind (P := fun a W' F'' => F'' = F ∧ a = (vs, none)) (Go.pure fun _ _ => ⟨rfl, rfl⟩) (isK fun a W' hs' e => ?_)
    obtain rfl := e
    refine Go.holding ?_
    refine Go.bind (P := fun a W' F'' => F'' = F ∧ a = []) (Go.pure fun _ _ => ⟨rfl, rfl⟩) (isK fun a W2 hs2 e => ?_)
    obtain rfl := e
    refine Go.bind (P := fun a W' F'' => F'' = F ∧ a = vs) (Go.pure fun _ _ => ⟨rfl, rfl⟩) (isK fun a W4 hs4 e => ?_)
    obtain rfl := e
    exact Go.pure fun W'' hs'' => ⟨rfl, rfl, r.mono (((hs'.trans hs2).trans hs4).trans hs'')⟩
  | cons a rest =>
    obtain ⟨b, x⟩ := a
    have hb : b = false := by cases b; rfl; simp at hst
    subst hb
    refine Go.bind h (isK fun vs W hs r => ?_)
    refine Go.bind (P := fun a W' F'' => F'' = F ∧ a = (vs, none)) (Go.pure fun _ _ => ⟨rfl, rfl⟩) (isK fun a W' hs' e => ?_)
    obtain rfl := e
    refine Go.holding ?_
    refine Go.bind (P := fun a W' F'' => F'' = F ∧ a = []) (Go.pure fun _ _ => ⟨rfl, rfl⟩) (isK fun a W2 hs2 e => ?_)
    obtain rfl := e
    refine Go.bind (P := fun a W' F'' => F'' = F ∧ a = vs) (Go.pure fun _ _ => ⟨rfl, rfl⟩) (isK fun a W4 hs4 e => ?_)
    obtain rfl := e
    exact Go.pure fun W'' hs'' => ⟨rfl, rfl, r.mono (((hs'.trans hs2).trans hs4).trans hs'')⟩
theorem Go.callWith {pos : Pos} {f : Value} {first : List Value} {es : List Expr} {ds : List Dt} {P : Value → Fz → Frame → Prop} (hK : Kept c.w f) (hes : Evs c F es ds)
    (hst : (backTo pos (starEach es c.env)).any (·.1) = false) (h : ∀ vs W, Sub W₁ W → Reps W vs ds → Go c F W (call f (first ++ vs)) P) :
    Go c F W₁ (PySem.callWith pos f first (backTo pos (starEach es c.env)) []) P := fun W hp tk Q E hs I hQ => by
  refine callWith_of (P := fun h => (Mine.hd.heap_1 c.w.params).In h) (by rw [hst]; rfl) (fun h X => hK _ h X) ?_
  refine Go.evalArgs hst (hes pos W₁) W hp tk _ E hs I fun a W' h' tk' F' I' hs' r => ?_
  obtain ⟨rfl, hkw, r⟩ := r
  obtain ⟨_, _, _, _, _, X, _⟩ := I'.wd.at I'.keep
  refine ⟨X, ?_⟩
  rw [hkw]
  exact h a.pos W' (hs.trans hs') r W' h' tk' Q E (Sub.refl _) I' fun v W2 h2 tk2 F2 I2 hs2 hP => hQ v W2 h2 tk2 F2 I2 (hs'.trans hs2) hP
theorem Ev.call {id : Str} {p pos : Pos} {es : List Expr} {f : Value} {n : Nat} {ds : List Dt} {d : Dt} (hf : Ev c F (.Name id p) (.val f)) (hK : Kept c.w f) (hes : Evs c F es ds) (hc : Cal c.w f n ds d) (hn : n ≤ c.k)
    (hst : (backTo pos (starEach es c.env)).any (·.1) = false := by rfl) : Ev c F (.Call (.Name id p) es [] pos) d := fun W₁ => by
  show Go c F W₁ (do PySem.callWith pos (← eval (.Name id p) c.env) [] (backTo pos (starEach es c.env)) []) _
  refine Go.bind (hf _) (isK fun v W hs r => ?_)
  cases r
  exact Go.callWith hK hes hst fun vs W' hs' r => hc c _ W' vs rfl hn r
noncomputable def Mth (d : Dt) (name : Str) (w : World) (f : Value) : Prop := ∀ (c : Cx) (F : Frame) (W₁ : Fz) (v : Value) (pl : Sem Bool), c.w = w → Rep W₁ v d → Go c F W₁ (getMethod v name pl) (fun r _ F' => F' = F ∧ r = (f, [v]))
theorem Ev.meth {o : Expr} {name : Str} {apos pos : Pos} {es : List Expr} {f : Value} {n : Nat} {d0 : Dt} {ds : List Dt} {d : Dt} (ho : Ev c F o d0) (hm : Mth d0 name c.w f) (hK : Kept c.w f) (hes : Evs c F es ds) (hc : Cal c.w f n (d0 :: ds) d) (hn : n ≤ c.k)
    (hst : (backTo pos (starEach es c.env)).any (·.1) = false := by rfl) (hbase : attributeBase o name c.env (eval o c.env) = eval o c.env := by rfl) (hline : (apos.endLine == pos.line) = true := by rfl)
    (hform : methodCallForm (es.length + 0) (backTo pos (starEach es c.env)) [] = true := by rfl) : Ev c F (.Call (.Attribute o name apos) es [] pos) d := fun W₁ => by
  show Go c F W₁ (do
    let ov ← attributeBase o name c.env (eval o c.env)
    standAt apos.atName
    methodCall o name apos pos c.env ov (es.length + 0) (backTo pos (starEach es c.env)) []) _
  rw [hbase]
  refine Go.bind (ho _) (isK fun v W hs r => ?_)
  refine Go.at ?_
  unfold methodCall
  rw [hform]
  refine Go.bind (P := fun x _ F'' => F'' = F ∧ x = (f, [v])) (Go.holding (hm c _ _ v _ rfl r)) (isK fun x W2 hs2 e => ?_)
  obtain rfl := e
  have hpos : methodCallPos true o c.env apos pos = Pure.pure pos := by unfold methodCallPos; simp [hline]
  dsimp only
  rw [hpos]
  refine Go.bind (P := fun x _ F'' => F'' = F ∧ x = pos) (Go.pure fun _ _ => ⟨rfl, rfl⟩) (isK fun x W3 hs3 e => ?_)
  obtain rfl := e
  exact Go.callWith hK hes hst fun vs W' hs' r' => hc c _ W' (v :: vs) rfl hn (.cons (r.mono ((hs2.trans hs3).trans hs')) r')
end
end
end
section
open PySem PySem.W PySem.Calls PyProof.Rows PySem.Spec
set_option Elab.async false
set_option maxRecDepth 100000
set_option linter.unusedVariables false
set_option linter.unusedSimpArgs false
section
inductive Fl where
  | next | brk | cont | ret (d : Dt)
noncomputable def FlR (W : Fz) : Flow → Fl → Prop
  | .next, .next => True
  | .brk, .brk => True
  | .cont, .cont => True
  | .ret v, .ret d => Rep W v d
  | _, _ => False
theorem FlR.mono {W W' : Fz} (hs : Sub W W') {f g} (h : FlR W f g) : FlR W' f g := by
  cases f <;> cases g <;> first | exact h | exact Rep.mono hs h
noncomputable def Pst (P : Fl → Frame → Prop) : Flow → Fz → Frame → Prop := fun fl W F => ∃ f, FlR W fl f ∧ P f F
noncomputable def Tr (c : Cx) (F : Frame) (ss : List Stmt) (P : Fl → Frame → Prop) : Prop := ∀ W₁, Go c F W₁ (execs ss c.env) (Pst P)
noncomputable def Ex (c : Cx) (F : Frame) (st : Stmt) (P : Fl → Frame → Prop) : Prop := ∀ W₁, Go c F W₁ (exec st c.env) (Pst P)
noncomputable def Then (c : Cx) (rest : List Stmt) (P : Fl → Frame → Prop) : Fl → Frame → Prop
  | .next, F => Tr c F rest P
  | f, F => P f F
section
variable {c : Cx} {F : Frame} {W₁ : Fz} {P : Fl → Frame → Prop}
theorem Tr.nil (h : P .next F) : Tr c F [] P := fun W₁ => Go.pure fun _ _ => ⟨.next, trivial, h⟩
theorem Tr.cons {st : Stmt} {rest : List Stmt} (h : Ex c F st (Then c rest P)) : Tr c F (st :: rest) P := fun W₁ => by
  rw [execs_cons]
  refine Go.bind (h W₁) fun fl W F' hs r => ?_
  obtain ⟨f, hf, hp⟩ := r
  cases fl with
  | next => cases f <;> first | exact hp W | exact hf.elim
  | brk => cases f <;> first | exact Go.pure fun _ _ => ⟨.brk, trivial, hp⟩ | exact hf.elim
  | cont => cases f <;> first | exact Go.pure fun _ _ => ⟨.cont, trivial, hp⟩ | exact hf.elim
  | ret v => cases f <;> first | exact Go.pure fun _ hs => ⟨.ret _, Rep.mono hs hf, hp⟩ | exact hf.elim
theorem Tr.mono {ss : List Stmt} {P' : Fl → Frame → Prop} (h : Tr c F ss P) (hp : ∀ f F, P f F → P' f F) : Tr c F ss P' := fun W₁ => Go.mono (h W₁) fun fl W F' _ r => let ⟨f, a, b⟩ := r; ⟨f, a, hp f F' b⟩
theorem Go.bindName {sc : Scope} {x : Str} {d : Dt} {v : Value} {P : Unit → Fz → Frame → Prop} (hs : c.env.scope = sc) (hx : sc.names.lookup x = some .local) (hv : Rep W₁ v d)
    (hP : ∀ W, Sub W₁ W → P () W (F.set x d)) : Go c F W₁ (PySem.bindName c.env x v) P := fun W h tk Q E hW I hQ => wpAny_bindName (Go.store hs hx hv hP W h tk Q E hW I hQ)
theorem Ex.assignP {sc : Scope} {x : Str} {value : Expr} {pos' pos : Pos} (hs : c.env.scope = sc) (hx : sc.names.lookup x = some .local)
    (h : ∀ W₁, Go c F W₁ (eval value c.env) (fun v W F' => ∃ d, Rep W v d ∧ P .next (F'.set x d))) (hsw : swapsWith value (some (.Name x pos')) pos.line c.env = Pure.pure false := by rfl) :
    Ex c F (.Assign [.Name x pos'] value pos) P := fun W₁ => by
  rw [exec_Assign_Name _ _ _ _ _ hsw]
  refine Go.at (Go.bind (h _) fun v W F' hs' r => ?_)
  obtain ⟨d, r, hp⟩ := r
  refine Go.at (Go.bind (Go.bindName (P := fun _ W' F'' => F'' = F'.set x d) hs hx r fun _ _ => rfl) fun _ W' F'' _ e => ?_)
  subst e
  exact Go.pure fun _ _ => ⟨.next, trivial, hp⟩
theorem Ex.assign {sc : Scope} {x : Str} {value : Expr} {pos' pos : Pos} {d : Dt} (hs : c.env.scope = sc) (hx : sc.names.lookup x = some .local) (h : Ev c F value d) (hp : P .next (F.set x d))
    (hsw : swapsWith value (some (.Name x pos')) pos.line c.env = Pure.pure false := by rfl) : Ex c F (.Assign [.Name x pos'] value pos) P :=
  Ex.assignP hs hx (fun W₁ => Go.mono (h W₁) fun v W F' _ r => ⟨d, r.2, r.1 ▸ hp⟩) hsw
theorem Ex.ret {e : Expr} {pos : Pos} {d : Dt} (h : Ev c F e d) (hp : P (.ret d) F) : Ex c F (.Return (some e) pos) P := fun W₁ => by
  rw [exec_Return_some]
  refine Go.at (Go.bind (h _) (isK fun v W hs r => ?_))
  exact Go.pure fun _ hs => ⟨.ret d, r.mono hs, hp⟩
theorem Ex.if_ {t : Expr} {body orelse : List Stmt} {pos : Pos} {b : Bool} (h : Te c F t b) (h1 : b = true → Tr c F body P) (h2 : b = false → Tr c F orelse P) : Ex c F (.If t body orelse pos) P := fun W₁ => by
  rw [exec_If]
  refine Go.at (Go.bind (h _) (isK fun r W hs e => ?_))
  obtain rfl := e
  cases r with
  | true => exact h1 rfl W
  | false => exact h2 rfl W
theorem Ex.exprP {e : Expr} {pos : Pos} (h : ∀ W₁, Go c F W₁ (eval e c.env) (fun v W F' => (∀ a, v ≠ .ref a) ∧ P .next F')) (hsw : swapsWith e none pos.line c.env = Pure.pure false := by rfl) : Ex c F (.Expr e pos) P := fun W₁ => by
  rw [PySem.exec_Expr _ _ _ (by unfold interactive; rw [c.hk]; rfl) hsw]
  refine Go.at (Go.bind (h _) fun v W F' hs r => ?_)
  obtain ⟨hv, hp⟩ := r
  rw [dropValue_plain hv]
  exact Go.pure fun _ _ => ⟨.next, trivial, hp⟩
noncomputable def As (c : Cx) (F : Frame) (t : Expr) (d : Dt) (F' : Frame) : Prop := ∀ W₁ v, Rep W₁ v d → Go c F W₁ (PySem.assign t c.env v) (fun _ _ F'' => F'' = F')
theorem As.name {sc : Scope} {x : Str} {pos : Pos} {d : Dt} (hs : c.env.scope = sc) (hx : sc.names.lookup x = some .local) : As c F (.Name x pos) d (F.set x d) := fun W₁ v r => by
  rw [PySem.assign_Name]
  exact Go.at (Go.bindName hs hx r fun _ _ => rfl)
noncomputable def Ass (c : Cx) (F : Frame) (ts : List Expr) (ds : List Dt) (F' : Frame) : Prop := ∀ W₁ vs, Reps W₁ vs ds → Go c F W₁ (assignInOrder ((assignEach ts c.env).map (·.2)) vs) (fun _ _ F'' => F'' = F')
theorem Ass.nil : Ass c F [] [] F := fun W₁ vs r => Go.pure fun _ _ => rfl
theorem Ass.cons {t : Expr} {ts : List Expr} {d : Dt} {ds : List Dt} {F' F'' : Frame} (h1 : As c F t d F') (h2 : Ass c F' ts ds F'') (he : assignEach (t :: ts) c.env = (false, PySem.assign t c.env) :: assignEach ts c.env := by rfl) : Ass c F (t :: ts) (d :: ds) F'' := fun W₁ vs r => by
  cases r with
  | @cons v vs _ _ r rs =>
    rw [he]
    show Go c F W₁ (do PySem.holding vs (PySem.assign t c.env v); assignInOrder ((assignEach ts c.env).map (·.2)) vs) _
    refine Go.bind (Go.holding (h1 W₁ v r)) fun _ W F1 hs e => ?_
    subst e
    exact h2 W vs (rs.mono hs)
theorem Go.unpackTuple {a : Value} {ds : List Dt} {P : List Value → Fz → Frame → Prop} (h : Rep W₁ a (.tup ds)) (hP : ∀ vs W, Sub W₁ W → Reps W vs ds → P vs W F) : Go c F W₁ (unpackItems a ds.length none) P := fun W hp tk Q E hs I hQ => by
  cases h with
  | @tup a vs n ds e r =>
    have hl : vs.size = ds.length := by rw [← r.length, Array.length_toList]
    rw [← hl]
    refine wpAny_unpackItems_tuple (s := St c.s₀ hp tk) (items := vs) c.hh ⟨_, I.keep _ _ (hs _ _ e), rfl, n, rfl⟩ fun h' he => ?_
    exact hQ _ W h' tk F (I.grow (Sub.refl _) (fun b o q => he b o (Nat.ne_of_lt (Heap.lt_size q)) q) (fun b o q => he b o (Nat.ne_of_lt (Heap.lt_size (I.keep _ _ q))) (I.keep _ _ q)) fun b o q => .inl q) (Sub.refl _) (hP _ _ hs (r.mono hs))
theorem As.tuple {ts : List Expr} {k : Nat} {pos : Pos} {ds : List Dt} {F' : Frame} (h : Ass c F ts ds F') (hn : (assignEach ts c.env).length = ds.length := by rfl) (hstar : (assignEach ts c.env).findIdx? (·.1) = none := by rfl) : As c F (.Tuple ts k pos) (.tup ds) F' := fun W₁ v r => by
  show Go c F W₁ (do standAt pos; unpack v (assignEach ts c.env)) _
  refine Go.at ?_
  unfold unpack
  rw [hn, hstar]
  refine Go.bind (Go.holding (Go.unpackTuple (P := fun vs W F'' => F'' = F ∧ Reps W vs ds) r fun vs W _ r => ⟨rfl, r⟩)) (isK fun vs W hs r => ?_)
  exact h W vs r
theorem Ex.assignT {ts : List Expr} {k : Nat} {tpos pos : Pos} {value : Expr} {d : Dt} {F' : Frame} (h : Ev c F value d) (ha : As c F (.Tuple ts k tpos) d F') (hp : P .next F')
    (hs : swapsWithSole [.Tuple ts k tpos] value pos.line c.env = Pure.pure false := by rfl) (hw : swappedStores [.Tuple ts k tpos] value c.env = Pure.pure none := by rfl) :
    Ex c F (.Assign [.Tuple ts k tpos] value pos) P := fun W₁ => by
  rw [exec_Assign, hs, hw]
  refine Go.at ?_
  show Go c F W₁ (do let v ← eval value c.env; assignStores c.env v none [PySem.assign (.Tuple ts k tpos) c.env]) _
  refine Go.bind (h _) (isK fun v W hs r => ?_)
  show Go c F W (do PySem.assign (.Tuple ts k tpos) c.env v; Pure.pure Flow.next) _
  refine Go.bind (ha W v r) fun _ W2 F2 hs e => ?_
  subst e
  exact Go.pure fun _ _ => ⟨.next, trivial, hp⟩
noncomputable def isSt : Expr → Bool
  | .Starred .. => true
  | _ => false
theorem swapped2 {a b : Str} {pa pb tpos vpos : Pos} {k k' : Nat} {x y : Expr} {sc : Scope} (hs : c.env.scope = sc) (ha : sc.names.lookup a = some .local) (hb : sc.names.lookup b = some .local) (hab : (a == b) = false) (hl : pb.line = pa.line)
    (hx : isSt x = false) (hy : isSt y = false) (hf : [x, y].all (foldedForSure 8) = false) (hc : [x, y].all (constantsAlone 8) = false)
    (hpa : (Expr.Name a pa).pos.line = pa.line := by rfl) : swappedStores [.Tuple [.Name a pa, .Name b pb] k tpos] (.Tuple [x, y] k' vpos) c.env = Pure.pure (some [a, b]) := by
  have h1 := kindOf_of hs ha
  have h2 := kindOf_of hs hb
  have hbk : c.env.blockKind = .function := by unfold Env.blockKind; rw [c.hk]; rfl
  have hba : (b == a) = false := by rw [beq_eq_false_iff_ne] at hab ⊢; exact Ne.symm hab
  unfold swappedStores
  simp only [List.length_cons, List.length_nil, hbk, List.any_cons, List.any_nil, hx, hy, hf, hc, List.filterMap_cons, List.filterMap_nil, h1, h2, hl, List.head?_cons, Option.map_some, Option.getD_some, hpa]
  simp [List.eraseDups_cons, hab, hba]
  rintro (h | h)
  · exact absurd ((show isSt x = true from h).symm.trans hx) (by decide)
  · exact absurd ((show isSt y = true from h).symm.trans hy) (by decide)
theorem Ex.swap2 {a b : Str} {pa pb tpos vpos pos : Pos} {k k' : Nat} {x y : Expr} {sc : Scope} {d1 d2 : Dt} (hs : c.env.scope = sc) (ha : sc.names.lookup a = some .local) (hb : sc.names.lookup b = some .local) (h1 : Ev c F x d1) (h2 : Ev c F y d2)
    (hp : P .next ((F.set b d2).set a d1)) (hab : (a == b) = false := by decide) (hl : pb.line = pa.line := by rfl)
    (hx : isSt x = false := by rfl) (hy : isSt y = false := by rfl) (hf : [x, y].all (foldedForSure 8) = false := by rfl) (hc : [x, y].all (constantsAlone 8) = false := by rfl)
    (he : starEach [x, y] c.env = [(false, eval x c.env), (false, eval y c.env)] := by rfl) (he2 : starEach [y] c.env = [(false, eval y c.env)] := by rfl) :
    Ex c F (.Assign [.Tuple [.Name a pa, .Name b pb] k tpos] (.Tuple [x, y] k' vpos) pos) P := fun W₁ => by
  rw [exec_Assign, swapped2 hs ha hb hab hl hx hy hf hc]
  refine Go.at ?_
  show Go c F W₁ (do let v ← eval (.Tuple [x, y] k' vpos) c.env; assignStores c.env v (some [a, b]) [PySem.assign (.Tuple [.Name a pa, .Name b pb] k tpos) c.env]) _
  refine Go.bind ((show Ev c F (.Tuple [x, y] k' vpos) _ from Ev.tuple (.cons h1 (.cons h2 .nil he2) (by rw [he, he2]))) _) (isK fun v W hs' r => ?_)
  show Go c F W (do rule "assign.swapped-stores"; let items ← unpackItems v 2 none; assignInOrder ([a, b].reverse.map fun n => PySem.bindName c.env n) items.reverse; Pure.pure Flow.next) _
  have hrule : ∀ {t : Sem Flow}, Go c F W t (Pst P) → Go c F W (do rule "assign.swapped-stores"; t) (Pst P) := fun h W hp tk Q E hs I hQ => wpAny_bind (wpAny_rule (h W hp tk Q E hs I hQ))
  refine hrule ?_
  have hu : Go c F W (unpackItems v 2 none) (fun vs W F'' => F'' = F ∧ ∃ v1 v2, vs = [v1, v2] ∧ Rep W v1 d1 ∧ Rep W v2 d2) := Go.unpackTuple (ds := [d1, d2]) r fun vs W _ r => ⟨rfl, by
    cases r with
    | @cons v1 _ _ _ r1 r =>
      cases r with
      | @cons v2 _ _ _ r2 r =>
        cases r
        exact ⟨v1, v2, rfl, r1, r2⟩⟩
  refine Go.bind hu fun vs W2 F2 hs2 e => ?_
  obtain ⟨rfl, v1, v2, rfl, r1, r2⟩ := e
  have hv : Go c F2 W2 (assignInOrder ([a, b].reverse.map fun n => PySem.bindName c.env n) [v1, v2].reverse) (fun _ _ F' => F' = (F2.set b d2).set a d1) := by
    show Go c F2 W2 (do PySem.holding [v1] (PySem.bindName c.env b v2); assignInOrder [PySem.bindName c.env a] [v1]) _
    refine Go.bind (Go.holding (Go.bindName (P := fun _ _ F' => F' = F2.set b d2) hs hb r2 fun _ _ => rfl)) fun _ W3 F3 hs3 e => ?_
    subst e
    show Go c _ W3 (do PySem.holding [] (PySem.bindName c.env a v1); assignInOrder [] []) _
    refine Go.bind (Go.holding (Go.bindName (P := fun _ _ F' => F' = (F2.set b d2).set a d1) hs ha (r1.mono hs3) fun _ _ => rfl)) fun _ W4 F4 hs4 e => ?_
    subst e
    exact Go.pure fun _ _ => rfl
  refine Go.bind hv fun _ W3 F3 hs3 e => ?_
  subst e
  exact Go.pure fun _ _ => ⟨.next, trivial, hp⟩
theorem Ex.augInt {sc : Scope} {x : Str} {value : Expr} {pos' pos : Pos} {i j : Int} (hs : c.env.scope = sc) (hx : sc.names.lookup x = some .local) (h0 : F.vars.lookup x = some (.int i)) (h : Ev c F value (.int j)) (hp : P .next (F.set x (.int (i + j)))) :
    Ex c F (.AugAssign (.Name x pos') .Add value pos) P := fun W₁ => by
  rw [exec_AugAssign_Name]
  refine Go.at (Go.bind (ld_name hs hx h0) (isK fun v W hs1 r => ?_))
  refine Go.bind (Go.holding (h _)) (isK fun u W2 hs2 r2 => ?_)
  refine Go.at (Go.bind (P := Is F (.int (i + j))) (Go.operate ?_) fun z W3 F3 hs3 r3 => ?_)
  · cases r; cases r2
    exact Go.fresh_val fun W h tk Q E hs I hQ => PySem.P.iadd_int (hQ _ _ (.int _ _))
  · obtain ⟨rfl, r3⟩ := r3
    refine Go.at (Go.bind (Go.bindName (P := fun _ _ F' => F' = F3.set x (.int (i + j))) hs hx r3 fun _ _ => rfl) fun _ W4 F4 hs4 e => ?_)
    subst e
    exact Go.pure fun _ _ => ⟨.next, trivial, hp⟩
end
end
end
section
open PySem PySem.W PySem.Calls PyProof.Rows PySem.Spec
set_option Elab.async false
set_option maxRecDepth 100000
set_option linter.unusedVariables false
set_option linter.unusedSimpArgs false
section
section
variable {c : Cx} {F : Frame} {W W₁ : Fz} {h : Heap}
theorem Inv.turned {ps ps' : List (Addr × Obj)} {h' : Heap} (I : Inv (c.hides ps) F W h) (he : ps'.map Prod.fst = ps.map Prod.fst) (hk : ∀ b o, b ∉ ps.map Prod.fst → h.get? b = some o → h'.get? b = some o)
    (hp : ∀ p ∈ ps', h'.get? p.1 = some p.2) : Inv (c.hides ps') F W h' := by
  have nW : ∀ b o, W b = some o → b ∉ ps.map Prod.fst := fun b o e q => by
    obtain ⟨p, hp, rfl⟩ := List.mem_map.mp q
    rw [(I.hid p (List.mem_append_left _ hp)).2.2.1] at e; cases e
  have nL : c.L ∉ ps.map Prod.fst := fun q => by
    obtain ⟨p, hp, e⟩ := List.mem_map.mp q
    exact (I.hid p (List.mem_append_left _ hp)).2.1 e
  have nA : ∀ a ∈ F.ads, a ∉ ps.map Prod.fst := fun a ha q => by
    obtain ⟨p, hp, rfl⟩ := List.mem_map.mp q
    exact (I.hid p (List.mem_append_left _ hp)).2.2.2.1 ha
  have nd : (((ps ++ c.hid).map Prod.fst)).Nodup := I.hnd
  have nd' : ((ps.map Prod.fst) ++ (c.hid.map Prod.fst)).Nodup := by rw [← List.map_append]; exact nd
  have disj := List.nodup_append.mp nd'
  exact {
    wd := I.wd
    vars := by
      obtain ⟨m, hn, hm⟩ := I.vars
      exact ⟨m, hn.at' fun o e => hk _ o nL e, hm⟩
    base := fun b o hb e => hk b o (fun q => by
      obtain ⟨p, hp, rfl⟩ := List.mem_map.mp q
      exact absurd (Heap.lt_size e) (Nat.not_lt.mpr (I.hid p (List.mem_append_left _ hp)).2.2.2.2)) (I.base b o hb e)
    sub := I.sub
    keep := fun b o e => hk b o (nW b o e) (I.keep b o e)
    new := I.new
    hL := I.hL
    wL := I.wL
    own := fun p hp => (I.own p hp).keeps (Sub.refl _) fun a ha o e => hk a o (nA a (List.mem_flatMap.mpr ⟨p, hp, ha⟩)) e
    ads := I.ads
    nd := I.nd
    bor := I.bor
    hid := fun p hp' => by
      rcases List.mem_append.mp hp' with q | q
      · have : p.1 ∈ ps.map Prod.fst := he ▸ List.mem_map_of_mem q
        obtain ⟨p0, h0, e0⟩ := List.mem_map.mp this
        have z := (I.hid p0 (List.mem_append_left _ h0)).2
        rw [e0] at z
        exact ⟨hp p q, z⟩
      · exact ⟨hk _ _ (fun z => disj.2.2 _ z _ (List.mem_map_of_mem q) rfl) (I.hid p (List.mem_append_right _ q)).1, (I.hid p (List.mem_append_right _ q)).2⟩
    hnd := by
      show ((ps' ++ c.hid).map Prod.fst).Nodup
      rw [List.map_append, he]; exact nd' }
theorem Inv.dropped {ps : List (Addr × Obj)} {h' : Heap} (I : Inv (c.hides ps) F W h) (hk : ∀ b o, b ∉ ps.map Prod.fst → h.get? b = some o → h'.get? b = some o) : Inv c F W h' := by
  have nW : ∀ b o, W b = some o → b ∉ ps.map Prod.fst := fun b o e q => by
    obtain ⟨p, hp, rfl⟩ := List.mem_map.mp q
    rw [(I.hid p (List.mem_append_left _ hp)).2.2.1] at e; cases e
  have nL : c.L ∉ ps.map Prod.fst := fun q => by
    obtain ⟨p, hp, e⟩ := List.mem_map.mp q
    exact (I.hid p (List.mem_append_left _ hp)).2.1 e
  have nA : ∀ a ∈ F.ads, a ∉ ps.map Prod.fst := fun a ha q => by
    obtain ⟨p, hp, rfl⟩ := List.mem_map.mp q
    exact (I.hid p (List.mem_append_left _ hp)).2.2.2.1 ha
  have nd : (((ps ++ c.hid).map Prod.fst)).Nodup := I.hnd
  have nd' : ((ps.map Prod.fst) ++ (c.hid.map Prod.fst)).Nodup := by rw [← List.map_append]; exact nd
  have disj := List.nodup_append.mp nd'
  exact {
    wd := I.wd
    vars := by
      obtain ⟨m, hn, hm⟩ := I.vars
      exact ⟨m, hn.at' fun o e => hk _ o nL e, hm⟩
    base := fun b o hb e => hk b o (fun q => by
      obtain ⟨p, hp, rfl⟩ := List.mem_map.mp q
      exact absurd (Heap.lt_size e) (Nat.not_lt.mpr (I.hid p (List.mem_append_left _ hp)).2.2.2.2)) (I.base b o hb e)
    sub := I.sub
    keep := fun b o e => hk b o (nW b o e) (I.keep b o e)
    new := I.new
    hL := I.hL
    wL := I.wL
    own := fun p hp => (I.own p hp).keeps (Sub.refl _) fun a ha o e => hk a o (nA a (List.mem_flatMap.mpr ⟨p, hp, ha⟩)) e
    ads := I.ads
    nd := I.nd
    bor := I.bor
    hid := fun p q => ⟨hk _ _ (fun z => disj.2.2 _ z _ (List.mem_map_of_mem q) rfl) (I.hid p (List.mem_append_right _ q)).1, (I.hid p (List.mem_append_right _ q)).2⟩
    hnd := disj.2.1 }
theorem Inv.unhide {ps : List (Addr × Obj)} (I : Inv (c.hides ps) F W h) : Inv c F W h :=
  { wd := I.wd, vars := I.vars, base := I.base, sub := I.sub, keep := I.keep, new := I.new, hL := I.hL, wL := I.wL, own := I.own, ads := I.ads, nd := I.nd, bor := I.bor
    hid := fun p hp => I.hid p (List.mem_append_right _ hp)
    hnd := by
      have nd : (((ps ++ c.hid).map Prod.fst)).Nodup := I.hnd
      rw [List.map_append] at nd
      exact (List.nodup_append.mp nd).2.1 }
theorem Inv.push_hid (I : Inv c F W h) (o : Obj) (hf : o.isFreed = false) : Inv (c.hides [(h.objs.size, o)]) F W (h.push o) :=
  have J := I.grow (W' := W) (h' := h.push o) (Sub.refl _) (fun b x e => Heap.get?_push_of_some _ e) (fun b x e => Heap.get?_push_of_some _ (I.keep _ _ e)) (fun b x e => .inl e)
  { wd := J.wd, vars := J.vars, base := J.base, sub := J.sub, keep := J.keep, new := J.new, hL := J.hL, wL := J.wL, own := J.own, ads := J.ads, nd := J.nd, bor := J.bor
    hid := fun p hp => by
      rcases List.mem_cons.mp hp with rfl | hp
      · exact ⟨Heap.get?_push_size _ hf, Nat.ne_of_gt I.L_lt, I.none_size, fun q => absurd (I.ads_lt _ q) (Nat.lt_irrefl _), I.size⟩
      · exact J.hid p hp
    hnd := List.nodup_cons.mpr ⟨fun q => by
      obtain ⟨p, hp, e⟩ := List.mem_map.mp q
      have := Heap.lt_size (I.hid p hp).1
      rw [e] at this; exact absurd this (Nat.lt_irrefl _), J.hnd⟩ }
theorem Reps.get {W : Fz} {vs ds} {i : Nat} {v : Value} (r : Reps W vs ds) (e : vs[i]? = some v) : ∃ d, ds[i]? = some d ∧ Rep W v d := by
  induction ds generalizing vs i with
  | nil => obtain rfl := r.inv; cases e
  | cons d ds ih =>
    obtain ⟨u, vs, rfl, a, r⟩ := r.inv
    cases i with
    | zero => cases e; exact ⟨_, rfl, a⟩
    | succ i => rw [List.getElem?_cons_succ] at e ⊢; exact ih r e
noncomputable def ownsTuple : List String := ["enumerate", "zip", "dict_itemiterator", "dict_reverseitemiterator", "odict_iterator", "itertools.zip_longest", "itertools.pairwise"]
structure Pul (w : World) (W : Fz) (I : Addr) (tg : Expr) (ds : List Dt) (S : Nat → List (Addr × Obj) → Prop) : Prop where
  item : ∀ (c : Cx) i os F W2 h tk (Q : Value → Shared → Prop) E, c.w = w → i < ds.length → S i os → Inv (c.hides os) F W2 h → Sub W W2 →
    (∀ v d os' W3 h' tk', ds[i]? = some d → S (i + 1) os' → Inv (c.hides os') F W3 h' → Sub W2 W3 → Rep W3 v d → Q v (St c.s₀ h' tk')) →
    wpAny (model prog c.w) c.A (pyNext (.ref I)) (fun r s₁ => match r with
      | none => False
      | some v => wpAny (model prog c.w) c.A (letOwnedTupleGo tg (.ref I) v) (fun _ s₂ => Q v s₂) E s₁) E (St c.s₀ h tk)
  done : ∀ (c : Cx) os F W2 h tk (Q : Option Value → Shared → Prop) E, c.w = w → S ds.length os → Inv (c.hides os) F W2 h → Sub W W2 →
    (∀ h' tk', Inv c F W2 h' → Q none (St c.s₀ h' tk')) → wpAny (model prog c.w) c.A (pyNext (.ref I)) Q E (St c.s₀ h tk)
  self : ∀ (c : Cx) os F W2 h tk (Q : Value → Shared → Prop) E, c.w = w → S 0 os → Inv (c.hides os) F W2 h → Sub W W2 → Q (.ref I) (St c.s₀ h tk) → wpAny (model prog c.w) c.A (pyIter (.ref I)) Q E (St c.s₀ h tk)
noncomputable def Began (c : Cx) (F : Frame) (W : Fz) (tg : Expr) (ds : List Dt) (Q : Value → Shared → Prop) : Prop :=
  ∀ I os S W1 h1 h' tk', Inv c F W1 h1 → Sub W W1 → Inv (c.hides os) F W1 h' → S 0 os → Pul c.w W1 I tg ds S → (∀ b o, h1.get? b = some o → h'.get? b = some o) → h1.objs.size ≤ h'.objs.size → (∀ p ∈ os, h1.objs.size ≤ p.1) → Q (.ref I) (St c.s₀ h' tk')
noncomputable def Itv (tg : Expr) (d : Dt) (ds : List Dt) : Prop := ∀ (c : Cx) (F : Frame) (v : Value) W h tk Q E, Inv c F W h → Rep W v d →
  (∀ I os S h' tk', Inv (c.hides os) F W h' → S 0 os → Pul c.w W I tg ds S → (∀ b o, h.get? b = some o → h'.get? b = some o) → h.objs.size ≤ h'.objs.size → (∀ p ∈ os, h.objs.size ≤ p.1) → Q (.ref I) (St c.s₀ h' tk')) →
  wpAny (model prog c.w) c.A (pyIter v) Q E (St c.s₀ h tk)
noncomputable def Its (c : Cx) (F : Frame) (tg e : Expr) (ds : List Dt) : Prop := ∀ W h tk Q E, Inv c F W h → Began c F W tg ds Q → wpAny (model prog c.w) c.A (eval e c.env) (fun v s => wpAny (model prog c.w) c.A (pyIter v) Q E s) E (St c.s₀ h tk)
theorem Its.of {tg e : Expr} {d : Dt} {ds : List Dt} (he : Ev c F e d) (hv : Itv tg d ds) : Its c F tg e ds := fun W h tk Q E I hQ =>
  he W W h tk _ E (Sub.refl _) I fun v W' h1 tk1 F' I1 hs1 r => by
    obtain ⟨rfl, r⟩ := r
    exact hv c F' v W' h1 tk1 Q E I1 r fun It os S h' tk' I2 s0 P hk hle hsz => hQ It os S W' h1 h' tk' I1 hs1 I2 s0 P hk hle hsz
theorem letOwned_no {A : Around} {E : Value → Shared → Prop} {s : Shared} {M : Model} {target : Expr} {I : Addr} {v : Value} {T : String} {Q : Unit → Shared → Prop} (hT : ownsTuple.contains T = false) (ho : ∃ o, s.heap.get? I = some o ∧ o.cls = .type T) (hQ : Q () s) :
    wpAny M A (letOwnedTupleGo target (.ref I) v) Q E s := by
  obtain ⟨o, ho, hc⟩ := ho
  have key : wpAny M A (match (Value.ref I, v) with
    | (.ref r, .ref a) => (do
      let o ← load r
      match o.cls, o.data with
      | .type n, .fields vs =>
        if ["enumerate", "zip", "dict_itemiterator", "dict_reverseitemiterator", "odict_iterator", "itertools.zip_longest", "itertools.pairwise"].contains n && vs[0]? == some (rawInt a) then
          rule "for.unpacks-the-owned-tuple"
          updateField r 0 .none
      | _, _ => pure () : Sem Unit)
    | _ => pure ()) Q E s := by
    cases v <;> first | exact wpAny_pure hQ | skip
    refine wpAny_bind (wpAny_load ho ?_)
    obtain ⟨cl, dd, dt, sl⟩ := o
    simp only at hc; subst hc
    cases dt <;> first | exact wpAny_pure hQ | skip
    dsimp only
    have : (["enumerate", "zip", "dict_itemiterator", "dict_reverseitemiterator", "odict_iterator", "itertools.zip_longest", "itertools.pairwise"].contains T) = false := hT
    rw [this]
    exact wpAny_pure hQ
  unfold letOwnedTupleGo
  split
  · exact key
  · exact key
  · exact wpAny_pure hQ
theorem Pul.of_walks {w : World} {I : Addr} {T : String} {tg : Expr} {ds : List Dt} {fp : List Addr} {P : Nat → Value → Prop} {Stt : Nat → Heap → Prop} (hw : ∀ A : Around, A.handled = none → Walks prog w A I fp [I] ds.length P Stt)
    (hP : ∀ i v W', Sub W W' → P i v → ∃ d, ds[i]? = some d ∧ Rep W' v d) (hT : ownsTuple.contains T = false) (ty : ∀ i h, Stt i h → ∃ o, h.get? I = some o ∧ o.cls = .type T) (hfp : ∀ b ∈ fp, b = I ∨ ∃ o, W b = some o) :
    Pul w W I tg ds (fun i os => ∃ o, os = [(I, o)] ∧ ∀ h : Heap, h.get? I = some o → (∀ b o, W b = some o → h.get? b = some o) → Stt i h) where
  item := fun c i os F W2 h tk Q E hcw hi st I2 hs hQ => by
    subst hcw
    obtain ⟨o, rfl, st⟩ := st
    have st2 := st h (I2.hid (I, o) (.head _)).1 fun b o e => I2.keep b o (hs b o e)
    refine wpAny_with_toks (n := 1) (show 1 ≤ tk + 1 from Nat.le_add_left 1 tk) ?_
    refine (hw c.A c.hh).item i (Mine.St c.s₀ h tk) _ _ hi st2 fun v h4 tk4 hv st4 hk4 => ?_
    intro htk
    obtain ⟨tk4, rfl⟩ : ∃ k, tk4 = k + 1 := ⟨tk4 - 1, (Nat.sub_add_cancel (show 1 ≤ tk4 from htk)).symm⟩
    obtain ⟨d, hd, r4⟩ := hP i v W2 hs hv
    obtain ⟨o4, ho4, hc4⟩ := ty _ _ st4
    have I4 : Inv (c.hides [(I, o4)]) F W2 h4 := I2.turned rfl (fun b o hb e => hk4 b o (by simpa using hb) e) (fun p hp => by rw [List.mem_singleton] at hp; subst hp; exact ho4)
    refine letOwned_no (s := Mine.St c.s₀ h4 tk4) hT ⟨o4, ho4, hc4⟩ ?_
    refine hQ v d [(I, o4)] W2 h4 tk4 hd ⟨o4, rfl, fun h5 e5 k5 => ?_⟩ I4 (Sub.refl _) r4
    refine (hw c.A c.hh).frame _ _ _ st4 fun b hb o e => ?_
    rcases hfp b hb with rfl | ⟨ob, hob⟩
    · rw [ho4] at e; cases e; exact e5
    · have e1 := I4.keep b ob (hs _ _ hob)
      rw [e] at e1; cases e1
      exact k5 b o hob
  done := fun c os F W2 h tk Q E hcw st I2 hs hQ => by
    subst hcw
    obtain ⟨o, rfl, st⟩ := st
    refine wpAny_with_toks (n := 1) (show 1 ≤ tk + 1 from Nat.le_add_left 1 tk) ?_
    refine (hw c.A c.hh).done (Mine.St c.s₀ h tk) _ _ (st h (I2.hid (I, o) (.head _)).1 fun b o e => I2.keep b o (hs b o e)) fun h4 tk4 hk4 => ?_
    intro htk
    obtain ⟨tk4, rfl⟩ : ∃ k, tk4 = k + 1 := ⟨tk4 - 1, (Nat.sub_add_cancel (show 1 ≤ tk4 from htk)).symm⟩
    exact hQ h4 tk4 (I2.dropped fun b o hb e => hk4 b o (by simpa using hb) e)
  self := fun c os F W2 h tk Q E hcw st I2 hs hQ => by
    subst hcw
    obtain ⟨o, rfl, st⟩ := st
    exact (hw c.A c.hh).self 0 (Mine.St c.s₀ h tk) _ _ (st h (I2.hid (I, o) (.head _)).1 fun b o e => I2.keep b o (hs b o e)) hQ
theorem Reps.getd {W W' : Fz} {vs : Array Value} {ds : List Dt} (r : Reps W vs.toList ds) (hs : Sub W W') {i : Nat} {v : Value} (e : vs[i]? = some v) : ∃ d, ds[i]? = some d ∧ Rep W' v d :=
  Reps.get (r.mono hs) (by rw [Array.getElem?_toList]; exact e)
theorem Itv.lst {ds : List Dt} {tg : Expr} : Itv tg (.lst ds) ds := fun c F v W h tk Q E I r hQ => by
  cases r with
  | @lst a vs n ds e r =>
    have hl : vs.size = ds.length := by rw [← r.length, Array.length_toList]
    have hk := I.keep _ _ e
    have hne : a ≠ h.objs.size := Nat.ne_of_lt (Heap.lt_size hk)
    refine wpAny_pyIter_list (s := Mine.St c.s₀ h tk) (items := vs) ⟨_, hk, rfl, n, rfl⟩ (hQ h.objs.size [(h.objs.size, _)] _ _ tk (I.push_hid _ rfl) ?_
      (Pul.of_walks (T := "list_iterator") (fp := [h.objs.size, a]) (P := fun i v => vs[i]? = some v) (Stt := fun i h' => h'.IsListIter h.objs.size a i ∧ h'.IsList a vs)
        (fun A hh => hl ▸ Walks.list (prog := prog) (w := c.w) hh h.objs.size a hne vs) (fun i v W' hs hv => r.getd hs hv) (by decide) ?_ ?_) (fun b o e => Heap.get?_push_of_some _ e) (by rw [Heap.size_push]; exact Nat.le_succ _) (by simp))
    · exact ⟨_, rfl, fun h5 e5 k5 => ⟨⟨_, e5, rfl, rfl⟩, ⟨_, k5 _ _ e, rfl, n, rfl⟩⟩⟩
    · rintro i h ⟨⟨o, ho, hc, _⟩, _⟩; exact ⟨o, ho, hc⟩
    · intro b hb
      rcases List.mem_cons.mp hb with rfl | hb
      · exact .inl rfl
      · rw [List.mem_singleton] at hb; subst hb; exact .inr ⟨_, e⟩
theorem Itv.tup {ds : List Dt} {tg : Expr} : Itv tg (.tup ds) ds := fun c F v W h tk Q E I r hQ => by
  cases r with
  | @tup a vs n ds e r =>
    have hl : vs.size = ds.length := by rw [← r.length, Array.length_toList]
    have hk := I.keep _ _ e
    have hne : a ≠ h.objs.size := Nat.ne_of_lt (Heap.lt_size hk)
    refine wpAny_pyIter_tuple (s := Mine.St c.s₀ h tk) (items := vs) ⟨_, hk, rfl, n, rfl⟩ (hQ h.objs.size [(h.objs.size, _)] _ _ tk (I.push_hid _ rfl) ?_
      (Pul.of_walks (T := "tuple_iterator") (fp := [h.objs.size, a]) (P := fun i v => vs[i]? = some v) (Stt := fun i h' => h'.IsTupleIter h.objs.size a i ∧ h'.IsTuple a vs)
        (fun A hh => hl ▸ Walks.tuple (prog := prog) (w := c.w) hh h.objs.size a hne vs) (fun i v W' hs hv => r.getd hs hv) (by decide) ?_ ?_) (fun b o e => Heap.get?_push_of_some _ e) (by rw [Heap.size_push]; exact Nat.le_succ _) (by simp))
    · exact ⟨_, rfl, fun h5 e5 k5 => ⟨⟨_, e5, rfl, rfl⟩, ⟨_, k5 _ _ e, rfl, n, rfl⟩⟩⟩
    · rintro i h ⟨⟨o, ho, hc, _⟩, _⟩; exact ⟨o, ho, hc⟩
    · intro b hb
      rcases List.mem_cons.mp hb with rfl | hb
      · exact .inl rfl
      · rw [List.mem_singleton] at hb; subst hb; exact .inr ⟨_, e⟩
end
end
end
section
open PySem PySem.W PySem.Calls PyProof.Rows PySem.Spec
set_option Elab.async false
set_option maxRecDepth 100000
set_option linter.unusedVariables false
set_option linter.unusedSimpArgs false
section
theorem lookup_app {β : Type} {x : Str} : ∀ (l l' : List (Str × β)), (l ++ l').lookup x = (l.lookup x).or (l'.lookup x)
  | [], l' => by simp
  | (y, b) :: l, l' => by
    rw [List.cons_append, List.lookup_cons, List.lookup_cons, lookup_app l l']
    cases x == y <;> simp
theorem zip_look {W : Fz} {x : Str} {d : Dt} {names : List Str} {vs : List Value} {ds : List Dt} (h : Reps W vs ds) (e : (names.zip ds).reverse.lookup x = some d) : ∃ v, (names.zip vs).reverse.lookup x = some v ∧ Rep W v d := by
  induction ds generalizing vs names with
  | nil => rw [List.zip_nil_right] at e; cases e
  | cons d' ds ih =>
    obtain ⟨v, vs, rfl, r, rs⟩ := h.inv
    cases names with
    | nil => cases e
    | cons y names =>
    rw [List.zip_cons_cons, List.reverse_cons, lookup_app] at e ⊢
    cases q : (names.zip ds).reverse.lookup x with
    | some d2 =>
      rw [q] at e; cases e
      obtain ⟨v2, a, b⟩ := ih rs q
      exact ⟨v2, by rw [a]; rfl, b⟩
    | none =>
      rw [q] at e
      have q2 : (names.zip vs).reverse.lookup x = none := by
        rw [List.lookup_eq_none_iff] at q ⊢
        intro p hp
        rw [List.mem_reverse] at hp
        have hm := (List.of_mem_zip (show (p.1, p.2) ∈ names.zip vs from hp)).1
        have hl : vs.length = ds.length := rs.length
        obtain ⟨i, hi, e1⟩ := List.mem_iff_getElem.mp hp
        have hi2 : i < (names.zip ds).length := by rw [List.length_zip] at hi ⊢; omega
        have := q ((names.zip ds)[i]) (List.mem_reverse.mpr (List.getElem_mem hi2))
        rw [List.getElem_zip] at this
        rw [← e1, List.getElem_zip]
        exact this
      rw [q2]
      have e' : [(y, d')].lookup x = some d := e
      rw [List.lookup_cons] at e'
      show ∃ w, [(y, v)].lookup x = some w ∧ Rep W w d
      rw [List.lookup_cons]
      cases hb : x == y <;> rw [hb] at e' <;> simp at e'
      subst e'
      exact ⟨v, rfl, r⟩
noncomputable def Rt (d : Dt) : Fl → Frame → Prop := fun f _ => f = .ret d ∨ (f = .next ∧ d = .none)
theorem vs_cons {P : List Value → Prop} {n : Nat} (h : ∀ a vs, vs.length = n → P (a :: vs)) : ∀ vs : List Value, vs.length = n + 1 → P vs := fun vs e => by
  cases vs with
  | nil => cases e
  | cons a vs => exact h a vs (Nat.succ.inj e)
theorem vs1 {P : List Value → Prop} (h : ∀ a, P [a]) : ∀ vs : List Value, vs.length = 1 → P vs :=
  vs_cons fun a vs e => List.length_eq_zero_iff.mp e ▸ h a
theorem vs2 {P : List Value → Prop} (h : ∀ a b, P [a, b]) : ∀ vs : List Value, vs.length = 2 → P vs :=
  vs_cons fun a => vs1 (P := fun vs => P (a :: vs)) (h a)
theorem vs3 {P : List Value → Prop} (h : ∀ a b c, P [a, b, c]) : ∀ vs : List Value, vs.length = 3 → P vs :=
  vs_cons fun a => vs2 (P := fun vs => P (a :: vs)) (h a)
theorem Cal.fnB {w : World} {f : Addr} {fd : FuncData} {body : List Stmt} {names : List Str} {n : Nat} {ds : List Dt} {d : Dt} {oc : Value} {od : Option Addr} {osl : Array (Option Value)}
    (hK : (Mine.hd.heap_1 w.params).lookup f = some ⟨oc, od, .func fd, osl⟩) (hcode : codeIn (Mine.hd.heap_1 w.params) fd.code fd.qualname = true) (hbody : fd.body = .stmts body)
    (hbind : ∀ vs : List Value, vs.length = names.length → bindArgs fd ⟨vs, []⟩ = Pure.pure (names.zip vs)) (hcell : ∀ x ∈ fd.scope.names, x.2 ≠ .cell) (hloc : ∀ x ∈ names, fd.scope.names.lookup x = some .local)
    (hco : fd.scope.isCoroutine = false) (hgen : fd.scope.isGenerator = false) (hk : fd.scope.kind = .function) (hgl : fd.globals = mainGlobals) (hbi : fd.builtins = builtinsNs) (hlen : ds.length = names.length) {vars : List (Str × Dt)} (hvars : (names.zip ds).reverse = vars)
    (h : ∀ c : Cx, c.w = w → c.k = n → c.env.scope = fd.scope → c.bor = [] → Tr c ⟨vars, []⟩ body (Rt d)) : Cal w (.ref f) (n + 1) ds d := fun c F W₁ vs hw hn hr W hp tk Q E hs I hQ => by
  subst hvars
  subst hw
  obtain ⟨p, l, me, mg, mb, X, T, h1, h2⟩ := I.wd.at I.keep
  have hlv : vs.length = names.length := hr.length.trans hlen
  refine wpAny_call ?_
  refine codeAny_call_def (s := St c.s₀ hp tk) (fd := fd) (body := body) (binds := names.zip vs) (by have := c.room.1; omega) (X _ _ hK) rfl T.nolimit (codeRec_of X hcode) hbody (.of_eq (hbind vs hlv)) hcell
    (fun x hx => hloc _ (List.of_mem_zip (show (x.1, x.2) ∈ names.zip vs from hx)).1) (fun h0 hns hk0 => ?_) hco hgen hk
  let c' : Cx := { w := c.w, s₀ := St c.s₀ hp tk, W₀ := W, bor := [], hid := [], L := hp.objs.size, A := c.A.deeper (callEnv fd hp.objs.size f), env := callEnv fd hp.objs.size f, k := n,
                   hk := hk, hL := rfl, hg := hgl, hb := hbi, hh := c.hh,
                   room := by
                     have := c.room
                     refine ⟨?_, ?_⟩
                     · show c.A.depth + 1 + n < _; omega
                     · show c.A.units + 3 + 8 * n + 4 < _; omega }
  have I' : Inv c' ⟨(names.zip ds).reverse, []⟩ W h0 := {
    wd := I.wd
    vars := ⟨_, hns, fun x d e => zip_look (hr.mono hs) e⟩
    base := fun b o _ e => hk0 b o e
    sub := Sub.refl _
    keep := fun b o e => hk0 b o (I.keep b o e)
    new := fun b o e => .inl e
    hL := Nat.le_refl _
    wL := I.none_size
    own := fun p hp => nomatch hp
    ads := fun a ha => by simp [Frame.ads] at ha
    nd := by simp [Frame.ads]
    bor := fun a ha => nomatch ha
    hid := fun p hp => nomatch hp
    hnd := List.nodup_nil }
  have eT : (St c.s₀ hp tk).toks + (names.zip vs).length = tk + (names.zip vs).length + 1 := by show tk + 1 + _ = _; omega
  rw [eT]
  refine h c' rfl rfl rfl rfl W W h0 (tk + (names.zip vs).length) _ _ (Sub.refl _) I' fun fl W' h' tk' F' I2 hs2 hp2 => ?_
  have I3 : Inv c F W' h' := I.grow hs2 (fun b o e => I2.base b o (fun q => nomatch q) e) I2.keep fun b o e => I2.new b o e
  obtain ⟨f', hf, hr'⟩ := hp2
  rcases hr' with rfl | ⟨rfl, rfl⟩
  · cases fl <;> first | exact hf.elim | skip
    exact hQ _ W' h' tk' F I3 hs2 ⟨rfl, hf⟩
  · cases fl <;> first | exact hf.elim | skip
    exact hQ _ W' h' tk' F I3 hs2 ⟨rfl, .none⟩
theorem Cal.fn {w : World} {f : Addr} {fd : FuncData} {body : List Stmt} {names : List Str} {n : Nat} {ds : List Dt} {d : Dt} {oc : Value} {od : Option Addr} {osl : Array (Option Value)}
    (hK : (Mine.hd.heap_1 w.params).lookup f = some ⟨oc, od, .func fd, osl⟩) (hcode : codeIn (Mine.hd.heap_1 w.params) fd.code fd.qualname = true) (hbody : fd.body = .stmts body)
    (hbind : ∀ vs : List Value, vs.length = names.length → bindArgs fd ⟨vs, []⟩ = Pure.pure (names.zip vs)) (hcell : ∀ x ∈ fd.scope.names, x.2 ≠ .cell) (hloc : ∀ x ∈ names, fd.scope.names.lookup x = some .local)
    (hco : fd.scope.isCoroutine = false) (hgen : fd.scope.isGenerator = false) (hk : fd.scope.kind = .function) (hgl : fd.globals = mainGlobals) (hbi : fd.builtins = builtinsNs) (hlen : ds.length = names.length) {vars : List (Str × Dt)} (hvars : (names.zip ds).reverse = vars)
    (h : ∀ c : Cx, c.w = w → c.k = n → c.env.scope = fd.scope → Tr c ⟨vars, []⟩ body (Rt d)) : Cal w (.ref f) (n + 1) ds d :=
  Cal.fnB hK hcode hbody hbind hcell hloc hco hgen hk hgl hbi hlen hvars fun c a b d _ => h c a b d
end
end
section
open PySem PySem.W PySem.Calls PyProof.Rows PySem.Spec
set_option Elab.async false
set_option maxRecDepth 100000
set_option linter.unusedVariables false
set_option linter.unusedSimpArgs false
section
noncomputable def TyD (d : Dt) (T : String) : Prop := ∀ W v, Rep W v d → ∀ s : Shared, (∀ b o, W b = some o → s.heap.get? b = some o) → s.TypeIs v T
theorem TyD.int (i) : TyD (.int i) "int" := fun W v r s _ => by cases r; exact typeIs_int s _ _
theorem TyD.str (i) : TyD (.str i) "str" := fun W v r s _ => by cases r; exact typeIs_str s _ _
theorem TyD.bytes (i) : TyD (.bytes i) "bytes" := fun W v r s _ => by cases r; rfl
theorem TyD.tup (i) : TyD (.tup i) "tuple" := fun W v r s k => by
  cases r with | tup e r => exact ⟨_, k _ _ e, rfl⟩
theorem TyD.lst (i) : TyD (.lst i) "list" := fun W v r s k => by
  cases r with | lst e r => exact ⟨_, k _ _ e, rfl⟩
theorem TyD.dic (i) : TyD (.dic i) "dict" := fun W v r s k => by
  cases r with | dic e r _ => exact ⟨_, k _ _ e, rfl⟩
section
theorem Bop.add_int (a b : Int) : Bop .Add (.int a) (.int b) (.int (a + b)) := fun c F W₁ x y hx hy => by
  cases hx; cases hy
  exact Go.fresh_val fun W h tk Q E hs I hQ => PySem.P.add_int (hQ _ _ (.int _ _))
theorem Bop.sub_int (a b : Int) : Bop .Sub (.int a) (.int b) (.int (a - b)) := fun c F W₁ x y hx hy => by
  cases hx; cases hy
  exact Go.fresh_val fun W h tk Q E hs I hQ => PySem.P.sub_int (hQ _ _ (.int _ _))
theorem Bop.mul_int (a b : Int) (h : IntMulOk a b) : Bop .Mult (.int a) (.int b) (.int (a * b)) := fun c F W₁ x y hx hy => by
  cases hx; cases hy
  exact Go.fresh_val fun W h tk Q E hs I hQ => PySem.P.mul_int (hQ _ _ (.int _ _)) ‹_›
theorem Bop.mod_int (a b : Int) (h : b ≠ 0) : Bop .Mod (.int a) (.int b) (.int (a.fmod b)) := fun c F W₁ x y hx hy => by
  cases hx; cases hy
  exact Go.fresh_val fun W h tk Q E hs I hQ => PyProof.Rows.mod_int' ‹_› (hQ _ _ (.int _ _))
theorem Bop.div_int (a b : Int) (h : b ≠ 0) (hp : Builtin.divisionGoesByPylong a b = false := by exact PyProof.noPylong_of_log2 (by decide +kernel)) : Bop .FloorDiv (.int a) (.int b) (.int (a.fdiv b)) := fun c F W₁ x y hx hy => by
  cases hx; cases hy
  exact Go.fresh_val fun W h tk Q E hs I hQ => PyProof.Rows.floordiv_int ‹b ≠ 0› (hQ _ _ (.int _ _)) (.inl hp)
theorem Bop.add_str (a b : Str) (h : a.length + b.length ≤ 1000000) : Bop .Add (.str a) (.str b) (.str (a ++ b)) := fun c F W₁ x y hx hy => by
  (replace hx := Rep.str_inv hx; obtain ⟨t, rfl⟩ := hx)
  (replace hy := Rep.str_inv hy; obtain ⟨u, rfl⟩ := hy)
  refine Go.fresh_val fun W hp tk Q E hs I hQ => PySem.P.add_str ?_
  have e1 : (a.length == 0) = true → a ++ b = b := fun h => by
    have : a.cps = #[] := Array.eq_empty_of_size_eq_zero (by simpa [Str.length] using h)
    cases a; cases b; simp only at this; subst this; show Str.mk _ = _; simp
  have e2 : (b.length == 0) = true → a ++ b = a := fun h => by
    have : b.cps = #[] := Array.eq_empty_of_size_eq_zero (by simpa [Str.length] using h)
    cases a; cases b; simp only at this; subst this; show Str.mk _ = _; simp
  split
  · rename_i q; have := hQ (.str b u) tk (by have r := Rep.str (W := W) b u; rw [e1 q]; exact r); exact this
  · split
    · rename_i q; have := hQ (.str a t) tk (by have r := Rep.str (W := W) a t; rw [e2 q]; exact r); exact this
    · refine ⟨?_, hQ _ _ (.str _ _)⟩
      rw [Str.length_append]; exact Nat.le_trans h (by decide)
theorem Cop.eq_int (a b : Int) : Cop .Eq (.int a) (.int b) (a == b) := fun c F W₁ x y hx hy => by
  cases hx; cases hy
  exact Go.fresh_val fun W h tk Q E hs I hQ => PySem.P.eq_int (hQ _ _ (.bool _))
theorem Cop.ne_int (a b : Int) : Cop .NotEq (.int a) (.int b) (a != b) := fun c F W₁ x y hx hy => by
  cases hx; cases hy
  exact Go.fresh_val fun W h tk Q E hs I hQ => PySem.P.ne_int (hQ _ _ (.bool _))
theorem Cop.lt_int (a b : Int) : Cop .Lt (.int a) (.int b) (decide (a < b)) := fun c F W₁ x y hx hy => by
  cases hx; cases hy
  exact Go.fresh_val fun W h tk Q E hs I hQ => PySem.P.lt_int (hQ _ _ (.bool _))
theorem Cop.le_int (a b : Int) : Cop .LtE (.int a) (.int b) (decide (a ≤ b)) := fun c F W₁ x y hx hy => by
  cases hx; cases hy
  exact Go.fresh_val fun W h tk Q E hs I hQ => PySem.P.le_int (hQ _ _ (.bool _))
theorem Cop.gt_int (a b : Int) : Cop .Gt (.int a) (.int b) (decide (a > b)) := fun c F W₁ x y hx hy => by
  cases hx; cases hy
  exact Go.fresh_val fun W h tk Q E hs I hQ => PySem.P.gt_int (hQ _ _ (.bool _))
theorem Cop.ge_int (a b : Int) : Cop .GtE (.int a) (.int b) (decide (a ≥ b)) := fun c F W₁ x y hx hy => by
  cases hx; cases hy
  exact Go.fresh_val fun W h tk Q E hs I hQ => PySem.P.ge_int (hQ _ _ (.bool _))
noncomputable def sLt (a b : Str) : Bool := decide (a.cps.toList < b.cps.toList)
noncomputable def sEq (a b : Str) : Bool := a.cps.toList == b.cps.toList
theorem Cop.lt_str (a b : Str) : Cop .Lt (.str a) (.str b) (sLt a b) := fun c F W₁ x y hx hy => by
  cases hx; cases hy
  exact Go.fresh_val fun W h tk Q E hs I hQ => PySem.P.lt_str (hQ _ _ (.bool _))
theorem Cop.gt_str (a b : Str) : Cop .Gt (.str a) (.str b) (sLt b a) := fun c F W₁ x y hx hy => by
  cases hx; cases hy
  exact Go.fresh_val fun W h tk Q E hs I hQ => PySem.P.gt_str (hQ _ _ (.bool _))
theorem Cop.eq_str (a b : Str) : Cop .Eq (.str a) (.str b) (sEq a b) := fun c F W₁ x y hx hy => by
  cases hx; cases hy
  exact Go.fresh_val fun W h tk Q E hs I hQ => PySem.P.eq_str (hQ _ _ (.bool _))
theorem Cop.ne_str (a b : Str) : Cop .NotEq (.str a) (.str b) (!sEq a b) := fun c F W₁ x y hx hy => by
  cases hx; cases hy
  exact Go.fresh_val fun W h tk Q E hs I hQ => PySem.P.ne_str (hQ _ _ (.bool _))
theorem Cop.eq_bool (a b : Bool) : Cop .Eq (.bool a) (.bool b) (a == b) := fun c F W₁ x y hx hy => by
  cases hx; cases hy
  exact Go.fresh_val fun W h tk Q E hs I hQ => PyProof.Rows.eq_bool (hQ _ _ (.bool _))
theorem toks_up {s : Shared} {h : Heap} {k : Nat} {Q : Shared → Prop} (hk : 1 ≤ k) (hq : ∀ k', Q (St s h k')) : Q { s with heap := h, toks := k } := by
  obtain ⟨j, rfl⟩ : ∃ j, k = j + 1 := ⟨k - 1, (Nat.sub_add_cancel hk).symm⟩
  exact hq j
noncomputable def isNoneD : Dt → Bool
  | .none => true
  | _ => false
theorem isNone_rep {W : Fz} {v : Value} {d : Dt} (r : Rep W v d) (h : ∀ v, d ≠ .val v) : (v == .none) = isNoneD d := by
  cases r <;> first | rfl | exact absurd rfl (h _)
theorem Cop.is_none (d : Dt) (hd : ∀ v, d ≠ .val v) : Cop .Is d .none (isNoneD d) := fun c F W₁ x y hx hy => by
  cases hy
  refine Go.fresh_val fun W h tk Q E hs I hQ => PySem.is_none ?_
  rw [isNone_rep hx hd]; exact hQ _ _ (.bool _)
theorem Cop.isNot_none (d : Dt) (hd : ∀ v, d ≠ .val v) : Cop .IsNot d .none (!isNoneD d) := fun c F W₁ x y hx hy => by
  cases hy
  refine Go.fresh_val fun W h tk Q E hs I hQ => PySem.isNot_none ?_
  rw [isNone_rep hx hd]; exact hQ _ _ (.bool _)
theorem Cal.isi_str_str {w n} (x : Str) : Cal w (.builtin "isinstance") n [.str x, .val (.type "str")] (.bool true) := fun c F W₁ vs _ _ r => by
  (replace r := Reps.cons_inv r; obtain ⟨_, _, rfl, r, rs⟩ := r)
  (replace r := Rep.str_inv r; obtain ⟨t, rfl⟩ := r)
  (replace rs := Reps.cons_inv rs; obtain ⟨_, _, rfl, r, rs⟩ := rs)
  cases rs; cases r
  exact Go.fresh_val fun W h tk Q E hs I hQ => PySem.IsiPair.str_str (hQ _ _ (.bool _))
theorem Cal.isi_tup_str {w n} (ds : List Dt) : Cal w (.builtin "isinstance") n [.tup ds, .val (.type "str")] (.bool false) := fun c F W₁ vs _ _ r => by
  (replace r := Reps.cons_inv r; obtain ⟨_, _, rfl, r, rs⟩ := r)
  (replace r := Rep.tup_inv r; obtain ⟨_, _, _, rfl, e, r⟩ := r)
  (replace rs := Reps.cons_inv rs; obtain ⟨_, _, rfl, r, rs⟩ := rs)
  cases rs; cases r
  exact Go.fresh_val fun W h tk Q E hs I hQ => PySem.IsiPair.tuple_str (s := St c.s₀ h tk) (I.keep _ _ (hs _ _ e)) rfl (hQ _ _ (.bool _))
theorem Cal.isi_int_tuple {w n} (i : Int) : Cal w (.builtin "isinstance") n [.int i, .val (.type "tuple")] (.bool false) := fun c F W₁ vs _ _ r => by
  (replace r := Reps.cons_inv r; obtain ⟨_, _, rfl, r, rs⟩ := r)
  (replace r := Rep.int_inv r; obtain ⟨t, rfl⟩ := r)
  (replace rs := Reps.cons_inv rs; obtain ⟨_, _, rfl, r, rs⟩ := rs)
  cases rs; cases r
  exact Go.fresh_val fun W h tk Q E hs I hQ => PySem.IsiPair.int_tuple (hQ _ _ (.bool _))
theorem Go.grown {c : Cx} {F : Frame} {W₁ : Fz} {t : Sem Value} {d : Dt} (h : ∀ W h tk Q E, Sub W₁ W → Inv c F W h → (∀ v h' tk', (∀ b o, h.get? b = some o → h'.get? b = some o) → Rep W v d → Q v (St c.s₀ h' tk')) → wpAny (model prog c.w) c.A t Q E (St c.s₀ h tk)) : Go c F W₁ t (Is F d) :=
  fun W hp tk Q E hs I hQ => h W hp tk Q E hs I fun v h' tk' hk r => hQ v W h' tk' F (I.grow (Sub.refl _) hk (fun b o e => hk _ _ (I.keep _ _ e)) fun b o e => .inl e) (Sub.refl _) ⟨rfl, r⟩
theorem Cal.max_int {w n} (a b : Int) : Cal w (.builtin "max") n [.int a, .int b] (.int (if b > a then b else a)) := fun c F W₁ vs _ _ r => by
  (replace r := Reps.cons_inv r; obtain ⟨_, _, rfl, r, rs⟩ := r)
  (replace r := Rep.int_inv r; obtain ⟨t, rfl⟩ := r)
  (replace rs := Reps.cons_inv rs; obtain ⟨_, _, rfl, r, rs⟩ := rs)
  cases rs
  (replace r := Rep.int_inv r; obtain ⟨u, rfl⟩ := r)
  refine Go.grown fun W h tk Q E hs I hQ => wpAny_with_toks (n := 1) (show 1 ≤ tk + 1 from Nat.le_add_left 1 tk) (max_two_ints (s := St c.s₀ h tk) c.hh fun h' tk' hk => ?_)
  intro htk
  obtain ⟨tk', rfl⟩ : ∃ k, tk' = k + 1 := ⟨tk' - 1, (Nat.sub_add_cancel (show 1 ≤ tk' from htk)).symm⟩
  refine hQ _ h' tk' hk ?_
  split <;> constructor
theorem Cal.str_int {w n} (a : Int) (h : a.natAbs.log2 < 1920) : Cal w (.type "str") n [.int a] (.str (Str.ofString (toString a))) := fun c F W₁ vs _ _ r => by
  (replace r := Reps.cons_inv r; obtain ⟨_, _, rfl, r, rs⟩ := r)
  (replace r := Rep.int_inv r; obtain ⟨t, rfl⟩ := r)
  cases rs
  exact Go.fresh_val fun W h tk Q E hs I hQ => PySem.P.str_of_int ‹_› (hQ _ _ (.str _ _))
end
theorem len_colon : (Str.ofString ":").length = 1 := rfl
theorem len_lpar : (Str.ofString "(").length = 1 := rfl
theorem len_rpar : (Str.ofString ")").length = 1 := rfl
theorem len_tab : (Str.ofString "\t").length = 1 := rfl
theorem len_stab : (Str.ofString " \t").length = 2 := rfl
theorem len_sp : (Str.ofString " ").length = 1 := rfl
theorem len_lbr : (Str.ofString "{").length = 1 := rfl
theorem len_rbr : (Str.ofString "}").length = 1 := rfl
theorem len_quo : (Str.ofString "\"").length = 1 := rfl
theorem len_rpq : (Str.ofString ")\"").length = 2 := rfl
theorem len_lt : (Str.ofString "<").length = 1 := rfl
theorem len_gt : (Str.ofString ">").length = 1 := rfl
theorem len_empty : (Str.ofString "").length = 0 := rfl
theorem len_tilde : (Str.ofString "~").length = 1 := rfl
theorem lens : (Str.ofString ":").length = 1 ∧ (Str.ofString "(").length = 1 ∧ (Str.ofString ")").length = 1 ∧ (Str.ofString "\t").length = 1 ∧ (Str.ofString " \t").length = 2 ∧ (Str.ofString " ").length = 1 ∧ (Str.ofString "{").length = 1 ∧ (Str.ofString "}").length = 1 ∧ (Str.ofString "\"").length = 1 ∧ (Str.ofString ")\"").length = 2 ∧ (Str.ofString "<").length = 1 ∧ (Str.ofString ">").length = 1 ∧ (Str.ofString "").length = 0 ∧ (Str.ofString "~").length = 1 := ⟨rfl, rfl, rfl, rfl, rfl, rfl, rfl, rfl, rfl, rfl, rfl, rfl, rfl, rfl⟩
noncomputable def Gi (d1 d2 d : Dt) : Prop := ∀ (c : Cx) (F : Frame) (W₁ : Fz) (a b : Value), Rep W₁ a d1 → Rep W₁ b d2 → Go c F W₁ (getItem a b) (Is F d)
section
variable {c : Cx} {F : Frame} {W₁ : Fz}
theorem wpAny_let_go {A : Around} {w : World} {s : Shared} {Q : Value → Shared → Prop} {E : Value → Shared → Prop} (h : Q .none s) : wpAny (model prog w) A (runValue (.builtin "proto.let_go" {})) Q E s := by
  refine wpAny_runValue (codeAny_builtin PySem.entry_let_go ?_)
  exact wpAny_pure h
theorem Go.letTemp {base : Expr} {o r : Value} {P : Unit → Fz → Frame → Prop} (h : ∀ W, Sub W₁ W → P () W F) : Go c F W₁ (letTemporaryGo base o r) P := fun W hp tk Q E hs I hQ => by
  have done := hQ () W hp tk F I (Sub.refl _) (h W hs)
  unfold letTemporaryGo
  split
  · exact wpAny_pure done
  · exact wpAny_bind (wpAny_holding (wpAny_let_go (wpAny_pure done)))
  · exact wpAny_pure done
theorem Ev.sub {value slice : Expr} {pos : Pos} {d1 d2 d : Dt} {T id : String} (h1 : Ev c F value d1) (h2 : Ev c F slice d2) (hT : TyD d1 T) (hl : typeLookup (.type T) "__getitem__" = Pure.pure (some (.builtin id))) (h : Gi d1 d2 d)
    (hs : ∀ o i, subscripted slice false o i = PySem.operate [o, i] (getItem o i) := by intro _ _; rfl) : Ev c F (.Subscript value slice pos) d := fun W₁ => by
  rw [eval_Subscript]
  refine Go.bind (h1 _) (isK fun o W hs1 r1 => ?_)
  refine Go.bind (Go.holding (h2 _)) (isK fun i W2 hs2 r2 => ?_)
  refine Go.at ?_
  have r1' := r1.mono hs2
  have hp : Go c F W2 (getitemInPython o) (fun r _ F' => F' = F ∧ r = false) := fun W h tk Q E hs3 I hQ => by
    have ht : (St c.s₀ h tk).TypeIs o T := hT _ _ (r1'.mono hs3) (St c.s₀ h tk) I.keep
    rw [getitemInPython_of_ne ht.not_modules]
    refine wpAny_bind (wpAny_specialOf ht hl ?_)
    have := hQ false W h tk F I (Sub.refl _) ⟨rfl, rfl⟩
    first | exact wpAny_pure this | exact wpAny_bind (wpAny_pure this)
  refine Go.bind hp (isK fun b W3 hs3 e => ?_)
  obtain rfl := e
  rw [hs]
  refine Go.bind (Go.operate (h c _ _ o i (r1'.mono hs3) (r2.mono hs3))) (isK fun r W4 hs4 r4 => ?_)
  refine Go.bind (Go.letTemp (P := fun _ _ F' => F' = F) fun _ _ => rfl) fun _ W5 F5 hs5 e => ?_
  subst e
  exact Go.pure fun _ hs6 => ⟨rfl, r4.mono (hs5.trans hs6)⟩
theorem Reps.at {W : Fz} {i : Nat} {d : Dt} : ∀ {vs ds}, Reps W vs ds → ds[i]? = some d → ∃ v, vs[i]? = some v ∧ Rep W v d := by
  induction i with
  | zero => intro vs ds r e; cases r with
    | nil => simp at e
    | cons a _ => simp at e; subst e; exact ⟨_, rfl, a⟩
  | succ i ih => intro vs ds r e; cases r with
    | nil => simp at e
    | cons _ b => simp at e; obtain ⟨v, h1, h2⟩ := ih b e; exact ⟨v, by simpa using h1, h2⟩
theorem Gi.tup {ds : List Dt} {k : Int} {j : Nat} {d : Dt} (hk : seqIndex? k ds.length = some j) (hd : ds[j]? = some d) (hlo : -(2 ^ 63) ≤ k := by decide) (hhi : k < 2 ^ 63 := by decide) : Gi (.tup ds) (.int k) d := fun c F W₁ a b ha hb => by
  obtain ⟨a, vs, n, rfl, e, r⟩ := Rep.tup_inv ha
  (replace hb := Rep.int_inv hb; obtain ⟨t, rfl⟩ := hb)
  refine Go.fresh_val fun W h tk Q E hs I hQ => ?_
  obtain ⟨v, hv, rv⟩ := Reps.at (r.mono hs) hd
  have hl : vs.size = ds.length := by rw [← r.length, Array.length_toList]
  exact getItem_tuple (s := St c.s₀ h tk) (items := vs) ⟨_, I.keep _ _ (hs _ _ e), rfl, n, rfl⟩ hlo hhi (by rw [hl]; exact hk) (by rw [← Array.getElem?_toList]; exact hv) (hQ _ _ rv)
theorem Gi.lst {ds : List Dt} {k : Int} {d : Dt} (hk : 0 ≤ k) (hd : ds[k.toNat]? = some d) (hhi : k < 2 ^ 63 := by decide) : Gi (.lst ds) (.int k) d := fun c F W₁ a b ha hb => by
  obtain ⟨a, vs, n, rfl, e, r⟩ := Rep.lst_inv ha
  (replace hb := Rep.int_inv hb; obtain ⟨t, rfl⟩ := hb)
  refine Go.fresh_val fun W h tk Q E hs I hQ => ?_
  obtain ⟨v, hv, rv⟩ := Reps.at (r.mono hs) hd
  exact wpAny_getItem_list (s := St c.s₀ h tk) (items := vs) ⟨_, I.keep _ _ (hs _ _ e), rfl, n, rfl⟩ hk hhi (by rw [← Array.getElem?_toList]; exact hv) (hQ _ _ rv)
end
end
end
section
open PySem PySem.W PySem.Calls PyProof.Rows PySem.Spec
set_option Elab.async false
set_option maxRecDepth 100000
set_option linter.unusedVariables false
set_option linter.unusedSimpArgs false
section
section
variable {c : Cx} {F : Frame} {W W₁ : Fz} {h : Heap}
theorem Inv.hide {a : Addr} {o : Obj} (I : Inv c F W h) (ho : h.get? a = some o) (h1 : a ≠ c.L) (h2 : W a = none) (h3 : a ∉ F.ads) (h4 : c.s₀.heap.objs.size ≤ a) (h5 : a ∉ c.hid.map Prod.fst) : Inv (c.hides [(a, o)]) F W h :=
  { wd := I.wd, vars := I.vars, base := I.base, sub := I.sub, keep := I.keep, new := I.new, hL := I.hL, wL := I.wL, own := I.own, ads := I.ads, nd := I.nd, bor := I.bor
    hid := fun p hp => by
      rcases List.mem_cons.mp hp with rfl | hp
      · exact ⟨ho, h1, h2, h3, h4⟩
      · exact I.hid p hp
    hnd := List.nodup_cons.mpr ⟨h5, I.hnd⟩ }
theorem Inv.forget (I : Inv c F W h) : Inv c ⟨[], F.own⟩ W h :=
  { wd := I.wd, vars := let ⟨m, hn, _⟩ := I.vars; ⟨m, hn, fun x d e => by simp at e⟩, base := I.base, sub := I.sub, keep := I.keep, new := I.new, hL := I.hL, wL := I.wL, own := I.own, ads := I.ads, nd := I.nd, bor := I.bor, hid := I.hid, hnd := I.hnd }
noncomputable def Fre (c : Cx) (x : Str) (d : Dt) : Prop := ∃ a v, c.env.cells.lookup x = some a ∧ c.s₀.heap.get? a = some { cls := .type "cell", data := .cell (some v) } ∧ a ∉ c.bor ∧ Rep c.W₀ v d
theorem Ev.free {x : Str} {pos : Pos} {d : Dt} {sc : Scope} (hs : c.env.scope = sc) (hx : sc.names.lookup x = some .cell) (hf : Fre c x d) (hd : (x == ("__debug__" : Str)) = false := by decide) : Ev c F (.Name x pos) d := fun W₁ => by
  refine Go.of_eq (eval_Name _ _ _ hd) ?_
  refine Go.at (Go.fresh_val fun W h tk Q E hW I hQ => ?_)
  obtain ⟨a, v, ha, hc, hb, r⟩ := hf
  exact wpAny_loadName_cell (s := St c.s₀ h tk) c.hk (kindOf_of hs hx) ha ⟨_, I.base _ _ hb hc, rfl⟩ (hQ v tk (r.mono I.sub))
end
theorem compTurn_list0 (elt target iter : Expr) (scope : Scope) (pos : Pos) (it acc : Value) (env : Env) :
    compTurn (.ListComp elt [⟨target, iter, [], 0⟩] scope pos) 0 it acc env = (standAt iter.pos >>= fun _ => pyNext it >>= fun r => match r with
      | none => Pure.pure (.done .next)
      | some v => letOwnedTupleGo target it v >>= fun _ => PySem.assign target env v >>= fun _ =>
        (eval elt env >>= fun x => call (.builtin "list.append") [acc, x] >>= fun _ => Pure.pure ()) >>= fun _ =>
          again (.compLoop (.ListComp elt [⟨target, iter, [], 0⟩] scope pos) 0 it acc env)) := by rfl
theorem codeAny_compLoop_any {prog : Program} {w : World} {A : Around} {R : Result → Shared → Prop} {s : Shared} {elt target iter : Expr} {scope : Scope} {pos : Pos} {it acc : Value} {env : Env} (I : Nat → Shared → Prop)
    (turn : ∀ n s, I n s → wpAny (model prog w) A (pyNext it) (fun r s₁ => match r with
      | none => R (.ok .next) s₁
      | some v => wpAny (model prog w) A (letOwnedTupleGo target it v) (fun _ s₁' => wpAny (model prog w) A (PySem.assign target env v) (fun _ s₂ => wpAny (model prog w) A (eval elt env) (fun x s₃ =>
          wpAny (model prog w) A (call (.builtin "list.append") [acc, x]) (fun _ s₄ => ∃ m, m < n ∧ I m s₄) (notedBy (model prog w) A env fun e s' => R (.error e) s') s₃)
          (notedBy (model prog w) A env fun e s' => R (.error e) s') s₂) (notedBy (model prog w) A env fun e s' => R (.error e) s') s₁') (notedBy (model prog w) A env fun e s' => R (.error e) s') s₁) (notedBy (model prog w) A env fun e s' => R (.error e) s') s)
    (n : Nat) (h : I n s) : codeAny (model prog w) A (.compLoop (.ListComp elt [⟨target, iter, [], 0⟩] scope pos) 0 it acc env) R s := by
  refine codeAny_loop rfl I (fun n s hI => ?_) n h
  refine wpAny_noted ?_
  rw [compTurn_list0]
  refine wpAny_bind (wpAny_standAt (wpAny_bind (wpAny_mono (turn n s hI) (fun r s₁ h₁ => ?_) fun _ _ h' => h')))
  cases r with
  | none => exact wpAny_pure h₁
  | some v =>
    exact wpAny_bind (wpAny_mono h₁ (fun _ s₁' h₁' => wpAny_bind (wpAny_mono h₁' (fun _ s₂ h₂ => wpAny_bind (wpAny_bind (wpAny_mono h₂ (fun x s₃ h₃ => wpAny_bind (wpAny_mono h₃
      (fun _ s₄ h₄ => wpAny_pure (wpAny_pure ⟨rfl, h₄⟩)) fun _ _ h' => h')) fun _ _ h' => h'))) fun _ _ h' => h')) fun _ _ h' => h')
structure CompIn (c ci : Cx) (scope : Scope) (cl : List (Str × Addr)) (F : Frame) (W : Fz) (h : Heap) : Prop where
  w : ci.w = c.w
  k : ci.k = c.k
  sc : ci.env.scope = relabel scope c.env
  cells : ci.env.cells = cl
  W₀ : ci.W₀ = W
  heap : ci.s₀.heap = h
  bor : ci.bor = []
  inv : Inv c F W h
theorem neA {a b : Nat} (h : a < b ∨ b < a) : @Ne Addr a b := fun e => by have e' : a = b := e; omega
theorem Reps.snoc {W : Fz} {v : Value} {d : Dt} (r : Rep W v d) : ∀ {vs ds}, Reps W vs ds → Reps W (vs ++ [v]) (ds ++ [d])
  | _, _, .nil => .cons r .nil
  | _, _, .cons a b => .cons a (Reps.snoc r b)
theorem list_append_own {prog : Program} {w : World} {A : Around} {E : Value → Shared → Prop} {s : Shared} {l : Addr} {items : Array Value} {n : Nat} {x : Value} {Q : Value → Shared → Prop} (hl : s.heap.get? l = some (lstO items n))
    (hQ : ∀ h' n', h'.get? l = some (lstO (items.push x) n') → Heap.SameBut l s.heap h' → Q .none { s with heap := h' }) (hsz : items.size ≤ sizeLine) :
    wpAny (model prog w) A (call (.builtin "list.append") [.ref l, x]) Q E s := by
  refine wpAny_list_append_plain (items := items) ⟨n, hl⟩ (fun h' hl' hs' => ?_) hsz
  obtain ⟨n', e⟩ := hl'
  exact hQ h' n' e hs'
theorem comp_loop {c : Cx} {W : Fz} {h : Heap} {elt target iter : Expr} {scope : Scope} {pos : Pos} {ds rs : List Dt} {It D : Addr} {S : Nat → List (Addr × Obj) → Prop} {R : Result → Shared → Prop} {os : List (Addr × Obj)} {n : Nat} {tk : Nat} {F0 : Frame}
    (I : Inv ((c.hides [(D, lstO #[] n)]).hides os) F0 W h) (hF : F0.own = []) (st : S 0 os) (hD : Pul c.w W It target ds S)
    (helt : ∀ ps (i : Nat) (d : Dt), ds[i]? = some d → ∃ F2 d', As (c.hides ps) ⟨[], []⟩ target d F2 ∧ Ev (c.hides ps) F2 elt d' ∧ F2.own = [] ∧ rs[i]? = some d') (hlen : rs.length = ds.length) (hsz : ds.length ≤ 100000)
    (hR : ∀ h' tk' W' vs n', Sub W W' → Inv (c.hides [(D, lstO vs n')]) ⟨[], []⟩ W' h' → Reps W' vs.toList rs → R (.ok .next) (St c.s₀ h' tk')) :
    codeAny (model prog c.w) c.A (.compLoop (.ListComp elt [⟨target, iter, [], 0⟩] scope pos) 0 (.ref It) (.ref D) c.env) R (St c.s₀ h tk) := by
  obtain ⟨JJ, hJJ⟩ : ∃ JJ : Nat → Shared → Prop, ∀ k s, JJ k s ↔ ∃ i F1 W2 h3 tk3 os3 vs n3, k = ds.length - i ∧ i ≤ ds.length ∧ s = Mine.St c.s₀ h3 tk3 ∧ Inv ((c.hides [(D, lstO vs n3)]).hides os3) F1 W2 h3 ∧ F1.own = [] ∧ Sub W W2 ∧ S i os3 ∧ Reps W2 vs.toList (rs.take i) := ⟨_, fun _ _ => Iff.rfl⟩
  refine codeAny_compLoop_any JJ (fun k s hI => ?_) ds.length ((hJJ _ _).mpr ⟨0, F0, W, h, tk, os, #[], n, rfl, Nat.zero_le _, rfl, I, hF, Sub.refl _, st, by simpa using Reps.nil⟩)
  replace hI := (hJJ _ _).mp hI
  obtain ⟨i, F1, W2, h3, tk3, os3, vs, n3, rfl, hi, rfl, I3, hF1, hs3, st3, hr3⟩ := hI
  by_cases hlt : i < ds.length
  · refine' wpAny_mono (hD.item (c.hides [(D, lstO vs n3)]) i os3 F1 W2 h3 tk3 ?cQ _ rfl hlt st3 I3 hs3 ?cA) ?cB fun _ _ h => h
    case cB =>
      intro r s₁ hr
      cases r with
      | none => exact hr.elim
      | some v => exact hr
    intro v d os4 W4 h4 tk4 hd st4 I4 hs4 r4
    obtain ⟨F2, d', ha, he, hF2, hd'⟩ := helt (os4 ++ [(D, lstO vs n3)]) i d hd
    have eC : c.hides (os4 ++ [(D, lstO vs n3)]) = (c.hides [(D, lstO vs n3)]).hides os4 := by simp [Cx.hides]
    rw [eC] at ha he
    have I4' : Inv ((c.hides [(D, lstO vs n3)]).hides os4) ⟨[], []⟩ W4 h4 := by have := I4.forget; rw [hF1] at this; exact this
    refine ha W4 v r4 W4 h4 tk4 _ _ (Sub.refl _) I4' fun _ W5 h5 tk5 F5 I5 hs5 e => ?_
    subst e
    refine he W5 W5 h5 tk5 _ _ (Sub.refl _) I5 (isQ fun x W6 h6 tk6 I6 hs6 r6 => ?_)
    have hDm : (D, lstO vs n3) ∈ ((c.hides [(D, lstO vs n3)]).hides os4).hid := List.mem_append_right _ (.head _)
    have hl6 := (I6.hid _ hDm).1
    have hvl : vs.size = i := by
      have := hr3.length
      rw [List.length_take, Array.length_toList] at this; omega
    refine list_append_own (s := Mine.St c.s₀ h6 tk6) hl6 (fun h7 n7 hl7 hs7 => ?_) (by rw [hvl]; exact Nat.le_trans (Nat.le_of_lt hlt) (Nat.le_trans hsz (by decide)))
    have hnd : ((os4.map Prod.fst) ++ (D :: c.hid.map Prod.fst)).Nodup := by have := I6.hnd; simpa [Cx.hides] using this
    have hDn : ∀ p ∈ os4, p.1 ≠ D := fun p hp => (List.nodup_append.mp hnd).2.2 _ (List.mem_map_of_mem hp) _ (.head _)
    have I7 : Inv ((c.hides [(D, lstO (vs.push x) n7)]).hides os4) F5 W6 h7 := by
      have e1 : (c.hides [(D, lstO vs n3)]).hides os4 = c.hides (os4 ++ [(D, lstO vs n3)]) := by simp [Cx.hides]
      have e2 : (c.hides [(D, lstO (vs.push x) n7)]).hides os4 = c.hides (os4 ++ [(D, lstO (vs.push x) n7)]) := by simp [Cx.hides]
      rw [e1] at I6
      rw [e2]
      refine I6.turned (by simp) (fun b o hb e => hs7.extBut b o (fun q => hb (by simp [q])) e) (fun p hp => ?_)
      rcases List.mem_append.mp hp with hp | hp
      · exact hs7.extBut _ _ (hDn p hp) (I6.hid p (by simp [Cx.hides, hp])).1
      · rw [List.mem_singleton] at hp; subst hp; exact hl7
    refine ⟨ds.length - (i + 1), by omega, (hJJ _ _).mpr ⟨i + 1, F5, W6, h7, tk6, os4, vs.push x, n7, rfl, hlt, rfl, I7, hF2, ((hs3.trans hs4).trans hs5).trans hs6, st4, ?_⟩⟩
    have e1 : rs.take (i + 1) = rs.take i ++ [d'] := by
      rw [List.take_add_one, hd']; rfl
    rw [e1, Array.toList_push]
    exact Reps.snoc r6 (hr3.mono ((hs4.trans hs5).trans hs6))
  · have hin : i = ds.length := by omega
    subst hin
    refine hD.done (c.hides [(D, lstO vs n3)]) os3 F1 W2 h3 tk3 _ _ rfl st3 I3 hs3 fun h4 tk4 I4 => ?_
    have I4' := I4.forget
    rw [hF1] at I4'
    exact hR h4 tk4 W2 vs n3 hs3 I4' (by rw [← hlen] at hr3; rw [List.take_length] at hr3; exact hr3)
theorem comp_core {c : Cx} {F : Frame} {W : Fz} {h : Heap} {tk : Nat} {E : Value → Shared → Prop} {elt target iter : Expr} {scope : Scope} {pos : Pos} {ds rs : List Dt} {cl : List (Str × Addr)} {RR : Value → Addr → Result → Shared → Prop} (I : Inv c F W h) (hit : Its c F target iter ds)
    (hkind : scope.kind = .function) (hcell : ∀ x ∈ scope.names, x.2 ≠ .cell)
    (helt : ∀ ci W h, CompIn c ci scope cl F W h → ∀ (i : Nat) (d : Dt), ds[i]? = some d → ∃ F2 d', As ci ⟨[], []⟩ target d F2 ∧ Ev ci F2 elt d' ∧ F2.own = [] ∧ rs[i]? = some d') (hlen : rs.length = ds.length) (hsz : ds.length ≤ 100000)
    (hRR : ∀ acc C oC h' tk' W', Sub W W' → Inv (c.hides [(C, oC)]) F W' h' → (∃ m, h'.Ns C m) → Rep W' acc (.lst rs) → RR acc C (.ok .next) (St c.s₀ h' tk')) :
    wpAny (model prog c.w) c.A (eval iter c.env) (fun v s₁ => wpAny (model prog c.w) c.A (pyIter v) (fun it s₂ => wpAny (model prog c.w) c.A (newList []) (fun acc s₃ =>
      wpAny (model prog c.w) c.A (newFunctionEnv scope c.env.globals cl [] c.env.qual none .none (some c.env)) (fun cenv s₄ =>
        codeAny (model prog c.w) c.A (.compStart (.ListComp elt [⟨target, iter, [], 0⟩] scope pos) 0 it acc { cenv with scope := relabel scope c.env }) (RR acc cenv.locals) s₄) E s₃) E s₂) E s₁) E (St c.s₀ h tk) := by
  refine hit W h tk _ E I fun It os S W0 h0 h1 tk1 I0 hs0 I1 st D hk1 hszle hI1 => ?_
  refine wpAny_newObj_type (s := St c.s₀ h1 tk1) ?_ (by size_fits)
  refine wpAny_newFunctionEnv (s := St c.s₀ (h1.push (lstO #[] 0)) tk1) hcell (by intro x hx; simp at hx) (fun h2 hn2 hs2 => ?_) hkind
  have hC : (h1.push (lstO #[] 0)).objs.size = h1.objs.size + 1 := Heap.size_push ..
  have e1 : (St c.s₀ (h1.push (lstO #[] 0)) tk1).heap = h1.push (lstO #[] 0) := rfl
  rw [e1] at hn2 hs2
  have up : ∀ b o, h1.get? b = some o → h2.get? b = some o := fun b o e => hs2.extBut b o (neA (.inl (by have := ltN (Heap.lt_size e); rw [hC]; omega))) (Heap.get?_push_of_some _ (Heap.get?_push_of_some _ e))
  have hDl : h2.get? h1.objs.size = some (lstO #[] 0) := hs2.extBut _ _ (by rw [hC]; exact neA (by omega)) (Heap.get?_push_of_some _ (Heap.get?_push_size _ rfl))
  have upW : ∀ b o, W0 b = some o → h1.get? b = some o := fun b o e => I1.keep b o e
  let ci : Cx := { w := c.w, s₀ := St c.s₀ h0 tk, W₀ := W0, bor := [], hid := [], L := h1.objs.size + 1, A := c.A,
                   env := { (newEnv scope (h1.objs.size + 1) c.env.globals cl c.env.qual none .none (some c.env) builtinsNs) with scope := relabel scope c.env }, k := c.k,
                   hk := hkind, hL := rfl, hg := c.hg, hb := c.hb, hh := c.hh, room := c.room }
  have Wnone : ∀ a, h1.objs.size ≤ a → W0 a = none := fun a ha => by
    cases q : W0 a with
    | none => rfl
    | some o' => exact absurd (Heap.lt_size (upW _ _ q)) (Nat.not_lt.mpr ha)
  have Ii : Inv ((ci.hides [(h1.objs.size, lstO #[] 0)]).hides os) ⟨[], []⟩ W0 h2 := {
    wd := I0.wd
    vars := ⟨_, by rw [hC] at hn2; exact hn2, fun x d e => by simp at e⟩
    base := fun b o _ e => up b o (hk1 b o e)
    sub := Sub.refl _
    keep := fun b o e => up b o (upW b o e)
    new := fun b o e => .inl e
    hL := by show h0.objs.size ≤ h1.objs.size + 1; omega
    wL := Wnone _ (by show h1.objs.size ≤ h1.objs.size + 1; omega)
    own := fun p hp => nomatch hp
    ads := fun a ha => by simp [Frame.ads] at ha
    nd := by simp [Frame.ads]
    bor := fun a ha => nomatch ha
    hid := fun p hp => by
      rcases List.mem_append.mp hp with hp | hp
      · have q := I1.hid p (List.mem_append_left _ hp)
        have q1 := ltN (Heap.lt_size q.1)
        exact ⟨up _ _ q.1, by show p.1 ≠ h1.objs.size + 1; exact neA (by omega), q.2.2.1, by simp [Frame.ads], hI1 p hp⟩
      · have hp : p ∈ [(h1.objs.size, lstO #[] 0)] := by simpa [ci, Cx.hides] using hp
        rw [List.mem_singleton] at hp; subst hp
        exact ⟨hDl, by show h1.objs.size ≠ h1.objs.size + 1; exact neA (by omega), Wnone _ (Nat.le_refl _), by simp [Frame.ads], hszle⟩
    hnd := by
      have q : (os.map Prod.fst).Nodup := by
        have := I1.hnd
        rw [show (c.hides os).hid = os ++ c.hid from rfl, List.map_append] at this
        exact (List.nodup_append.mp this).1
      show ((os ++ ([(h1.objs.size, lstO #[] 0)] ++ [])).map Prod.fst).Nodup
      rw [List.append_nil, List.map_append]
      refine List.nodup_append.mpr ⟨q, by simp, fun a ha b hb => ?_⟩
      obtain ⟨p, hp, rfl⟩ := List.mem_map.mp ha
      simp at hb; subst hb
      exact neA (.inl (ltN (Heap.lt_size (I1.hid p (List.mem_append_left _ hp)).1))) }
  have hCI : CompIn c ci scope cl F W0 h0 := ⟨rfl, rfl, rfl, rfl, rfl, rfl, rfl, I0⟩
  have main : ∀ tk2, codeAny (model prog c.w) c.A (.compLoop (.ListComp elt [⟨target, iter, [], 0⟩] scope pos) 0 (.ref It) (.ref h1.objs.size) ci.env) (RR (.ref h1.objs.size) (h1.objs.size + 1)) (St c.s₀ h2 tk2) := fun tk2 => by
    refine comp_loop (c := ci) Ii rfl st D (fun ps i d hd => ?_) hlen hsz fun h' tk' W' vs n' hsW I' hr' => ?_
    · obtain ⟨F2, d', a1, a2, a3, a4⟩ := helt (ci.hides ps) W0 h0 ⟨rfl, rfl, rfl, rfl, rfl, rfl, rfl, I0⟩ i d hd
      exact ⟨F2, d', a1, a2, a3, a4⟩
    · have hlst := (I'.hid (h1.objs.size, lstO vs n') (.head _))
      have hnew : ∀ b o, (W'.put h1.objs.size (lstO vs n')) b = some o → W0 b = some o ∨ h0.objs.size ≤ b := fun b o e => by
        unfold Fz.put at e
        split at e
        · rename_i q; subst q; exact .inr hszle
        · exact I'.new b o e
      have Io : Inv c F (W'.put h1.objs.size (lstO vs n')) h' := I0.grow (hsW.trans (Fz.sub_put hlst.2.2.1)) (fun b o e => I'.base b o (fun q => nomatch q) e) (fun b o e => by
        unfold Fz.put at e
        split at e
        · rename_i q; subst q; cases e; exact hlst.1
        · exact I'.keep b o e) hnew
      obtain ⟨m, hm, _⟩ := I'.vars
      obtain ⟨oC, es, ep, hoC, _⟩ := id hm
      have hoC : h'.get? (h1.objs.size + 1) = some oC := hoC
      have hh : Inv (c.hides [(h1.objs.size + 1, oC)]) F (W'.put h1.objs.size (lstO vs n')) h' := Io.hide hoC (by have := ltN I0.L_lt; exact neA (by omega)) (by
          unfold Fz.put
          rw [if_neg (show ¬ _ from neA (by omega))]
          exact I'.wL) (fun q => by have := ltN (I0.ads_lt _ q); omega) (by have := I0.size; omega) (fun q => by
          obtain ⟨p, hp, e⟩ := List.mem_map.mp q
          have := ltN (Heap.lt_size (I0.hid p hp).1)
          rw [e] at this; omega)
      exact hRR _ _ _ h' tk' _ (hs0.trans (hsW.trans (Fz.sub_put hlst.2.2.1))) hh ⟨m, hm⟩ (.lst (Fz.put_self ..) (hr'.mono (Fz.sub_put hlst.2.2.1)))
  have e2 : ∀ tk2, codeAny (model prog c.w) c.A (.compStart (.ListComp elt [⟨target, iter, [], 0⟩] scope pos) 0 (.ref It) (.ref h1.objs.size) ci.env) (RR (.ref h1.objs.size) (h1.objs.size + 1)) (St c.s₀ h2 tk2) := fun tk2 =>
    codeAny_compStart_list (main tk2) (D.self (ci.hides [(h1.objs.size, lstO #[] 0)]) os ⟨[], []⟩ W0 h2 tk2 _ _ rfl st Ii (Sub.refl _) (main tk2))
  have e3 := e2 (tk1 + ([] : List (Str × Value)).length)
  have e4 : (St c.s₀ (h1.push (lstO #[] 0)) tk1).heap.objs.size = h1.objs.size + 1 := hC
  rw [e4]
  exact e3
end
end
section
open PySem PySem.W PySem.Calls PyProof.Rows PySem.Spec
set_option Elab.async false
set_option maxRecDepth 100000
set_option linter.unusedVariables false
set_option linter.unusedSimpArgs false
section
section
variable {c : Cx} {F : Frame} {W W₁ : Fz} {h : Heap}
noncomputable def Elt (c : Cx) (F : Frame) (scope : Scope) (cl : List (Str × Addr)) (target elt : Expr) (ds rs : List Dt) : Prop :=
  rs.length = ds.length ∧ ds.length ≤ 100000 ∧ ∀ ci W h, CompIn c ci scope cl F W h → ∀ (i : Nat) (d : Dt), ds[i]? = some d → ∃ F2 d', As ci ⟨[], []⟩ target d F2 ∧ Ev ci F2 elt d' ∧ F2.own = [] ∧ rs[i]? = some d'
theorem Ns_gone {C : Addr} {oC : Obj} {W' : Fz} {h' h'' : Heap} (I : Inv (c.hides [(C, oC)]) F W' h') (hs : Heap.SameBut C h' h'') : Inv c F W' h'' :=
  I.dropped fun b o hb e => hs.extBut b o (by simpa using hb) e
theorem Ev.listComp {elt target iter : Expr} {scope : Scope} {pos : Pos} {ds rs : List Dt} {cl : List (Str × Addr)} (hit : Its c F target iter ds) (hel : Elt c F scope cl target elt ds rs)
    (hclos : closureFor scope c.env = Pure.pure cl) (hkind : scope.kind = .function := by rfl) (hcell : ∀ x ∈ scope.names, x.2 ≠ .cell := by decide)
    (hnames : ∀ x ∈ scope.names, x.2 = .local → scope.names.lookup x.1 = some .local := by decide)
    (hs : ∀ x, foldedSetIterable iter c.env x = Pure.pure x := by intro _; rfl) : Ev c F (.ListComp elt [⟨target, iter, [], 0⟩] scope pos) (.lst rs) := fun W₁ W h tk Q E hW I hQ => by
  rw [eval_ListComp]
  obtain ⟨hlen, hsz, helt⟩ := hel
  refine wpAny_comprehension_free (use := none) (env := c.env) rfl hs hclos hkind hnames ?_
  refine comp_core I hit hkind hcell helt hlen hsz fun acc C oC h' tk' W' hsW I' hm r => ?_
  obtain ⟨m, hm⟩ := hm
  exact ⟨m, hm, fun h'' hs'' => hQ acc W' h'' tk' F (Ns_gone I' hs'') hsW ⟨rfl, r⟩⟩
theorem swaps_comp {x : Str} {elt : Expr} {gens : List Comprehension} {scope sc : Scope} {pos pos' : Pos} {l : Nat} (hs : c.env.scope = sc) (hx : sc.names.lookup x = some .local) (hl : pos'.line = pos.line) (hn : (scope.names.any fun p => p.1 == x && (p.2 == .local || p.2 == .cell)) = false) :
    swapsWith (.ListComp elt gens scope pos) (some (.Name x pos')) l c.env = Pure.pure true := by
  have h1 := kindOf_of hs hx
  have hbk : c.env.blockKind = .function := by unfold Env.blockKind; rw [c.hk]; rfl
  show (Pure.pure (c.env.blockKind == .function && c.env.kindOf x == some .local && pos'.line == pos.line && !(scope.names.any fun p => p.1 == x && (p.2 == .local || p.2 == .cell))) : Sem Bool) = Pure.pure true
  rw [hbk, h1, hl, hn]
  simp
theorem Ex.assignComp {x : Str} {elt target iter : Expr} {scope : Scope} {pos pos' spos : Pos} {ds rs : List Dt} {cl : List (Str × Addr)} {P : Fl → Frame → Prop} {sc : Scope} (hsc : c.env.scope = sc) (hx : sc.names.lookup x = some .local)
    (hit : Its c F target iter ds) (hel : Elt c F scope cl target elt ds rs) (hp : P .next (F.set x (.lst rs)))
    (hclos : closureFor scope c.env = Pure.pure cl) (hl : pos'.line = pos.line := by rfl) (hn : (scope.names.any fun p => p.1 == x && (p.2 == .local || p.2 == .cell)) = false := by decide)
    (hkind : scope.kind = .function := by rfl) (hcell : ∀ x ∈ scope.names, x.2 ≠ .cell := by decide)
    (hnames : ∀ x ∈ scope.names, x.2 = .local → scope.names.lookup x.1 = some .local := by decide)
    (hs : ∀ x, foldedSetIterable iter c.env x = Pure.pure x := by intro _; rfl) : Ex c F (.Assign [.Name x pos'] (.ListComp elt [⟨target, iter, [], 0⟩] scope pos) spos) P := fun W₁ W h tk Q E hW I hQ => by
  rw [exec_Assign_Name_used _ _ _ _ (swaps_comp hsc hx hl hn)]
  refine wpAny_bind (wpAny_standAt (wpAny_bind ?_))
  obtain ⟨hlen, hsz, helt⟩ := hel
  refine wpAny_bind (wpAny_mono (wpAny_comprehension_free (use := some (PySem.assign (.Name x pos') c.env)) (Q := fun _ s' => Q .next s') rfl hs hclos hkind hnames ?_) (fun _ s' hq => wpAny_pure (wpAny_pure hq)) fun _ _ e => e)
  refine comp_core I hit hkind hcell helt hlen hsz fun acc C oC h' tk' W' hsW I' hm r => ?_
  obtain ⟨m, hm⟩ := hm
  have hC := I'.hid (C, oC) (.head _)
  refine (As.name (c := c.hides [(C, oC)]) (F := F) (x := x) (pos := pos') (d := .lst rs) hsc hx) W' acc r W' h' tk' _ _ (Sub.refl _) I' fun _ W2 h2 tk2 F2 I2 hs2 e => ?_
  subst e
  have hC2 := I2.hid (C, oC) (.head _)
  have hm2 : h2.Ns C m := hm.at' fun o e => by rw [hC.1] at e; cases e; exact hC2.1
  exact ⟨m, hm2, fun h'' hs'' => hQ .next W2 h'' tk2 _ (Ns_gone I2 hs'') (hsW.trans hs2) ⟨.next, trivial, hp⟩⟩
end
end
end
section
open PySem PySem.W PySem.Calls PyProof.Rows PySem.Spec
set_option Elab.async false
set_option maxRecDepth 100000
set_option linter.unusedVariables false
set_option linter.unusedSimpArgs false
section
theorem isM {α : Type} {F : Frame} {W₁ : Fz} {X : α → Fz → Prop} {R : α → Fz → Frame → Prop} (k : ∀ a W, Sub W₁ W → X a W → R a W F) : ∀ a W F', Sub W₁ W → (F' = F ∧ X a W) → R a W F' :=
  fun a W _ hs x => x.1 ▸ k a W hs x.2
section
variable {c : Cx} {F : Frame} {W W₁ : Fz} {h : Heap}
noncomputable def Pt (c : Cx) (F : Frame) (e : Option Expr) (k : Option Int) : Prop := ∀ W₁, Go c F W₁ (evalPart e c.env) (fun v _ F' => F' = F ∧ IsPart v k)
theorem Pt.none : Pt c F none none := fun W₁ => by
  rw [evalPart_none]; exact Go.pure fun _ _ => ⟨rfl, .none⟩
theorem Pt.some {e : Expr} {k : Int} (h : Ev c F e (.int k)) : Pt c F (some e) (some k) := fun W₁ => by
  rw [evalPart_some]
  refine Go.mono (h W₁) (isM fun v W hs r => ?_)
  cases r
  exact ⟨rfl, .int _ _⟩
noncomputable abbrev sliceO (l u : Value) : Obj := { cls := .type "slice", data := .fields #[l, u, .none] }
noncomputable def Sl (d : Dt) (lo hi : Option Int) (d' : Dt) : Prop := ∀ (c : Cx) (F : Frame) (W₁ : Fz) (o vl vu : Value) (sl : Addr), Rep W₁ o d → W₁ sl = some (sliceO vl vu) → IsPart vl lo → IsPart vu hi → Go c F W₁ (getItem o (.ref sl)) (Is F d')
theorem Ev.slice {value : Expr} {lower upper : Option Expr} {p pos : Pos} {d d' : Dt} {lo hi : Option Int} {T id : String} (h1 : Ev c F value d) (h2 : Pt c F lower lo) (h3 : Pt c F upper hi) (hT : TyD d T)
    (hl : typeLookup (.type T) "__getitem__" = Pure.pure (some (.builtin id))) (h : Sl d lo hi d') (ht : ∀ o r, letTemporaryGo value o r = Pure.pure () := by intro _ _; rfl) : Ev c F (.Subscript value (.Slice lower upper none p) pos) d' := fun W₁ W hp tk Q E hs I hQ => by
  refine wpAny_Subscript_Slice hl ?_ ht
  refine h1 W W hp tk _ E (Sub.refl _) I (isQ fun o W' g1 tk1 I1 hs1 r1 => ?_)
  refine wpAny_Slice ?_
  refine h2 W' W' g1 tk1 _ E (Sub.refl _) I1 (isQ fun vl W2 g2 tk2 I2 hs2 r2 => ?_)
  refine h3 W2 W2 g2 tk2 _ E (Sub.refl _) I2 (isQ fun vu W3 g3 tk3 I3 hs3 r3 => ?_)
  rw [evalPart_none]
  refine wpAny_pure ?_
  have I4 := I3.push (sliceO vl vu) rfl
  have r1' := (r1.mono (hs2.trans hs3)).mono (Fz.sub_put I3.none_size (o := sliceO vl vu))
  refine ⟨hT _ _ r1' (St c.s₀ (g3.push (sliceO vl vu)) tk3) I4.keep, ?_⟩
  exact h c F _ o vl vu _ r1' (Fz.put_self ..) r2 r3 _ _ tk3 Q E (Sub.refl _) I4 fun a W5 h5 tk5 F5 I5 hs5 r5 =>
    hQ a W5 h5 tk5 F5 I5 (((hs1.trans hs2).trans hs3).trans ((Fz.sub_put I3.none_size).trans hs5)) r5
noncomputable def pk {α : Type} (l : List α) (lo hi : Option Int) : List α := (l.drop (kms_lo lo l.length)).take (kms_hi hi l.length - kms_lo lo l.length)
theorem Reps.drop {W : Fz} {vs ds} (n : Nat) (r : Reps W vs ds) : Reps W (vs.drop n) (ds.drop n) := by
  induction n generalizing vs ds with
  | zero => exact r
  | succ n ih =>
    cases ds with
    | nil => obtain rfl := r.inv; exact .nil
    | cons d ds => obtain ⟨v, vs, rfl, _, r⟩ := r.inv; exact ih r
theorem Reps.take {W : Fz} {vs ds} (n : Nat) (r : Reps W vs ds) : Reps W (vs.take n) (ds.take n) := by
  induction n generalizing vs ds with
  | zero => exact .nil
  | succ n ih =>
    cases ds with
    | nil => obtain rfl := r.inv; exact .nil
    | cons d ds => obtain ⟨v, vs, rfl, a, r⟩ := r.inv; exact .cons a (ih r)
theorem Reps.append {W : Fz} {vs ds vs' ds'} (h : Reps W vs ds) (r : Reps W vs' ds') : Reps W (vs ++ vs') (ds ++ ds') := by
  induction ds generalizing vs with
  | nil => obtain rfl := h.inv; exact r
  | cons d ds ih => obtain ⟨v, vs, rfl, a, b⟩ := h.inv; exact .cons a (ih b)
theorem Sl.lst {ds : List Dt} {lo hi : Option Int} (hsz : ds.length ≤ 100000) : Sl (.lst ds) lo hi (.lst (pk ds lo hi)) := fun c F W₁ o vl vu sl r hsl pl pu W h tk Q E hs I hQ => by
  obtain ⟨a, vs, n, rfl, e, r⟩ := Rep.lst_inv r
  have hl : vs.toList.length = ds.length := r.length
  refine wpAny_getItem_list_slice (s := St c.s₀ h tk) (items := vs) ⟨_, I.keep _ _ (hs _ _ e), rfl, n, rfl⟩ ⟨_, I.keep _ _ (hs _ _ hsl), rfl, rfl⟩ pl pu .none (by simp)
    (hQ _ _ _ tk F (I.push (lstO (slicePick vs lo hi none) 0) rfl) (Fz.sub_put I.none_size) ⟨rfl, .lst (Fz.put_self ..) ?_⟩) (by rw [← Array.length_toList, hl]; exact Nat.le_trans hsz (by decide))
  refine Reps.mono (Fz.sub_put I.none_size) ?_
  rw [kms_pick_eq]
  unfold kms_pick pk
  rw [hl]
  exact (((r.mono hs).drop _).take _)
theorem post_str {x y : Str} {t : Tok} {b : Bool} {Q : Value → Shared → Prop} {s : Shared} (hsz : x.length ≤ 1000000) (hy : y.length ≤ 1000000) (h : ∀ t' k, s.toks ≤ k → Q (.str (if b = true then x else y) t') { s with toks := k }) : (if b = true then Made.val (.str x t) else Made.str y).post Q s := by
  cases b with
  | true => exact h t s.toks (Nat.le_refl _)
  | false => exact ⟨Nat.le_trans hy (by decide), h _ _ (Nat.le_succ _)⟩
theorem Sl.str {x : Str} {lo hi : Option Int} (hsz : x.length ≤ 1000000) : Sl (.str x) lo hi (.str (Txt.slice x lo hi)) := fun c F W₁ o vl vu sl r hsl pl pu => by
  (replace r := Rep.str_inv r; obtain ⟨t, rfl⟩ := r)
  refine Go.fresh_val fun W h tk Q E hs I hQ => ?_
  have e := I.keep _ _ (hs _ _ hsl)
  have key : ∀ l u : Option (Int × Tok), vl = partValue l → vu = partValue u → l.map (·.1) = lo → u.map (·.1) = hi → wpAny (model prog c.w) c.A (getItem (.str x t) (.ref sl)) Q E (St c.s₀ h tk) := fun l u e1 e2 e3 e4 => by
    subst e1 e2 e3 e4
    refine wpAny_getItem_str_slice (s := St c.s₀ h tk) (l := l) (u := u) (st := none) ⟨_, e, rfl, rfl⟩ rfl ?_
    refine post_str hsz ?_ fun t' k htk => ?_
    rotate_left
    · obtain ⟨k, rfl⟩ : ∃ j, k = j + 1 := ⟨k - 1, (Nat.sub_add_cancel (Nat.le_trans (Nat.le_add_left 1 tk) htk)).symm⟩
      exact hQ _ k (.str _ _)
    show (List.filterMap _ _).toArray.size ≤ _
    rw [List.size_toArray]
    exact Nat.le_trans (Nat.le_trans (List.length_filterMap_le _ _) (sliceIndices_le _ _ x.length)) hsz
  cases pl <;> cases pu
  · exact key none none rfl rfl rfl rfl
  · exact key none (some (_, _)) rfl rfl rfl rfl
  · exact key (some (_, _)) none rfl rfl rfl rfl
  · exact key (some (_, _)) (some (_, _)) rfl rfl rfl rfl
theorem Bop.add_lst {ds ds' : List Dt} (hsz : ds.length + ds'.length ≤ 100000) : Bop .Add (.lst ds) (.lst ds') (.lst (ds ++ ds')) := fun c F W₁ a b ha hb W h tk Q E hs I hQ => by
  obtain ⟨a, vs, n, rfl, e, r⟩ := Rep.lst_inv ha
  obtain ⟨b, vs', n', rfl, e', r'⟩ := Rep.lst_inv hb
  have hl : vs.toList.length = ds.length := r.length
  have hl' : vs'.toList.length = ds'.length := r'.length
  refine PySem.P.add_list (s := St c.s₀ h tk) (I.keep _ _ (hs _ _ e)) (I.keep _ _ (hs _ _ e')) (hQ _ _ _ tk F (I.push (lstO (vs ++ vs') 0) rfl) (Fz.sub_put I.none_size) ⟨rfl, .lst (Fz.put_self ..) ?_⟩) ?_
  · rw [Array.toList_append]
    exact ((r.mono hs).append (r'.mono hs)).mono (Fz.sub_put I.none_size)
  · rw [← Array.length_toList, ← Array.length_toList, hl, hl']; exact Nat.le_trans hsz (by decide)
end
end
end
section
open PySem PySem.W PySem.Calls PyProof.Rows PySem.Spec
set_option Elab.async false
set_option maxRecDepth 100000
set_option linter.unusedVariables false
set_option linter.unusedSimpArgs false
section
noncomputable def HasV (F : Frame) : List (Str × Dt) → Prop
  | [] => True
  | (x, d) :: r => F.vars.lookup x = some d ∧ HasV F r
theorem HasV.get {F : Frame} : ∀ {l : List (Str × Dt)}, HasV F l → ∀ x d, l.lookup x = some d → F.vars.lookup x = some d
  | [], _, _, _, e => by simp at e
  | (y, d') :: r, h, x, d, e => by
    rw [lookup_store] at e
    by_cases q : x = y
    · subst q; rw [if_pos rfl] at e; cases e; exact h.1
    · rw [if_neg q] at e; exact HasV.get h.2 x d e
noncomputable def Has (vars : List (Str × Dt)) (own : List Ow) (F : Frame) : Prop := F.own = own ∧ HasV F vars
section
variable {c : Cx} {F : Frame} {W W₁ : Fz} {h : Heap}
theorem Inv.has {vars : List (Str × Dt)} {own : List Ow} (H : Has vars own F) (I : Inv c F W h) : Inv c ⟨vars, own⟩ W h := by
  obtain ⟨e, hv⟩ := H
  subst e
  exact { wd := I.wd, vars := let ⟨m, hn, hm⟩ := I.vars; ⟨m, hn, fun x d e => hm x d (hv.get x d e)⟩, base := I.base, sub := I.sub, keep := I.keep, new := I.new, hL := I.hL, wL := I.wL, own := I.own, ads := I.ads, nd := I.nd, bor := I.bor, hid := I.hid, hnd := I.hnd }
theorem Go.has {α : Type} {vars : List (Str × Dt)} {own : List Ow} {t : Sem α} {P : α → Fz → Frame → Prop} (H : Has vars own F) (g : Go c ⟨vars, own⟩ W₁ t P) : Go c F W₁ t P :=
  fun W hp tk Q E hs I hQ => g W hp tk Q E hs (I.has H) hQ
theorem Tr.has {vars : List (Str × Dt)} {own : List Ow} {ss : List Stmt} {P : Fl → Frame → Prop} (H : Has vars own F) (g : Tr c ⟨vars, own⟩ ss P) : Tr c F ss P := fun W₁ => Go.has H (g W₁)
theorem Te.has {vars : List (Str × Dt)} {own : List Ow} {e : Expr} {b : Bool} (H : Has vars own F) (g : Te c ⟨vars, own⟩ e b) : ∀ W₁, Go c F W₁ (isTrue e c.env (eval e c.env)) (fun r _ F' => F' = ⟨vars, own⟩ ∧ r = b) := fun W₁ => Go.has H (g W₁)
theorem Ex.whileH {ι : Type} {t : Expr} {body : List Stmt} {pos : Pos} {P : Fl → Frame → Prop} (V : ι → List (Str × Dt)) (ow : ι → List Ow) (ms : ι → Nat) (J : ι → Prop) (i₀ : ι) (h0 : J i₀) (hF : Has (V i₀) (ow i₀) F)
    (turn : ∀ i, J i → ∃ b, Te c ⟨V i, ow i⟩ t b ∧ (b = true → Tr c ⟨V i, ow i⟩ body (fun f F2 => match f with | .next | .cont => ∃ j, ms j < ms i ∧ J j ∧ Has (V j) (ow j) F2 | .brk => P .next F2 | .ret d => P (.ret d) F2)) ∧ (b = false → P .next ⟨V i, ow i⟩)) :
    Ex c F (.While t body [] pos) P := fun W₁ W h tk Q E hs I hQ => by
  refine wpAny_While ?_
  obtain ⟨JJ, hJJ⟩ : ∃ JJ : Nat → Shared → Prop, ∀ k s, JJ k s ↔ ∃ i W' h' tk', k = ms i ∧ J i ∧ s = St c.s₀ h' tk' ∧ Inv c ⟨V i, ow i⟩ W' h' ∧ Sub W W' := ⟨_, fun _ _ => Iff.rfl⟩
  refine codeAny_whileLoop JJ (fun k s hI => ?_) (ms i₀) ((hJJ _ _).mpr ⟨i₀, W, h, tk, rfl, h0, rfl, I.has hF, Sub.refl _⟩)
  replace hI := (hJJ _ _).mp hI
  obtain ⟨i, W', h', tk', rfl, hJ, rfl, I', hs'⟩ := hI
  obtain ⟨b, ht, h1, h2⟩ := turn i hJ
  refine ht W' W' h' tk' _ _ (Sub.refl _) I' (isQ fun r W2 h2' tk2 I2 hs2 e => ?_)
  obtain rfl := e
  cases r with
  | true =>
    refine h1 rfl W2 W2 h2' tk2 _ _ (Sub.refl _) I2 fun fl W3 h3 tk3 F3 I3 hs3 r3 => ?_
    obtain ⟨f, hf, hp⟩ := r3
    cases fl with
    | next => cases f <;> first | exact hf.elim | (obtain ⟨j, hj, hJ', hH⟩ := hp; exact ⟨ms j, hj, (hJJ _ _).mpr ⟨j, W3, h3, tk3, rfl, hJ', rfl, I3.has hH, (hs'.trans hs2).trans hs3⟩⟩)
    | cont => cases f <;> first | exact hf.elim | (obtain ⟨j, hj, hJ', hH⟩ := hp; exact ⟨ms j, hj, (hJJ _ _).mpr ⟨j, W3, h3, tk3, rfl, hJ', rfl, I3.has hH, (hs'.trans hs2).trans hs3⟩⟩)
    | brk => cases f <;> first | exact hf.elim | exact hQ .next W3 h3 tk3 F3 I3 ((hs'.trans hs2).trans hs3) ⟨.next, trivial, hp⟩
    | ret v => cases f <;> first | exact hf.elim | exact hQ (.ret v) W3 h3 tk3 F3 I3 ((hs'.trans hs2).trans hs3) ⟨.ret _, hf, hp⟩
  | false =>
    exact wpAny_execs_nil (hQ .next W2 h2' tk2 _ I2 (hs'.trans hs2) ⟨.next, trivial, h2 rfl⟩)
end
theorem Ex.forHI {ι : Type} {c : Cx} {F : Frame} {target it : Expr} {body : List Stmt} {pos : Pos} {ds : List Dt} {P : Fl → Frame → Prop} (hit : Its c F target it ds) (V : ι → List (Str × Dt)) (ow : ι → List Ow) (J : Nat → ι → Prop) (x₀ : ι) (hF : Has (V x₀) (ow x₀) F) (hJ0 : J 0 x₀)
    (turn : ∀ ps i x d, ds[i]? = some d → J i x → ∃ F2, As (c.hides ps) ⟨V x, ow x⟩ target d F2 ∧ Tr (c.hides ps) F2 body (fun f F3 => match f with | .next | .cont => ∃ y, Has (V y) (ow y) F3 ∧ J (i + 1) y | .brk => P .next F3 | .ret d => P (.ret d) F3))
    (hend : ∀ x, J ds.length x → P .next ⟨V x, ow x⟩) (hs : ∀ x, foldedSetIterable it c.env x = Pure.pure x := by intro _; rfl) : Ex c F (.For target it body [] pos) P := fun W₁ W h tk Q E hW I hQ => by
  refine wpAny_For ?_ hs
  refine hit W h tk _ E I fun It os S W1 h1 h2 tk2 I1 hs1 I2 s0 D _ _ _ => ?_
  obtain ⟨JJ, hJJ⟩ : ∃ JJ : Nat → Shared → Prop, ∀ k s, JJ k s ↔ ∃ i x W2 h3 tk3 os3, k = ds.length - i ∧ i ≤ ds.length ∧ s = Mine.St c.s₀ h3 tk3 ∧ Inv (c.hides os3) ⟨V x, ow x⟩ W2 h3 ∧ Sub W1 W2 ∧ S i os3 ∧ J i x := ⟨_, fun _ _ => Iff.rfl⟩
  refine codeAny_forLoop_any JJ (fun k s hI => ?_) ds.length ((hJJ _ _).mpr ⟨0, x₀, W1, h2, tk2, os, rfl, Nat.zero_le _, rfl, I2.has hF, Sub.refl _, s0, hJ0⟩)
  replace hI := (hJJ _ _).mp hI
  obtain ⟨i, x, W2, h3, tk3, os3, rfl, hi, rfl, I3, hs3, st3, hJ⟩ := hI
  by_cases hlt : i < ds.length
  · refine' wpAny_mono (D.item c i os3 ⟨V x, ow x⟩ W2 h3 tk3 ?fhQ _ rfl hlt st3 I3 hs3 ?fhA) ?fhB fun _ _ h => h
    case fhB =>
      intro r s₁ hr
      cases r with
      | none => exact hr.elim
      | some v => exact hr
    intro v d os4 W4 h4 tk4 hd st4 I4 hs4 r4
    obtain ⟨F2, ha, hb⟩ := turn os4 i x d hd hJ
    refine ha W4 v r4 W4 h4 tk4 _ _ (Sub.refl _) I4 fun _ W5 h5 tk5 F5 I5 hs5 e => ?_
    subst e
    refine hb W5 W5 h5 tk5 _ _ (Sub.refl _) I5 fun fl W6 h6 tk6 F6 I6 hs6 r6 => ?_
    obtain ⟨f, hf, hp⟩ := r6
    have hs16 := ((hs3.trans hs4).trans hs5).trans hs6
    cases fl with
    | next =>
      cases f <;> first | exact hf.elim | skip
      obtain ⟨y, hy, hy2⟩ := hp
      exact ⟨ds.length - (i + 1), by omega, (hJJ _ _).mpr ⟨i + 1, y, W6, h6, tk6, os4, rfl, hlt, rfl, I6.has hy, hs16, st4, hy2⟩⟩
    | cont =>
      cases f <;> first | exact hf.elim | skip
      obtain ⟨y, hy, hy2⟩ := hp
      exact ⟨ds.length - (i + 1), by omega, (hJJ _ _).mpr ⟨i + 1, y, W6, h6, tk6, os4, rfl, hlt, rfl, I6.has hy, hs16, st4, hy2⟩⟩
    | brk => cases f <;> first | exact hf.elim | exact hQ .next W6 h6 tk6 F6 I6.unhide (hs1.trans hs16) ⟨.next, trivial, hp⟩
    | ret v => cases f <;> first | exact hf.elim | exact hQ (.ret v) W6 h6 tk6 F6 I6.unhide (hs1.trans hs16) ⟨.ret _, hf, hp⟩
  · have hin : i = ds.length := by omega
    subst hin
    exact D.done c os3 _ W2 h3 tk3 _ _ rfl st3 I3 hs3 fun h4 tk4 I4 => wpAny_execs_nil (hQ .next W2 h4 tk4 _ I4 (hs1.trans hs3) ⟨.next, trivial, hend x hJ⟩)
theorem Ex.forHJ {c : Cx} {F : Frame} {target it : Expr} {body : List Stmt} {pos : Pos} {ds : List Dt} {P : Fl → Frame → Prop} (hit : Its c F target it ds) (V : Nat → List (Str × Dt)) (ow : Nat → List Ow) (J : Nat → Prop) (hF : Has (V 0) (ow 0) F) (hJ0 : J 0)
    (turn : ∀ ps i d, ds[i]? = some d → J i → ∃ F2, As (c.hides ps) ⟨V i, ow i⟩ target d F2 ∧ Tr (c.hides ps) F2 body (fun f F3 => match f with | .next | .cont => Has (V (i + 1)) (ow (i + 1)) F3 ∧ J (i + 1) | .brk => P .next F3 | .ret d => P (.ret d) F3))
    (hend : J ds.length → P .next ⟨V ds.length, ow ds.length⟩) (hs : ∀ x, foldedSetIterable it c.env x = Pure.pure x := by intro _; rfl) : Ex c F (.For target it body [] pos) P :=
  Ex.forHI (ι := Nat) hit V ow (fun i x => x = i ∧ J i) 0 hF ⟨rfl, hJ0⟩ (fun ps i x d hd h => by
    obtain ⟨rfl, hj⟩ := h
    obtain ⟨F2, ha, hb⟩ := turn ps x d hd hj
    refine ⟨F2, ha, hb.mono fun f F3 r => ?_⟩
    cases f with
    | next => exact ⟨_, r.1, rfl, r.2⟩
    | cont => exact ⟨_, r.1, rfl, r.2⟩
    | brk => exact r
    | ret d => exact r) (fun x h => h.1 ▸ hend h.2) hs
section
variable {c : Cx} {F : Frame} {W W₁ : Fz} {h : Heap}
theorem Ex.forH {target it : Expr} {body : List Stmt} {pos : Pos} {ds : List Dt} {P : Fl → Frame → Prop} (hit : Its c F target it ds) (V : Nat → List (Str × Dt)) (ow : Nat → List Ow) (hF : Has (V 0) (ow 0) F)
    (turn : ∀ ps i d, ds[i]? = some d → ∃ F2, As (c.hides ps) ⟨V i, ow i⟩ target d F2 ∧ Tr (c.hides ps) F2 body (fun f F3 => match f with | .next | .cont => Has (V (i + 1)) (ow (i + 1)) F3 | .brk => P .next F3 | .ret d => P (.ret d) F3))
    (hend : P .next ⟨V ds.length, ow ds.length⟩) (hs : ∀ x, foldedSetIterable it c.env x = Pure.pure x := by intro _; rfl) : Ex c F (.For target it body [] pos) P :=
  Ex.forHJ hit V ow (fun _ => True) hF trivial (fun ps i d hd _ => by
    obtain ⟨F2, ha, hb⟩ := turn ps i d hd
    refine ⟨F2, ha, hb.mono fun f F3 r => ?_⟩
    cases f with
    | next => exact ⟨r, trivial⟩
    | cont => exact ⟨r, trivial⟩
    | brk => exact r
    | ret d => exact r) (fun _ => hend) hs
end
end
end
section
open PySem PySem.W PySem.Calls PyProof.Rows PySem.Spec
set_option Elab.async false
set_option maxRecDepth 100000
set_option linter.unusedVariables false
set_option linter.unusedSimpArgs false
section
inductive RepV (W : Fz) : List (Int × Value) → List (Int × Dt) → Prop
  | nil : RepV W [] []
  | cons {k v d l l'} : Rep W v d → RepV W l l' → RepV W ((k, v) :: l) ((k, d) :: l')
theorem RepV.mono {W W' : Fz} (hs : Sub W W') {l l'} (r : RepV W l l') : RepV W' l l' :=
  RepV.rec (motive := fun l l' _ => RepV W' l l') .nil (fun a _ b => .cons (a.mono hs) b) r
theorem RepV.keys {W : Fz} {l l'} (r : RepV W l l') : l.map Prod.fst = l'.map Prod.fst :=
  RepV.rec (motive := fun l l' _ => l.map Prod.fst = l'.map Prod.fst) rfl (fun _ _ b => congrArg (_ :: ·) b) r
theorem RepV.length {W : Fz} {l l'} (r : RepV W l l') : l.length = l'.length := by
  have := congrArg List.length r.keys; simpa using this
noncomputable abbrev iK (w : World) : KeyKind prog w Int := intKind prog w
theorem Ents.out {W : Fz} (w : World) {es kvs} (h : Ents W es kvs) : ∃ l, RepV W l kvs ∧ Pairs (iK w) es l ∧ ∀ e ∈ es, ∃ k, (iK w).is k e.key = true ∧ e.hash = (iK w).hash k := by
  induction kvs generalizing es with
  | nil => obtain rfl := h.inv; exact ⟨[], .nil, .nil, fun _ h => nomatch h⟩
  | cons p kvs ih =>
    obtain ⟨t, v, es, rfl, r, rs⟩ := h.inv
    obtain ⟨l, a, b, d⟩ := ih rs
    exact ⟨(p.1, v) :: l, .cons r a, .cons (intKind_is prog w p.1 t) rfl b, List.forall_mem_cons.mpr ⟨⟨p.1, intKind_is prog w p.1 t, rfl⟩, d⟩⟩
theorem RepV.cons_inv {W : Fz} {k : Int} {v : Value} {l : List (Int × Value)} {kvs : List (Int × Dt)} (r : RepV W ((k, v) :: l) kvs) : ∃ d l', kvs = (k, d) :: l' ∧ Rep W v d ∧ RepV W l l' := by
  cases r with | cons a b => exact ⟨_, _, rfl, a, b⟩
theorem Ents.one {W : Fz} {w : World} {e : DictEntry} {k : Int} {v : Value} {d : Dt} {es : List DictEntry} {kvs : List (Int × Dt)} (hk : (iK w).is k e.key = true) (hv : e.val = v) (he : ∃ k, (iK w).is k e.key = true ∧ e.hash = (iK w).hash k) (r : Rep W v d) (q : Ents W es kvs) : Ents W (e :: es) ((k, d) :: kvs) := by
  obtain ⟨hs, key, val⟩ := e
  obtain ⟨t, rfl⟩ := Value.isInt_shape hk
  obtain ⟨k', hk', he⟩ := he
  obtain rfl : k' = k := (iK w).inj _ _ _ hk' hk
  have he : hs = hashInt k' := he
  have hv : val = v := hv
  subst hv
  subst he
  exact .cons r q
theorem Ents.back {W : Fz} {w : World} {es l kvs} (r : RepV W l kvs) (hp : Pairs (iK w) es l) : (∀ e ∈ es, ∃ k, (iK w).is k e.key = true ∧ e.hash = (iK w).hash k) → Ents W es kvs := by
  induction hp generalizing kvs with
  | nil => intro _; cases r; exact .nil
  | cons hk hv hp ih =>
    intro hh
    obtain ⟨d, l', rfl, a, b⟩ := r.cons_inv
    exact .one hk hv (hh _ (.head _)) a (ih b fun e h => hh e (.tail _ h))
theorem dictOf_out {W : Fz} {h : Heap} {a : Addr} {es : Array DictEntry} {n : Nat} {kvs : List (Int × Dt)} (w : World) (e : h.get? a = some (dicO es n)) (r : Ents W es.toList kvs) (nd : (kvs.map Prod.fst).Nodup) : ∃ l, RepV W l kvs ∧ h.DictOf (iK w) a l := by
  obtain ⟨l, a1, a2, a3⟩ := r.out w
  exact ⟨l, a1, _, es, n, e, ⟨rfl, rfl, rfl⟩, rfl, fun e he => a3 e (Array.mem_toList_iff.mpr he), a2, by rw [show (l.map fun x => x.1) = l.map Prod.fst from rfl, a1.keys]; exact nd⟩
theorem dictOf_back {W : Fz} {h : Heap} {a : Addr} {l : List (Int × Value)} {kvs : List (Int × Dt)} {w : World} (hd : h.DictOf (iK w) a l) (r : RepV W l kvs) : ∃ es n, h.get? a = some (dicO es n) ∧ Ents W es.toList kvs ∧ (kvs.map Prod.fst).Nodup := by
  obtain ⟨o, es, ep, ho, ⟨hc, hdd, hsl⟩, hdat, hk, hp, hn⟩ := hd
  refine ⟨es, ep, ?_, Ents.back r hp fun e he => hk e (Array.mem_toList_iff.mp he), by rw [← r.keys]; exact hn⟩
  obtain ⟨c1, c2, c3, c4⟩ := o
  simp only at hc hdd hsl hdat
  subst hc hdd hsl hdat
  exact ho
noncomputable def dget {α : Type} (l : List (Int × α)) (k : Int) : Option α := (l.find? fun p => p.1 = k).map (·.2)
noncomputable def dset {α : Type} (l : List (Int × α)) (k : Int) (v : α) : List (Int × α) :=
  if l.any (fun p => p.1 = k) then l.map (fun p => if p.1 = k then (p.1, v) else p) else l ++ [(k, v)]
theorem RepV.get {W : Fz} {k : Int} : ∀ {l l'}, RepV W l l' → (valueAt l k = none ∧ dget l' k = none) ∨ ∃ v d, valueAt l k = some v ∧ dget l' k = some d ∧ Rep W v d
  | _, _, .nil => .inl ⟨rfl, rfl⟩
  | _, _, .cons (k := k') (v := v) (d := d) a b => by
    by_cases q : k' = k
    · exact .inr ⟨v, d, by simp [valueAt, q], by simp [dget, q], a⟩
    · rcases b.get (k := k) with ⟨h1, h2⟩ | ⟨v', d', h1, h2, h3⟩
      · exact .inl ⟨by simpa [valueAt, q] using h1, by simpa [dget, q] using h2⟩
      · exact .inr ⟨v', d', by simpa [valueAt, q] using h1, by simpa [dget, q] using h2, h3⟩
theorem RepV.any {W : Fz} {k : Int} : ∀ {l l'}, RepV W l l' → (l.any fun p => decide (p.1 = k)) = (l'.any fun p => decide (p.1 = k))
  | _, _, .nil => rfl
  | _, _, .cons a b => by simp only [List.any_cons, b.any]
theorem RepV.map {W : Fz} {k : Int} {v : Value} {d : Dt} (r : Rep W v d) : ∀ {l l'}, RepV W l l' → RepV W (l.map fun p => if p.1 = k then (p.1, v) else p) (l'.map fun p => if p.1 = k then (p.1, d) else p)
  | _, _, .nil => .nil
  | _, _, .cons (k := k') a b => by
    simp only [List.map_cons]
    by_cases q : k' = k
    · simp only [q, if_true]; exact .cons r (b.map r)
    · simp only [q, if_false]; exact .cons a (b.map r)
theorem RepV.snoc {W : Fz} {k : Int} {v : Value} {d : Dt} (r : Rep W v d) : ∀ {l l'}, RepV W l l' → RepV W (l ++ [(k, v)]) (l' ++ [(k, d)])
  | _, _, .nil => .cons r .nil
  | _, _, .cons a b => .cons a (b.snoc r)
theorem RepV.stored {W : Fz} {k : Int} {v : Value} {d : Dt} (r : Rep W v d) {l l'} (h : RepV W l l') : RepV W (PySem.stored l k v) (dset l' k d) := by
  unfold PySem.stored dset
  have e : (l.any fun kv => decide (kv.1 = k)) = (l'.any fun p => decide (p.1 = k)) := h.any
  rw [e]
  split
  · exact h.map r
  · exact h.snoc r
theorem dset_len {α : Type} (l : List (Int × α)) (k : Int) (v : α) : (dset l k v).length ≤ l.length + 1 := by
  unfold dset; split <;> simp
noncomputable def Ow.dt : Ow → Option Dt
  | ⟨_, _, .lst l⟩ => some (.lst l)
  | ⟨_, _, .dic l⟩ => some (.dic l)
  | ⟨_, _, .inst C fs⟩ => some (.inst C fs)
  | _ => none
noncomputable def Sees (F : Frame) (W : Fz) (v : Value) (d : Dt) : Prop := Rep W v d ∨ ∃ p ∈ F.own, v = .ref p.a ∧ p.dt = some d
theorem Sees.mono {F : Frame} {W W' : Fz} {v : Value} {d : Dt} (hs : Sub W W') : Sees F W v d → Sees F W' v d
  | .inl r => .inl (r.mono hs)
  | .inr r => .inr r
noncomputable def EvS (c : Cx) (F : Frame) (e : Expr) (d : Dt) : Prop := ∀ W₁, Go c F W₁ (eval e c.env) (fun v W F' => F' = F ∧ Sees F W v d)
section
variable {c : Cx} {F : Frame} {W W₁ : Fz} {h : Heap}
theorem EvS.of {e : Expr} {d : Dt} (h : Ev c F e d) : EvS c F e d := fun W₁ => Go.mono (h W₁) fun v W F' _ r => ⟨r.1, .inl r.2⟩
theorem EvS.own {e : Expr} {d : Dt} {p : Ow} (h : Ev c F e (.val (.ref p.a))) (hp : p ∈ F.own) (hd : p.dt = some d) : EvS c F e d := fun W₁ => Go.mono (h W₁) fun v W F' _ r => ⟨r.1, .inr ⟨p, hp, by cases r.2; rfl, hd⟩⟩
theorem Sees.dict {kvs : List (Int × Dt)} {v : Value} (I : Inv c F W h) (s : Sees F W v (.dic kvs)) : ∃ a l, v = .ref a ∧ h.DictOf (iK c.w) a l ∧ RepV W l kvs ∧ (a == sysModules) = false := by
  rcases s with r | ⟨p, hp, rfl, hd⟩
  · cases r with
    | @dic a es n _ e r nd =>
      obtain ⟨l, r1, r2⟩ := dictOf_out c.w (I.keep _ _ e) r nd.1
      exact ⟨a, l, rfl, r2, r1, nd.2⟩
  · obtain ⟨a, b, o⟩ := p
    cases o <;> simp only [Ow.dt, Option.some.injEq, reduceCtorEq, Dt.dic.injEq] at hd
    subst hd
    obtain ⟨es, n, e, r, nd⟩ := I.own _ hp
    obtain ⟨l, r1, r2⟩ := dictOf_out c.w e r nd.1
    exact ⟨a, l, rfl, r2, r1, nd.2⟩
theorem Go.methP {o : Expr} {name : Str} {apos pos : Pos} {es : List Expr} {f : Value} {ds : List Dt} {R : Value → Fz → Prop} {P : Value → Fz → Frame → Prop} (hR : ∀ v W W', Sub W W' → R v W → R v W')
    (ho : ∀ W₁, Go c F W₁ (eval o c.env) (fun v W F' => F' = F ∧ R v W)) (hm : ∀ W v pl, R v W → Go c F W (getMethod v name pl) (fun r _ F' => F' = F ∧ r = (f, [v]))) (hK : Kept c.w f) (hes : Evs c F es ds)
    (hc : ∀ W v vs, R v W → Reps W vs ds → Go c F W (call f (v :: vs)) P)
    (hst : (backTo pos (starEach es c.env)).any (·.1) = false := by rfl) (hbase : attributeBase o name c.env (eval o c.env) = eval o c.env := by rfl) (hline : (apos.endLine == pos.line) = true := by rfl)
    (hform : methodCallForm (es.length + 0) (backTo pos (starEach es c.env)) [] = true := by rfl) : ∀ W₁, Go c F W₁ (eval (.Call (.Attribute o name apos) es [] pos) c.env) P := fun W₁ => by
  show Go c F W₁ (do
    let ov ← attributeBase o name c.env (eval o c.env)
    standAt apos.atName
    methodCall o name apos pos c.env ov (es.length + 0) (backTo pos (starEach es c.env)) []) _
  rw [hbase]
  refine Go.bind (ho _) (isK fun v W hs r => ?_)
  refine Go.at ?_
  unfold methodCall
  rw [hform]
  refine Go.bind (P := fun x _ F'' => F'' = F ∧ x = (f, [v])) (Go.holding (hm W v _ r)) (isK fun x W2 hs2 e => ?_)
  obtain rfl := e
  have hpos : methodCallPos true o c.env apos pos = Pure.pure pos := by unfold methodCallPos; simp [hline]
  dsimp only
  rw [hpos]
  refine Go.bind (P := fun x _ F'' => F'' = F ∧ x = pos) (Go.pure fun _ _ => ⟨rfl, rfl⟩) (isK fun x W3 hs3 e => ?_)
  obtain rfl := e
  exact Go.callWith hK hes hst fun vs W' hs' r' => hc W' v vs (hR _ _ _ ((hs2.trans hs3).trans hs') r) r'
theorem Ev.dictGet {o e1 e2 : Expr} {apos pos : Pos} {kvs : List (Int × Dt)} {k : Int} {d d' : Dt} (ho : EvS c F o (.dic kvs)) (h1 : Evs c F [e1, e2] [.int k, d]) (hd : (dget kvs k).getD d = d')
    (hst : (backTo pos (starEach [e1, e2] c.env)).any (·.1) = false := by rfl) (hbase : attributeBase o (Str.ofString "get") c.env (eval o c.env) = eval o c.env := by rfl) (hline : (apos.endLine == pos.line) = true := by rfl)
    (hform : methodCallForm (2 + 0) (backTo pos (starEach [e1, e2] c.env)) [] = true := by rfl) : Ev c F (.Call (.Attribute o (Str.ofString "get") apos) [e1, e2] [] pos) d' :=
  Go.methP (R := fun v W => Sees F W v (.dic kvs)) (f := .builtin "dict.get") (fun v W W' hs r => r.mono hs) ho
    (fun W v pl r => fun W' h tk Q E hs I hQ => by
      obtain ⟨a, l, rfl, hd, _, _⟩ := (r.mono hs).dict I
      exact getMethod_builtin (s := St c.s₀ h tk) hd.typeIs PySem.F.plainAttrs_dict PySem.F.slot_dict_get PySem.F.type_dict_get hd.mapOf.noDict (hQ _ W' h tk F I (Sub.refl _) ⟨rfl, rfl⟩))
    (Kept.builtin _ _) h1
    (fun W v vs r rs => by
      (replace rs := Reps.cons_inv rs; obtain ⟨_, _, rfl, r1, rs⟩ := rs)
      (replace r1 := Rep.int_inv r1; obtain ⟨t, rfl⟩ := r1)
      (replace rs := Reps.cons_inv rs; obtain ⟨_, _, rfl, r2, rs⟩ := rs)
      cases rs
      refine Go.fresh_val fun W' h tk Q E hs I hQ => ?_
      obtain ⟨a, l, rfl, hdd, hv, hsys⟩ := (r.mono hs).dict I
      have hd2 : (St c.s₀ h tk).heap.DictOf (iK c.w) a l := hdd
      refine call_meetsIn (s := St c.s₀ h tk) PySem.F.slot_dict_get hd2.typeIs PySem.F.entry_dict_get (PySem.F.args_dict_get_3 _ _ _) (meets_dict_get_default (iK c.w) a (intKind_is prog c.w k t) hsys _) ⟨_, hd2.mapOf, ?_⟩
      refine hQ _ (tk + 1) ?_
      rcases hv.get (k := k) with ⟨g1, g2⟩ | ⟨v', dd, g1, g2, g3⟩
      · rw [g1, ← hd, g2]; exact r2.mono hs
      · rw [g1, ← hd, g2]; exact g3) hst hbase hline hform
end
end
end
section
open PySem PySem.W PySem.Calls PyProof.Rows PySem.Spec
set_option Elab.async false
set_option maxRecDepth 100000
set_option linter.unusedVariables false
set_option linter.unusedSimpArgs false
section
section
variable {c : Cx} {F : Frame} {W W₁ : Fz} {h : Heap}
theorem ads_mid {pre post : List Ow} {p : Ow} {vars : List (Str × Dt)} : Frame.ads ⟨vars, pre ++ p :: post⟩ = pre.flatMap Ow.ads ++ (p.ads ++ post.flatMap Ow.ads) := by simp [Frame.ads]
theorem Inv.own_turn {vars : List (Str × Dt)} {pre post : List Ow} {p p' : Ow} {h' : Heap} (I : Inv c ⟨vars, pre ++ p :: post⟩ W h) (ha : p'.ads = p.ads) (hk : ∀ b o, b ∉ p.ads → h.get? b = some o → h'.get? b = some o) (hp : p'.Ok W h') : Inv c ⟨vars, pre ++ p' :: post⟩ W h' := by
  have hm : ∀ a ∈ p.ads, a ∈ Frame.ads ⟨vars, pre ++ p :: post⟩ := fun a ha => by rw [ads_mid]; simp [ha]
  have eA : Frame.ads ⟨vars, pre ++ p' :: post⟩ = Frame.ads ⟨vars, pre ++ p :: post⟩ := by rw [ads_mid, ads_mid, ha]
  have nd := I.nd
  rw [ads_mid] at nd
  have nd1 := List.nodup_append.mp nd
  have nd2 := List.nodup_append.mp nd1.2.1
  have off : ∀ q, (q ∈ pre ∨ q ∈ post) → ∀ a ∈ q.ads, a ∉ p.ads := fun q hq a hqa hpa => by
    rcases hq with hq | hq
    · exact nd1.2.2 a (List.mem_flatMap.mpr ⟨q, hq, hqa⟩) a (List.mem_append_left _ hpa) rfl
    · exact nd2.2.2 a hpa a (List.mem_flatMap.mpr ⟨q, hq, hqa⟩) rfl
  exact {
    wd := I.wd
    vars := let ⟨m, hn, hm'⟩ := I.vars; ⟨m, hn.at' fun o e => hk _ o (fun q => (I.ads _ (hm _ q)).1 rfl) e, hm'⟩
    base := fun b o hb e => hk b o (fun q => by
      rcases (I.ads _ (hm _ q)).2.2 with q2 | q2
      · exact absurd (Heap.lt_size e) (Nat.not_lt.mpr q2)
      · exact hb q2) (I.base b o hb e)
    sub := I.sub
    keep := fun b o e => hk b o (fun q => by rw [(I.ads _ (hm _ q)).2.1] at e; cases e) (I.keep b o e)
    new := I.new
    hL := I.hL
    wL := I.wL
    own := fun q hq => by
      rcases List.mem_append.mp hq with hq | hq
      · exact (I.own q (List.mem_append_left _ hq)).keeps (Sub.refl _) fun a ha o e => hk a o (off q (.inl hq) a ha) e
      · rcases List.mem_cons.mp hq with rfl | hq
        · exact hp
        · exact (I.own q (List.mem_append_right _ (.tail _ hq))).keeps (Sub.refl _) fun a ha o e => hk a o (off q (.inr hq) a ha) e
    ads := fun a hm => by rw [eA] at hm; exact I.ads a hm
    nd := by rw [eA]; exact I.nd
    bor := I.bor
    hid := fun q hq => ⟨hk _ _ (fun z => (I.hid q hq).2.2.2.1 (hm _ z)) (I.hid q hq).1, (I.hid q hq).2.1, (I.hid q hq).2.2.1, by rw [eA]; exact (I.hid q hq).2.2.2.1, (I.hid q hq).2.2.2.2⟩
    hnd := I.hnd }
theorem Inv.own_drop {vars : List (Str × Dt)} {pre post : List Ow} {p : Ow} (I : Inv c ⟨vars, pre ++ p :: post⟩ W h) : Inv c ⟨vars, pre ++ post⟩ W h := by
  have hs : ∀ a ∈ Frame.ads ⟨vars, pre ++ post⟩, a ∈ Frame.ads ⟨vars, pre ++ p :: post⟩ := fun a ha => by
    rw [ads_mid]; simp only [Frame.ads, List.flatMap_append] at ha
    rcases List.mem_append.mp ha with ha | ha
    · exact List.mem_append_left _ ha
    · exact List.mem_append_right _ (List.mem_append_right _ ha)
  exact {
    wd := I.wd, vars := I.vars, base := I.base, sub := I.sub, keep := I.keep, new := I.new, hL := I.hL, wL := I.wL
    own := fun q hq => I.own q (by
      rcases List.mem_append.mp hq with hq | hq
      · exact List.mem_append_left _ hq
      · exact List.mem_append_right _ (.tail _ hq))
    ads := fun a ha => I.ads a (hs a ha)
    nd := by
      have nd := I.nd
      rw [ads_mid] at nd
      simp only [Frame.ads, List.flatMap_append]
      have nd1 := List.nodup_append.mp nd
      have nd2 := List.nodup_append.mp nd1.2.1
      exact List.nodup_append.mpr ⟨nd1.1, nd2.2.1, fun a ha b hb => nd1.2.2 a ha b (List.mem_append_right _ hb)⟩
    bor := I.bor
    hid := fun q hq => ⟨(I.hid q hq).1, (I.hid q hq).2.1, (I.hid q hq).2.2.1, fun z => (I.hid q hq).2.2.2.1 (hs _ z), (I.hid q hq).2.2.2.2⟩
    hnd := I.hnd }
theorem Inv.freeze1 {a : Addr} {o : Obj} (I : Inv c F W h) (ho : h.get? a = some o) (h1 : a ≠ c.L) (h2 : W a = none) (h3 : a ∉ F.ads) (h4 : c.s₀.heap.objs.size ≤ a) (h5 : ∀ p ∈ c.hid, p.1 ≠ a) : Inv c F (W.put a o) h :=
  have hs := Fz.sub_put h2 (o := o)
  { wd := I.wd.mono hs
    vars := let ⟨m, hn, hm⟩ := I.vars; ⟨m, hn, fun x d e => let ⟨v, p, q⟩ := hm x d e; ⟨v, p, q.mono hs⟩⟩
    base := I.base, sub := I.sub.trans hs
    keep := fun b x e => by
      unfold Fz.put at e; split at e
      · rename_i q; subst q; cases e; exact ho
      · exact I.keep b x e
    new := fun b x e => by
      unfold Fz.put at e; split at e
      · rename_i q; subst q; exact .inr h4
      · exact I.new b x e
    hL := I.hL
    wL := by unfold Fz.put; rw [if_neg (Ne.symm h1)]; exact I.wL
    own := fun p hp => (I.own p hp).keeps hs fun _ _ _ e => e
    ads := fun b hb => ⟨(I.ads b hb).1, by unfold Fz.put; rw [if_neg (show ¬ b = a from fun e => h3 (e ▸ hb))]; exact (I.ads b hb).2.1, (I.ads b hb).2.2⟩
    nd := I.nd
    bor := I.bor
    hid := fun p hp => ⟨(I.hid p hp).1, (I.hid p hp).2.1, by unfold Fz.put; rw [if_neg (h5 p hp)]; exact (I.hid p hp).2.2.1, (I.hid p hp).2.2.2⟩
    hnd := I.hnd }
theorem Inv.freeze {vars : List (Str × Dt)} {pre post : List Ow} {p : Ow} {d : Dt} (I : Inv c ⟨vars, pre ++ p :: post⟩ W h) (hb : c.bor = []) (hd : p.dt = some d) : ∃ W', Sub W W' ∧ Inv c ⟨vars, pre ++ post⟩ W' h ∧ Rep W' (.ref p.a) d := by
  have hp := I.own p (List.mem_append_right _ (.head _))
  have hm : ∀ a ∈ p.ads, a ∈ Frame.ads ⟨vars, pre ++ p :: post⟩ := fun a ha => by rw [ads_mid]; simp [ha]
  have nd := I.nd
  rw [ads_mid] at nd
  have nd1 := List.nodup_append.mp nd
  have nd2 := List.nodup_append.mp nd1.2.1
  have off : ∀ a ∈ p.ads, a ∉ Frame.ads ⟨vars, pre ++ post⟩ := fun a ha hq => by
    simp only [Frame.ads, List.flatMap_append] at hq
    rcases List.mem_append.mp hq with hq | hq
    · exact nd1.2.2 a hq a (List.mem_append_left _ ha) rfl
    · exact nd2.2.2 a ha a hq rfl
  have low : ∀ a ∈ p.ads, c.s₀.heap.objs.size ≤ a := fun a ha => by
    rcases (I.ads a (hm a ha)).2.2 with q | q
    · exact q
    · rw [hb] at q; cases q
  have J := I.own_drop
  have one : ∀ a o, a ∈ p.ads → h.get? a = some o → Inv c ⟨vars, pre ++ post⟩ (W.put a o) h ∧ Sub W (W.put a o) := fun a o ha ho =>
    ⟨J.freeze1 ho (I.ads a (hm a ha)).1 (I.ads a (hm a ha)).2.1 (off a ha) (low a ha) fun q hq e => (I.hid q hq).2.2.2.1 (e ▸ hm a ha), Fz.sub_put (I.ads a (hm a ha)).2.1⟩
  obtain ⟨a, b, o⟩ := p
  cases o <;> simp only [Ow.dt, Option.some.injEq, reduceCtorEq] at hd
  · subst hd
    obtain ⟨vs, n, e, r⟩ := hp
    obtain ⟨x, y⟩ := one a _ (.head _) e
    exact ⟨_, y, x, .lst (Fz.put_self ..) (r.mono y)⟩
  · subst hd
    obtain ⟨es, n, e, r, nd⟩ := hp
    obtain ⟨x, y⟩ := one a _ (.head _) e
    exact ⟨_, y, x, .dic (Fz.put_self ..) (r.mono y) nd⟩
  · subst hd
    obtain ⟨es, n, e, e', r⟩ := hp
    obtain ⟨x, y⟩ := one a _ (.head _) e
    rename_i C fs
    have hbm : b ∈ Ow.ads ⟨a, b, .inst C fs⟩ := by simp [Ow.ads]
    have hab : b ≠ a := fun q => by subst q; simp [Ow.ads] at nd2
    have wb : (W.put a ⟨.ref C, some b, .plain, #[]⟩) b = none := by unfold Fz.put; rw [if_neg hab]; exact (I.ads b (hm b hbm)).2.1
    have x2 := x.freeze1 e' (I.ads b (hm b hbm)).1 wb (off b hbm) (low b hbm) fun q hq e => (I.hid q hq).2.2.2.1 (e ▸ hm b hbm)
    have y2 := Fz.sub_put wb (o := dicO es n)
    exact ⟨_, y.trans y2, x2, .inst (y2 _ _ (Fz.put_self ..)) (Fz.put_self ..) (r.mono (y.trans y2))⟩
theorem Ex.retOwn {sc : Scope} {x : Str} {p1 pos : Pos} {vars : List (Str × Dt)} {pre post : List Ow} {p : Ow} {d : Dt} {P : Fl → Frame → Prop} (hs : c.env.scope = sc) (hx : sc.names.lookup x = some .local) (hb : c.bor = []) (hv : vars.lookup x = some (.val (.ref p.a)))
    (hd : p.dt = some d) (hp : P (.ret d) ⟨vars, pre ++ post⟩) (hdb : (x == ("__debug__" : Str)) = false := by decide) : Ex c ⟨vars, pre ++ p :: post⟩ (.Return (some (.Name x p1)) pos) P := fun W₁ => by
  rw [exec_Return_some]
  refine Go.at (Go.bind (Ev.name (d := .val (.ref p.a)) hs hx hv hdb _) (isK fun v W hs' r => ?_))
  cases r
  intro W' h tk Q E hs2 I hQ
  obtain ⟨W2, s2, I2, r2⟩ := I.freeze hb hd
  exact wpAny_pure (hQ _ W2 h tk _ I2 s2 ⟨.ret d, r2, hp⟩)
theorem Inv.big (I : Inv c F W h) : 333 < h.objs.size := by
  obtain ⟨_, _, _, _, _, X, _⟩ := I.wd.at I.keep
  obtain ⟨o, e⟩ := Option.isSome_iff_exists.mp (show ((Mine.hd.heap_1 c.w.params).lookup 333).isSome = true from rfl)
  exact Heap.lt_size (X 333 o e)
theorem Ex.assignDict {sc : Scope} {x : Str} {dpos pos' pos : Pos} {P : Fl → Frame → Prop} (hs : c.env.scope = sc) (hx : sc.names.lookup x = some .local) (hp : ∀ a, P .next ⟨(x, .val (.ref a)) :: F.vars, ⟨a, 0, .dic []⟩ :: F.own⟩)
    (hsw : swapsWith (.Dict [] [] dpos) (some (.Name x pos')) pos.line c.env = Pure.pure false := by rfl) : Ex c F (.Assign [.Name x pos'] (.Dict [] [] dpos) pos) P :=
  Ex.assignP hs hx (fun W₁ W h tk Q E hs I hQ => wpAny_Dict_empty (s := St c.s₀ h tk) (hQ _ W _ tk ⟨F.vars, ⟨h.objs.size, 0, .dic []⟩ :: F.own⟩
    (I.push_own (dicO #[] 0) ⟨h.objs.size, 0, .dic []⟩ rfl ⟨#[], 0, Heap.get?_push_size _ rfl, .nil, List.nodup_nil, by have := ltN I.big; exact beq_eq_false_iff_ne.mpr (neA (.inr (by show 1 < _; omega)))⟩) (Sub.refl _)
    ⟨_, .val _, hp _⟩)) hsw
theorem Ex.setDict {o i value : Expr} {pos' pos : Pos} {vars : List (Str × Dt)} {pre post : List Ow} {a b : Addr} {kvs : List (Int × Dt)} {k : Int} {d : Dt} {P : Fl → Frame → Prop}
    (hv : Ev c ⟨vars, pre ++ ⟨a, b, .dic kvs⟩ :: post⟩ value d) (ho : Ev c ⟨vars, pre ++ ⟨a, b, .dic kvs⟩ :: post⟩ o (.val (.ref a))) (hi : Ev c ⟨vars, pre ++ ⟨a, b, .dic kvs⟩ :: post⟩ i (.int k))
    (hsz : kvs.length ≤ 100000) (hp : P .next ⟨vars, pre ++ ⟨a, b, .dic (dset kvs k d)⟩ :: post⟩)
    (hs : swapsWith value (some (.Subscript o i pos')) pos.line c.env = Pure.pure false := by rfl) : Ex c ⟨vars, pre ++ ⟨a, b, .dic kvs⟩ :: post⟩ (.Assign [.Subscript o i pos'] value pos) P := fun W₁ W h tk Q E hW I hQ => by
  refine wpAny_Assign_Subscript ?_ hs
  refine hv W W h tk _ _ (Sub.refl _) I (isQ fun v W1 h1 tk1 I1 hs1 r1 => ?_)
  refine ho W1 W1 h1 tk1 _ _ (Sub.refl _) I1 (isQ fun ov W2 h2 tk2 I2 hs2 r2 => ?_)
  refine hi W2 W2 h2 tk2 _ _ (Sub.refl _) I2 (isQ fun iv W3 h3 tk3 I3 hs3 r3 => ?_)
  cases r2
  (replace r3 := Rep.int_inv r3; obtain ⟨t, rfl⟩ := r3)
  obtain ⟨es, n, e, r, nd⟩ := I3.own ⟨a, b, .dic kvs⟩ (List.mem_append_right _ (.head _))
  obtain ⟨l, g1, g2⟩ := dictOf_out c.w e r nd.1
  refine wpAny_setItem_pairs (s := St c.s₀ h3 tk3) (knd := iK c.w) (intKind_is prog c.w k t) g2 (fun h' hd' hs' => ?_) (by rw [g1.length]; exact Nat.le_trans hsz (by decide))
  obtain ⟨es', n', e', r', nd'⟩ := dictOf_back hd' (RepV.stored (k := k) (r1.mono (hs2.trans hs3)) g1)
  have I4 : Inv c ⟨vars, pre ++ ⟨a, b, .dic (dset kvs k d)⟩ :: post⟩ W3 h' := I3.own_turn rfl (fun b' o' hb' e => hs'.extBut b' o' (fun q => hb' (by simp [Ow.ads, q])) e) ⟨es', n', e', r', nd', nd.2⟩
  exact hQ .next W3 h' _ _ I4 ((hs1.trans hs2).trans hs3) ⟨.next, trivial, hp⟩
theorem Ex.augDict {o value : Expr} {x : Str} {px pos' pos : Pos} {vars : List (Str × Dt)} {pre post : List Ow} {a b : Addr} {kvs : List (Int × Dt)} {k i j : Int} {P : Fl → Frame → Prop}
    (ho : Ev c ⟨vars, pre ++ ⟨a, b, .dic kvs⟩ :: post⟩ o (.val (.ref a))) (hi : Ev c ⟨vars, pre ++ ⟨a, b, .dic kvs⟩ :: post⟩ (.Name x px) (.int k)) (hg : dget kvs k = some (.int i)) (hv : Ev c ⟨vars, pre ++ ⟨a, b, .dic kvs⟩ :: post⟩ value (.int j))
    (hsz : kvs.length ≤ 100000) (hp : P .next ⟨vars, pre ++ ⟨a, b, .dic (dset kvs k (.int (i + j)))⟩ :: post⟩) : Ex c ⟨vars, pre ++ ⟨a, b, .dic kvs⟩ :: post⟩ (.AugAssign (.Subscript o (.Name x px) pos') .Add value pos) P := fun W₁ W h tk Q E hW I hQ => by
  refine wpAny_AugAssign_Subscript ?_
  refine ho W W h tk _ _ (Sub.refl _) I (isQ fun ov W2 h2 tk2 I2 hs2 r2 => ?_)
  refine hi W2 W2 h2 tk2 _ _ (Sub.refl _) I2 (isQ fun iv W3 h3 tk3 I3 hs3 r3 => ?_)
  cases r2
  (replace r3 := Rep.int_inv r3; obtain ⟨t, rfl⟩ := r3)
  obtain ⟨es, n, e, r, nd⟩ := I3.own ⟨a, b, .dic kvs⟩ (List.mem_append_right _ (.head _))
  obtain ⟨l, g1, g2⟩ := dictOf_out c.w e r nd.1
  rcases g1.get (k := k) with ⟨_, q2⟩ | ⟨v0, d0, q1, q2, q3⟩
  · rw [hg] at q2; cases q2
  rw [hg] at q2; cases q2
  (replace q3 := Rep.int_inv q3; obtain ⟨t0, rfl⟩ := q3)
  have g2' : (St c.s₀ h3 tk3).heap.DictOf (iK c.w) a l := g2
  refine wpAny_getItem_of (s := St c.s₀ h3 tk3) (knd := iK c.w) (intKind_is prog c.w k t) g2'.mapOf q1 ?_
  refine hv W3 W3 h3 (tk3 + 1) _ _ (Sub.refl _) I3 (isQ fun v W4 h4 tk4 I4 hs4 r4 => ?_)
  (replace r4 := Rep.int_inv r4; obtain ⟨t4, rfl⟩ := r4)
  refine PySem.P.iadd_int (s := St c.s₀ h4 tk4) ?_
  obtain ⟨es, n, e, r, nd⟩ := I4.own ⟨a, b, .dic kvs⟩ (List.mem_append_right _ (.head _))
  obtain ⟨l, g1, g2⟩ := dictOf_out c.w e r nd.1
  refine wpAny_setItem_pairs (s := St c.s₀ h4 (tk4 + 1)) (knd := iK c.w) (intKind_is prog c.w k t) g2 (fun h' hd' hs' => ?_) (by rw [g1.length]; exact Nat.le_trans hsz (by decide))
  obtain ⟨es', n', e', r', nd'⟩ := dictOf_back hd' (RepV.stored (k := k) (.int (i + j) (tk4 + 1)) g1)
  have I5 : Inv c ⟨vars, pre ++ ⟨a, b, .dic (dset kvs k (.int (i + j)))⟩ :: post⟩ W4 h' := I4.own_turn rfl (fun b' o' hb' e => hs'.extBut b' o' (fun q => hb' (by simp [Ow.ads, q])) e) ⟨es', n', e', r', nd', nd.2⟩
  exact hQ .next W4 h' _ _ I5 ((hs2.trans hs3).trans hs4) ⟨.next, trivial, hp⟩
theorem Gi.dic {kvs : List (Int × Dt)} {k : Int} {d : Dt} (hg : dget kvs k = some d) : Gi (.dic kvs) (.int k) d := fun c F W₁ a b ha hb => by
  (replace hb := Rep.int_inv hb; obtain ⟨t, rfl⟩ := hb)
  refine Go.fresh_val fun W h tk Q E hs I hQ => ?_
  obtain ⟨a, l, rfl, g2, g1, _⟩ := Sees.dict I (.inl (ha.mono hs))
  rcases g1.get (k := k) with ⟨_, q2⟩ | ⟨v0, d0, q1, q2, q3⟩
  · rw [hg] at q2; cases q2
  rw [hg] at q2; cases q2
  have g2' : (St c.s₀ h tk).heap.DictOf (iK c.w) a l := g2
  exact wpAny_getItem_of (s := St c.s₀ h tk) (knd := iK c.w) (intKind_is prog c.w k t) g2'.mapOf q1 (hQ _ _ q3)
theorem Te.inDict {l r : Expr} {pos : Pos} {kvs : List (Int × Dt)} {k : Int} (h1 : Ev c F l (.int k)) (h2 : EvS c F r (.dic kvs)) (hm : behindInMarks .In r = false := by rfl) : Te c F (.Compare l [.In] [r] pos) (dget kvs k).isSome := fun W₁ => by
  refine Go.bind (h1 _) (isK fun a W hs r1 => ?_)
  show Go c F W (do let rv ← PySem.holding [a] (markedBehindIn .In r (eval r c.env)); standAt pos; let x ← PySem.operate [a, rv] (compareOp .In a rv); PySem.holding [x] (truthy x)) _
  rw [markedBehindIn_of_false hm]
  refine Go.bind (Go.holding (h2 _)) (isK fun y W' hs' r2 => ?_)
  refine Go.at (Go.bind (P := Is F (.bool (dget kvs k).isSome)) (Go.operate (Go.fresh_val fun W h tk Q E hs I hQ => ?_)) fun z W3 F3 hs3 r3 => ?_)
  · (replace r1 := Rep.int_inv r1; obtain ⟨t, rfl⟩ := r1)
    obtain ⟨a, l, rfl, g2, g1, hsys⟩ := Sees.dict I (r2.mono hs)
    have g2' : (St c.s₀ h tk).heap.DictOf (iK c.w) a l := g2
    refine wpAny_in_of (s := St c.s₀ h tk) (knd := iK c.w) (intKind_is prog c.w k t) hsys g2'.mapOf ?_
    have e : (valueAt l k).isSome = (dget kvs k).isSome := by
      rcases g1.get (k := k) with ⟨q1, q2⟩ | ⟨v0, d0, q1, q2, q3⟩ <;> rw [q1, q2] <;> rfl
    rw [e]
    exact hQ _ _ (.bool _)
  · obtain ⟨rfl, r3⟩ := r3
    exact Go.holding (Tru.bool _ c _ _ z r3)
theorem Ex.appendOwn {o e : Expr} {apos pos spos : Pos} {vars : List (Str × Dt)} {pre post : List Ow} {a b : Addr} {ds : List Dt} {d : Dt} {P : Fl → Frame → Prop} (ho : Ev c ⟨vars, pre ++ ⟨a, b, .lst ds⟩ :: post⟩ o (.val (.ref a))) (he : Evs c ⟨vars, pre ++ ⟨a, b, .lst ds⟩ :: post⟩ [e] [d])
    (hsz : ds.length ≤ 100000) (hp : P .next ⟨vars, pre ++ ⟨a, b, .lst (ds ++ [d])⟩ :: post⟩)
    (hst : (backTo pos (starEach [e] c.env)).any (·.1) = false := by rfl) (hbase : attributeBase o (Str.ofString "append") c.env (eval o c.env) = eval o c.env := by rfl) (hline : (apos.endLine == pos.line) = true := by rfl)
    (hform : methodCallForm (1 + 0) (backTo pos (starEach [e] c.env)) [] = true := by rfl)
    (hsw : swapsWith (.Call (.Attribute o (Str.ofString "append") apos) [e] [] pos) none spos.line c.env = Pure.pure false := by rfl) :
    Ex c ⟨vars, pre ++ ⟨a, b, .lst ds⟩ :: post⟩ (.Expr (.Call (.Attribute o (Str.ofString "append") apos) [e] [] pos) spos) P := by
  refine Ex.exprP (fun W₁ => ?_) hsw
  refine Go.methP (R := fun v W => v = .ref a) (f := .builtin "list.append") (fun v W W' hs r => r) (fun W₁ => Go.mono (ho W₁) fun v W F' _ r => ⟨r.1, by cases r.2; rfl⟩)
    (fun W v pl r => fun W' h tk Q E hs I hQ => ?_) (Kept.builtin _ _) he (fun W v vs r rs => ?_) hst hbase hline hform W₁
  · subst r
    obtain ⟨vs, n, e, _⟩ := I.own ⟨a, b, .lst ds⟩ (List.mem_append_right _ (.head _))
    exact getMethod_list_append (s := St c.s₀ h tk) e rfl rfl (hQ _ W' h tk _ I (Sub.refl _) ⟨rfl, rfl⟩)
  · subst r
    obtain ⟨x, _, rfl, r1, rs⟩ := Reps.cons_inv rs
    cases rs
    intro W' h tk Q E hs I hQ
    obtain ⟨vs, n, e, r⟩ := I.own ⟨a, b, .lst ds⟩ (List.mem_append_right _ (.head _))
    have hl : vs.toList.length = ds.length := r.length
    refine list_append_own (s := St c.s₀ h tk) e (fun h' n' hl' hs' => ?_) (by rw [← Array.length_toList, hl]; exact Nat.le_trans hsz (by decide))
    have I4 : Inv c ⟨vars, pre ++ ⟨a, b, .lst (ds ++ [d])⟩ :: post⟩ W' h' := I.own_turn rfl (fun b' o' hb' e => hs'.extBut b' o' (fun q => hb' (by simp [Ow.ads, q])) e) ⟨_, n', hl', by rw [Array.toList_push]; exact Reps.snoc (r1.mono hs) r⟩
    exact hQ .none W' h' tk _ I4 (Sub.refl _) ⟨(fun _ e => nomatch e), hp⟩
end
end
end
section
open PySem PySem.W PySem.Calls PyProof.Rows PySem.Spec
set_option Elab.async false
set_option maxRecDepth 100000
set_option linter.unusedVariables false
set_option linter.unusedSimpArgs false
section
section
variable {c : Cx} {F : Frame} {W W₁ : Fz} {h : Heap}
noncomputable def rngD (n : Nat) : List Dt := (List.range n).map fun i => Dt.int ((i : Nat) : Int)
theorem Its.range {tg x : Expr} {p pos : Pos} {n : Nat} {id : Str} (hf : Ev c F (.Name id p) (.val (.type "range"))) (hx : Evs c F [x] [.int (n : Int)]) (hn : n ≤ 100000)
    (hst : (backTo pos (starEach [x] c.env)).any (·.1) = false := by rfl) : Its c F tg (.Call (.Name id p) [x] [] pos) (rngD n) := fun W h tk Q E I hQ => by
  have g : Go c F W (eval (.Call (.Name id p) [x] [] pos) c.env) (fun v W' F' => F' = F ∧ ∃ a t u v', v = .ref a ∧ W' a = some { cls := .type "range", dict := none, data := .fields #[.int 0 t, .int n u, .int 1 v'], slots := #[] }) := by
    show Go c F W (do PySem.callWith pos (← eval (.Name id p) c.env) [] (backTo pos (starEach [x] c.env)) []) _
    refine Go.bind (hf _) (isK fun v W hs r => ?_)
    cases r
    refine Go.callWith (Kept.type _ _) hx hst fun vs W' hs' r => ?_
    (replace r := Reps.cons_inv r; obtain ⟨_, _, rfl, r, rs⟩ := r)
    cases rs
    (replace r := Rep.int_inv r; obtain ⟨t, rfl⟩ := r)
    intro W2 h2 tk2 Q2 E2 hs2 I2 hQ2
    exact call_range_1 (s := St c.s₀ h2 tk2) (hQ2 _ _ _ (tk2 + 1 + 1) F (I2.push _ rfl) (Fz.sub_put I2.none_size) ⟨rfl, _, _, _, _, rfl, Fz.put_self ..⟩)
  refine g W h tk _ E (Sub.refl _) I fun v W1 h1 tk1 F1 I1 hs1 r1 => ?_
  obtain ⟨rfl, a, t, u, v', rfl, ho⟩ := r1
  refine wpAny_pyIter_range (s := St c.s₀ h1 tk1) (I1.keep _ _ ho) (small_one (by decide) (by decide) (by omega) (by omega)) ?_
  have hz : Builtin.Range.rangeSize 0 (n : Int) 1 = (n : Int) := by rw [rangeSize_one]; split <;> omega
  rw [hz]
  have hl : (rngD n).length = n := by simp [rngD]
  refine hQ h1.objs.size [(h1.objs.size, _)] _ W1 h1 _ tk1 I1 hs1 (I1.push_hid _ rfl) ?_ (Pul.of_walks (T := "range_iterator") (fp := [h1.objs.size]) (P := fun i v => ∃ t, i < n ∧ v = .int (0 + i * 1) t)
    (Stt := fun i h => i ≤ n ∧ IsRangeIter h h1.objs.size (0 + (i : Nat) * 1) ((n : Int) - (i : Nat)) 1) (fun A hh => ?_) (fun i v W' hs hv => ?_) (by decide) ?_ ?_) (fun b o e => Heap.get?_push_of_some _ e) (by rw [Heap.size_push]; exact Nat.le_succ _) (by simp)
  · exact ⟨_, rfl, fun h5 e5 k5 => ⟨Nat.zero_le _, by simpa using e5⟩⟩
  · rw [hl]
    have w := Walks.range (prog := prog) (w := c.w) hh h1.objs.size 0 1 n
    exact { sub := w.sub, frame := fun i h h' st hk => ⟨st.1, w.frame i h h' st.2 hk⟩
            item := fun i s Q E hi st hQ => w.item i s Q E hi st.2 fun v h' tk hv st' => hQ v h' tk (by obtain ⟨t, e⟩ := hv; exact ⟨t, hi, e⟩) ⟨hi, st'⟩
            done := fun s Q E st hQ => w.done s Q E st.2 hQ
            self := fun i s Q E st hQ => w.self i s Q E st.2 hQ }
  · obtain ⟨t, hi, rfl⟩ := hv
    exact ⟨.int i, by simp [rngD, hi], by simpa using Rep.int (W := W') (i : Int) t⟩
  · rintro i h ⟨_, st⟩; exact ⟨_, st, rfl⟩
  · intro b hb
    rw [List.mem_singleton] at hb; exact .inl hb
noncomputable def signsD (x : Str) : List Dt := x.cps.toList.map fun c => .str ⟨#[c]⟩
theorem Itv.str {tg : Expr} {x : Str} : Itv tg (.str x) (signsD x) := fun c F v W h tk Q E I r hQ => by
  (replace r := Rep.str_inv r; obtain ⟨t, rfl⟩ := r)
  have hl : (signsD x).length = x.cps.size := by simp [signsD]
  have key : ∀ T : String, (T = "str_ascii_iterator" ∨ T = "str_iterator") → Q (.ref h.objs.size) (St c.s₀ (h.push { cls := .type T, data := .fields #[.str x t, .int 0 0] }) tk) := fun T hT => by
    refine hQ h.objs.size [(h.objs.size, _)] _ _ tk (I.push_hid _ rfl) ?_ (Pul.of_walks (T := T) (fp := [h.objs.size]) (P := SignAt x) (Stt := fun i h' => h'.IsStrIter h.objs.size T x t i) (fun A hh => ?_) (fun i v W' hs hv => ?_) ?_ ?_ ?_)
      (fun b o e => Heap.get?_push_of_some _ e) (by rw [Heap.size_push]; exact Nat.le_succ _) (by simp)
    · exact ⟨_, rfl, fun h5 e5 k5 => ⟨_, e5, rfl, rfl⟩⟩
    · rw [hl]
      rcases hT with rfl | rfl
      · exact Walks.strAscii hh _ x t
      · exact Walks.strWide hh _ x t
    · obtain ⟨c1, u, e, rfl⟩ := hv
      exact ⟨.str ⟨#[c1]⟩, by simp [signsD, e], .str _ _⟩
    · rcases hT with rfl | rfl <;> decide
    · rintro i h ⟨o, ho, hc, _⟩; exact ⟨o, ho, hc⟩
    · intro b hb
      rw [List.mem_singleton] at hb; exact .inl hb
  cases ha : x.cps.all (· < 128)
  · exact wpAny_pyIter_wide (s := Mine.St c.s₀ h tk) ha (key _ (.inr rfl))
  · exact wpAny_pyIter_ascii (s := Mine.St c.s₀ h tk) ha (key _ (.inl rfl))
theorem Itv.keys {tg : Expr} {kvs : List (Int × Dt)} : Itv tg (.dic kvs) (kvs.map fun p => .int p.1) := fun c F v W h tk Q E I r hQ => by
  cases r with
  | @dic a es n kvs e r nd =>
    have hk := I.keep _ _ e
    obtain ⟨l, g1, g2⟩ := dictOf_out c.w hk r nd.1
    obtain ⟨ep, g3⟩ := g2.dictAt
    have hne : a ≠ h.objs.size := Nat.ne_of_lt (Heap.lt_size hk)
    have hl : l.length = (kvs.map fun p => Dt.int p.1).length := by simp [g1.length]
    refine wpAny_pyIter_dict (s := Mine.St c.s₀ h tk) (knd := iK c.w) (kvs := l) (ep := ep) nd.2 g3 (hQ h.objs.size [(h.objs.size, _)] _ _ tk (I.push_hid _ rfl) ?_
      (Pul.of_walks (T := "dict_keyiterator") (fp := [h.objs.size, a]) (P := fun i v => ∃ k x, l[i]? = some (k, x) ∧ (iK c.w).is k v = true) (Stt := fun i h' => h'.IsKeyIter h.objs.size a i l.length ep ∧ h'.DictAt (iK c.w) a l ep)
        (fun A hh => hl ▸ Walks.dictKeys (prog := prog) (w := c.w) (knd := iK c.w) hh h.objs.size a hne l ep) (fun i v W' hs hv => ?_) (by decide) ?_ ?_) (fun b o e => Heap.get?_push_of_some _ e) (by rw [Heap.size_push]; exact Nat.le_succ _) (by simp))
    · exact ⟨_, rfl, fun h5 e5 k5 => ⟨⟨_, e5, rfl, rfl⟩, g3.at' fun o q => by rw [hk] at q; cases q; exact k5 _ _ e⟩⟩
    · obtain ⟨k, x, hi, hk'⟩ := hv
      obtain ⟨t, rfl⟩ := Value.isInt_shape hk'
      refine ⟨.int k, ?_, .int _ _⟩
      have e1 : l.map Prod.fst = kvs.map Prod.fst := g1.keys
      have e2 : (l.map Prod.fst)[i]? = some k := by simp [hi]
      rw [e1] at e2
      simp only [List.getElem?_map, Option.map_eq_some_iff] at e2 ⊢
      obtain ⟨p, hp, rfl⟩ := e2
      exact ⟨p, hp, rfl⟩
    · rintro i h ⟨⟨o, ho, hc, _⟩, _⟩; exact ⟨o, ho, hc⟩
    · intro b hb
      rcases List.mem_cons.mp hb with rfl | hb
      · exact .inl rfl
      · rw [List.mem_singleton] at hb; subst hb; exact .inr ⟨_, e⟩
theorem RepV.at {W : Fz} {l l'} {i : Nat} {k : Int} {v : Value} (r : RepV W l l') (e : l[i]? = some (k, v)) : ∃ d, l'[i]? = some (k, d) ∧ Rep W v d := by
  induction l generalizing l' i with
  | nil => cases e
  | cons p l ih =>
    obtain ⟨d, l', rfl, a, r⟩ := RepV.cons_inv (k := p.1) (v := p.2) r
    cases i with
    | zero => cases e; exact ⟨_, rfl, a⟩
    | succ i => rw [List.getElem?_cons_succ] at e ⊢; exact ih r e
theorem dictView {o : Expr} {name : Str} {apos pos : Pos} {kvs : List (Int × Dt)} {f T : String} {B : Builtin} (slot : Slot "dict" name f) (hty : typeOf (.builtin f) = Pure.pure (.type "method_descriptor")) (entry : entryFor table f = some B)
    (args : ∀ a, argsOk f ⟨[a], []⟩)
    (hm : ∀ (w : World) (d : Addr), (d == sysModules) = false → MeetsIn prog w (B ⟨[.ref d], []⟩) (fun _ R s => (∃ kvs, s.heap.DictOf (iK w) d kvs) ∧ R (.ok (.ret (.ref s.heap.objs.size))) { s with heap := s.heap.push { cls := .type T, data := .fields #[.ref d] } }))
    (ho : Ev c F o (.dic kvs)) (hbase : attributeBase o name c.env (eval o c.env) = eval o c.env) (hline : (apos.endLine == pos.line) = true) :
    ∀ W₁, Go c F W₁ (eval (.Call (.Attribute o name apos) [] [] pos) c.env) (fun v W' F' => F' = F ∧ ∃ a d, v = .ref a ∧ W' a = some { cls := .type T, data := .fields #[.ref d] } ∧ Rep W' (.ref d) (.dic kvs)) :=
  Go.methP (R := fun v W => Rep W v (.dic kvs)) (f := .builtin f) (ds := []) (fun v W W' hs r => r.mono hs) (fun W₁ => ho W₁)
    (fun W v pl r => fun W' h tk Q E hs I hQ => by
      obtain ⟨a, l, rfl, hd, _, _⟩ := Sees.dict I (.inl (r.mono hs))
      exact getMethod_builtin (s := St c.s₀ h tk) (show (St c.s₀ h tk).heap.DictOf (iK c.w) a l from hd).typeIs PySem.F.plainAttrs_dict slot hty (show (St c.s₀ h tk).heap.DictOf (iK c.w) a l from hd).mapOf.noDict (hQ _ W' h tk F I (Sub.refl _) ⟨rfl, rfl⟩))
    (Kept.builtin _ _) Evs.nil
    (fun W v vs r rs => by
      cases rs
      intro W' h tk Q E hs I hQ
      obtain ⟨a, l, rfl, hdd, hv, hsys⟩ := Sees.dict I (.inl (r.mono hs))
      have hd2 : (St c.s₀ h tk).heap.DictOf (iK c.w) a l := hdd
      refine call_meetsIn (s := St c.s₀ h tk) slot hd2.typeIs entry (args _) (hm c.w a hsys) ⟨⟨l, hd2⟩, ?_⟩
      exact hQ _ _ _ tk F (I.push _ rfl) (Fz.sub_put I.none_size) ⟨rfl, _, a, rfl, Fz.put_self .., (r.mono hs).mono (Fz.sub_put I.none_size)⟩) rfl hbase hline rfl
theorem Its.values {o tg : Expr} {apos pos : Pos} {kvs : List (Int × Dt)} (ho : Ev c F o (.dic kvs)) (hbase : attributeBase o (Str.ofString "values") c.env (eval o c.env) = eval o c.env := by rfl) (hline : (apos.endLine == pos.line) = true := by rfl) :
    Its c F tg (.Call (.Attribute o (Str.ofString "values") apos) [] [] pos) (kvs.map Prod.snd) := fun W h tk Q E I hQ => by
  refine dictView PySem.F.slot_dict_values PySem.F.type_dict_values PySem.F.entry_dict_values (fun a => PySem.F.args_dict_values_1 a) (fun w d hd => meets_dict_values (iK w) d hd) ho hbase hline W W h tk _ E (Sub.refl _) I fun v W1 h1 tk1 F1 I1 hs1 r1 => ?_
  obtain ⟨rfl, va, d, rfl, hva, r⟩ := r1
  cases r with
  | @dic _ es n kvs e r nd =>
    have hk := I1.keep _ _ e
    obtain ⟨l, g1, g2⟩ := dictOf_out c.w hk r nd.1
    obtain ⟨ep, g3⟩ := g2.dictAt
    have hne : d ≠ h1.objs.size := Nat.ne_of_lt (Heap.lt_size hk)
    have hl : l.length = (kvs.map Prod.snd).length := by simp [g1.length]
    refine wpAny_pyIter_values (s := Mine.St c.s₀ h1 tk1) (knd := iK c.w) (kvs := l) (ep := ep) ⟨_, I1.keep _ _ hva, rfl, rfl⟩ g3 (hQ h1.objs.size [(h1.objs.size, _)] _ W1 h1 _ tk1 I1 hs1 (I1.push_hid _ rfl) ?_
      (Pul.of_walks (T := "dict_valueiterator") (fp := [h1.objs.size, d]) (P := fun i v => ∃ k, l[i]? = some (k, v)) (Stt := fun i h' => h'.IsValIter h1.objs.size d i l.length ep ∧ h'.DictAt (iK c.w) d l ep)
        (fun A hh => hl ▸ Walks.dictValues (prog := prog) (w := c.w) (knd := iK c.w) hh h1.objs.size d hne l ep) (fun i v W' hs hv => ?_) (by decide) ?_ ?_) (fun b o e => Heap.get?_push_of_some _ e) (by rw [Heap.size_push]; exact Nat.le_succ _) (by simp))
    · exact ⟨_, rfl, fun h5 e5 k5 => ⟨⟨_, e5, rfl, rfl⟩, g3.at' fun o q => by rw [hk] at q; cases q; exact k5 _ _ e⟩⟩
    · obtain ⟨k, hi⟩ := hv
      obtain ⟨d, hd, r⟩ := RepV.at (g1.mono hs) hi
      exact ⟨d, by simp [hd], r⟩
    · rintro i h ⟨⟨o, ho, hc, _⟩, _⟩; exact ⟨o, ho, hc⟩
    · intro b hb
      rcases List.mem_cons.mp hb with rfl | hb
      · exact .inl rfl
      · rw [List.mem_singleton] at hb; subst hb; exact .inr ⟨_, e⟩
end
end
end
section
open PySem PySem.W PySem.Calls PyProof.Rows PySem.Spec
set_option Elab.async false
set_option maxRecDepth 100000
set_option linter.unusedVariables false
set_option linter.unusedSimpArgs false
section
section
variable {c : Cx} {F : Frame} {W W₁ : Fz} {h : Heap}
theorem objs_at {h4 : Heap} : ∀ {wr : List Addr}, (∀ b ∈ wr, ∃ o, h4.get? b = some o) → ∃ os' : List (Addr × Obj), os'.map Prod.fst = wr ∧ ∀ p ∈ os', h4.get? p.1 = some p.2
  | [], _ => ⟨[], rfl, fun _ h => nomatch h⟩
  | b :: wr, hl => by
    obtain ⟨o, ho⟩ := hl b (.head _)
    obtain ⟨os', q1, q2⟩ := objs_at (wr := wr) (fun b hb => hl b (.tail _ hb))
    exact ⟨(b, o) :: os', by simp [q1], fun p hp => by
      rcases List.mem_cons.mp hp with rfl | hp
      · exact ho
      · exact q2 p hp⟩
theorem Pul.of_pairs {w : World} {I : Addr} {elts : List Expr} {k : Nat} {pos : Pos} {ds : List Dt} {fp wr : List Addr} {P : Nat → List Value → Prop} {Stt : Nat → Heap → Prop}
    (hw : ∀ A : Around, A.handled = none → ∀ i (s : Shared) (Q : Value → Shared → Prop) E, i < ds.length → Stt i s.heap →
      (∀ vals h', P i vals → h'.get? s.heap.objs.size = some (tupO vals.toArray 0) → Stt (i + 1) h' → (∀ b o, b ∉ wr → s.heap.get? b = some o → h'.get? b = some o) → Q (.ref s.heap.objs.size) { s with heap := h' }) →
      wpAny (model prog w) A (pyNext (.ref I)) (fun r s₁ => match r with
        | none => False
        | some v => wpAny (model prog w) A (letOwnedTupleGo (.Tuple elts k pos) (.ref I) v) (fun _ s₂ => Q v s₂) E s₁) E s)
    (hd : ∀ A : Around, A.handled = none → ∀ (s : Shared) (Q : Option Value → Shared → Prop) E, Stt ds.length s.heap → (∀ h', (∀ b o, b ∉ wr → s.heap.get? b = some o → h'.get? b = some o) → Q none { s with heap := h' }) → wpAny (model prog w) A (pyNext (.ref I)) Q E s)
    (hself : ∀ A : Around, ∀ (s : Shared) (Q : Value → Shared → Prop) E, Stt 0 s.heap → Q (.ref I) s → wpAny (model prog w) A (pyIter (.ref I)) Q E s)
    (hP : ∀ i vals W', Sub W W' → P i vals → ∃ dd, ds[i]? = some (.tup dd) ∧ Reps W' vals dd) (live : ∀ i h, Stt i h → ∀ b ∈ wr, ∃ o, h.get? b = some o)
    (frame : ∀ i h h', Stt i h → (∀ b ∈ fp, ∀ o, h.get? b = some o → h'.get? b = some o) → Stt i h') (hfp : ∀ b ∈ fp, b ∈ wr ∨ ∃ o, W b = some o) :
    Pul w W I (.Tuple elts k pos) ds (fun i os => os.map Prod.fst = wr ∧ ∀ h : Heap, (∀ p ∈ os, h.get? p.1 = some p.2) → (∀ b o, W b = some o → h.get? b = some o) → Stt i h) where
  item := fun c i os F W2 h tk Q E hcw hi st I2 hs hQ => by
    subst hcw
    obtain ⟨e0, st⟩ := st
    have st2 := st h (fun p hp => (I2.hid p (List.mem_append_left _ hp)).1) fun b o e => I2.keep b o (hs b o e)
    refine hw c.A c.hh i (Mine.St c.s₀ h tk) _ _ hi st2 fun vals h4 hv hT st4 hk4 => ?_
    obtain ⟨dd, hd1, r4⟩ := hP i vals W2 hs hv
    have hl := live _ _ st4
    obtain ⟨os', hos1, hos2⟩ : ∃ os' : List (Addr × Obj), os'.map Prod.fst = wr ∧ ∀ p ∈ os', h4.get? p.1 = some p.2 := objs_at hl
    have hT' : h4.get? h.objs.size = some (tupO vals.toArray 0) := hT
    have hk4' : ∀ b o, b ∉ os.map Prod.fst → h.get? b = some o → h4.get? b = some o := fun b o hb e => hk4 b o (by rw [e0] at hb; exact hb) e
    have I4 : Inv (c.hides os') F W2 h4 := I2.turned (by rw [hos1, e0]) hk4' hos2
    have I5 := I4.freeze1 hT' (Nat.ne_of_gt I2.L_lt) I2.none_size (fun q => absurd (I2.ads_lt _ q) (Nat.lt_irrefl _)) I2.size (fun p hp e => by
      have hp' : p.1 ∈ (c.hides os).hid.map Prod.fst := by
        have : p.1 ∈ (c.hides os').hid.map Prod.fst := List.mem_map_of_mem hp
        rw [show (c.hides os').hid = os' ++ c.hid from rfl, List.map_append, hos1, ← e0, ← List.map_append] at this
        exact this
      obtain ⟨q, hq, eq⟩ := List.mem_map.mp hp'
      have := Heap.lt_size (I2.hid q hq).1
      rw [eq, e] at this; exact absurd this (Nat.lt_irrefl _))
    refine hQ _ (.tup dd) os' _ h4 tk hd1 ⟨hos1, fun h6 q1 q2 => ?_⟩ I5 (Fz.sub_put I2.none_size) (.tup (Fz.put_self ..) (by simpa using r4.mono (Fz.sub_put I2.none_size)))
    refine frame _ _ _ st4 fun b hb o e => ?_
    rcases hfp b hb with hb | ⟨ob, hob⟩
    · rw [← hos1] at hb
      obtain ⟨p, hp, rfl⟩ := List.mem_map.mp hb
      rw [hos2 p hp] at e; cases e
      exact q1 p hp
    · have e1 := I4.keep b ob (hs _ _ hob)
      rw [e] at e1; cases e1
      exact q2 b o hob
  done := fun c os F W2 h tk Q E hcw st I2 hs hQ => by
    subst hcw
    obtain ⟨e0, st⟩ := st
    refine hd c.A c.hh (Mine.St c.s₀ h tk) _ _ (st h (fun p hp => (I2.hid p (List.mem_append_left _ hp)).1) fun b o e => I2.keep b o (hs b o e)) fun h4 hk4 => ?_
    exact hQ h4 tk (I2.dropped fun b o hb e => hk4 b o (by rw [e0] at hb; exact hb) e)
  self := fun c os F W2 h tk Q E hcw st I2 hs hQ => by
    subst hcw
    obtain ⟨e0, st⟩ := st
    exact hself c.A (Mine.St c.s₀ h tk) _ _ (st h (fun p hp => (I2.hid p (List.mem_append_left _ hp)).1) fun b o e => I2.keep b o (hs b o e)) hQ
theorem entry_itemiter_iter : entryFor table "dict_itemiterator.__iter__" = some Builtin.«dict_keyiterator.__iter__» :=
  entryFor_alias (id' := "dict_keyiterator.__iter__") (by kernel_rfl) (by first | rfl | decide +kernel | (unfold String.splitOn; simp +decide [String.splitOnAux])) (by decide +kernel) (by kernel_rfl)
theorem pyIter_items_self {w : World} {A : Around} {it d : Addr} {i n ep : Nat} {ok ov : Value} {s : Shared} {Q : Value → Shared → Prop} {E : Value → Shared → Prop} (hit : IsItemIter s.heap it d i n ep ok ov) (h : Q (.ref it) s) : wpAny (model prog w) A (pyIter (.ref it)) Q E s := by
  have hT : s.TypeIs (.ref it) "dict_itemiterator" := ⟨_, hit, rfl⟩
  refine wpAny_pyIter_slot hT PySem.F.slot_dict_itemiterator_iter (wpAny_call_entry PySem.F.slot_dict_itemiterator_iter hT entry_itemiter_iter ?_ (PySem.F.args_dict_itemiterator_iter_1 _))
  exact wpAny_pure ⟨_, rfl, "dict_itemiterator", _, hT, PySem.F.slot_dict_itemiterator_next.lookup, h⟩
theorem Its.items {o : Expr} {elts : List Expr} {kk : Nat} {tpos apos pos : Pos} {kvs : List (Int × Dt)} (ho : Ev c F o (.dic kvs)) (hbase : attributeBase o (Str.ofString "items") c.env (eval o c.env) = eval o c.env := by rfl) (hline : (apos.endLine == pos.line) = true := by rfl) :
    Its c F (.Tuple elts kk tpos) (.Call (.Attribute o (Str.ofString "items") apos) [] [] pos) (kvs.map fun p => .tup [.int p.1, p.2]) := fun W h tk Q E I hQ => by
  refine dictView PySem.F.slot_dict_items PySem.F.type_dict_items PySem.F.entry_dict_items (fun a => PySem.F.args_dict_items_1 a) (fun w d hd => meets_dict_items (iK w) d hd) ho hbase hline W W h tk _ E (Sub.refl _) I fun v W1 h1 tk1 F1 I1 hs1 r1 => ?_
  obtain ⟨rfl, va, d, rfl, hva, r⟩ := r1
  cases r with
  | @dic _ es n kvs e r nd =>
    have hk := I1.keep _ _ e
    obtain ⟨l, g1, g2⟩ := dictOf_out c.w hk r nd.1
    obtain ⟨ep, g3⟩ := g2.dictAt
    have hne : d ≠ h1.objs.size := Nat.ne_of_lt (Heap.lt_size hk)
    have hl : (kvs.map fun p => Dt.tup [.int p.1, p.2]).length = l.length := by simp [g1.length]
    refine wpAny_pyIter_items (s := Mine.St c.s₀ h1 tk1) (knd := iK c.w) (kvs := l) (ep := ep) ⟨_, I1.keep _ _ hva, rfl, rfl⟩ g3 (hQ h1.objs.size [(h1.objs.size, _)] _ W1 h1 _ tk1 I1 hs1 (I1.push_hid _ rfl) ?_
      (Pul.of_pairs (fp := [h1.objs.size, d]) (wr := [h1.objs.size]) (P := fun i vals => ∃ k v key, l[i]? = some (k, v) ∧ (iK c.w).is k key = true ∧ vals = [key, v])
        (Stt := fun i h' => (∃ ok ov, IsItemIter h' h1.objs.size d i l.length ep ok ov) ∧ h'.DictAt (iK c.w) d l ep)
        (fun A hh i s Q E hi st hQ => ?_) (fun A hh s Q E st hQ => ?_) (fun A s Q E st hQ => ?_) (fun i vals W' hs hv => ?_) ?_ ?_ ?_) (fun b o e => Heap.get?_push_of_some _ e) (by rw [Heap.size_push]; exact Nat.le_succ _) (by simp))
    · exact ⟨rfl, fun h5 e5 k5 => ⟨⟨_, _, e5 _ (.head _)⟩, g3.at' fun o q => by rw [hk] at q; cases q; exact k5 _ _ e⟩⟩
    · obtain ⟨⟨ok, ov, hit⟩, hm⟩ := st
      obtain ⟨⟨k, x⟩, hx⟩ : ∃ p, l[i]? = some p := ⟨l[i]'(by rw [← hl]; exact hi), by simp⟩
      refine wpAny_pyNext_items_item hit hm hx fun key h' hkey hout hT hsz hk' => ?_
      have hneT : s.heap.objs.size ≠ h1.objs.size := fun e => by
        have := Heap.lt_size hit
        rw [e] at this; exact absurd this (Nat.lt_irrefl _)
      refine wpAny_letOwnedTupleGo_items hout fun h'' hit'' hs'' => ?_
      exact hQ [key, x] h'' ⟨k, x, key, hx, hkey, rfl⟩ (hs''.extBut _ _ hneT hT) ⟨⟨_, _, hit''⟩, (hm.at' fun o e => hk' _ o hne e).at' fun o e => hs''.extBut _ o hne e⟩ fun b o hb e => hs''.extBut b o (fun q => hb (by simp [q])) (hk' b o (fun q => hb (by simp [q])) e)
    · obtain ⟨⟨ok, ov, hit⟩, hm⟩ := st
      rw [hl] at hit
      exact wpAny_pyNext_items_end hh hit hm (by simp) fun h' he => hQ h' fun b o hb e => he b o (fun q => hb (by simp [q])) e
    · obtain ⟨⟨ok, ov, hit⟩, hm⟩ := st
      exact pyIter_items_self hit hQ
    · obtain ⟨k, v, key, hi, hkey, rfl⟩ := hv
      obtain ⟨t, rfl⟩ := Value.isInt_shape hkey
      obtain ⟨d, hd, r⟩ := RepV.at (g1.mono hs) hi
      exact ⟨_, by simp [hd], .cons (.int _ _) (.cons r .nil)⟩
    · rintro i h ⟨⟨ok, ov, hit⟩, _⟩ b hb
      rw [List.mem_singleton] at hb; subst hb
      exact ⟨_, hit⟩
    · rintro i h h' ⟨⟨ok, ov, hit⟩, hm⟩ hk'
      exact ⟨⟨ok, ov, hk' _ (.head _) _ hit⟩, hm.at' fun o e => hk' d (.tail _ (.head _)) o e⟩
    · intro b hb
      rcases List.mem_cons.mp hb with rfl | hb
      · exact .inl (.head _)
      · rw [List.mem_singleton] at hb; subst hb; exact .inr ⟨_, e⟩
theorem Inv.hides_new {os : List (Addr × Obj)} {h' : Heap} (I : Inv c F W h) (hk : ∀ b o, h.get? b = some o → h'.get? b = some o) (ho : ∀ p ∈ os, h.objs.size ≤ p.1 ∧ h'.get? p.1 = some p.2) (hn : (os.map Prod.fst).Nodup) : Inv (c.hides os) F W h' :=
  have J := I.grow (W' := W) (h' := h') (Sub.refl _) hk (fun b x e => hk b x (I.keep _ _ e)) (fun b x e => .inl e)
  { wd := J.wd, vars := J.vars, base := J.base, sub := J.sub, keep := J.keep, new := J.new, hL := J.hL, wL := J.wL, own := J.own, ads := J.ads, nd := J.nd, bor := J.bor
    hid := fun p hp => by
      rcases List.mem_append.mp hp with hp | hp
      · obtain ⟨a, b⟩ := ho p hp
        exact ⟨b, fun e => absurd I.L_lt (Nat.not_lt.mpr (e ▸ a)), by
          cases q : W p.1 with
          | none => rfl
          | some o => exact absurd (Heap.lt_size (I.keep _ _ q)) (Nat.not_lt.mpr a), fun q => absurd (I.ads_lt _ q) (Nat.not_lt.mpr a), Nat.le_trans I.size a⟩
      · exact J.hid p hp
    hnd := by
      show ((os ++ c.hid).map Prod.fst).Nodup
      rw [List.map_append]
      refine List.nodup_append.mpr ⟨hn, I.hnd, fun a ha b hb e => ?_⟩
      obtain ⟨p, hp, rfl⟩ := List.mem_map.mp ha
      obtain ⟨q, hq, rfl⟩ := List.mem_map.mp hb
      have := Heap.lt_size (I.hid q hq).1
      rw [← e] at this
      exact absurd this (Nat.not_lt.mpr (ho p hp).1) }
theorem mem1 {α : Type} {b a : α} {l : List α} (q : b = a) : b ∈ a :: l := q ▸ .head _
theorem mem2 {α : Type} {b a x : α} {l : List α} (q : b = a) : b ∈ x :: a :: l := .tail _ (mem1 q)
theorem mem3 {α : Type} {b a x y : α} {l : List α} (q : b = a) : b ∈ x :: y :: a :: l := .tail _ (mem2 q)
theorem mem4 {α : Type} {b a x y z : α} {l : List α} (q : b = a) : b ∈ x :: y :: z :: a :: l := .tail _ (mem3 q)
theorem mem5 {α : Type} {b a x y z u : α} {l : List α} (q : b = a) : b ∈ x :: y :: z :: u :: a :: l := .tail _ (mem4 q)
theorem Its.zip {elts : List Expr} {kk : Nat} {tpos p pos : Pos} {id : Str} {e1 e2 : Expr} {ds1 ds2 : List Dt} (hf : Ev c F (.Name id p) (.val (.type "zip"))) (hx : Evs c F [e1, e2] [.lst ds1, .lst ds2])
    (hst : (backTo pos (starEach [e1, e2] c.env)).any (·.1) = false := by rfl) : Its c F (.Tuple elts kk tpos) (.Call (.Name id p) [e1, e2] [] pos) (List.zipWith (fun a b => Dt.tup [a, b]) ds1 ds2) := fun W h tk Q E I hQ => by
  have main : ∀ (vs : List Value) W1 h1 tk1, Sub W W1 → Inv c F W1 h1 → Reps W1 vs [.lst ds1, .lst ds2] → wpAny (model prog c.w) c.A (call (.type "zip") vs) (fun v s => wpAny (model prog c.w) c.A (pyIter v) Q E s) E (St c.s₀ h1 tk1) := fun vs W1 h1 tk1 hs1 I1 r => by
    obtain ⟨v1, _, rfl, r1, r⟩ := Reps.cons_inv r
    obtain ⟨v2, _, rfl, r2, r⟩ := Reps.cons_inv r
    cases r
    obtain ⟨l1, xs, n1, rfl, q1, r1⟩ := Rep.lst_inv r1
    obtain ⟨l2, ys, n2, rfl, q2, r2⟩ := Rep.lst_inv r2
    have k1 := I1.keep _ _ q1
    have k2 := I1.keep _ _ q2
    have t1 := ltN (Heap.lt_size k1)
    have t2 := ltN (Heap.lt_size k2)
    have hl1 : xs.size = ds1.length := by rw [← r1.length, Array.length_toList]
    have hl2 : ys.size = ds2.length := by rw [← r2.length, Array.length_toList]
    refine call_zip_2 (s := St c.s₀ h1 tk1) ⟨_, k1, rfl, n1, rfl⟩ ⟨_, k2, rfl, n2, rfl⟩ fun h' g1 g2 g3 g4 g5 g6 g7 => ?_
    have e0 : (St c.s₀ h1 tk1).heap.objs.size = h1.objs.size := rfl
    rw [e0] at g1 g2 g3 g4 g5 g6 ⊢
    have D : ZipApart (h1.objs.size + 4) (h1.objs.size + 2) (h1.objs.size + 3) h1.objs.size (h1.objs.size + 1) l1 l2 := by
      constructor <;> exact neA (by omega)
    have g4' := g4
    have g5' := g5
    obtain ⟨o4, j1, j2, j3⟩ := g4'
    obtain ⟨o5, m1, m2, m3⟩ := g5'
    refine wpAny_pyIter_zip (s := St c.s₀ h' tk1) g1 ?_
    have II : Inv (c.hides [(h1.objs.size + 4, _), (h1.objs.size + 2, _), (h1.objs.size + 3, _), (h1.objs.size, o4), (h1.objs.size + 1, o5)]) F W1 h' := I1.hides_new g7 (List.forall_mem_cons.mpr ⟨⟨Nat.le_add_right _ _, g1⟩, List.forall_mem_cons.mpr ⟨⟨Nat.le_add_right _ _, g2⟩, List.forall_mem_cons.mpr ⟨⟨Nat.le_add_right _ _, g3⟩, List.forall_mem_cons.mpr ⟨⟨Nat.le_refl _, j1⟩, List.forall_mem_cons.mpr ⟨⟨Nat.le_add_right _ _, m1⟩, fun _ h => nomatch h⟩⟩⟩⟩⟩) (by
      simp only [List.map_cons, List.map_nil, List.nodup_cons, List.mem_cons, List.not_mem_nil, or_false, not_or, not_false_eq_true, List.nodup_nil, and_true]
      refine ⟨⟨?_, ?_, ?_, ?_⟩, ⟨?_, ?_, ?_⟩, ⟨?_, ?_⟩, ?_⟩ <;> exact neA (by omega))
    have hlen : (List.zipWith (fun a b => Dt.tup [a, b]) ds1 ds2).length = min xs.size ys.size := by simp [hl1, hl2]
    refine hQ (h1.objs.size + 4) _ _ W1 h1 h' tk1 I1 hs1 II ?_
      (Pul.of_pairs (fp := [h1.objs.size + 4, h1.objs.size + 2, h1.objs.size + 3, h1.objs.size, h1.objs.size + 1, l1, l2]) (wr := [h1.objs.size + 4, h1.objs.size + 2, h1.objs.size + 3, h1.objs.size, h1.objs.size + 1])
        (P := fun i vals => ∃ x y, xs[i]? = some x ∧ ys[i]? = some y ∧ vals = [x, y])
        (Stt := fun i h => IsZip h (h1.objs.size + 4) (h1.objs.size + 2) (h1.objs.size + 3) .none ∧ IsPair h (h1.objs.size + 2) (.ref h1.objs.size) (.ref (h1.objs.size + 1)) ∧ (∃ a b, IsPair h (h1.objs.size + 3) a b) ∧ h.IsListIter h1.objs.size l1 i ∧ h.IsListIter (h1.objs.size + 1) l2 i ∧ h.IsList l1 xs ∧ h.IsList l2 ys)
        (fun A hh i s Q E hi st hQ => ?_) (fun A hh s Q E st hQ => ?_) (fun A s Q E st hQ => ?_) (fun i vals W' hs hv => ?_) ?_ ?_ ?_) g7 (by omega) (List.forall_mem_cons.mpr ⟨Nat.le_add_right _ _, List.forall_mem_cons.mpr ⟨Nat.le_add_right _ _, List.forall_mem_cons.mpr ⟨Nat.le_add_right _ _, List.forall_mem_cons.mpr ⟨Nat.le_refl _, List.forall_mem_cons.mpr ⟨Nat.le_add_right _ _, fun _ h => nomatch h⟩⟩⟩⟩⟩)
    · refine ⟨rfl, fun h5 e5 k5 => ⟨e5 _ (.head _), e5 _ (.tail _ (.head _)), ⟨_, _, e5 _ (.tail _ (.tail _ (.head _)))⟩, ⟨o4, e5 _ (.tail _ (.tail _ (.tail _ (.head _)))), j2, j3⟩, ⟨o5, e5 _ (.tail _ (.tail _ (.tail _ (.tail _ (.head _))))), m2, m3⟩, ⟨_, k5 _ _ q1, rfl, n1, rfl⟩, ⟨_, k5 _ _ q2, rfl, n2, rfl⟩⟩⟩
    · rw [hlen] at hi
      obtain ⟨hz, hTI, ⟨a, b, hTO⟩, z1, z2, zl1, zl2⟩ := st
      have hix : i < xs.size := Nat.lt_of_lt_of_le hi (Nat.min_le_left ..)
      have hiy : i < ys.size := Nat.lt_of_lt_of_le hi (Nat.min_le_right ..)
      refine wpAny_pyNext_zip_item D hz hTI hTO z1 z2 zl1 zl2 (Array.getElem?_eq_getElem hix) (Array.getElem?_eq_getElem hiy) fun h'' a1 a2 a3 a4 a5 a6 hk => ?_
      have hne : s.heap.objs.size ≠ h1.objs.size + 4 := Nat.ne_of_gt (Heap.lt_size hz)
      refine wpAny_letOwnedTupleGo_zip a1 fun h3 hz' hs' => ?_
      refine hQ [xs[i], ys[i]] h3 ⟨_, _, Array.getElem?_eq_getElem hix, Array.getElem?_eq_getElem hiy, rfl⟩ (hs'.extBut _ _ hne a5) ⟨hz', hs'.extBut _ _ D.TIz (hk _ _ D.TIz D.TITO D.TIi1 D.TIi2 hTI), ⟨_, _, hs'.extBut _ _ D.TOz a2⟩, a3.extBut hs'.extBut D.i1z, a4.extBut hs'.extBut D.i2z,
        (zl1.at fun o e => hk _ o D.l1z D.l1TO D.l1i1 D.l1i2 e).extBut hs'.extBut D.l1z, (zl2.at fun o e => hk _ o D.l2z D.l2TO D.l2i1 D.l2i2 e).extBut hs'.extBut D.l2z⟩
        fun b o hb e => hs'.extBut _ _ (fun q => hb (by first | exact mem1 q | exact mem2 q | exact mem3 q | exact mem4 q | exact mem5 q)) (hk b o (fun q => hb (by first | exact mem1 q | exact mem2 q | exact mem3 q | exact mem4 q | exact mem5 q)) (fun q => hb (by first | exact mem1 q | exact mem2 q | exact mem3 q | exact mem4 q | exact mem5 q)) (fun q => hb (by first | exact mem1 q | exact mem2 q | exact mem3 q | exact mem4 q | exact mem5 q)) (fun q => hb (by first | exact mem1 q | exact mem2 q | exact mem3 q | exact mem4 q | exact mem5 q)) e)
    · rw [hlen] at st
      obtain ⟨hz, hTI, ⟨a, b, hTO⟩, z1, z2, zl1, zl2⟩ := st
      have hend : xs[min xs.size ys.size]? = none ∨ ys[min xs.size ys.size]? = none := by
        rcases Nat.le_total xs.size ys.size with q | q
        · left; rw [Nat.min_eq_left q]; simp
        · right; rw [Nat.min_eq_right q]; simp
      exact wpAny_pyNext_zip_end hh D hz hTI hTO z1 z2 zl1 zl2 hend fun h' hk => hQ h' fun b o hb e => hk b o (fun q => hb (by first | exact mem1 q | exact mem2 q | exact mem3 q | exact mem4 q | exact mem5 q)) (fun q => hb (by first | exact mem1 q | exact mem2 q | exact mem3 q | exact mem4 q | exact mem5 q)) (fun q => hb (by first | exact mem1 q | exact mem2 q | exact mem3 q | exact mem4 q | exact mem5 q)) (fun q => hb (by first | exact mem1 q | exact mem2 q | exact mem3 q | exact mem4 q | exact mem5 q)) e
    · exact wpAny_pyIter_zip st.1 hQ
    · obtain ⟨x, y, hx, hy, rfl⟩ := hv
      obtain ⟨d1, e1, r1⟩ := r1.getd hs hx
      obtain ⟨d2, e2, r2⟩ := r2.getd hs hy
      exact ⟨_, by simp [List.getElem?_zipWith, e1, e2], .cons r1 (.cons r2 .nil)⟩
    · rintro i h ⟨hz, hTI, ⟨a, b, hTO⟩, ⟨o1, z1, _⟩, ⟨o2, z2, _⟩, _⟩
      exact List.forall_mem_cons.mpr ⟨⟨_, hz⟩, List.forall_mem_cons.mpr ⟨⟨_, hTI⟩, List.forall_mem_cons.mpr ⟨⟨_, hTO⟩, List.forall_mem_cons.mpr ⟨⟨_, z1⟩, List.forall_mem_cons.mpr ⟨⟨_, z2⟩, fun _ h => nomatch h⟩⟩⟩⟩⟩
    · rintro i h h' ⟨hz, hTI, ⟨a, b, hTO⟩, z1, z2, zl1, zl2⟩ hk
      exact ⟨hk _ (.head _) _ hz, hk _ (.tail _ (.head _)) _ hTI, ⟨_, _, hk _ (.tail _ (.tail _ (.head _))) _ hTO⟩, z1.at fun o e => hk _ (.tail _ (.tail _ (.tail _ (.head _)))) o e, z2.at fun o e => hk _ (.tail _ (.tail _ (.tail _ (.tail _ (.head _))))) o e, zl1.at fun o e => hk _ (.tail _ (.tail _ (.tail _ (.tail _ (.tail _ (.head _)))))) o e, zl2.at fun o e => hk _ (.tail _ (.tail _ (.tail _ (.tail _ (.tail _ (.tail _ (.head _))))))) o e⟩
    · exact List.forall_mem_cons.mpr ⟨.inl (.head _), List.forall_mem_cons.mpr ⟨.inl (.tail _ (.head _)), List.forall_mem_cons.mpr ⟨.inl (.tail _ (.tail _ (.head _))), List.forall_mem_cons.mpr ⟨.inl (.tail _ (.tail _ (.tail _ (.head _)))), List.forall_mem_cons.mpr ⟨.inl (.tail _ (.tail _ (.tail _ (.tail _ (.head _))))), List.forall_mem_cons.mpr ⟨.inr ⟨_, q1⟩, List.forall_mem_cons.mpr ⟨.inr ⟨_, q2⟩, fun _ h => nomatch h⟩⟩⟩⟩⟩⟩⟩
  show wpAny _ _ (do PySem.callWith pos (← eval (.Name id p) c.env) [] (backTo pos (starEach [e1, e2] c.env)) []) _ _ _
  refine wpAny_bind (hf W W h tk _ E (Sub.refl _) I (isQ fun v W' h' tk' I' hs' r => ?_))
  cases r
  refine callWith_of (P := fun h => (Mine.hd.heap_1 c.w.params).In h) (by rw [hst]; rfl) (fun h X => Kept.type c.w "zip" _ h X) ?_
  refine Go.evalArgs hst (hx pos W') W' h' tk' _ E (Sub.refl _) I' fun a W2 h2 tk2 F2 I2 hs2 r => ?_
  obtain ⟨rfl, hkw, r⟩ := r
  obtain ⟨_, _, _, _, _, X, _⟩ := I2.wd.at I2.keep
  refine ⟨X, ?_⟩
  rw [hkw]
  exact main a.pos W2 h2 tk2 (hs'.trans hs2) I2 r
end
end
end
local macro_rules | `(tactic| walk_at "nm") => `(tactic| first
  | ((with_reducible apply Ev.name); assumption; rfl; rfl; rfl)
  | exact Ev.builtin ‹_› rfl (fun _ => rfl) rfl (by decide)
  | exact Ev.global ‹_› rfl fun _ => rfl)
local macro_rules | `(tactic| walk_at "side") => `(tactic| first | assumption | decide | omega | (simp only [Str.length_append, lens]; omega) | (simp; done) | (simp; omega))
local macro_rules | `(tactic| walk_at "bop") => `(tactic| first
  | with_reducible first | exact Bop.add_int _ _ | exact Bop.sub_int _ _
  | ((first | refine Bop.mod_int _ _ ?_ | refine Bop.div_int _ _ ?_ | refine Bop.add_str _ _ ?_ | refine Bop.add_lst ?_); walk_at "side")
  | exact Bop.add_int _ _ | exact Bop.sub_int _ _)
local macro_rules | `(tactic| walk_at "cop") => `(tactic| first
  | exact Cop.eq_int _ _ | exact Cop.ne_int _ _ | exact Cop.lt_int _ _ | exact Cop.le_int _ _ | exact Cop.gt_int _ _ | exact Cop.ge_int _ _ | exact Cop.lt_str _ _ | exact Cop.gt_str _ _ | exact Cop.eq_str _ _ | exact Cop.ne_str _ _ | exact Cop.eq_bool _ _
  | exact Cop.is_none _ nofun | exact Cop.isNot_none _ nofun)
local macro_rules | `(tactic| walk_at "kept") => `(tactic| first | exact Kept.builtin _ _ | exact Kept.type _ _ | exact Kept.of rfl)
local macro_rules | `(tactic| walk_at "cal") => `(tactic| first
  | exact Cal.isi_str_str (n := 0) _ | exact Cal.isi_tup_str (n := 0) _ | exact Cal.isi_int_tuple (n := 0) _ | exact Cal.max_int (n := 0) _ _ | (apply Cal.str_int (n := 0); walk_at "side") | assumption)
local macro_rules | `(tactic| walk_at "room") => `(tactic| first | exact Nat.zero_le _ | omega | (simp only [Cx.hides]; omega))
local macro_rules | `(tactic| walk_at "ev") => `(tactic| first
  | ((with_reducible show Ev _ _ (Expr.Name _ _) _); walk_at "nm")
  | with_reducible first | exact Evs.nil | exact Pt.none | exact Ev.int _ _ _ | exact Ev.cstr _ _ _ | exact Ev.cnone _ _ | exact Ev.cbool _ _ _ | exact Ev.cbytes _ _ _
  | ((with_reducible apply Evs.cons); walk_at "ev"; walk_at "ev"; rfl)
  | ((with_reducible apply Ev.binop); walk_at "ev"; walk_at "ev"; walk_at "bop")
  | ((with_reducible apply Ev.slice); walk_at "ev"; walk_at "ev"; walk_at "ev"; first
      | (exact TyD.lst _; exact slot_list_getitem.lookup; refine Sl.lst ?_; walk_at "side"; exact fun _ _ => rfl)
      | (exact TyD.str _; exact F.slot_str_getitem.lookup; refine Sl.str ?_; walk_at "side"; exact fun _ _ => rfl))
  | ((with_reducible apply Ev.sub); walk_at "ev"; walk_at "ev"; first
      | (exact TyD.tup _; exact slot_tuple_getitem.lookup; apply Gi.tup; rfl; rfl; decide; decide; exact fun _ _ => rfl)
      | (exact TyD.lst _; exact slot_list_getitem.lookup; apply Gi.lst; decide; rfl; decide; exact fun _ _ => rfl))
  | ((with_reducible apply Ev.call); walk_at "nm"; walk_at "kept"; walk_at "ev"; walk_at "cal"; walk_at "room"; rfl)
  | ((with_reducible first | apply Ev.compare | apply Te.compare); walk_at "ev"; walk_at "ev"; walk_at "cop"; rfl)
  | ((with_reducible first | apply Ev.tuple | apply Ev.list); walk_at "ev"; first | decide | simp)
  | ((with_reducible first | apply Ev.neg | apply Pt.some | apply Te.and2 | apply Te.or2 | apply Te.or3) <;> walk_at "ev")
  | ((with_reducible apply Te.value); walk_at "ev"; (first | exact Tru.bool _ | exact Tru.int _); rfl)
  | ((with_reducible intro _); walk_at "ev")
  | exact Ev.int _ _ _ | exact Ev.cstr _ _ _)
local macro_rules
  | `(tactic| walk_at "te") => `(tactic| walk_at "ev")
  | `(tactic| walk_at "evs") => `(tactic| walk_at "ev")
  | `(tactic| walk_at "pt") => `(tactic| walk_at "ev")
local macro_rules | `(tactic| walk_at "st") => `(tactic| ((with_reducible apply Tr.cons); first
  | ((with_reducible apply Ex.assign); assumption; rfl; walk_at "ev"; (case hsw => rfl); (try show Tr _ _ _ _))
  | ((with_reducible apply Ex.ret); walk_at "ev")))

section
open PySem PySem.W PySem.Calls PyProof.Rows PySem.Spec
set_option Elab.async false
set_option maxRecDepth 100000
set_option linter.unusedVariables false
set_option linter.unusedSimpArgs false
section
inductive T where
  | leaf (s : Str)
  | node (a : T) (n : Int) (b : T)
noncomputable def T.dt : T → Dt
  | .leaf s => .str s
  | .node a n b => .tup [a.dt, .int n, b.dt]
noncomputable def T.wt : T → Nat
  | .leaf s => s.length
  | .node a n b => a.wt + b.wt + 30
noncomputable def T.ht : T → Nat
  | .leaf s => 0
  | .node a n b => max a.ht b.ht + 1
noncomputable def T.ok : T → Prop
  | .leaf s => True
  | .node a n b => 0 ≤ n ∧ n < 100 ∧ a.ok ∧ b.ok
noncomputable def jn (x : Str) (n : Int) (y : Str) : Str := x ++ Str.ofString ":" ++ Str.ofString (toString n) ++ Str.ofString "(" ++ y ++ Str.ofString ")"
noncomputable def T.plain (way : Int) : T → Int × Str
  | .leaf s => (0, s)
  | .node a n b =>
    let one := a.plain way
    let two := b.plain way
    let sw := decide (two.1 > one.1) || (two.1 == one.1 && (sLt two.2 one.2 == (way == 1)))
    let p := if sw then two else one
    let q := if sw then one else two
    (if q.1 + 1 > p.1 then q.1 + 1 else p.1, jn p.2 n q.2)
theorem small_texts : ∀ k : Fin 100, (Str.ofString (toString ((k.val : Nat) : Int))).length ≤ 2 ∧ (((k.val : Nat) : Int)).natAbs.log2 < 1920 := by decide +kernel
theorem Str.length_ofInt (n : Int) (h0 : 0 ≤ n) (h : n < 100) : (Str.ofString (toString n)).length ≤ 2 := by
  have := (small_texts ⟨n.toNat, by omega⟩).1
  have e : ((n.toNat : Nat) : Int) = n := by omega
  simp only [e] at this; exact this
theorem log_small (n : Int) (h0 : 0 ≤ n) (h : n < 100) : n.natAbs.log2 < 1920 := by
  have := (small_texts ⟨n.toNat, by omega⟩).2
  have e : ((n.toNat : Nat) : Int) = n := by omega
  simp only [e] at this; exact this
theorem jn_len (x : Str) (n : Int) (y : Str) (h0 : 0 ≤ n) (h : n < 100) : (jn x n y).length ≤ x.length + y.length + 5 := by
  have := Str.length_ofInt n h0 h
  have e1 : (Str.ofString ":").length = 1 := rfl
  have e2 : (Str.ofString "(").length = 1 := rfl
  have e3 : (Str.ofString ")").length = 1 := rfl
  unfold jn
  simp only [Str.length_append]; omega
theorem T.plain_len (way : Int) : ∀ t : T, t.ok → (t.plain way).2.length ≤ t.wt := by
  intro t
  induction t with
  | leaf s => intro _; exact Nat.le_refl _
  | node a n b ih1 ih2 =>
    rintro ⟨h0, h1, ha, hb⟩
    have i1 := ih1 ha
    have i2 := ih2 hb
    simp only [T.plain, T.wt]
    split <;> (refine Nat.le_trans (jn_len _ _ _ h0 h1) ?_; omega)
theorem plain_cal (w : World) (way : Int) : ∀ (t : T), t.ok → t.wt ≤ 100000 → Cal w (.ref 278) (t.ht + 1) [t.dt, .int way] (.tup [.int (t.plain way).1, .str (t.plain way).2]) := by
  intro t
  induction t with
  | leaf s =>
    intro _ _
    refine Cal.fn (names := [Str.ofString "tree", Str.ofString "way"]) (hK := rfl) (hcode := rfl) (hbody := rfl) (hbind := ?_) (hcell := by decide) (hloc := by decide) (hco := rfl) (hgen := rfl) (hk := rfl) (hgl := rfl) (hbi := rfl) (hlen := rfl) (hvars := rfl) ?_
    · exact vs2 fun a b => rfl
    · intro c hw hk hs
      subst hw
      dsimp only at hs
      refine' Tr.cons (Ex.if_ (b := true) (by walk_at "te") (fun _ => ?_) (fun h => nomatch h))
      walk_at "st"
      exact .inl rfl
  | node a n b ih1 ih2 =>
    rintro ⟨h0, h1, ha, hb⟩ hw8
    have hwt : a.wt + b.wt + 30 ≤ 100000 := hw8
    have i1 := ih1 ha (by omega)
    have i2 := ih2 hb (by omega)
    have l1 := T.plain_len way a ha
    have l2 := T.plain_len way b hb
    have l3 := Str.length_ofInt n h0 h1
    have l4 : n.natAbs.log2 < 1920 := log_small n h0 h1
    refine Cal.fn (names := [Str.ofString "tree", Str.ofString "way"]) (hK := rfl) (hcode := rfl) (hbody := rfl) (hbind := ?_) (hcell := by decide) (hloc := by decide) (hco := rfl) (hgen := rfl) (hk := rfl) (hgl := rfl) (hbi := rfl) (hlen := rfl) (hvars := rfl) ?_
    · exact vs2 fun a b => rfl
    · intro c hw hk hs
      subst hw
      dsimp only at hs
      have hk' : max a.ht b.ht + 1 = c.k := hk.symm
      refine' Tr.cons (Ex.if_ (b := false) (by walk_at "te") (fun h => nomatch h) (fun _ => Tr.nil ?_))
      show Tr _ _ _ _
      walk_at "st"
      walk_at "st"
      refine' Tr.cons (Ex.if_ ?zte1 (fun hb => ?_) (fun hb => Tr.nil ?_))
      case zte1 => walk_at "te"
      · refine' Tr.cons (Ex.swap2 hs rfl rfl ?zx1 ?zx2 ?zx3)
        (case zx1 => walk_at "ev")
        (case zx2 => walk_at "ev")
        refine Tr.nil ?_
        show Tr _ _ _ _
        walk_at "st"
        refine .inl (congrArg Fl.ret ?_)
        simp only [T.plain, hb, if_true]
        rfl
      · show Tr _ _ _ _
        walk_at "st"
        refine .inl (congrArg Fl.ret ?_)
        simp only [T.plain, hb, if_false]
        rfl
end
end
section
open PySem PySem.W PySem.Calls PyProof.Rows PySem.Spec
set_option Elab.async false
set_option maxRecDepth 100000
set_option linter.unusedVariables false
set_option linter.unusedSimpArgs false
section
noncomputable def odt : Option T → Dt
  | none => .none
  | some t => t.dt
noncomputable def T.cut : T → Option T
  | .leaf _ => none
  | .node a _ b => match a.cut, b.cut with
    | none, none => some (.leaf (Str.ofString "x"))
    | none, some y => some y
    | some x, none => some x
    | some x, some y => some (.node x 0 y)
theorem dt_some (t : T) : isNoneD t.dt = false := by cases t <;> rfl
theorem none_odt : ∀ o : Option T, isNoneD (odt o) = o.isNone
  | none => rfl
  | some t => dt_some t
theorem odt_ne (o : Option T) : ∀ v, odt o ≠ .val v := by
  intro v h
  cases o with
  | none => cases h
  | some t => cases t <;> cases h
theorem isi_T (w : World) (n : Nat) (t : T) : Cal w (.builtin "isinstance") n [t.dt, .val (.type "str")] (.bool (match t with | .leaf _ => true | _ => false)) := by
  cases t with
  | leaf s => exact Cal.isi_str_str _
  | node a n b => exact Cal.isi_tup_str _
theorem cut_cal (w : World) : ∀ (t : T), Cal w (.ref 285) (t.ht + 1) [t.dt] (odt t.cut) := by
  intro t
  induction t with
  | leaf s =>
    refine Cal.fn (names := [Str.ofString "tree"]) (hK := rfl) (hcode := rfl) (hbody := rfl) (hbind := ?_) (hcell := by decide) (hloc := by decide) (hco := rfl) (hgen := rfl) (hk := rfl) (hgl := rfl) (hbi := rfl) (hlen := rfl) (hvars := rfl) ?_
    · exact vs1 fun a => rfl
    · intro c hw hk hs
      subst hw
      dsimp only at hs
      refine' Tr.cons (Ex.if_ (b := true) (by walk_at "te") (fun _ => ?_) (fun h => nomatch h))
      walk_at "st"
      exact .inl rfl
  | node a n b i1 i2 =>
    refine Cal.fn (names := [Str.ofString "tree"]) (hK := rfl) (hcode := rfl) (hbody := rfl) (hbind := ?_) (hcell := by decide) (hloc := by decide) (hco := rfl) (hgen := rfl) (hk := rfl) (hgl := rfl) (hbi := rfl) (hlen := rfl) (hvars := rfl) ?_
    · exact vs1 fun a => rfl
    · intro c hw hk hs
      subst hw
      dsimp only at hs
      have hk' : max a.ht b.ht + 1 = c.k := hk.symm
      refine' Tr.cons (Ex.if_ (b := false) (by walk_at "te") (fun h => nomatch h) (fun _ => Tr.nil ?_))
      show Tr _ _ _ _
      walk_at "st"
      walk_at "st"
      have o1 := odt_ne a.cut
      have o2 := odt_ne b.cut
      refine' Tr.cons (Ex.if_ (b := isNoneD (odt a.cut) && isNoneD (odt b.cut)) (Te.and2 (Te.compare ?zcu1 ?zcu2 (Cop.is_none _ o1)) (fun _ => Te.compare ?zcu3 ?zcu4 (Cop.is_none _ o2))) (fun hb => ?_) (fun hb => Tr.nil ?_))
      case zcu1 => walk_at "ev"
      case zcu2 => walk_at "ev"
      case zcu3 => walk_at "ev"
      case zcu4 => walk_at "ev"
      · walk_at "st"
        refine .inl (congrArg Fl.ret ?_)
        simp only [T.cut]
        cases h1 : a.cut <;> cases h2 : b.cut <;> simp [h1, h2, none_odt] at hb ⊢ <;> rfl
      show Tr _ _ _ _
      refine' Tr.cons (Ex.if_ (b := isNoneD (odt a.cut)) (Te.compare ?zcv1 ?zcv2 (Cop.is_none _ o1)) (fun hb => ?_) (fun hb2 => Tr.nil ?_))
      case zcv1 => walk_at "ev"
      case zcv2 => walk_at "ev"
      · walk_at "st"
        refine .inl (congrArg Fl.ret ?_)
        simp only [T.cut]
        simp only [none_odt] at *
        cases h1 : a.cut <;> cases h2 : b.cut <;> simp [h1, h2] at * <;> rfl
      show Tr _ _ _ _
      refine' Tr.cons (Ex.if_ (b := isNoneD (odt b.cut)) (Te.compare ?zcw1 ?zcw2 (Cop.is_none _ o2)) (fun hb => ?_) (fun hb3 => Tr.nil ?_))
      case zcw1 => walk_at "ev"
      case zcw2 => walk_at "ev"
      · walk_at "st"
        refine .inl (congrArg Fl.ret ?_)
        simp only [T.cut]
        simp only [none_odt] at *
        cases h1 : a.cut <;> cases h2 : b.cut <;> simp [h1, h2] at * <;> rfl
      show Tr _ _ _ _
      walk_at "st"
      refine .inl (congrArg Fl.ret ?_)
      simp only [T.cut]
      simp only [none_odt] at *
      cases h1 : a.cut <;> cases h2 : b.cut <;> simp [h1, h2] at * <;> rfl
end
end
section
open PySem PySem.W PySem.Calls PyProof.Rows PySem.Spec
set_option Elab.async false
set_option maxRecDepth 100000
set_option linter.unusedVariables false
set_option linter.unusedSimpArgs false
section
noncomputable def T.sz : T → Nat
  | .leaf _ => 1
  | .node a _ b => a.sz + b.sz + 1
noncomputable def osz : Option T → Nat
  | none => 0
  | some t => t.sz
noncomputable def oht : Option T → Nat
  | none => 0
  | some t => t.ht
theorem cut_sz : ∀ t : T, osz t.cut < t.sz
  | .leaf _ => Nat.lt_succ_self _
  | .node a n b => by
    have h1 := cut_sz a
    have h2 := cut_sz b
    simp only [T.cut, T.sz]
    cases e1 : a.cut <;> cases e2 : b.cut <;> simp [e1, e2, osz, T.sz] at h1 h2 ⊢ <;> omega
theorem cut_ht : ∀ t : T, oht t.cut ≤ t.ht
  | .leaf _ => Nat.le_refl _
  | .node a n b => by
    have h1 := cut_ht a
    have h2 := cut_ht b
    simp only [T.cut, T.ht]
    cases e1 : a.cut <;> cases e2 : b.cut <;> simp [e1, e2, oht, T.ht] at h1 h2 ⊢ <;> omega
noncomputable def rds : Nat → Option T → Nat
  | 0, _ => 0
  | n + 1, none => 0
  | n + 1, some t => rds n t.cut + 1
theorem rds_fuel : ∀ (n : Nat) (o : Option T), osz o ≤ n → rds n o = rds (osz o) o := by
  intro n
  induction n using Nat.strongRecOn with
  | ind n ih =>
    intro o ho
    cases o with
    | none => cases n <;> rfl
    | some t =>
      have h1 := cut_sz t
      have ho' : t.sz ≤ n := ho
      obtain ⟨m, hm⟩ : ∃ m, t.sz = m + 1 := ⟨t.sz - 1, by omega⟩
      obtain ⟨n', rfl⟩ : ∃ n', n = n' + 1 := ⟨n - 1, by omega⟩
      show rds (n' + 1) (some t) = rds t.sz (some t)
      rw [hm]
      show rds n' t.cut + 1 = rds m t.cut + 1
      rw [ih n' (Nat.lt_succ_self _) t.cut (by omega), ih m (by omega) t.cut (by omega)]
noncomputable def T.rounds (t : T) : Nat := rds t.sz (some t)
theorem rds_step (t : T) : rds t.sz (some t) = rds (osz t.cut) t.cut + 1 := by
  have h1 := cut_sz t
  match t.sz, h1 with
  | m + 1, h1 =>
    show rds m t.cut + 1 = _
    rw [rds_fuel m t.cut (by omega)]
theorem rounds_cal (w : World) (t : T) : Cal w (.ref 292) (t.ht + 2) [t.dt] (.int t.rounds) := by
  refine Cal.fn (names := [Str.ofString "tree"]) (hK := rfl) (hcode := rfl) (hbody := rfl) (hbind := ?_) (hcell := by decide) (hloc := by decide) (hco := rfl) (hgen := rfl) (hk := rfl) (hgl := rfl) (hbi := rfl) (hlen := rfl) (hvars := rfl) ?_
  · exact vs1 fun a => rfl
  · intro c hw hk hs
    subst hw
    dsimp only at hs
    have hk' : t.ht + 1 = c.k := hk.symm
    walk_at "st"
    refine' Tr.cons (Ex.whileH (ι := Option T × Nat) (fun i => [(Str.ofString "tree", odt i.1), (Str.ofString "rounds", .int i.2)]) (fun _ => []) (fun i => osz i.1) (fun i => oht i.1 ≤ t.ht ∧ i.2 + rds (osz i.1) i.1 = t.rounds) (some t, 0) ⟨Nat.le_refl _, Nat.zero_add _⟩ ⟨rfl, rfl, rfl, trivial⟩ ?_)
    rintro ⟨o, r⟩ ⟨ho, hr⟩
    refine' ⟨!isNoneD (odt o), Te.compare ?zro1 ?zro2 (Cop.isNot_none _ (odt_ne o)), fun hb => ?_, fun hb => ?_⟩
    case zro1 => walk_at "ev"
    case zro2 => walk_at "ev"
    · rw [none_odt] at hb
      cases o with
      | none => simp at hb
      | some t1 =>
        have h1 : t1.ht ≤ t.ht := ho
        have i1 := cut_cal c.w t1
        walk_at "st"
        walk_at "st"
        refine Tr.nil ⟨(t1.cut, r + 1), cut_sz t1, ⟨Nat.le_trans (cut_ht t1) h1, ?_⟩, rfl, rfl, rfl, trivial⟩
        have := rds_step t1
        have hr' : r + rds t1.sz (some t1) = t.rounds := hr
        show r + 1 + rds (osz t1.cut) t1.cut = _
        omega
    · rw [none_odt] at hb
      cases o with
      | some t1 => simp at hb
      | none =>
        show Tr _ _ _ _
        walk_at "st"
        refine .inl ?_
        have hr' : r + 0 = t.rounds := hr
        rw [← hr']; rfl
noncomputable def dints (l : List Int) : List Dt := l.map Dt.int
noncomputable def T.lv : T → List Int
  | .leaf _ => [0]
  | .node a _ b => (a.lv ++ b.lv).map (· + 1)
theorem lv_len : ∀ t : T, t.lv.length ≤ t.sz
  | .leaf _ => Nat.le_refl _
  | .node a n b => by
    have h1 := lv_len a
    have h2 := lv_len b
    simp [T.lv, T.sz]; omega
theorem levels_cal (w : World) : ∀ (t : T), t.sz ≤ 100000 → Cal w (.ref 297) (t.ht + 1) [t.dt] (.lst (dints t.lv)) := by
  intro t
  induction t with
  | leaf s =>
    intro _
    refine Cal.fn (names := [Str.ofString "tree"]) (hK := rfl) (hcode := rfl) (hbody := rfl) (hbind := ?_) (hcell := by decide) (hloc := by decide) (hco := rfl) (hgen := rfl) (hk := rfl) (hgl := rfl) (hbi := rfl) (hlen := rfl) (hvars := rfl) ?_
    · exact vs1 fun a => rfl
    · intro c hw hk hs
      subst hw
      dsimp only at hs
      refine' Tr.cons (Ex.if_ (b := true) (by walk_at "te") (fun _ => ?_) (fun h => nomatch h))
      walk_at "st"
      exact .inl rfl
  | node a n b i1 i2 =>
    intro hsz
    have hsz' : a.sz + b.sz + 1 ≤ 100000 := hsz
    have i1 := i1 (by omega)
    have i2 := i2 (by omega)
    have l1 := lv_len a
    have l2 := lv_len b
    refine Cal.fn (names := [Str.ofString "tree"]) (hK := rfl) (hcode := rfl) (hbody := rfl) (hbind := ?_) (hcell := by decide) (hloc := by decide) (hco := rfl) (hgen := rfl) (hk := rfl) (hgl := rfl) (hbi := rfl) (hlen := rfl) (hvars := rfl) ?_
    · exact vs1 fun a => rfl
    · intro c hw hk hs
      subst hw
      dsimp only at hs
      have hk' : max a.ht b.ht + 1 = c.k := hk.symm
      refine' Tr.cons (Ex.if_ (b := false) (by walk_at "te") (fun h => nomatch h) (fun _ => Tr.nil ?_))
      show Tr _ _ _ _
      refine' Tr.cons (Ex.ret (d := .lst (dints (T.node a n b).lv)) (Ev.listComp (cl := []) (ds := dints (a.lv ++ b.lv)) (Its.of ?zlv1 Itv.lst) ⟨?zlv2, ?zlv3, ?zlv4⟩ rfl) ?zlv5)
      case zlv1 =>
        have e : Dt.lst (dints (a.lv ++ b.lv)) = .lst (dints a.lv ++ dints b.lv) := by simp [dints]
        rw [e]
        have q1 : (dints a.lv).length = a.lv.length := by simp [dints]
        have q2 : (dints b.lv).length = b.lv.length := by simp [dints]
        walk_at "ev"
      case zlv2 => simp [dints, T.lv]
      case zlv3 => simp [dints]; omega
      case zlv4 =>
        intro ci W h hci i d hd
        simp only [dints, List.getElem?_map, Option.map_eq_some_iff] at hd
        obtain ⟨x, hx, rfl⟩ := hd
        have hs := hci.sc
        refine' ⟨_, .int (x + 1), As.name hs rfl, ?zlv6, rfl, ?zlv7⟩
        case zlv6 => walk_at "ev"
        case zlv7 => simp only [dints, T.lv, List.map_map, List.getElem?_map, hx]; rfl
      case zlv5 => exact .inl rfl
end
end
section
open PySem PySem.W PySem.Calls PyProof.Rows PySem.Spec
set_option Elab.async false
set_option maxRecDepth 100000
set_option linter.unusedVariables false
set_option linter.unusedSimpArgs false
section
theorem Bop.pow_int (a n : Int) (h0 : 0 ≤ n) (h1 : n ≤ 1000000) (ha : a.natAbs < 2 ^ 64) : Bop .Pow (.int a) (.int n) (.int (a ^ n.toNat)) := fun c F W₁ x y hx hy => by
  cases hx; cases hy
  exact Go.fresh_val fun W h tk Q E hs I hQ => PyProof.Rows.pow_int_small ‹_› ‹_› ‹_› (hQ _ _ (.int _ _))
noncomputable def dI (l : List (Int × Int)) : List (Int × Dt) := l.map fun p => (p.1, Dt.int p.2)
theorem dget_dI (l : List (Int × Int)) (k : Int) : dget (dI l) k = (dget l k).map Dt.int := by
  unfold dget dI
  induction l with
  | nil => rfl
  | cons p l ih =>
    simp only [List.map_cons, List.find?_cons]
    cases q : decide (p.1 = k) <;> simp [q] <;> simpa using ih
theorem dset_dI (l : List (Int × Int)) (k v : Int) : dset (dI l) k (.int v) = dI (dset l k v) := by
  unfold dset dI
  have e : ((l.map fun p => (p.1, Dt.int p.2)).any fun p => decide (p.1 = k)) = (l.any fun p => decide (p.1 = k)) := by
    rw [List.any_map]; rfl
  rw [e]
  split
  · simp only [List.map_map]
    congr 1
    funext p
    simp only [Function.comp]
    split <;> rfl
  · simp
theorem getD_dI (l : List (Int × Int)) (k d : Int) : (dget (dI l) k).getD (.int d) = .int ((dget l k).getD d) := by
  rw [dget_dI]; cases dget l k <;> rfl
theorem take_foldl {α β : Type} (f : β → α → β) (x : β) (l : List α) (i : Nat) (a : α) (h : l[i]? = some a) : (l.take (i + 1)).foldl f x = f ((l.take i).foldl f x) a := by
  rw [List.take_add_one, h]; simp
noncomputable def rowStep (r : List Int) : List Int := List.zipWith (· + ·) (0 :: r) (r ++ [0])
noncomputable def rowN : Nat → List Int → List Int
  | 0, r => r
  | n + 1, r => rowStep (rowN n r)
noncomputable def rowOf (l : Nat) : List Int := rowN l [(2 : Int) ^ ((4 : Int) - (l : Int)).toNat]
theorem rowN_len (n : Nat) (r : List Int) : (rowN n r).length = r.length + n := by
  induction n with
  | zero => rfl
  | succ n ih => simp [rowN, rowStep, ih]; omega
noncomputable def tabIn (l : Nat) (tb : List (Int × Int)) (j : Nat) : List (Int × Int) := dset tb (j : Int) ((dget tb (j : Int)).getD 0 + (rowOf l).getD j 0)
noncomputable def tabStep (tb : List (Int × Int)) (l : Nat) : List (Int × Int) := (List.range (l + 1)).foldl (tabIn l) tb
noncomputable def tabOf (ls : List Nat) : List (Int × Int) := ls.foldl tabStep []
theorem tabIn_len (l : Nat) (js : List Nat) : ∀ tb, (js.foldl (tabIn l) tb).length ≤ tb.length + js.length := by
  induction js with
  | nil => intro tb; simp
  | cons j js ih =>
    intro tb
    have := ih (tabIn l tb j)
    have h2 : (tabIn l tb j).length ≤ tb.length + 1 := dset_len _ _ _
    simp only [List.foldl_cons, List.length_cons]; omega
theorem tab_len (ls : List Nat) (h : ∀ l ∈ ls, l ≤ 4) : ∀ tb, (ls.foldl tabStep tb).length ≤ tb.length + 5 * ls.length := by
  induction ls with
  | nil => intro tb; simp
  | cons l ls ih =>
    intro tb
    have := ih (fun x hx => h x (.tail _ hx)) (tabStep tb l)
    have h2 := tabIn_len l (List.range (l + 1)) tb
    have h3 := h l (.head _)
    simp only [List.length_range] at h2
    simp only [List.foldl_cons, List.length_cons]
    unfold tabStep at this ⊢
    omega
noncomputable def natsD (l : List Nat) : List Dt := l.map fun (n : Nat) => Dt.int (n : Int)
theorem rng_at {n i : Nat} {d : Dt} (h : (rngD n)[i]? = some d) : i < n ∧ d = .int (i : Int) := by
  simp only [rngD, List.getElem?_map, Option.map_eq_some_iff] at h
  obtain ⟨x, hx, rfl⟩ := h
  obtain ⟨h1, h2⟩ := List.getElem?_eq_some_iff.mp hx
  simp at h1 h2
  subst h2
  exact ⟨h1, rfl⟩
theorem table_cal (w : World) (ls : List Nat) (h4 : ∀ l ∈ ls, l ≤ 4) (hlen : ls.length ≤ 10000) : Cal w (.ref 302) 1 [.lst (natsD ls)] (.dic (dI (tabOf ls))) := by
  refine Cal.fnB (n := 0) (names := [Str.ofString "levels"]) (hK := rfl) (hcode := rfl) (hbody := rfl) (hbind := ?_) (hcell := by decide) (hloc := by decide) (hco := rfl) (hgen := rfl) (hk := rfl) (hgl := rfl) (hbi := rfl) (hlen := rfl) (hvars := rfl) ?_
  · exact vs1 fun a => rfl
  · intro c hw hk hs hb
    subst hw
    dsimp only at hs
    refine' Tr.cons (Ex.assignDict hs rfl fun a => ?_)
    show Tr _ _ _ _
    refine' Tr.cons (Ex.forH (ds := natsD ls) (Its.of ?ztc1 Itv.lst) (fun i => [(Str.ofString "table", .val (.ref a))]) (fun i => [⟨a, 0, .dic (dI (tabOf (ls.take i)))⟩]) ⟨rfl, rfl, trivial⟩ ?ztc2 ?ztc3)
    case ztc1 => walk_at "ev"
    case ztc3 =>
      show Tr _ _ _ _
      have e : ls.take (natsD ls).length = ls := by simp [natsD]
      rw [e]
      refine Tr.cons (Ex.retOwn (p := ⟨a, 0, .dic (dI (tabOf ls))⟩) (pre := []) (post := []) hs rfl hb rfl rfl ?_)
      exact .inl rfl
    case ztc2 =>
      intro ps i d hd
      simp only [natsD, List.getElem?_map, Option.map_eq_some_iff] at hd
      obtain ⟨l, hl, rfl⟩ := hd
      have hl4 : l ≤ 4 := h4 l (List.mem_of_getElem? hl)
      refine ⟨_, As.name hs rfl, ?_⟩
      refine' Tr.cons (Ex.assign (d := .lst (dints [(2 : Int) ^ ((4 : Int) - (l : Int)).toNat])) hs rfl ?ztc4 ?ztc5)
      case ztc4 =>
        refine' Ev.list (ds := dints [(2 : Int) ^ ((4 : Int) - (l : Int)).toNat]) (Evs.cons (Ev.binop ?ztc6 ?ztc7 (Bop.pow_int _ _ (by omega) (by omega) (by decide))) Evs.nil) (hsz := by simp [dints])
        case ztc6 => walk_at "ev"
        case ztc7 => walk_at "ev"
      case ztc5 =>
        show Tr _ _ _ _
        refine' Tr.cons (Ex.forH (ds := rngD l) (Its.range ?ztd1 ?ztd2 (by omega)) (fun k => [(Str.ofString "row", .lst (dints (rowN k [(2 : Int) ^ ((4 : Int) - (l : Int)).toNat]))), (Str.ofString "level", .int (l : Int)), (Str.ofString "table", .val (.ref a))]) (fun _ => [⟨a, 0, .dic (dI (tabOf (ls.take i)))⟩]) ⟨rfl, rfl, rfl, rfl, trivial⟩ ?ztd3 ?ztd4)
        case ztd1 => walk_at "nm"
        case ztd2 => walk_at "evs"
        case ztd3 =>
          intro ps2 k d hd
          obtain ⟨hk4, rfl⟩ := rng_at hd
          refine ⟨_, As.name hs rfl, ?_⟩
          have hrl := rowN_len k [(2 : Int) ^ ((4 : Int) - (l : Int)).toNat]
          generalize hrow : rowN k [(2 : Int) ^ ((4 : Int) - (l : Int)).toNat] = row at *
          have hrl' : row.length ≤ 10 := by simp at hrl; omega
          have dl : (dints row).length = row.length := by simp [dints]
          refine' Tr.cons (Ex.assignComp (ds := List.zipWith (fun a b => Dt.tup [a, b]) ([.int 0] ++ dints row) (dints row ++ [.int 0])) (rs := dints (rowStep row)) (cl := []) hs rfl (Its.zip ?zte1 ?zte2) ⟨?zte3, ?zte4, ?zte5⟩ ?zte6 rfl)
          case zte1 => walk_at "nm"
          case zte2 => walk_at "evs"
          case zte3 => simp [dints, rowStep]
          case zte4 => simp [dints]; omega
          case zte5 =>
            intro ci W h hci j d hd
            have hs' := hci.sc
            simp only [List.getElem?_zipWith] at hd
            have e1 : ([Dt.int 0] ++ dints row)[j]? = ((0 :: row)[j]?).map Dt.int := by
              rw [← List.getElem?_map]; rfl
            have e2 : (dints row ++ [Dt.int 0])[j]? = ((row ++ [0])[j]?).map Dt.int := by
              rw [← List.getElem?_map]; simp [dints]
            rw [e1, e2] at hd
            cases q1 : (0 :: row)[j]? with
            | none => rw [q1] at hd; simp at hd
            | some x =>
              cases q2 : (row ++ [0])[j]? with
              | none => rw [q1, q2] at hd; simp at hd
              | some y =>
                rw [q1, q2] at hd
                simp at hd
                subst hd
                refine' ⟨_, .int (x + y), As.tuple (Ass.cons (As.name hs' rfl) (Ass.cons (As.name hs' rfl) Ass.nil)), ?zte7, rfl, ?zte8⟩
                case zte7 => walk_at "ev"
                case zte8 => simp [dints, rowStep, List.getElem?_zipWith, q1, q2]
          case zte6 =>
            show Tr _ _ _ _
            refine Tr.nil ⟨rfl, ?_, rfl, rfl, trivial⟩
            show _ = some (Dt.lst (dints (rowStep (rowN k _))))
            rw [hrow]; rfl
        case ztd4 =>
          show Tr _ _ _ _
          have e : (rngD l).length = l := by simp [rngD]
          rw [e]
          refine' Tr.cons (Ex.forH (ds := rngD (l + 1)) (Its.range ?ztf1 ?ztf2 (by omega)) (fun k => [(Str.ofString "row", .lst (dints (rowOf l))), (Str.ofString "level", .int (l : Int)), (Str.ofString "table", .val (.ref a))]) (fun k => [⟨a, 0, .dic (dI (((List.range (l + 1)).take k).foldl (tabIn l) (tabOf (ls.take i))))⟩]) ⟨rfl, rfl, rfl, rfl, trivial⟩ ?ztf3 ?ztf4)
          case ztf1 => walk_at "nm"
          case ztf2 => walk_at "evs"
          case ztf3 =>
            intro ps2 k d hd
            obtain ⟨hk4, rfl⟩ := rng_at hd
            refine ⟨_, As.name hs rfl, ?_⟩
            have hr : (List.range (l + 1))[k]? = some k := by simp [hk4]
            have hst := take_foldl (tabIn l) (tabOf (ls.take i)) (List.range (l + 1)) k k hr
            have hl1 := tabIn_len l ((List.range (l + 1)).take k) (tabOf (ls.take i))
            have hl2 := tab_len (ls.take i) (fun x hx => h4 x (List.mem_of_mem_take hx)) []
            have hl3 : (ls.take i).length ≤ 10000 := by rw [List.length_take]; omega
            have hl4' : ((List.range (l + 1)).take k).length ≤ 5 := by rw [List.length_take, List.length_range]; omega
            have hl5 : (tabOf (ls.take i)).length ≤ 50000 := by unfold tabOf; simp at hl2; omega
            generalize ((List.range (l + 1)).take k).foldl (tabIn l) (tabOf (ls.take i)) = tb at *
            have hrl := rowN_len l [(2 : Int) ^ ((4 : Int) - (l : Int)).toNat]
            have hro : (rowOf l)[k]? = some ((rowOf l).getD k 0) := by
              have : k < (rowOf l).length := by unfold rowOf; rw [hrl]; simp; omega
              simp [List.getD, this]
            refine' Tr.cons (Ex.setDict (pre := []) (post := []) (d := .int ((dget tb (k : Int)).getD 0 + (rowOf l).getD k 0)) (k := (k : Int)) (Ev.binop (Ev.dictGet (EvS.own (p := ⟨a, 0, .dic (dI tb)⟩) ?ztg1 (.head _) rfl) ?ztg2 (getD_dI tb _ _)) (Ev.sub ?ztg3 ?ztg4 (TyD.lst _) slot_list_getitem.lookup (Gi.lst (k := (k : Int)) (d := .int ((rowOf l).getD k 0)) (by omega) ?ztg5 (by omega))) (Bop.add_int _ _)) ?ztg6 ?ztg7 ?ztg8 ?ztg9)
            case ztg1 => walk_at "ev"
            case ztg2 => walk_at "evs"
            case ztg3 => walk_at "ev"
            case ztg4 => walk_at "ev"
            case ztg5 =>
              simp only [dints, Int.toNat_natCast, List.getElem?_map, hro]; rfl
            case ztg6 => walk_at "ev"
            case ztg7 => walk_at "ev"
            case ztg8 => simp [dI]; omega
            case ztg9 =>
              show Tr _ _ _ _
              rw [dset_dI]
              refine Tr.nil ⟨?_, rfl, rfl, rfl, trivial⟩
              rw [hst]; rfl
          case ztf4 =>
            show Tr _ _ _ _
            have e : (rngD (l + 1)).length = l + 1 := by simp [rngD]
            rw [e]
            refine Tr.nil ⟨?_, rfl, trivial⟩
            have e2 : (List.range (l + 1)).take (l + 1) = List.range (l + 1) := List.take_of_length_le (by simp)
            rw [e2]
            have e3 := take_foldl tabStep [] ls i l hl
            show [_] = [_]
            rw [show tabOf (ls.take (i + 1)) = tabStep (tabOf (ls.take i)) l from e3]
            rfl
end
end
section
open PySem PySem.W PySem.Calls PyProof.Rows PySem.Spec
set_option Elab.async false
set_option maxRecDepth 100000
set_option linter.unusedVariables false
set_option linter.unusedSimpArgs false
section
section
variable {c : Cx} {F : Frame} {W W₁ : Fz} {h : Heap}
theorem merged_one {k : Int} {v : Value} : merged ([] : List (Int × Value)) [(k, v)] = [(k, v)] := merged_nil_of_nodup _ (by simp)
theorem Ev.dict1 {ke ve : Expr} {pos : Pos} {k : Int} {d : Dt} (h1 : ∀ ps, Ev (c.hides ps) F ke (.int k)) (h2 : ∀ ps, Ev (c.hides ps) F ve d) : Ev c F (.Dict [some ke] [ve] pos) (.dic [(k, d)]) := fun W₁ W h tk Q E hs I hQ => by
  refine wpAny_Dict_walk (s := St c.s₀ h tk) (knd := iK c.w) rfl rfl (by simp) (by simp) ?_
  have I1 := I.push_hid (dicO #[] 0) rfl
  refine pairTrees_cons_walk ?_
  refine h1 _ W W _ tk _ E (Sub.refl _) I1 (isQ fun kv W1 g1 tk1 I2 hs1 r1 => ?_)
  refine h2 _ W1 W1 _ tk1 _ E (Sub.refl _) I2 (isQ fun vv W2 g2 tk2 I3 hs2 r2 => ?_)
  (replace r1 := Rep.int_inv r1; obtain ⟨t, rfl⟩ := r1)
  have hD := I3.hid (h.objs.size, dicO #[] 0) (.head _)
  have hsys : (h.objs.size == sysModules) = false := by have := ltN I.big; exact beq_eq_false_iff_ne.mpr (neA (.inr (by show 1 < _; omega)))
  refine pairTrees_nil_walk ⟨[(k, vv)], ⟨intKind_is prog c.w k t, rfl, trivial⟩, ⟨_, #[], 0, hD.1, ⟨rfl, rfl, rfl⟩, rfl, by intro e he; simp at he, .nil, List.nodup_nil⟩, fun h' hm' hs' => ?_⟩
  rw [merged_one] at hm'
  obtain ⟨es, n, e, re, nd⟩ := dictOf_back (W := W2) (kvs := [(k, d)]) hm' (.cons r2 .nil)
  have I4 : Inv (c.hides [(h.objs.size, dicO es n)]) F W2 h' := I3.turned rfl (fun b o hb e => hs'.extBut b o (fun q => hb (by simp; exact q)) e) (fun p hp => by rw [List.mem_singleton] at hp; subst hp; exact e)
  have I5 := I4.unhide.freeze1 e hD.2.1 hD.2.2.1 hD.2.2.2.1 hD.2.2.2.2 (fun p hp q => by
    have := I4.hnd
    simp only [Cx.hides, List.map_append, List.map_cons, List.map_nil, List.cons_append, List.nil_append, List.nodup_cons] at this
    exact this.1 (q ▸ List.mem_map_of_mem hp))
  exact hQ _ _ h' _ F I5 ((hs1.trans hs2).trans (Fz.sub_put hD.2.2.1)) ⟨rfl, .dic (Fz.put_self ..) (re.mono (Fz.sub_put hD.2.2.1)) ⟨nd, hsys⟩⟩
end
theorem Ev.dict1K {c : Cx} {F : Frame} {e : Expr} {k v : Int} {q1 q3 : Nat} {q2 q4 pos : Pos} (he : e = .Dict [some (.Constant (.int k) q1 q2)] [.Constant (.int v) q3 q4] pos) : Ev c F e (.dic (dI [(k, v)])) :=
  he ▸ Ev.dict1 (fun _ => Ev.int _ _ _) (fun _ => Ev.int _ _ _)
noncomputable def pmax (a b : Int) : Int := if b > a then b else a
noncomputable def small (l : List (Int × Int)) : Prop := l.length ≤ 100 ∧ ∀ p ∈ l, p.2.natAbs < 2 ^ 60
noncomputable def gz (l : List (Int × Int)) (k : Int) : Int := (dget l k).getD 0
theorem dget_mem {α : Type} {l : List (Int × α)} {k : Int} {v : α} (h : dget l k = some v) : (k, v) ∈ l := by
  unfold dget at h
  rw [Option.map_eq_some_iff] at h
  obtain ⟨p, hp, rfl⟩ := h
  have h1 := List.find?_some hp
  have h2 := List.mem_of_find?_eq_some hp
  simp at h1
  subst h1
  exact h2
theorem dget_some {α : Type} {l : List (Int × α)} {k : Int} (h : k ∈ l.map Prod.fst) : ∃ v, dget l k = some v := by
  obtain ⟨p, hp, rfl⟩ := List.mem_map.mp h
  unfold dget
  cases q : l.find? fun x => decide (x.1 = p.1) with
  | some v => exact ⟨_, rfl⟩
  | none =>
    have := List.find?_eq_none.mp q p hp
    simp at this
noncomputable def dadd (both : List (Int × Int)) (p : Int) (deep : Int) : List (Int × Int) := dset both deep ((dget both deep).getD 0 + p)
noncomputable def depY (ones twos : List (Int × Int)) (x : Int) (both : List (Int × Int)) (y : Int) : List (Int × Int) := [pmax x (y + 1), pmax y (x + 1)].foldl (fun b d => dadd b (gz ones x * gz twos y) d) both
noncomputable def depX (ones twos : List (Int × Int)) (both : List (Int × Int)) (x : Int) : List (Int × Int) := (twos.map Prod.fst).foldl (depY ones twos x) both
noncomputable def depMul (ones twos : List (Int × Int)) : List (Int × Int) := (ones.map Prod.fst).foldl (depX ones twos) []
noncomputable def T.dep : T → List (Int × Int)
  | .leaf _ => [(0, 1)]
  | .node a _ b => depMul a.dep b.dep
noncomputable def T.dok : T → Prop
  | .leaf _ => True
  | .node a _ b => a.dok ∧ b.dok ∧ small a.dep ∧ small b.dep
theorem dadd_len (both : List (Int × Int)) (p : Int) (ds : List Int) : (ds.foldl (fun b d => dadd b p d) both).length ≤ both.length + ds.length := by
  induction ds generalizing both with
  | nil => simp
  | cons d ds ih =>
    have h1 := ih (dadd both p d)
    have h2 : (dadd both p d).length ≤ both.length + 1 := dset_len _ _ _
    simp only [List.foldl_cons, List.length_cons]; omega
theorem depY_len (ones twos : List (Int × Int)) (x : Int) (ys : List Int) : ∀ both, (ys.foldl (depY ones twos x) both).length ≤ both.length + 2 * ys.length := by
  induction ys with
  | nil => intro both; simp
  | cons y ys ih =>
    intro both
    have h1 := ih (depY ones twos x both y)
    have h2 : (depY ones twos x both y).length ≤ both.length + 2 := dadd_len _ _ _
    simp only [List.foldl_cons, List.length_cons]; omega
theorem depX_len (ones twos : List (Int × Int)) (xs : List Int) : ∀ both, (xs.foldl (depX ones twos) both).length ≤ both.length + (2 * twos.length) * xs.length := by
  induction xs with
  | nil => intro both; simp
  | cons y ys ih =>
    intro both
    have h1 := ih (depX ones twos both y)
    have h2 := depY_len ones twos y (twos.map Prod.fst) both
    simp only [List.length_map] at h2
    have h3 : (depX ones twos both y).length ≤ both.length + 2 * twos.length := h2
    simp only [List.foldl_cons, List.length_cons, Nat.mul_add, Nat.mul_one]; omega
theorem keyD_at {l : List (Int × Int)} {i : Nat} {d : Dt} (h : ((dI l).map fun p => Dt.int p.1)[i]? = some d) : ∃ k, (l.map Prod.fst)[i]? = some k ∧ d = .int k ∧ ∃ v, dget l k = some v ∧ (k, v) ∈ l := by
  simp only [dI, List.map_map, List.getElem?_map, Option.map_eq_some_iff, Function.comp] at h
  obtain ⟨p, hp, rfl⟩ := h
  have hk : (l.map Prod.fst)[i]? = some p.1 := by simp [hp]
  obtain ⟨v, hv⟩ := dget_some (List.mem_of_getElem? hk)
  exact ⟨p.1, hk, rfl, v, hv, dget_mem hv⟩
theorem depths_cal (w : World) : ∀ (t : T), t.dok → Cal w (.ref 309) (t.ht + 1) [t.dt] (.dic (dI t.dep)) := by
  intro t
  induction t with
  | leaf s =>
    intro _
    refine Cal.fn (names := [Str.ofString "tree"]) (hK := rfl) (hcode := rfl) (hbody := rfl) (hbind := ?_) (hcell := by decide) (hloc := by decide) (hco := rfl) (hgen := rfl) (hk := rfl) (hgl := rfl) (hbi := rfl) (hlen := rfl) (hvars := rfl) ?_
    · exact vs1 fun a => rfl
    · intro c hw hk hs
      subst hw
      dsimp only at hs
      refine' Tr.cons (Ex.if_ (b := true) (by walk_at "te") (fun _ => ?_) (fun h => nomatch h))
      generalize hE : Expr.Dict _ _ _ = e
      refine Tr.cons (Ex.ret (Ev.dict1K hE.symm) ?_)
      exact .inl rfl
  | node a n b i1 i2 =>
    rintro ⟨da, db, sa, sb⟩
    have i1 := i1 da
    have i2 := i2 db
    refine Cal.fnB (names := [Str.ofString "tree"]) (hK := rfl) (hcode := rfl) (hbody := rfl) (hbind := ?_) (hcell := by decide) (hloc := by decide) (hco := rfl) (hgen := rfl) (hk := rfl) (hgl := rfl) (hbi := rfl) (hlen := rfl) (hvars := rfl) ?_
    · exact vs1 fun a => rfl
    · intro c hw hk hs hb
      subst hw
      dsimp only at hs
      have hk' : max a.ht b.ht + 1 = c.k := hk.symm
      refine' Tr.cons (Ex.if_ (b := false) (by walk_at "te") (fun h => nomatch h) (fun _ => Tr.nil ?_))
      show Tr _ _ _ _
      walk_at "st"
      walk_at "st"
      generalize hones : a.dep = ones at *
      generalize htwos : b.dep = twos at *
      refine' Tr.cons (Ex.assignDict hs rfl fun o => ?_)
      show Tr _ _ _ _
      refine' Tr.cons (Ex.forH (ds := (dI ones).map fun p => Dt.int p.1) (Its.of ?zda1 Itv.keys) (fun i => [(Str.ofString "both", .val (.ref o)), (Str.ofString "ones", .dic (dI ones)), (Str.ofString "twos", .dic (dI twos))])
        (fun i => [⟨o, 0, .dic (dI (((ones.map Prod.fst).take i).foldl (depX ones twos) []))⟩]) ⟨rfl, rfl, rfl, rfl, trivial⟩ ?zda2 ?zda3)
      case zda1 => walk_at "ev"
      case zda3 =>
        show Tr _ _ _ _
        have e : (ones.map Prod.fst).take ((dI ones).map fun p => Dt.int p.1).length = ones.map Prod.fst := List.take_of_length_le (by simp [dI])
        rw [e]
        refine Tr.cons (Ex.retOwn (p := ⟨o, 0, .dic (dI (depMul ones twos))⟩) (pre := []) (post := []) hs rfl hb rfl rfl ?_)
        refine .inl ?_
        rw [T.dep, hones, htwos]
      case zda2 =>
        intro ps i d hd
        obtain ⟨x, hx, rfl, ox, hox, hxm⟩ := keyD_at hd
        refine ⟨_, As.name hs rfl, ?_⟩
        refine' Tr.cons (Ex.forH (ds := (dI twos).map fun p => Dt.int p.1) (Its.of ?zdb1 Itv.keys) (fun j => [(Str.ofString "x", .int x), (Str.ofString "both", .val (.ref o)), (Str.ofString "ones", .dic (dI ones)), (Str.ofString "twos", .dic (dI twos))])
          (fun j => [⟨o, 0, .dic (dI (((twos.map Prod.fst).take j).foldl (depY ones twos x) (((ones.map Prod.fst).take i).foldl (depX ones twos) [])))⟩]) ⟨rfl, rfl, rfl, rfl, rfl, trivial⟩ ?zdb2 ?zdb3)
        case zdb1 => walk_at "ev"
        case zdb3 =>
          show Tr _ _ _ _
          have e : (twos.map Prod.fst).take ((dI twos).map fun p => Dt.int p.1).length = twos.map Prod.fst := List.take_of_length_le (by simp [dI])
          rw [e]
          refine Tr.nil ⟨?_, rfl, rfl, rfl, trivial⟩
          have e3 := take_foldl (depX ones twos) [] (ones.map Prod.fst) i x hx
          show [_] = [_]
          rw [e3]; rfl
        case zdb2 =>
          intro ps2 j d hd
          obtain ⟨y, hy, rfl, oy, hoy, hym⟩ := keyD_at hd
          refine ⟨_, As.name hs rfl, ?_⟩
          have e4 := take_foldl (depY ones twos x) (((ones.map Prod.fst).take i).foldl (depX ones twos) []) (twos.map Prod.fst) j y hy
          have l1 := depX_len ones twos ((ones.map Prod.fst).take i) []
          have l2 := depY_len ones twos x ((twos.map Prod.fst).take j) (((ones.map Prod.fst).take i).foldl (depX ones twos) [])
          have l3 : ((ones.map Prod.fst).take i).length ≤ 100 := by rw [List.length_take, List.length_map]; have := sa.1; omega
          have l4 : ((twos.map Prod.fst).take j).length ≤ 100 := by rw [List.length_take, List.length_map]; have := sb.1; omega
          have l5 : (2 * twos.length) * ((ones.map Prod.fst).take i).length ≤ 200 * 100 := Nat.mul_le_mul (by have := sb.1; omega) l3
          have l6 : (((twos.map Prod.fst).take j).foldl (depY ones twos x) (((ones.map Prod.fst).take i).foldl (depX ones twos) [])).length ≤ 30000 := by simp only [List.length_nil, Nat.zero_add] at l1; omega
          generalize hB : ((twos.map Prod.fst).take j).foldl (depY ones twos x) (((ones.map Prod.fst).take i).foldl (depX ones twos) []) = B at *
          have bx : ox.natAbs < 2 ^ 60 := sa.2 _ hxm
          have hmul : IntMulOk ox oy := .of_left (intBits_le_64 (by omega) (by omega))
          refine' Tr.cons (Ex.forH (ds := [.int (pmax x (y + 1)), .int (pmax y (x + 1))]) (Its.of ?zdc1 Itv.lst) (fun j => [(Str.ofString "y", .int y), (Str.ofString "x", .int x), (Str.ofString "both", .val (.ref o)), (Str.ofString "ones", .dic (dI ones)), (Str.ofString "twos", .dic (dI twos))])
            (fun j => [⟨o, 0, .dic (dI (([pmax x (y + 1), pmax y (x + 1)].take j).foldl (fun b d => dadd b (gz ones x * gz twos y) d) B))⟩]) ⟨rfl, rfl, rfl, rfl, rfl, rfl, trivial⟩ ?zdc2 ?zdc3)
          case zdc1 => walk_at "ev"
          case zdc3 =>
            show Tr _ _ _ _
            refine Tr.nil ⟨?_, rfl, rfl, rfl, rfl, trivial⟩
            show [_] = [_]
            rw [e4]; rfl
          case zdc2 =>
            intro ps3 m d hd
            have hd' : ([pmax x (y + 1), pmax y (x + 1)].map Dt.int)[m]? = some d := hd
            simp only [List.getElem?_map, Option.map_eq_some_iff] at hd'
            obtain ⟨deep, hdeep, rfl⟩ := hd'
            refine ⟨_, As.name hs rfl, ?_⟩
            have e5 := take_foldl (fun b d => dadd b (gz ones x * gz twos y) d) B [pmax x (y + 1), pmax y (x + 1)] m deep hdeep
            have l7 := dadd_len B (gz ones x * gz twos y) ([pmax x (y + 1), pmax y (x + 1)].take m)
            have l8 : ([pmax x (y + 1), pmax y (x + 1)].take m).length ≤ 2 := by rw [List.length_take]; simp; omega
            generalize hB2 : ([pmax x (y + 1), pmax y (x + 1)].take m).foldl (fun b d => dadd b (gz ones x * gz twos y) d) B = B2 at *
            refine' Tr.cons (Ex.setDict (pre := []) (post := []) (d := .int ((dget B2 deep).getD 0 + ox * oy)) (k := deep) (Ev.binop (Ev.dictGet (EvS.own (p := ⟨o, 0, .dic (dI B2)⟩) ?zdd1 (.head _) rfl) ?zdd2 (getD_dI B2 _ _))
              (Ev.binop (Ev.sub ?zdd3 ?zdd4 (TyD.dic _) slot_dict_getitem.lookup (Gi.dic (d := .int ox) ?zdd5)) (Ev.sub ?zdd6 ?zdd7 (TyD.dic _) slot_dict_getitem.lookup (Gi.dic (d := .int oy) ?zdd8)) (Bop.mul_int _ _ hmul)) (Bop.add_int _ _)) ?zdd9 ?dda ?ddb ?ddc)
            case zdd1 => walk_at "ev"
            case zdd2 => walk_at "evs"
            case zdd3 => walk_at "ev"
            case zdd4 => walk_at "ev"
            case zdd5 => rw [dget_dI, hox]; rfl
            case zdd6 => walk_at "ev"
            case zdd7 => walk_at "ev"
            case zdd8 => rw [dget_dI, hoy]; rfl
            case zdd9 => walk_at "ev"
            case dda => walk_at "ev"
            case ddb => simp [dI]; omega
            case ddc =>
              show Tr _ _ _ _
              rw [dset_dI]
              refine Tr.nil ⟨?_, rfl, rfl, rfl, rfl, rfl, trivial⟩
              show [_] = [_]
              rw [e5]
              simp only [dadd, gz, hox, hoy, Option.getD_some]
end
end
section
open PySem PySem.W PySem.Calls PyProof.Rows PySem.Spec
set_option Elab.async false
set_option maxRecDepth 100000
set_option linter.unusedVariables false
set_option linter.unusedSimpArgs false
section
noncomputable def sumV (l : List (Int × Int)) : Int := (l.map Prod.snd).foldl (· + ·) 0
theorem count_cal (w : World) (l : List (Int × Int)) : Cal w (.ref 94) 1 [.dic (dI l)] (.int (sumV l)) := by
  refine Cal.fn (n := 0) (names := [Str.ofString "callers"]) (hK := rfl) (hcode := rfl) (hbody := rfl) (hbind := ?_) (hcell := by decide) (hloc := by decide) (hco := rfl) (hgen := rfl) (hk := rfl) (hgl := rfl) (hbi := rfl) (hlen := rfl) (hvars := rfl) ?_
  · exact vs1 fun a => rfl
  · intro c hw hk hs
    subst hw
    dsimp only at hs
    walk_at "st"
    refine' Tr.cons (Ex.forH (ds := (dI l).map Prod.snd) (Its.values ?zca1) (fun i => [(Str.ofString "nc", .int (((l.map Prod.snd).take i).foldl (· + ·) 0))]) (fun i => []) ⟨rfl, rfl, trivial⟩ ?zca2 ?zca3)
    case zca1 => walk_at "ev"
    case zca3 =>
      show Tr _ _ _ _
      have e : (l.map Prod.snd).take ((dI l).map Prod.snd).length = l.map Prod.snd := List.take_of_length_le (by simp [dI])
      rw [e]
      walk_at "st"
      exact .inl rfl
    case zca2 =>
      intro ps i d hd
      have hd' : ((l.map Prod.snd).map Dt.int)[i]? = some d := by rw [← hd]; simp [dI, Function.comp_def]
      rw [List.getElem?_map, Option.map_eq_some_iff] at hd'
      obtain ⟨x, hx, rfl⟩ := hd'
      refine ⟨_, As.name hs rfl, ?_⟩
      refine' Tr.cons (Ex.augInt hs rfl (i := ((l.map Prod.snd).take i).foldl (· + ·) 0) (j := x) rfl ?zca4 ?zca5)
      case zca4 => walk_at "ev"
      case zca5 =>
        show Tr _ _ _ _
        refine Tr.nil ⟨rfl, ?_, trivial⟩
        rw [take_foldl (· + ·) 0 (l.map Prod.snd) i x hx]; rfl
noncomputable def putC (d : List (Int × Int)) (p : Int × Int) : List (Int × Int) := dset d p.1 p.2
noncomputable def addS (d : List (Int × Int)) (p : Int × Int) : List (Int × Int) := if (dget d p.1).isSome then dset d p.1 (gz d p.1 + p.2) else dset d p.1 p.2
noncomputable def addC (t s : List (Int × Int)) : List (Int × Int) := s.foldl addS (t.foldl putC [])
theorem putC_len (l : List (Int × Int)) : ∀ d, (l.foldl putC d).length ≤ d.length + l.length := by
  induction l with
  | nil => intro d; simp
  | cons p l ih => intro d; have := ih (putC d p); have h2 : (putC d p).length ≤ d.length + 1 := dset_len _ _ _; simp only [List.foldl_cons, List.length_cons]; omega
theorem addS_len1 (d : List (Int × Int)) (p : Int × Int) : (addS d p).length ≤ d.length + 1 := by
  unfold addS; split <;> exact dset_len _ _ _
theorem addS_len (l : List (Int × Int)) : ∀ d, (l.foldl addS d).length ≤ d.length + l.length := by
  induction l with
  | nil => intro d; simp
  | cons p l ih => intro d; have := ih (addS d p); have h2 := addS_len1 d p; simp only [List.foldl_cons, List.length_cons]; omega
theorem addC_len (t s : List (Int × Int)) : (addC t s).length ≤ t.length + s.length := by
  have h1 := putC_len t []
  have h2 := addS_len s (t.foldl putC [])
  simp at h1; unfold addC; omega
theorem itemD_at {l : List (Int × Int)} {i : Nat} {d : Dt} (h : ((dI l).map fun p => Dt.tup [.int p.1, p.2])[i]? = some d) : ∃ k v, l[i]? = some (k, v) ∧ d = .tup [.int k, .int v] := by
  simp only [dI, List.map_map, List.getElem?_map, Option.map_eq_some_iff, Function.comp] at h
  obtain ⟨p, hp, rfl⟩ := h
  exact ⟨p.1, p.2, hp, rfl⟩
theorem addcallers_cal (w : World) (t s : List (Int × Int)) (ht : t.length + s.length ≤ 90000) : Cal w (.ref 87) 1 [.dic (dI t), .dic (dI s)] (.dic (dI (addC t s))) := by
  refine Cal.fnB (n := 0) (names := [Str.ofString "target", Str.ofString "source"]) (hK := rfl) (hcode := rfl) (hbody := rfl) (hbind := ?_) (hcell := by decide) (hloc := by decide) (hco := rfl) (hgen := rfl) (hk := rfl) (hgl := rfl) (hbi := rfl) (hlen := rfl) (hvars := rfl) ?_
  · exact vs2 fun a b => rfl
  · intro c hw hk hs hb
    subst hw
    dsimp only at hs
    refine' Tr.cons (Ex.assignDict hs rfl fun o => ?_)
    show Tr _ _ _ _
    refine' Tr.cons (Ex.forH (ds := (dI t).map fun p => Dt.tup [.int p.1, p.2]) (Its.items ?zaa1) (fun i => [(Str.ofString "new_callers", .val (.ref o)), (Str.ofString "source", .dic (dI s))]) (fun i => [⟨o, 0, .dic (dI ((t.take i).foldl putC []))⟩]) ⟨rfl, rfl, rfl, trivial⟩ ?zaa2 ?zaa3)
    case zaa1 => walk_at "ev"
    case zaa2 =>
      intro ps i d hd
      obtain ⟨k, v, hkv, rfl⟩ := itemD_at hd
      refine ⟨_, As.tuple (Ass.cons (As.name hs rfl) (Ass.cons (As.name hs rfl) Ass.nil)), ?_⟩
      have e1 := take_foldl putC [] t i (k, v) hkv
      have l1 := putC_len (t.take i) []
      have l2 : (t.take i).length ≤ t.length := by rw [List.length_take]; omega
      generalize hB : (t.take i).foldl putC [] = B at *
      refine' Tr.cons (Ex.setDict (pre := []) (post := []) (d := .int v) (k := k) ?zab1 ?zab2 ?zab3 ?zab4 ?zab5)
      case zab1 => walk_at "ev"
      case zab2 => walk_at "ev"
      case zab3 => walk_at "ev"
      case zab4 => simp at l1; simp [dI]; omega
      case zab5 =>
        show Tr _ _ _ _
        rw [dset_dI]
        refine Tr.nil ⟨?_, rfl, rfl, trivial⟩
        show [_] = [_]
        rw [e1]; rfl
    case zaa3 =>
      show Tr _ _ _ _
      have e : t.take ((dI t).map fun p => Dt.tup [.int p.1, p.2]).length = t := List.take_of_length_le (by simp [dI])
      rw [e]
      generalize hT : t.foldl putC [] = T0
      have lT := putC_len t []
      rw [hT] at lT
      refine' Tr.cons (Ex.forH (ds := (dI s).map fun p => Dt.tup [.int p.1, p.2]) (Its.items ?zac1) (fun i => [(Str.ofString "new_callers", .val (.ref o))]) (fun i => [⟨o, 0, .dic (dI ((s.take i).foldl addS T0))⟩]) ⟨rfl, rfl, trivial⟩ ?zac2 ?zac3)
      case zac1 => walk_at "ev"
      case zac3 =>
        show Tr _ _ _ _
        have e : s.take ((dI s).map fun p => Dt.tup [.int p.1, p.2]).length = s := List.take_of_length_le (by simp [dI])
        rw [e]
        refine Tr.cons (Ex.retOwn (p := ⟨o, 0, .dic (dI (s.foldl addS T0))⟩) (pre := []) (post := []) hs rfl hb rfl rfl ?_)
        refine .inl ?_
        rw [← hT]; rfl
      case zac2 =>
        intro ps i d hd
        obtain ⟨k, v, hkv, rfl⟩ := itemD_at hd
        refine ⟨_, As.tuple (Ass.cons (As.name hs rfl) (Ass.cons (As.name hs rfl) Ass.nil)), ?_⟩
        have e1 := take_foldl addS T0 s i (k, v) hkv
        have l1 := addS_len (s.take i) T0
        have l2 : (s.take i).length ≤ s.length := by rw [List.length_take]; omega
        generalize hB : (s.take i).foldl addS T0 = B at *
        have lB : (dI B).length ≤ 100000 := by simp at lT; simp [dI]; omega
        refine' Tr.cons (Ex.if_ (b := (dget (dI B) k).isSome) (Te.inDict ?zad1 (EvS.own (p := ⟨o, 0, .dic (dI B)⟩) ?zad2 (.head _) rfl)) (fun hin => ?_) (fun hin => ?_))
        case zad1 => walk_at "ev"
        case zad2 => walk_at "ev"
        · refine' Tr.cons (Ex.if_ (b := false) ?zae1 (fun h => nomatch h) (fun _ => ?_))
          case zae1 => walk_at "te"
          have hg : dget (dI B) k = some (.int (gz B k)) := by
            rw [dget_dI] at hin ⊢
            unfold gz
            cases q : dget B k with
            | none => rw [q] at hin; cases hin
            | some x => rfl
          have hin' : (dget B k).isSome = true := by
            rw [dget_dI] at hin
            cases q : dget B k with
            | none => rw [q] at hin; cases hin
            | some x => rfl
          refine' Tr.cons (Ex.augDict (pre := []) (post := []) (k := k) (i := gz B k) (j := v) ?zaf1 ?zaf2 hg ?zaf3 lB ?zaf4)
          case zaf1 => walk_at "ev"
          case zaf2 => walk_at "ev"
          case zaf3 => walk_at "ev"
          case zaf4 =>
            show Tr _ _ _ _
            rw [dset_dI]
            refine Tr.nil ?_
            show Tr _ _ _ _
            refine Tr.nil ?_
            show Tr _ _ _ _
            refine Tr.nil ⟨?_, rfl, trivial⟩
            show [_] = [_]
            rw [e1]; unfold addS; rw [if_pos hin']
        · have hin' : ¬ (dget B k).isSome = true := by
            rw [dget_dI] at hin
            cases q : dget B k with
            | none => simp
            | some x => rw [q] at hin; cases hin
          refine' Tr.cons (Ex.setDict (pre := []) (post := []) (d := .int v) (k := k) ?zag1 ?zag2 ?zag3 lB ?zag5)
          case zag1 => walk_at "ev"
          case zag2 => walk_at "ev"
          case zag3 => walk_at "ev"
          case zag5 =>
            show Tr _ _ _ _
            rw [dset_dI]
            refine Tr.nil ?_
            show Tr _ _ _ _
            refine Tr.nil ⟨?_, rfl, trivial⟩
            show [_] = [_]
            rw [e1]; unfold addS; rw [if_neg hin']
noncomputable def statD (a b c d : Int) (l : List (Int × Int)) : Dt := .tup [.int a, .int b, .int c, .int d, .dic (dI l)]
theorem stats_cal (w : World) (a b c d : Int) (l : List (Int × Int)) (a' b' c' d' : Int) (l' : List (Int × Int)) (hl : l.length + l'.length ≤ 90000) :
    Cal w (.ref 80) 2 [statD a b c d l, statD a' b' c' d' l'] (statD (a' + a) (b' + b) (c' + c) (d' + d) (addC l l')) := by
  refine Cal.fn (n := 1) (names := [Str.ofString "target", Str.ofString "source"]) (hK := rfl) (hcode := rfl) (hbody := rfl) (hbind := ?_) (hcell := by decide) (hloc := by decide) (hco := rfl) (hgen := rfl) (hk := rfl) (hgl := rfl) (hbi := rfl) (hlen := rfl) (hvars := rfl) ?_
  · exact vs2 fun a b => rfl
  · intro c0 hw hk hs
    subst hw
    dsimp only at hs
    have i1 := addcallers_cal c0.w l l' hl
    refine' Tr.cons (Ex.assignT (d := statD a' b' c' d' l') ?zsa1 (As.tuple (ds := [.int a', .int b', .int c', .int d', .dic (dI l')]) (Ass.cons (As.name hs rfl) (Ass.cons (As.name hs rfl) (Ass.cons (As.name hs rfl) (Ass.cons (As.name hs rfl) (Ass.cons (As.name hs rfl) Ass.nil)))))) ?zsa2)
    case zsa1 => walk_at "ev"
    case zsa2 =>
      show Tr _ _ _ _
      refine' Tr.cons (Ex.assignT (d := statD a b c d l) ?zsb1 (As.tuple (ds := [.int a, .int b, .int c, .int d, .dic (dI l)]) (Ass.cons (As.name hs rfl) (Ass.cons (As.name hs rfl) (Ass.cons (As.name hs rfl) (Ass.cons (As.name hs rfl) (Ass.cons (As.name hs rfl) Ass.nil)))))) ?zsb2)
      case zsb1 => walk_at "ev"
      case zsb2 =>
        show Tr _ _ _ _
        walk_at "st"
        exact .inl rfl
end
end
section
open PySem PySem.W PySem.Calls PyProof.Rows PySem.Spec
set_option Elab.async false
set_option maxRecDepth 100000
set_option linter.unusedVariables false
set_option linter.unusedSimpArgs false
section
theorem pairs_any {p p' : Program} {w w' : World} {es : List DictEntry} {l : List (Int × Value)} (h : Pairs (intKind p w) es l) : Pairs (intKind p' w') es l := by
  induction h with
  | nil => exact .nil
  | cons a b _ c => exact .cons a b c
theorem dictOf_any {p p' : Program} {w w' : World} {h : Heap} {a : Addr} {l : List (Int × Value)} (x : h.DictOf (intKind p w) a l) : h.DictOf (intKind p' w') a l := by
  obtain ⟨o, es, ep, h1, h2, h3, h4, h5, h6⟩ := x
  exact ⟨o, es, ep, h1, h2, h3, fun e he => h4 e he, pairs_any h5, h6⟩
noncomputable def EqD (n : Nat) (d1 d2 : Dt) (b : Bool) : Prop := ∀ (A : Around) (s : Shared) (W : Fz) (v1 v2 : Value), A.units + n ≤ cLine → (∀ b o, W b = some o → s.heap.get? b = some o) → Rep W v1 d1 → Rep W v2 d2 → SeqAt.EqAt A s v1 v2 b
theorem EqD.int {n : Nat} (a b : Int) : EqD n (.int a) (.int b) (a == b) := fun A s W v1 v2 _ _ r1 r2 => by
  cases r1; cases r2; exact SeqAt.EqAt.int_int _ _ _ _
theorem EqD.str {n : Nat} (a b : Str) : EqD n (.str a) (.str b) (sEq a b) := fun A s W v1 v2 _ _ r1 r2 => by
  cases r1; cases r2; exact (SeqRoads2.EqGives.str _ _ _ _).at A s
noncomputable def sameD (l1 l2 : List (Int × Int)) : Prop := l1.length = l2.length ∧ ∀ p ∈ l1, dget l2 p.1 = some p.2
theorem RepV.intAt {W : Fz} {l : List (Int × Value)} {kvs : List (Int × Int)} (r : RepV W l (dI kvs)) : ∀ k v, (k, v) ∈ l → ∃ i t, v = .int i t ∧ (k, i) ∈ kvs := by
  induction kvs generalizing l with
  | nil => cases r; intro k v h; cases h
  | cons p kvs ih =>
    cases r with
    | cons a b =>
      intro k v h
      rcases List.mem_cons.mp h with e | h
      · cases e
        (replace a := Rep.int_inv a; obtain ⟨t, rfl⟩ := a)
        exact ⟨_, t, rfl, .head _⟩
      · obtain ⟨i, t, e, m⟩ := ih b k v h
        exact ⟨i, t, e, .tail _ m⟩
theorem EqD.dic {l1 l2 : List (Int × Int)} (h : sameD l1 l2) : EqD 1 (.dic (dI l1)) (.dic (dI l2)) true := fun A s W v1 v2 hu hk r1 r2 => by
  by_cases e : v1 = v2
  · subst e; exact SeqAt.EqAt.same _
  obtain ⟨a1, es1, n1, rfl, e1, q1, nd1⟩ := Rep.dic_inv r1
  obtain ⟨a2, es2, n2, rfl, e2, q2, nd2⟩ := Rep.dic_inv r2
  have hne : a1 ≠ a2 := fun q => e (by rw [q])
  refine SeqAt.EqAt.of_refs hne fun p w E Q hQ => ?_
  obtain ⟨k1, g1, d1⟩ := dictOf_out w (hk _ _ e1) q1 nd1.1
  obtain ⟨k2, g2, d2⟩ := dictOf_out w (hk _ _ e2) q2 nd2.1
  refine keq_eq (knd := intKind p w) (r := true) nd1.2 nd2.2 (dictOf_any d1) (dictOf_any d2) (by omega) (fun _ => ?_) ?_
  · have hsub : ∀ kk : List (Int × Value), (∀ x ∈ kk, x ∈ k1) → KeqHits A.in1 s k2 kk true := fun kk => by
      induction kk with
      | nil => intro _; exact .nil
      | cons x kk ih =>
        intro hx
        obtain ⟨i, t, ev, m⟩ := g1.intAt x.1 x.2 (hx x (.head _))
        have hg := h.2 _ m
        have hg' : dget (dI l2) x.1 = some (.int i) := by rw [dget_dI, hg]; rfl
        rcases g2.get (k := x.1) with ⟨_, z⟩ | ⟨v', d', z1, z2, z3⟩
        · rw [hg'] at z; cases z
        · rw [hg'] at z2; cases z2
          (replace z3 := Rep.int_inv z3; obtain ⟨u, rfl⟩ := z3)
          have := KeqHits.hit (A := A.in1) (s := s) (kb := k2) (k := x.1) (v := x.2) (r := kk) (e := (i == i)) z1 (by rw [ev]; exact SeqAt.EqAt.int_int _ _ _ _) (ih fun y hy => hx y (.tail _ hy))
          simpa using this
    exact hsub k1 fun x hx => hx
  · have : k1.length = k2.length := by
      rw [g1.length, g2.length]; simpa [dI] using h.1
    rw [this]; simpa using hQ
section
variable {c : Cx} {F : Frame} {W W₁ : Fz} {h : Heap}
theorem tup_all {ds1 ds2 : List Dt} {e : Nat → Bool} {A : Around} {s : Shared} {W : Fz} {xs ys : Array Value} (hl : ds1.length = ds2.length) (h : ∀ j d1 d2, ds1[j]? = some d1 → ds2[j]? = some d2 → EqD 1 d1 d2 (e j)) (hu : A.units + 2 ≤ cLine)
    (hk : ∀ b o, W b = some o → s.heap.get? b = some o) (r1 : Reps W xs.toList ds1) (r2 : Reps W ys.toList ds2) : xs.size = ys.size ∧ xs.size = ds1.length ∧ ∀ j (h1 : j < xs.size) (h2 : j < ys.size), SeqAt.EqAt A.in1 s xs[j] ys[j] (e j) := by
  have l1 : xs.size = ds1.length := by rw [← r1.length, Array.length_toList]
  have l2 : ys.size = ds2.length := by rw [← r2.length, Array.length_toList]
  refine ⟨by omega, l1, fun j h1 h2 => ?_⟩
  obtain ⟨d1, g1, q1⟩ := r1.getd (Sub.refl _) (Array.getElem?_eq_getElem h1)
  obtain ⟨d2, g2, q2⟩ := r2.getd (Sub.refl _) (Array.getElem?_eq_getElem h2)
  exact h j d1 d2 g1 g2 A.in1 s W _ _ (by show A.units + 1 + 1 ≤ _; omega) hk q1 q2
theorem Cop.eq_tup {ds1 ds2 : List Dt} {e : Nat → Bool} (hl : ds1.length = ds2.length) (h : ∀ j d1 d2, ds1[j]? = some d1 → ds2[j]? = some d2 → EqD 1 d1 d2 (e j)) : Cop .Eq (.tup ds1) (.tup ds2) ((List.range ds1.length).all e) := fun c F W₁ x y hx hy => by
  refine Go.fresh_val fun W hp tk Q E hs I hQ => ?_
  obtain ⟨a, vs, n, rfl, e1, r1⟩ := Rep.tup_inv (hx.mono hs)
  obtain ⟨b, vs', n', rfl, e2, r2⟩ := Rep.tup_inv (hy.mono hs)
  have room := c.room.2
  obtain ⟨z1, z2, z3⟩ := tup_all (A := c.A) (s := St c.s₀ hp tk) hl h (by omega) I.keep r1 r2
  refine SeqAt.eq_tupleAt (s := St c.s₀ hp tk) ⟨_, I.keep _ _ e1, rfl, n, rfl⟩ ⟨_, I.keep _ _ e2, rfl, n', rfl⟩ (by omega) z3 ?_
  rw [← z1, Nat.min_self, z2, beq_self_eq_true, Bool.and_true]
  exact hQ _ _ (.bool _)
theorem Cop.ne_tup {ds1 ds2 : List Dt} {e : Nat → Bool} (hl : ds1.length = ds2.length) (h : ∀ j d1 d2, ds1[j]? = some d1 → ds2[j]? = some d2 → EqD 1 d1 d2 (e j)) : Cop .NotEq (.tup ds1) (.tup ds2) (!(List.range ds1.length).all e) := fun c F W₁ x y hx hy => by
  refine Go.fresh_val fun W hp tk Q E hs I hQ => ?_
  obtain ⟨a, vs, n, rfl, e1, r1⟩ := Rep.tup_inv (hx.mono hs)
  obtain ⟨b, vs', n', rfl, e2, r2⟩ := Rep.tup_inv (hy.mono hs)
  have room := c.room.2
  obtain ⟨z1, z2, z3⟩ := tup_all (A := c.A) (s := St c.s₀ hp tk) hl h (by omega) I.keep r1 r2
  refine SeqAt.RcNeAt.tuples (s := St c.s₀ hp tk) ⟨_, I.keep _ _ e1, rfl, n, rfl⟩ ⟨_, I.keep _ _ e2, rfl, n', rfl⟩ (by omega) z3 prog c.w E Q ?_
  rw [← z1, Nat.min_self, z2, beq_self_eq_true, Bool.and_true]
  exact hQ _ _ (.bool _)
theorem Cop.eq_dic {l1 l2 : List (Int × Int)} (h : sameD l1 l2) : Cop .Eq (.dic (dI l1)) (.dic (dI l2)) true := fun c F W₁ x y hx hy => by
  refine Go.fresh_val fun W hp tk Q E hs I hQ => ?_
  have room := c.room.2
  obtain ⟨a1, es1, n1, rfl, e1, q1, nd1⟩ := Rep.dic_inv (hx.mono hs)
  obtain ⟨a2, es2, n2, rfl, e2, q2, nd2⟩ := Rep.dic_inv (hy.mono hs)
  obtain ⟨k1, g1, d1⟩ := dictOf_out c.w (I.keep _ _ e1) q1 nd1.1
  obtain ⟨k2, g2, d2⟩ := dictOf_out c.w (I.keep _ _ e2) q2 nd2.1
  have d1' : (St c.s₀ hp tk).heap.DictOf (iK c.w) a1 k1 := d1
  have d2' : (St c.s₀ hp tk).heap.DictOf (iK c.w) a2 k2 := d2
  refine keq_eq (s := St c.s₀ hp tk) (r := true) nd1.2 nd2.2 d1' d2' (by omega) (fun _ => ?_) ?_
  · have hsub : ∀ kk : List (Int × Value), (∀ x ∈ kk, x ∈ k1) → KeqHits c.A.in1 (St c.s₀ hp tk) k2 kk true := fun kk => by
      induction kk with
      | nil => intro _; exact .nil
      | cons x kk ih =>
        intro hx
        obtain ⟨i, t, ev, m⟩ := g1.intAt x.1 x.2 (hx x (.head _))
        have hg := h.2 _ m
        have hg' : dget (dI l2) x.1 = some (.int i) := by rw [dget_dI, hg]; rfl
        rcases g2.get (k := x.1) with ⟨_, z⟩ | ⟨v', d', z1, z2, z3⟩
        · rw [hg'] at z; cases z
        · rw [hg'] at z2; cases z2
          (replace z3 := Rep.int_inv z3; obtain ⟨u, rfl⟩ := z3)
          have := KeqHits.hit (A := c.A.in1) (s := St c.s₀ hp tk) (kb := k2) (k := x.1) (v := x.2) (r := kk) (e := (i == i)) z1 (by rw [ev]; exact SeqAt.EqAt.int_int _ _ _ _) (ih fun y hy => hx y (.tail _ hy))
          simpa using this
    exact hsub k1 fun x hx => hx
  · have : k1.length = k2.length := by
      rw [g1.length, g2.length]; simpa [dI] using h.1
    rw [this]; simpa using hQ _ _ (.bool _)
end
end
end
section
open PySem PySem.W PySem.Calls PyProof.Rows PySem.Spec
set_option Elab.async false
set_option maxRecDepth 100000
set_option linter.unusedVariables false
set_option linter.unusedSimpArgs false
section
section
open PySem.Builtin PySem.Builtin.Str
noncomputable abbrev PSt : Type := List Value × Writer × List Nat
noncomputable abbrev PIn (f : Value → Str → Value → Nat → PSt → Sem (ForInStep PSt)) (g : PSt → Sem Fin) (tup : Bool) : Prop :=
  ∀ (prog : Program) (w : World) (A : Around) (E : Value → Shared → Prop) (s : Shared) (Q : Fin → Shared → Prop) (fo : Value) (F : Str) (a : Value) (its : List Value) (os : Option Str),
    (∀ Q' : Bool → Shared → Prop, Q' tup s → wpAny (model prog w) A (isInstance a (.type "tuple")) Q' E s) → (∀ Q' : Option Str → Shared → Prop, Q' os s → wpAny (model prog w) A (asStr? a) Q' E s) →
    (∀ Q' : Bool → Shared → Prop, (∀ b, Q' b s) → wpAny (model prog w) A (fillsMappingSlot a) Q' E s) → (tup = true → ∀ Q' : Option (Array Value) → Shared → Prop, Q' (some its.toArray) s → wpAny (model prog w) A (seqItems? a) Q' E s) →
    (tup = false → its = [a]) → (∀ b, (!tup && !os.isSome && b) = false) →
    wpAny (model prog w) A (forIn (List.range' 0 F.length 1) (its, ({} : Writer), F.cps.toList) (f fo F a)) (fun st s' => wpAny (model prog w) A (g st) Q E s') E s → wpAny (model prog w) A (percentFormat fo F a) Q E s
noncomputable abbrev PTurn (f : Nat → PSt → Sem (ForInStep PSt)) (F : Str) : Prop :=
  ∀ (prog : Program) (w : World) (A : Around) (E : Value → Shared → Prop) (s : Shared) (Q : ForInStep PSt → Shared → Prop) (i : Nat) (p : List Value) (v : Writer) (T : Str) (N : Nat), KPc.Good v T N → N ≤ 16777216 →
    (∀ r lit t y, r.isEmpty = false → List.span (· != 37) r = (lit, t) → lit.isEmpty = false → (lit.length == F.length) = false → (⟨lit.toArray⟩ : Str) = y → (∀ v, KPc.Good v (T ++ y) (N + y.length) → Q (.yield (p, v, t)) s) → wpAny (model prog w) A (f i (p, v, r)) Q E s) ∧
    (∀ rest y u K, y.length ≤ K → (∀ v, KPc.Good v (T ++ y) (N + K) → Q (.yield (p, v, rest)) s) → wpAny (model prog w) A (f i (.str y u :: p, v, 37 :: 115 :: rest)) Q E s) ∧
    (∀ rest n u, 0 ≤ n → n < 10 ^ 10 → (∀ v k, KPc.Good v (T ++ Str.ofString (toString n)) (N + 10) → Q (.yield (p, v, rest)) { s with toks := k }) → wpAny (model prog w) A (f i (.int n u :: p, v, 37 :: 100 :: rest)) Q E s) ∧
    (Q (.done (p, v, [])) s → wpAny (model prog w) A (f i (p, v, [])) Q E s)
noncomputable abbrev PEnd (g : PSt → Sem Fin) : Prop :=
  ∀ (prog : Program) (w : World) (A : Around) (E : Value → Shared → Prop) (s : Shared) (Q : Fin → Shared → Prop) (v : Writer) (T : Str) (N : Nat) (r : List Nat), KPc.Good v T N → N ≤ 16777216 → (∀ t k, Q (.done (.ret (.str T t))) { s with toks := k }) → wpAny (model prog w) A (g ([], v, r)) Q E s
theorem str_back (y : Str) : (⟨y.cps.toList.toArray⟩ : Str) = y := congrArg PySem.Str.mk (Array.toArray_toList ..)
theorem good_str {v : Writer} {T y : Str} {N K : Nat} {o : Option Value} (hg : KPc.Good v T N) (hK : y.length ≤ K) (ho : KPc.Obj o y) : KPc.Good (v.add ⟨y.cps.toList.toArray⟩ o) (T ++ y) (N + K) := by
  rw [str_back]
  exact KPc.good_mono (KPc.good_add hg ho) (Nat.add_le_add_left hK _)
theorem good_int {v : Writer} {T : Str} {N : Nat} {n : Int} {c : Percent} (hg : KPc.Good v T N) (h1 : c.alt = false) (h2 : c.type = 100) (h3 : c.prec = none) (h0 : 0 ≤ n) (hm : n < 10 ^ 10) {o : Option Value} (ho : o = none) :
    KPc.Good (v.add ⟨(percentInt c (decide (n < 0)) (Str.ofString (toString ((n.natAbs : Nat) : Int))).cps.toList).toArray⟩ o) (T ++ Str.ofString (toString n)) (N + 10) := by
  rw [KPc.int_text c h1 (.inl h2) h3 h0, Int.natAbs_of_nonneg h0]
  exact good_str hg (toString_length_le h0 (by decide) hm) (KPc.obj_none ho)
theorem pf : ∃ f g, PIn f g true ∧ PIn f g false ∧ (∀ fo F a, PTurn (f fo F a) F) ∧ PEnd g := by
  refine ⟨?f, ?g, ?p1, ?p2, ?p3, ?p5⟩
  case p1 =>
    refine fun prog w A E s Q fo F a its os hI hS hF hP hs hm h => ?_
    unfold percentFormat
    refine wpAny_bind (hI _ (wpAny_bind (hS _ (wpAny_bind (hF _ fun sb => ?_)))))
    kpc_if
    refine wpAny_bind (hP rfl _ (wpAny_bind (wpAny_pure (wpAny_bind ?_))))
    rw [KPc.range_list, hm sb]
    exact h
  case p2 =>
    refine fun prog w A E s Q fo F a its os hI hS hF hP hs hm h => ?_
    obtain rfl := hs rfl
    unfold percentFormat
    refine wpAny_bind (hI _ (wpAny_bind (hS _ (wpAny_bind (hF _ fun sb => ?_)))))
    kpc_if
    refine wpAny_bind (wpAny_pure (wpAny_bind ?_))
    rw [KPc.range_list, hm sb]
    exact h
  case p3 =>
    refine fun fo F a prog w A E s Q i p v T N hg hN => ⟨fun r lit t y h0 hs h1 h2 hy h => ?_, fun rest y u K hK h => ?_, fun rest n u h0 h1 h => ?_, fun h => ?_⟩
    all_goals refine wpAny_ite (KPc.ite_no (KPc.short_good hg hN) ?_)
    · rw [if_neg (by rw [h0]; exact Bool.false_ne_true), hs]
      refine wpAny_ite (KPc.ite_yes (by rw [h1]; rfl) (wpAny_pure (h _ ?_)))
      rw [if_neg (by rw [h2]; exact Bool.false_ne_true), hy]
      exact KPc.good_add hg (KPc.obj_none rfl)
    · refine wpAny_bind (wpAny_holding ?_)
      refine wpAny_bind (wpAny_of_eq (KPc.strOf_str _ _) ?_)
      refine (wpAny_bind (wpAny_of_eq (a := some _) rfl (wpAny_pure (wpAny_pure (h _ (good_str hg hK ?_))))))
      cases rest.isEmpty
      · exact KPc.obj_none rfl
      · exact KPc.obj_some rfl
    · have hlog : n.natAbs.log2 < 1920 := shown (N := 2 ^ 1920) (by omega) (by omega) (Int.le_refl _)
      refine wpAny_bind (wpAny_holding ?_)
      refine wpAny_bind (wpAny_of_eq (a := n) rfl ?_)
      exact wpAny_bind (wpAny_mkInt (wpAny_bind (call_gives PySem.F.slot_int_repr (typeIs_int _ _ _) PySem.F.entry_int_repr (PySem.F.args_int_repr_1 _) (gives_int_repr _ _ (KPt.hd2 hlog)) ⟨int_text_fits (KPt.hd2 hlog),
        wpAny_bind (wpAny_of_eq (a := some _) rfl (wpAny_pure (wpAny_pure (h _ _ (good_int hg rfl rfl rfl h0 h1 (ite_self _))))))⟩)))
    · kpc_if
      exact wpAny_pure h
  case p5 =>
    refine fun prog w A E s Q v T N r hg hN h => ?_
    kpc_if
    exact KPc.finish_ok hg hN rfl h
theorem meets_fmt3 (x y : Str) (n : Int) (t t1 t2 t3 : Tok) (b : Addr) (hx : x.length ≤ 100000) (hy : y.length ≤ 100000) (h0 : 0 ≤ n) (h1 : n < 100) :
    Meets (Builtin.«str.__mod__» ⟨[.str ⟨#[37, 115, 58, 37, 100, 40, 37, 115, 41]⟩ t, .ref b], []⟩) (fun _ R s => IsTup s.heap b #[.str x t1, .int n t2, .str y t3] ∧ ∀ t' k, R (.ok (.ret (.str (jn x n y) t'))) { s with toks := k }) := by
  refine KPt.meets_tup fun prog w A s Q E ht h => ?_
  obtain ⟨o, ho, hc, k, hd⟩ := ht
  rw [KPt.entry_is_r]
  obtain ⟨f, g, P1, P2, U, G⟩ := pf
  refine P1 _ _ _ _ _ _ _ _ _ [.str x t1, .int n t2, .str y t3] none (fun _ => wpAny_isInstance (T := "tuple") ⟨o, ho, hc⟩ KPt.sub_tt) (fun _ => KPt.asStr_ref ho hd) (fun _ => KPt.fills_ref ⟨o, ho, hc⟩) (fun _ _ => wpAny_seqItems ho hd) (fun e => nomatch e) (fun _ => rfl) ?_
  refine KPc.turn ((U _ _ _ _ _ _ _ _ _ _ _ _ _ _ KPc.good0 (by decide)).2.1 _ _ _ _ hx fun v hg => ?_)
  refine KPc.turn ((U _ _ _ _ _ _ _ _ _ _ _ _ _ _ hg (by decide)).1 _ _ _ (Str.ofString ":") rfl rfl rfl rfl (by decide +kernel) fun v hg => ?_)
  refine KPc.turn ((U _ _ _ _ _ _ _ _ _ _ _ _ _ _ hg (by decide)).2.2.1 _ _ _ h0 (by omega) fun v k hg => ?_)
  refine KPc.turn ((U _ _ _ _ _ _ _ _ _ _ _ _ _ _ hg (by decide)).1 _ _ _ (Str.ofString "(") rfl rfl rfl rfl (by decide +kernel) fun v hg => ?_)
  refine KPc.turn ((U _ _ _ _ _ _ _ _ _ _ _ _ _ _ hg (by decide)).2.1 _ _ _ _ hy fun v hg => ?_)
  refine KPc.turn ((U _ _ _ _ _ _ _ _ _ _ _ _ _ _ hg (by decide)).1 _ _ _ (Str.ofString ")") rfl rfl rfl rfl (by decide +kernel) fun v hg => ?_)
  refine KPc.turn ((U _ _ _ _ _ _ _ _ _ _ _ _ _ _ hg (by decide)).2.2.2 (G _ _ _ _ _ _ _ _ _ _ hg (by decide) ?_))
  rw [KPc.empty_app]
  exact fun t k => h t k
theorem meets_fmt1 (z : Str) (t u : Tok) (hz : z.length ≤ 1000000) :
    Meets (Builtin.«str.__mod__» ⟨[.str ⟨#[123, 37, 115, 125]⟩ t, .str z u], []⟩) (fun _ R s => ∀ t' k, R (.ok (.ret (.str (Str.ofString "{" ++ z ++ Str.ofString "}") t'))) { s with toks := k }) := by
  refine KPc.meets_of fun prog w A s Q E h => ?_
  rw [KPc.entry_is_s]
  obtain ⟨f, g, P1, P2, U, G⟩ := pf
  refine P2 _ _ _ _ _ _ _ _ _ [.str z u] (some z) (fun _ => wpAny_isInstance (typeIs_str _ _ _) PySem.F.sub_str_tuple) (fun _ => wpAny_of_eq rfl) (fun _ => KPc.wp_fills_str) (fun e => nomatch e) (fun _ => rfl) (fun _ => rfl) ?_
  refine KPc.turn ((U _ _ _ _ _ _ _ _ _ _ _ _ _ _ KPc.good0 (by decide)).1 _ _ _ (Str.ofString "{") rfl rfl rfl rfl (by decide +kernel) fun v hg => ?_)
  refine KPc.turn ((U _ _ _ _ _ _ _ _ _ _ _ _ _ _ hg (by decide)).2.1 _ _ _ _ hz fun v hg => ?_)
  refine KPc.turn ((U _ _ _ _ _ _ _ _ _ _ _ _ _ _ hg (by decide)).1 _ _ _ (Str.ofString "}") rfl rfl rfl rfl (by decide +kernel) fun v hg => ?_)
  refine KPc.turn ((U _ _ _ _ _ _ _ _ _ _ _ _ _ _ hg (by decide)).2.2.2 (G _ _ _ _ _ _ _ _ _ _ hg (by decide) ?_))
  rw [KPc.empty_app]
  exact fun t k => h t k
end
theorem fmt3_eq : Str.ofString "%s:%d(%s)" = ⟨#[37, 115, 58, 37, 100, 40, 37, 115, 41]⟩ := by decide +kernel
theorem fmt1_eq : Str.ofString "{%s}" = ⟨#[123, 37, 115, 125]⟩ := by decide +kernel
theorem Bop.fmt3 (x y : Str) (n : Int) (hx : x.length ≤ 100000) (hy : y.length ≤ 100000) (h0 : 0 ≤ n) (h1 : n < 100) : Bop .Mod (.str (Str.ofString "%s:%d(%s)")) (.tup [.str x, .int n, .str y]) (.str (jn x n y)) := fun c F W₁ a b ha hb => by
  (replace ha := Rep.str_inv ha; obtain ⟨t, rfl⟩ := ha)
  refine Go.fresh_val fun W h tk Q E hs I hQ => ?_
  obtain ⟨b, vs, k, rfl, e, r⟩ := Rep.tup_inv (hb.mono hs)
  obtain ⟨vs⟩ := vs
  (replace r := Reps.cons_inv r; obtain ⟨_, _, rfl, r1, r⟩ := r)
  (replace r := Reps.cons_inv r; obtain ⟨_, _, rfl, r2, r⟩ := r)
  (replace r := Reps.cons_inv r; obtain ⟨_, _, rfl, r3, r⟩ := r)
  cases r
  cases r1; cases r2; cases r3
  rw [fmt3_eq]
  have ht : IsTup (St c.s₀ h tk).heap b #[.str x _, .int n _, .str y _] := ⟨_, I.keep _ _ e, rfl, k, rfl⟩
  refine wpAny_with_toks (n := 1) (show 1 ≤ tk + 1 from Nat.le_add_left 1 tk) ?_
  exact KPt.bin_left (s := St c.s₀ h tk) (T := "str") (U := "tuple") (op := .Mod) (by decide) (typeIs_str _ _ _) ⟨_, I.keep _ _ e, rfl⟩ PySem.F.fills_str_mod KPt.fills_tuple PySem.F.slot_str_mod
    (call_meets PySem.F.slot_str_mod (typeIs_str _ _ _) PySem.F.entry_str_mod (PySem.F.args_str_mod_2 _ _) (meets_fmt3 x y n t _ _ _ b hx hy h0 h1) ⟨ht, fun t' k => ⟨(fun e => nomatch e), fun htk => toks_up htk fun k' => hQ _ k' (.str _ _)⟩⟩)
theorem Bop.fmt1 (z : Str) (hz : z.length ≤ 1000000) : Bop .Mod (.str (Str.ofString "{%s}")) (.str z) (.str (Str.ofString "{" ++ z ++ Str.ofString "}")) := fun c F W₁ a b ha hb => by
  (replace ha := Rep.str_inv ha; obtain ⟨t, rfl⟩ := ha)
  (replace hb := Rep.str_inv hb; obtain ⟨u, rfl⟩ := hb)
  refine Go.fresh_val fun W h tk Q E hs I hQ => ?_
  rw [fmt1_eq]
  refine wpAny_with_toks (n := 1) (show 1 ≤ tk + 1 from Nat.le_add_left 1 tk) ?_
  exact binaryOp_meets (s := St c.s₀ h tk) (T := "str") (op := .Mod) (typeIs_str _ _ _) (typeIs_str _ _ _) PySem.F.fills_str_mod PySem.F.slot_str_mod PySem.F.entry_str_mod (PySem.F.args_str_mod_2 _ _) (meets_fmt1 z t u hz) (fun t' k => ⟨(fun e => nomatch e), fun htk => toks_up htk fun k' => hQ _ k' (.str _ _)⟩)
theorem sliceApplied_two {prog : Program} {w : World} {A : Around} {E : Value → Shared → Prop} {s : Shared} {sl : Addr} {u : Tok} {Q : Int × Int × Nat → Shared → Prop} (hs : s.heap.IsSliceOf sl .none (.int 2 u) .none) (h : Q (0, 1, 2) s) :
    wpAny (model prog w) A (Builtin.Slice.sliceApplied (.ref sl) (Pure.pure 3)) Q E s := by
  obtain ⟨os, hos, hcs, hds⟩ := id hs
  unfold Builtin.Slice.sliceApplied Builtin.Slice.sliceFields
  refine wpAny_bind (wpAny_bind (wpAny_field hos hds (x := .none) rfl (wpAny_bind (wpAny_field hos hds (x := .int 2 u) rfl (wpAny_bind (wpAny_field hos hds (x := .none) rfl (wpAny_pure ?_)))))))
  refine wpAny_bind (slicePart_none ?_)
  show wpAny _ _ (if ((1 : Int) == 0) = true then _ else _) _ _ s
  first | refine wIfN (by decide) ?_ | refine wIfNB (by decide) ?_ | rw [if_neg (by decide)]
  refine wpAny_bind (slicePart_none (wpAny_bind (slicePart_int (wpAny_bind (wpAny_pure ?_)))))
  exact wpAny_pure h
theorem Sl.two {d1 d2 d3 : Dt} : Sl (.tup [d1, d2, d3]) none (some 2) (.tup [d1, d2]) := fun c F W₁ o vl vu sl r hsl pl pu W h tk Q E hs I hQ => by
  obtain ⟨a, vs, n, rfl, e, r⟩ := Rep.tup_inv (r.mono hs)
  obtain ⟨vs⟩ := vs
  obtain ⟨x1, _, rfl, r1, r⟩ := Reps.cons_inv r
  obtain ⟨x2, _, rfl, r2, r⟩ := Reps.cons_inv r
  obtain ⟨x3, _, rfl, r3, r⟩ := Reps.cons_inv r
  cases r
  cases pl
  cases pu with | int _ u => ?_
  have hsl' := I.keep _ _ (hs _ _ hsl)
  have ht : IsTup (St c.s₀ h tk).heap a #[x1, x2, x3] := ⟨_, I.keep _ _ e, rfl, n, rfl⟩
  have hTs : (St c.s₀ h tk).TypeIs (.ref sl) "slice" := ⟨_, hsl', rfl⟩
  have fin := hQ (.ref h.objs.size) _ _ tk F (I.push (tupO #[x1, x2] 0) rfl) (Fz.sub_put I.none_size) ⟨rfl, .tup (Fz.put_self ..) (.cons (r1.mono (Fz.sub_put I.none_size)) (.cons (r2.mono (Fz.sub_put I.none_size)) .nil))⟩
  unfold getItem
  try with_reducible refine wpAny_holding ?_
  first | refine wpAny_bind (wpAny_pure ?_) | skip
  refine wpAny_bind (wpAny_sequenceKey ht.typeIs (by decide) ?_)
  refine wpAny_bind (wpAny_callSpecial?_slot (name := Str.ofString "__getitem__") ht.typeIs slot_tuple_getitem
    (wpAny_call_entry slot_tuple_getitem ht.typeIs entry_tuple_getitem ?_ (args_tuple_getitem _ _)))
  show wpAny _ _ (Builtin.Tuple.tupleItemsOf (.ref a) >>= _) _ _ _
  refine wpAny_bind (tupleItemsOf_ ht ?_)
  refine wpAny_bind (wpAny_typeOf hTs ?_)
  first | refine wIfP (by decide) ?_ | refine wIfPB (by decide) ?_ | rw [if_pos (by decide)]
  refine wpAny_bind (sliceApplied_two (s := St c.s₀ h tk) ⟨_, hsl', rfl, rfl⟩ ?_)
  show wpAny _ _ (if ((0 : Int) == 0 && (1 : Int) == 1 && 2 == 3) = true then _ else _) _ _ _
  first | refine wIfN (by decide) ?_ | refine wIfNB (by decide) ?_ | rw [if_neg (by decide)]
  have hsz : sizeOk (.seq #[x1, x2] 0) := by show 2 ≤ sizeLine; decide
  first
    | exact wpAny_bind (m := Builtin.Tuple.tupleExact _) (wpAny_newObj_type (wpAny_pure ⟨_, rfl, wpAny_pure fin⟩) hsz)
    | exact wpAny_bind (m := Builtin.Tuple.tupleExact _) (wpAny_newObj_type (wpAny_bind (wpAny_pure (wpAny_pure ⟨_, rfl, wpAny_pure fin⟩))) hsz)
    | exact wpAny_bind (wpAny_bind (m := Builtin.Tuple.tupleExact _) (wpAny_newObj_type (wpAny_pure (wpAny_pure ⟨_, rfl, wpAny_pure fin⟩)) hsz))
    | exact wpAny_bind (wpAny_bind (m := Builtin.Tuple.tupleExact _) (wpAny_newObj_type (wpAny_pure ⟨_, rfl, wpAny_pure fin⟩) hsz))
theorem Mth.str {x : Str} {name : Str} {id : String} {w : World} (slot : Slot "str" name id) (ty : typeOf (.builtin id) = Pure.pure (.type "method_descriptor")) (pa : PlainAttrs "str") : Mth (.str x) name w (.builtin id) := fun c F W₁ v pl _ r => by
  (replace r := Rep.str_inv r; obtain ⟨t, rfl⟩ := r)
  intro W h tk Q E hs I hQ
  exact getMethod_builtin (s := St c.s₀ h tk) (typeIs_str _ _ _) pa slot ty (fun _ e => nomatch e) (hQ _ W h tk F I (Sub.refl _) ⟨rfl, rfl⟩)
theorem Cal.startswith {w n} (x y : Str) : Cal w (.builtin "str.startswith") n [.str x, .str y] (.bool (Txt.startswith x y)) := fun c F W₁ vs _ _ r => by
  (replace r := Reps.cons_inv r; obtain ⟨_, _, rfl, r1, r⟩ := r)
  (replace r := Reps.cons_inv r; obtain ⟨_, _, rfl, r2, r⟩ := r)
  cases r; cases r1; cases r2
  exact Go.fresh_val fun W h tk Q E hs I hQ => SC.startswith (hQ _ _ (.bool _))
theorem Cal.endswith {w n} (x y : Str) : Cal w (.builtin "str.endswith") n [.str x, .str y] (.bool (Txt.endswith x y)) := fun c F W₁ vs _ _ r => by
  (replace r := Reps.cons_inv r; obtain ⟨_, _, rfl, r1, r⟩ := r)
  (replace r := Reps.cons_inv r; obtain ⟨_, _, rfl, r2, r⟩ := r)
  cases r; cases r1; cases r2
  exact Go.fresh_val fun W h tk Q E hs I hQ => SC.endswith (hQ _ _ (.bool _))
theorem Ev.starts {c : Cx} {F : Frame} {o : Expr} {apos pos : Pos} {es : List Expr} {x y : Str} (ho : Ev c F o (.str x)) (hes : Evs c F es [.str y])
    (hst : (backTo pos (starEach es c.env)).any (·.1) = false) (hbase : attributeBase o (Str.ofString "startswith") c.env (eval o c.env) = eval o c.env) (hline : (apos.endLine == pos.line) = true)
    (hform : methodCallForm (es.length + 0) (backTo pos (starEach es c.env)) [] = true) : Ev c F (.Call (.Attribute o (Str.ofString "startswith") apos) es [] pos) (.bool (Txt.startswith x y)) :=
  Ev.meth ho (Mth.str PySem.F.slot_str_startswith PySem.F.type_str_startswith PySem.F.plainAttrs_str) (Kept.builtin _ _) hes (Cal.startswith (n := 0) _ _) (Nat.zero_le _) hst hbase hline hform
theorem Ev.ends {c : Cx} {F : Frame} {o : Expr} {apos pos : Pos} {es : List Expr} {x y : Str} (ho : Ev c F o (.str x)) (hes : Evs c F es [.str y])
    (hst : (backTo pos (starEach es c.env)).any (·.1) = false) (hbase : attributeBase o (Str.ofString "endswith") c.env (eval o c.env) = eval o c.env) (hline : (apos.endLine == pos.line) = true)
    (hform : methodCallForm (es.length + 0) (backTo pos (starEach es c.env)) [] = true) : Ev c F (.Call (.Attribute o (Str.ofString "endswith") apos) es [] pos) (.bool (Txt.endswith x y)) :=
  Ev.meth ho (Mth.str PySem.F.slot_str_endswith PySem.F.type_str_endswith PySem.F.plainAttrs_str) (Kept.builtin _ _) hes (Cal.endswith (n := 0) _ _) (Nat.zero_le _) hst hbase hline hform
end
end
section
open PySem PySem.W PySem.Calls PyProof.Rows PySem.Spec
set_option Elab.async false
set_option maxRecDepth 100000
set_option linter.unusedVariables false
set_option linter.unusedSimpArgs false
section
section
variable {c : Cx} {F : Frame} {W W₁ : Fz} {h : Heap}
theorem Go.evalArgsR {f : Value} {args : List (Bool × Sem Value)} {R : List Value → Prop} (hst : args.any (·.1) = false) (hc : ∃ x r, args = (false, x) :: r) (h : Go c F W₁ (spliced args) (fun vs W F' => F' = F ∧ R vs)) :
    Go c F W₁ (PySem.evalArgs f true args []) (fun a W F' => F' = F ∧ a.kw = [] ∧ R a.pos) := by
  obtain ⟨x, rest, rfl⟩ := hc
  refine Go.bind h (isK fun vs W hs r => ?_)
  refine Go.bind (P := fun a W' F'' => F'' = F ∧ a = (vs, none)) (Go.pure fun _ _ => ⟨rfl, rfl⟩) (isK fun a W' hs' e => ?_)
  obtain rfl := e
  refine Go.holding ?_
  refine Go.bind (P := fun a W' F'' => F'' = F ∧ a = []) (Go.pure fun _ _ => ⟨rfl, rfl⟩) (isK fun a W2 hs2 e => ?_)
  obtain rfl := e
  refine Go.bind (P := fun a W' F'' => F'' = F ∧ a = vs) (Go.pure fun _ _ => ⟨rfl, rfl⟩) (isK fun a W4 hs4 e => ?_)
  obtain rfl := e
  exact Go.pure fun W'' hs'' => ⟨rfl, rfl, r⟩
theorem two_consts {y z : Str} {k1 k2 : Nat} {p1 p2 pos : Pos} : Go c F W₁ (spliced (backTo pos (starEach [.Constant (.str y) k1 p1, .Constant (.str z) k2 p2] c.env))) (fun vs W F' => F' = F ∧ ∃ u v, vs = [.str y u, .str z v] ∧ u ≠ 0 ∧ v ≠ 0 ∧ u ≠ v) := fun W hp tk Q E hs I hQ => by
  show wpAny _ _ (spliced ((false, eval (.Constant (.str y) k1 p1) c.env) :: backTo pos (starEach [.Constant (.str z) k2 p2] c.env))) _ _ _
  rw [spliced]
  refine wpAny_bind (wpAny_Constant_str (s := St c.s₀ hp tk) ?_)
  refine wpAny_bind (wpAny_pure ?_)
  refine wpAny_bind (wpAny_holding ?_)
  show wpAny _ _ (spliced ((false, eval (.Constant (.str z) k2 p2) c.env) :: backTo pos [])) _ _ _
  rw [spliced]
  refine wpAny_bind (wpAny_Constant_str ?_)
  refine wpAny_bind (wpAny_pure ?_)
  refine wpAny_bind (wpAny_holding ?_)
  refine wpAny_pure ?_
  refine wpAny_pure ?_
  refine wpAny_pure ?_
  exact hQ [.str y (tk + 1), .str z (tk + 1 + 1)] W hp (tk + 1 + 1) F I (Sub.refl _) ⟨rfl, tk + 1, tk + 1 + 1, rfl, by show tk + 1 ≠ 0; omega, by show tk + 1 + 1 ≠ 0; omega, by show tk + 1 ≠ tk + 1 + 1; omega⟩
theorem Ev.replace {o : Expr} {x y z : Str} {k1 k2 : Nat} {p1 p2 apos pos : Pos} (ho : Ev c F o (.str x)) (hyz : (y == z) = false) (hx : x.length ≤ 1000000) (hz : z.length ≤ 14)
    (hbase : attributeBase o (Str.ofString "replace") c.env (eval o c.env) = eval o c.env := by rfl) (hline : (apos.endLine == pos.line) = true := by rfl) :
    Ev c F (.Call (.Attribute o (Str.ofString "replace") apos) [.Constant (.str y) k1 p1, .Constant (.str z) k2 p2] [] pos) (.str (Txt.replace x y z)) := fun W₁ => by
  show Go c F W₁ (do
    let ov ← attributeBase o (Str.ofString "replace") c.env (eval o c.env)
    standAt apos.atName
    methodCall o (Str.ofString "replace") apos pos c.env ov (2 + 0) (backTo pos (starEach [.Constant (.str y) k1 p1, .Constant (.str z) k2 p2] c.env)) []) _
  rw [hbase]
  refine Go.bind (ho _) (isK fun v W hs r => ?_)
  refine Go.at ?_
  unfold methodCall
  rw [show methodCallForm (2 + 0) (backTo pos (starEach [.Constant (.str y) k1 p1, .Constant (.str z) k2 p2] c.env)) [] = true from rfl]
  have hm := fun pl => Mth.str (w := c.w) PySem.F.slot_str_replace PySem.F.type_str_replace PySem.F.plainAttrs_str c F W v pl rfl r
  refine Go.bind (P := fun x _ F'' => F'' = F ∧ x = (Value.builtin "str.replace", [v])) (Go.holding (hm _)) (isK fun x W2 hs2 e => ?_)
  obtain rfl := e
  have hpos : methodCallPos true o c.env apos pos = Pure.pure pos := by unfold methodCallPos; simp [hline]
  dsimp only
  rw [hpos]
  refine Go.bind (P := fun x _ F'' => F'' = F ∧ x = pos) (Go.pure fun _ _ => ⟨rfl, rfl⟩) (isK fun x W3 hs3 e => ?_)
  obtain rfl := e
  intro W4 hp tk Q E hs4 I hQ
  refine callWith_of (P := fun h => (Mine.hd.heap_1 c.w.params).In h) rfl (fun h X => Kept.builtin c.w "str.replace" _ h X) ?_
  refine Go.evalArgsR rfl ⟨_, _, rfl⟩ two_consts W4 hp tk _ E (Sub.refl _) I fun a W5 h5 tk5 F5 I5 hs5 r5 => ?_
  obtain ⟨rfl, hkw, u, v', hpos, hu, hv, huv⟩ := r5
  obtain ⟨_, _, _, _, _, X, _⟩ := I5.wd.at I5.keep
  refine ⟨X, ?_⟩
  rw [hkw, hpos]
  (replace r := Rep.str_inv r; obtain ⟨t, rfl⟩ := r)
  refine wpAny_with_toks (n := 1) (show 1 ≤ tk5 + 1 from Nat.le_add_left 1 tk5) ?_
  exact SC.replaceW (s := St c.s₀ h5 tk5) hu hv huv hyz (Nat.le_trans hx (by decide)) hz fun t' k htk => toks_up htk fun k' => hQ _ W5 h5 k' F5 I5 hs5 ⟨rfl, .str _ _⟩
theorem Gi.str {x : Str} {i : Int} {ch : Nat} (hlo : -(2 ^ 63) ≤ i) (hhi : i < 2 ^ 63) (hc : (seqIndex? i x.length).bind (x.cps[·]?) = some ch) : Gi (.str x) (.int i) (.str ⟨#[ch]⟩) := fun c F W₁ a b ha hb => by
  cases ha; cases hb
  refine Go.fresh_val fun W h tk Q E hs I hQ => PySem.P.getItem_str (s := St c.s₀ h tk) ?_ hc (hQ _ (tk + 1) (.str _ _))
  rw [decide_eq_false (by omega), decide_eq_false (by omega)]; rfl
noncomputable def blanks (n : Nat) : Str := ⟨(List.replicate n 32).toArray⟩
theorem Bop.mul_blank (n : Nat) (hn : n ≤ 100000) : Bop .Mult (.str (Str.ofString " ")) (.int (n : Int)) (.str (blanks n)) := fun c F W₁ a b ha hb => by
  (replace ha := Rep.str_inv ha; obtain ⟨t, rfl⟩ := ha)
  (replace hb := Rep.int_inv hb; obtain ⟨u, rfl⟩ := hb)
  refine Go.fresh_val fun W h tk Q E hs I hQ => PySem.P.mul_str (s := St c.s₀ h tk) ?_ ?_ ?_ ?_
  · rw [decide_eq_false (by omega), decide_eq_false (by omega)]; rfl
  · intro h1 h2
    have : (1 : Int) ≤ (2 ^ 63 - 1) / (n : Int) := by
      rw [Int.le_ediv_iff_mul_le (by omega)]; omega
    show ¬ (((1 : Nat) : Int) > _)
    omega
  · intro h1 h2
    show Builtin.Str.tooLong (1 * (n : Int).toNat) = false
    unfold Builtin.Str.tooLong
    rw [sizeLine_eq]
    exact decide_eq_false (by omega)
  · by_cases h0 : n = 0
    · subst h0
      exact ⟨by decide, hQ _ (tk + 1) (.str _ _)⟩
    · first | refine wIfN (by omega) ?_ | refine wIfNB (by omega) ?_ | rw [if_neg (by omega)]
      by_cases h1 : n = 1
      · subst h1
        exact hQ _ tk (.str _ _)
      · first | refine wIfN (by simp [len_sp]; omega) ?_ | refine wIfNB (by simp [len_sp]; omega) ?_ | rw [if_neg (by simp [len_sp]; omega)]
        have e : (⟨(List.replicate (n : Int).toNat (Str.ofString " ").cps).foldl (· ++ ·) #[]⟩ : Str) = blanks n := by
          unfold blanks
          congr 1
          rw [Int.toNat_natCast]
          have key : ∀ (m : Nat) (acc : Array Nat), (List.replicate m (Str.ofString " ").cps).foldl (· ++ ·) acc = acc ++ (List.replicate m 32).toArray := by
            intro m
            induction m with
            | zero => intro acc; simp
            | succ m ih =>
              intro acc
              rw [List.replicate_succ, List.foldl_cons, ih, List.replicate_succ]
              have : (Str.ofString " ").cps = #[32] := by decide +kernel
              rw [this]
              apply Array.ext'
              simp
          rw [key]; simp
        rw [e]
        exact ⟨by show (List.replicate n 32).toArray.size ≤ _; rw [List.size_toArray, List.length_replicate, sizeLine_eq]; omega, hQ _ (tk + 1) (.str _ _)⟩
noncomputable def strsD (l : List Str) : List Dt := l.map Dt.str
theorem reps_strs {W : Fz} : ∀ l : List (Str × Tok), Reps W (strValues l) (strsD (l.map (·.1)))
  | [] => .nil
  | (x, t) :: l => .cons (.str x t) (reps_strs l)
theorem Cal.split {w n} (x y : Str) (hy : (y.length == 0) = false) (hx : x.length ≤ 100000) : Cal w (.builtin "str.split") n [.str x, .str y] (.lst (strsD (Txt.split x y))) := fun c F W₁ vs _ _ r => by
  obtain ⟨_, _, rfl, r1, r⟩ := Reps.cons_inv r
  obtain ⟨_, _, rfl, r2, r⟩ := Reps.cons_inv r
  cases r
  (replace r1 := Rep.str_inv r1; obtain ⟨t, rfl⟩ := r1)
  (replace r2 := Rep.str_inv r2; obtain ⟨u, rfl⟩ := r2)
  intro W h tk Q E hs I hQ
  have key : ∀ (l : List (Str × Tok)) (k : Nat), l.map (·.1) = Txt.split x y → Q (.ref h.objs.size) (St c.s₀ (h.push (lstO (strValues l).toArray 0)) k) := fun l k e =>
    hQ _ _ _ k F (I.push (lstO (strValues l).toArray 0) rfl) (Fz.sub_put I.none_size) ⟨rfl, .lst (Fz.put_self ..) (by rw [← e]; exact reps_strs l)⟩
  have hlen : (Builtin.Str.partsBetween x (Builtin.Str.occurrences x y 0 x.length (x.length + 1)) y.length).length ≤ sizeLine := by
    rw [PySem.length_partsBetween]
    have := StrLaws.occ_length_le x y 0 x.length (x.length + 1)
    rw [sizeLine_eq]; omega
  cases h1 : (decide (x.length < y.length) || decide (Builtin.Str.strKind x < Builtin.Str.strKind y))
  · cases hf : (Builtin.Str.occurrences x y 0 x.length (x.length + 1)).isEmpty
    · refine call_meets (s := St c.s₀ h tk) PySem.F.slot_str_split (typeIs_str _ _ _) PySem.F.entry_str_split (PySem.F.args_str_split_2 _ _) (meets_str_split_sep x y t u h1 hy hf (Nat.le_trans hx (by decide)) hlen) ?_
      rw [strsFrom_eq]
      have := key (numbered (tk + 1) (Builtin.Str.partsBetween x (Builtin.Str.occurrences x y 0 x.length (x.length + 1)) y.length)) (tk + (Builtin.Str.partsBetween x (Builtin.Str.occurrences x y 0 x.length (x.length + 1)) y.length).length) ((numbered_texts _ _).trans ((if_neg (by rw [h1]; decide)).trans (if_neg (by rw [hf]; decide))).symm)
      have e : tk + (Builtin.Str.partsBetween x (Builtin.Str.occurrences x y 0 x.length (x.length + 1)) y.length).length + 1 = tk + 1 + (Builtin.Str.partsBetween x (Builtin.Str.occurrences x y 0 x.length (x.length + 1)) y.length).length := by omega
      unfold St at this
      rw [e] at this
      exact this
    · exact call_meets (s := St c.s₀ h tk) PySem.F.slot_str_split (typeIs_str _ _ _) PySem.F.entry_str_split (PySem.F.args_str_split_2 _ _) (meets_str_split_not_found x y t u h1 hy hf)
        (key [(x, t)] tk ((if_neg (by rw [h1]; decide)).trans (if_pos hf)).symm)
  · exact call_meets (s := St c.s₀ h tk) PySem.F.slot_str_split (typeIs_str _ _ _) PySem.F.entry_str_split (PySem.F.args_str_split_2 _ _) (meets_str_split_cannot_occur x y t u h1)
      (key [(x, t)] tk (if_pos h1).symm)
end
end
end
section
open PySem PySem.W PySem.Calls PyProof.Rows PySem.Spec
set_option Elab.async false
set_option maxRecDepth 100000
set_option linter.unusedVariables false
set_option linter.unusedSimpArgs false
section
theorem Str.ext_list {a b : Str} (h : a.cps.toList = b.cps.toList) : a = b := by
  cases a; cases b; congr 1; exact Array.ext' h
noncomputable def jl (c : Nat) : List (List Nat) → List Nat
  | [] => []
  | [p] => p
  | p :: q :: r => p ++ c :: jl c (q :: r)
theorem join_jl (c : Nat) : ∀ l : List Str, (Str.join ⟨#[c]⟩ l).cps.toList = jl c (l.map fun p => p.cps.toList)
  | [] => rfl
  | [p] => rfl
  | p :: q :: r => by
    show (p ++ ⟨#[c]⟩ ++ Str.join ⟨#[c]⟩ (q :: r)).cps.toList = _
    simp only [Str.cps_append, Array.toList_append, join_jl c (q :: r), List.map_cons, jl]
    simp
theorem jl_inj (c : Nat) : ∀ l l' : List (List Nat), l ≠ [] → l' ≠ [] → (∀ p ∈ l, c ∉ p) → (∀ p ∈ l', c ∉ p) → jl c l = jl c l' → l = l' := by
  have pre : ∀ (p q a b : List Nat), c ∉ p → c ∉ q → p ++ c :: a = q ++ c :: b → p = q ∧ a = b := by
    intro p
    induction p with
    | nil =>
      intro q a b _ hq e
      cases q with
      | nil => simp at e; exact ⟨rfl, e⟩
      | cons x q => simp at e; exact absurd (e.1 ▸ List.mem_cons_self ..) hq
    | cons x p ih =>
      intro q a b hp hq e
      cases q with
      | nil => simp at e; exact absurd (e.1 ▸ List.mem_cons_self ..) hp
      | cons y q =>
        simp at e
        obtain ⟨rfl, e⟩ := e
        obtain ⟨rfl, rfl⟩ := ih q a b (fun h => hp (.tail _ h)) (fun h => hq (.tail _ h)) e
        exact ⟨rfl, rfl⟩
  intro l
  induction l with
  | nil => intro l' h; exact absurd rfl h
  | cons p r ih =>
    intro l' _ hl' h1 h2 e
    cases l' with
    | nil => exact absurd rfl hl'
    | cons p' r' =>
      cases r with
      | nil =>
        cases r' with
        | nil => simp [jl] at e; rw [e]
        | cons q' r' =>
          have : c ∈ p := by have e' : p = p' ++ c :: jl c (q' :: r') := e; rw [e']; simp
          exact absurd this (h1 p (.head _))
      | cons q r =>
        cases r' with
        | nil =>
          have : c ∈ p' := by have e' : p ++ c :: jl c (q :: r) = p' := e; rw [← e']; simp
          exact absurd this (h2 p' (.head _))
        | cons q' r' =>
          have e' : p ++ c :: jl c (q :: r) = p' ++ c :: jl c (q' :: r') := e
          obtain ⟨rfl, e2⟩ := pre _ _ _ _ (h1 p (.head _)) (h2 p' (.head _)) e'
          rw [ih (q' :: r') (by simp) (by simp) (fun x hx => h1 x (.tail _ hx)) (fun x hx => h2 x (.tail _ hx)) e2]
theorem split_ne (x : Str) (c : Nat) : Txt.split x ⟨#[c]⟩ ≠ [] := by
  unfold Txt.split
  split
  · simp
  · split
    · simp
    · intro h
      have := congrArg List.length h
      rw [PySem.length_partsBetween] at this
      simp at this
theorem split_eq (x : Str) (c : Nat) (l : List Str) (hl : l ≠ []) (hf : ∀ p ∈ l, c ∉ p.cps.toList) (e : x.cps.toList = jl c (l.map fun p => p.cps.toList)) : Txt.split x ⟨#[c]⟩ = l := by
  have h1 := congrArg (fun s : Str => s.cps.toList) (StrLaws.join_split x ⟨#[c]⟩)
  simp only [join_jl] at h1
  have h2 := jl_inj c _ _ (by simp [split_ne]) (by simp [hl]) (fun p hp => by
    obtain ⟨s, hs, rfl⟩ := List.mem_map.mp hp
    exact StrLaws.split_free x c s hs) (fun p hp => by
    obtain ⟨s, hs, rfl⟩ := List.mem_map.mp hp
    exact hf s hs) (h1.trans e)
  have inj : ∀ l l' : List Str, l.map (fun p => p.cps.toList) = l'.map (fun p => p.cps.toList) → l = l' := by
    intro l
    induction l with
    | nil => intro l' e; cases l' with | nil => rfl | cons => simp at e
    | cons a l ih =>
      intro l' e
      cases l' with
      | nil => simp at e
      | cons b l' =>
        simp at e
        have : a = b := Str.ext_list (by simpa using e.1)
        rw [this, ih l' (by simpa using e.2)]
  exact inj _ _ h2
noncomputable def swapIn (c : Nat) (z : List Nat) (l : List Nat) : List Nat := l.flatMap fun k => if k = c then z else [k]
theorem swapIn_free (c : Nat) (z : List Nat) : ∀ l : List Nat, c ∉ l → swapIn c z l = l
  | [], _ => rfl
  | k :: r, h => by
    have h1 : ¬ k = c := fun e => h (e ▸ List.mem_cons_self ..)
    have ih := swapIn_free c z r fun m => h (List.mem_cons_of_mem _ m)
    unfold swapIn at ih ⊢
    rw [List.flatMap_cons, if_neg h1, ih]; rfl
theorem swapIn_jl (c : Nat) (z : Str) : ∀ parts : List Str, (∀ p ∈ parts, c ∉ p.cps.toList) → swapIn c z.cps.toList (jl c (parts.map fun p => p.cps.toList)) = (Str.join z parts).cps.toList
  | [], _ => rfl
  | [p], h => swapIn_free c _ _ (h p (.head _))
  | p :: q :: r, h => by
    have ih := swapIn_jl c z (q :: r) fun a ha => h a (.tail _ ha)
    show swapIn c z.cps.toList (p.cps.toList ++ c :: jl c ((q :: r).map fun p => p.cps.toList)) = (p ++ z ++ Str.join z (q :: r)).cps.toList
    simp only [Str.cps_append, Array.toList_append]
    rw [← ih]
    have e1 := swapIn_free c z.cps.toList _ (h p (.head _))
    unfold swapIn at e1 ⊢
    rw [List.flatMap_append, e1, List.flatMap_cons, if_pos rfl]
    simp
theorem replace_list (x z : Str) (c : Nat) : (Txt.replace x ⟨#[c]⟩ z).cps.toList = swapIn c z.cps.toList x.cps.toList := by
  rw [StrLaws.replace_one, ← swapIn_jl c z _ (StrLaws.split_free x c), ← join_jl, StrLaws.join_split]
noncomputable def ldl (rows : List Nat) : List Nat := rows.flatMap fun r => List.replicate r 32 ++ [9]
noncomputable def ld (rows : List Nat) : Str := ⟨(ldl rows).toArray⟩
theorem ld_app (a b : List Nat) : ld a ++ ld b = ld (a ++ b) := Str.ext_list (by simp [ld, ldl, Str.cps_append])
theorem ld_len (rows : List Nat) : (ld rows).length = rows.sum + rows.length := by
  show (ldl rows).toArray.size = _
  rw [List.size_toArray]
  unfold ldl
  induction rows with
  | nil => rfl
  | cons r rows ih => rw [List.flatMap_cons, List.length_append, ih]; simp; omega
theorem ld_up (rows : List Nat) : Txt.replace (ld rows) (Str.ofString "\t") (Str.ofString " \t") = ld (rows.map (· + 1)) := by
  have e1 : Str.ofString "\t" = ⟨#[9]⟩ := by decide +kernel
  have e2 : (Str.ofString " \t").cps.toList = [32, 9] := by decide +kernel
  rw [e1]
  refine Str.ext_list ?_
  rw [replace_list, e2]
  show swapIn 9 [32, 9] (ldl rows) = ldl (rows.map (· + 1))
  unfold swapIn ldl
  induction rows with
  | nil => rfl
  | cons r rows ih =>
    rw [List.flatMap_cons, List.flatMap_append, ih, List.map_cons, List.flatMap_cons]
    congr 1
    have : ∀ n, (List.replicate n 32 ++ [9]).flatMap (fun k => if k = 9 then [32, 9] else [k]) = List.replicate (n + 1) 32 ++ [9] := by
      intro n
      induction n with
      | zero => rfl
      | succ n ih => rw [List.replicate_succ, List.cons_append, List.flatMap_cons, ih]; simp [List.replicate_succ]
    exact this r
theorem ld_zero : Str.ofString "\t" = ld [0] := by decide +kernel
noncomputable def T.txt : T → Str
  | .leaf s => s
  | .node a n b => jn a.txt n b.txt
noncomputable def T.rws : T → List Nat
  | .leaf _ => [0]
  | .node a _ b => a.rws ++ b.rws.map (· + 1)
noncomputable def T.ways : T → List T
  | .leaf s => [.leaf s]
  | .node a n b => a.ways.flatMap fun x => b.ways.flatMap fun y => [.node x n y, .node y n x]
noncomputable def T.gd : T → Prop
  | .leaf s => 2 ≤ s.length
  | .node a n b => 0 ≤ n ∧ n < 100 ∧ a.gd ∧ b.gd
theorem ways_mem : ∀ (t x : T), x ∈ t.ways → (t.gd → x.gd) ∧ x.wt = t.wt ∧ x.ht = t.ht ∧ x.sz = t.sz := by
  intro t
  induction t with
  | leaf s => intro x hx; simp [T.ways] at hx; subst hx; exact ⟨id, rfl, rfl, rfl⟩
  | node a n b ia ib =>
    intro x hx
    simp only [T.ways, List.mem_flatMap, List.mem_cons, List.not_mem_nil, or_false] at hx
    obtain ⟨y, hy, z, hz, hx⟩ := hx
    obtain ⟨a1, a2, a3, a4⟩ := ia y hy
    obtain ⟨b1, b2, b3, b4⟩ := ib z hz
    rcases hx with rfl | rfl
    · exact ⟨fun ⟨h0, h1, ha, hb⟩ => ⟨h0, h1, a1 ha, b1 hb⟩, by simp [T.wt, a2, b2], by simp [T.ht, a3, b3], by simp [T.sz, a4, b4]⟩
    · exact ⟨fun ⟨h0, h1, ha, hb⟩ => ⟨h0, h1, b1 hb, a1 ha⟩, by simp [T.wt, a2, b2]; omega, by simp [T.ht, a3, b3]; omega, by simp [T.sz, a4, b4]; omega⟩
theorem txt_len : ∀ t : T, t.gd → t.txt.length ≤ t.wt ∧ 2 ≤ t.txt.length := by
  intro t
  induction t with
  | leaf s => intro h; exact ⟨Nat.le_refl _, h⟩
  | node a n b ia ib =>
    rintro ⟨h0, h1, ha, hb⟩
    have i1 := ia ha
    have i2 := ib hb
    have l := jn_len a.txt n b.txt h0 h1
    refine ⟨by simp only [T.txt, T.wt]; omega, ?_⟩
    simp only [T.txt]
    unfold jn
    simp only [Str.length_append, len_colon, len_lpar, len_rpar]; omega
theorem rws_len : ∀ t : T, t.rws.length ≤ t.sz ∧ ∀ r ∈ t.rws, r ≤ t.ht := by
  intro t
  induction t with
  | leaf s => exact ⟨Nat.le_refl _, fun r hr => by simp [T.rws] at hr; subst hr; exact Nat.zero_le _⟩
  | node a n b ia ib =>
    refine ⟨by simp only [T.rws, T.sz, List.length_append, List.length_map]; have := ia.1; have := ib.1; omega, fun r hr => ?_⟩
    simp only [T.rws, List.mem_append, List.mem_map] at hr
    rcases hr with hr | ⟨x, hx, rfl⟩
    · have := ia.2 r hr; simp only [T.ht]; omega
    · have := ib.2 x hx; simp only [T.ht]; omega
theorem lead_len (t : T) : (ld t.rws).length ≤ t.sz * (t.ht + 1) := by
  obtain ⟨h1, h2⟩ := rws_len t
  rw [ld_len]
  have key : ∀ (l : List Nat) (m : Nat), (∀ r ∈ l, r ≤ m) → l.sum + l.length ≤ l.length * (m + 1) := by
    intro l m
    induction l with
    | nil => intro _; simp
    | cons x l ih =>
      intro h
      have := ih fun r hr => h r (.tail _ hr)
      have hx := h x (.head _)
      simp only [List.sum_cons, List.length_cons, Nat.add_mul, Nat.one_mul]; omega
  exact Nat.le_trans (key _ _ h2) (Nat.mul_le_mul_right _ h1)
theorem ways_pos : ∀ t : T, 1 ≤ t.ways.length := by
  intro t
  induction t with
  | leaf s => exact Nat.le_refl _
  | node a n b ia ib =>
    simp only [T.ways]
    cases h1 : a.ways with
    | nil => rw [h1] at ia; simp at ia
    | cons x xs =>
      cases h2 : b.ways with
      | nil => rw [h2] at ib; simp at ib
      | cons y ys => simp
theorem ways_len (a : T) (n : Int) (b : T) : (T.node a n b).ways.length = 2 * (a.ways.length * b.ways.length) := by
  simp only [T.ways]
  generalize a.ways = xs
  generalize b.ways = ys
  have h1 : ∀ (x : T) (ys : List T), (ys.flatMap fun y => [T.node x n y, T.node y n x]).length = 2 * ys.length := by
    intro x ys
    induction ys with
    | nil => rfl
    | cons y ys ih => rw [List.flatMap_cons, List.length_append, ih]; simp; omega
  induction xs with
  | nil => simp
  | cons x xs ih => rw [List.flatMap_cons, List.length_append, ih, h1, List.length_cons, Nat.add_mul]; omega
end
section
theorem Ex.assignListOwn {c : Cx} {F : Frame} {sc : Scope} {x : Str} {dpos pos' pos : Pos} {P : Fl → Frame → Prop} (hs : c.env.scope = sc) (hx : sc.names.lookup x = some .local) (hp : ∀ a, P .next ⟨(x, .val (.ref a)) :: F.vars, ⟨a, 0, .lst []⟩ :: F.own⟩)
    (hsw : swapsWith (.List [] dpos) (some (.Name x pos')) pos.line c.env = Pure.pure false := by rfl) : Ex c F (.Assign [.Name x pos'] (.List [] dpos) pos) P :=
  Ex.assignP hs hx (fun W₁ => by
    show Go c F W₁ (do standAt dpos; PySem.newList (← spliced (backTo dpos (starEach [] c.env)))) _
    refine Go.at (Go.bind (P := fun vs W F' => F' = F ∧ Reps W vs []) (Evs.nil dpos W₁) (isK fun vs W hs r => ?_))
    exact Go.newListOwn r (fun a W h => ⟨_, .val _, hp a⟩)) hsw
end
end
local macro_rules | `(tactic| walk_at "ev") => `(tactic| first
  | ((with_reducible apply Ev.replace); walk_at "ev"; decide +kernel; walk_at "side"; decide +kernel; rfl; rfl)
  | ((with_reducible first | apply Ev.starts | apply Ev.ends); walk_at "ev"; walk_at "ev"; rfl; rfl; rfl; rfl))
local macro_rules | `(tactic| walk_at "sl2") => `(tactic| (apply Ev.slice; walk_at "ev"; walk_at "ev"; walk_at "ev"; exact TyD.tup _; exact slot_tuple_getitem.lookup; exact Sl.two; exact fun _ _ => rfl))

section
open PySem PySem.W PySem.Calls PyProof.Rows PySem.Spec
set_option Elab.async false
set_option maxRecDepth 100000
set_option linter.unusedVariables false
set_option linter.unusedSimpArgs false
section
noncomputable def named (x : Str) : Str := if (Txt.startswith x (Str.ofString "<") && Txt.endswith x (Str.ofString ">")) = true then Str.ofString "{" ++ Txt.slice x (some 1) (some (-1)) ++ Str.ofString "}" else x
theorem two_eq (x : Str) (n : Int) (j : Nat) (d1 d2 : Dt) (h1 : [Dt.str x, .int n][j]? = some d1) (h2 : [Dt.str (Str.ofString "~"), .int 0][j]? = some d2) : EqD 1 d1 d2 (if j = 0 then sEq x (Str.ofString "~") else n == 0) := by
  match j, h1, h2 with
  | 0, h1, h2 => simp at h1 h2; subst h1 h2; exact EqD.str _ _
  | 1, h1, h2 => simp at h1 h2; subst h1 h2; exact EqD.int _ _
theorem fss_tree (w : World) (x y : Str) (n : Int) (hx : x.length ≤ 100000) (hy : y.length ≤ 100000) (h0 : 0 ≤ n) (h1 : n < 100) (hne : sEq x (Str.ofString "~") = false) : Cal w (.ref 73) 1 [.tup [.str x, .int n, .str y]] (.str (jn x n y)) := by
  refine Cal.fn (n := 0) (names := [Str.ofString "func_name"]) (hK := rfl) (hcode := rfl) (hbody := rfl) (hbind := ?_) (hcell := by decide) (hloc := by decide) (hco := rfl) (hgen := rfl) (hk := rfl) (hgl := rfl) (hbi := rfl) (hlen := rfl) (hvars := rfl) ?_
  · exact vs1 fun a => rfl
  · intro c hw hk hs
    subst hw
    dsimp only at hs
    refine' Tr.cons (Ex.if_ (b := false) (Eq.mp (congrArg (Te _ _ _) ?fb) (Te.compare ?zf1 ?zf2 (Cop.eq_tup (ds1 := [.str x, .int n]) (ds2 := [.str (Str.ofString "~"), .int 0]) rfl (two_eq x n)))) (fun h => nomatch h) (fun _ => ?_))
    case zf1 => walk_at "sl2"
    case zf2 => walk_at "ev"
    case fb => simp [List.range_succ, hne]
    refine' Tr.cons (Ex.ret (Ev.binop ?zf3 ?zf4 (Bop.fmt3 x y n hx hy h0 h1)) ?zf5)
    case zf3 => walk_at "ev"
    case zf4 => walk_at "ev"
    case zf5 => exact .inl rfl
theorem fss_word (w : World) (x : Str) (hx : x.length ≤ 100000) : Cal w (.ref 73) 1 [.tup [.str (Str.ofString "~"), .int 0, .str x]] (.str (named x)) := by
  refine Cal.fn (n := 0) (names := [Str.ofString "func_name"]) (hK := rfl) (hcode := rfl) (hbody := rfl) (hbind := ?_) (hcell := by decide) (hloc := by decide) (hco := rfl) (hgen := rfl) (hk := rfl) (hgl := rfl) (hbi := rfl) (hlen := rfl) (hvars := rfl) ?_
  · exact vs1 fun a => rfl
  · intro c hw hk hs
    subst hw
    dsimp only at hs
    refine' Tr.cons (Ex.if_ (b := true) (Eq.mp (congrArg (Te _ _ _) ?fb) (Te.compare ?zf1 ?zf2 (Cop.eq_tup (ds1 := [.str (Str.ofString "~"), .int 0]) (ds2 := [.str (Str.ofString "~"), .int 0]) rfl (two_eq (Str.ofString "~") 0)))) (fun _ => ?_) (fun h => nomatch h))
    case zf1 => walk_at "sl2"
    case zf2 => walk_at "ev"
    case fb => decide
    walk_at "st"
    refine' Tr.cons (Ex.if_ ?zte1 (fun hb => ?_) (fun hb => ?_))
    case zte1 => walk_at "te"
    · have hsl := Txt.slice_le x (some 1) (some (-1))
      refine' Tr.cons (Ex.ret (Ev.binop ?zf3 ?zf4 (Bop.fmt1 _ ?zf6)) ?zf5)
      case zf3 => walk_at "ev"
      case zf4 => walk_at "ev"
      case zf6 => show (Txt.slice x (some 1) (some (-1))).length ≤ _; omega
      case zf5 => refine .inl ?_; unfold named; rw [if_pos hb]
    · walk_at "st"
      refine .inl ?_; unfold named; rw [if_neg (by rw [hb]; decide)]
end
end
section
open PySem PySem.W PySem.Calls PyProof.Rows PySem.Spec
set_option Elab.async false
set_option maxRecDepth 100000
set_option linter.unusedVariables false
set_option linter.unusedSimpArgs false
section
noncomputable def T.pair (t : T) : Dt := .tup [.str (ld t.rws), .str t.txt]
noncomputable def pairs (l : List T) : List Dt := l.map T.pair
theorem ne_tilde {x : Str} (h : 2 ≤ x.length) : sEq x (Str.ofString "~") = false := by
  unfold sEq
  rw [beq_eq_false_iff_ne]
  intro e
  have : x = Str.ofString "~" := Str.ext_list e
  rw [this] at h
  have : (Str.ofString "~").length = 1 := rfl
  omega
theorem pairs_at {l : List T} {i : Nat} {d : Dt} (h : (pairs l)[i]? = some d) : ∃ x, l[i]? = some x ∧ x ∈ l ∧ d = .tup [.str (ld x.rws), .str x.txt] := by
  simp only [pairs, List.getElem?_map, Option.map_eq_some_iff] at h
  obtain ⟨x, hx, rfl⟩ := h
  exact ⟨x, hx, List.mem_of_getElem? hx, rfl⟩
theorem take_flat {α β : Type} (f : α → List β) (l : List α) (i : Nat) (a : α) (h : l[i]? = some a) : (l.take (i + 1)).flatMap f = (l.take i).flatMap f ++ f a := by
  rw [List.take_add_one, h]; simp
theorem take_flat_len {α β : Type} (f : α → List β) (l : List α) (i : Nat) : ((l.take i).flatMap f).length ≤ (l.flatMap f).length := by
  conv => rhs; rw [← List.take_append_drop i l, List.flatMap_append]
  simp
noncomputable def T.wok (t : T) : Prop := t.gd ∧ t.wt ≤ 10000 ∧ t.sz * (t.ht + 1) ≤ 10000 ∧ t.ways.length ≤ 10000
theorem wok_sub {a b : T} {n : Int} (h : (T.node a n b).wok) : a.wok ∧ b.wok := by
  obtain ⟨⟨h0, h1, ga, gb⟩, hw, hs, hl⟩ := h
  rw [ways_len] at hl
  have pa := ways_pos a
  have pb := ways_pos b
  have la : a.ways.length ≤ a.ways.length * b.ways.length := Nat.le_mul_of_pos_right _ pb
  have lb : b.ways.length ≤ a.ways.length * b.ways.length := Nat.le_mul_of_pos_left _ pa
  have sa : a.sz * (a.ht + 1) ≤ (T.node a n b).sz * ((T.node a n b).ht + 1) := Nat.mul_le_mul (by simp only [T.sz]; omega) (by simp only [T.ht]; omega)
  have sb : b.sz * (b.ht + 1) ≤ (T.node a n b).sz * ((T.node a n b).ht + 1) := Nat.mul_le_mul (by simp only [T.sz]; omega) (by simp only [T.ht]; omega)
  have hw' : a.wt + b.wt + 30 ≤ 10000 := hw
  exact ⟨⟨ga, by omega, by omega, by omega⟩, ⟨gb, by omega, by omega, by omega⟩⟩
theorem wok_mem {t x : T} (h : t.wok) (hx : x ∈ t.ways) : x.gd ∧ x.txt.length ≤ 10000 ∧ 2 ≤ x.txt.length ∧ (ld x.rws).length ≤ 10000 := by
  obtain ⟨hg, hw, hs, _⟩ := h
  obtain ⟨m1, m2, m3, m4⟩ := ways_mem t x hx
  have l := txt_len x (m1 hg)
  have ll := lead_len x
  rw [m3, m4] at ll
  exact ⟨m1 hg, by omega, l.2, by omega⟩
theorem writings_cal (w : World) : ∀ (t : T), t.wok → Cal w (.ref 321) (t.ht + 2) [t.dt] (.lst (pairs t.ways)) := by
  intro t
  induction t with
  | leaf s =>
    intro _
    refine Cal.fn (names := [Str.ofString "tree"]) (hK := rfl) (hcode := rfl) (hbody := rfl) (hbind := ?_) (hcell := by decide) (hloc := by decide) (hco := rfl) (hgen := rfl) (hk := rfl) (hgl := rfl) (hbi := rfl) (hlen := rfl) (hvars := rfl) ?_
    · exact vs1 fun a => rfl
    · intro c hw hk hs
      subst hw
      dsimp only at hs
      refine' Tr.cons (Ex.if_ (b := true) (by walk_at "te") (fun _ => ?_) (fun h => nomatch h))
      walk_at "st"
      refine .inl ?_
      rw [ld_zero]; rfl
  | node a n b i1 i2 =>
    intro hok
    obtain ⟨oa, ob⟩ := wok_sub hok
    have i1 := i1 oa
    have i2 := i2 ob
    obtain ⟨⟨h0, h1, _, _⟩, _, _, hL⟩ := hok
    refine Cal.fnB (names := [Str.ofString "tree"]) (hK := rfl) (hcode := rfl) (hbody := rfl) (hbind := ?_) (hcell := by decide) (hloc := by decide) (hco := rfl) (hgen := rfl) (hk := rfl) (hgl := rfl) (hbi := rfl) (hlen := rfl) (hvars := rfl) ?_
    · exact vs1 fun a => rfl
    · intro c hw hk hs hb
      subst hw
      dsimp only at hs
      have hk' : max a.ht b.ht + 1 + 1 = c.k := hk.symm
      refine' Tr.cons (Ex.if_ (b := false) (by walk_at "te") (fun h => nomatch h) (fun _ => Tr.nil ?_))
      show Tr _ _ _ _
      walk_at "st"
      walk_at "st"
      refine' Tr.cons (Ex.assignListOwn hs rfl fun o => ?_)
      show Tr _ _ _ _
      let G : T → List T := fun x => b.ways.flatMap fun y => [T.node x n y, .node y n x]
      refine' Tr.cons (Ex.forH (ds := pairs a.ways) (Its.of ?zwa1 Itv.lst) (fun i => [(Str.ofString "written", .val (.ref o)), (Str.ofString "twos", .lst (pairs b.ways)), (Str.ofString "tree", (T.node a n b).dt)])
        (fun i => [⟨o, 0, .lst (pairs ((a.ways.take i).flatMap G))⟩]) ⟨rfl, rfl, rfl, rfl, trivial⟩ ?zwa2 ?zwa3)
      case zwa1 => walk_at "ev"
      case zwa3 =>
        show Tr _ _ _ _
        have e : a.ways.take (pairs a.ways).length = a.ways := List.take_of_length_le (by simp [pairs])
        rw [e]
        refine Tr.cons (Ex.retOwn (p := ⟨o, 0, .lst (pairs (a.ways.flatMap G))⟩) (pre := []) (post := []) hs rfl hb rfl rfl ?_)
        exact .inl rfl
      case zwa2 =>
        intro ps i d hd
        obtain ⟨x, hx, hxm, rfl⟩ := pairs_at hd
        obtain ⟨gx, lx, lx2, rx⟩ := wok_mem oa hxm
        refine ⟨_, As.tuple (Ass.cons (As.name hs rfl) (Ass.cons (As.name hs rfl) Ass.nil)), ?_⟩
        have e1 := take_flat G a.ways i x hx
        have n1 := take_flat_len G a.ways (i + 1)
        rw [e1] at n1
        have n0 : (a.ways.flatMap G).length ≤ 10000 := hL
        generalize hB : (a.ways.take i).flatMap G = B at *
        refine' Tr.cons (Ex.forH (ds := pairs b.ways) (Its.of ?zwb1 Itv.lst) (fun j => [(Str.ofString "lead", .str (ld x.rws)), (Str.ofString "text", .str x.txt), (Str.ofString "written", .val (.ref o)), (Str.ofString "twos", .lst (pairs b.ways)), (Str.ofString "tree", (T.node a n b).dt)])
          (fun j => [⟨o, 0, .lst (pairs (B ++ (b.ways.take j).flatMap fun y => [T.node x n y, .node y n x]))⟩]) ⟨by show [Ow.mk o 0 (.lst (pairs B))] = [Ow.mk o 0 (.lst (pairs (B ++ [])))]; rw [List.append_nil], rfl, rfl, rfl, rfl, rfl, trivial⟩ ?zwb2 ?zwb3)
        case zwb1 => walk_at "ev"
        case zwb3 =>
          show Tr _ _ _ _
          have e : b.ways.take (pairs b.ways).length = b.ways := List.take_of_length_le (by simp [pairs])
          rw [e]
          refine Tr.nil ⟨?_, rfl, rfl, rfl, trivial⟩
          show [_] = [_]
          rw [e1]
        case zwb2 =>
          intro ps2 j d hd
          obtain ⟨y, hy, hym, rfl⟩ := pairs_at hd
          obtain ⟨gy, ly, ly2, ry⟩ := wok_mem ob hym
          refine ⟨_, As.tuple (Ass.cons (As.name hs rfl) (Ass.cons (As.name hs rfl) Ass.nil)), ?_⟩
          have e2 := take_flat (fun y => [T.node x n y, .node y n x]) b.ways j y hy
          have n2 := take_flat_len (fun y => [T.node x n y, .node y n x]) b.ways (j + 1)
          have n3 : (G x).length = (b.ways.flatMap fun y => [T.node x n y, .node y n x]).length := rfl
          rw [e2] at n2
          rw [List.length_append] at n1 n2
          have c1 := fss_tree c.w x.txt y.txt n (by omega) (by omega) h0 h1 (ne_tilde lx2)
          have c2 := fss_tree c.w y.txt x.txt n (by omega) (by omega) h0 h1 (ne_tilde ly2)
          have u1 := ld_len x.rws
          have u2 := ld_len y.rws
          generalize hB2 : (b.ways.take j).flatMap (fun y => [T.node x n y, .node y n x]) = B2 at *
          have n4 : B2.length + 2 ≤ (G x).length := by rw [n3]; simpa using n2
          have hlen : (pairs (B ++ B2)).length ≤ 20000 := by simp [pairs]; omega
          refine' Tr.cons (Ex.appendOwn (pre := []) (post := []) (d := (T.node x n y).pair) ?zwc1 ?zwc2 (by omega) ?zwc3)
          case zwc1 => walk_at "ev"
          case zwc2 =>
            refine' Evs.cons ?zwd1 Evs.nil
            have e5 : (T.node x n y).pair = .tup [.str (ld x.rws ++ Txt.replace (ld y.rws) (Str.ofString "\t") (Str.ofString " \t")), .str (jn x.txt n y.txt)] := by
              rw [ld_up, ld_app]; rfl
            rw [e5]
            have l6 : (Txt.replace (ld y.rws) (Str.ofString "\t") (Str.ofString " \t")).length ≤ 20000 := by
              rw [ld_up, ld_len]
              have : (y.rws.map (· + 1)).sum = y.rws.sum + y.rws.length := by
                generalize y.rws = l
                induction l with
                | nil => rfl
                | cons r l ih => simp [ih]; omega
              simp only [List.length_map]; omega
            refine' Ev.tuple (Evs.cons ?zq1 (Evs.cons ?zq2 Evs.nil))
            case zq1 =>
              refine' Ev.binop ?zq3 ?zq4 (Bop.add_str _ _ (by omega))
              case zq3 => walk_at "ev"
              case zq4 =>
                refine' Ev.replace ?zh1 (by decide +kernel) ?zh2 (by decide +kernel)
                case zh1 => walk_at "ev"
                case zh2 => walk_at "side"
            case zq2 => walk_at "ev"
          case zwc3 =>
            show Tr _ _ _ _
            refine' Tr.cons (Ex.appendOwn (pre := []) (post := []) (d := (T.node y n x).pair) ?zwc4 ?zwc5 (by rw [List.length_append]; simp; omega) ?zwc6)
            case zwc4 => walk_at "ev"
            case zwc5 =>
              refine' Evs.cons ?zwd2 Evs.nil
              have e5 : (T.node y n x).pair = .tup [.str (ld y.rws ++ Txt.replace (ld x.rws) (Str.ofString "\t") (Str.ofString " \t")), .str (jn y.txt n x.txt)] := by
                rw [ld_up, ld_app]; rfl
              rw [e5]
              have l6 : (Txt.replace (ld x.rws) (Str.ofString "\t") (Str.ofString " \t")).length ≤ 20000 := by
                rw [ld_up, ld_len]
                have : (x.rws.map (· + 1)).sum = x.rws.sum + x.rws.length := by
                  generalize x.rws = l
                  induction l with
                  | nil => rfl
                  | cons r l ih => simp [ih]; omega
                simp only [List.length_map]; omega
              walk_at "ev"
            case zwc6 =>
              show Tr _ _ _ _
              refine Tr.nil ⟨?_, rfl, rfl, rfl, rfl, rfl, trivial⟩
              show [_] = [_]
              rw [e2]
              simp [pairs]
end
end
section
open PySem PySem.W PySem.Calls PyProof.Rows PySem.Spec
set_option Elab.async false
set_option maxRecDepth 100000
set_option linter.unusedVariables false
set_option linter.unusedSimpArgs false
section
open PySem.Sre (M ops Op)
noncomputable def cd : Array Nat := #[14, 8, 1, 2, 4294967295, 1, 1, 34, 0, 16, 34, 28, 22, 0, 4294967295, 7, 11, 13, 7, 21, 16, 34, 16, 92, 0, 15, 8, 6, 16, 92, 2, 15, 2, 0, 1, 16, 34, 1]
noncomputable def S (t : Array Nat) (st pc pos hd : Nat) (om : Bool) (lp : Array Sre.Loop) (inn : Option Nat) (fr : List Sre.Frame) (wt : Nat) (an : Option Bool) (sn : Sre.Seen) : M :=
  { code := cd, text := t, lim := t.size, start := st, lastStart := t.size, pc := pc, pos := pos, handed := hd, outermost := om, marks := #[], loops := lp, inner := inn, frames := fr, weight := wt, answer := an, seen := sn }
section
variable {t : Array Nat} {st pc pos hd : Nat} {om : Bool} {lp : Array Sre.Loop} {inn : Option Nat} {fr : List Sre.Frame} {wt : Nat} {sn : Sre.Seen}
theorem lit_no (x : Nat) (hpc : pc < 38) (hop : ops[cd.getD pc 0]? = some .LITERAL) (hw : cd.getD (pc + 1) 0 = x) (h1 : pos < t.size) (h2 : t.getD pos 0 ≠ x) :
    ∃ sn', (S t st pc pos hd om lp inn fr wt none sn).step = S t st pc pos hd om lp inn fr wt (some false) sn' := by
  refine ⟨sn.add (cd.getD pc 0), ?_⟩
  have e : (t.getD pos 0 == x) = false := beq_eq_false_iff_ne.mpr h2
  have hc : pc < cd.size := hpc
  simp only [M.step, S, Option.isSome_none, Bool.false_eq_true, if_false, hc, if_true]
  simp only [M.exec, M.word, Nat.add_zero, hop]
  rw [if_neg (Nat.not_le.mpr h1)]
  simp only [Sre.accepts, hop, hw, e, M.say]
theorem lit_yes (x : Nat) (hpc : pc < 38) (hop : ops[cd.getD pc 0]? = some .LITERAL) (hw : cd.getD (pc + 1) 0 = x) (h1 : pos < t.size) (h2 : t.getD pos 0 = x) :
    ∃ sn', (S t st pc pos hd om lp inn fr wt none sn).step = S t st (pc + 2) (pos + 1) hd om lp inn fr wt none sn' := by
  refine ⟨sn.add (cd.getD pc 0), ?_⟩
  have e : (t.getD pos 0 == x) = true := by rw [h2]; exact beq_self_eq_true x
  have hc : pc < cd.size := hpc
  simp only [M.step, S, Option.isSome_none, Bool.false_eq_true, if_false, hc, if_true]
  simp only [M.exec, M.word, Nat.add_zero, hop]
  rw [if_neg (Nat.not_le.mpr h1)]
  simp only [Sre.accepts, hop, hw, e, Sre.itemWidth]
theorem lit_end (hpc : pc < 38) (hop : ops[cd.getD pc 0]? = some .LITERAL) (h1 : t.size ≤ pos) :
    ∃ sn', (S t st pc pos hd om lp inn fr wt none sn).step = S t st pc pos hd om lp inn fr wt (some false) sn' := by
  refine ⟨sn.add (cd.getD pc 0), ?_⟩
  have hc : pc < cd.size := hpc
  simp only [M.step, S, Option.isSome_none, Bool.false_eq_true, if_false, hc, if_true]
  simp only [M.exec, M.word, Nat.add_zero, hop]
  rw [if_pos h1]
  rfl
end
noncomputable def fS (s : Nat) (b : Bool) : Sre.Frame := { wait := .nextStart, pc := 9, pos := s, outermost := b }
noncomputable def st0 (t : Array Nat) (s : Nat) (b : Bool) (sn : Sre.Seen) : M := S t s 9 s s b #[] none [fS s b] 1 none sn
theorem miss (t : Array Nat) (s : Nat) (b : Bool) (sn : Sre.Seen) (hs : s < t.size) (h : t.getD s 0 ≠ 34) : ∃ sn', (st0 t s b sn).step.step = st0 t (s + 1) false sn' := by
  obtain ⟨sn', e⟩ := lit_no (t := t) (st := s) (hd := s) (om := b) (lp := #[]) (inn := none) (fr := [fS s b]) (wt := 1) (sn := sn) 34 (by decide : 9 < 38) rfl rfl hs h
  unfold st0
  rw [e]
  refine ⟨sn', ?_⟩
  simp only [M.step, S, Option.isSome_none, Bool.false_eq_true, if_false, fS]
  simp only [M.resume, Bool.false_eq_true, if_false, hs, if_true]
  rfl
theorem miss_end (t : Array Nat) (b : Bool) (sn : Sre.Seen) : ((st0 t t.size b sn).step.step.step).outcome = some .failed := by
  obtain ⟨sn', e⟩ := lit_end (t := t) (st := t.size) (hd := t.size) (om := b) (lp := #[]) (inn := none) (fr := [fS t.size b]) (wt := 1) (sn := sn) (by decide : 9 < 38) rfl (Nat.le_refl _)
  unfold st0
  rw [e]
  simp only [M.step, S, Option.isSome_none, Bool.false_eq_true, if_false, fS]
  simp only [M.resume, Bool.false_eq_true, if_false, Nat.lt_irrefl, M.say, Option.isSome_none]
noncomputable def k0 : Sre.Kept := { lastmark := -1, lastindex := -1, whole := true, marks := #[] }
noncomputable def fP (p cnt : Nat) (b : Bool) : Sre.Frame := { wait := .possMore, pc := 11, pos := p, outermost := b, count := (cnt : Int), kept := k0, loop := 0 }
noncomputable def lp1 : Array Sre.Loop := #[{ pc := 0, outer := none }]
noncomputable def stA (t : Array Nat) (s p cnt : Nat) (b : Bool) (sn : Sre.Seen) : M := S t s 15 p p false lp1 (some 0) [fP p cnt b, fS s b] 2 none sn
noncomputable def fB (pc p : Nat) : Sre.Frame := { wait := .nextBranch, pc := pc, pos := p, outermost := false, kept := k0 }
theorem poss_step (t : Array Nat) (s : Nat) (b : Bool) (sn : Sre.Seen) : ∃ sn', (S t s 11 (s + 1) s b #[] none [fS s b] 1 none sn).step = stA t s (s + 1) 0 b sn' := ⟨_, rfl⟩
theorem inSet_yes (c : Nat) (sn : Sre.Seen) (h1 : c ≠ 34) (h2 : c ≠ 92) : ∃ sn', Sre.inSet cd c cd.size 19 true sn = .ok (true, sn') := by
  have e1 : (c == 34) = false := beq_eq_false_iff_ne.mpr h1
  have e2 : (c == 92) = false := beq_eq_false_iff_ne.mpr h2
  refine ⟨(((sn.add 21).add 16).add 16).add 0, ?_⟩
  show (if (c == 34) = true then _ else if (c == 92) = true then _ else _) = _
  rw [e1, e2]
  rfl
theorem inSet_no (sn : Sre.Seen) : ∃ sn', Sre.inSet cd 34 cd.size 19 true sn = .ok (false, sn') := ⟨_, rfl⟩
theorem poss_go (m : M) (i : Nat) (count : Int) (began : Option Nat) (h0 : 0 ≤ count) (hw2 : m.word 2 = 0) (hw3 : m.word 3 = Sre.maxRepeat) (hb : (began != some m.handed) = true) :
    m.possessive i count began = m.attempt { m.frame .possMore with pos := m.handed, loop := i, count, kept := m.keep true } (m.pc + 4) m.handed false := by
  unfold M.possessive
  dsimp only
  rw [if_neg (by rw [hw2]; omega), if_pos (by rw [hw3, hb]; simp)]
theorem poss_out (m : M) (i : Nat) (count : Int) (began : Option Nat) (h0 : 0 ≤ count) (hw2 : m.word 2 = 0) (hb : (began != some m.handed) = false) :
    m.possessive i count began = { m with inner := (m.loopAt i).outer, loops := m.loops.pop, pc := m.pc + 2 + m.word 1, pos := m.handed } := by
  unfold M.possessive
  dsimp only
  rw [if_neg (by rw [hw2]; omega), if_neg (by rw [hb]; simp)]
theorem stA_char (t : Array Nat) (s p cnt : Nat) (b : Bool) (sn : Sre.Seen) (hp : p < t.size) (h1 : t.getD p 0 ≠ 34) (h2 : t.getD p 0 ≠ 92) : ∃ sn', (stA t s p cnt b sn).step.step.step.step.step.step = stA t s (p + 1) (cnt + 1) b sn' := by
  have e1 : ∃ sn', (stA t s p cnt b sn).step = S t s 17 p p false lp1 (some 0) [fB 16 p, fP p cnt b, fS s b] 3 none sn' := ⟨_, rfl⟩
  obtain ⟨sn1, e1⟩ := e1
  rw [e1]
  have e2 : ∃ sn', (S t s 17 p p false lp1 (some 0) [fB 16 p, fP p cnt b, fS s b] 3 none sn1).step = S t s 25 (p + 1) p false lp1 (some 0) [fB 16 p, fP p cnt b, fS s b] 3 none sn' := by
    obtain ⟨sn', e⟩ := inSet_yes (t.getD p 0) (sn1.add 13) h1 h2
    refine ⟨sn', ?_⟩
    show (if t.size ≤ p then _ else match Sre.inSet cd (t.getD p 0) cd.size 19 true (sn1.add 13) with | .error why => _ | .ok (false, seen) => _ | .ok (true, seen) => _) = _
    rw [if_neg (Nat.not_le.mpr hp), e]
    rfl
  obtain ⟨sn2, e2⟩ := e2
  rw [e2]
  have e3 : ∃ sn', (S t s 25 (p + 1) p false lp1 (some 0) [fB 16 p, fP p cnt b, fS s b] 3 none sn2).step = S t s 34 (p + 1) p false lp1 (some 0) [fB 16 p, fP p cnt b, fS s b] 3 none sn' := ⟨_, rfl⟩
  obtain ⟨sn3, e3⟩ := e3
  rw [e3]
  have e4 : ∃ sn', (S t s 34 (p + 1) p false lp1 (some 0) [fB 16 p, fP p cnt b, fS s b] 3 none sn3).step = S t s 34 (p + 1) (p + 1) false lp1 (some 0) [fB 16 p, fP p cnt b, fS s b] 3 (some true) sn' := ⟨_, rfl⟩
  obtain ⟨sn4, e4⟩ := e4
  rw [e4]
  have e5 : (S t s 34 (p + 1) (p + 1) false lp1 (some 0) [fB 16 p, fP p cnt b, fS s b] 3 (some true) sn4).step = S t s 16 p (p + 1) false lp1 (some 0) [fP p cnt b, fS s b] 2 (some true) sn4 := rfl
  rw [e5]
  refine ⟨sn4, ?_⟩
  simp only [M.step, S, Option.isSome_none, Bool.false_eq_true, if_false, fP]
  simp only [M.resume, if_true]
  rw [poss_go _ _ _ _ (by omega) rfl rfl (by simp)]
  rfl
theorem stA_end (t : Array Nat) (s p cnt : Nat) (b : Bool) (sn : Sre.Seen) (hp : p < t.size) (h1 : t.getD p 0 = 34) :
    ∃ m, (stA t s p cnt b sn).step.step.step.step.step.step.step.step.step.step.step = m ∧ m.outcome = some .matched ∧ m.start = s ∧ m.handed = p + 1 := by
  have e1 : ∃ sn', (stA t s p cnt b sn).step = S t s 17 p p false lp1 (some 0) [fB 16 p, fP p cnt b, fS s b] 3 none sn' := ⟨_, rfl⟩
  obtain ⟨sn1, e1⟩ := e1
  rw [e1]
  have e2 : ∃ sn', (S t s 17 p p false lp1 (some 0) [fB 16 p, fP p cnt b, fS s b] 3 none sn1).step = S t s 17 p p false lp1 (some 0) [fB 16 p, fP p cnt b, fS s b] 3 (some false) sn' := by
    obtain ⟨sn', e⟩ := inSet_no (sn1.add 13)
    refine ⟨sn', ?_⟩
    show (if t.size ≤ p then _ else match Sre.inSet cd (t.getD p 0) cd.size 19 true (sn1.add 13) with | .error why => _ | .ok (false, seen) => _ | .ok (true, seen) => _) = _
    rw [if_neg (Nat.not_le.mpr hp), h1, e]
    rfl
  obtain ⟨sn2, e2⟩ := e2
  rw [e2]
  have e3 : (S t s 17 p p false lp1 (some 0) [fB 16 p, fP p cnt b, fS s b] 3 (some false) sn2).step = S t s 28 p p false lp1 (some 0) [fB 27 p, fP p cnt b, fS s b] 3 none sn2 := rfl
  rw [e3]
  obtain ⟨sn3, e4⟩ := lit_no (t := t) (st := s) (pos := p) (hd := p) (om := false) (lp := lp1) (inn := some 0) (fr := [fB 27 p, fP p cnt b, fS s b]) (wt := 3) (sn := sn2) 92 (by decide : 28 < 38) rfl rfl hp (by rw [h1]; decide)
  rw [e4]
  have e5 : (S t s 28 p p false lp1 (some 0) [fB 27 p, fP p cnt b, fS s b] 3 (some false) sn3).step = S t s 27 p p false lp1 (some 0) [fP p cnt b, fS s b] 2 (some false) sn3 := rfl
  rw [e5]
  have e6 : (S t s 27 p p false lp1 (some 0) [fP p cnt b, fS s b] 2 (some false) sn3).step = S t s 35 p p b #[] none [fS s b] 1 none sn3 := by
    simp only [M.step, S, Option.isSome_none, Bool.false_eq_true, if_false, fP]
    simp only [M.resume, Bool.false_eq_true, if_false]
    rw [poss_out _ _ _ _ (by omega) rfl (by show ((some p : Option Nat) != some p) = false; simp)]
    rfl
  rw [e6]
  obtain ⟨sn4, e7⟩ := lit_yes (t := t) (st := s) (pos := p) (hd := p) (om := b) (lp := #[]) (inn := none) (fr := [fS s b]) (wt := 1) (sn := sn3) 34 (by decide : 35 < 38) rfl rfl hp h1
  rw [e7]
  have e8 : ∃ sn', (S t s 37 (p + 1) p b #[] none [fS s b] 1 none sn4).step = S t s 37 (p + 1) (p + 1) b #[] none [fS s b] 1 (some true) sn' := by
    refine ⟨sn4.add 1, ?_⟩
    cases b <;> rfl
  obtain ⟨sn5, e8⟩ := e8
  rw [e8]
  exact ⟨_, rfl, rfl, rfl, rfl⟩
end
end
section
open PySem PySem.W PySem.Calls PyProof.Rows PySem.Spec
set_option Elab.async false
set_option maxRecDepth 100000
set_option linter.unusedVariables false
set_option linter.unusedSimpArgs false
section
open PySem.Sre (M ops Op)
noncomputable def stp : Nat → M → M
  | 0, m => m
  | n + 1, m => stp n m.step
theorem stp_add (a b : Nat) : ∀ m, stp (a + b) m = stp b (stp a m) := by
  induction a with
  | zero => intro m; rw [Nat.zero_add]; rfl
  | succ a ih => intro m; rw [Nat.succ_add]; exact ih m.step
theorem step_done {m : M} (h : m.outcome.isSome = true) : m.step = m := by unfold M.step; rw [if_pos h]
theorem stp_done {m : M} (h : m.outcome.isSome = true) : ∀ n, stp n m = m := by
  intro n
  induction n with
  | zero => rfl
  | succ n ih => show stp n m.step = m; rw [step_done h]; exact ih
theorem runFor_stp : ∀ (n : Nat) (m : M), M.runFor n m = stp n m := by
  intro n
  induction n with
  | zero => intro m; rfl
  | succ n ih =>
    intro m
    unfold M.runFor
    by_cases h : m.outcome.isSome = true
    · rw [if_pos h, stp_done h]
    · rw [if_neg h]; exact ih m.step
section
variable {Mo : Model} {A : Around} {E : Value → Shared → Prop} {s : Shared}
theorem wpAny_reDrive {Q : M → Shared → Prop} : ∀ (turns N : Nat) (m : M), (stp N m).outcome.isSome = true → N ≤ 4 * turns → 0 < turns → Q (stp N m) s → wpAny Mo A (Builtin.Re.reDrive turns m) Q E s := by
  intro turns
  induction turns with
  | zero => intro N m _ _ h0; exact absurd h0 (Nat.lt_irrefl _)
  | succ turns ih =>
    intro N m hN hle _ hQ
    unfold Builtin.Re.reDrive
    dsimp only
    rw [runFor_stp]
    have e4 : Builtin.Re.reTurnSteps = 4 := rfl
    rw [e4]
    by_cases h : (stp 4 m).outcome.isSome = true
    · rw [if_pos h]
      have : stp 4 m = stp N m := by
        rcases Nat.le_total N 4 with q | q
        · have : stp 4 m = stp (4 - N) (stp N m) := by rw [← stp_add]; congr 1; omega
          rw [this, stp_done hN]
        · have : stp N m = stp (N - 4) (stp 4 m) := by rw [← stp_add]; congr 1; omega
          rw [this, stp_done h]
      rw [this]
      exact wpAny_pure hQ
    · rw [if_neg h]
      have q : 4 < N := by
        rcases Nat.lt_or_ge 4 N with q | q
        · exact q
        · have : stp 4 m = stp (4 - N) (stp N m) := by rw [← stp_add]; congr 1; omega
          rw [this, stp_done hN] at h
          exact absurd hN h
      have e : stp N m = stp (N - 4) (stp 4 m) := by rw [← stp_add]; congr 1; omega
      rw [e] at hN hQ
      exact wpAny_bind (wpAny_rule (ih (N - 4) (stp 4 m) hN (by omega) (by omega) hQ))
theorem wpAny_quiet {Q : PUnit → Shared → Prop} {f : Nat → PUnit → Sem (ForInStep PUnit)} (hf : ∀ i r (Q : ForInStep PUnit → Shared → Prop), Q (.yield ⟨⟩) s → wpAny Mo A (f i r) Q E s) : ∀ (l : List Nat) (u : PUnit), Q ⟨⟩ s → wpAny Mo A (forIn l u f) Q E s := by
  intro l
  induction l with
  | nil => intro u h; exact wpAny_pure h
  | cons i l ih =>
    intro u h
    rw [List.forIn_cons]
    exact wpAny_bind (hf i u _ (ih _ h))
theorem wpAny_reRun {Q : Option M → Shared → Prop} (N : Nat) (m : M) (hle : N ≤ 2 ^ 66) (h : ((stp N m).outcome = some .matched ∧ Q (some (stp N m)) s) ∨ ((stp N m).outcome = some .failed ∧ Q none s)) : wpAny Mo A (Builtin.Re.reRunToEnd m) Q E s := by
  unfold Builtin.Re.reRunToEnd
  have hs : (stp N m).outcome.isSome = true := by rcases h with h | h <;> rw [h.1] <;> rfl
  refine wpAny_bind (wpAny_reDrive (2 ^ 64) N m hs (by omega) (by decide) ?_)
  refine wpAny_bind (wpAny_quiet (fun i r Q hq => ?_) _ _ ?_)
  · split
    · exact wpAny_bind (wpAny_rule (wpAny_pure hq))
    · exact wpAny_pure hq
  rcases h with ⟨h1, h2⟩ | ⟨h1, h2⟩
  · rw [h1]; exact wpAny_pure h2
  · rw [h1]; exact wpAny_pure h2
end
theorem walk_miss (t : Array Nat) : ∀ (k s : Nat) (b : Bool) (sn : Sre.Seen), s + k ≤ t.size → (∀ i, s ≤ i → i < s + k → t.getD i 0 ≠ 34) → ∃ b' sn', stp (2 * k) (st0 t s b sn) = st0 t (s + k) b' sn' := by
  intro k
  induction k with
  | zero => intro s b sn _ _; exact ⟨b, sn, rfl⟩
  | succ k ih =>
    intro s b sn hs h
    obtain ⟨sn1, e⟩ := miss t s b sn (by omega) (h s (Nat.le_refl _) (by omega))
    obtain ⟨b2, sn2, e2⟩ := ih (s + 1) false sn1 (by omega) fun i h1 h2 => h i (by omega) (by omega)
    refine ⟨b2, sn2, ?_⟩
    have : 2 * (k + 1) = 2 + 2 * k := by omega
    rw [this, stp_add]
    show stp (2 * k) (st0 t s b sn).step.step = _
    rw [e, e2]
    congr 1; omega
theorem walk_chars (t : Array Nat) (s : Nat) (b : Bool) : ∀ (k p cnt : Nat) (sn : Sre.Seen), p + k ≤ t.size → (∀ i, p ≤ i → i < p + k → t.getD i 0 ≠ 34 ∧ t.getD i 0 ≠ 92) → ∃ sn', stp (6 * k) (stA t s p cnt b sn) = stA t s (p + k) (cnt + k) b sn' := by
  intro k
  induction k with
  | zero => intro p cnt sn _ _; exact ⟨sn, rfl⟩
  | succ k ih =>
    intro p cnt sn hs h
    obtain ⟨sn1, e⟩ := stA_char t s p cnt b sn (by omega) (h p (Nat.le_refl _) (by omega)).1 (h p (Nat.le_refl _) (by omega)).2
    obtain ⟨sn2, e2⟩ := ih (p + 1) (cnt + 1) sn1 (by omega) fun i h1 h2 => h i (by omega) (by omega)
    refine ⟨sn2, ?_⟩
    have : 6 * (k + 1) = 6 + 6 * k := by omega
    rw [this, stp_add]
    show stp (6 * k) (stA t s p cnt b sn).step.step.step.step.step.step = _
    rw [e, e2]
    congr 1 <;> omega
theorem search_found (t : Array Nat) (a k j : Nat) (hsz : a + k + 1 + j < t.size) (h1 : ∀ i, a ≤ i → i < a + k → t.getD i 0 ≠ 34) (h2 : t.getD (a + k) 0 = 34) (h3 : ∀ i, a + k + 1 ≤ i → i < a + k + 1 + j → t.getD i 0 ≠ 34 ∧ t.getD i 0 ≠ 92) (h4 : t.getD (a + k + 1 + j) 0 = 34) :
    ∃ N m, N ≤ 8 * t.size + 20 ∧ stp N (Sre.forSearch cd t 0 a t.size false) = m ∧ m.outcome = some .matched ∧ m.start = a + k ∧ m.handed = a + k + 1 + j + 1 := by
  have e0 : ∃ sn, Sre.forSearch cd t 0 a t.size false = st0 t a true sn := by
    refine ⟨({} : Sre.Seen).add 14, ?_⟩
    unfold Sre.forSearch
    have : (decide (a > t.size) || decide (t.size - a < (Sre.header cd).1)) = false := by
      rw [decide_eq_false (by omega), decide_eq_false (by show ¬ (t.size - a < 2); omega)]; rfl
    dsimp only
    rw [this]
    rfl
  obtain ⟨sn0, e0⟩ := e0
  obtain ⟨b1, sn1, e1⟩ := walk_miss t k a true sn0 (by omega) h1
  obtain ⟨sn2, e2⟩ := lit_yes (t := t) (st := a + k) (pos := a + k) (hd := a + k) (om := b1) (lp := #[]) (inn := none) (fr := [fS (a + k) b1]) (wt := 1) (sn := sn1) 34 (by decide : 9 < 38) rfl rfl (by omega) h2
  obtain ⟨sn3, e3⟩ := poss_step t (a + k) b1 sn2
  obtain ⟨sn4, e4⟩ := walk_chars t (a + k) b1 j (a + k + 1) 0 sn3 (by omega) h3
  obtain ⟨m, e5, q1, q2, q3⟩ := stA_end t (a + k) (a + k + 1 + j) (0 + j) b1 sn4 hsz h4
  refine ⟨2 * k + (2 + (6 * j + 11)), m, by omega, ?_, q1, q2, q3⟩
  rw [e0, stp_add, e1, stp_add]
  show stp (6 * j + 11) (S t (a + k) 9 (a + k) (a + k) b1 #[] none [fS (a + k) b1] 1 none sn1).step.step = m
  rw [e2, e3, stp_add, e4]
  exact e5
theorem search_none (t : Array Nat) (a : Nat) (ha : a ≤ t.size) (h1 : ∀ i, a ≤ i → i < t.size → t.getD i 0 ≠ 34) : ∃ N, N ≤ 8 * t.size + 20 ∧ (stp N (Sre.forSearch cd t 0 a t.size false)).outcome = some .failed := by
  by_cases hl : t.size - a < 2
  · refine ⟨1, by omega, ?_⟩
    have : (decide (a > t.size) || decide (t.size - a < (Sre.header cd).1)) = true := by
      rw [decide_eq_true (show t.size - a < (Sre.header cd).1 from hl)]; simp
    unfold Sre.forSearch
    dsimp only
    rw [this]
    rfl
  · have e0 : ∃ sn, Sre.forSearch cd t 0 a t.size false = st0 t a true sn := by
      refine ⟨({} : Sre.Seen).add 14, ?_⟩
      unfold Sre.forSearch
      have : (decide (a > t.size) || decide (t.size - a < (Sre.header cd).1)) = false := by
        rw [decide_eq_false (by omega), decide_eq_false (by show ¬ (t.size - a < 2); omega)]; rfl
      dsimp only
      rw [this]
      rfl
    obtain ⟨sn0, e0⟩ := e0
    obtain ⟨b1, sn1, e1⟩ := walk_miss t (t.size - a) a true sn0 (by omega) fun i h2 h3 => h1 i h2 (by omega)
    refine ⟨2 * (t.size - a) + 3, by omega, ?_⟩
    rw [e0, stp_add, e1]
    have : a + (t.size - a) = t.size := by omega
    rw [this]
    exact miss_end t b1 sn1
end
end
section
open PySem PySem.W PySem.Calls PyProof.Rows PySem.Spec
set_option Elab.async false
set_option maxRecDepth 100000
set_option linter.unusedVariables false
set_option linter.unusedSimpArgs false
section
open PySem.Builtin PySem.Builtin.Re
noncomputable def o182 : Obj := { cls := .type "tuple", data := .seq (cd.map fun (n : Nat) => Value.int (n : Int) 0) }
noncomputable def PatIn (h : Heap) : Prop := ∃ b tb tf fl, h.get? 183 = some { cls := .type "re.Pattern", data := .fields #[.bytes b tb, .int fl tf, .int 0 0, .none, .none, .ref 182, .int 1 0] } ∧ h.get? 182 = some o182
theorem cd_back : ((cd.map fun (n : Nat) => Value.int (n : Int) 0).map reRawOf).map (·.toNat) = cd := by decide +kernel
section
variable {prog : Program} {w : World} {A : Around} {E : Value → Shared → Prop} {s : Shared} {b : Array UInt8} {t : Tok}
theorem asStr_bytes : asStr? (.bytes b t) = Pure.pure none := by kernel_rfl
theorem whole {Q : ReTarget → Shared → Prop} (hp : PatIn s.heap) (h : Q { pattern := .ref 183, string := .bytes b t, code := cd, text := b.map (·.toNat), kind := 1, groups := 0, pos := 0, lim := (b.map (·.toNat)).size } s) :
    wpAny (model prog w) A (reWholeTarget (.ref 183) (.bytes b t)) Q E s := by
  obtain ⟨pb, tb, tf, fl, h1, h2⟩ := hp
  unfold reWholeTarget
  refine wpAny_bind (wpAny_bind (wpAny_load h1 (wpAny_pure ?_)))
  refine wpAny_bind ?_
  · unfold reTextOf
    rw [asStr_bytes]
    refine wpAny_bind (wpAny_pure ?_)
    rw [KBy.quiet_eq]
    refine wpAny_bind (wpAny_pure ?_)
    refine wpAny_pure ?_
    dsimp only
    refine wpAny_ite_split (fun hh => absurd hh Bool.false_ne_true) fun _ => ?_
    refine wpAny_ite_split (fun hh => absurd hh Bool.false_ne_true) fun _ => ?_
    refine wpAny_bind ?_
    · unfold reNoCollectionInside
      refine wpAny_ite_split (fun _ => ?_) fun hh => absurd rfl hh
      rw [KBy.isInstance_eq]
      refine wpAny_bind (wpAny_pure ?_)
      refine wpAny_ite_split (fun hh => absurd hh Bool.false_ne_true) fun _ => ?_
      refine wpAny_pure ?_
      refine wpAny_bind ?_
      · unfold reRawItems
        refine wpAny_bind ?_
        show wpAny _ _ (seqItems? (.ref 182)) _ _ _
        unfold seqItems?
        refine wpAny_bind (wpAny_load h2 ?_)
        refine wpAny_pure (wpAny_pure ?_)
        refine wpAny_pure ?_
        rw [show (Option.getD (some (cd.map fun (n : Nat) => Value.int (n : Int) 0)) #[]) = (cd.map fun (n : Nat) => Value.int (n : Int) 0) from rfl, cd_back]
        exact h
end
end
end
section
open PySem PySem.W PySem.Calls PyProof.Rows PySem.Spec
set_option Elab.async false
set_option maxRecDepth 100000
set_option linter.unusedVariables false
set_option linter.unusedSimpArgs false
section
theorem slot_bytes_join : Slot "bytes" "join" "bytes.join" :=
  .of (owner := "bytes") (n := "join") (by rw [typeLookup_type, builtinLookup_eq_fast]; kernel_rfl) (by decide +kernel) (by decide +kernel) (by decide +kernel)
    (by first | exact .inl (by decide +kernel) | exact .inr (by decide +kernel)) (by rw [isSubtype_type]; kernel_rfl)
theorem entry_bytes_join : entryFor table "bytes.join" = some Builtin.«bytes.join» := entryFor_of_tree (by kernel_rfl)
theorem args_bytes_join_2 (a b : Value) : argsOk "bytes.join" ⟨[a, b], []⟩ := by
  unfold argsOk; rw [signature?_of (id := "bytes.join") (n := ['n', 'i', 'o', 'j']) (o := ['s', 'e', 't', 'y', 'b']) (by kernel_rfl) FB.owner_bytes]; kernel_rfl
theorem slot_bytes_count : Slot "bytes" "count" "bytes.count" :=
  .of (owner := "bytes") (n := "count") (by rw [typeLookup_type, builtinLookup_eq_fast]; kernel_rfl) (by decide +kernel) (by decide +kernel) (by decide +kernel)
    (by first | exact .inl (by decide +kernel) | exact .inr (by decide +kernel)) (by rw [isSubtype_type]; kernel_rfl)
theorem type_bytes_count : typeOf (.builtin "bytes.count") = Pure.pure (.type "method_descriptor") := by show builtinType _ = _; rw [builtinType_eq_fast]; kernel_rfl
theorem entry_bytes_count : entryFor table "bytes.count" = some Builtin.«bytes.count» := entryFor_of_tree (by kernel_rfl)
theorem args_bytes_count_2 (a b : Value) : argsOk "bytes.count" ⟨[a, b], []⟩ := by
  unfold argsOk; rw [signature?_of (id := "bytes.count") (n := ['t', 'n', 'u', 'o', 'c']) (o := ['s', 'e', 't', 'y', 'b']) (by kernel_rfl) FB.owner_bytes]; kernel_rfl
theorem plainAttrs_pattern : PlainAttrs "re.Pattern" :=
  ⟨⟨"object.__getattribute__", by rw [typeLookup_type, builtinLookup_eq_fast]; kernel_rfl, by decide +kernel⟩, by rw [typeLookup_type, builtinLookup_eq_fast]; kernel_rfl⟩
theorem slot_pattern_sub : Slot "re.Pattern" "sub" "re.Pattern.sub" :=
  .of (owner := "re.Pattern") (n := "sub") (by rw [typeLookup_type, builtinLookup_eq_fast]; kernel_rfl) (by decide +kernel) (by decide +kernel) (by decide +kernel)
    (by first | exact .inl (by decide +kernel) | exact .inr (by decide +kernel)) (by rw [isSubtype_type]; kernel_rfl)
theorem type_pattern_sub : typeOf (.builtin "re.Pattern.sub") = Pure.pure (.type "method_descriptor") := by show builtinType _ = _; rw [builtinType_eq_fast]; kernel_rfl
theorem entry_pattern_sub : entryFor table "re.Pattern.sub" = some Builtin.«re.Pattern.sub» := entryFor_of_tree (by kernel_rfl)
theorem entry_pattern_loop : entryFor table "re.Pattern.sub.loop" = some Builtin.«re.Pattern.sub.loop» := entryFor_of_tree (by kernel_rfl)
theorem plain_pattern_loop : plainId "re.Pattern.sub.loop" = true := by decide +kernel
end
end
section
open PySem PySem.W PySem.Calls PyProof.Rows PySem.Spec
set_option Elab.async false
set_option maxRecDepth 100000
set_option linter.unusedVariables false
set_option linter.unusedSimpArgs false
section
open PySem.Builtin
section
variable {b sub : Array UInt8} {t u : Tok}
theorem count_args : Bytes.searchArgs .bytes "count" ⟨[.bytes b t, .bytes sub u], []⟩ = (Bytes.buffer? (Bytes.Kind.bytes.name ++ "." ++ "count") (.bytes sub u) >>= fun o => match o with
    | some sb => (Pure.pure (b, sb, if (b.size : Int) - 0 < sb.size then none else some (0, b.size)) : Sem _)
    | none => Bytes.searchArgs .bytes "count" ⟨[.bytes b t, .bytes sub u], []⟩) := by
  rw [KBy.buffer_eq]
  unfold Bytes.searchArgs
  rw [show (s!"{Bytes.Kind.bytes.name}.{"count"}" : String) = s!"{Bytes.Kind.bytes.name}.{"count"}" from rfl]
  show (Bytes.buffer? _ (.bytes sub u) >>= fun o => _) = _
  rw [KBy.buffer_eq]
  show (Pure.pure (b, sub, if _ then none else some _) : Sem _) = Pure.pure (b, sub, if _ then none else some _)
  have e : (min (b.size : Int) (if (b.size : Int) < 0 then max 0 ((b.size : Int) + b.size) else (b.size : Int))) = b.size := by
    rw [if_neg (by omega), Int.min_self]
  simp [Bytes.window, e]
theorem count_eq : «bytes.count» ⟨[.bytes b t, .bytes sub u], []⟩ = (if (b.size : Int) - 0 < sub.size then retInt 0 else if sub.isEmpty then (do rule s!"{Bytes.Kind.bytes.name}.count.empty-sub"; retInt ((b.size - 0 + 1 : Nat) : Int)) else retInt ((Bytes.occurrences b sub 0 b.size).length : Int)) := by
  unfold «bytes.count» Bytes.countM
  rw [count_args, KBy.buffer_eq]
  show (Pure.pure (b, sub, if (b.size : Int) - 0 < sub.size then none else some (0, b.size)) >>= fun x => _) = _
  rw [pure_bind]
  by_cases h : (b.size : Int) - 0 < sub.size
  · simp only [if_pos h]
  · simp only [if_neg h]
theorem gives_count (x : UInt8) : Gives («bytes.count» ⟨[.bytes b t, .bytes #[x] u], []⟩) (.int ((b.toList.count x : Nat) : Int)) := by
  rw [count_eq]
  by_cases h : (b.size : Int) - 0 < (#[x] : Array UInt8).size
  · rw [if_pos h]
    have : b.toList = [] := by
      have : b.size = 0 := by have e : (#[x] : Array UInt8).size = 1 := rfl; rw [e] at h; omega
      rw [← List.length_eq_zero_iff, Array.length_toList]; exact this
    rw [this]
    exact .of_eq rfl
  · rw [if_neg h, if_neg (by simp)]
    have e : (Bytes.occurrences b #[x] 0 b.size).length = b.toList.count x := by
      unfold Bytes.occurrences
      have hs : b.size + 1 - (0 + (#[x] : Array UInt8).size) = b.size := by show b.size + 1 - (0 + 1) = b.size; omega
      rw [hs]
      have hm : (List.range b.size).map (· + 0) = List.range b.size := by simp
      rw [hm, List.length_reverse]
      have key : ∀ n, n ≤ b.size → let r := (List.range n).foldl (fun (acc : List Nat × Nat) (i : Nat) => if (decide (i ≥ acc.2) && b.extract i (i + (#[x] : Array UInt8).size) == #[x]) = true then (i :: acc.1, i + (#[x] : Array UInt8).size) else acc) ([], 0)
          r.1.length = (b.toList.take n).count x ∧ r.2 ≤ n := by
        intro n
        induction n with
        | zero => intro _; simp
        | succ n ih =>
          intro hn
          obtain ⟨i1, i2⟩ := ih (by omega)
          simp only [List.range_succ, List.foldl_append, List.foldl_cons, List.foldl_nil]
          generalize (List.range n).foldl _ _ = r at *
          have hx : b.extract n (n + (#[x] : Array UInt8).size) = #[b[n]'(by omega)] := by
            apply Array.ext'
            rw [Array.toList_extract]
            show (List.drop n b.toList).take (n + 1 - n) = [b[n]]
            have : n + 1 - n = 1 := by omega
            rw [this, List.drop_eq_getElem_cons (by rw [Array.length_toList]; omega)]
            simp
          have ht : b.toList.take (n + 1) = b.toList.take n ++ [b[n]'(by omega)] := by
            rw [List.take_add_one]
            simp [show n < b.size by omega]
          rw [hx, ht, List.count_append]
          have d : decide (n ≥ r.2) = true := decide_eq_true i2
          rw [d, Bool.true_and]
          by_cases q : b[n]'(by omega) = x
          · have : (#[b[n]'(by omega)] == #[x]) = true := by rw [q]; exact beq_self_eq_true _
            rw [if_pos this]
            refine ⟨?_, Nat.le_refl _⟩
            simp [i1, q]
          · have : (#[b[n]'(by omega)] == #[x]) = false := by
              rw [beq_eq_false_iff_ne]
              intro e; apply q
              have := congrArg (fun a : Array UInt8 => a.toList) e
              simpa using this
            rw [if_neg (by rw [this]; decide)]
            refine ⟨?_, by omega⟩
            rw [i1]
            simp [q]
      have := (key b.size (Nat.le_refl _)).1
      rw [List.take_of_length_le (by simp)] at this
      exact this
    rw [e]
    exact .of_eq rfl
end
end
end
section
open PySem PySem.W PySem.Calls PyProof.Rows PySem.Spec
set_option Elab.async false
set_option maxRecDepth 100000
set_option linter.unusedVariables false
set_option linter.unusedSimpArgs false
section
open PySem.Builtin
theorem buffer_full {id : String} {b : Array UInt8} {t : Tok} {full : Bool} : Bytes.buffer? id (.bytes b t) full = Pure.pure (some b) := by
  unfold Bytes.buffer?
  rw [KBy.special_eq KBy.look_buffer, KBy.own_buffer, KBy.own_release]
  kernel_rfl
theorem take_buffer {id : String} {b : Array UInt8} {t : Tok} {fl : Int} : Bytes.takeBufferQuiet? id (.bytes b t) fl = Pure.pure (some (b, none)) := by
  unfold Bytes.takeBufferQuiet? Bytes.takeBuffer?
  rw [KBy.special_eq KBy.look_buffer, KBy.own_buffer]
  rw [buffer_full]
  rfl
section
variable {Mo : Model} {A : Around} {E : Value → Shared → Prop} {s : Shared}
theorem for_range {σ : Type} (I : Nat → σ → Prop) (n : Nat) (f : Nat → σ → Sem (ForInStep σ)) (h : ∀ i st (Q : ForInStep σ → Shared → Prop), i < n → I i st → (∀ st', I (i + 1) st' → Q (.yield st') s) → wpAny Mo A (f i st) Q E s) {Q : σ → Shared → Prop} (st : σ) (h0 : I 0 st) (hQ : ∀ st', I n st' → Q st' s) :
    wpAny Mo A (forIn [:n] st f) Q E s := by
  rw [KPc.range_list]
  have key : ∀ (k i : Nat) (st : σ), i + k = n → I i st → wpAny Mo A (forIn (List.range' i k 1) st f) Q E s := by
    intro k
    induction k with
    | zero => intro i st hi hI; rw [List.range'_zero]; exact wpAny_pure (hQ st (by rw [← hi]; exact hI))
    | succ k ih =>
      intro i st hi hI
      rw [List.range'_succ, List.forIn_cons]
      exact wpAny_bind (h i st _ (by omega) hI fun st' hI' => ih (i + 1) st' (by omega) hI')
  exact key n 0 st (by omega) h0
end
noncomputable def bvals (L : List (Array UInt8 × Tok)) : List Value := L.map fun p => .bytes p.1 p.2
noncomputable def bcat (L : List (Array UInt8 × Tok)) : List UInt8 := L.flatMap fun p => p.1.toList
theorem joined_nil (L : List (Array UInt8)) : (Bytes.joined #[] L).toList = L.flatMap fun p => p.toList := by
  unfold Bytes.joined
  have key : ∀ (l : List (Array UInt8)) (k : Nat) (acc : Array UInt8), ((l.zipIdx k).foldl (fun out (x : Array UInt8 × Nat) => (if x.2 > 0 then out ++ #[] else out) ++ x.1) acc).toList = acc.toList ++ l.flatMap fun p => p.toList := by
    intro l
    induction l with
    | nil => intro k acc; simp
    | cons p l ih =>
      intro k acc
      rw [List.zipIdx_cons, List.foldl_cons, ih]
      split <;> simp
  have := key L 0 #[]
  simpa using this
theorem wpAny_point' {M : Model} {A : Around} {E : Value → Shared → Prop} {s : Shared} {Q : Unit → Shared → Prop} (h : Q () s) : wpAny M A point Q E s := fun Γ p hΓ => by
  rw [Sem.wp_cmd_point]; exact h
theorem joinLetGo_quiet {M : Model} {A : Around} {E : Value → Shared → Prop} {s : Shared} {Q : Unit → Shared → Prop} : ∀ (taken : List (Value × Option Value)) (keep : List Value), (∀ x ∈ taken, x.2 = none) → Q () s → wpAny M A (Bytes.joinLetGo taken keep) Q E s
  | [], keep, _, h => wpAny_pure h
  | (x, w) :: rest, keep, ht, h => by
    have : w = none := ht _ (.head _)
    subst this
    unfold Bytes.joinLetGo
    dsimp only
    exact wpAny_bind (wpAny_letGo (joinLetGo_quiet rest keep (fun y hy => ht y (.tail _ hy)) h))
theorem meets_join (tj : Tok) (pl : Addr) (L : List (Array UInt8 × Tok)) (n : Nat) (hsz : (bcat L).length ≤ 1000000) (hne : L ≠ []) :
    Meets («bytes.join» ⟨[.bytes #[] tj, .ref pl], []⟩) (fun _ R s => s.heap.get? pl = some (lstO (bvals L).toArray n) ∧ ∀ b t' k, b.toList = bcat L → s.toks ≤ k → R (.ok (.ret (.bytes b t'))) { s with toks := k }) :=
  .of_wp fun prog w A R s ⟨hl, h⟩ => by
    refine wpAny_bind (wpAny_pure ?_)
    refine wpAny_bind ?_
    refine wpAny_bind (wpAny_typeOf (T := "list") ⟨_, hl, rfl⟩ ?_)
    refine wpAny_pure ?_
    have hseq : ∀ {Q : Option (Array Value) → Shared → Prop} {E : Value → Shared → Prop}, Q (some (bvals L).toArray) s → wpAny (model prog w) A.in1 (seqItems? (.ref pl)) Q E s := fun {Q E} hq => by
      unfold seqItems?
      exact wpAny_bind (wpAny_load hl (wpAny_pure hq))
    have hsz0 : (bvals L).toArray.size = L.length := by simp [bvals]
    refine wpAny_bind (hseq ?_)
    have hget : ∀ i (hi : i < L.length), (bvals L).toArray.getD i .none = .bytes (L[i].1) (L[i].2) := fun i hi => by
      simp [Array.getD, bvals, hi]
    have one : ∀ p, L = [p] → R (.ok (.ret (.bytes p.1 p.2))) s := fun p hp => h p.1 p.2 s.toks (by simp [bcat, hp]) (Nat.le_refl _)
    rcases L with _ | ⟨p, _ | ⟨q, r⟩⟩
    case cons.nil =>
      refine wpAny_bind (m := typeOf (Value.bytes p.1 p.2)) (wpAny_typeOf (T := "bytes") rfl ?_)
      exact wpAny_bind (wpAny_rule (wpAny_pure ⟨_, rfl, one p rfl⟩))
    case nil => exact absurd rfl hne
    refine wpAny_bind (for_range (fun i (st : Array (Array UInt8) × List (Value × Option Value)) => st.1.toList = ((p :: q :: r).take i).map Prod.fst ∧ st.2 = ((p :: q :: r).take i).map fun p => (Value.bytes p.1 p.2, none)) _ _ (fun i st Q hi hI hq => ?_) (#[], []) ⟨by simp, by simp⟩ fun st hI => ?_)
    · obtain ⟨parts, taken⟩ := st
      obtain ⟨h1, h2⟩ := hI
      dsimp only at h1 h2
      rw [hsz0] at hi
      have hany : (taken.any fun x => x.1.onHeap) = false := by
        rw [h2, List.any_map]
        exact List.any_eq_false.mpr fun p _ => by simp [Value.onHeap]
      refine wpAny_bind (hseq ?_)
      rw [hany]
      refine wpAny_bind (wpAny_holding ?_)
      rw [hget i hi, take_buffer]
      refine wpAny_pure ?_
      refine wpAny_bind (hseq ?_)
      first | refine wIfN (by simp) ?_ | refine wIfNB (by simp) ?_ | rw [if_neg (by simp)]
      refine wpAny_pure (hq _ ⟨?_, ?_⟩)
      · rw [Array.toList_push, h1, List.take_add_one, List.map_append]; congr 1; rw [List.getElem?_eq_getElem hi]; rfl
      · rw [h2, List.take_add_one, List.map_append]; congr 1; rw [List.getElem?_eq_getElem hi]; rfl
    · obtain ⟨parts, taken⟩ := st
      obtain ⟨h1, h2⟩ := hI
      rw [hsz0, List.take_length] at h1 h2
      have eL : bcat (p :: q :: r) = parts.toList.flatMap fun b => b.toList := by rw [h1]; simp [bcat, List.flatMap_map]
      refine wpAny_bind (wpAny_pure (a := (#[] : Array UInt8)) ?_)
      have hbig : (parts.foldl (· + ·.size) ((#[] : Array UInt8).size * (parts.size - 1))) = (bcat (p :: q :: r)).length := by
        rw [eL, ← Array.foldl_toList]
        have key : ∀ (l : List (Array UInt8)) (k : Nat), l.foldl (· + ·.size) k = k + (l.flatMap fun b => b.toList).length := by
          intro l
          induction l with
          | nil => intro k; simp
          | cons x l ih => intro k; rw [List.foldl_cons, ih]; simp; omega
        rw [key]; simp
      first | refine wIfN (by rw [hbig]; unfold Bytes.tooLong; rw [sizeLine_eq]; intro e; have := of_decide_eq_true e; omega) ?_ | refine wIfNB (by rw [hbig]; unfold Bytes.tooLong; rw [sizeLine_eq]; intro e; have := of_decide_eq_true e; omega) ?_ | rw [if_neg (by rw [hbig]; unfold Bytes.tooLong; rw [sizeLine_eq]; intro e; have := of_decide_eq_true e; omega)]
      refine wpAny_bind ?_
      refine wpAny_mkBytes ?_ ?_
      · refine wpAny_bind (wpAny_holding (wpAny_point' ?_))
        refine wpAny_bind (joinLetGo_quiet _ _ (by rw [h2]; intro x hx; obtain ⟨y, _, rfl⟩ := List.mem_map.mp hx; rfl) ?_)
        exact wpAny_pure ⟨_, rfl, h _ _ _ (by rw [joined_nil, eL]) (Nat.le_succ _)⟩
      · show (Bytes.joined #[] parts.toList).size ≤ _
        rw [← Array.length_toList, joined_nil, ← eL, sizeLine_eq]; omega
end
end
section
open PySem PySem.W PySem.Calls PyProof.Rows PySem.Spec
set_option Elab.async false
set_option maxRecDepth 100000
set_option linter.unusedVariables false
set_option linter.unusedSimpArgs false
section
open PySem.Builtin PySem.Builtin.Re
inductive WQ : List UInt8 → List UInt8 → Prop
  | plain {l} : (∀ x ∈ l, x ≠ 34) → WQ l l
  | quo {pre mid l r} : (∀ x ∈ pre, x ≠ 34) → (∀ x ∈ mid, x ≠ 34 ∧ x ≠ 92) → WQ l r → WQ (pre ++ 34 :: (mid ++ 34 :: l)) (pre ++ r)
noncomputable def toN (b : Array UInt8) : Array Nat := b.map (·.toNat)
theorem toN_size (b : Array UInt8) : (toN b).size = b.size := by simp [toN]
theorem toN_at {b : Array UInt8} {d : Nat} {rem : List UInt8} (h : b.toList.drop d = rem) (i : Nat) (x : UInt8) (hx : rem[i]? = some x) : (toN b).getD (d + i) 0 = x.toNat := by
  have : b.toList[d + i]? = some x := by rw [← h, List.getElem?_drop] at hx; exact hx
  rw [Array.getElem?_toList] at this
  obtain ⟨hi, e⟩ := Array.getElem?_eq_some_iff.mp this
  have hs : d + i < (toN b).size := by rw [toN_size]; exact hi
  rw [Array.getD_eq_getD_getElem?, Array.getElem?_eq_getElem hs]
  show (toN b)[d + i] = _
  simp [toN, e]
theorem u8_ne {x : UInt8} {n : Nat} (hn : n < 256) (h : x ≠ n.toUInt8) : x.toNat ≠ n := fun e => h (by
  apply UInt8.toNat_inj.mp
  rw [e]; simp; omega)
theorem slice_back (b : Array UInt8) (i j : Nat) : (((toN b).extract i j).map (·.toUInt8)) = b.extract i j := by
  apply Array.ext'
  simp [toN, Array.toList_extract, List.map_drop, List.map_take, Function.comp_def]
section
variable {prog : Program} {w : World} {A : Around} {E : Value → Shared → Prop} {s : Shared} {b : Array UInt8} {t : Tok}
theorem slice_wp {i j : Nat} {Q : Value → Shared → Prop} (hsz : b.size ≤ 1000000) (h : Q (.bytes (b.extract i j) s.toks) { s with toks := s.toks + 1 }) : wpAny (model prog w) A (reSlice (toN b) 1 i j) Q E s := by
  unfold reSlice
  rw [if_neg (by decide), slice_back]
  refine wpAny_mkBytes h ?_
  simp; rw [sizeLine_eq]; omega
theorem push_wp {pl : Addr} {L : List (Array UInt8 × Tok)} {m : Nat} {x : Array UInt8} {tx : Tok} {Q : Unit → Shared → Prop} (hl : s.heap.get? pl = some (lstO (bvals L).toArray m)) (hL : L.length ≤ 1000000)
    (h : ∀ h' m', h'.get? pl = some (lstO (bvals (L ++ [(x, tx)])).toArray m') → Heap.SameBut pl s.heap h' → Q () { s with heap := h' }) : wpAny (model prog w) A (updateSeq pl (·.push (.bytes x tx))) Q E s := by
  have e1 : (bvals L).toArray.size = L.length := by simp [bvals]
  refine wpAny_updateSeq hl rfl (h _ (m + 1) ?_ (Heap.SameBut.update ..)) (by rw [e1, sizeLine_eq]; omega) (by show ((bvals L).toArray.push _).size ≤ _; rw [Array.size_push, e1, sizeLine_eq]; omega)
  rw [Heap.get?_update_self _ hl rfl]
  simp [Obj.mapSeq, bvals]
theorem not_turned {tr : Tok} {x : Array UInt8} {Q : Unit → Shared → Prop} (h : Q () s) : wpAny (model prog w) A (reLiteralCannotBeTurned (.bytes x tr)) Q E s := by
  unfold reLiteralCannotBeTurned
  rw [asStr_bytes]
  refine wpAny_bind (wpAny_pure ?_)
  refine wpAny_bind (wpAny_pure ?_)
  exact wpAny_pure h
end
theorem reRun_found {Mo : Model} {A : Around} {E : Value → Shared → Prop} {s : Shared} {Q : Option Sre.M → Shared → Prop} {m : Sre.M} (N : Nat) (mm : Sre.M) (hle : N ≤ 2 ^ 66) (hr : stp N m = mm) (h : mm.outcome = some .matched) (hq : Q (some mm) s) : wpAny Mo A (reRunToEnd m) Q E s := by
  subst hr
  exact wpAny_reRun N m hle (.inl ⟨h, hq⟩)
theorem sub_loop {prog : Program} {w : World} {A : Around} {R : Result → Shared → Prop} {b : Array UInt8} {t tr : Tok} {pl : Addr} (hsz : b.size ≤ 100000) (h2 : pl ≠ 182) (h3 : pl ≠ 183) : ∀ {rem res : List UInt8}, WQ rem res →
    ∀ (done n m : Nat) (L : List (Array UInt8 × Tok)) (s : Shared), b.toList.drop done = rem → done ≤ b.size → (bcat L).length ≤ done → L.length ≤ 2 * done → PatIn s.heap → s.heap.get? pl = some (lstO (bvals L).toArray m) →
    (∀ bb t' tk' h', bb.toList = bcat L ++ res → Heap.SameBut pl s.heap h' → s.toks ≤ tk' → R (.ok (.ret (.bytes bb t'))) { s with heap := h', toks := tk' }) →
    wpAny (model prog w) A.in1 («re.Pattern.sub.loop» ⟨[.ref 183, .bytes b t, .bytes #[] tr, rawInt 0, rawInt 0, rawInt n, rawInt done, rawInt done, .bool false, .ref pl, .bool false], []⟩)
      (fun fin s' => match fin with | .done f => R (.ok f) s' | .again c' => c'.quiet = true ∧ codeAny (model prog w) A c' R s') (fun e s' => R (.error e) s') s := by
  intro rem res hw
  induction hw with
  | @plain l hl =>
    intro done n m L s hrem hdone hbc hLn hp hpl hR
    have hlen : l.length = b.size - done := by rw [← hrem, List.length_drop, Array.length_toList]
    refine wpAny_bind (whole hp ?_)
    refine wpAny_bind (not_turned ?_)
    refine wpAny_bind ?_
    obtain ⟨N, hN, hf⟩ := search_none (toN b) done (by rw [toN_size]; exact hdone) (fun i h1 h2' => by
      rw [toN_size] at h2'
      have hi : i - done < l.length := by omega
      have e := toN_at hrem (i - done) (l[i - done]) (List.getElem?_eq_getElem hi)
      have : done + (i - done) = i := by omega
      rw [this] at e
      rw [e]
      exact u8_ne (by decide) (hl _ (List.getElem_mem hi)))
    refine wpAny_reRun N _ (by rw [toN_size] at hN; omega) (.inr ⟨hf, ?_⟩)
    dsimp only
    have eb : b.extract 0 0 = #[] := by apply Array.ext'; simp
    have joinUp : ∀ (L' : List (Array UInt8 × Tok)) (m' : Nat) (s' : Shared) (tj : Tok) (R' : Value → Shared → Prop), s'.heap.get? pl = some (lstO (bvals L').toArray m') → (bcat L').length ≤ 1000000 → L' ≠ [] →
        (∀ bb t' k, bb.toList = bcat L' → s'.toks ≤ k → R' (.bytes bb t') { s' with toks := k }) → wpAny (model prog w) A.in1 (call (.builtin "bytes.join") [.bytes #[] tj, .ref pl]) R' (fun e s' => R (.error e) s') s' := fun L' m' s' tj R' g1 g2 g3 g4 =>
      call_meets slot_bytes_join (typeIs_bytes _ _ _) entry_bytes_join (args_bytes_join_2 _ _) (meets_join tj pl L' m' g2 g3) ⟨g1, fun bb t' k e hk => g4 bb t' k e hk⟩
    by_cases hd : done < b.size
    · first | refine wIfP (by show (done : Int).toNat < (toN b).size; rw [toN_size]; simpa using hd) ?_ | refine wIfPB (by show (done : Int).toNat < (toN b).size; rw [toN_size]; simpa using hd) ?_ | rw [if_pos (by show (done : Int).toNat < (toN b).size; rw [toN_size]; simpa using hd)]
      refine wpAny_bind (slice_wp (by omega) ?_)
      refine wpAny_bind (push_wp (s := { s with toks := s.toks + 1 }) hpl (by omega) fun h' m' hl' hs' => ?_)
      refine wpAny_bind (slice_wp (by omega) ?_)
      refine wpAny_bind ?_
      refine wpAny_bind (wpAny_load hl' (wpAny_pure ?_))
      first | refine wIfN (by simp [bvals]) ?_ | refine wIfNB (by simp [bvals]) ?_ | rw [if_neg (by simp [bvals])]
      rw [eb]
      have ec : bcat (L ++ [(b.extract (done : Int).toNat (Array.map (fun x => x.toNat) b).size, s.toks)]) = bcat L ++ l := by
        simp only [bcat, List.flatMap_append, List.flatMap_cons, List.flatMap_nil, List.append_nil]
        congr 1
        rw [Array.toList_extract, Array.size_map, ← hrem]
        show (List.drop done b.toList).take (b.size - done) = _
        rw [List.take_of_length_le (by simp)]
      refine wpAny_bind (joinUp _ m' _ _ _ hl' (by rw [ec, List.length_append]; omega) (by simp) fun bb t' k e hk => ?_)
      exact wpAny_pure (hR bb t' k h' (by rw [e, ec]) hs' (by
        have : s.toks + 1 + 1 ≤ k := hk
        omega))
    · first | refine wIfN (by show ¬ (done : Int).toNat < (Array.map (fun x => x.toNat) b).size; rw [Array.size_map]; simpa using hd) ?_ | refine wIfNB (by show ¬ (done : Int).toNat < (Array.map (fun x => x.toNat) b).size; rw [Array.size_map]; simpa using hd) ?_ | rw [if_neg (by show ¬ (done : Int).toNat < (Array.map (fun x => x.toNat) b).size; rw [Array.size_map]; simpa using hd)]
      have hl0 : l = [] := by rw [← List.length_eq_zero_iff]; omega
      refine wpAny_bind (slice_wp (by omega) ?_)
      refine wpAny_bind ?_
      refine wpAny_bind (wpAny_load hpl (wpAny_pure ?_))
      rw [eb]
      by_cases hL : L = []
      · first | refine wIfP (by subst hL; rfl) ?_ | refine wIfPB (by subst hL; rfl) ?_ | rw [if_pos (by subst hL; rfl)]
        refine wpAny_bind (wpAny_pure ?_)
        exact wpAny_pure (hR #[] _ (s.toks + 1) s.heap (by rw [hl0, hL]; rfl) (Heap.SameBut.refl _ _) (Nat.le_succ _))
      · rw [if_neg (by
          intro e
          apply hL
          have : bvals L = [] := by simpa using e
          simpa [bvals] using this)]
        refine wpAny_bind (joinUp L m { s with toks := s.toks + 1 } _ _ hpl (by omega) hL fun bb t' k e hk => ?_)
        exact wpAny_pure (hR bb t' k s.heap (by rw [e, hl0, List.append_nil]) (Heap.SameBut.refl _ _) (by
          have : s.toks + 1 ≤ k := hk
          omega))
  | @quo pre mid l r hp1 hm1 hw ih =>
    intro done n m L s hrem hdone hbc hLn hp hpl hR
    have hlen : pre.length + 1 + mid.length + 1 + l.length = b.size - done := by
      have := congrArg List.length hrem
      simp at this; omega
    have at1 : ∀ i (hi : i < pre.length), (toN b).getD (done + i) 0 = pre[i].toNat := fun i hi => toN_at hrem i _ (by rw [List.getElem?_append_left hi]; exact List.getElem?_eq_getElem hi)
    have at2 : (toN b).getD (done + pre.length) 0 = 34 := toN_at hrem pre.length 34 (by simp)
    have at3 : ∀ i (hi : i < mid.length), (toN b).getD (done + (pre.length + 1 + i)) 0 = mid[i].toNat := fun i hi => toN_at hrem (pre.length + 1 + i) _ (by
      rw [List.getElem?_append_right (by omega)]
      have : pre.length + 1 + i - pre.length = i + 1 := by omega
      rw [this, List.getElem?_cons_succ, List.getElem?_append_left hi]
      exact List.getElem?_eq_getElem hi)
    have at4 : (toN b).getD (done + (pre.length + 1 + mid.length)) 0 = 34 := toN_at hrem (pre.length + 1 + mid.length) 34 (by
      rw [List.getElem?_append_right (by omega)]
      have : pre.length + 1 + mid.length - pre.length = mid.length + 1 := by omega
      rw [this, List.getElem?_cons_succ, List.getElem?_append_right (by omega)]
      simp)
    obtain ⟨N, mm, hN, hrun, q1, q2, q3⟩ := search_found (toN b) done pre.length mid.length (by rw [toN_size]; omega)
      (fun i h1 h2' => by
        have e := at1 (i - done) (by omega)
        have : done + (i - done) = i := by omega
        rw [this] at e; rw [e]
        exact u8_ne (by decide) (hp1 _ (List.getElem_mem _)))
      at2
      (fun i h1 h2' => by
        have e := at3 (i - (done + pre.length + 1)) (by omega)
        have : done + (pre.length + 1 + (i - (done + pre.length + 1))) = i := by omega
        rw [this] at e; rw [e]
        exact ⟨u8_ne (by decide) (hm1 _ (List.getElem_mem _)).1, u8_ne (by decide) (hm1 _ (List.getElem_mem _)).2⟩)
      (by rw [← at4]; congr 1; omega)
    refine wpAny_bind (whole hp ?_)
    refine wpAny_bind (not_turned ?_)
    refine wpAny_bind ?_
    refine reRun_found N mm (by rw [toN_size] at hN; omega) hrun q1 ?_
    have keepP : ∀ h' : Heap, Heap.SameBut pl s.heap h' → PatIn h' := fun h' hs' => by
      obtain ⟨pb, tb, tf, fl, g1, g2⟩ := hp
      exact ⟨pb, tb, tf, fl, hs'.extBut _ _ (Ne.symm h3) g1, hs'.extBut _ _ (Ne.symm h2) g2⟩
    have hdrop : b.toList.drop (done + pre.length + 1 + mid.length + 1) = l := by
      have : done + pre.length + 1 + mid.length + 1 = done + (pre.length + 1 + mid.length + 1) := by omega
      rw [this, ← List.drop_drop, hrem]
      have e2 : pre.length + 1 + mid.length + 1 = pre.length + (mid.length + 1 + 1) := by omega
      rw [e2, List.drop_append]
      simp
    have again_ : ∀ (L2 : List (Array UInt8 × Tok)) (m2 : Nat) (s2 : Shared), bcat L2 = bcat L ++ pre → L2.length ≤ L.length + 2 → Heap.SameBut pl s.heap s2.heap → (∃ h2, s2 = { s with heap := h2, toks := s2.toks }) → s.toks ≤ s2.toks → s2.heap.get? pl = some (lstO (bvals L2).toArray m2) →
        wpAny (model prog w) A.in1 (again (.builtin "re.Pattern.sub.loop" ⟨[.ref 183, .bytes b t, .bytes #[] tr, rawInt 0, rawInt 0, rawInt ((n : Int) + 1), rawInt mm.handed, rawInt mm.handed, .bool (mm.handed == mm.start), .ref pl, .bool false], []⟩))
          (fun fin s' => match fin with | .done f => R (.ok f) s' | .again c' => c'.quiet = true ∧ codeAny (model prog w) A c' R s') (fun e s' => R (.error e) s') s2 := fun L2 m2 s2 g1 g2 g3 g4 g5 g6 => by
      refine wpAny_pure ⟨plainId_quiet plain_pattern_loop _, codeAny_builtin entry_pattern_loop ?_⟩
      rw [Around.under_plainId plain_pattern_loop _]
      have hb : (mm.handed == mm.start) = false := by rw [q2, q3]; exact beq_eq_false_iff_ne.mpr (by omega)
      have hn : (n : Int) + 1 = ((n + 1 : Nat) : Int) := by push_cast; rfl
      rw [hb, hn, q3]
      obtain ⟨hh, eh⟩ := g4
      refine ih (done + pre.length + 1 + mid.length + 1) (n + 1) m2 L2 s2 hdrop (by omega) (by rw [g1, List.length_append]; omega) (by omega) (keepP _ g3) g6 fun bb t' tk' h' e hs' htk => ?_
      have := hR bb t' tk' h' (by rw [e, g1, List.append_assoc]) (g3.trans hs') (by omega)
      rw [eh]; exact this
    by_cases hk : pre.length = 0
    · first | refine wIfN (by rw [q2, hk]; simp) ?_ | refine wIfNB (by rw [q2, hk]; simp) ?_ | rw [if_neg (by rw [q2, hk]; simp)]
      refine wpAny_bind (wpAny_pure ?_)
      refine wpAny_bind (push_wp hpl (by omega) fun h' m' hl' hs' => ?_)
      have hp0 : pre = [] := List.length_eq_zero_iff.mp hk
      exact again_ _ m' { s with heap := h' } (by simp [bcat, hp0]) (by simp) hs' ⟨h', rfl⟩ (Nat.le_refl _) hl'
    · first | refine wIfP (by rw [q2]; simp; omega) ?_ | refine wIfPB (by rw [q2]; simp; omega) ?_ | rw [if_pos (by rw [q2]; simp; omega)]
      refine wpAny_bind (slice_wp (by omega) ?_)
      refine wpAny_bind (push_wp (s := { s with toks := s.toks + 1 }) hpl (by omega) fun h' m' hl' hs' => ?_)
      refine wpAny_bind (wpAny_pure ?_)
      refine wpAny_bind (push_wp (s := { s with toks := s.toks + 1, heap := h' }) hl' (by simp; omega) fun h'' m'' hl'' hs'' => ?_)
      refine again_ _ m'' { s with heap := h'', toks := s.toks + 1 } ?_ (by simp) (hs'.trans hs'') ⟨h'', rfl⟩ (Nat.le_succ _) hl''
      simp only [bcat, List.flatMap_append, List.flatMap_cons, List.flatMap_nil, List.append_nil]
      congr 1
      rw [Array.toList_extract, q2]
      show (List.drop done b.toList).take (done + pre.length - done) = pre
      have : done + pre.length - done = pre.length := by omega
      rw [this, hrem]
      simp
end
end
section
open PySem PySem.W PySem.Calls PyProof.Rows PySem.Spec
set_option Elab.async false
set_option maxRecDepth 100000
set_option linter.unusedVariables false
set_option linter.unusedSimpArgs false
section
open PySem.Builtin PySem.Builtin.Re
theorem args_pattern_sub (a b c : Value) : argsOk "re.Pattern.sub" ⟨[a, b, c], []⟩ := by
  unfold argsOk; kernel_rfl
theorem no_call_bytes : typeLookup (.type "bytes") "__call__" = Pure.pure none := by rw [typeLookup_type, builtinLookup_eq_fast]; kernel_rfl
theorem named_sub (r s : Value) : reNamed "re.Pattern.sub" "sub" ["repl", "string", "count"] 2 [r, s] [] = Pure.pure [some r, some s, none] := by kernel_rfl
theorem meets_sub (b : Array UInt8) (t tr : Tok) (res : List UInt8) (hw : WQ b.toList res) (hsz : b.size ≤ 100000) :
    Meets («re.Pattern.sub» ⟨[.ref 183, .bytes #[] tr, .bytes b t], []⟩) (fun _ R s => PatIn s.heap ∧ ∀ bb t' tk' h', bb.toList = res → (∀ a o, s.heap.get? a = some o → h'.get? a = some o) → s.toks ≤ tk' → R (.ok (.ret (.bytes bb t'))) { s with heap := h', toks := tk' }) := by
  intro prog w A R s ⟨hp, hR⟩
  unfold «re.Pattern.sub» reSubstitute
  dsimp only
  rw [named_sub]
  refine wpAny_bind (wpAny_pure ?_)
  refine wpAny_bind (wpAny_pure ?_)
  rw [KBy.special_eq no_call_bytes]
  refine wpAny_bind (wpAny_pure ?_)
  refine wpAny_bind ?_
  rw [asStr_bytes]
  refine wpAny_pure ?_
  refine wpAny_bind ?_
  rw [KBy.quiet_eq]
  refine wpAny_pure ?_
  refine wpAny_bind (wpAny_pure ?_)
  first | refine wIfN (by decide) ?_ | refine wIfNB (by decide) ?_ | rw [if_neg (by decide)]
  first | refine wIfP (by simp) ?_ | refine wIfPB (by simp) ?_ | rw [if_pos (by simp)]
  refine wpAny_bind (wpAny_pure ?_)
  dsimp only
  refine wpAny_bind (wpAny_holding (whole hp ?_))
  refine wpAny_bind ?_
  refine wpAny_newObj_type ?_ (by size_fits)
  obtain ⟨pb, tb, tf, fl, g1, g2⟩ := id hp
  have n1 : s.heap.objs.size ≠ 182 := Nat.ne_of_gt (Heap.lt_size g2)
  have n2 : s.heap.objs.size ≠ 183 := Nat.ne_of_gt (Heap.lt_size g1)
  refine wpAny_pure ⟨plainId_quiet plain_pattern_loop _, codeAny_builtin entry_pattern_loop ?_⟩
  rw [Around.under_plainId plain_pattern_loop _]
  refine sub_loop (s := { s with heap := s.heap.push (lstO #[] 0) }) hsz n1 n2 hw 0 0 0 [] rfl (Nat.zero_le _) (Nat.le_refl _) (Nat.zero_le _) ⟨pb, tb, tf, fl, Heap.get?_push_of_some _ g1, Heap.get?_push_of_some _ g2⟩ (Heap.get?_push_size _ rfl) fun bb t' tk' h' e hs' htk => ?_
  exact hR bb t' tk' h' e (fun a o ha => hs'.extBut a o (Nat.ne_of_lt (Heap.lt_size ha)) (Heap.get?_push_of_some _ ha)) htk
section
variable {c : Cx} {F : Frame} {W W₁ : Fz} {h : Heap}
theorem patIn {P : Params} (X : (Mine.hd.heap_1 P).In h) : PatIn h := ⟨_, _, _, _, X 183 _ rfl, (X 182 _ rfl).trans (by simp [o182, cd])⟩
theorem Mth.sub (w : World) : Mth (.val (.ref 183)) (Str.ofString "sub") w (.builtin "re.Pattern.sub") := fun c F W₁ v pl _ r => by
  cases r
  intro W h tk Q E hs I hQ
  obtain ⟨_, _, _, _, _, X, _⟩ := I.wd.at I.keep
  obtain ⟨pb, tb, tf, fl, g1, g2⟩ := patIn X
  exact getMethod_builtin (s := St c.s₀ h tk) ⟨_, g1, rfl⟩ plainAttrs_pattern slot_pattern_sub type_pattern_sub (fun a e => by cases e; exact ⟨_, g1, rfl⟩) (hQ _ W h tk F I (Sub.refl _) ⟨rfl, rfl⟩)
theorem Cal.sub {w n} (b : Array UInt8) (res : List UInt8) (hw : WQ b.toList res) (hsz : b.size ≤ 100000) : Cal w (.builtin "re.Pattern.sub") n [.val (.ref 183), .bytes #[], .bytes b] (.bytes res.toArray) := fun c F W₁ vs _ _ r => by
  (replace r := Reps.cons_inv r; obtain ⟨_, _, rfl, r1, r⟩ := r)
  (replace r := Reps.cons_inv r; obtain ⟨_, _, rfl, r2, r⟩ := r)
  (replace r := Reps.cons_inv r; obtain ⟨_, _, rfl, r3, r⟩ := r)
  cases r; cases r1
  (replace r2 := Rep.bytes_inv r2; obtain ⟨t2, rfl⟩ := r2)
  (replace r3 := Rep.bytes_inv r3; obtain ⟨t3, rfl⟩ := r3)
  refine Go.grown fun W h tk Q E hs I hQ => ?_
  obtain ⟨_, _, _, _, _, X, _⟩ := I.wd.at I.keep
  obtain ⟨pb, tb, tf, fl, g1, g2⟩ := id (patIn X)
  refine call_meets (s := St c.s₀ h tk) slot_pattern_sub ⟨_, g1, rfl⟩ entry_pattern_sub (args_pattern_sub _ _ _) (meets_sub b t3 t2 res hw hsz) ⟨patIn X, fun bb t' tk' h' e hk htk => ?_⟩
  obtain ⟨j, rfl⟩ : ∃ j, tk' = j + 1 := ⟨tk' - 1, by have : tk + 1 ≤ tk' := htk; omega⟩
  exact hQ _ h' j hk (by
    have : bb = res.toArray := Array.ext' (by simpa using e)
    rw [this]; exact .bytes _ _)
theorem Mth.bytes {x : Array UInt8} {name : Str} {id : String} {w : World} (slot : Slot "bytes" name id) (ty : typeOf (.builtin id) = Pure.pure (.type "method_descriptor")) : Mth (.bytes x) name w (.builtin id) := fun c F W₁ v pl _ r => by
  (replace r := Rep.bytes_inv r; obtain ⟨t, rfl⟩ := r)
  intro W h tk Q E hs I hQ
  exact getMethod_builtin (s := St c.s₀ h tk) (typeIs_bytes _ _ _) FB.plainAttrs_bytes slot ty (fun _ e => nomatch e) (hQ _ W h tk F I (Sub.refl _) ⟨rfl, rfl⟩)
theorem Cal.count {w n} (b : Array UInt8) (x : UInt8) : Cal w (.builtin "bytes.count") n [.bytes b, .bytes #[x]] (.int ((b.toList.count x : Nat) : Int)) := fun c F W₁ vs _ _ r => by
  (replace r := Reps.cons_inv r; obtain ⟨_, _, rfl, r1, r⟩ := r)
  (replace r := Reps.cons_inv r; obtain ⟨_, _, rfl, r2, r⟩ := r)
  cases r
  cases r1; cases r2
  exact Go.fresh_val fun W h tk Q E hs I hQ => call_gives (s := St c.s₀ h tk) slot_bytes_count (typeIs_bytes _ _ _) entry_bytes_count (args_bytes_count_2 _ _) (gives_count x) (hQ _ (tk + 1) (.int _ _))
end
end
end
section
open PySem PySem.W PySem.Calls PyProof.Rows PySem.Spec
set_option Elab.async false
set_option maxRecDepth 100000
set_option linter.unusedVariables false
set_option linter.unusedSimpArgs false
section
open PySem.Builtin PySem.Builtin.Str
noncomputable def ascii (x : Str) : Prop := ∀ c ∈ x.cps.toList, c < 128
noncomputable def enc (x : Str) : Array UInt8 := x.cps.map (·.toUInt8)
section
variable {prog : Program} {w : World} {A : Around} {E : Value → Shared → Prop} {s : Shared}
theorem forIn_done {M : Model} {A : Around} {E : Value → Shared → Prop} {s : Shared} {β : Type} {l : List Nat} {b : β} {f : Nat → β → Sem (ForInStep β)} {Q : β → Shared → Prop} (h0 : Q b s) (h1 : ∀ i, wpAny M A (f i b) (fun r s' => r = .done b ∧ s' = s) E s) : wpAny M A (forIn l b f) Q E s := by
  cases l with
  | nil => exact wpAny_pure h0
  | cons i l => exact KPc.turn (wpAny_mono (h1 i) (fun r s' e => by obtain ⟨rfl, rfl⟩ := e; exact h0) fun _ _ e => e)
theorem forIn_first {M : Model} {A : Around} {E : Value → Shared → Prop} {s : Shared} {β : Type} {n : Nat} {b : β} {f : Nat → β → Sem (ForInStep β)} {Q : β → Shared → Prop} (h0 : n = 0 → Q b s) (h1 : 0 < n → wpAny M A (f 0 b) (fun r s' => ∃ b' : β, r = .yield b' ∧ ∀ l : List Nat, wpAny M A (forIn l b' f) Q E s') E s) : wpAny M A (forIn (List.range' 0 n 1) b f) Q E s := by
  cases n with
  | zero => exact wpAny_pure (h0 rfl)
  | succ n =>
    rw [List.range'_succ]
    refine KPc.turn (wpAny_mono (h1 (Nat.succ_pos _)) (fun r s' e => ?_) fun _ _ e => e)
    obtain ⟨b', rfl, h⟩ := e
    exact h _
theorem enc_fold {x : Str} (ha : ascii x) : (x.cps.extract 0 x.cps.size).foldl (fun acc y => acc ++ (_codecs.utf8Codec.bytesOf y).toArray) #[] = enc x := by
  have hall : x.cps.extract 0 x.cps.size = x.cps := by simp
  rw [hall, ← Array.foldl_toList]
  have key : ∀ (l : List Nat) (acc : Array UInt8), (∀ c ∈ l, c < 128) → l.foldl (fun acc y => acc ++ (_codecs.utf8Codec.bytesOf y).toArray) acc = acc ++ (l.map (·.toUInt8)).toArray := by
    intro l
    induction l with
    | nil => intro acc _; simp
    | cons c l ih =>
      intro acc hc
      have h1 := hc c (.head _)
      rw [List.foldl_cons, ih _ (fun d hd => hc d (.tail _ hd))]
      have : _codecs.utf8Codec.bytesOf c = [c.toUInt8] := by
        show (if c < 0x80 then [c.toUInt8] else _) = _
        rw [if_pos h1]
      rw [this]
      apply Array.ext'
      simp
  rw [key _ _ ha]
  apply Array.ext'
  simp [enc]
theorem enc_good {x : Str} (ha : ascii x) : (x.cps.extract 0 x.cps.size).findIdx? _codecs.utf8Codec.bad = none := by
  have hall : x.cps.extract 0 x.cps.size = x.cps := by simp
  rw [hall, Array.findIdx?_eq_none_iff]
  intro c hc
  have := ha c (Array.mem_toList_iff.mpr hc)
  show (decide (0xD800 ≤ c) && decide (c ≤ 0xDFFF)) = false
  rw [decide_eq_false (by omega), Bool.false_and]
theorem wpAny_encode {id : String} {self : Value} {x : Str} {Q : Array UInt8 → Shared → Prop} (ha : ascii x) (hx : x.length ≤ 100000) (h : Q (enc x) s) : wpAny (model prog w) A (_codecs.encodeNarrow id _codecs.utf8Codec none self x) Q E s := by
  have hno := enc_good ha
  have hfold := enc_fold ha
  have hall : (x.cps.extract 0 x.cps.size).extract 0 (x.cps.extract 0 x.cps.size).size = x.cps.extract 0 x.cps.size := by simp
  unfold _codecs.encodeNarrow
  refine wpAny_bind ?_
  rw [KPc.range_list]
  refine forIn_first (fun hn => wpAny_pure ?_) fun hn => ?_
  · have : enc x = #[] := Array.eq_empty_of_size_eq_zero (by simp only [enc, Array.size_map]; exact hn)
    rw [this] at h
    exact h
  · have hn' : 0 < x.cps.size := hn
    have h0 : x.cps[0]? = some (x.cps[0]'hn') := Array.getElem?_eq_getElem _
    have hb0 : _codecs.utf8Codec.bad (x.cps[0]'hn') = false := by
      have := ha (x.cps[0]'hn') (Array.getElem_mem_toList hn')
      show (decide (0xD800 ≤ x.cps[0]'hn') && decide (x.cps[0]'hn' ≤ 0xDFFF)) = false
      rw [decide_eq_false (by omega), Bool.false_and]
    refine wIfN (by show ¬ (0 : Nat) > sizeLine; exact Nat.not_lt_zero _) ?_
    rw [h0]
    refine wIfP (by rw [hb0]; rfl) ?_
    have e1 : (Array.findIdx? _codecs.utf8Codec.bad (x.cps.extract 0 x.cps.size)).getD (x.cps.extract 0 x.cps.size).size = (x.cps.extract 0 x.cps.size).size := by rw [hno]; rfl
    have e2 : ((x.cps.extract 0 x.cps.size).extract 0 ((Array.findIdx? _codecs.utf8Codec.bad (x.cps.extract 0 x.cps.size)).getD (x.cps.extract 0 x.cps.size).size)).foldl (fun acc y => acc ++ (_codecs.utf8Codec.bytesOf y).toArray) #[] = enc x := by rw [e1, hall]; exact hfold
    refine wpAny_pure ⟨(0 + (x.cps.extract 0 x.cps.size).size, enc x, _), congrArg ForInStep.yield (Prod.ext (congrArg (0 + ·) e1) (Prod.ext e2 rfl)), fun l => forIn_done (wpAny_pure h) fun i => ?_⟩
    refine wIfN (show ¬ (enc x).size > sizeLine by
      have e3 : (enc x).size = x.length := by simp only [enc, Array.size_map]; rfl
      rw [e3, sizeLine_eq]; omega) ?_
    have hnone : x.cps[0 + (x.cps.extract 0 x.cps.size).size]? = none := by simp
    rw [hnone]
    exact wpAny_pure ⟨rfl, rfl⟩
theorem meets_encode (x : Str) (t : Tok) (ha : ascii x) (hx : x.length ≤ 100000) : Meets («str.encode» ⟨[.str x t], []⟩) (fun _ R s => R (.ok (.ret (.bytes (enc x) s.toks))) { s with toks := s.toks + 1 }) :=
  .of_wp fun prog w A R s h => by
    rw [encode_tree]
    rw [encodeRoad_utf8]
    refine wpAny_bind (wpAny_bind (wpAny_encode ha hx (wpAny_mkBytes (wpAny_pure ⟨_, rfl, h⟩) ?_)))
    have : (enc x).size = x.length := by simp [enc, Str.length]
    rw [this, sizeLine_eq]; omega
end
theorem Cal.encode {w n} (x : Str) (ha : ascii x) (hx : x.length ≤ 100000) : Cal w (.builtin "str.encode") n [.str x] (.bytes (enc x)) := fun c F W₁ vs _ _ r => by
  (replace r := Reps.cons_inv r; obtain ⟨_, _, rfl, r1, r⟩ := r)
  cases r
  cases r1
  exact Go.fresh_val fun W h tk Q E hs I hQ => call_meets (s := St c.s₀ h tk) PySem.F.slot_str_encode (typeIs_str _ _ _) PySem.F.entry_str_encode (PySem.F.args_str_encode_1 _) (meets_encode x _ ha hx) (hQ _ (tk + 1) (.bytes _ _))
end
end
section
open PySem PySem.W PySem.Calls PyProof.Rows PySem.Spec
set_option Elab.async false
set_option maxRecDepth 100000
set_option linter.unusedVariables false
set_option linter.unusedSimpArgs false
section
theorem Cal.fnD {w : World} {f : Addr} {fd : FuncData} {body : List Stmt} {names : List Str} {n : Nat} {ds dd : List Dt} {dv : List Value} {d : Dt} {oc : Value} {od : Option Addr} {osl : Array (Option Value)}
    (hK : (Mine.hd.heap_1 w.params).lookup f = some ⟨oc, od, .func fd, osl⟩) (hcode : codeIn (Mine.hd.heap_1 w.params) fd.code fd.qualname = true) (hbody : fd.body = .stmts body)
    (hbind : ∀ (s : Shared) (vs : List Value), (Mine.hd.heap_1 w.params).In s.heap → vs.length = ds.length → BindsTo s fd ⟨vs, []⟩ (names.zip (vs ++ dv))) (hdv : ∀ W, Reps W dv dd) (hcell : ∀ x ∈ fd.scope.names, x.2 ≠ .cell) (hloc : ∀ x ∈ names, fd.scope.names.lookup x = some .local)
    (hco : fd.scope.isCoroutine = false) (hgen : fd.scope.isGenerator = false) (hk : fd.scope.kind = .function) (hgl : fd.globals = mainGlobals) (hbi : fd.builtins = builtinsNs) (hlen : (ds ++ dd).length = names.length) {vars : List (Str × Dt)} (hvars : (names.zip (ds ++ dd)).reverse = vars)
    (h : ∀ c : Cx, c.w = w → c.k = n → c.env.scope = fd.scope → c.bor = [] → Tr c ⟨vars, []⟩ body (Rt d)) : Cal w (.ref f) (n + 1) ds d := fun c F W₁ vs hw hn hr W hp tk Q E hs I hQ => by
  subst hvars
  subst hw
  obtain ⟨p, l, me, mg, mb, X, T, h1, h2⟩ := I.wd.at I.keep
  have hlv : vs.length = ds.length := hr.length
  refine wpAny_call ?_
  refine codeAny_call_def (s := St c.s₀ hp tk) (fd := fd) (body := body) (binds := names.zip (vs ++ dv)) (by have := c.room.1; omega) (X _ _ hK) rfl T.nolimit (codeRec_of X hcode) hbody (hbind _ vs X hlv) hcell
    (fun x hx => hloc _ (List.of_mem_zip (show (x.1, x.2) ∈ names.zip (vs ++ dv) from hx)).1) (fun h0 hns hk0 => ?_) hco hgen hk
  let c' : Cx := { w := c.w, s₀ := St c.s₀ hp tk, W₀ := W, bor := [], hid := [], L := hp.objs.size, A := c.A.deeper (callEnv fd hp.objs.size f), env := callEnv fd hp.objs.size f, k := n,
                   hk := hk, hL := rfl, hg := hgl, hb := hbi, hh := c.hh,
                   room := by
                     have := c.room
                     refine ⟨?_, ?_⟩
                     · show c.A.depth + 1 + n < _; omega
                     · show c.A.units + 3 + 8 * n + 4 < _; omega }
  have I' : Inv c' ⟨(names.zip (ds ++ dd)).reverse, []⟩ W h0 := {
    wd := I.wd
    vars := ⟨_, hns, fun x d e => zip_look (Reps.append (hr.mono hs) (hdv _)) e⟩
    base := fun b o _ e => hk0 b o e
    sub := Sub.refl _
    keep := fun b o e => hk0 b o (I.keep b o e)
    new := fun b o e => .inl e
    hL := Nat.le_refl _
    wL := I.none_size
    own := fun p hp => nomatch hp
    ads := fun a ha => by simp [Frame.ads] at ha
    nd := by simp [Frame.ads]
    bor := fun a ha => nomatch ha
    hid := fun p hp => nomatch hp
    hnd := List.nodup_nil }
  have eT : (St c.s₀ hp tk).toks + (names.zip (vs ++ dv)).length = tk + (names.zip (vs ++ dv)).length + 1 := by show tk + 1 + _ = _; omega
  rw [eT]
  refine h c' rfl rfl rfl rfl W W h0 (tk + (names.zip (vs ++ dv)).length) _ _ (Sub.refl _) I' fun fl W' h' tk' F' I2 hs2 hp2 => ?_
  have I3 : Inv c F W' h' := I.grow hs2 (fun b o e => I2.base b o (fun q => nomatch q) e) I2.keep fun b o e => I2.new b o e
  obtain ⟨f', hf, hr'⟩ := hp2
  rcases hr' with rfl | ⟨rfl, rfl⟩
  · cases fl <;> first | exact hf.elim | skip
    exact hQ _ W' h' tk' F I3 hs2 ⟨rfl, hf⟩
  · cases fl <;> first | exact hf.elim | skip
    exact hQ _ W' h' tk' F I3 hs2 ⟨rfl, .none⟩
end
end
section
open PySem PySem.W PySem.Calls PyProof.Rows PySem.Spec
set_option Elab.async false
set_option maxRecDepth 100000
set_option linter.unusedVariables false
set_option linter.unusedSimpArgs false
section
noncomputable def net (r : List UInt8) : Int := ((r.count 40 : Nat) : Int) - ((r.count 41 : Nat) : Int)
theorem paren_cal (w : World) (b : Array UInt8) (d : Int) (res : List UInt8) (hq : WQ b.toList res) (hsz : b.size ≤ 100000) : Cal w (.ref 191) 1 [.bytes b, .int d] (.int (d + net res)) := by
  refine Cal.fnD (n := 0) (names := [Str.ofString "data", Str.ofString "depth"]) (dv := []) (dd := []) (hK := rfl) (hcode := rfl) (hbody := rfl) (hbind := ?_) (hdv := fun _ => .nil) (hcell := by decide) (hloc := by decide) (hco := rfl) (hgen := rfl) (hk := rfl) (hgl := rfl) (hbi := rfl) (hlen := rfl) (hvars := rfl) ?_
  · intro s vs X
    revert vs
    refine vs2 fun a b => ?_
    exact BindsTo.of_defaults rfl (X 184 _ rfl) rfl rfl rfl
  · intro c hw hk hs _
    subst hw
    dsimp only at hs
    refine' Tr.cons (Ex.assign (d := .bytes res.toArray) hs rfl ?zpa1 ?zpa2)
    case zpa1 =>
      refine' Ev.meth ?zpb1 (Mth.sub _) (Kept.builtin _ _) ?zpb2 (Cal.sub (n := 0) b res hq hsz) ?zpb3
      case zpb1 => walk_at "ev"
      case zpb2 => walk_at "evs"
      case zpb3 => walk_at "room"
    case zpa2 =>
      show Tr _ _ _ _
      refine' Tr.cons (Ex.ret (d := .int (d + ((res.toArray.toList.count 40 : Nat) : Int) - ((res.toArray.toList.count 41 : Nat) : Int))) ?zpc1 ?zpc2)
      case zpc1 =>
        refine' Ev.binop (Ev.binop ?zpd1 (Ev.meth ?zpd2 (Mth.bytes slot_bytes_count type_bytes_count) (Kept.builtin _ _) ?zpd3 (Cal.count (n := 0) res.toArray 40) ?zpd4) (Bop.add_int _ _)) (Ev.meth ?zpd5 (Mth.bytes slot_bytes_count type_bytes_count) (Kept.builtin _ _) ?zpd6 (Cal.count (n := 0) res.toArray 41) ?zpd7) (Bop.sub_int _ _)
        case zpd1 => walk_at "ev"
        case zpd2 => walk_at "ev"
        case zpd3 => walk_at "evs"
        case zpd4 => walk_at "room"
        case zpd5 => walk_at "ev"
        case zpd6 => walk_at "evs"
        case zpd7 => walk_at "room"
      case zpc2 =>
        refine .inl (congrArg Fl.ret (congrArg Dt.int ?_))
        unfold net
        simp only []
        omega
theorem paren_one (w : World) (b : Array UInt8) (res : List UInt8) (hq : WQ b.toList res) (hsz : b.size ≤ 100000) : Cal w (.ref 191) 1 [.bytes b] (.int (0 + net res)) := by
  refine Cal.fnD (n := 0) (names := [Str.ofString "data", Str.ofString "depth"]) (dv := [.int 0 525]) (dd := [.int 0]) (hK := rfl) (hcode := rfl) (hbody := rfl) (hbind := ?_) (hdv := fun _ => .cons (.int _ _) .nil) (hcell := by decide) (hloc := by decide) (hco := rfl) (hgen := rfl) (hk := rfl) (hgl := rfl) (hbi := rfl) (hlen := rfl) (hvars := rfl) ?_
  · intro s vs X
    revert vs
    refine vs1 fun a => ?_
    exact BindsTo.of_defaults rfl (X 184 _ rfl) rfl rfl rfl
  · intro c hw hk hs _
    subst hw
    dsimp only at hs
    refine' Tr.cons (Ex.assign (d := .bytes res.toArray) hs rfl ?zpa1 ?zpa2)
    case zpa1 =>
      refine' Ev.meth ?zpb1 (Mth.sub _) (Kept.builtin _ _) ?zpb2 (Cal.sub (n := 0) b res hq hsz) ?zpb3
      case zpb1 => walk_at "ev"
      case zpb2 => walk_at "evs"
      case zpb3 => walk_at "room"
    case zpa2 =>
      show Tr _ _ _ _
      refine' Tr.cons (Ex.ret (d := .int (0 + ((res.toArray.toList.count 40 : Nat) : Int) - ((res.toArray.toList.count 41 : Nat) : Int))) ?zpc1 ?zpc2)
      case zpc1 =>
        refine' Ev.binop (Ev.binop ?zpd1 (Ev.meth ?zpd2 (Mth.bytes slot_bytes_count type_bytes_count) (Kept.builtin _ _) ?zpd3 (Cal.count (n := 0) res.toArray 40) ?zpd4) (Bop.add_int _ _)) (Ev.meth ?zpd5 (Mth.bytes slot_bytes_count type_bytes_count) (Kept.builtin _ _) ?zpd6 (Cal.count (n := 0) res.toArray 41) ?zpd7) (Bop.sub_int _ _)
        case zpd1 => walk_at "ev"
        case zpd2 => walk_at "ev"
        case zpd3 => walk_at "evs"
        case zpd4 => walk_at "room"
        case zpd5 => walk_at "ev"
        case zpd6 => walk_at "evs"
        case zpd7 => walk_at "room"
      case zpc2 =>
        refine .inl (congrArg Fl.ret (congrArg Dt.int ?_))
        unfold net
        simp only []
        omega
theorem Gi.lstNeg {ds : List Dt} {k : Int} {d : Dt} (h0 : k < 0) (h1 : -(ds.length : Int) ≤ k) (hlo : -(2 ^ 63) ≤ k) (hd : ds[(k + ds.length).toNat]? = some d) : Gi (.lst ds) (.int k) d := fun c F W₁ a b ha hb => by
  obtain ⟨a, vs, n, rfl, e, r⟩ := Rep.lst_inv ha
  (replace hb := Rep.int_inv hb; obtain ⟨t, rfl⟩ := hb)
  refine Go.fresh_val fun W h tk Q E hs I hQ => ?_
  obtain ⟨v, hv, rv⟩ := Reps.at (r.mono hs) hd
  have hl : vs.size = ds.length := by rw [← r.length, Array.length_toList]
  exact wpAny_getItem_list_neg (s := St c.s₀ h tk) (items := vs) ⟨_, I.keep _ _ (hs _ _ e), rfl, n, rfl⟩ h0 (by rw [hl]; exact h1) hlo (by rw [hl, ← Array.getElem?_toList]; exact hv) (hQ _ _ rv)
theorem ld_snoc (l : List Nat) (d : Nat) : ld l ++ blanks d ++ Str.ofString "\t" = ld (l ++ [d]) := by
  have e1 : Str.ofString "\t" = ⟨#[9]⟩ := by decide +kernel
  rw [e1]
  refine Str.ext_list ?_
  simp [ld, ldl, blanks, Str.cps_append]
theorem ld_zero' : Str.ofString "\t" = ld (0 :: ([] : List Nat).take 0) := ld_zero
noncomputable def Chk (x : Str) (p q : Int) : Prop := ascii x ∧ x.length ≤ 90000 ∧ ∃ res, WQ (enc x).toList res ∧ p + net res = q
theorem enc_size (x : Str) : (enc x).size = x.length := by simp [enc, Str.length]
theorem read_cal (w : World) (text : Str) (cs : List Str) (cl : Str) (ps : List Nat) (e : Int) (ht : text.length ≤ 100000) (hs : Txt.split text (Str.ofString "(") = cs ++ [cl]) (hlen : ps.length = cs.length) (hps : ∀ p ∈ ps, p ≤ 1000) (hn : cs.length ≤ 50)
    (hc : ∀ (i : Nat) x p q, cs[i]? = some x → (0 :: ps)[i]? = some p → ps[i]? = some q → Chk (x ++ Str.ofString "(") (p : Int) (q : Int)) (hl : ∀ p, (0 :: ps)[ps.length]? = some p → Chk cl (p : Int) e) :
    Cal w (.ref 328) 2 [.str text] (.tup [.str (ld (0 :: ps)), .int e]) := by
  refine Cal.fn (n := 1) (names := [Str.ofString "text"]) (hK := rfl) (hcode := rfl) (hbody := rfl) (hbind := ?_) (hcell := by decide) (hloc := by decide) (hco := rfl) (hgen := rfl) (hk := rfl) (hgl := rfl) (hbi := rfl) (hlen := rfl) (hvars := rfl) ?_
  · exact vs1 fun a => rfl
  · intro c hw hk hsc
    subst hw
    dsimp only at hsc
    refine' Tr.cons (Ex.assign (d := .lst (strsD (Txt.split text (Str.ofString "(")))) hsc rfl ?zra1 ?zra2)
    case zra1 =>
      refine' Ev.meth ?zrb1 (Mth.str PySem.F.slot_str_split PySem.F.type_str_split PySem.F.plainAttrs_str) (Kept.builtin _ _) ?zrb2 (Cal.split (n := 0) text _ (by decide +kernel) ht) ?zrb3
      case zrb1 => walk_at "ev"
      case zrb2 => walk_at "evs"
      case zrb3 => walk_at "room"
    case zra2 =>
    rw [hs]
    show Tr _ _ _ _
    have hds : (strsD (cs ++ [cl])).length = cs.length + 1 := by simp [strsD]
    walk_at "st"
    walk_at "st"
    refine' Tr.cons (Ex.forH (ds := strsD cs) (Its.of (Eq.mp (congrArg (Ev _ _ _) ?zrc0) ?zrc1) Itv.lst) (fun i => [(Str.ofString "lead", .str (ld (0 :: ps.take i))), (Str.ofString "depth", .int (((0 :: ps)[i]?.getD 0 : Nat) : Int)), (Str.ofString "chunks", .lst (strsD (cs ++ [cl])))]) (fun i => []) ⟨rfl, by rw [List.take_zero, ← ld_zero]; rfl, rfl, rfl, trivial⟩ ?zrc2 ?zrc3)
    case zrc1 => exact (show Ev c _ _ (.lst (pk (strsD (cs ++ [cl])) none (some (-1)))) from by walk_at "ev")
    case zrc0 =>
      congr 1
      unfold pk
      simp [kms_lo, kms_hi, hds, strsD]
    case zrc2 =>
      intro pss i d hd
      simp only [strsD, List.getElem?_map, Option.map_eq_some_iff] at hd
      obtain ⟨x, hx, rfl⟩ := hd
      have hi : i < cs.length := (List.getElem?_eq_some_iff.mp hx).1
      have hq : ps[i]? = some (ps[i]'(by omega)) := List.getElem?_eq_getElem _
      have hp : (0 :: ps)[i]? = some ((0 :: ps)[i]'(by simp; omega)) := List.getElem?_eq_getElem _
      generalize hqq : ps[i]'(by omega) = q at hq
      generalize hpp : (0 :: ps)[i]'(by simp; omega) = p at hp
      obtain ⟨ha, hxl, res, hwq, hnet⟩ := hc i x p q hx hp hq
      have hqb : q ≤ 1000 := hps q (List.mem_of_getElem? hq)
      refine ⟨_, As.name hsc rfl, ?_⟩
      rw [hp, Option.getD_some]
      have pc := paren_cal c.w (enc (x ++ Str.ofString "(")) p res hwq (by rw [enc_size]; omega)
      rw [hnet] at pc
      have hxx : x.length + 1 ≤ 90000 := by rw [Str.length_append, len_lpar] at hxl; exact hxl
      have en := Cal.encode (w := c.w) (n := 0) (x ++ Str.ofString "(") ha (by omega)
      refine' Tr.cons (Ex.assign (d := .int (q : Int)) hsc rfl ?zrd1 ?zrd2)
      case zrd1 =>
        refine' Ev.call ?zre1 ?zre2 (Evs.cons (Ev.meth ?zre3 (Mth.str PySem.F.slot_str_encode PySem.F.type_str_encode PySem.F.plainAttrs_str) (Kept.builtin _ _) Evs.nil en ?zre4) (Evs.cons ?zre5 Evs.nil)) pc ?zre6
        case zre1 => walk_at "nm"
        case zre2 => walk_at "kept"
        case zre3 => walk_at "ev"
        case zre4 => walk_at "room"
        case zre5 => walk_at "ev"
        case zre6 => walk_at "room"
      case zrd2 =>
        show Tr _ _ _ _
        have tl : (ps.take i).length ≤ 50 := by rw [List.length_take]; omega
        have sl : (ps.take i).sum ≤ 1000 * 50 := by
          have key : ∀ l : List Nat, (∀ p ∈ l, p ≤ 1000) → l.sum ≤ 1000 * l.length := by
            intro l
            induction l with
            | nil => intro _; simp
            | cons a l ih => intro h; have := ih fun p hp => h p (.tail _ hp); have := h a (.head _); simp only [List.sum_cons, List.length_cons]; omega
          have := key (ps.take i) fun p hp => hps p (List.mem_of_mem_take hp)
          omega
        have ll := ld_len (0 :: ps.take i)
        simp only [List.sum_cons, List.length_cons] at ll
        have bl : (blanks q).length = q := by simp [blanks, Str.length]
        refine' Tr.cons (Ex.assign (d := .str (ld (0 :: ps.take i) ++ blanks q ++ Str.ofString "\t")) hsc rfl (Ev.binop (Ev.binop ?zrf1 (Ev.binop ?zrf2 ?zrf3 (Bop.mul_blank q (by omega))) (Bop.add_str _ _ (by omega))) ?zrf4 (Bop.add_str _ _ (by rw [Str.length_append, len_tab]; omega))) ?zrf5)
        case zrf1 => walk_at "ev"
        case zrf2 => walk_at "ev"
        case zrf3 => walk_at "ev"
        case zrf4 => walk_at "ev"
        case zrf5 =>
          show Tr _ _ _ _
          refine Tr.nil ⟨rfl, ?_, ?_, rfl, trivial⟩
          · have : ld (0 :: ps.take i) ++ blanks q ++ Str.ofString "\t" = ld (0 :: ps.take (i + 1)) := by
              rw [ld_snoc, List.take_add_one, hq]; rfl
            rw [this]; rfl
          · have : (0 :: ps)[i + 1]? = some q := by rw [List.getElem?_cons_succ]; exact hq
            rw [this]; rfl
    case zrc3 =>
      show Tr _ _ _ _
      have e1 : (strsD cs).length = ps.length := by simp [strsD, hlen]
      rw [e1, List.take_length]
      have hp : (0 :: ps)[ps.length]? = some ((0 :: ps)[ps.length]'(by simp)) := List.getElem?_eq_getElem _
      generalize hpp : (0 :: ps)[ps.length]'(by simp) = p at hp
      obtain ⟨ha, hxl, res, hwq, hnet⟩ := hl p hp
      rw [hp, Option.getD_some]
      have pc := paren_cal c.w (enc cl) p res hwq (by rw [enc_size]; omega)
      rw [hnet] at pc
      have en := Cal.encode (w := c.w) (n := 0) cl ha (by omega)
      refine' Tr.cons (Ex.ret (Ev.tuple (Evs.cons ?zrg1 (Evs.cons (Ev.call ?zrg2 ?zrg3 (Evs.cons (Ev.meth (Ev.sub ?zrg4 ?zrg5 (TyD.lst _) slot_list_getitem.lookup (Gi.lstNeg (k := -1) (d := .str cl) (by decide) (by rw [hds]; omega) (by decide) ?zrg6)) (Mth.str PySem.F.slot_str_encode PySem.F.type_str_encode PySem.F.plainAttrs_str) (Kept.builtin _ _) Evs.nil en ?zrg7) (Evs.cons ?zrg8 Evs.nil)) pc ?zrg9) Evs.nil))) ?zrg10)
      case zrg1 => walk_at "ev"
      case zrg2 => walk_at "nm"
      case zrg3 => walk_at "kept"
      case zrg4 => walk_at "ev"
      case zrg5 => exact (show Ev c _ _ (.int (-1)) from by walk_at "ev")
      case zrg6 =>
        rw [hds]
        have : ((-1 : Int) + ((cs.length + 1 : Nat) : Int)).toNat = cs.length := by omega
        rw [this]; simp [strsD]
      case zrg7 => walk_at "room"
      case zrg8 => walk_at "ev"
      case zrg9 => walk_at "room"
      case zrg10 => exact .inl rfl
end
end
section
open PySem PySem.W PySem.Calls PyProof.Rows PySem.Spec
set_option Elab.async false
set_option maxRecDepth 100000
set_option linter.unusedVariables false
set_option linter.unusedSimpArgs false
section
theorem Cal.abs {w n} (a : Int) : Cal w (.builtin "abs") n [.int a] (.int (a.natAbs : Int)) := fun c F W₁ vs _ _ r => by
  (replace r := Reps.cons_inv r; obtain ⟨_, _, rfl, r1, r⟩ := r)
  cases r
  cases r1
  refine Go.fresh_val fun W h tk Q E hs I hQ => wpAny_with_toks (n := 1) (show 1 ≤ tk + 1 from Nat.le_add_left 1 tk) (call_abs_int (s := St c.s₀ h tk) fun u k htk => ?_)
  refine toks_up (s := c.s₀) (h := h) htk fun k' => hQ _ k' ?_
  have : (if a < 0 then -a else a) = (a.natAbs : Int) := by split <;> omega
  rw [this]; exact .int _ _
theorem Cal.int_int {w n} (a : Int) : Cal w (.type "int") n [.int a] (.int a) := fun c F W₁ vs _ _ r => by
  (replace r := Reps.cons_inv r; obtain ⟨_, _, rfl, r1, r⟩ := r)
  cases r
  cases r1
  exact Go.fresh_val fun W h tk Q E hs I hQ => PySem.call_int_int (hQ _ tk (.int _ _))
theorem Cal.divmod {w n} (a b : Nat) (hb : 0 < b) (ha : a < 2 ^ 62) (hb2 : b < 2 ^ 29) : Cal w (.builtin "divmod") n [.int (a : Int), .int (b : Int)] (.tup [.int ((a / b : Nat) : Int), .int ((a % b : Nat) : Int)]) := fun c F W₁ vs _ _ r => by
  (replace r := Reps.cons_inv r; obtain ⟨_, _, rfl, r1, r⟩ := r)
  (replace r := Reps.cons_inv r; obtain ⟨_, _, rfl, r2, r⟩ := r)
  cases r
  (replace r1 := Rep.int_inv r1; obtain ⟨t, rfl⟩ := r1)
  (replace r2 := Rep.int_inv r2; obtain ⟨u, rfl⟩ := r2)
  intro W h tk Q E hs I hQ
  have e1 : ((a : Int)).fdiv (b : Int) = ((a / b : Nat) : Int) := by rw [Int.fdiv_eq_ediv_of_nonneg _ (by omega)]; rfl
  have e2 : ((a : Int)).fmod (b : Int) = ((a % b : Nat) : Int) := by rw [Int.fmod_eq_emod_of_nonneg _ (by omega)]; rfl
  refine divmod_int (s := St c.s₀ h tk) (by omega) ?_ (.inl (PyProof.noPylong_small (by omega)))
  rw [e1, e2]
  exact hQ _ _ _ (tk + 1 + 1) F (I.push (tupO #[.int ((a / b : Nat) : Int) (tk + 1), .int ((a % b : Nat) : Int) (tk + 1 + 1)] 0) rfl) (Fz.sub_put I.none_size) ⟨rfl, .tup (Fz.put_self ..) (.cons (.int _ _) (.cons (.int _ _) .nil))⟩
theorem Sl.bytes {x : Array UInt8} {lo hi : Option Int} (hne : KBy.whole x lo hi = false) (hz : (KBy.picked x lo hi).size ≤ 1000000) : Sl (.bytes x) lo hi (.bytes (KBy.picked x lo hi)) := fun c F W₁ o vl vu sl r hsl pl pu => by
  (replace r := Rep.bytes_inv r; obtain ⟨t, rfl⟩ := r)
  refine Go.fresh_val fun W h tk Q E hs I hQ => ?_
  exact getItem_meets (s := St c.s₀ h tk) (typeIs_bytes _ _ _) (by decide) FB.slot_bytes_getitem FB.entry_bytes_getitem (FB.args_bytes_getitem_2 _ _) (KBy.meets_slice x t sl pl pu hne)
    ⟨⟨_, I.keep _ _ (hs _ _ hsl), rfl, rfl⟩, by rw [sizeLine_eq]; omega, hQ _ (tk + 1) (.bytes _ _)⟩
theorem Bop.add_bytes (a b : Array UInt8) (h : a.size + b.size ≤ 1000000) : Bop .Add (.bytes a) (.bytes b) (.bytes (a ++ b)) := fun c F W₁ x y hx hy => by
  cases hx; cases hy
  exact Go.fresh_val fun W hp tk Q E hs I hQ => wpAny_with_toks (n := 1) (show 1 ≤ tk + 1 from Nat.le_add_left 1 tk) (KBy.add_bytes (s := St c.s₀ hp tk) (by omega) fun t' k htk => toks_up (s := c.s₀) (h := hp) htk fun k' => hQ _ k' (.bytes _ _))
noncomputable def apc (k : Nat) : UInt8 := (65 + k).toUInt8
noncomputable def apN : Nat → Nat → List UInt8 → List UInt8
  | 0, _, v => v
  | f + 1, n, v => if n = 0 then v else apN f (n / 16) (apc (n % 16) :: v)
noncomputable def apW (n : Nat) : List UInt8 := apN 3 n []
theorem ap_slices : ∀ m : Fin 16, KBy.picked [65, 66, 67, 68, 69, 70, 71, 72, 73, 74, 75, 76, 77, 78, 79, 80].toArray (some ((m.val : Nat) : Int)) (some (((m.val : Nat) : Int) + 1)) = #[apc m.val] ∧ KBy.whole [65, 66, 67, 68, 69, 70, 71, 72, 73, 74, 75, 76, 77, 78, 79, 80].toArray (some ((m.val : Nat) : Int)) (some (((m.val : Nat) : Int) + 1)) = false := by decide +kernel
theorem ap_len : ∀ (f n : Nat) (v : List UInt8), (apN f n v).length ≤ v.length + f := by
  intro f
  induction f with
  | zero => intro n v; exact Nat.le_refl _
  | succ f ih =>
    intro n v
    unfold apN
    split
    · omega
    · have := ih (n / 16) (apc (n % 16) :: v); simp at this; omega
theorem int2ap_cal (w : World) (a : Int) (ha : a.natAbs < 4096) : Cal w (.ref 198) 1 [.int a] (.bytes (apW a.natAbs).toArray) := by
  refine Cal.fn (n := 0) (names := [Str.ofString "num"]) (hK := rfl) (hcode := rfl) (hbody := rfl) (hbind := ?_) (hcell := by decide) (hloc := by decide) (hco := rfl) (hgen := rfl) (hk := rfl) (hgl := rfl) (hbi := rfl) (hlen := rfl) (hvars := rfl) ?_
  · exact vs1 fun a => rfl
  · intro c hw hk hs
    subst hw
    dsimp only at hs
    walk_at "st"
    walk_at "st"
    refine' Tr.cons (Ex.assign (d := .int (a.natAbs : Int)) hs rfl (Ev.call ?zia1 ?zia2 (Evs.cons (Ev.call ?zia3 ?zia4 (Evs.cons ?zia5 Evs.nil) (Cal.abs (n := 0) a) ?zia6) Evs.nil) (Cal.int_int (n := 0) _) ?zia7) ?zia8)
    case zia1 => walk_at "nm"
    case zia2 => walk_at "kept"
    case zia3 => walk_at "nm"
    case zia4 => walk_at "kept"
    case zia5 => walk_at "ev"
    case zia6 => walk_at "room"
    case zia7 => walk_at "room"
    case zia8 =>
    show Tr _ _ _ _
    refine' Tr.cons (Ex.whileH (ι := Nat × Nat × List UInt8) (fun i => [(Str.ofString "num", .int (i.2.1 : Int)), (Str.ofString "val", .bytes i.2.2.toArray), (Str.ofString "AP", .bytes [65, 66, 67, 68, 69, 70, 71, 72, 73, 74, 75, 76, 77, 78, 79, 80].toArray)]) (fun _ => []) (fun i => i.1)
      (fun i => i.1 ≤ 3 ∧ i.2.1 < 16 ^ i.1 ∧ i.2.2.length + i.1 ≤ 3 ∧ apN i.1 i.2.1 i.2.2 = apW a.natAbs) (3, a.natAbs, []) ⟨Nat.le_refl _, ha, Nat.le_refl _, rfl⟩ ⟨rfl, rfl, rfl, rfl, trivial⟩ ?zib1)
    rintro ⟨f, n, v⟩ ⟨hf, hn, hl, hv⟩
    refine' ⟨((n : Int) != 0), Te.value ?zic1 (Tru.int _), fun hb => ?_, fun hb => ?_⟩
    case zic1 => walk_at "ev"
    · have n0 : n ≠ 0 := by intro e; subst e; simp at hb
      dsimp only at hf hn hl hv
      obtain ⟨f, rfl⟩ : ∃ f', f = f' + 1 := ⟨f - 1, by
        rcases Nat.eq_zero_or_pos f with e | e
        · subst e; simp at hn; omega
        · omega⟩
      have hn3 : n < 4096 := Nat.lt_of_lt_of_le hn (by
        have : (16 : Nat) ^ (f + 1) ≤ 16 ^ 3 := Nat.pow_le_pow_right (by decide) hf
        exact this)
      have hm : n % 16 < 16 := Nat.mod_lt _ (by decide)
      obtain ⟨sl1, sl2⟩ := ap_slices ⟨n % 16, hm⟩
      dsimp only at sl1 sl2
      refine' Tr.cons (Ex.assignT (d := .tup [.int ((n / 16 : Nat) : Int), .int ((n % 16 : Nat) : Int)]) (Ev.call ?zid1 ?zid2 ?zid3 (Cal.divmod (n := 0) n 16 (by decide) (by omega) (by decide)) ?zid4) (As.tuple (Ass.cons (As.name hs rfl) (Ass.cons (As.name hs rfl) Ass.nil))) ?zid5)
      case zid1 => walk_at "nm"
      case zid2 => walk_at "kept"
      case zid3 => walk_at "evs"
      case zid4 => walk_at "room"
      case zid5 =>
        show Tr _ _ _ _
        refine' Tr.cons (Ex.assign (d := .bytes (apc (n % 16) :: v).toArray) hs rfl (Eq.mp (congrArg (Ev _ _ _) ?zie0) (Ev.binop (Ev.slice ?zie1 ?zie2 ?zie3 (TyD.bytes _) FB.slot_bytes_getitem.lookup (Sl.bytes (lo := some ((n % 16 : Nat) : Int)) (hi := some (((n % 16 : Nat) : Int) + 1)) sl2 (by rw [sl1]; simp))) ?zie4 (Bop.add_bytes _ _ ?zie5))) ?zie6)
        case zie1 => walk_at "ev"
        case zie2 => walk_at "pt"
        case zie3 => walk_at "pt"
        case zie4 => walk_at "ev"
        case zie0 => rw [sl1]; simp
        case zie5 => rw [sl1]; simp; omega
        case zie6 =>
          show Tr _ _ _ _
          refine Tr.nil ⟨(f, n / 16, apc (n % 16) :: v), Nat.lt_succ_self _, ⟨by dsimp only; omega, ?_, by simp; omega, ?_⟩, rfl, rfl, rfl, rfl, trivial⟩
          · show n / 16 < 16 ^ f
            rw [Nat.pow_succ] at hn
            exact Nat.div_lt_of_lt_mul (by rw [Nat.mul_comm]; exact hn)
          · rw [← hv]; show _ = (if n = 0 then v else _); rw [if_neg n0]
    · have n0 : n = 0 := by simpa using hb
      subst n0
      dsimp only at hv
      show Tr _ _ _ _
      walk_at "st"
      refine .inl ?_
      rw [← hv]
      cases f <;> rfl
end
end
section
open PySem PySem.W PySem.Calls PyProof.Rows PySem.Spec Builtin Builtin.ObjectAttr
set_option Elab.async false
set_option maxRecDepth 100000
set_option linter.unusedVariables false
set_option linter.unusedSimpArgs false
section
noncomputable abbrev KK (w : World) : Frag := Mine.hd.heap_1 w.params
theorem isStr_str (s x : Str) (t : Tok) : (Value.str s t).isStr x = (s == x) := rfl
theorem Flds.look {W : Fz} {x : Str} {es : List DictEntry} {fs : List (Str × Dt)} (h : Flds W es fs) :
    (∀ d, fs.lookup x = some d → ∃ e, es.find? (·.key.isStr x) = some e ∧ Rep W e.val d) ∧ (fs.lookup x = none → es.find? (·.key.isStr x) = none) ∧ es.any (·.refKey) = false := by
  induction fs generalizing es with
  | nil => obtain rfl := h.inv; exact ⟨(fun d e => nomatch e), (fun _ => rfl), rfl⟩
  | cons p fs ih =>
    obtain ⟨y, d0⟩ := p
    obtain ⟨hs, t, v, es, rfl, r, rs⟩ := h.inv
    obtain ⟨a, b, c⟩ := ih rs
    rw [lookup_store]
    have e0 : (DictEntry.mk hs (.str y t) v).key.isStr x = (y == x) := rfl
    have e3 : (DictEntry.mk hs (.str y t) v :: es).any (·.refKey) = false := c
    by_cases q : y = x
    · subst q
      rw [if_pos rfl, List.find?_cons, e0, beq_self_eq_true]
      exact ⟨fun d e => ⟨_, rfl, by cases e; exact r⟩, (fun e => nomatch e), e3⟩
    · rw [if_neg fun e => q e.symm, List.find?_cons, e0, beq_eq_false_iff_ne.mpr q]
      exact ⟨a, b, e3⟩
theorem Flds.lookIn {W : Fz} {x : Str} {es : Array DictEntry} {n : Nat} {fs : List (Str × Dt)} (r : Flds W es.toList fs) :
    (∀ d, fs.lookup x = some d → ∃ v, PySem.W.lookIn x (dicO es n) = some (some v) ∧ Rep W v d) ∧ (fs.lookup x = none → PySem.W.lookIn x (dicO es n) = some none) := by
  obtain ⟨a, b, c⟩ := r.look (x := x)
  refine ⟨fun d e => ?_, fun e => ?_⟩
  · obtain ⟨z, z1, z2⟩ := a d e
    refine ⟨z.val, ?_, z2⟩
    unfold PySem.W.lookIn; dsimp only; rw [z1]
  · unfold PySem.W.lookIn; dsimp only; rw [b e]; dsimp only; rw [if_neg (by rw [c]; decide)]
structure Atr (w : World) (C : Addr) (name : Str) : Prop where
  cls : (clsIn (KK w) C).any (·.hasDict) = true
  no : findIn (KK w) (.ref C) name = some none
  ga : findIn (KK w) (.ref C) "__getattribute__" = some (some (.builtin "object.__getattribute__"))
noncomputable def notVal : Dt → Bool
  | .val _ => false
  | _ => true
theorem handedIn_of {W : Fz} {v : Value} {d : Dt} (r : Rep W v d) (h : notVal d = true) : handedIn v = true := by
  cases r <;> first | rfl | cases h
theorem findObj_of {w : World} {C : Addr} {name : Str} {od : Option Obj} {v : Value} (A : Atr w C name) (h : (match od with | some o => PySem.W.lookIn name o | none => some none) = some (some v)) : findObj (KK w) C od name = some (.value v) := by
  obtain ⟨cd, h1, h2⟩ := any_some A.cls
  unfold findObj
  rw [h1, A.no]
  dsimp only [Option.bind_some]
  unfold PySem.W.ownOf
  rw [if_pos h2]
  cases od with
  | none => cases h
  | some o => dsimp only at h ⊢; rw [h]; rfl
section
variable {c : Cx} {F : Frame} {W₁ : Fz}
theorem getAt {name : Str} {C x dx : Addr} {es : Array DictEntry} {n : Nat} {od : Data} {fs : List (Str × Dt)} {d : Dt} {expr : Bool} {W : Fz} {h : Heap} {tk : Nat} {Q : Value → Shared → Prop} {E : Value → Shared → Prop} (A : Atr c.w C name) (hl : fs.lookup name = some d) (hd : notVal d = true)
    (I : Inv c F W h) (hx : h.get? x = some ⟨.ref C, some dx, od, #[]⟩) (hno : notCls ⟨.ref C, some dx, od, #[]⟩ = true) (hdx : h.get? dx = some (dicO es n)) (r : Flds W es.toList fs) (hQ : ∀ v tk', Rep W v d → Q v (St c.s₀ h tk')) :
    wpAny (model prog c.w) c.A (getAttr (.ref x) name expr) Q E (St c.s₀ h tk) := by
  obtain ⟨p, l, me, mg, mb, X, T, h1, h2⟩ := I.wd.at I.keep
  obtain ⟨v, e1, e2⟩ := (r.lookIn (x := name) (n := n)).1 d hl
  exact get_value (s := St c.s₀ h tk) (K := KK c.w) (od := some (dicO es n)) X ⟨hx, rfl, hno, hdx⟩ A.ga (findObj_of A e1) (handedIn_of e2 hd) (hQ v (tk + 1) e2)
theorem Go.getInst {C : Addr} {fs : List (Str × Dt)} {name : Str} {d : Dt} {expr : Bool} {v : Value} (A : Atr c.w C name) (hl : fs.lookup name = some d) (hd : notVal d = true) (hv : Rep W₁ v (.inst C fs)) : Go c F W₁ (getAttr v name expr) (Is F d) :=
  Go.fresh_val fun W h tk Q E hs I hQ => by
    cases hv.mono hs with | inst e1 e2 r => ?_
    exact getAt A hl hd I (I.keep _ _ e1) rfl (I.keep _ _ e2) r hQ
theorem Go.getOwn {C a b : Addr} {vars : List (Str × Dt)} {pre post : List Ow} {fs : List (Str × Dt)} {name : Str} {d : Dt} {expr : Bool} (A : Atr c.w C name) (hl : fs.lookup name = some d) (hd : notVal d = true) :
    Go c ⟨vars, pre ++ ⟨a, b, .inst C fs⟩ :: post⟩ W₁ (getAttr (.ref a) name expr) (Is ⟨vars, pre ++ ⟨a, b, .inst C fs⟩ :: post⟩ d) :=
  Go.fresh_val fun W h tk Q E hs I hQ => by
    obtain ⟨es, n, e1, e2, r⟩ := I.own ⟨a, b, .inst C fs⟩ (List.mem_append_right _ (.head _))
    exact getAt A hl hd I e1 rfl e2 r hQ
theorem Go.getAcc {C a b : Addr} {vars : List (Str × Dt)} {pre post : List Ow} {fs : List (Str × Dt)} {l : List Dt} {name : Str} {d : Dt} {expr : Bool} (A : Atr c.w C name) (hl : fs.lookup name = some d) (hd : notVal d = true) :
    Go c ⟨vars, pre ++ ⟨a, b, .acc C fs l⟩ :: post⟩ W₁ (getAttr (.ref a) name expr) (Is ⟨vars, pre ++ ⟨a, b, .acc C fs l⟩ :: post⟩ d) :=
  Go.fresh_val fun W h tk Q E hs I hQ => by
    obtain ⟨es, n, vs, k, e1, e2, r, r'⟩ := I.own ⟨a, b, .acc C fs l⟩ (List.mem_append_right _ (.head _))
    exact getAt A hl hd I e1 rfl e2 r hQ
theorem Ev.attrG {o : Expr} {name : Str} {pos : Pos} {d0 d : Dt} (ho : Ev c F o d0) (hg : ∀ W v, Rep W v d0 → Go c F W (getAttr v name true) (Is F d)) (hbase : attributeBase o name c.env (eval o c.env) = eval o c.env := by rfl) : Ev c F (.Attribute o name pos) d := fun W₁ => by
  rw [arm_eval_Attribute, hbase]
  refine Go.bind (ho _) (isK fun v W hs r => ?_)
  refine Go.at (Go.bind (Go.holding (hg W v r)) (isK fun v2 W2 hs2 r2 => ?_))
  refine Go.bind (Go.letTemp (P := fun _ _ F' => F' = F) fun _ _ => rfl) fun _ W5 F5 hs5 e => ?_
  subst e
  exact Go.pure fun _ hs6 => ⟨rfl, r2.mono (hs5.trans hs6)⟩
theorem Ev.attr {o : Expr} {name : Str} {pos : Pos} {C : Addr} {fs : List (Str × Dt)} {d : Dt} (ho : Ev c F o (.inst C fs)) (A : Atr c.w C name) (hl : fs.lookup name = some d) (hd : notVal d = true := by rfl) (hbase : attributeBase o name c.env (eval o c.env) = eval o c.env := by rfl) : Ev c F (.Attribute o name pos) d :=
  Ev.attrG ho (fun W v r => Go.getInst A hl hd r) hbase
theorem Ev.attrOwn {o : Expr} {name : Str} {pos : Pos} {C a b : Addr} {vars : List (Str × Dt)} {pre post : List Ow} {fs : List (Str × Dt)} {d : Dt} (ho : Ev c ⟨vars, pre ++ ⟨a, b, .inst C fs⟩ :: post⟩ o (.val (.ref a))) (A : Atr c.w C name) (hl : fs.lookup name = some d) (hd : notVal d = true := by rfl) (hbase : attributeBase o name c.env (eval o c.env) = eval o c.env := by rfl) :
    Ev c ⟨vars, pre ++ ⟨a, b, .inst C fs⟩ :: post⟩ (.Attribute o name pos) d :=
  Ev.attrG ho (fun W v r => by cases r; exact Go.getOwn A hl hd) hbase
theorem Ev.attrCls {o : Expr} {name : Str} {pos : Pos} {C : Addr} {v : Value} {d : Dt} (ho : Ev c F o (.val (.ref C))) (hr : readsIn (KK c.w) C (.type "type") = true) (e : findCls (KK c.w) (.ref C) (.type "type") name = some (.val v)) (hv : ∀ W, Rep W v d) (hd : notVal d = true := by rfl)
    (hbase : attributeBase o name c.env (eval o c.env) = eval o c.env := by rfl) : Ev c F (.Attribute o name pos) d :=
  Ev.attrG ho (fun W u r => by
    cases r
    exact Go.fresh_val fun W h tk Q E hs I hQ => by
      obtain ⟨p, l, me, mg, mb, X, T, h1, h2⟩ := I.wd.at I.keep
      exact cls_value (s := St c.s₀ h tk) X hr e (handedIn_of (hv W) hd) (hQ v (tk + 1) (hv W))) hbase
end
theorem atr_ws_norm (w : World) : Atr w 260 "norm" := ⟨rfl, rfl, rfl⟩
end
end
section
open PySem PySem.W PySem.Calls PyProof.Rows PySem.Spec Builtin Builtin.ObjectAttr
set_option Elab.async false
set_option maxRecDepth 100000
set_option linter.unusedVariables false
set_option linter.unusedSimpArgs false
section
theorem Flds.snoc {W : Fz} {x : Str} {hs : Int} {t : Tok} {v : Value} {d : Dt} (hv : Rep W v d) : ∀ {es : List DictEntry} {fs : List (Str × Dt)}, Flds W es fs → Flds W (es ++ [⟨hs, .str x t, v⟩]) (fs ++ [(x, d)])
  | _, _, .nil => .cons hv .nil
  | _, _, .cons r rs => .cons r (rs.snoc hv)
theorem Flds.length {W : Fz} : ∀ {es : List DictEntry} {fs : List (Str × Dt)}, Flds W es fs → es.length = fs.length
  | _, _, .nil => rfl
  | _, _, .cons r rs => by rw [List.length_cons, List.length_cons, rs.length]
structure Sto (w : World) (C : Addr) (name : Str) : Prop where
  cls : (clsIn (KK w) C).any (·.hasDict) = true
  sa : findIn (KK w) (.ref C) "__setattr__" = some (some (.builtin "object.__setattr__"))
  pl : plainOver (KK w) C = true
  tk : takerIn (KK w) C name = some none
theorem putName_new {name : Str} {hs : Int} {k v : Value} {es : Array DictEntry} {n : Nat} (h : es.toList.find? (·.key.isStr name) = none) : Obj.putName name hs k v (dicO es n) = dicO (es.push ⟨hs, k, v⟩) (n + 1) := by
  rw [Obj.putName_eq]
  unfold Obj.putNameByArray
  have : es.findIdx? (·.key.isStr name) = none := by
    rw [Array.findIdx?_eq_none_iff]
    intro e he
    have := List.find?_eq_none.mp h e (Array.mem_toList_iff.mpr he)
    simpa using this
  dsimp only
  rw [this]
section
variable {c : Cx} {F : Frame} {W₁ : Fz}
theorem setAt {name : Str} {C x dx : Addr} {es : Array DictEntry} {n : Nat} {fs : List (Str × Dt)} {v : Value} {W : Fz} {h : Heap} {tk : Nat} {Q : Unit → Shared → Prop} {E : Value → Shared → Prop} (A : Sto c.w C name) (hl : fs.lookup name = none) (hz : fs.length ≤ 100)
    (I : Inv c F W h) (hx : h.get? x = some ⟨.ref C, some dx, .plain, #[]⟩) (hdx : h.get? dx = some (dicO es n)) (r : Flds W es.toList fs)
    (hQ : ∀ h' tk' t', h'.get? dx = some (dicO (es.push ⟨PyData.keyHash c.w.params name, .str name t', v⟩) (n + 1)) → (∀ b, b ≠ dx → h'.get? b = h.get? b) → Q () (St c.s₀ h' tk')) :
    wpAny (model prog c.w) c.A (setAttr (.ref x) name v) Q E (St c.s₀ h tk) := by
  obtain ⟨p, l, me, mg, mb, X, T, h1, h2⟩ := I.wd.at I.keep
  have lk := (r.lookIn (x := name) (n := n)).2 hl
  have nf := (r.look (x := name)).2.1 hl
  have nr := (r.look (x := name)).2.2
  have IA : InstAt h x ⟨.ref C, some dx, .plain, #[]⟩ C (some (dicO es n)) := ⟨hx, rfl, rfl, hdx⟩
  refine set_plain (s := St c.s₀ h tk) (K := KK c.w) X IA A.sa ?_
  refine osa_open (K := KK c.w) X IA A.pl A.tk fun b => ?_
  obtain ⟨cd, hc, hd'⟩ := any_some A.cls
  refine wpAny_bind (wpAny_pure (wpAny_bind (wpAny_bind (wpAny_loadPart hx (wpAny_bind ((looks_clsIn X hc).here ?_))))))
  rw [hd']
  refine wpAny_pure (a := some dx) (wpAny_bind (wpAny_pure (wpAny_bind ?_)))
  unfold nsSet
  refine wpAny_bind (wpAny_bind (wpAny_askSetting (wpAny_pure (wpAny_bind (wpAny_mkText (wpAny_bind (wpAny_loadPart hdx ?_)))))))
  dsimp only
  have c1 : (!es.any (·.key.isStr name) && es.any (·.refKey)) = false := by rw [← Array.any_toList, ← Array.any_toList, nr, Bool.and_false]
  rw [aRefKeyMayBeTheName_at, c1]
  refine wpAny_updatePart hdx ?_
  have hlen : es.size ≤ 100 := by have := r.length; rw [Array.length_toList] at this; omega
  have D' : (h.update dx (Obj.putName name (PyData.keyHash c.w.params name) (.str name (tk + 1 + 1)) v)).get? dx = some (dicO (es.push ⟨PyData.keyHash c.w.params name, .str name (tk + 1 + 1), v⟩) (n + 1)) := by
    have e1 := putName_new (hs := PyData.keyHash c.w.params name) (k := .str name (tk + 1 + 1)) (v := v) (n := n) nf
    rw [← e1]
    exact Heap.get?_update_self _ hdx (by rw [e1]; rfl)
  refine wpAny_bind (wpAny_lookBehind D' (pastItsLine_dict (by rw [Array.size_push, sizeLine_eq]; omega)) ?_)
  exact wpAny_pure (hQ _ (tk + 1 + 1) (tk + 1 + 1) D' fun b hb => Heap.get?_update_ne _ _ _ _ hb)
theorem Ex.setAttr {o value : Expr} {name : Str} {pos' pos : Pos} {C a b : Addr} {vars : List (Str × Dt)} {pre post : List Ow} {fs : List (Str × Dt)} {d : Dt} {P : Fl → Frame → Prop} (hv : Ev c ⟨vars, pre ++ ⟨a, b, .inst C fs⟩ :: post⟩ value d) (ho : Ev c ⟨vars, pre ++ ⟨a, b, .inst C fs⟩ :: post⟩ o (.val (.ref a)))
    (A : Sto c.w C name) (hl : fs.lookup name = none) (hz : fs.length ≤ 100) (hp : P .next ⟨vars, pre ++ ⟨a, b, .inst C (fs ++ [(name, d)])⟩ :: post⟩)
    (hs : swapsWith value (some (.Attribute o name pos')) pos.line c.env = Pure.pure false := by rfl) : Ex c ⟨vars, pre ++ ⟨a, b, .inst C fs⟩ :: post⟩ (.Assign [.Attribute o name pos'] value pos) P := fun W₁ W h tk Q E hW I hQ => by
  refine plainObj_wpAny_Assign_Attribute ?_ hs
  refine hv W W h tk _ _ (Sub.refl _) I (isQ fun v W1 h1 tk1 I1 hs1 r1 => ?_)
  refine ho W1 W1 h1 tk1 _ _ (Sub.refl _) I1 (isQ fun ov W2 h2 tk2 I2 hs2 r2 => ?_)
  cases r2
  obtain ⟨es, n, e1, e2, r⟩ := I2.own ⟨a, b, .inst C fs⟩ (List.mem_append_right _ (.head _))
  refine setAt A hl hz I2 e1 e2 r fun h' tk' t' g1 g2 => ?_
  have nab : b ≠ a := fun q => by
    have nd := I2.nd
    rw [ads_mid] at nd
    have := (List.nodup_append.mp (List.nodup_append.mp nd).2.1).1
    subst q; simp [Ow.ads] at this
  have I3 : Inv c ⟨vars, pre ++ ⟨a, b, .inst C (fs ++ [(name, d)])⟩ :: post⟩ W2 h' := I2.own_turn (p := ⟨a, b, .inst C fs⟩) rfl (fun b' o' hb' e => (g2 b' (fun q => hb' (by simp [Ow.ads, q]))).trans e)
    ⟨_, _, (g2 a (Ne.symm nab)).trans e1, g1, by rw [Array.toList_push]; exact (Flds.snoc (r1.mono hs2) r)⟩
  exact hQ .next W2 h' _ _ I3 (hs1.trans hs2) ⟨.next, trivial, hp⟩
end
end
end
section
open PySem PySem.W PySem.Calls PyProof.Rows PySem.Spec Builtin Builtin.ObjectAttr
set_option Elab.async false
set_option maxRecDepth 100000
set_option linter.unusedVariables false
set_option linter.unusedSimpArgs false
section
theorem tc_weight (C : Addr) (vs : List Value) : (Code.builtin "type.__call__" ⟨.ref C :: vs, []⟩).weight = 1 ∧ (Code.builtin "type.__call__" ⟨.ref C :: vs, []⟩).cUnits = 1 := ⟨rfl, rfl⟩
theorem under_tc {A : Around} {C : Addr} {vs : List Value} : (A.under (.builtin "type.__call__" ⟨.ref C :: vs, []⟩)).depth = A.depth + 1 ∧ (A.under (.builtin "type.__call__" ⟨.ref C :: vs, []⟩)).units = A.units + 1 := ⟨rfl, rfl⟩
noncomputable def Ri (x dx C : Addr) (fs : List (Str × Dt)) : Fl → Frame → Prop := fun f F => (f = .ret .none ∨ f = .next) ∧ ∃ vars pre post, F = ⟨vars, pre ++ ⟨x, dx, .inst C fs⟩ :: post⟩
theorem Cal.cls {w : World} {C fI : Addr} {fd : FuncData} {body : List Stmt} {names : List Str} {n : Nat} {ds : List Dt} {fs : List (Str × Dt)} {oc : Value} {od : Option Addr} {osl : Array (Option Value)}
    (hm : makesIn (KK w) C = true) (hi : findIn (KK w) (.ref C) "__init__" = some (some (.ref fI))) (hf : typeIn (KK w) (.ref fI) = some (.type "function"))
    (hK : (Mine.hd.heap_1 w.params).lookup fI = some ⟨oc, od, .func fd, osl⟩) (hcode : codeIn (Mine.hd.heap_1 w.params) fd.code fd.qualname = true) (hbody : fd.body = .stmts body)
    (hbind : ∀ vs : List Value, vs.length = names.length → bindArgs fd ⟨vs, []⟩ = Pure.pure (names.zip vs)) (hcell : ∀ x ∈ fd.scope.names, x.2 ≠ .cell) (hloc : ∀ x ∈ names, fd.scope.names.lookup x = some .local)
    (hco : fd.scope.isCoroutine = false) (hgen : fd.scope.isGenerator = false) (hk : fd.scope.kind = .function) (hgl : fd.globals = mainGlobals) (hbi : fd.builtins = builtinsNs) (hlen : ds.length + 1 = names.length)
    (h : ∀ (c : Cx) (x dx : Addr), c.w = w → c.k = n → c.env.scope = fd.scope → c.bor = [] → Tr c ⟨(names.zip (.val (.ref x) :: ds)).reverse, [⟨x, dx, .inst C []⟩]⟩ body (Ri x dx C fs)) : Cal w (.ref C) (n + 2) ds (.inst C fs) := fun c F W₁ vs hw hn hr W hp tk Q E hs I hQ => by
  subst hw
  obtain ⟨p, l, me, mg, mb, X, T, h1, h2⟩ := I.wd.at I.keep
  have hlv : (Value.ref (hp.objs.size + 1) :: vs).length = names.length := by rw [List.length_cons, hr.length, hlen]
  refine wpAny_call ?_
  refine make_core (makes_of X hm) (looks_findIn X hi) (fun self => bind_fn X self hf) (.inl rfl) ?_
  have k1 : ∀ b o, hp.get? b = some o → ((hp.push emptyDict).push (instObj C hp.objs.size)).get? b = some o := fun b o e => Heap.get?_push_of_some _ (Heap.get?_push_of_some _ e)
  have sz : ((hp.push emptyDict).push (instObj C hp.objs.size)).objs.size = hp.objs.size + 2 := by rw [Heap.size_push, Heap.size_push]
  have gx : ((hp.push emptyDict).push (instObj C hp.objs.size)).get? (hp.objs.size + 1) = some (instObj C hp.objs.size) := by
    have := Heap.get?_push_size (hp.push emptyDict) (o := instObj C hp.objs.size) rfl
    rwa [Heap.size_push] at this
  have gd : ((hp.push emptyDict).push (instObj C hp.objs.size)).get? hp.objs.size = some emptyDict := Heap.get?_push_of_some _ (Heap.get?_push_size hp rfl)
  refine codeAny_call_def (s := ⟨(hp.push emptyDict).push (instObj C hp.objs.size), c.s₀.gens, c.s₀.drawn, tk + 1, c.s₀.os⟩) (fd := fd) (body := body) (binds := names.zip (Value.ref (hp.objs.size + 1) :: vs)) (by have := c.room.1; rw [under_tc.1]; omega) (k1 _ _ (X _ _ hK)) rfl (T.nolimit.keeps k1) ((codeRec_of X hcode).keeps k1) hbody (.of_eq (hbind _ hlv)) hcell
    (fun x hx => hloc _ (List.of_mem_zip (show (x.1, x.2) ∈ names.zip (Value.ref (hp.objs.size + 1) :: vs) from hx)).1) (fun h0 hns hk0 => ?_) hco hgen hk
  let c' : Cx := { w := c.w, s₀ := St c.s₀ hp tk, W₀ := W, bor := [], hid := [], L := hp.objs.size + 2, A := (c.A.under (.builtin "type.__call__" ⟨.ref C :: vs, []⟩)).deeper (callEnv fd (hp.objs.size + 2) fI), env := callEnv fd (hp.objs.size + 2) fI, k := n,
                   hk := hk, hL := rfl, hg := hgl, hb := hbi, hh := c.hh,
                   room := by
                     have := c.room
                     refine ⟨?_, ?_⟩
                     · show (c.A.under _).depth + 1 + n < _; rw [under_tc.1]; omega
                     · show (c.A.under _).units + 3 + 8 * n + 4 < _; rw [under_tc.2]; omega }
  have hL2 : ((hp.push emptyDict).push (instObj C hp.objs.size)).objs.size = hp.objs.size + 2 := sz
  rw [show (⟨(hp.push emptyDict).push (instObj C hp.objs.size), c.s₀.gens, c.s₀.drawn, tk + 1, c.s₀.os⟩ : Shared).heap.objs.size = hp.objs.size + 2 from sz] at hns ⊢
  have wn : ∀ b, hp.objs.size ≤ b → W b = none := fun b hb => by
    cases q : W b with
    | none => rfl
    | some o => exact absurd (Heap.lt_size (I.keep _ _ q)) (Nat.not_lt.mpr hb)
  have I' : Inv c' ⟨(names.zip (.val (.ref (hp.objs.size + 1)) :: ds)).reverse, [⟨hp.objs.size + 1, hp.objs.size, .inst C []⟩]⟩ W h0 := {
    wd := I.wd
    vars := ⟨_, hns, fun x d e => zip_look (.cons (.val _) (hr.mono hs)) e⟩
    base := fun b o _ e => hk0 b o (k1 b o e)
    sub := Sub.refl _
    keep := fun b o e => hk0 b o (k1 b o (I.keep b o e))
    new := fun b o e => .inl e
    hL := Nat.le_add_right _ 2
    wL := wn _ (Nat.le_add_right _ 2)
    own := fun p hp' => by
      cases List.mem_singleton.mp hp'
      exact ⟨#[], 0, hk0 _ _ gx, hk0 _ _ gd, .nil⟩
    ads := fun a ha => by
      simp only [Frame.ads, List.flatMap_cons, Ow.ads, List.flatMap_nil, List.append_nil, List.mem_cons, List.not_mem_nil, or_false] at ha
      rcases ha with rfl | rfl
      · exact ⟨Nat.ne_of_lt (Nat.lt_succ_self _), wn _ (Nat.le_succ _), .inl (Nat.le_succ _)⟩
      · exact ⟨Nat.ne_of_lt (Nat.lt_add_of_pos_right (by decide)), wn _ (Nat.le_refl _), .inl (Nat.le_refl _)⟩
    nd := by simp [Frame.ads, Ow.ads]
    bor := fun a ha => nomatch ha
    hid := fun p hp => nomatch hp
    hnd := List.nodup_nil }
  have eT : tk + 1 + (names.zip (Value.ref (hp.objs.size + 1) :: vs)).length = tk + (names.zip (Value.ref (hp.objs.size + 1) :: vs)).length + 1 := by omega
  show wpAny _ _ _ _ _ (⟨h0, c.s₀.gens, c.s₀.drawn, tk + 1 + (names.zip (Value.ref (hp.objs.size + 1) :: vs)).length, c.s₀.os⟩ : Shared)
  rw [eT]
  refine h c' (hp.objs.size + 1) hp.objs.size rfl rfl rfl rfl W W h0 (tk + (names.zip (Value.ref (hp.objs.size + 1) :: vs)).length) _ _ (Sub.refl _) I' fun fl W' h' tk' F' I2 hs2 hp2 => ?_
  obtain ⟨f', hf', hr', vars, pre, post, rfl⟩ := hp2
  obtain ⟨W3, s3, I3, r3⟩ := Inv.freeze (pre := pre) (post := post) I2 rfl rfl
  have I4 : Inv c F W3 h' := I.grow (hs2.trans s3) (fun b o e => I2.base b o (fun q => nomatch q) e) I3.keep fun b o e => I3.new b o e
  have fin := hQ _ W3 h' tk' F I4 (hs2.trans s3) ⟨rfl, r3⟩
  rcases hr' with rfl | rfl
  · cases fl <;> first | exact hf'.elim | skip
    cases hf'
    exact ⟨rfl, fin⟩
  · cases fl <;> first | exact hf'.elim | skip
    exact ⟨rfl, fin⟩
end
end
section
open PySem PySem.W PySem.Calls PyProof.Rows PySem.Spec Builtin Builtin.ObjectAttr
set_option Elab.async false
set_option maxRecDepth 100000
set_option linter.unusedVariables false
set_option linter.unusedSimpArgs false
section
structure Met (w : World) (C : Addr) (name : Str) (f : Addr) : Prop where
  ga : findIn (KK w) (.ref C) "__getattribute__" = some (some (.builtin "object.__getattribute__"))
  gk : findIn (KK w) (.ref C) "__getattr__" = some none
  fn : findIn (KK w) (.ref C) name = some (some (.ref f))
  ty : typeIn (KK w) (.ref f) = some (.type "function")
theorem Mth.inst {w : World} {C f : Addr} {name : Str} {fs : List (Str × Dt)} (M : Met w C name f) (hl : fs.lookup name = none) : Mth (.inst C fs) name w (.ref f) := fun c F W₁ v pl hw r => by
  subst hw
  intro W h tk Q E hs I hQ
  obtain ⟨x, dx, es, n, rfl, e1, e2, r⟩ := Rep.inst_inv (r.mono hs)
  obtain ⟨p, l, me, mg, mb, X, T, h1, h2⟩ := I.wd.at I.keep
  refine method_fn (s := St c.s₀ h tk) (K := KK c.w) (od := some (dicO es n)) X ⟨I.keep _ _ e1, rfl, rfl, I.keep _ _ e2⟩ M.ga M.gk M.fn M.ty ?_ (hQ _ W h tk F I (Sub.refl _) ⟨rfl, rfl⟩)
  unfold shadowIn
  dsimp only
  rw [(r.lookIn (x := name) (n := n)).2 hl]
  rfl
noncomputable abbrev cslS : Str := Str.ofString "comp_select_list"
theorem tc_new (w : World) (l : List Dt) : Cal w (.ref 62) 2 [.tup l] (.inst 62 [(cslS, .tup l)]) := by
  refine Cal.cls (n := 0) (fI := 52) (names := [Str.ofString "self", Str.ofString "comp_select_list"]) (hm := rfl) (hi := rfl) (hf := rfl) (hK := rfl) (hcode := rfl) (hbody := rfl) (hbind := ?_) (hcell := by decide) (hloc := by decide) (hco := rfl) (hgen := rfl) (hk := rfl) (hgl := rfl) (hbi := rfl) (hlen := rfl) ?_
  · rintro vs hv
    obtain ⟨a, b, rfl⟩ : ∃ a b, vs = [a, b] := by
      rcases vs with _ | ⟨a, _ | ⟨b, _ | ⟨e, r⟩⟩⟩ <;> first | exact ⟨_, _, rfl⟩ | simp at hv
    rfl
  · intro c x dx hw hk hs hb
    subst hw
    dsimp only at hs
    refine' Tr.cons (Ex.setAttr (pre := []) (post := []) (fs := []) ?za1 ?za2 ⟨rfl, rfl, rfl, rfl⟩ rfl (by decide) ?za3)
    case za1 => walk_at "ev"
    case za2 => walk_at "ev"
    case za3 => exact Tr.nil ⟨.inr rfl, _, [], [], rfl⟩
noncomputable def cmpv (way a b : Int) (s t : Str) : Int := if a < b then 1 else if b < a then -1 else if sLt s t = true then -way else if sLt t s = true then way else 0
theorem met_compare (w : World) : Met w 62 "compare" 59 := ⟨rfl, rfl, rfl, rfl⟩
noncomputable abbrev tcD (way : Int) : Dt := .inst 62 [(cslS, .tup [.tup [.int 0, .int (-1)], .tup [.int 1, .int way]])]
theorem atr_csl (w : World) : Atr w 62 cslS := ⟨rfl, rfl, rfl⟩
theorem compare_cal (w : World) (way a b : Int) (s t u v : Str) : Cal w (.ref 59) 1 [tcD way, .tup [.int a, .str s, .str u], .tup [.int b, .str t, .str v]] (.int (cmpv way a b s t)) := by
  refine Cal.fn (n := 0) (names := [Str.ofString "self", Str.ofString "left", Str.ofString "right"]) (hK := rfl) (hcode := rfl) (hbody := rfl) (hbind := ?_) (hcell := by decide) (hloc := by decide) (hco := rfl) (hgen := rfl) (hk := rfl) (hgl := rfl) (hbi := rfl) (hlen := rfl) (hvars := rfl) ?_
  · rintro vs hv
    obtain ⟨a, b, e, rfl⟩ : ∃ a b e, vs = [a, b, e] := by
      rcases vs with _ | ⟨a, _ | ⟨b, _ | ⟨e, _ | ⟨f, r⟩⟩⟩⟩ <;> first | exact ⟨_, _, _, rfl⟩ | simp at hv
    rfl
  · intro c hw hk hs
    subst hw
    dsimp only at hs
    refine' Tr.cons (Ex.forHJ (ds := [.tup [.int 0, .int (-1)], .tup [.int 1, .int way]]) (Its.of (Ev.attr (fs := [(cslS, .tup [.tup [.int 0, .int (-1)], .tup [.int 1, .int way]])]) ?zb1 (atr_csl _) rfl) Itv.tup)
      (fun i => [(Str.ofString "left", .tup [.int a, .str s, .str u]), (Str.ofString "right", .tup [.int b, .str t, .str v])]) (fun _ => []) (fun i => (1 ≤ i → a = b) ∧ (2 ≤ i → sLt s t = false ∧ sLt t s = false)) ⟨rfl, rfl, rfl, trivial⟩ ⟨(fun h => by omega), (fun h => by omega)⟩ ?zb2 ?zb3)
    case zb1 => walk_at "ev"
    case zb2 =>
      intro ps i d hd hJ
      obtain ⟨h1, h2⟩ := hJ
      have hs' : (c.hides ps).env.scope = _ := hs
      rcases i with _ | _ | i
      · cases Option.some.inj hd
        refine' ⟨_, As.tuple (Ass.cons (As.name hs' rfl) (Ass.cons (As.name hs' rfl) Ass.nil)), ?_⟩
        walk_at "st"
        walk_at "st"
        refine' Tr.cons (Ex.if_ (b := decide (a < b)) ?zc1 ?zc2 ?zc3)
        case zc1 => walk_at "te"
        case zc2 =>
          intro e
          show Tr _ _ _ _
          refine' Tr.cons (Ex.ret ?zc4 ?zc5)
          case zc4 => walk_at "ev"
          case zc5 => exact .inl (by simp [cmpv, of_decide_eq_true e])
        case zc3 =>
          intro e
          refine Tr.nil ?_
          show Tr _ _ _ _
          refine' Tr.cons (Ex.if_ (b := decide (b < a)) ?zd1 ?zd2 ?zd3)
          case zd1 => walk_at "te"
          case zd2 =>
            intro e2
            show Tr _ _ _ _
            refine' Tr.cons (Ex.ret ?zd4 ?zd5)
            case zd4 => walk_at "ev"
            case zd5 => 
              have := of_decide_eq_true e2
              refine .inl (by rw [cmpv, if_neg (by omega), if_pos this])
          case zd3 =>
            intro e2
            refine Tr.nil ?_
            show Tr _ _ _ _
            have := of_decide_eq_false e
            have := of_decide_eq_false e2
            exact Tr.nil ⟨⟨rfl, rfl, rfl, trivial⟩, (fun _ => by omega), (fun h => by omega)⟩
      · cases Option.some.inj hd
        have ab := h1 (Nat.le_refl _)
        refine' ⟨_, As.tuple (Ass.cons (As.name hs' rfl) (Ass.cons (As.name hs' rfl) Ass.nil)), ?_⟩
        walk_at "st"
        walk_at "st"
        refine' Tr.cons (Ex.if_ (b := sLt s t) ?zc1 ?zc2 ?zc3)
        case zc1 => walk_at "te"
        case zc2 =>
          intro e
          show Tr _ _ _ _
          refine' Tr.cons (Ex.ret ?zc4 ?zc5)
          case zc4 => walk_at "ev"
          case zc5 => exact .inl (by rw [cmpv, if_neg (by omega), if_neg (by omega), if_pos e])
        case zc3 =>
          intro e
          refine Tr.nil ?_
          show Tr _ _ _ _
          refine' Tr.cons (Ex.if_ (b := sLt t s) ?zd1 ?zd2 ?zd3)
          case zd1 => walk_at "te"
          case zd2 =>
            intro e2
            show Tr _ _ _ _
            refine' Tr.cons (Ex.ret ?zd4 ?zd5)
            case zd4 => walk_at "ev"
            case zd5 => exact .inl (by rw [cmpv, if_neg (by omega), if_neg (by omega), if_neg (by rw [e]; decide), if_pos e2])
          case zd3 =>
            intro e2
            refine Tr.nil ?_
            show Tr _ _ _ _
            exact Tr.nil ⟨⟨rfl, rfl, rfl, trivial⟩, (fun _ => ab), (fun _ => ⟨e, e2⟩)⟩
      · simp at hd
    case zb3 =>
      rintro ⟨h1, h2⟩
      have ab := h1 (by simp)
      obtain ⟨e, e2⟩ := h2 (by simp)
      refine' Tr.cons (Ex.ret ?zd4 ?zd5)
      case zd4 => walk_at "ev"
      case zd5 => exact .inl (by rw [cmpv, if_neg (by omega), if_neg (by omega), if_neg (by rw [e]; decide), if_neg (by rw [e2]; decide)])
end
end
section
open PySem PySem.W PySem.Calls PyProof.Rows PySem.Spec Builtin Builtin.ObjectAttr
set_option Elab.async false
set_option maxRecDepth 100000
set_option linter.unusedVariables false
set_option linter.unusedSimpArgs false
section
section
variable {c : Cx} {F : Frame} {W₁ : Fz}
theorem Ev.callF {id : Str} {p pos : Pos} {es : List Expr} {f : Value} {ds : List Dt} {P : Value → Fz → Frame → Prop} (hf : Ev c F (.Name id p) (.val f)) (hK : Kept c.w f) (hes : Evs c F es ds) (hc : ∀ W vs, Reps W vs ds → Go c F W (PySem.call f vs) P)
    (hst : (backTo pos (starEach es c.env)).any (·.1) = false := by rfl) : Go c F W₁ (eval (.Call (.Name id p) es [] pos) c.env) P := by
  show Go c F W₁ (do PySem.callWith pos (← eval (.Name id p) c.env) [] (backTo pos (starEach es c.env)) []) _
  refine Go.bind (hf _) (isK fun v W hs r => ?_)
  cases r
  exact Go.callWith hK hes hst fun vs W' hs' r => hc W' vs r
theorem lenOwn {vars : List (Str × Dt)} {pre post : List Ow} {a b : Addr} {ds : List Dt} (hsz : ds.length ≤ 100000) {W : Fz} {vs : List Value} (hv : Reps W vs [.val (.ref a)]) : Go c ⟨vars, pre ++ ⟨a, b, .lst ds⟩ :: post⟩ W (call (.builtin "len") vs) (Is ⟨vars, pre ++ ⟨a, b, .lst ds⟩ :: post⟩ (.int (ds.length : Int))) := by
  (replace hv := Reps.cons_inv hv; obtain ⟨_, _, rfl, r1, r⟩ := hv)
  cases r; cases r1
  refine Go.fresh_val fun W h tk Q E hs I hQ => ?_
  obtain ⟨vs, n, e, r⟩ := I.own ⟨a, b, .lst ds⟩ (List.mem_append_right _ (.head _))
  have hl : vs.size = ds.length := by rw [← r.length, Array.length_toList]
  refine call_len_list (s := St c.s₀ h tk) (items := vs) ⟨_, e, rfl, n, rfl⟩ (by rw [hl]; omega) ?_
  rw [hl]
  exact hQ _ (tk + 1 + 1) (.int _ _)
theorem tupOwn {vars : List (Str × Dt)} {pre post : List Ow} {a b : Addr} {ds : List Dt} (hsz : ds.length ≤ 100000) {W : Fz} {vs : List Value} (hv : Reps W vs [.val (.ref a)]) : Go c ⟨vars, pre ++ ⟨a, b, .lst ds⟩ :: post⟩ W (call (.type "tuple") vs) (Is ⟨vars, pre ++ ⟨a, b, .lst ds⟩ :: post⟩ (.tup ds)) := by
  (replace hv := Reps.cons_inv hv; obtain ⟨_, _, rfl, r1, r⟩ := hv)
  cases r; cases r1
  intro W h tk Q E hs I hQ
  obtain ⟨vs, n, e, r⟩ := I.own ⟨a, b, .lst ds⟩ (List.mem_append_right _ (.head _))
  have hl : vs.size = ds.length := by rw [← r.length, Array.length_toList]
  refine call_tuple_list (s := St c.s₀ h tk) (items := vs) ⟨_, e, rfl, n, rfl⟩ (fun h' hk => ?_) (by rw [hl]; exact Nat.le_trans hsz (by decide))
  have I2 : Inv c ⟨vars, pre ++ ⟨a, b, .lst ds⟩ :: post⟩ W h' := I.grow (Sub.refl _) hk (fun b o e => hk b o (I.keep b o e)) (fun b o e => .inl e)
  exact hQ _ _ _ tk _ (I2.push (tupO vs 0) rfl) (Fz.sub_put I2.none_size) ⟨rfl, .tup (Fz.put_self ..) (r.mono (Fz.sub_put I2.none_size))⟩
theorem Ev.subOwn {o i : Expr} {pos : Pos} {vars : List (Str × Dt)} {pre post : List Ow} {a b : Addr} {ds : List Dt} {k : Nat} {d : Dt} (ho : Ev c ⟨vars, pre ++ ⟨a, b, .lst ds⟩ :: post⟩ o (.val (.ref a))) (hi : Ev c ⟨vars, pre ++ ⟨a, b, .lst ds⟩ :: post⟩ i (.int (k : Int))) (hd : ds[k]? = some d) (hsz : ds.length ≤ 100000)
    (hs : ∀ o x, subscripted i false o x = PySem.operate [o, x] (getItem o x) := by intro _ _; rfl) : Ev c ⟨vars, pre ++ ⟨a, b, .lst ds⟩ :: post⟩ (.Subscript o i pos) d := fun W₁ => by
  rw [eval_Subscript]
  refine Go.bind (ho _) (isK fun ov W hs1 r1 => ?_)
  refine Go.bind (Go.holding (hi _)) (isK fun iv W2 hs2 r2 => ?_)
  cases r1
  (replace r2 := Rep.int_inv r2; obtain ⟨t, rfl⟩ := r2)
  refine Go.at ?_
  have hp : Go c ⟨vars, pre ++ ⟨a, b, .lst ds⟩ :: post⟩ W2 (getitemInPython (.ref a)) (fun r _ F' => F' = ⟨vars, pre ++ ⟨a, b, .lst ds⟩ :: post⟩ ∧ r = false) := fun W h tk Q E hs3 I hQ => by
    obtain ⟨vs, n, e, r⟩ := I.own ⟨a, b, .lst ds⟩ (List.mem_append_right _ (.head _))
    have ht : (St c.s₀ h tk).TypeIs (.ref a) "list" := ⟨_, e, rfl⟩
    rw [getitemInPython_of_ne ht.not_modules]
    refine wpAny_bind (wpAny_specialOf ht slot_list_getitem.lookup ?_)
    have := hQ false W h tk _ I (Sub.refl _) ⟨rfl, rfl⟩
    first | exact wpAny_pure this | exact wpAny_bind (wpAny_pure this)
  refine Go.bind hp (isK fun b W3 hs3 e => ?_)
  obtain rfl := e
  rw [hs]
  refine Go.bind (P := Is _ d) (Go.operate (Go.fresh_val fun W h tk Q E hs I hQ => ?_)) fun r W4 F4 hs4 r4 => ?_
  · obtain ⟨vs, n, e, r⟩ := I.own ⟨a, b, .lst ds⟩ (List.mem_append_right _ (.head _))
    obtain ⟨v, hv, rv⟩ := Reps.at r hd
    have hk : k < ds.length := (List.getElem?_eq_some_iff.mp hd).1
    exact wpAny_getItem_list (s := St c.s₀ h tk) (items := vs) ⟨_, e, rfl, n, rfl⟩ (Int.natCast_nonneg _) (by omega) (by rw [← Array.getElem?_toList]; exact hv) (hQ _ _ rv)
  obtain ⟨rfl, r4⟩ := r4
  refine Go.bind (Go.letTemp (P := fun _ _ F' => F' = ⟨vars, pre ++ ⟨a, b, .lst ds⟩ :: post⟩) fun _ _ => rfl) fun _ W5 F5 hs5 e => ?_
  subst e
  exact Go.pure fun _ hs6 => ⟨rfl, r4.mono (hs5.trans hs6)⟩
theorem wpAny_setOwn {A : Around} {s : Shared} {E : Value → Shared → Prop} {w : World} {l : Addr} {items : Array Value} {n : Nat} {k : Int} {t : Tok} {v : Value} {Q : Unit → Shared → Prop} (ho : s.heap.get? l = some (lstO items n)) (h0 : 0 ≤ k) (hk : k < items.size) (hfit : k < 2 ^ 63)
    (hQ : ∀ h' n', h'.get? l = some (lstO (items.setIfInBounds k.toNat v) n') → Heap.SameBut l s.heap h' → Q () { s with heap := h' }) : wpAny (model prog w) A (setItem (.ref l) (.int k t) v) Q E s := by
  have hl : s.heap.IsList l items := ⟨_, ho, rfl, n, rfl⟩
  have ty : s.TypeIs (.ref l) "list" := hl.typeIs
  clear hl
  unfold setItem
  try with_reducible refine wpAny_holding ?_
  first | refine wpAny_bind (wpAny_pure ?_) | skip
  refine wpAny_bind (wpAny_sequenceKey ty (by decide) ?_)
  refine wpAny_bind (wpAny_callSpecial?_slot (name := Str.ofString "__setitem__") ty slot_list_setitem
    (wpAny_call_entry slot_list_setitem ty entry_list_setitem ?_ (args_list_setitem _ _ _)))
  show wpAny _ _ (Builtin.List.listSubscript? (.int k t) >>= _) _ _ s
  refine wpAny_bind (wpAny_listSubscript_int (fitsIndex_of h0 hfit) ?_)
  clear hfit
  obtain ⟨j, rfl⟩ := Int.eq_ofNat_of_zero_le h0
  have hj : j < items.size := by omega
  have hx : items[j]? = some items[j] := Array.getElem?_eq_getElem hj
  refine wpAny_bind (wpAny_bind (wpAny_seqItemAt ho rfl (wpAny_pure ?_)))
  rw [hx]
  show wpAny _ _ (setSeqItemAt l j v >>= _) _ _ s
  refine wpAny_bind (wpAny_setSeqItemAt ho rfl ?_)
  have fin := hQ (s.heap.update l (Obj.mapSeq (·.setIfInBounds j v))) _ (Heap.get?_update_self _ ho rfl) (Heap.SameBut.update ..)
  first
    | exact wpAny_bind (wpAny_pure (wpAny_pure ⟨.none, rfl, wpAny_pure fin⟩))
    | exact wpAny_pure ⟨.none, rfl, wpAny_pure fin⟩
theorem Reps.set {W : Fz} {v : Value} {d : Dt} (hv : Rep W v d) {vs : List Value} {ds : List Dt} {k : Nat} (r : Reps W vs ds) : Reps W (vs.set k v) (ds.set k d) := by
  induction ds generalizing vs k with
  | nil => obtain rfl := r.inv; exact .nil
  | cons d' ds ih =>
    obtain ⟨u, vs, rfl, a, r⟩ := r.inv
    cases k with
    | zero => exact .cons hv r
    | succ k => exact .cons a (ih r)
theorem Ex.setList {o i value : Expr} {pos' pos : Pos} {vars : List (Str × Dt)} {pre post : List Ow} {a b : Addr} {ds : List Dt} {k : Nat} {d : Dt} {P : Fl → Frame → Prop}
    (hv : Ev c ⟨vars, pre ++ ⟨a, b, .lst ds⟩ :: post⟩ value d) (ho : Ev c ⟨vars, pre ++ ⟨a, b, .lst ds⟩ :: post⟩ o (.val (.ref a))) (hi : Ev c ⟨vars, pre ++ ⟨a, b, .lst ds⟩ :: post⟩ i (.int (k : Int)))
    (hk : k < ds.length) (hsz : ds.length ≤ 100000) (hp : P .next ⟨vars, pre ++ ⟨a, b, .lst (ds.set k d)⟩ :: post⟩)
    (hs : swapsWith value (some (.Subscript o i pos')) pos.line c.env = Pure.pure false := by rfl) : Ex c ⟨vars, pre ++ ⟨a, b, .lst ds⟩ :: post⟩ (.Assign [.Subscript o i pos'] value pos) P := fun W₁ W h tk Q E hW I hQ => by
  refine wpAny_Assign_Subscript ?_ hs
  refine hv W W h tk _ _ (Sub.refl _) I (isQ fun v W1 h1 tk1 I1 hs1 r1 => ?_)
  refine ho W1 W1 h1 tk1 _ _ (Sub.refl _) I1 (isQ fun ov W2 h2 tk2 I2 hs2 r2 => ?_)
  refine hi W2 W2 h2 tk2 _ _ (Sub.refl _) I2 (isQ fun iv W3 h3 tk3 I3 hs3 r3 => ?_)
  cases r2
  (replace r3 := Rep.int_inv r3; obtain ⟨t, rfl⟩ := r3)
  obtain ⟨vs, n, e, r⟩ := I3.own ⟨a, b, .lst ds⟩ (List.mem_append_right _ (.head _))
  have hl : vs.size = ds.length := by rw [← r.length, Array.length_toList]
  refine wpAny_setOwn (s := St c.s₀ h3 tk3) (items := vs) e (Int.natCast_nonneg _) (by omega) (by omega) (fun h' n' hd' hs' => ?_)
  have I4 : Inv c ⟨vars, pre ++ ⟨a, b, .lst (ds.set k d)⟩ :: post⟩ W3 h' := I3.own_turn (p := ⟨a, b, .lst ds⟩) rfl (fun b' o' hb' e => hs'.extBut b' o' (fun q => hb' (by simp [Ow.ads, q])) e)
    ⟨_, n', hd', by rw [Array.toList_setIfInBounds]; exact Reps.set (r1.mono (hs2.trans hs3)) r⟩
  exact hQ .next W3 h' _ _ I4 ((hs1.trans hs2).trans hs3) ⟨.next, trivial, hp⟩
theorem Ex.assign3 {x y z : Str} {sc : Scope} {p1 p2 p3 pos : Pos} {value : Expr} {d : Dt} {P : Fl → Frame → Prop} (hs : c.env.scope = sc) (hx : sc.names.lookup x = some .local) (hy : sc.names.lookup y = some .local) (hz : sc.names.lookup z = some .local) (hv : Ev c F value d)
    (hp : P .next (((F.set x d).set y d).set z d))
    (he : (assignEach [.Name x p1, .Name y p2, .Name z p3] c.env).map (·.2) = [PySem.assign (.Name x p1) c.env, PySem.assign (.Name y p2) c.env, PySem.assign (.Name z p3) c.env] := by rfl)
    (hw : swappedStores [.Name x p1, .Name y p2, .Name z p3] value c.env = Pure.pure none := by rfl) : Ex c F (.Assign [.Name x p1, .Name y p2, .Name z p3] value pos) P := fun W₁ W h tk Q E hW I hQ => by
  refine wpAny_Assign_three ?_ he hw
  refine hv W W h tk _ _ (Sub.refl _) I (isQ fun v W1 h1 tk1 I1 hs1 r1 => ?_)
  refine As.name hs hx W1 v r1 W1 h1 tk1 _ _ (Sub.refl _) I1 fun _ W2 h2 tk2 F2 I2 hs2 e => ?_
  subst e
  refine As.name hs hy W2 v (r1.mono hs2) W2 h2 tk2 _ _ (Sub.refl _) I2 fun _ W3 h3 tk3 F3 I3 hs3 e => ?_
  subst e
  refine As.name hs hz W3 v (r1.mono (hs2.trans hs3)) W3 h3 tk3 _ _ (Sub.refl _) I3 fun _ W4 h4 tk4 F4 I4 hs4 e => ?_
  subst e
  exact hQ .next W4 h4 tk4 _ I4 (((hs1.trans hs2).trans hs3).trans hs4) ⟨.next, trivial, hp⟩
end
end
end
section
open PySem PySem.W PySem.Calls PyProof.Rows PySem.Spec Builtin Builtin.ObjectAttr
set_option Elab.async false
set_option maxRecDepth 100000
set_option linter.unusedVariables false
set_option linter.unusedSimpArgs false
section
section
variable {c : Cx} {F : Frame} {W₁ : Fz}
theorem foldl_rep {x : Value} : ∀ (k : Nat) (a : Array Value), (List.foldl (fun x1 x2 => x1 ++ x2) a (List.replicate k #[x])).toList = a.toList ++ List.replicate k x
  | 0, a => by simp
  | k + 1, a => by rw [List.replicate_succ, List.foldl_cons, foldl_rep k, List.replicate_succ]; simp
theorem Reps.replicate {W : Fz} {v : Value} {d : Dt} (h : Rep W v d) : ∀ k : Nat, Reps W (List.replicate k v) (List.replicate k d)
  | 0 => .nil
  | k + 1 => .cons h (Reps.replicate h k)
theorem Bop.mul_one {d : Dt} {k : Nat} (hk : k ≤ 100000) : Bop .Mult (.lst [d]) (.int (k : Int)) (.lst (List.replicate k d)) := fun c F W₁ a b ha hb W h tk Q E hs I hQ => by
  obtain ⟨a, vs, n, rfl, e, r⟩ := Rep.lst_inv ha
  (replace hb := Rep.int_inv hb; obtain ⟨u, rfl⟩ := hb)
  obtain ⟨v, rfl, rv⟩ : ∃ v, vs = #[v] ∧ Rep W₁ v d := by
    obtain ⟨l⟩ := vs
    (replace r := Reps.cons_inv r; obtain ⟨_, _, rfl, r1, r2⟩ := r)
    cases r2
    exact ⟨_, rfl, r1⟩
  have hl := I.keep _ _ (hs _ _ e)
  have key : ∀ x : Int, x = (k : Int) → wpAny (model prog c.w) c.A (binaryOp .Mult (.ref a) (.int x u)) Q E (St c.s₀ h tk) := fun x hx => by
    refine wpAny_binaryOp_repeat_ref (T := "list") (U := "int") (by decide) ⟨_, hl, rfl⟩ (fun s' => typeIs_int s' x u) noFill_list_mul PySem.F.fills_int_mul PySem.F.slot_int_rmul repeat_list PySem.F.slot_int_index.lookup
      (call_meets PySem.F.slot_int_rmul (typeIs_int _ x u) PySem.F.entry_int_rmul (PySem.F.args_int_rmul_2 _ _) (int___rmul___int_list x u a #[v] n)
        ⟨hl, rfl, ⟨_, hl, rfl⟩, call_meets PySem.F.slot_list_mul ⟨_, hl, rfl⟩ PySem.F.entry_list_mul (PySem.F.args_list_mul_2 _ _)
          (AutoListH.list___mul___list_int_3 a #[v] n x u (by simp [Builtin.List.listFitsIndex]; omega) (by simp; omega) (by simp [Builtin.List.listTooLong, sizeLine]; omega))
          ⟨hl, ?_⟩⟩)
    refine hQ _ _ _ tk F (I.push (lstO (List.foldl (fun x1 x2 => x1 ++ x2) #[] (List.replicate (if (#[v] : Array Value).isEmpty = true then 0 else x.toNat) #[v])) 0) rfl) (Fz.sub_put I.none_size) ⟨rfl, .lst (Fz.put_self ..) ?_⟩
    rw [foldl_rep, hx]
    exact (Reps.replicate (rv.mono hs) k).mono (Fz.sub_put I.none_size)
  exact key _ rfl
theorem Ex.assignGrow {sc : Scope} {x : Str} {y e : Expr} {bpos pos' pos : Pos} {vars : List (Str × Dt)} {pre post : List Ow} {a b : Addr} {ds ds' : List Dt} {P : Fl → Frame → Prop} (hs : c.env.scope = sc) (hx : sc.names.lookup x = some .local)
    (hy : Ev c ⟨vars, pre ++ ⟨a, b, .lst ds⟩ :: post⟩ y (.val (.ref a))) (he : Ev c ⟨vars, pre ++ ⟨a, b, .lst ds⟩ :: post⟩ e (.lst ds')) (hsz : ds.length + ds'.length ≤ 100000)
    (hp : ∀ a', P .next ⟨(x, .val (.ref a')) :: vars, ⟨a', 0, .lst (ds ++ ds')⟩ :: (pre ++ post)⟩)
    (hsw : swapsWith (.BinOp y .Add e bpos) (some (.Name x pos')) pos.line c.env = Pure.pure false := by rfl) : Ex c ⟨vars, pre ++ ⟨a, b, .lst ds⟩ :: post⟩ (.Assign [.Name x pos'] (.BinOp y .Add e bpos) pos) P :=
  Ex.assignP hs hx (fun W₁ => by
    rw [eval_BinOp]
    refine Go.bind (hy _) (isK fun u W hs1 r1 => ?_)
    refine Go.bind (Go.holding (he _)) (isK fun u2 W2 hs2 r2 => ?_)
    refine Go.at (Go.operate ?_)
    cases r1
    intro W3 h tk Q E hs3 I hQ
    obtain ⟨a2, vs2, n2, rfl, e2, q2⟩ := Rep.lst_inv (r2.mono hs3)
    obtain ⟨vs, n, e1, q1⟩ := I.own ⟨a, b, .lst ds⟩ (List.mem_append_right _ (.head _))
    have l1 : vs.toList.length = ds.length := q1.length
    have l2 : vs2.toList.length = ds'.length := q2.length
    have I2 : Inv c ⟨vars, pre ++ post⟩ W3 h := I.own_drop
    refine PySem.P.add_list (s := St c.s₀ h tk) e1 (I.keep _ _ e2) (hQ _ W3 _ tk ⟨vars, ⟨h.objs.size, 0, .lst (ds ++ ds')⟩ :: (pre ++ post)⟩ (I2.push_own (lstO (vs ++ vs2) 0) ⟨h.objs.size, 0, .lst (ds ++ ds')⟩ rfl ⟨vs ++ vs2, 0, Heap.get?_push_size _ rfl, by rw [Array.toList_append]; exact q1.append q2⟩) (Sub.refl _) ⟨_, .val _, hp _⟩) ?_
    rw [← Array.length_toList, ← Array.length_toList, l1, l2]; exact Nat.le_trans hsz (by decide)) hsw
end
end
end
section
open PySem PySem.W PySem.Calls PyProof.Rows PySem.Spec Builtin Builtin.ObjectAttr
set_option Elab.async false
set_option maxRecDepth 100000
set_option linter.unusedVariables false
set_option linter.unusedSimpArgs false
section
theorem sEq1 (a b : Nat) : sEq ⟨#[a]⟩ ⟨#[b]⟩ = decide (a = b) := by
  show ([a] == [b]) = _
  by_cases h : a = b
  · subst h; simp
  · simp [h]
theorem Tr.join {ι : Type} {c : Cx} {F : Frame} {t : Expr} {body orelse rest : List Stmt} {pos : Pos} {b : Bool} {P : Fl → Frame → Prop} (V : ι → List (Str × Dt)) (ow : ι → List Ow) (J : ι → Prop) (h : Te c F t b)
    (h1 : b = true → Tr c F body (fun f F' => f = .next ∧ ∃ y, Has (V y) (ow y) F' ∧ J y)) (h2 : b = false → Tr c F orelse (fun f F' => f = .next ∧ ∃ y, Has (V y) (ow y) F' ∧ J y)) (h3 : ∀ y, J y → Tr c ⟨V y, ow y⟩ rest P) : Tr c F (.If t body orelse pos :: rest) P := by
  have k : ∀ f F', (f = Fl.next ∧ ∃ y, Has (V y) (ow y) F' ∧ J y) → Then c rest P f F' := by
    rintro f F' ⟨rfl, y, hy, hj⟩
    exact Tr.has hy (h3 y hj)
  exact Tr.cons (Ex.if_ h (fun e => (h1 e).mono k) (fun e => (h2 e).mono k))
noncomputable abbrev cntD (l : List Nat) : List Dt := l.map fun (n : Nat) => Dt.int (n : Int)
noncomputable def bump (l : List Nat) (b : Nat) : List Nat :=
  let l1 := if l.length ≤ b then l ++ List.replicate (b - l.length + 1) 0 else l
  l1.set b (l1.getD b 0 + 1)
noncomputable abbrev Wst := List Nat × Nat × Nat × Nat
noncomputable def wsStep (s : Wst) (ch : Nat) : Wst := if ch = 32 then (s.1, s.2.1 + 1, s.2.2.1 + 1, s.2.2.2) else (bump s.1 s.2.1, 0, s.2.2.1 + 1, s.2.2.2 + 1)
noncomputable def wsRun (l : List Nat) : Wst := l.foldl wsStep ([], 0, 0, 0)
noncomputable def wsF (x : Str) : List (Str × Dt) :=
  let s := wsRun x.cps.toList
  [(Str.ofString "raw", .str x), (Str.ofString "n", .int (s.2.2.1 : Int)), (Str.ofString "nt", .int (s.2.2.2 : Int)), (Str.ofString "norm", .tup [.tup (cntD s.1), .int (s.2.1 : Int)]), (Str.ofString "is_simple", .bool (decide ((s.1.length : Int) ≤ 1)))]
theorem bump_len (l : List Nat) (b : Nat) : (bump l b).length ≤ max l.length (b + 1) := by
  unfold bump; dsimp only; split <;> simp <;> omega
theorem ws_small (l : List Nat) : ∀ (s : Wst) (n : Nat), s.1.length ≤ n → s.2.1 ≤ n → (l.foldl wsStep s).1.length ≤ n + l.length + 1 ∧ (l.foldl wsStep s).2.1 ≤ n + l.length := by
  induction l with
  | nil => intro s n h1 h2; simp; omega
  | cons a l ih =>
    intro s n h1 h2
    rw [List.foldl_cons, List.length_cons]
    have hb := bump_len s.1 s.2.1
    have := ih (wsStep s a) (n + 1) (by unfold wsStep; split <;> dsimp only <;> omega) (by unfold wsStep; split <;> dsimp only <;> omega)
    omega
theorem ws_S (w : World) : ∃ v, findCls (KK w) (.ref 260) (.type "type") "S" = some (.val v) ∧ ∀ W, Rep W v (.str ⟨#[32]⟩) := ⟨_, by rfl, fun W => .str _ _⟩
theorem ws_T (w : World) : ∃ v, findCls (KK w) (.ref 260) (.type "type") "T" = some (.val v) ∧ ∀ W, Rep W v (.str ⟨#[9]⟩) := ⟨_, by rfl, fun W => .str _ _⟩
theorem ws_new (w : World) (x : Str) (hx : ∀ ch ∈ x.cps.toList, ch = 32 ∨ ch = 9) (hn : x.cps.toList.length ≤ 1000) : Cal w (.ref 260) 2 [.str x] (.inst 260 (wsF x)) := by
  refine Cal.cls (n := 0) (fI := 215) (names := [Str.ofString "self", Str.ofString "ws"]) (hm := rfl) (hi := rfl) (hf := rfl) (hK := rfl) (hcode := rfl) (hbody := rfl) (hbind := ?_) (hcell := by decide) (hloc := by decide) (hco := rfl) (hgen := rfl) (hk := rfl) (hgl := rfl) (hbi := rfl) (hlen := rfl) ?_
  · rintro vs hv
    obtain ⟨a, b, rfl⟩ : ∃ a b, vs = [a, b] := by
      rcases vs with _ | ⟨a, _ | ⟨b, _ | ⟨e, r⟩⟩⟩ <;> first | exact ⟨_, _, rfl⟩ | simp at hv
    rfl
  · intro c o od hw hk hs hb
    subst hw
    dsimp only at hs
    refine' Tr.cons (Ex.setAttr (pre := []) (post := []) (fs := []) ?za1 ?za2 ⟨rfl, rfl, rfl, rfl⟩ rfl (by decide) ?za3)
    case za1 => walk_at "ev"
    case za2 => walk_at "ev"
    case za3 =>
    show Tr _ _ _ _
    obtain ⟨vS, eS, rS⟩ := ws_S c.w
    obtain ⟨vT, eT, rT⟩ := ws_T c.w
    refine' Tr.cons (Ex.swap2 hs rfl rfl (Ev.attrCls ?zb1 rfl eS rS) (Ev.attrCls ?zb2 rfl eT rT) ?zb3)
    case zb1 => walk_at "nm"
    case zb2 => walk_at "nm"
    case zb3 =>
    show Tr _ _ _ _
    refine' Tr.cons (Ex.assignListOwn hs rfl fun a => ?_)
    show Tr _ _ _ _
    refine' Tr.cons (Ex.assign3 (d := .int 0) hs rfl rfl rfl ?zc1 ?zc2)
    case zc1 => walk_at "ev"
    case zc2 =>
    show Tr _ _ _ _
    have hfit := ws_small x.cps.toList ([], 0, 0, 0) 0 (Nat.le_refl _) (Nat.le_refl _)
    refine' Tr.cons (Ex.forHI (ι := Addr × Wst) (ds := signsD x) (Its.of (Ev.attrOwn (pre := [⟨a, 0, .lst []⟩]) (post := []) (C := 260) (a := o) (b := od) (fs := [(Str.ofString "raw", .str x)]) ?zd1 ⟨rfl, rfl, rfl⟩ rfl) Itv.str)
      (fun i => [(Str.ofString "count", .val (.ref i.1)), (Str.ofString "b", .int (i.2.2.1 : Int)), (Str.ofString "n", .int (i.2.2.2.1 : Int)), (Str.ofString "nt", .int (i.2.2.2.2 : Int)), (Str.ofString "S", .str ⟨#[32]⟩), (Str.ofString "T", .str ⟨#[9]⟩), (Str.ofString "self", .val (.ref o))])
      (fun i => [⟨i.1, 0, .lst (cntD i.2.1)⟩, ⟨o, od, .inst 260 [(Str.ofString "raw", .str x)]⟩])
      (fun k i => i.2 = wsRun (x.cps.toList.take k)) (a, ([], 0, 0, 0)) ⟨rfl, rfl, rfl, rfl, rfl, rfl, rfl, rfl, trivial⟩ rfl ?zd2 ?zd3)
    case zd1 => walk_at "nm"
    case zd2 =>
      rintro ps i ⟨a, cnt, b, n, nt⟩ d hd hJ
      have hs' : (c.hides ps).env.scope = _ := hs
      obtain ⟨ch, hch, rfl⟩ : ∃ ch, x.cps.toList[i]? = some ch ∧ d = .str ⟨#[ch]⟩ := by
        unfold signsD at hd
        rw [List.getElem?_map] at hd
        obtain ⟨ch, h1, h2⟩ := Option.map_eq_some_iff.mp hd
        exact ⟨ch, h1, h2.symm⟩
      have hnext : wsRun (x.cps.toList.take (i + 1)) = wsStep (cnt, b, n, nt) ch := by
        rw [List.take_succ, hch, show (some ch).toList = [ch] from rfl]
        unfold wsRun at hJ ⊢
        rw [List.foldl_append, ← hJ]; rfl
      have hil : i < x.cps.toList.length := (List.getElem?_eq_some_iff.mp hch).1
      have hsm : cnt.length ≤ 1001 ∧ b ≤ 1000 := by
        have := ws_small (x.cps.toList.take i) ([], 0, 0, 0) 0 (Nat.le_refl _) (Nat.le_refl _)
        have e : (x.cps.toList.take i).foldl wsStep ([], 0, 0, 0) = (cnt, b, n, nt) := hJ.symm
        rw [e, List.length_take] at this
        dsimp only at this
        omega
      have hm := hx ch (List.mem_of_getElem? hch)
      refine' ⟨_, As.name hs' rfl, ?_⟩
      refine' Tr.cons (Ex.if_ (b := decide (ch = 32)) ?ze1 ?ze2 ?ze3)
      case ze1 =>
        have : sEq ⟨#[ch]⟩ ⟨#[32]⟩ = decide (ch = 32) := sEq1 _ _
        rw [← this]
        walk_at "te"
      case ze2 =>
        intro e
        have e := of_decide_eq_true e
        walk_at "st"
        walk_at "st"
        refine Tr.nil ?_
        show Tr _ _ _ _
        refine Tr.nil ⟨(a, cnt, b + 1, n + 1, nt), ⟨rfl, rfl, rfl, rfl, rfl, rfl, rfl, rfl, trivial⟩, ?_⟩
        rw [hnext, wsStep, if_pos e]
      case ze3 =>
        intro e
        have e := of_decide_eq_false e
        have e9 : ch = 9 := by omega
        subst e9
        refine' Tr.cons (Ex.if_ (b := sEq ⟨#[9]⟩ ⟨#[9]⟩) ?zf1 ?zf2 (fun q => by rw [sEq1] at q; simp at q))
        case zf1 => walk_at "te"
        case zf2 =>
        intro _
        show Tr _ _ _ _
        walk_at "st"
        walk_at "st"
        refine' Tr.join (fun (i : Addr × List Nat) => [(Str.ofString "count", .val (.ref i.1)), (Str.ofString "b", .int (b : Int)), (Str.ofString "n", .int ((n + 1 : Nat) : Int)), (Str.ofString "nt", .int ((nt + 1 : Nat) : Int)), (Str.ofString "S", .str ⟨#[32]⟩), (Str.ofString "T", .str ⟨#[9]⟩), (Str.ofString "self", .val (.ref o))])
          (fun i => [⟨i.1, 0, .lst (cntD i.2)⟩, ⟨o, od, .inst 260 [(Str.ofString "raw", .str x)]⟩]) (fun i => b < i.2.length ∧ i.2.length ≤ 5000 ∧ bump cnt b = i.2.set b (i.2.getD b 0 + 1))
          (Te.compare ?zg1 (fun W => Ev.callF (P := Is _ _) ?zg2 ?zg3 ?zg4 (fun W vs hv => lenOwn (pre := []) (ds := cntD cnt) ?zg5 hv)) (Cop.ge_int _ _)) ?zg6 ?zg7 ?zg8
        case zg1 => walk_at "ev"
        case zg2 => walk_at "nm"
        case zg3 => walk_at "kept"
        case zg4 => walk_at "evs"
        case zg5 => simp; omega
        case zg6 =>
          intro q
          have q := of_decide_eq_true q
          rw [List.length_map] at q
          dsimp only at q
          have qn : cnt.length ≤ b := by omega
          refine' Tr.cons (Ex.assignGrow (pre := []) (ds := cntD cnt) (ds' := List.replicate (b - cnt.length + 1) (.int 0)) hs' rfl ?zh1 (Ev.binop (Ev.list (Evs.cons (Ev.int _ _ _) Evs.nil)) (Eq.mp (congrArg (fun i => Ev _ _ _ (.int i)) ?zh3) (Ev.binop (Ev.binop (d1 := .int (b : Int)) (d2 := .int ((cntD cnt).length : Int)) ?zh4 (fun W => Ev.callF (P := Is _ _) ?zh10 ?zh11 ?zh12 (fun W vs hv => lenOwn (pre := []) (ds := cntD cnt) ?zh13 hv)) (Bop.sub_int _ _)) (Ev.int _ _ _) (Bop.add_int _ _))) (Bop.mul_one (k := b - cnt.length + 1) ?zh6)) ?zh7 (fun a' => ?zh8))
          case zh1 => walk_at "nm"
          case zh3 => rw [List.length_map]; omega
          case zh4 => walk_at "ev"
          case zh10 => walk_at "nm"
          case zh11 => walk_at "kept"
          case zh12 => walk_at "evs"
          case zh13 => simp; omega
          case zh6 => omega
          case zh7 => simp; omega
          case zh8 =>
            refine Tr.nil ⟨rfl, (a', cnt ++ List.replicate (b - cnt.length + 1) 0), ⟨?_, rfl, rfl, rfl, rfl, rfl, rfl, rfl, trivial⟩, ?_, ?_, ?_⟩
            · simp [cntD]
            · simp; omega
            · simp; omega
            · unfold bump; rw [if_pos qn]
        case zg7 =>
          intro q
          have q := of_decide_eq_false q
          rw [List.length_map] at q
          dsimp only at q
          have qn : ¬ cnt.length ≤ b := by omega
          refine Tr.nil ⟨rfl, (a, cnt), ⟨rfl, rfl, rfl, rfl, rfl, rfl, rfl, rfl, trivial⟩, ?_, ?_, ?_⟩
          · dsimp only; omega
          · dsimp only; omega
          · unfold bump; rw [if_neg qn]
        case zg8 =>
          rintro ⟨a', l1⟩ ⟨hb1, hl1, hbu⟩
          dsimp only at hb1 hl1 hbu
          have hget : (cntD l1)[b]? = some (.int ((l1.getD b 0 : Nat) : Int)) := by
            rw [List.getElem?_map, List.getElem?_eq_getElem hb1, List.getD_eq_getElem?_getD, List.getElem?_eq_getElem hb1]; rfl
          refine' Tr.cons (Ex.setList (pre := []) (k := b) (ds := cntD l1) (d := .int ((l1.getD b 0 : Nat) + 1 : Int)) (Ev.binop (Ev.subOwn (pre := []) (k := b) ?zi1 ?zi2 hget ?zi4) (Ev.int _ _ _) (Bop.add_int _ _)) ?zi6 ?zi7 ?zi8 ?zi9 ?zi10)
          case zi1 => walk_at "nm"
          case zi2 => walk_at "nm"
          case zi4 => simp; omega
          case zi6 => walk_at "nm"
          case zi7 => walk_at "nm"
          case zi8 => simpa using hb1
          case zi9 => simp; omega
          case zi10 =>
          show Tr _ _ _ _
          walk_at "st"
          refine Tr.nil ?_
          show Tr _ _ _ _
          refine Tr.nil ?_
          show Tr _ _ _ _
          refine Tr.nil ⟨(a', bump cnt b, 0, n + 1, nt + 1), ⟨?_, rfl, rfl, rfl, rfl, rfl, rfl, rfl, trivial⟩, ?_⟩
          · have e1 : cntD (l1.set b (l1.getD b 0 + 1)) = (cntD l1).set b (.int ((l1.getD b 0 : Nat) + 1 : Int)) := by rw [cntD, List.map_set]; rfl
            show [(⟨a', 0, .lst ((cntD l1).set b (.int ((l1.getD b 0 : Nat) + 1 : Int)))⟩ : Ow), _] = [⟨a', 0, .lst (cntD (bump cnt b))⟩, _]
            rw [hbu, e1]
          · rw [hnext]; rfl
    case zd3 =>
      rintro ⟨a, cnt, b, n, nt⟩ hJ
      have hJ : (cnt, b, n, nt) = wsRun x.cps.toList := by
        have hl : (signsD x).length = x.cps.toList.length := by simp [signsD]
        rw [hl, List.take_length] at hJ; exact hJ
      have hsm : cnt.length ≤ 1001 ∧ b ≤ 1000 := by
        have e : x.cps.toList.foldl wsStep ([], 0, 0, 0) = (cnt, b, n, nt) := hJ.symm
        rw [e] at hfit
        dsimp only at hfit
        omega
      show Tr _ _ _ _
      refine' Tr.cons (Ex.setAttr (pre := [⟨a, 0, .lst (cntD cnt)⟩]) (post := []) (d := .int (n : Int)) ?zj1 ?zj2 ⟨rfl, rfl, rfl, rfl⟩ rfl (by simp) ?zj3)
      case zj1 => walk_at "nm"
      case zj2 => walk_at "nm"
      case zj3 =>
      show Tr _ _ _ _
      refine' Tr.cons (Ex.setAttr (pre := [⟨a, 0, .lst (cntD cnt)⟩]) (post := []) (d := .int (nt : Int)) ?zk1 ?zk2 ⟨rfl, rfl, rfl, rfl⟩ rfl (by simp) ?zk3)
      case zk1 => walk_at "nm"
      case zk2 => walk_at "nm"
      case zk3 =>
      show Tr _ _ _ _
      refine' Tr.cons (Ex.setAttr (pre := [⟨a, 0, .lst (cntD cnt)⟩]) (post := []) (d := .tup [.tup (cntD cnt), .int (b : Int)]) (Ev.tuple (Evs.cons (fun W => Ev.callF (P := Is _ _) ?zl1 ?zl2 ?zl3 (fun W vs hv => tupOwn (pre := []) (ds := cntD cnt) ?zl4 hv)) (Evs.cons ?zl5 Evs.nil))) ?zl6 ⟨rfl, rfl, rfl, rfl⟩ rfl (by simp) ?zl7)
      case zl1 => walk_at "nm"
      case zl2 => walk_at "kept"
      case zl3 => walk_at "evs"
      case zl4 => simp; omega
      case zl5 => walk_at "nm"
      case zl6 => walk_at "nm"
      case zl7 =>
      show Tr _ _ _ _
      refine' Tr.cons (Ex.setAttr (pre := [⟨a, 0, .lst (cntD cnt)⟩]) (post := []) (d := .bool (decide (((cntD cnt).length : Int) ≤ 1))) (Ev.compare (fun W => Ev.callF (P := Is _ _) ?zm1 ?zm2 ?zm3 (fun W vs hv => lenOwn (pre := []) (ds := cntD cnt) ?zm4 hv)) (Ev.int _ _ _) (Cop.le_int _ _)) ?zm5 ⟨rfl, rfl, rfl, rfl⟩ rfl (by simp) ?zm6)
      case zm1 => walk_at "nm"
      case zm2 => walk_at "kept"
      case zm3 => walk_at "evs"
      case zm4 => simp; omega
      case zm5 => walk_at "nm"
      case zm6 =>
      have hF : wsF x = [(Str.ofString "raw", .str x), (Str.ofString "n", .int (n : Int)), (Str.ofString "nt", .int (nt : Int)), (Str.ofString "norm", .tup [.tup (cntD cnt), .int (b : Int)]), (Str.ofString "is_simple", .bool (decide (((cntD cnt).length : Int) ≤ 1)))] := by
        unfold wsF
        rw [← hJ, List.length_map]
      have fin : ∀ vars : List (Str × Dt), Ri o od 260 (wsF x) .next ⟨vars, [⟨a, 0, .lst (cntD cnt)⟩, ⟨o, od, .inst 260 [(Str.ofString "raw", .str x), (Str.ofString "n", .int (n : Int)), (Str.ofString "nt", .int (nt : Int)), (Str.ofString "norm", .tup [.tup (cntD cnt), .int (b : Int)]), (Str.ofString "is_simple", .bool (decide (((cntD cnt).length : Int) ≤ 1)))]⟩]⟩ := fun vars => by
        rw [hF]
        exact ⟨.inr rfl, vars, [⟨a, 0, .lst (cntD cnt)⟩], [], rfl⟩
      exact Tr.nil (fin _)
end
end
section
open PySem PySem.W PySem.Calls PyProof.Rows PySem.Spec Builtin Builtin.ObjectAttr
set_option Elab.async false
set_option maxRecDepth 100000
set_option linter.unusedVariables false
set_option linter.unusedSimpArgs false
section
theorem Cal.len_tup {w : World} {n : Nat} (ds : List Dt) (hsz : ds.length ≤ 100000) : Cal w (.builtin "len") n [.tup ds] (.int (ds.length : Int)) := fun c F W₁ vs _ _ r => by
  (replace r := Reps.cons_inv r; obtain ⟨_, _, rfl, r1, r⟩ := r)
  cases r
  refine Go.fresh_val fun W h tk Q E hs I hQ => ?_
  obtain ⟨a, vs, m, rfl, e, r⟩ := Rep.tup_inv (r1.mono hs)
  have hl : vs.size = ds.length := by rw [← r.length, Array.length_toList]
  refine PySem.P.len_tuple (s := St c.s₀ h tk) (items := vs) (n := m) (I.keep _ _ e) (by rw [hl]; omega) ?_
  rw [hl]
  exact hQ _ (tk + 1 + 1) (.int _ _)
noncomputable def wsLong (x : Str) : Int := if ((wsRun x.cps.toList).2.1 : Int) > ((wsRun x.cps.toList).1.length : Int) - 1 then ((wsRun x.cps.toList).2.1 : Int) else ((wsRun x.cps.toList).1.length : Int) - 1
theorem met_long (w : World) : Met w 260 "longest_run_of_spaces" 222 := ⟨rfl, rfl, rfl, rfl⟩
theorem atr_norm (w : World) : Atr w 260 (Str.ofString "norm") := ⟨rfl, rfl, rfl⟩
theorem long_cal (w : World) (x : Str) (hn : x.cps.toList.length ≤ 1000) : Cal w (.ref 222) 1 [.inst 260 (wsF x)] (.int (wsLong x)) := by
  have hfit := ws_small x.cps.toList ([], 0, 0, 0) 0 (Nat.le_refl _) (Nat.le_refl _)
  have hfit : (wsRun x.cps.toList).1.length ≤ 1001 := by
    have := hfit.1
    unfold wsRun; omega
  refine Cal.fn (n := 0) (names := [Str.ofString "self"]) (hK := rfl) (hcode := rfl) (hbody := rfl) (hbind := ?_) (hcell := by decide) (hloc := by decide) (hco := rfl) (hgen := rfl) (hk := rfl) (hgl := rfl) (hbi := rfl) (hlen := rfl) (hvars := rfl) ?_
  · rintro vs hv
    obtain ⟨a, rfl⟩ : ∃ a, vs = [a] := by
      rcases vs with _ | ⟨a, _ | ⟨b, r⟩⟩ <;> first | exact ⟨_, rfl⟩ | simp at hv
    rfl
  · intro c hw hk hs
    subst hw
    dsimp only at hs
    refine' Tr.cons (Ex.assignT (d := .tup [.tup (cntD (wsRun x.cps.toList).1), .int ((wsRun x.cps.toList).2.1 : Int)]) (Ev.attr (fs := wsF x) ?za1 (atr_norm _) rfl) (As.tuple (Ass.cons (As.name hs rfl) (Ass.cons (As.name hs rfl) Ass.nil))) ?za2)
    case za1 => walk_at "nm"
    case za2 =>
    show Tr _ _ _ _
    refine' Tr.cons (Ex.ret (Ev.call ?zb1 ?zb2 (Evs.cons (Ev.binop (Ev.call ?zb3 ?zb4 ?zb5 (Cal.len_tup (n := 0) (cntD (wsRun x.cps.toList).1) ?zb6) ?zb7) (Ev.int _ _ _) (Bop.sub_int _ _)) (Evs.cons ?zb8 Evs.nil)) (Cal.max_int (n := 0) _ _) ?zb9) ?zb10)
    case zb1 => walk_at "nm"
    case zb2 => walk_at "kept"
    case zb3 => walk_at "nm"
    case zb4 => walk_at "kept"
    case zb5 => walk_at "evs"
    case zb6 => simp; omega
    case zb7 => walk_at "room"
    case zb8 => walk_at "nm"
    case zb9 => walk_at "room"
    case zb10 => exact .inl (by rw [List.length_map]; rfl)
end
end
section
open PySem PySem.W PySem.Calls PyProof.Rows PySem.Spec Builtin Builtin.ObjectAttr
set_option Elab.async false
set_option maxRecDepth 100000
set_option maxHeartbeats 4000000
set_option linter.unusedVariables false
set_option linter.unusedSimpArgs false
section
noncomputable def makesLIn (K : Frag) (C : Addr) : Bool := match K.lookup C with
  | some ⟨_, _, .cls cd, sl⟩ => !cd.hasDel && (sl.toList[4]?).join == some (.builtin "list.__new__") && !cd.mro.isEmpty && cd.mro.contains (.ref C) && cd.mro.contains (.type "list") &&
      specialIn K (.ref C) "__call__" == some (some (.builtin "type.__call__")) && instIn K (.ref C) (.type "type") == some true
  | _ => false
structure MakesL (M : Model) (h : Heap) (C : Addr) : Prop where
  obj : ∃ oc od cd sl, h.get? C = some ⟨oc, od, .cls cd, sl⟩ ∧ cd.hasDel = false ∧ cd.mro.isEmpty = false
  made : Looks M h (Bind.madeBy (.ref C)) (some "list.__new__")
  base : Looks M h (Bind.staticBase (.ref C)) (.ref C)
  self : Looks M h (isSubtype (.ref C) (.ref C)) true
  top : Looks M h (isSubtype (.ref C) (.type "list")) true
  call : Looks M h (specialOf (.ref C) "__call__") (some (.builtin "type.__call__"))
  typ : Looks M h (isInstance (.ref C) (.type "type")) true
theorem makesL_of {K : Frag} {M : Model} {h : Heap} (X : K.In h) {C : Addr} (e : makesLIn K C = true) : MakesL M h C := by
  unfold makesLIn at e
  split at e
  · rename_i oc od cd sl ho
    simp only [Bool.and_eq_true, Bool.not_eq_true', beq_iff_eq] at e
    obtain ⟨⟨⟨⟨⟨⟨e2, e3⟩, e4⟩, e5⟩, e6⟩, e7⟩, e8⟩ := e
    have hc : clsIn K C = some cd := by unfold clsIn; rw [ho]
    have hm : Looks M h (mroOf (.ref C)) cd.mro := (looks_clsIn X hc).andThen .now
    obtain ⟨c, l, hl⟩ : ∃ c l, cd.mro = c :: l := by cases q : cd.mro with | nil => rw [q] at e4; cases e4 | cons c l => exact ⟨c, l, rfl⟩
    have made : Looks M h (Bind.madeBy (.ref C)) (some "list.__new__") := by
      intro A Q E s k q
      refine wpAny_bind (hm A _ E s k ?_)
      rw [hl, List.forIn_cons]
      refine wpAny_bind (wpAny_bind (wpAny_bind (wpAny_bind (wpAny_loadPart (k _ _ (X _ _ ho)) (wpAny_pure ?_)))))
      rw [← Array.getElem?_toList, e3]
      exact wpAny_pure (wpAny_pure (wpAny_pure q))
    refine ⟨⟨oc, od, cd, sl, X _ _ ho, e2, e4⟩, made, ?_, looks_mroIn X ?_, looks_mroIn X ?_, looks_specialIn X e7, looks_instIn X e8⟩
    · intro A Q E s k q
      refine wpAny_bind (hm A _ E s k ?_)
      rw [hl, List.forIn_cons]
      exact wpAny_bind (wpAny_bind (wpAny_bind (made A _ E s k (wpAny_pure (wpAny_pure (wpAny_pure q))))))
    · unfold mroIn; rw [hc, Option.bind_some, if_neg (by rw [e4]; decide), e5]
    · unfold mroIn; rw [hc, Option.bind_some, if_neg (by rw [e4]; decide), e6]
  · cases e
theorem acc_makes (w : World) : makesLIn (KK w) 174 = true := by rfl
end
end
section
open PySem PySem.W PySem.Calls PyProof.Rows PySem.Spec Builtin Builtin.ObjectAttr
set_option Elab.async false
set_option maxRecDepth 100000
set_option maxHeartbeats 4000000
set_option linter.unusedVariables false
set_option linter.unusedSimpArgs false
section
noncomputable abbrev accObj (C dx : Addr) : Obj := { cls := .ref C, dict := some dx, data := .seq #[] }
theorem ln_kind : builtinKind "list.__new__" = some .builtinFn := by decide +kernel
theorem ln_split : splitId "list.__new__" = some ("list", "__new__") := by decide +kernel
section
variable {w : World} {A : Around} {C : Addr} {R : Result → Shared → Prop} {h : Heap} {g : Array GenState} {d : Drawn} {t : Nat} {os : OsState}
theorem newL {init : Value} (Y : MakesL (model prog w) h C) (hq : R (.ok (.ret (.ref (h.objs.size + 1)))) ⟨(h.push emptyDict).push (accObj C h.objs.size), g, d, t, os⟩) :
    codeAny (model prog w) A (.call (.builtin "list.__new__") ⟨[.ref C], []⟩) R ⟨h, g, d, t, os⟩ := by
  obtain ⟨⟨oc, od, cd, sl, hC, e2, e4⟩, made, base, self, top, call, typ⟩ := Y
  have hown := PySem.owner_list_new
  refine codeAny_of_tree ?_
  have chk : wpAny (model prog w) A.in1 (checkBuiltinCall "list.__new__" ⟨[.ref C], []⟩) (fun _ s' => s' = ⟨h, g, d, t, os⟩) (fun _ _ => False) ⟨h, g, d, t, os⟩ := by
    simp only [checkBuiltinCall, ln_kind, ln_split]
    repeat (first | simp only [e4, Bool.not_true, Bool.false_eq_true, if_false] | lk)
  refine wpAny_bind (wpAny_mono chk (fun _ s' e => ?_) fun _ _ z => z.elim)
  subst e
  refine wpAny_pure ⟨plainId_quiet PySem.F.plain_list_new _, codeAny_builtin_stack PySem.F.entry_list_new rfl fun p st => ?_⟩
  rw [Around.under_plainId PySem.F.plain_list_new _]
  simp only [hown]
  repeat (first | simp only [Bool.not_true, Bool.false_eq_true, if_false] | lk)
  refine nd_load (Heap.get?_push_of_some _ (Heap.get?_push_of_some _ hC)) ?_
  refine nd_pure ?_
  show wpAny _ _ (pure cd.hasDel) _ _ _
  rw [e2]
  refine wpAny_pure (wpAny_pure (wpAny_pure ?_))
  have := hq
  rw [Heap.size_push]
  exact this
end
end
end
section
open PySem PySem.W PySem.Calls PyProof.Rows PySem.Spec Builtin Builtin.ObjectAttr
set_option Elab.async false
set_option maxRecDepth 100000
set_option maxHeartbeats 4000000
set_option linter.unusedVariables false
set_option linter.unusedSimpArgs false
section
section
variable {w : World} {A : Around} {C : Addr} {R : Result → Shared → Prop} {h : Heap} {g : Array GenState} {d : Drawn} {t : Nat} {os : OsState}
theorem makeL {init : Value} (Y : MakesL (model prog w) h C) (hi : Looks (model prog w) h (typeLookup (.ref C) "__init__") (some init))
    (hb : ∀ self, Looks (model prog w) h (bindSpecial init self) (init, [self]))
    (hq : codeAny (model prog w) (A.under (.builtin "type.__call__" ⟨[.ref C], []⟩)) (.call init ⟨[.ref (h.objs.size + 1)], []⟩) (InitBack (h.objs.size + 1) R) ⟨(h.push emptyDict).push (accObj C h.objs.size), g, d, t, os⟩) :
    codeAny (model prog w) A (.call (.ref C) ⟨[], []⟩) R ⟨h, g, d, t, os⟩ := by
  have Y' := Y
  obtain ⟨⟨oc, od, cd, sl, hC, e2, e4⟩, made, base, self, top, call, typ⟩ := Y
  refine codeAny_of_tree ?_
  refine nd_load hC ?_
  show wpAny _ _ (callAny.viaDunder (.ref C) _) _ _ _
  refine wpAny_bind (call.at ?_)
  dsimp only
  rw [tc_bind]
  refine wpAny_bind (wpAny_pure (wpAny_bind (wpAny_pure ?_)))
  refine wpAny_pure (a := Fin.again (.call (.builtin "type.__call__") ⟨[.ref C], []⟩)) (And.intro rfl ?_)
  refine codeAny_call_builtin_at (Code.quiet_builtin _ (by decide +kernel)) entry_typeCall (check_slot tc_kind tc_split typ (tc_args _ _ _) ?_)
  have hm : Looks (model prog w) h (mroOf (.ref C)) cd.mro := ((Looks.ld (part := none) hC).andThen .now).andThen .now
  repeat (first | simp only [e4, Bool.false_eq_true, if_false] | with_reducible refine wpAny_call ?_ | lk)
  refine newL (init := init) Y' ?_
  have k : ∀ b o, h.get? b = some o → ((h.push emptyDict).push (accObj C h.objs.size)).get? b = some o := fun b o e => Heap.get?_push_of_some _ (Heap.get?_push_of_some _ e)
  have hx : ((h.push emptyDict).push (accObj C h.objs.size)).get? (h.objs.size + 1) = some (accObj C h.objs.size) := by heap_get
  have t1 : Looks (model prog w) ((h.push emptyDict).push (accObj C h.objs.size)) (typeOf (.ref (h.objs.size + 1))) (.ref C) := (Looks.ld hx).andThen .now
  have s1 := self.keeps k
  have i1 := hi.keeps k
  have b1 := (hb (.ref (h.objs.size + 1))).keeps k
  repeat (first | with_reducible refine wpAny_call ?_ | lk)
  refine codeAny_mono hq fun r s' z => ?_
  rcases r with e | (v | _ | _ | _) <;> first | exact z | exact z.elim | skip
  obtain ⟨rfl, z⟩ := z
  exact wpAny_pure (wpAny_pure z)
end
end
end
section
open PySem PySem.W PySem.Calls PyProof.Rows PySem.Spec Builtin Builtin.ObjectAttr
set_option Elab.async false
set_option maxRecDepth 100000
set_option maxHeartbeats 4000000
set_option linter.unusedVariables false
set_option linter.unusedSimpArgs false
section
theorem refuse_list (self : Value) : refuseLoop self "__setattr__" [.type "list", .type "object"] = pure () := by
  have h1 : classOwn (.type "list") "__setattr__" = pure none := by kernel_rfl
  unfold refuseLoop
  exact PySem.F.store_object.passes self
theorem acc_mro (w : World) : (clsIn (KK w) 174).map (·.mro) = some [.ref 174, .type "list", .type "object"] := by rfl
structure StoL (w : World) (C : Addr) (name : Str) : Prop where
  cls : (clsIn (KK w) C).any (·.hasDict) = true
  sa : findIn (KK w) (.ref C) "__setattr__" = some (some (.builtin "object.__setattr__"))
  mro : (clsIn (KK w) C).map (·.mro) = some [.ref C, .type "list", .type "object"]
  tk : takerIn (KK w) C name = some none
section
variable {prog : Program} {w : World} {A : Around} {s : Shared} {K : Frag} {x C : Addr} {R : Result → Shared → Prop}
theorem osa_openL {ox : Obj} {od : Option Obj} {name : Str} {tk : Tok} {v : Value} (X : K.In s.heap) (I : InstAt s.heap x ox C od) (hp : (clsIn K C).map (·.mro) = some [.ref C, .type "list", .type "object"]) (ht : takerIn K C name = some none)
    (h : ∀ b, wpAny (model prog w) A.in1 (storeInOwnDict (.ref x) (.ref C) (.str name tk) name v b)
      (fun fin s' => match fin with | .done f => R (.ok f) s' | .again c' => c'.quiet = true ∧ codeAny (model prog w) A c' R s') (fun e s' => R (.error e) s') s) :
    codeAny (model prog w) A (.call (.builtin "object.__setattr__") ⟨[.ref x, .str name tk, v], []⟩) R s := by
  have SF := PySem.F.store_object
  obtain ⟨cd, hc, ho⟩ := Option.map_eq_some_iff.mp hp
  have sub : Looks (model prog w) s.heap (isInstance (.ref x) (.type "object")) true := I.type.andThen (looks_mroIn X (by unfold mroIn; rw [hc, Option.bind_some, ho]; simp))
  refine codeAny_call_builtin SF.slot.plain SF.entry (@check_slot (model prog w) _ _ s "object.__setattr__" "object" "__setattr__" (.ref x) [.str name tk, v] [] _ SF.kind SF.split sub (SF.args (.ref x) (.str name tk) v) ?_)
  obtain ⟨attr, ha, hr⟩ := Option.bind_eq_some_iff.mp ht
  have hm : Looks (model prog w) s.heap (mroOf (.ref C)) cd.mro := (looks_clsIn X hc).andThen .now
  have L3 : Looks (model prog w) s.heap (storeTaker? attr) none := by
    cases attr with
    | none => exact .now
    | some a =>
      obtain ⟨b, hb, e⟩ := Option.map_eq_some_iff.mp hr
      refine (looks_takesIn X hb).andThen ?_
      cases b
      · exact .now
      · cases e
  rw [osa_eq, refuse_eq]
  refine wpAny_bind (wpAny_bind (I.type.here (wpAny_bind (hm.here ?_))))
  rw [ho, refuseLoop_ref, refuse_list]
  refine wpAny_pure (wpAny_bind (I.type.here (wpAny_bind ((looks_findIn X ha).here (wpAny_bind (L3.here ?_))))))
  exact h _
end
section
variable {c : Cx} {F : Frame} {W₁ : Fz}
theorem setAtL {name : Str} {C x dx : Addr} {es : Array DictEntry} {n : Nat} {fs : List (Str × Dt)} {v : Value} {W : Fz} {h : Heap} {tk : Nat} {Q : Unit → Shared → Prop} {E : Value → Shared → Prop} {od : Data} (A : StoL c.w C name) (hl : fs.lookup name = none) (hz : fs.length ≤ 100)
    (I : Inv c F W h) (hx : h.get? x = some ⟨.ref C, some dx, od, #[]⟩) (hno : notCls ⟨.ref C, some dx, od, #[]⟩ = true) (hdx : h.get? dx = some (dicO es n)) (r : Flds W es.toList fs)
    (hQ : ∀ h' tk' t', h'.get? dx = some (dicO (es.push ⟨PyData.keyHash c.w.params name, .str name t', v⟩) (n + 1)) → (∀ b, b ≠ dx → h'.get? b = h.get? b) → Q () (St c.s₀ h' tk')) :
    wpAny (model prog c.w) c.A (setAttr (.ref x) name v) Q E (St c.s₀ h tk) := by
  obtain ⟨p, l, me, mg, mb, X, T, h1, h2⟩ := I.wd.at I.keep
  have lk := (r.lookIn (x := name) (n := n)).2 hl
  have nf := (r.look (x := name)).2.1 hl
  have nr := (r.look (x := name)).2.2
  have IA : InstAt h x ⟨.ref C, some dx, od, #[]⟩ C (some (dicO es n)) := ⟨hx, rfl, hno, hdx⟩
  refine set_plain (s := St c.s₀ h tk) (K := KK c.w) X IA A.sa ?_
  refine osa_openL (K := KK c.w) X IA A.mro A.tk fun b => ?_
  obtain ⟨cd, hc, hd'⟩ := any_some A.cls
  refine wpAny_bind (wpAny_pure (wpAny_bind (wpAny_bind (wpAny_loadPart hx (wpAny_bind ((looks_clsIn X hc).here ?_))))))
  rw [hd']
  refine wpAny_pure (a := some dx) (wpAny_bind (wpAny_pure (wpAny_bind ?_)))
  unfold nsSet
  refine wpAny_bind (wpAny_bind (wpAny_askSetting (wpAny_pure (wpAny_bind (wpAny_mkText (wpAny_bind (wpAny_loadPart hdx ?_)))))))
  dsimp only
  have c1 : (!es.any (·.key.isStr name) && es.any (·.refKey)) = false := by rw [← Array.any_toList, ← Array.any_toList, nr, Bool.and_false]
  rw [aRefKeyMayBeTheName_at, c1]
  refine wpAny_updatePart hdx ?_
  have hlen : es.size ≤ 100 := by have := r.length; rw [Array.length_toList] at this; omega
  have D' : (h.update dx (Obj.putName name (PyData.keyHash c.w.params name) (.str name (tk + 1 + 1)) v)).get? dx = some (dicO (es.push ⟨PyData.keyHash c.w.params name, .str name (tk + 1 + 1), v⟩) (n + 1)) := by
    have e1 := putName_new (hs := PyData.keyHash c.w.params name) (k := .str name (tk + 1 + 1)) (v := v) (n := n) nf
    rw [← e1]
    exact Heap.get?_update_self _ hdx (by rw [e1]; rfl)
  refine wpAny_bind (wpAny_lookBehind D' (pastItsLine_dict (by rw [Array.size_push, sizeLine_eq]; omega)) ?_)
  exact wpAny_pure (hQ _ (tk + 1 + 1) (tk + 1 + 1) D' fun b hb => Heap.get?_update_ne _ _ _ _ hb)
end
end
end
section
open PySem PySem.W PySem.Calls PyProof.Rows PySem.Spec Builtin Builtin.ObjectAttr
set_option Elab.async false
set_option maxRecDepth 100000
set_option maxHeartbeats 4000000
set_option linter.unusedVariables false
set_option linter.unusedSimpArgs false
section
section
variable {c : Cx} {F : Frame} {W W₁ : Fz} {h : Heap}
theorem Inv.back {vars : List (Str × Dt)} {pre post : List Ow} {p p' : Ow} {W' : Fz} {h' : Heap} (I : Inv c ⟨vars, pre ++ p :: post⟩ W h) (ha : p'.ads = p.ads) (hs : Sub W W') (hk : ∀ b o, b ∉ p.ads → h.get? b = some o → h'.get? b = some o)
    (hW : ∀ b o, W' b = some o → h'.get? b = some o) (hnew : ∀ b o, W' b = some o → W b = some o ∨ h.objs.size ≤ b) (hp : p'.Ok W' h') : Inv c ⟨vars, pre ++ p' :: post⟩ W' h' := by
  have hm : ∀ a ∈ p.ads, a ∈ Frame.ads ⟨vars, pre ++ p :: post⟩ := fun a ha => by rw [ads_mid]; simp [ha]
  have eA : Frame.ads ⟨vars, pre ++ p' :: post⟩ = Frame.ads ⟨vars, pre ++ p :: post⟩ := by rw [ads_mid, ads_mid, ha]
  have nd := I.nd
  rw [ads_mid] at nd
  have nd1 := List.nodup_append.mp nd
  have nd2 := List.nodup_append.mp nd1.2.1
  have off : ∀ q, (q ∈ pre ∨ q ∈ post) → ∀ a ∈ q.ads, a ∉ p.ads := fun q hq a hqa hpa => by
    rcases hq with hq | hq
    · exact nd1.2.2 a (List.mem_flatMap.mpr ⟨q, hq, hqa⟩) a (List.mem_append_left _ hpa) rfl
    · exact nd2.2.2 a hpa a (List.mem_flatMap.mpr ⟨q, hq, hqa⟩) rfl
  exact {
    wd := I.wd.mono hs
    vars := let ⟨m, hn, hm'⟩ := I.vars; ⟨m, hn.at' fun o e => hk _ o (fun q => (I.ads _ (hm _ q)).1 rfl) e, fun x d e => let ⟨v, a, b⟩ := hm' x d e; ⟨v, a, b.mono hs⟩⟩
    base := fun b o hb e => hk b o (fun q => by
      rcases (I.ads _ (hm _ q)).2.2 with q2 | q2
      · exact absurd (Heap.lt_size e) (Nat.not_lt.mpr q2)
      · exact hb q2) (I.base b o hb e)
    sub := I.sub.trans hs
    keep := hW
    new := fun b o e => (hnew b o e).elim (I.new b o) fun q => .inr (Nat.le_trans I.size q)
    hL := I.hL
    wL := by
      cases e : W' c.L with
      | none => rfl
      | some o => rcases hnew _ _ e with q | q
                  · rw [I.wL] at q; cases q
                  · exact absurd I.L_lt (Nat.not_lt.mpr q)
    own := fun q hq => by
      rcases List.mem_append.mp hq with hq | hq
      · exact (I.own q (List.mem_append_left _ hq)).keeps hs fun a ha o e => hk a o (off q (.inl hq) a ha) e
      · rcases List.mem_cons.mp hq with rfl | hq
        · exact hp
        · exact (I.own q (List.mem_append_right _ (.tail _ hq))).keeps hs fun a ha o e => hk a o (off q (.inr hq) a ha) e
    ads := fun a hm => by
      rw [eA] at hm
      refine ⟨(I.ads a hm).1, ?_, (I.ads a hm).2.2⟩
      cases e : W' a with
      | none => rfl
      | some o => rcases hnew _ _ e with q | q
                  · rw [(I.ads a hm).2.1] at q; cases q
                  · exact absurd (I.ads_lt a hm) (Nat.not_lt.mpr q)
    nd := by rw [eA]; exact I.nd
    bor := I.bor
    hid := fun q hq => ⟨hk _ _ (fun z => (I.hid q hq).2.2.2.1 (hm _ z)) (I.hid q hq).1, (I.hid q hq).2.1, by
      cases e : W' q.1 with
      | none => rfl
      | some o => rcases hnew _ _ e with q' | q'
                  · rw [(I.hid q hq).2.2.1] at q'; cases q'
                  · exact absurd (Heap.lt_size (I.hid q hq).1) (Nat.not_lt.mpr q'), by rw [eA]; exact (I.hid q hq).2.2.2.1, (I.hid q hq).2.2.2.2⟩
    hnd := I.hnd }
end
noncomputable def GoAt {α : Type} (c : Cx) (b : List Stmt) (F : Frame) (W₁ : Fz) (t : Sem α) (P : α → Fz → Frame → Prop) : Prop :=
  ∀ W h tk Q E, Sub W₁ W → Inv c F W h → (∀ a W' h' tk' F', Inv c F' W' h' → Sub W W' → P a W' F' → Q a (St c.s₀ h' tk')) → PySem.wpAt (model prog c.w) c.A (.func b c.env) t Q E (St c.s₀ h tk)
noncomputable def TrAt (c : Cx) (b : List Stmt) (F : Frame) (ss : List Stmt) (P : Fl → Frame → Prop) : Prop := ∀ W₁, GoAt c b F W₁ (execs ss c.env) (Pst P)
noncomputable def ExAt (c : Cx) (b : List Stmt) (F : Frame) (st : Stmt) (P : Fl → Frame → Prop) : Prop := ∀ W₁, GoAt c b F W₁ (exec st c.env) (Pst P)
noncomputable def ThenAt (c : Cx) (b : List Stmt) (rest : List Stmt) (P : Fl → Frame → Prop) : Fl → Frame → Prop
  | .next, F => TrAt c b F rest P
  | f, F => P f F
section
variable {c : Cx} {b : List Stmt} {F : Frame} {W₁ : Fz} {P : Fl → Frame → Prop}
theorem GoAt.of {α : Type} {t : Sem α} {P : α → Fz → Frame → Prop} (h : Go c F W₁ t P) : GoAt c b F W₁ t P := fun W hp tk Q E hs I hQ => PySem.wpAt_of_wpAny (h W hp tk Q E hs I hQ)
theorem TrAt.of {ss : List Stmt} (h : Tr c F ss P) : TrAt c b F ss P := fun W₁ => .of (h W₁)
theorem ExAt.of {st : Stmt} (h : Ex c F st P) : ExAt c b F st P := fun W₁ => .of (h W₁)
theorem TrAt.cons {st : Stmt} {rest : List Stmt} (h : ExAt c b F st (ThenAt c b rest P)) : TrAt c b F (st :: rest) P := fun W₁ W hp tk Q E hs I hQ => by
  refine ks_wpAt_execs_cons (h W₁ W hp tk _ E hs I fun fl W' h' tk' F' I' hs' r => ?_)
  obtain ⟨f, hf, hP⟩ := r
  cases fl with
  | next => cases f <;> first | exact hP W' W' h' tk' Q E (Sub.refl _) I' (fun a W2 h2 tk2 F2 I2 hs2 r2 => hQ a W2 h2 tk2 F2 I2 (hs'.trans hs2) r2) | exact hf.elim
  | brk => cases f <;> first | exact hQ _ W' h' tk' F' I' hs' ⟨.brk, trivial, hP⟩ | exact hf.elim
  | cont => cases f <;> first | exact hQ _ W' h' tk' F' I' hs' ⟨.cont, trivial, hP⟩ | exact hf.elim
  | ret v => cases f <;> first | exact hQ _ W' h' tk' F' I' hs' ⟨.ret _, hf, hP⟩ | exact hf.elim
theorem TrAt.one {st : Stmt} (h : ExAt c b F st P) : TrAt c b F [st] P := .cons fun W₁ W hp tk Q E hs I hQ => h W₁ W hp tk Q E hs I fun fl W' h' tk' F' I' hs' r => hQ fl W' h' tk' F' I' hs' (by
  obtain ⟨f, hf, hP⟩ := r
  cases f <;> first | exact ⟨_, hf, TrAt.of (Tr.nil hP)⟩ | exact ⟨_, hf, hP⟩)
theorem ExAt.ret {e : Expr} {pos : Pos} (h : ∀ W₁, GoAt c b F W₁ (eval e c.env) (fun v W F' => ∃ d, Rep W v d ∧ P (.ret d) F')) : ExAt c b F (.Return (some e) pos) P := fun W₁ W hp tk Q E hs I hQ =>
  ks_wpAt_Return_some (h W₁ W hp tk _ E hs I fun v W' h' tk' F' I' hs' r => let ⟨d, r, hP⟩ := r; hQ _ W' h' tk' F' I' hs' ⟨.ret d, r, hP⟩)
theorem ExAt.expr {e : Expr} {pos : Pos} (h : ∀ W₁, GoAt c b F W₁ (eval e c.env) (fun v W F' => P .next F')) (hs : swapsWith e none pos.line c.env = Pure.pure false := by rfl) : ExAt c b F (.Expr e pos) P := fun W₁ W hp tk Q E hs' I hQ =>
  ks_wpAt_Expr_any (h W₁ W hp tk _ E hs' I fun v W' h' tk' F' I' hs' r => hQ _ W' h' tk' F' I' hs' ⟨.next, trivial, r⟩) (by unfold interactive; rw [c.hk]; rfl) hs
theorem ExAt.if_ {t : Expr} {body orelse : List Stmt} {pos : Pos} {r : Bool} (h : Te c F t r) (h1 : r = true → TrAt c b F body P) (h2 : r = false → TrAt c b F orelse P) : ExAt c b F (.If t body orelse pos) P := fun W₁ W hp tk Q E hs I hQ => by
  refine ks_wpAt_If (PySem.wpAt_of_wpAny (h W₁ W hp tk _ E hs I (isQ fun v W' h' tk' I' hs' e => ?_)))
  obtain rfl := e
  cases v with
  | true => exact h1 rfl W' W' h' tk' Q E (Sub.refl _) I' fun a W2 h2 tk2 F2 I2 hs2 r2 => hQ a W2 h2 tk2 F2 I2 (hs'.trans hs2) r2
  | false => exact h2 rfl W' W' h' tk' Q E (Sub.refl _) I' fun a W2 h2 tk2 F2 I2 hs2 r2 => hQ a W2 h2 tk2 F2 I2 (hs'.trans hs2) r2
end
noncomputable def CalO (w : World) (f : Value) (n : Nat) (C : Addr) (fs : List (Str × Dt)) (l : List Dt) (ds : List Dt) (d : Dt) (fs' : List (Str × Dt)) (l' : List Dt) : Prop :=
  ∀ (c : Cx) (vars : List (Str × Dt)) (pre post : List Ow) (a b : Addr) (W₁ : Fz) (vs : List Value), c.w = w → n ≤ c.k → Reps W₁ vs ds →
    Go c ⟨vars, pre ++ ⟨a, b, .acc C fs l⟩ :: post⟩ W₁ (call f (.ref a :: vs)) (Is ⟨vars, pre ++ ⟨a, b, .acc C fs' l'⟩ :: post⟩ d)
noncomputable def Ro (a b C : Addr) (fs : List (Str × Dt)) (l : List Dt) (d : Dt) : Fl → Frame → Prop := fun f F => (f = .ret d ∨ f = .next ∧ d = .none) ∧ ∃ vars pre post, F = ⟨vars, pre ++ ⟨a, b, .acc C fs l⟩ :: post⟩
theorem CalO.fn {w : World} {f C : Addr} {fd : FuncData} {body : List Stmt} {names : List Str} {n : Nat} {ds dd : List Dt} {dv : List Value} {d : Dt} {fs fs' : List (Str × Dt)} {l l' : List Dt} {oc : Value} {od : Option Addr} {osl : Array (Option Value)}
    (hK : (Mine.hd.heap_1 w.params).lookup f = some ⟨oc, od, .func fd, osl⟩) (hcode : codeIn (Mine.hd.heap_1 w.params) fd.code fd.qualname = true) (hbody : fd.body = .stmts body)
    (hbind : ∀ (s : Shared) (vs : List Value), (Mine.hd.heap_1 w.params).In s.heap → vs.length = ds.length + 1 → BindsTo s fd ⟨vs, []⟩ (names.zip (vs ++ dv))) (hdv : ∀ W, Reps W dv dd) (hcell : ∀ x ∈ fd.scope.names, x.2 ≠ .cell) (hloc : ∀ x ∈ names, fd.scope.names.lookup x = some .local)
    (hco : fd.scope.isCoroutine = false) (hgen : fd.scope.isGenerator = false) (hk : fd.scope.kind = .function) (hgl : fd.globals = mainGlobals) (hbi : fd.builtins = builtinsNs) (hlen : (ds ++ dd).length + 1 = names.length)
    (h : ∀ (c : Cx) (a b : Addr), c.w = w → c.k = n → c.env.scope = fd.scope → (∃ L, c.env = callEnv fd L f) → TrAt c body ⟨(names.zip (.val (.ref a) :: (ds ++ dd))).reverse, [⟨a, b, .acc C fs l⟩]⟩ body (Ro a b C fs' l' d)) : CalO w (.ref f) (n + 1) C fs l ds d fs' l' := fun c vars pre post a b W₁ vs hw hn hr W hp tk Q E hs I hQ => by
  subst hw
  obtain ⟨p, lo, me, mg, mb, X, T, h1, h2⟩ := I.wd.at I.keep
  have hlv : vs.length = ds.length := hr.length
  have hm : ∀ x ∈ Ow.ads ⟨a, b, .acc C fs l⟩, x ∈ Frame.ads ⟨vars, pre ++ ⟨a, b, .acc C fs l⟩ :: post⟩ := fun x hx => by rw [ads_mid]; simp [hx]
  have nd := I.nd
  rw [ads_mid] at nd
  have nd1 := List.nodup_append.mp nd
  have nd2 := List.nodup_append.mp nd1.2.1
  have hown := I.own ⟨a, b, .acc C fs l⟩ (List.mem_append_right _ (.head _))
  refine wpAny_call ?_
  refine ks_codeAny_call_defAt (s := St c.s₀ hp tk) (fd := fd) (body := body) (binds := names.zip ((Value.ref a :: vs) ++ dv)) (by have := c.room.1; omega) (X _ _ hK) rfl T.nolimit (codeRec_of X hcode) hbody (hbind _ _ X (by rw [List.length_cons, hlv])) hcell
    (fun x hx => hloc _ (List.of_mem_zip (show (x.1, x.2) ∈ names.zip ((Value.ref a :: vs) ++ dv) from hx)).1) (fun h0 hns hk0 => ?_) hco hgen hk
  let c' : Cx := { w := c.w, s₀ := St c.s₀ hp tk, W₀ := W, bor := Ow.ads ⟨a, b, .acc C fs l⟩, hid := [], L := hp.objs.size, A := c.A.deeper (callEnv fd hp.objs.size f), env := callEnv fd hp.objs.size f, k := n,
                   hk := hk, hL := rfl, hg := hgl, hb := hbi, hh := c.hh,
                   room := by
                     have := c.room
                     refine ⟨?_, ?_⟩
                     · show c.A.depth + 1 + n < _; omega
                     · show c.A.units + 3 + 8 * n + 4 < _; omega }
  have lt : ∀ x ∈ Ow.ads ⟨a, b, .acc C fs l⟩, x < hp.objs.size := fun x hx => I.ads_lt x (hm x hx)
  have eF : ∀ v, Frame.ads ⟨v, [⟨a, b, .acc C fs l⟩]⟩ = Ow.ads ⟨a, b, .acc C fs l⟩ := fun v => by simp [Frame.ads]
  have I' : Inv c' ⟨(names.zip (.val (.ref a) :: (ds ++ dd))).reverse, [⟨a, b, .acc C fs l⟩]⟩ W h0 := {
    wd := I.wd
    vars := ⟨_, hns, fun x d e => zip_look (.cons (.val _) (Reps.append (hr.mono hs) (hdv _))) e⟩
    base := fun b o _ e => hk0 b o e
    sub := Sub.refl _
    keep := fun b o e => hk0 b o (I.keep b o e)
    new := fun b o e => .inl e
    hL := Nat.le_refl _
    wL := I.none_size
    own := fun p hp' => by
      cases List.mem_singleton.mp hp'
      exact hown.keeps (Sub.refl _) fun x _ o e => hk0 x o e
    ads := fun x hx => by
      rw [eF] at hx
      exact ⟨Nat.ne_of_lt (lt x hx), (I.ads x (hm x hx)).2.1, .inr hx⟩
    nd := by rw [eF]; exact nd2.1
    bor := fun x hx => lt x hx
    hid := fun p hp => nomatch hp
    hnd := List.nodup_nil }
  have eT : (St c.s₀ hp tk).toks + (names.zip ((Value.ref a :: vs) ++ dv)).length = tk + (names.zip ((Value.ref a :: vs) ++ dv)).length + 1 := by show tk + 1 + _ = _; omega
  rw [eT]
  refine h c' a b rfl rfl rfl ⟨_, rfl⟩ W W h0 (tk + (names.zip ((Value.ref a :: vs) ++ dv)).length) _ _ (Sub.refl _) I' fun fl W' h' tk' F' I2 hs2 hp2 => ?_
  obtain ⟨f', hf, hr', vars', pre', post', rfl⟩ := hp2
  have I3 : Inv c ⟨vars, pre ++ ⟨a, b, .acc C fs' l'⟩ :: post⟩ W' h' := I.back rfl hs2 (fun b o hb e => I2.base b o hb e) I2.keep (fun b o e => I2.new b o e) (I2.own _ (List.mem_append_right _ (.head _)))
  rcases hr' with rfl | ⟨rfl, rfl⟩
  · cases fl <;> first | exact hf.elim | skip
    exact hQ _ W' h' tk' _ I3 hs2 ⟨rfl, hf⟩
  · cases fl <;> first | exact hf.elim | skip
    exact hQ _ W' h' tk' _ I3 hs2 ⟨rfl, .none⟩
end
end
section
open PySem PySem.W PySem.Calls PyProof.Rows PySem.Spec Builtin Builtin.ObjectAttr
set_option Elab.async false
set_option maxRecDepth 100000
set_option maxHeartbeats 4000000
set_option linter.unusedVariables false
set_option linter.unusedSimpArgs false
section
theorem slot_wget : Slot "wrapper_descriptor" "__get__" "wrapper_descriptor.__get__" :=
  .of (owner := "wrapper_descriptor") (n := "__get__") (by rw [typeLookup_type, builtinLookup_eq_fast]; kernel_rfl) (by decide +kernel) (by decide +kernel) (by decide +kernel)
    (by first | exact .inl (by decide +kernel) | exact .inr (by decide +kernel)) (by rw [isSubtype_type]; kernel_rfl)
theorem slot_mget : Slot "method_descriptor" "__get__" "method_descriptor.__get__" :=
  .of (owner := "method_descriptor") (n := "__get__") (by rw [typeLookup_type, builtinLookup_eq_fast]; kernel_rfl) (by decide +kernel) (by decide +kernel) (by decide +kernel)
    (by first | exact .inl (by decide +kernel) | exact .inr (by decide +kernel)) (by rw [isSubtype_type]; kernel_rfl)
theorem entry_wget : entryFor table "wrapper_descriptor.__get__" = some Builtin.«wrapper_descriptor.__get__» := entryFor_of_tree (by kernel_rfl)
theorem entry_mget : entryFor table "method_descriptor.__get__" = some Builtin.«method_descriptor.__get__» := entryFor_of_tree (by kernel_rfl)
theorem args_wget (a b c : Value) : argsOk "wrapper_descriptor.__get__" ⟨[a, b, c], []⟩ := by unfold argsOk; kernel_rfl
theorem args_mget (a b c : Value) : argsOk "method_descriptor.__get__" ⟨[a, b, c], []⟩ := by unfold argsOk; kernel_rfl
theorem type_linit : typeOf (.builtin "list.__init__") = pure (.type "wrapper_descriptor") := by show builtinType _ = _; rw [builtinType_eq_fast]; kernel_rfl
theorem type_llen : typeOf (.builtin "list.__len__") = pure (.type "wrapper_descriptor") := by show builtinType _ = _; rw [builtinType_eq_fast]; kernel_rfl
theorem owner_linit : (kfb_private% "ownerAndName") "list.__init__" = ("list", "__init__") := by first | decide +kernel | kernel_rfl
theorem owner_llen : (kfb_private% "ownerAndName") "list.__len__" = ("list", "__len__") := by first | decide +kernel | kernel_rfl
theorem owner_lpop : (kfb_private% "ownerAndName") "list.pop" = ("list", "pop") := by first | decide +kernel | kernel_rfl
noncomputable abbrev bObj (bt id : String) (x : Addr) : Obj := { cls := .type bt, dict := none, data := .fields #[.builtin id, .ref x], slots := #[] }
section
variable {w : World} {M : Model} {A : Around} {E : Value → Shared → Prop} {h : Heap} {g : Array GenState} {d : Drawn} {t : Nat} {os : OsState}
theorem run_bind {id bt nm : String} {x : Addr} {P : Fin → Shared → Prop} (ho : (kfb_private% "ownerAndName") id = ("list", nm)) (hi : Looks M h (isInstance (.ref x) (.type "list")) true) (hq : P (.done (.ret (.ref h.objs.size))) ⟨h.push (bObj bt id x), g, d, t, os⟩) :
    wpAny M A ((kfb_private% "bindBuiltin") bt (.builtin id) (some (.ref x))) P E ⟨h, g, d, t, os⟩ := by
  show wpAny _ _ ((kfb_private% "checkInstance") (.builtin id) (.ref x) >>= fun _ => newFields bt [.builtin id, .ref x] >>= fun v => ret v) _ _ _
  refine wpAny_bind ?_
  show wpAny _ _ ((Pure.pure (((kfb_private% "ownerAndName") id).2, Value.type ((kfb_private% "ownerAndName") id).1) : Sem (Str × Value)) >>= _) _ _ _
  rw [ho]
  refine wpAny_bind (wpAny_pure ?_)
  refine wpAny_bind (hi.here ?_)
  refine wpAny_pure ?_
  exact wpAny_bind (wpAny_newObj_type (wpAny_pure hq))
noncomputable def isList (C : Addr) (h : Heap) (M : Model) (x : Addr) : Prop := Looks M h (isInstance (.ref x) (.type "list")) true
theorem run_wget {id nm : String} {x C : Addr} {P : Fin → Shared → Prop} (ho : (kfb_private% "ownerAndName") id = ("list", nm)) (hi : Looks M h (isInstance (.ref x) (.type "list")) true) (hq : P (.done (.ret (.ref h.objs.size))) ⟨h.push (bObj "method-wrapper" id x), g, d, t, os⟩) :
    wpAny M A (Builtin.«wrapper_descriptor.__get__» ⟨[.builtin id, .ref x, .ref C], []⟩) P E ⟨h, g, d, t, os⟩ := by
  unfold Builtin.«wrapper_descriptor.__get__»
  refine wpAny_bind (wpAny_of_eq (a := (.builtin id, some (.ref x), some (.ref C))) rfl ?_)
  exact run_bind ho hi hq
theorem run_mget {id nm : String} {x C : Addr} {P : Fin → Shared → Prop} (hc : Manifest.toldItsClass.contains id = false) (ho : (kfb_private% "ownerAndName") id = ("list", nm)) (hi : Looks M h (isInstance (.ref x) (.type "list")) true) (hq : P (.done (.ret (.ref h.objs.size))) ⟨h.push (bObj "builtin_function_or_method" id x), g, d, t, os⟩) :
    wpAny M A (Builtin.«method_descriptor.__get__» ⟨[.builtin id, .ref x, .ref C], []⟩) P E ⟨h, g, d, t, os⟩ := by
  unfold Builtin.«method_descriptor.__get__»
  refine wpAny_bind (wpAny_of_eq (a := (.builtin id, some (.ref x), some (.ref C))) rfl ?_)
  dsimp only
  rw [hc]
  exact run_bind ho hi hq
end
section
variable {prog : Program} {w : World} {M : Model} {A : Around} {E : Value → Shared → Prop} {h : Heap} {g : Array GenState} {d : Drawn} {t : Nat} {os : OsState}
theorem super_ga {so D x C : Addr} {id ty gid bt : String} {Bg : Builtin} {l₀ l : List Value} {K : Frag} {name : Str} {tk : Tok} {Q : Fin → Shared → Prop}
    (hso : h.get? so = some { cls := .type "super", dict := none, data := .fields #[.ref D, .ref x, .ref C], slots := #[] }) (hno : Looks (model prog w) h (opaqueClassAbove (.ref C)) none)
    (hC : Looks (model prog w) h (mroOf (.ref C)) l₀) (hl : (l₀.dropWhile (· != .ref D)).drop 1 = l) (X : K.In h)
    (hf : alongIn K name l = some (some (.builtin id))) (hty : typeOf (.builtin id) = pure (.type ty)) (sg : Slot ty "__get__" gid) (eg : entryFor table gid = some Bg) (ag : ∀ a b c, argsOk gid ⟨[a, b, c], []⟩)
    (run : ∀ (A : Around) (P : Fin → Shared → Prop) (E : Value → Shared → Prop), P (.done (.ret (.ref h.objs.size))) ⟨h.push (bObj bt id x), g, d, t, os⟩ → wpAny (model prog w) A (Bg ⟨[.builtin id, .ref x, .ref C], []⟩) P E ⟨h, g, d, t, os⟩)
    (hxC : x ≠ C) (hn : (name == ("__class__" : Str)) = false)
    (hq : Q (.done (.ret (.ref h.objs.size))) ⟨h.push (bObj bt id x), g, d, t, os⟩) :
    wpAny (model prog w) A (Builtin.«super.__getattribute__» ⟨[.ref so, .str name tk], []⟩) Q E ⟨h, g, d, t, os⟩ := by
  have hlk := sg.lookup
  have hTb : (⟨h, g, d, t, os⟩ : Shared).TypeIs (.builtin id) ty := hty
  have hne : (Value.ref x == Value.ref C) = false := by simp [hxC]
  have hdt : ({ cls := .type "super", dict := none, data := .fields #[.ref D, .ref x, .ref C], slots := #[] } : Obj).data = .fields #[.ref D, .ref x, .ref C] := rfl
  have f0 : (#[.ref D, .ref x, .ref C] : Array Value)[0]? = some (.ref D) := rfl
  have f1 : (#[.ref D, .ref x, .ref C] : Array Value)[1]? = some (.ref x) := rfl
  have f2 : (#[.ref D, .ref x, .ref C] : Array Value)[2]? = some (.ref C) := rfl
  repeat (first
    | (with_reducible refine wpAny_field hso hdt f0 ?_) | (with_reducible refine wpAny_field hso hdt f1 ?_) | (with_reducible refine wpAny_field hso hdt f2 ?_)
    | (with_reducible refine ks_wpAny_notOpaque hno ?_)
    | (with_reducible refine Looks.at hC ?_; rw [hl])
    | (refine ks_forIn_along X (fun _ _ => rfl) rfl ?_ hf)
    | (with_reducible refine wpAny_of_eq hty ?_)
    | (with_reducible refine wpAny_call_entry sg hTb eg (run _ _ _ ?_) (ag _ _ _))
    | (with_reducible refine ⟨_, rfl, ?_⟩)
    | (simp only [hn, hne, Bool.or_false, Bool.false_eq_true, if_false])
    | wp_step
    | dsimp only)
  all_goals exact hq
theorem super_meth {so D x C : Addr} {id ty gid bt : String} {Bg : Builtin} {l₀ l : List Value} {K : Frag} {name : Str} {pl : Sem Bool} {Q : Value × List Value → Shared → Prop}
    (hso : h.get? so = some { cls := .type "super", dict := none, data := .fields #[.ref D, .ref x, .ref C], slots := #[] }) (hno : Looks (model prog w) h (opaqueClassAbove (.ref C)) none)
    (hC : Looks (model prog w) h (mroOf (.ref C)) l₀) (hl : (l₀.dropWhile (· != .ref D)).drop 1 = l) (X : K.In h)
    (hf : alongIn K name l = some (some (.builtin id))) (hty : typeOf (.builtin id) = pure (.type ty)) (sg : Slot ty "__get__" gid) (eg : entryFor table gid = some Bg) (ag : ∀ a b c, argsOk gid ⟨[a, b, c], []⟩)
    (run : ∀ (t : Nat) (A : Around) (P : Fin → Shared → Prop) (E : Value → Shared → Prop), P (.done (.ret (.ref h.objs.size))) ⟨h.push (bObj bt id x), g, d, t, os⟩ → wpAny (model prog w) A (Bg ⟨[.builtin id, .ref x, .ref C], []⟩) P E ⟨h, g, d, t, os⟩)
    (hxC : x ≠ C) (hn : (name == ("__class__" : Str)) = false)
    (hq : Q (.ref h.objs.size, []) ⟨h.push (bObj bt id x), g, d, t + 1, os⟩) :
    wpAny (model prog w) A (getMethod (.ref so) name pl) Q E ⟨h, g, d, t, os⟩ := by
  have hlk := PySem.F.ks_slot_super_ga.lookup
  have hcan := PySem.F.ks_canon_super_ga
  have hT : ∀ t', (⟨h, g, d, t', os⟩ : Shared).TypeIs (.ref so) "super" := fun _ => ⟨_, hso, rfl⟩
  refine wpAny_bind (wpAny_specialOf (hT _) hlk ?_)
  show wpAny _ _ (if (Manifest.canonical "super.__getattribute__" != "object.__getattribute__") = true then _ else _) _ _ _
  rw [if_pos hcan]
  refine wpAny_bind (wpAny_bind (wpAny_mkText (wpAny_holding (wpAny_bind (wpAny_typeOf (hT _) (wpAny_bind (wpAny_of_eq hlk ?_)))))))
  show wpAny _ _ (getAttrByItsOwn (.ref so) (.str name t) (.type "super") (.builtin "super.__getattribute__") true false) _ _ _
  refine wpAny_bind (wpAny_of_eq (show (if onTheHeap (.type "super") then typeLookup (.type "super") "__getattr__" else pure none) = pure none from rfl) ?_)
  refine wpAny_bind (wpAny_attempt (wpAny_holding ?_))
  show wpAny _ _ (bindSpecial (.builtin "super.__getattribute__") (.ref so) >>= _) _ _ _
  refine wpAny_bind (wpAny_of_eq (PySem.F.ks_slot_super_ga.bind _) ?_)
  refine wpAny_mono (Q := fun v s' => v = .ref h.objs.size ∧ s' = ⟨h.push (bObj bt id x), g, d, t + 1, os⟩) (E := fun _ _ => False)
    (wpAny_call_entry PySem.F.ks_slot_super_ga (hT _) PySem.F.ks_entry_super_ga (super_ga hso hno hC hl X hf hty sg eg ag (run _) hxC hn ⟨_, rfl, rfl, rfl⟩) (PySem.F.ks_gaArgs_super _ _)) (fun v s' hv => ?_) fun _ _ z => z.elim
  obtain ⟨rfl, rfl⟩ := hv
  exact wpAny_pure (wpAny_pure hq)
end
section
variable {prog : Program} {w : World} {M : Model} {A : Around} {E : Value → Shared → Prop} {s : Shared}
theorem callWith_b {pos : Pos} {bt id : String} {x u : Addr} {first : List Value} {Q : Value → Shared → Prop} (hbt : bt = "builtin_function_or_method" ∨ bt = "method-wrapper") (ho : s.heap.get? u = some (bObj bt id x))
    (h : wpAny M A (call (.ref u) first) Q E s) : wpAny M A (callWith pos (.ref u) first [] []) Q E s := by
  unfold callWith
  refine wpAny_bind (wpAny_holding ?_)
  refine wpAny_mono (Q := fun a s' => a = ⟨[], []⟩ ∧ s' = s) (E := fun _ _ => False) ?_ (fun a s₁ e => ?_) fun _ _ z => z.elim
  · unfold evalArgs
    exact wpAny_bind (wpAny_pure (wpAny_bind (wpAny_pure (wpAny_holding (wpAny_bind (wpAny_pure (wpAny_bind (wpAny_pure (wpAny_pure ⟨rfl, rfl⟩)))))))))
  obtain ⟨rfl, rfl⟩ := e
  refine wpAny_bind (wpAny_standAt ?_)
  simp only [List.any_nil, Bool.or_false]
  refine wpAny_bind (m := keeperOf (.ref u)) ?_
  refine wpAny_bind (wpAny_load ho ?_)
  have k1 : (Value.type bt != Value.type "method") = true := by rcases hbt with rfl | rfl <;> decide
  have k2 : (Value.type bt == Value.type "builtin_function_or_method" || Value.type bt == Value.type "method-wrapper") = true := by rcases hbt with rfl | rfl <;> decide
  simp only [k1, k2, if_true]
  refine wpAny_pure ?_
  rw [List.append_nil]
  exact wpAny_bind (wpAny_mono h (fun r s₂ hr => wpAny_bind (wpAny_holding (wpAny_point (wpAny_pure hr)))) fun _ _ x => x)
theorem call_b {bt id : String} {x u : Addr} {B : Builtin} {Q : Value → Shared → Prop} (hbt : bt = "builtin_function_or_method" ∨ bt = "method-wrapper") (ho : s.heap.get? u = some (bObj bt id x)) (hqt : plainId id = true) (eb : entryFor table id = some B)
    (chk : ∀ A, wpAny (model prog w) A (checkBoundCall id ⟨[.ref x], []⟩) (fun _ s' => s' = s) (fun _ _ => False) s)
    (tree : ∀ (A : Around) (P : Fin → Shared → Prop) (E' : Value → Shared → Prop), (∀ v s', Q v s' → P (.done (.ret v)) s') → wpAny (model prog w) A (B ⟨[.ref x], []⟩) P E' s) : wpAny (model prog w) A (call (.ref u) []) Q E s := by
  refine wpAny_call (codeAny_of_tree ?_)
  show wpAny _ A.in1 (callAny (.ref u) ⟨[], []⟩) _ _ s
  refine wpAny_bind (wpAny_load ho ?_)
  have k1 : (Value.type bt == Value.type "method" || Value.type bt == Value.type "builtin_function_or_method" || Value.type bt == Value.type "method-wrapper") = true := by rcases hbt with rfl | rfl <;> decide
  have k2 : (Value.type bt != Value.type "method") = true := by rcases hbt with rfl | rfl <;> decide
  simp only [k1, k2, if_true]
  refine wpAny_bind (wpAny_mono (chk _) (fun _ s' e => ?_) fun _ _ z => z.elim)
  subst e
  exact wpAny_bind (wpAny_pure (wpAny_pure ⟨plainId_quiet hqt _, codeAny_builtin eb (tree _ _ _ fun v s' q => q)⟩))
end
end
end
section
open PySem PySem.W PySem.Calls PyProof.Rows PySem.Spec Builtin Builtin.ObjectAttr
set_option Elab.async false
set_option maxRecDepth 100000
set_option maxHeartbeats 4000000
set_option linter.unusedVariables false
set_option linter.unusedSimpArgs false
section
noncomputable abbrev accO (C b : Addr) (vs : Array Value) (k : Nat) : Obj := ⟨.ref C, some b, .seq vs k, #[]⟩
theorem cell98 (w : World) : ∃ cl cld csl, (KK w).lookup 98 = some ⟨cl, cld, .cell (some (.ref 174)), csl⟩ := ⟨_, _, _, rfl⟩
theorem super_none (w : World) : nsIn (KK w) mainGlobals "super" = some none := by rfl
theorem acc_sub (w : World) : mroIn (KK w) 174 (.ref 174) = some true := by rfl
theorem acc_list (w : World) : mroIn (KK w) 174 (.type "list") = some true := by rfl
theorem acc_op (w : World) : nsIn (KK w) cStatics "thirdparty.any" = some none := by rfl
theorem acc_cls (w : World) : ∃ cd, clsIn (KK w) 174 = some cd ∧ cd.mro = [.ref 174, .type "list", .type "object"] := ⟨_, rfl, rfl⟩
noncomputable def Lop (w : World) (ne : Bool) (B : Builtin) (R : Array Value → Value → Array Value → Prop) : Prop := ∀ (a b C : Addr) (A : Around) (s : Shared) (vs : Array Value) (k : Nat) (P : Fin → Shared → Prop) (E : Value → Shared → Prop), vs.size ≤ 1000 → (ne = true → 0 < vs.size) → s.heap.get? a = some (accO C b vs k) →
  (∀ v vs' k' h' j, R vs v vs' → h'.get? a = some (accO C b vs' k') → (∀ y o, y ≠ a → s.heap.get? y = some o → h'.get? y = some o) → P (.done (.ret v)) { s with heap := h', toks := s.toks + j }) → wpAny (model prog w) A (B ⟨[.ref a], []⟩) P E s
section
variable {c : Cx} {W₁ : Fz}
theorem superEv {body : List Stmt} {a b f cda : Addr} {vars : List (Str × Dt)} {fs : List (Str × Dt)} {l l' : List Dt} {d : Dt} {fd : FuncData} {oc ccl : Value} {od cdd : Option Addr} {osl ccs : Array (Option Value)} {ar : Arg} {fvs : Array Value} {file : Str} {tf : Tok}
    {name : Str} {p0 p1 apos pos : Pos} {pl : Sem Bool} {id ty gid bt : String} {Bg B : Builtin} {R : Array Value → Value → Array Value → Prop}
    (hce : ∃ L, c.env = callEnv fd L f) (hK : (KK c.w).lookup f = some ⟨oc, od, .func fd, osl⟩) (hp : (fd.params.posonlyargs ++ fd.params.args).head? = some ar) (har : ar.arg = ("self" : Str))
    (hcode : (KK c.w).lookup cda = some ⟨ccl, cdd, .fields fvs, ccs⟩) (hfc : fd.code = .ref cda) (hvs : fvs[2]? = some (.str file tf)) (hfile : ((prog.main.file : Str) == file) = true) (hclo : fd.closure.lookup ("__class__" : Str) = some 98)
    (hks : fd.scope.names.lookup ("super" : Str) = some .globalImplicit) (hkc : fd.scope.names.lookup ("__class__" : Str) = some .free) (hka : fd.scope.names.lookup ("self" : Str) = some .local)
    (hat : (name == ("__class__" : Str)) = false) (htop : (prog.main.scope.names.lookup ("super" : Str)).isSome = false) (hv : vars.lookup ("self" : Str) = some (.val (.ref a)))
    (hf : alongIn (KK c.w) name [.type "list", .type "object"] = some (some (.builtin id))) (hty : typeOf (.builtin id) = pure (.type ty)) (sg : Slot ty "__get__" gid) (eg : entryFor table gid = some Bg) (ag : ∀ a b c, argsOk gid ⟨[a, b, c], []⟩)
    (run : ∀ (h : Heap) (g : Array GenState) (d : Drawn) (t : Nat) (os : OsState) (x C : Addr) (A : Around) (P : Fin → Shared → Prop) (E : Value → Shared → Prop), Looks (model prog c.w) h (isInstance (.ref x) (.type "list")) true → P (.done (.ret (.ref h.objs.size))) ⟨h.push (bObj bt id x), g, d, t, os⟩ → wpAny (model prog c.w) A (Bg ⟨[.builtin id, .ref x, .ref C], []⟩) P E ⟨h, g, d, t, os⟩)
    (hbt : bt = "builtin_function_or_method" ∨ bt = "method-wrapper") (hqt : plainId id = true) (eb : entryFor table id = some B)
    (chk : ∀ (A : Around) (s : Shared) (vs : Array Value) (k : Nat), (KK c.w).In s.heap → s.heap.get? a = some (accO 174 b vs k) → wpAny (model prog c.w) A (checkBoundCall id ⟨[.ref a], []⟩) (fun _ s' => s' = s) (fun _ _ => False) s)
    {ne : Bool} (op : Lop c.w ne B R) (hl : l.length ≤ 1000) (hne : ne = true → 0 < l.length) (hR : ∀ W vs v vs', Reps W vs.toList l → R vs v vs' → Rep W v d ∧ Reps W vs'.toList l')
    (he : eval (.Call (.Attribute (.Call (.Name "super" p0) [] [] p1) name apos) [] [] pos) c.env = (do
      let ov ← attributeBase (.Call (.Name "super" p0) [] [] p1) name c.env (eval (.Call (.Name "super" p0) [] [] p1) c.env)
      standAt apos.atName
      let (f, first) ← holding [ov] (getMethod ov name pl)
      callWith pos f first (backTo pos (starEach [] c.env)) []) := by rfl) :
    GoAt c body ⟨vars, [⟨a, b, .acc 174 fs l⟩]⟩ W₁ (eval (.Call (.Attribute (.Call (.Name "super" p0) [] [] p1) name apos) [] [] pos) c.env) (Is ⟨vars, [⟨a, b, .acc 174 fs l'⟩]⟩ d) := fun W h tk Q E hs I hQ => by
  obtain ⟨pp, lo, me, mg, mb, X, T, h1, h2⟩ := I.wd.at I.keep
  obtain ⟨Lf, hce⟩ := hce
  have hsc : c.env.scope = fd.scope := by rw [hce]; rfl
  obtain ⟨es, n, vs, k, e1, e2, r, r'⟩ := I.own ⟨a, b, .acc 174 fs l⟩ (.head _)
  obtain ⟨cl, cld, csl, hcell⟩ := cell98 c.w
  obtain ⟨cd, hcd, hmro⟩ := acc_cls c.w
  obtain ⟨oD, hD1, hD2⟩ : ∃ oD, h.get? 174 = some oD ∧ oD.data = .cls cd := by
    have hD := hcd
    unfold clsIn at hD
    split at hD
    · rename_i c d cd' sl ho
      cases hD
      exact ⟨_, X _ _ ho, rfl⟩
    · cases hD
  have hxC : a ≠ 174 := fun q => by
    rw [q] at e1; rw [e1] at hD1; cases hD1; cases hD2
  refine ks_wpAt_MethodCall (pl := pl) ?_ he
  refine ks_wpAt_super_base (s := St c.s₀ h tk) (fd := fd) (f := f) (cc := cda) (ar := ar) (kindOf_of hsc hks) (kindOf_of hsc hkc) hat (by rw [hce]; rfl) (X _ _ hK) rfl hp (by rw [hce]; exact hfc) (X _ _ hcode) rfl hvs hfile htop ?_
  refine ks_loadName_global c.hk (kindOf_of hsc hks) (loadGlobal_builtin (env := c.env) (by rw [c.hg]; exact T.g) (h2 _ (super_none _)) (by rw [c.hb]; exact T.b) ((T.builtins _ (by decide +kernel)).trans (by rfl)) ⟨rfl, ?_⟩)
  refine wpAny_loadName_free (c := 98) (v := .ref 174) c.hk (kindOf_of hsc hkc) (by rw [hce]; exact hclo) ⟨_, X _ _ hcell, rfl⟩ ?_
  obtain ⟨m, hn, hm⟩ := I.vars
  obtain ⟨v, ev, rv⟩ := hm _ _ hv
  cases rv
  rw [har]
  refine wpAny_loadName_local c.hk (kindOf_of hsc hka) (s := St c.s₀ h tk) (by rw [c.hL]; exact hn) ev ?_
  refine ks_wpAny_isType_cls hD1 hD2 ⟨rfl, ?_⟩
  refine ks_wpAny_call_super hD1 hD2 e1 rfl (fun _ e => nomatch e) (looks_mroIn X (acc_sub _)) (fun h' hso k1 => ?_)
  have X1 : (KK c.w).In h' := fun b o e => k1 b o (X b o e)
  have e1' := k1 _ _ e1
  have IA : Looks (model prog c.w) h' (isInstance (.ref a) (.type "list")) true := by
    have t1 : Looks (model prog c.w) h' (typeOf (.ref a)) (.ref 174) := (Looks.ld e1').andThen .now
    exact t1.andThen (looks_mroIn X1 (acc_list _))
  refine super_meth hso (looks_opaque X1 (acc_op _)) (l₀ := cd.mro) (fun A Q E s k q => wpAny_bind ((looks_clsIn X1 hcd) A _ E s k (wpAny_pure q))) (l := [.type "list", .type "object"]) (by rw [hmro]; rfl) X1 hf hty sg eg ag (fun t A P E q => run h' _ _ t _ a 174 A P E IA q) hxC hat ?_
  have k2 : ∀ b o, h'.get? b = some o → (h'.push (bObj bt id a)).get? b = some o := fun b o e => Heap.get?_push_of_some _ e
  have e1'' := k2 _ _ e1'
  have hl2 : vs.size ≤ 1000 := by rw [← Array.length_toList, r'.length]; exact hl
  refine callWith_b hbt (Heap.get?_push_at rfl rfl) ?_
  refine call_b hbt (Heap.get?_push_at rfl rfl) hqt eb (fun A => chk A _ vs k (fun b o e => k2 b o (X1 b o e)) e1'') fun A P E' q => ?_
  refine op a b 174 A _ vs k P E' hl2 (fun q => by rw [← Array.length_toList, r'.length]; exact hne q) e1'' fun v vs' k' h3 j rr e3 keep3 => ?_
  refine q _ _ ?_
  have kk : ∀ y o, y ≠ a → h.get? y = some o → h3.get? y = some o := fun y o hy e => keep3 y o hy (k2 _ _ (k1 _ _ e))
  obtain ⟨q1, q2⟩ := hR W vs v vs' r' rr
  have hab : b ≠ a := fun q => by
    have nd := I.nd
    subst q; simp [Frame.ads, Ow.ads] at nd
  have I3 : Inv c ⟨vars, [] ++ ⟨a, b, .acc 174 fs l'⟩ :: []⟩ W h3 := Inv.own_turn (p := ⟨a, b, .acc 174 fs l⟩) (pre := []) (post := []) I rfl (fun b' o' hb' e => kk b' o' (fun q => hb' (by simp [Ow.ads, q])) e)
    ⟨es, n, vs', k', e3, kk _ _ hab e2, r, q2⟩
  have eT : (St c.s₀ h tk).toks + 1 + j = tk + 1 + j + 1 := by show tk + 1 + 1 + j = _; omega
  have := hQ v W h3 (tk + 1 + j) _ I3 (Sub.refl _) ⟨rfl, q1⟩
  unfold St at this
  dsimp only at this ⊢
  rw [show tk + 1 + 1 + j = tk + 1 + j + 1 by omega]
  exact this
end
theorem lop_len (w : World) : Lop w false Builtin.«list.__len__» (fun vs v vs' => (∃ t, v = .int (vs.size : Int) t) ∧ vs' = vs) := fun a b C A s vs k P E hz hne ho hP => by
  obtain ⟨h, g, d, t, os⟩ := s
  show wpAny _ _ (do retInt (← seqSize a)) _ _ _
  refine wpAny_bind (wpAny_bind (wpAny_loadPart ho ?_))
  refine wpAny_pure ?_
  refine wpAny_bind (wpAny_mkInt (wpAny_pure ?_))
  exact hP _ vs k h 1 ⟨⟨_, rfl⟩, rfl⟩ ho (fun _ _ _ e => e)
theorem updSeq {C a b : Addr} {vs vs' : Array Value} {k : Nat} {h : Heap} {f : Array Value → Array Value} (ho : h.get? a = some (accO C b vs k)) (hf : f vs = vs') : ∃ k', (h.update a (Obj.mapSeq f)).get? a = some (accO C b vs' k') ∧ ∀ y o, y ≠ a → h.get? y = some o → (h.update a (Obj.mapSeq f)).get? y = some o := by
  subst hf
  exact ⟨_, (Heap.get?_update_self _ ho rfl).trans rfl, fun y o hy e => (Heap.get?_update_ne _ _ _ _ hy).trans e⟩
theorem lop_pop (w : World) : Lop w true Builtin.«list.pop» (fun vs v vs' => vs[vs.size - 1]? = some v ∧ vs' = vs.eraseIdxIfInBounds (vs.size - 1)) := fun a b C A s vs k P E hz hne ho hP => by
  obtain ⟨hp, g, d, t, os⟩ := s
  have hpos := hne rfl
  have hn : ¬ vs.isEmpty = true := by
    intro he; have : vs.size = 0 := by simpa using he
    omega
  have hk : seqIndex? (-1) vs.size = some (vs.size - 1) := by
    rw [MeetsSeq.seqIndex_neg (by omega) (by omega)]; congr 1; omega
  obtain ⟨y, hy⟩ : ∃ y, vs[vs.size - 1]? = some y := ⟨vs[vs.size - 1], by simp⟩
  have hs1 : vs.size ≤ sizeLine := Nat.le_trans hz (by decide)
  have hz' : (vs.eraseIdxIfInBounds (vs.size - 1)).size ≤ sizeLine + 1 := Nat.le_trans (MeetsSeq.size_erased vs _) (Nat.le_succ_of_le hs1)
  obtain ⟨k', u1, u2⟩ := updSeq (f := fun xs => xs.eraseIdxIfInBounds (vs.size - 1)) ho rfl
  unfold Builtin.«list.pop»
  wp_walk using wpAny_loadPart' ho
  simp only [hk, hy, Option.bind_some, Option.map_some]
  wp_walk using (wpAny_updateSeq ho rfl (hz := hs1) (_hz' := hz')), wpAny_loadPart' ho
  exact hP y _ k' _ 0 ⟨hy, rfl⟩ u1 u2
theorem lop_init (w : World) : Lop w false Builtin.«list.__init__» (fun vs v vs' => v = .none ∧ vs' = #[]) := fun a b C A s vs k P E hz hne ho hP => by
  obtain ⟨hp, g, d, t, os⟩ := s
  have hs1 : vs.size ≤ sizeLine := Nat.le_trans hz (by decide)
  obtain ⟨k', u1, u2⟩ := updSeq (f := fun _ => #[]) ho rfl
  unfold Builtin.«list.__init__»
  wp_walk using (wpAny_updateSeq ho rfl (hz := hs1) (_hz' := Nat.zero_le _)), wpAny_loadPart' ho, wpAny_letGo
  exact hP _ _ k' _ 0 ⟨rfl, rfl⟩ u1 u2
end
end
section
open PySem PySem.W PySem.Calls PyProof.Rows PySem.Spec Builtin Builtin.ObjectAttr
set_option Elab.async false
set_option maxRecDepth 100000
set_option maxHeartbeats 4000000
set_option linter.unusedVariables false
set_option linter.unusedSimpArgs false
section
section
variable {M : Model} {w : World} {A : Around} {E : Value → Shared → Prop} {s : Shared} {h : Heap} {a b : Addr} {vs : Array Value} {k : Nat}
theorem acc_type (e : h.get? a = some (accO 174 b vs k)) : Looks M h (typeOf (.ref a)) (.ref 174) := (Looks.ld e).andThen .now
theorem acc_isl (X : (KK w).In h) (e : h.get? a = some (accO 174 b vs k)) : Looks M h (isInstance (.ref a) (.type "list")) true := (acc_type e).andThen (looks_mroIn X (acc_list w))
theorem acc_check {i n : String} {rest : List Value} {Q : Unit → Shared → Prop} (X : (KK w).In s.heap) (e : s.heap.get? a = some (accO 174 b vs k)) (hk : builtinKind i = some .slot ∨ builtinKind i = some .method) (hs : splitId i = some ("list", n)) (ha : argsOk i ⟨.ref a :: rest, []⟩) (q : Q () s) :
    wpAny M A (checkBuiltinCall i ⟨.ref a :: rest, []⟩) Q E s := by
  rcases hk with hk | hk
  · exact check_slot hk hs (acc_isl X e) ha q
  · simp only [checkBuiltinCall, hk, hs]
    refine wpAny_bind ((acc_isl X e).here ?_)
    cases hsig : Manifest.signature? i with
    | none => exact wpAny_pure q
    | some sig =>
      simp only [argsOk, hsig] at ha
      have h2 : Bind.checkArgs i sig ⟨.ref a :: rest, []⟩ = pure () := ha
      show wpAny M A (Bind.checkArgs i sig ⟨.ref a :: rest, []⟩) Q E s
      rw [h2]; exact wpAny_pure q
theorem acc_call {i n : String} {B : Builtin} {rest : List Value} {Q : Value → Shared → Prop} (X : (KK w).In s.heap) (e : s.heap.get? a = some (accO 174 b vs k)) (hk : builtinKind i = some .slot ∨ builtinKind i = some .method) (hs : splitId i = some ("list", n)) (hp : plainId i = true) (hb : entryFor table i = some B)
    (ha : argsOk i ⟨.ref a :: rest, []⟩) (hc : wpAny (model prog w) A.in1 (B ⟨.ref a :: rest, []⟩) (fun fin s' => ∃ v, fin = .done (.ret v) ∧ Q v s') E s) : wpAny (model prog w) A (call (.builtin i) (.ref a :: rest)) Q E s := by
  refine wpAny_call (codeAny_call_builtin hp hb (acc_check X e hk hs ha (wpAny_mono hc (fun fin s' h' => ?_) fun _ _ h' => h')))
  obtain ⟨v, rfl, hv⟩ := h'; exact hv
theorem acc_special {i n : String} {name : Str} {B : Builtin} {rest : List Value} {Q : Option Value → Shared → Prop} (X : (KK w).In s.heap) (e : s.heap.get? a = some (accO 174 b vs k)) (hf : findIn (KK w) (.ref 174) name = some (some (.builtin i))) (hbd : ∀ self, bindSpecial (.builtin i) self = pure (.builtin i, [self]))
    (hk : builtinKind i = some .slot ∨ builtinKind i = some .method) (hs : splitId i = some ("list", n)) (hp : plainId i = true) (hb : entryFor table i = some B)
    (ha : argsOk i ⟨.ref a :: rest, []⟩) (hc : wpAny (model prog w) A.in1 (B ⟨.ref a :: rest, []⟩) (fun fin s' => ∃ v, fin = .done (.ret v) ∧ Q (some v) s') E s) : wpAny (model prog w) A (callSpecial? (.ref a) name rest) Q E s := by
  refine wpAny_bind (wpAny_bind ((acc_type e).here ((looks_findIn X hf).here ?_)))
  refine wpAny_holding ?_
  rw [hbd]
  refine wpAny_bind (wpAny_pure ?_)
  exact wpAny_bind (wpAny_mono (acc_call X e hk hs hp hb ha hc) (fun v s' q => wpAny_pure q) fun _ _ z => z)
theorem seqTypes_eq : seqItemTypes = ["collections.deque"] := rfl
theorem acc_deque (w : World) : mroIn (KK w) 174 (.type "collections.deque") = some false := by rfl
theorem acc_key {v : Value} {name : Str} {Q : Value → Shared → Prop} (X : (KK w).In s.heap) (e : s.heap.get? a = some (accO 174 b vs k)) (q : Q v s) : wpAny M A (sequenceKey (.ref a) v name) Q E s := by
  unfold sequenceKey
  refine wpAny_bind ((acc_type e).here ?_)
  dsimp only
  rw [seqTypes_eq]
  refine wpAny_bind (wpAny_bind ((looks_mroIn X (acc_deque w)).here ?_))
  exact wpAny_pure (wpAny_pure q)
end
end
end
section
open PySem PySem.W PySem.Calls PyProof.Rows PySem.Spec Builtin Builtin.ObjectAttr
set_option Elab.async false
set_option maxRecDepth 100000
set_option maxHeartbeats 4000000
set_option linter.unusedVariables false
set_option linter.unusedSimpArgs false
section
theorem acc_ga (w : World) : findIn (KK w) (.ref 174) "__getattribute__" = some (some (.builtin "list.__getattribute__")) := by rfl
theorem canon_list_ga : (Manifest.canonical "list.__getattribute__" != "object.__getattribute__") = false := by decide +kernel
theorem acc_sto (w : World) : StoL w 174 "_initial_size" := ⟨by rfl, by rfl, by rfl, by rfl⟩
theorem acc_gk (w : World) : findIn (KK w) (.ref 174) "__getattr__" = some none := by rfl
theorem acc_gi (w : World) : findIn (KK w) (.ref 174) "__getitem__" = some (some (.builtin "list.__getitem__")) := by rfl
theorem acc_si (w : World) : findIn (KK w) (.ref 174) "__setitem__" = some (some (.builtin "list.__setitem__")) := by rfl
theorem acc_ap (w : World) : findIn (KK w) (.ref 174) "append" = some (some (.builtin "list.append")) := by rfl
theorem k_gi : builtinKind "list.__getitem__" = some .method := by decide +kernel
theorem k_si : builtinKind "list.__setitem__" = some .slot := by decide +kernel
theorem k_ap : builtinKind "list.append" = some .method := by decide +kernel
theorem s_gi : splitId "list.__getitem__" = some ("list", "__getitem__") := by decide +kernel
theorem s_si : splitId "list.__setitem__" = some ("list", "__setitem__") := by decide +kernel
theorem s_ap : splitId "list.append" = some ("list", "append") := by decide +kernel
section
variable {w : World} {A : Around} {E : Value → Shared → Prop} {s : Shared} {a b : Addr} {vs : Array Value} {k : Nat}
theorem acc_method {i : String} {name : Str} {es : Array DictEntry} {n : Nat} {pl : Sem Bool} {Q : Value × List Value → Shared → Prop} (X : (KK w).In s.heap) (e1 : s.heap.get? a = some (accO 174 b vs k)) (e2 : s.heap.get? b = some (dicO es n)) (hf : findIn (KK w) (.ref 174) name = some (some (.builtin i)))
    (hty : typeOf (.builtin i) = pure (.type "method_descriptor")) (hno : PySem.W.lookIn name (dicO es n) = some none) (h : Q (.builtin i, [.ref a]) s) : wpAny (model prog w) A (getMethod (.ref a) name pl) Q E s := by
  have hcan := canon_list_ga
  have T0 := fun {M : Model} => acc_type (M := M) e1
  refine wpAny_bind (wpAny_bind (T0.here ((looks_findIn X (acc_ga w)).here ?_)))
  dsimp only
  rw [hcan, if_neg (by decide)]
  refine wpAny_bind (wpAny_bind (T0.here ((looks_findIn X (acc_gk w)).here ?_)))
  refine wpAny_bind (wpAny_bind (T0.here ((looks_findIn X hf).here (wpAny_bind (wpAny_of_eq hty ?_)))))
  refine wpAny_bind (wpAny_loadPart e1 ?_)
  refine wpAny_bind (wpAny_bind (wpAny_loadPart e2 ?_))
  rw [nsLook_of hno]
  refine wpAny_pure ?_
  exact wpAny_bind (wpAny_rule (wpAny_pure h))
theorem acc_append {v : Value} {Q : Value → Shared → Prop} (X : (KK w).In s.heap) (e1 : s.heap.get? a = some (accO 174 b vs k)) (hz : vs.size ≤ 1000)
    (h : ∀ h' k', h'.get? a = some (accO 174 b (vs.push v) k') → (∀ y o, y ≠ a → s.heap.get? y = some o → h'.get? y = some o) → Q .none { s with heap := h' }) : wpAny (model prog w) A (call (.builtin "list.append") [.ref a, v]) Q E s := by
  refine acc_call X e1 (.inr k_ap) s_ap (by decide +kernel) PySem.F.entry_list_append (PySem.F.args_list_append_2 _ _) ?_
  obtain ⟨k', u1, u2⟩ := updSeq (f := fun xs => xs.push v) e1 rfl
  show wpAny _ _ (do Builtin.List.listUpdate (.ref a) (·.push v); ret .none) _ _ _
  refine wpAny_bind (wpAny_updateSeq e1 rfl (wpAny_pure ⟨_, rfl, h _ _ u1 u2⟩) (Nat.le_trans hz (by decide)) ?_)
  rw [Array.size_push]
  exact Nat.le_trans (Nat.succ_le_succ hz) (by decide)
theorem parts_of {sl : Addr} {vl vu : Value} {lo hi : Option Int} {Q : Value × Value × Value → Shared → Prop} {M : Model} (hsl : s.heap.get? sl = some (sliceO vl vu)) (pl : IsPart vl lo) (pu : IsPart vu hi) (h : Q (rawPart lo, rawPart hi, rawPart none) s) :
    wpAny M A (Builtin.List.listSliceParts (.ref sl)) Q E s := by
  rw [listSliceParts_eq]
  refine wpAny_bind (wpAny_field hsl rfl (x := .none) rfl (wpAny_bind (wpAny_listPart .none ?_)))
  refine wpAny_bind (wpAny_field hsl rfl (x := vl) rfl (wpAny_bind (wpAny_listPart pl ?_)))
  exact wpAny_bind (wpAny_field hsl rfl (x := vu) rfl (wpAny_bind (wpAny_listPart pu (wpAny_pure h))))
theorem acc_getSlice {sl : Addr} {vl vu : Value} {lo hi : Option Int} {Q : Value → Shared → Prop} (X : (KK w).In s.heap) (e1 : s.heap.get? a = some (accO 174 b vs k)) (hz : vs.size ≤ 1000) (hsl : s.heap.get? sl = some (sliceO vl vu)) (pl : IsPart vl lo) (pu : IsPart vu hi)
    (h : Q (.ref s.heap.objs.size) { s with heap := s.heap.push (lstO (slicePick vs lo hi none) 0) }) : wpAny (model prog w) A (getItem (.ref a) (.ref sl)) Q E s := by
  have hTs : s.TypeIs (.ref sl) "slice" := ⟨_, hsl, rfl⟩
  refine wpAny_holding (wpAny_bind (acc_key X e1 ?_))
  refine wpAny_bind (acc_special (Q := fun r s' => wpAny (model prog w) A (match r with | some v => Pure.pure v | none => _) Q E s') X e1 (acc_gi w) PySem.F.slot_list_getitem.bind (.inr k_gi) s_gi (by decide +kernel) PySem.F.entry_list_getitem (PySem.F.args_list_getitem_2 _ _) ?_)
  show wpAny _ _ (Builtin.List.listSubscript? (.ref sl) >>= _) _ _ s
  refine wpAny_bind ?_
  unfold Builtin.List.listSubscript?
  refine wpAny_bind (wpAny_specialOf hTs slice_no_index ?_)
  refine wpAny_pure ?_
  refine wpAny_bind (wpAny_typeOf hTs ?_)
  refine wpAny_bind (parts_of hsl pl pu ?_)
  refine wpAny_bind (m := Builtin.List.listItems (.ref a)) ?_
  refine wpAny_bind (wpAny_seqItems e1 rfl (wpAny_pure ?_))
  refine wpAny_bind (wpAny_of_eq (sliceIndices_raw lo hi none vs.size (by simp)) ?_)
  exact wpAny_bind (wpAny_newObj_type (wpAny_pure ⟨_, rfl, wpAny_pure h⟩) (Nat.le_trans (slicePick_size_le vs lo hi none) (Nat.le_trans hz (by decide))))
theorem acc_cutSlice {sl l0 : Addr} {vl : Value} {i : Nat} {n0 : Nat} {Q : Unit → Shared → Prop} (X : (KK w).In s.heap) (e1 : s.heap.get? a = some (accO 174 b vs k)) (hz : vs.size ≤ 1000) (hsl : s.heap.get? sl = some (sliceO vl .none)) (pl : IsPart vl (some (i : Int))) (hi : i ≤ vs.size) (hl0 : s.heap.get? l0 = some (lstO #[] n0))
    (h : ∀ h' k', h'.get? a = some (accO 174 b (vs.extract 0 i) k') → (∀ y o, y ≠ a → s.heap.get? y = some o → h'.get? y = some o) → Q () { s with heap := h' }) : wpAny (model prog w) A (setItem (.ref a) (.ref sl) (.ref l0)) Q E s := by
  have hTs : s.TypeIs (.ref sl) "slice" := ⟨_, hsl, rfl⟩
  have hTl : s.TypeIs (.ref l0) "list" := ⟨_, hl0, rfl⟩
  have hne : a ≠ l0 := fun q => by rw [q, hl0] at e1; cases e1
  refine wpAny_holding (wpAny_bind (acc_key X e1 ?_))
  refine wpAny_bind (acc_special (Q := fun r s' => wpAny (model prog w) A (match r with | some _ => Pure.pure () | none => _) Q E s') X e1 (acc_si w) PySem.F.slot_list_setitem.bind (.inl k_si) s_si (by decide +kernel) PySem.F.entry_list_setitem (PySem.F.args_list_setitem_3 _ _ _) ?_)
  show wpAny _ _ (Builtin.List.listSubscript? (.ref sl) >>= _) _ _ s
  refine wpAny_bind ?_
  unfold Builtin.List.listSubscript?
  refine wpAny_bind (wpAny_specialOf hTs slice_no_index ?_)
  refine wpAny_pure ?_
  refine wpAny_bind (wpAny_typeOf hTs ?_)
  refine wpAny_bind (parts_of (hi := none) hsl pl .none ?_)
  have hsame : Builtin.List.listSameRef (.ref a) (.ref l0) = false := by
    show (a == l0) = false
    simp [hne]
  rw [hsame]
  unfold Builtin.List.listAllItems
  refine wpAny_bind (wpAny_bind (wpAny_typeOf hTl ?_))
  refine wpAny_bind (wpAny_seqItems hl0 rfl (wpAny_pure ?_))
  refine wpAny_bind (wpAny_bind (wpAny_seqItems e1 rfl (wpAny_pure ?_)))
  refine wpAny_bind (wpAny_of_eq (sliceIndices_raw (some (i : Int)) none none vs.size (by simp)) ?_)
  have hb : sliceBounds (some (i : Int)) none none vs.size = ((i : Int), (vs.size : Int), 1) := by
    unfold sliceBounds
    simp only [Option.getD_none]
    simp
    omega
  rw [hb]
  dsimp only
  have htl : Builtin.List.listTooLong (vs.size + (#[] : Array Value).size) = false := by
    unfold Builtin.List.listTooLong
    simp
    exact Nat.le_trans hz (by decide)
  simp only [htl]
  have hf : (fun (xs : Array Value) => xs.extract 0 (i : Int).toNat ++ #[] ++ xs.extract (max (i : Int) (vs.size : Int)).toNat xs.size) vs = vs.extract 0 i := by
    simp
    have : (max (i : Int) (vs.size : Int)).toNat = vs.size := by omega
    simp [this]
  obtain ⟨k', u1, u2⟩ := updSeq (f := fun (xs : Array Value) => xs.extract 0 (i : Int).toNat ++ #[] ++ xs.extract (max (i : Int) (vs.size : Int)).toNat xs.size) e1 hf
  refine wpAny_bind (wpAny_rule ?_)
  refine wpAny_bind (wpAny_updateSeq e1 rfl ?_ (Nat.le_trans hz (by decide)) ?_)
  · refine wpAny_bind (wpAny_letGo ?_)
    exact wpAny_bind (wpAny_pure (wpAny_pure ⟨_, rfl, wpAny_pure (h _ _ u1 u2)⟩))
  · refine Nat.le_trans (Nat.le_of_eq (congrArg Array.size hf)) ?_
    rw [Array.size_extract]
    exact Nat.le_trans (Nat.le_trans (Nat.sub_le _ _) (Nat.le_trans (Nat.min_le_right _ _) hz)) (by decide)
end
end
end
section
open PySem PySem.W PySem.Calls PyProof.Rows PySem.Spec Builtin Builtin.ObjectAttr
set_option Elab.async false
set_option maxRecDepth 100000
set_option maxHeartbeats 4000000
set_option linter.unusedVariables false
set_option linter.unusedSimpArgs false
section
section
variable {c : Cx} {F : Frame} {W₁ : Fz}
theorem Ex.appendAcc {o e : Expr} {apos pos spos : Pos} {vars : List (Str × Dt)} {pre post : List Ow} {a b : Addr} {fs : List (Str × Dt)} {ds : List Dt} {d : Dt} {P : Fl → Frame → Prop} (ho : Ev c ⟨vars, pre ++ ⟨a, b, .acc 174 fs ds⟩ :: post⟩ o (.val (.ref a))) (he : Evs c ⟨vars, pre ++ ⟨a, b, .acc 174 fs ds⟩ :: post⟩ [e] [d])
    (hno : fs.lookup ("append" : Str) = none) (hsz : ds.length ≤ 1000) (hp : P .next ⟨vars, pre ++ ⟨a, b, .acc 174 fs (ds ++ [d])⟩ :: post⟩)
    (hst : (backTo pos (starEach [e] c.env)).any (·.1) = false := by rfl) (hbase : attributeBase o (Str.ofString "append") c.env (eval o c.env) = eval o c.env := by rfl) (hline : (apos.endLine == pos.line) = true := by rfl)
    (hform : methodCallForm (1 + 0) (backTo pos (starEach [e] c.env)) [] = true := by rfl)
    (hsw : swapsWith (.Call (.Attribute o (Str.ofString "append") apos) [e] [] pos) none spos.line c.env = Pure.pure false := by rfl) :
    Ex c ⟨vars, pre ++ ⟨a, b, .acc 174 fs ds⟩ :: post⟩ (.Expr (.Call (.Attribute o (Str.ofString "append") apos) [e] [] pos) spos) P := by
  refine Ex.exprP (fun W₁ => ?_) hsw
  refine Go.methP (R := fun v W => v = .ref a) (f := .builtin "list.append") (fun v W W' hs r => r) (fun W₁ => Go.mono (ho W₁) fun v W F' _ r => ⟨r.1, by cases r.2; rfl⟩)
    (fun W v pl r => fun W' h tk Q E hs I hQ => ?_) (Kept.builtin _ _) he (fun W v vs r rs => ?_) hst hbase hline hform W₁
  · subst r
    obtain ⟨pp, lo, me, mg, mb, X, T, h1, h2⟩ := I.wd.at I.keep
    obtain ⟨es, n, vs, k, e1, e2, r, r'⟩ := I.own ⟨a, b, .acc 174 fs ds⟩ (List.mem_append_right _ (.head _))
    exact acc_method (s := St c.s₀ h tk) X e1 e2 (acc_ap _) PySem.F.type_list_append (r.lookIn.2 hno) (hQ _ W' h tk _ I (Sub.refl _) ⟨rfl, rfl⟩)
  · subst r
    obtain ⟨x, _, rfl, r1, rs⟩ := Reps.cons_inv rs
    cases rs
    intro W' h tk Q E hs I hQ
    obtain ⟨pp, lo, me, mg, mb, X, T, h1, h2⟩ := I.wd.at I.keep
    obtain ⟨es, n, vs, k, e1, e2, r, r'⟩ := I.own ⟨a, b, .acc 174 fs ds⟩ (List.mem_append_right _ (.head _))
    have hab : b ≠ a := fun q => by
      have nd := I.nd
      rw [ads_mid] at nd
      have := (List.nodup_append.mp (List.nodup_append.mp nd).2.1).1
      subst q; simp [Ow.ads] at this
    refine acc_append (s := St c.s₀ h tk) X e1 (by rw [← Array.length_toList, r'.length]; exact hsz) fun h' k' u1 u2 => ?_
    have I4 : Inv c ⟨vars, pre ++ ⟨a, b, .acc 174 fs (ds ++ [d])⟩ :: post⟩ W' h' := I.own_turn (p := ⟨a, b, .acc 174 fs ds⟩) rfl (fun b' o' hb' e => u2 b' o' (fun q => hb' (by simp [Ow.ads, q])) e) ⟨es, n, _, k', u1, u2 _ _ hab e2, r, by rw [Array.toList_push]; exact Reps.snoc (r1.mono hs) r'⟩
    exact hQ .none W' h' tk _ I4 (Sub.refl _) ⟨(fun _ e => nomatch e), hp⟩
theorem Ev.accSlice {value : Expr} {lower upper : Option Expr} {p pos : Pos} {vars : List (Str × Dt)} {pre post : List Ow} {a b : Addr} {fs : List (Str × Dt)} {ds : List Dt} {lo hi : Option Int} (ho : Ev c ⟨vars, pre ++ ⟨a, b, .acc 174 fs ds⟩ :: post⟩ value (.val (.ref a)))
    (h2 : Pt c ⟨vars, pre ++ ⟨a, b, .acc 174 fs ds⟩ :: post⟩ lower lo) (h3 : Pt c ⟨vars, pre ++ ⟨a, b, .acc 174 fs ds⟩ :: post⟩ upper hi) (hsz : ds.length ≤ 1000) (ht : ∀ o r, letTemporaryGo value o r = Pure.pure () := by intro _ _; rfl) :
    Ev c ⟨vars, pre ++ ⟨a, b, .acc 174 fs ds⟩ :: post⟩ (.Subscript value (.Slice lower upper none p) pos) (.lst (pk ds lo hi)) := fun W₁ W hp tk Q E hs I hQ => by
  rw [eval_Subscript]
  refine wpAny_bind (ho W W hp tk _ E (Sub.refl _) I (isQ fun o W' g1 tk1 I1 hs1 r1 => ?_))
  cases r1
  refine wpAny_bind (wpAny_holding (wpAny_Slice ?_))
  refine h2 W' W' g1 tk1 _ E (Sub.refl _) I1 (isQ fun vl W2 g2 tk2 I2 hs2 r2 => ?_)
  refine h3 W2 W2 g2 tk2 _ E (Sub.refl _) I2 (isQ fun vu W3 g3 tk3 I3 hs3 r3 => ?_)
  rw [evalPart_none]
  refine wpAny_pure ?_
  have I4 := I3.push (sliceO vl vu) rfl
  refine wpAny_bind (wpAny_standAt ?_)
  obtain ⟨pp, lo', me, mg, mb, X, T, q1, q2⟩ := I4.wd.at I4.keep
  obtain ⟨es, n, vs, k, e1, e2, r, r'⟩ := I4.own ⟨a, b, .acc 174 fs ds⟩ (List.mem_append_right _ (.head _))
  have hl : vs.toList.length = ds.length := r'.length
  rw [getitemInPython_of_ne (o := .ref a) (fun e => by cases e)]
  refine wpAny_bind (wpAny_bind ?_)
  refine wpAny_bind ((acc_type e1).here ((looks_findIn X (acc_gi _)).here ?_))
  refine wpAny_pure ?_
  have I5 := I4.push (lstO (slicePick vs lo hi none) 0) rfl
  refine wpAny_bind (wpAny_operating (acc_getSlice (s := St c.s₀ (g3.push (sliceO vl vu)) tk3) X e1 (by rw [← Array.length_toList, hl]; exact hsz) (sl := g3.objs.size) (Heap.get?_push_size _ rfl) r2 r3 ?_))
  refine wpAny_bind (wpAny_of_eq (ht _ _) (wpAny_pure ?_))
  refine hQ _ _ _ tk3 _ I5 ((((hs1.trans hs2).trans hs3).trans (Fz.sub_put I3.none_size)).trans (Fz.sub_put I4.none_size)) ⟨rfl, .lst (Fz.put_self ..) ?_⟩
  refine Reps.mono (Fz.sub_put I4.none_size) ?_
  rw [kms_pick_eq]
  unfold kms_pick pk
  rw [hl]
  exact ((r'.drop _).take _)
theorem Ex.accCut {o i : Expr} {p lp pos' pos : Pos} {vars : List (Str × Dt)} {pre post : List Ow} {a b : Addr} {fs : List (Str × Dt)} {ds : List Dt} {k : Nat} {P : Fl → Frame → Prop} (ho : Ev c ⟨vars, pre ++ ⟨a, b, .acc 174 fs ds⟩ :: post⟩ o (.val (.ref a)))
    (hi : Ev c ⟨vars, pre ++ ⟨a, b, .acc 174 fs ds⟩ :: post⟩ i (.int (k : Int))) (hk : k ≤ ds.length) (hsz : ds.length ≤ 1000) (hp : P .next ⟨vars, pre ++ ⟨a, b, .acc 174 fs (ds.take k)⟩ :: post⟩)
    (hs : swapsWith (.List [] lp) (some (.Subscript o (.Slice (some i) none none p) pos')) pos.line c.env = Pure.pure false := by rfl) :
    Ex c ⟨vars, pre ++ ⟨a, b, .acc 174 fs ds⟩ :: post⟩ (.Assign [.Subscript o (.Slice (some i) none none p) pos'] (.List [] lp) pos) P := fun W₁ W h tk Q E hW I hQ => by
  refine wpAny_Assign_Subscript ?_ hs
  refine Ev.list (ds := []) Evs.nil (by decide) W W h tk _ _ (Sub.refl _) I (isQ fun v W1 h1 tk1 I1 hs1 r1 => ?_)
  refine ho W1 W1 h1 tk1 _ _ (Sub.refl _) I1 (isQ fun ov W2 h2 tk2 I2 hs2 r2 => ?_)
  cases r2
  refine wpAny_Slice ?_
  refine Pt.some hi W2 W2 h2 tk2 _ E (Sub.refl _) I2 (isQ fun vl W3 g3 tk3 I3 hs3 r3 => ?_)
  rw [evalPart_none]
  refine wpAny_pure (wpAny_pure ?_)
  have I4 := I3.push (sliceO vl .none) rfl
  have r1' := (r1.mono (hs2.trans hs3)).mono (Fz.sub_put I3.none_size (o := sliceO vl .none))
  obtain ⟨l0, vs0, n0, rfl, e0, q0⟩ := Rep.lst_inv r1'
  have hv0 : vs0 = #[] := by
    have := q0.length
    rw [Array.length_toList] at this
    exact Array.eq_empty_of_size_eq_zero this
  subst hv0
  obtain ⟨pp, lo', me, mg, mb, X, T, q1, q2⟩ := I4.wd.at I4.keep
  obtain ⟨es, n, vs, kk, e1, e2, r, r'⟩ := I4.own ⟨a, b, .acc 174 fs ds⟩ (List.mem_append_right _ (.head _))
  have hl : vs.size = ds.length := by rw [← Array.length_toList, r'.length]
  have hab : b ≠ a := fun q => by
    have nd := I4.nd
    rw [ads_mid] at nd
    have := (List.nodup_append.mp (List.nodup_append.mp nd).2.1).1
    subst q; simp [Ow.ads] at this
  refine acc_cutSlice (s := St c.s₀ (g3.push (sliceO vl .none)) tk3) (i := k) X e1 (by omega) (sl := g3.objs.size) (Heap.get?_push_size _ rfl) r3 (by omega) (I4.keep _ _ e0) fun h' k' u1 u2 => ?_
  have I5 : Inv c ⟨vars, pre ++ ⟨a, b, .acc 174 fs (ds.take k)⟩ :: post⟩ _ h' := I4.own_turn (p := ⟨a, b, .acc 174 fs ds⟩) rfl (fun b' o' hb' e => u2 b' o' (fun q => hb' (by simp [Ow.ads, q])) e) ⟨es, n, _, k', u1, u2 _ _ hab e2, r, by
    rw [Array.toList_extract, List.extract_eq_take_drop]
    exact (r'.take k)⟩
  exact hQ .next _ h' tk3 _ I5 (((hs1.trans hs2).trans hs3).trans (Fz.sub_put I3.none_size)) ⟨.next, trivial, hp⟩
end
end
end
section
open PySem PySem.W PySem.Calls PyProof.Rows PySem.Spec Builtin Builtin.ObjectAttr
set_option Elab.async false
set_option maxRecDepth 100000
set_option maxHeartbeats 4000000
set_option linter.unusedVariables false
set_option linter.unusedSimpArgs false
section
theorem push_cal (w : World) (fs : List (Str × Dt)) (l : List Dt) (x y : Str) (hno : fs.lookup ("append" : Str) = none) (hsz : l.length ≤ 1000) : CalO w (.ref 118) 1 174 fs l [.str x, .str y] .none fs (l ++ [.tup [.str x, .str y]]) := by
  refine CalO.fn (n := 0) (dd := []) (dv := []) (names := [Str.ofString "self", Str.ofString "fws", Str.ofString "string"]) (hK := rfl) (hcode := rfl) (hbody := rfl) (hbind := ?_) (hdv := fun _ => .nil) (hcell := by decide) (hloc := by decide) (hco := rfl) (hgen := rfl) (hk := rfl) (hgl := rfl) (hbi := rfl) (hlen := rfl) ?_
  · rintro s vs X hv
    obtain ⟨a, b, e, rfl⟩ : ∃ a b e, vs = [a, b, e] := by
      rcases vs with _ | ⟨a, _ | ⟨b, _ | ⟨e, _ | ⟨f, r⟩⟩⟩⟩ <;> first | exact ⟨_, _, _, rfl⟩ | simp at hv
    exact .of_eq rfl
  · rintro c a b rfl hk hs ⟨L, hce⟩
    dsimp only at hs
    refine TrAt.of (Tr.cons ?_)
    refine' Ex.appendAcc (pre := []) (post := []) ?za1 ?za2 hno hsz ?za3
    case za1 => walk_at "ev"
    case za2 => walk_at "evs"
    case za3 => exact Tr.nil ⟨.inr ⟨rfl, rfl⟩, _, [], [], rfl⟩
theorem popfrom_cal (w : World) (fs : List (Str × Dt)) (l : List Dt) (k : Nat) (hk : k ≤ l.length) (hsz : l.length ≤ 1000) : CalO w (.ref 126) 1 174 fs l [.int (k : Int)] (.lst (pk l (some (k : Int)) none)) fs (l.take k) := by
  refine CalO.fn (n := 0) (dd := []) (dv := []) (names := [Str.ofString "self", Str.ofString "i"]) (hK := rfl) (hcode := rfl) (hbody := rfl) (hbind := ?_) (hdv := fun _ => .nil) (hcell := by decide) (hloc := by decide) (hco := rfl) (hgen := rfl) (hk := rfl) (hgl := rfl) (hbi := rfl) (hlen := rfl) ?_
  · rintro s vs X hv
    obtain ⟨a, b, rfl⟩ : ∃ a b, vs = [a, b] := by
      rcases vs with _ | ⟨a, _ | ⟨b, _ | ⟨e, r⟩⟩⟩ <;> first | exact ⟨_, _, rfl⟩ | simp at hv
    exact BindsTo.of_defaults rfl (X 119 _ rfl) rfl rfl rfl
  · rintro c a b rfl hk0 hs ⟨L, hce⟩
    dsimp only at hs
    refine TrAt.of (Tr.cons ?_)
    refine' Ex.assign (d := .lst (pk l (some (k : Int)) none)) hs rfl (Ev.accSlice (pre := []) (post := []) (lo := some (k : Int)) (hi := none) ?za1 (Pt.some ?za2) Pt.none hsz) ?za3
    case za1 => walk_at "ev"
    case za2 => walk_at "ev"
    case za3 =>
      show Tr _ _ _ _
      refine' Tr.cons (Ex.accCut (pre := []) (post := []) (k := k) ?zb1 ?zb2 hk hsz ?zb3)
      case zb1 => walk_at "ev"
      case zb2 => walk_at "ev"
      case zb3 =>
        show Tr _ _ _ _
        refine' Tr.cons (Ex.ret (d := .lst (pk l (some (k : Int)) none)) ?zc1 ?zc2)
        case zc1 => walk_at "ev"
        case zc2 => exact ⟨.inl rfl, _, [], [], rfl⟩
end
end
section
open PySem PySem.W PySem.Calls PyProof.Rows PySem.Spec Builtin Builtin.ObjectAttr
set_option Elab.async false
set_option maxRecDepth 100000
set_option maxHeartbeats 4000000
set_option linter.unusedVariables false
set_option linter.unusedSimpArgs false
section
theorem acc_fn {w : World} {A : Around} {E : Value → Shared → Prop} {s : Shared} {a b f : Addr} {vs : Array Value} {k : Nat} {name : Str} {es : Array DictEntry} {n : Nat} {pl : Sem Bool} {Q : Value × List Value → Shared → Prop} (X : (KK w).In s.heap) (e1 : s.heap.get? a = some (accO 174 b vs k)) (e2 : s.heap.get? b = some (dicO es n)) (hf : findIn (KK w) (.ref 174) name = some (some (.ref f)))
    (ht : typeIn (KK w) (.ref f) = some (.type "function")) (hno : PySem.W.lookIn name (dicO es n) = some none) (h : Q (.ref f, [.ref a]) s) : wpAny (model prog w) A (getMethod (.ref a) name pl) Q E s := by
  have hcan := canon_list_ga
  have T0 := fun {M : Model} => acc_type (M := M) e1
  refine wpAny_bind (wpAny_bind (T0.here ((looks_findIn X (acc_ga w)).here ?_)))
  dsimp only
  rw [hcan, if_neg (by decide)]
  refine wpAny_bind (wpAny_bind (T0.here ((looks_findIn X (acc_gk w)).here ?_)))
  refine wpAny_bind (wpAny_bind (T0.here ((looks_findIn X hf).here (wpAny_bind ((looks_typeIn X ht).here ?_)))))
  refine wpAny_bind (wpAny_loadPart e1 ?_)
  refine wpAny_bind (wpAny_bind (wpAny_loadPart e2 ?_))
  rw [nsLook_of hno]
  refine wpAny_pure ?_
  exact wpAny_bind (wpAny_rule (wpAny_pure h))
section
variable {c : Cx} {F : Frame}
theorem Go.accMeth {o : Expr} {name : Str} {apos pos : Pos} {es : List Expr} {f : Addr} {n : Nat} {ds : List Dt} {d : Dt} {vars : List (Str × Dt)} {pre post : List Ow} {a b : Addr} {fs fs' : List (Str × Dt)} {l l' : List Dt}
    (ho : Ev c ⟨vars, pre ++ ⟨a, b, .acc 174 fs l⟩ :: post⟩ o (.val (.ref a))) (hf : findIn (KK c.w) (.ref 174) name = some (some (.ref f))) (ht : typeIn (KK c.w) (.ref f) = some (.type "function")) (hno : fs.lookup name = none) (hK : Kept c.w (.ref f))
    (hes : Evs c ⟨vars, pre ++ ⟨a, b, .acc 174 fs l⟩ :: post⟩ es ds) (hc : CalO c.w (.ref f) n 174 fs l ds d fs' l') (hn : n ≤ c.k)
    (hst : (backTo pos (starEach es c.env)).any (·.1) = false := by rfl) (hbase : attributeBase o name c.env (eval o c.env) = eval o c.env := by rfl) (hline : (apos.endLine == pos.line) = true := by rfl)
    (hform : methodCallForm (es.length + 0) (backTo pos (starEach es c.env)) [] = true := by rfl) : ∀ W₁, Go c ⟨vars, pre ++ ⟨a, b, .acc 174 fs l⟩ :: post⟩ W₁ (eval (.Call (.Attribute o name apos) es [] pos) c.env) (Is ⟨vars, pre ++ ⟨a, b, .acc 174 fs' l'⟩ :: post⟩ d) :=
  Go.methP (R := fun v W => v = .ref a) (f := .ref f) (fun v W W' hs r => r) (fun W₁ => Go.mono (ho W₁) fun v W F' _ r => ⟨r.1, by cases r.2; rfl⟩)
    (fun W v pl r => fun W' h tk Q E hs I hQ => by
      subst r
      obtain ⟨pp, lo, me, mg, mb, X, T, h1, h2⟩ := I.wd.at I.keep
      obtain ⟨es, n, vs, k, e1, e2, r, r'⟩ := I.own ⟨a, b, .acc 174 fs l⟩ (List.mem_append_right _ (.head _))
      exact acc_fn (s := St c.s₀ h tk) X e1 e2 hf ht (r.lookIn.2 hno) (hQ _ W' h tk _ I (Sub.refl _) ⟨rfl, rfl⟩)) hK hes (fun W v vs r rs => by
      subst r
      exact hc c vars pre post a b W vs rfl hn rs) hst hbase hline hform
end
theorem chk_llen (M : Model) (A : Around) (s : Shared) (a : Addr) : wpAny M A (checkBoundCall "list.__len__" ⟨[.ref a], []⟩) (fun _ s' => s' = s) (fun _ _ => False) s := wpAny_of_eq (a := ()) (by kernel_rfl) rfl
theorem chk_linit (M : Model) (A : Around) (s : Shared) (a : Addr) : wpAny M A (checkBoundCall "list.__init__" ⟨[.ref a], []⟩) (fun _ s' => s' = s) (fun _ _ => False) s := wpAny_of_eq (a := ()) (by kernel_rfl) rfl
theorem e_llen : entryFor table "list.__len__" = some Builtin.«list.__len__» := entryFor_of_tree (by kernel_rfl)
theorem part_cal (w : World) (fs : List (Str × Dt)) (l : List Dt) (hsz : l.length ≤ 1000) : CalO w (.ref 171) 1 174 fs l [] (.int (l.length : Int)) fs l := by
  refine CalO.fn (n := 0) (dd := []) (dv := []) (names := [Str.ofString "self"]) (hK := rfl) (hcode := rfl) (hbody := rfl) (hbind := ?_) (hdv := fun _ => .nil) (hcell := by decide) (hloc := by decide) (hco := rfl) (hgen := rfl) (hk := rfl) (hgl := rfl) (hbi := rfl) (hlen := rfl) ?_
  · rintro s vs X hv
    obtain ⟨a, rfl⟩ : ∃ a, vs = [a] := by
      rcases vs with _ | ⟨a, _ | ⟨b, r⟩⟩ <;> first | exact ⟨_, rfl⟩ | simp at hv
    exact .of_eq rfl
  · rintro c a b rfl hk hs hce
    refine TrAt.one (ExAt.ret fun W₁ => ?_)
    refine fun W hp tk Q E hs' I hQ => superEv (c := c) (R := fun vs v vs' => (∃ t, v = .int (vs.size : Int) t) ∧ vs' = vs) (d := .int (l.length : Int)) (l' := l) (vars := [(Str.ofString "self", .val (.ref a))]) (a := a) (b := b) (fs := fs) (l := l) (bt := "method-wrapper") hce rfl rfl rfl rfl rfl rfl rfl rfl rfl rfl rfl rfl rfl rfl rfl
      type_llen slot_wget entry_wget args_wget (fun h g d t os x C A P E i q => run_wget owner_llen i q) (.inr rfl) (by decide +kernel) e_llen (fun A s vs k X e => chk_llen _ _ _ _) (lop_len _) hsz (fun q => nomatch q) (fun W vs v vs' r q => ?_) rfl W hp tk Q E hs' I (fun v W' h' tk' F' I' hs2 r => hQ v W' h' tk' F' I' hs2 ?_)
    · obtain ⟨⟨t, rfl⟩, rfl⟩ := q
      refine ⟨?_, r⟩
      rw [← r.length, Array.length_toList]
      exact .int _ _
    · obtain ⟨rfl, r⟩ := r
      exact ⟨_, r, .inl rfl, _, [], [], rfl⟩
theorem acc_isnot (w : World) : mroIn (KK w) 174 (.type "module") = some false := by rfl
theorem acc_meta (w : World) : typeIn (KK w) (.ref 174) = some (.type "type") := by rfl
theorem acc_notva : Manifest.varargsMethods.contains "list.pop" = false := by decide +kernel
theorem acc_clsname (w : World) : (clsIn (KK w) 174).map (·.qualname) = some (Str.ofString "_Accumulator") := by rfl
theorem k_pop : builtinKind "list.pop" = some .method := by decide +kernel
theorem chk_lpop {w : World} {M : Model} (A : Around) (s : Shared) (a b : Addr) (vs : Array Value) (k : Nat) (X : (KK w).In s.heap) (e : s.heap.get? a = some (accO 174 b vs k)) : wpAny M A (checkBoundCall "list.pop" ⟨[.ref a], []⟩) (fun _ s' => s' = s) (fun _ _ => False) s := by
  have hargs : ∀ sig, Manifest.signature? "list.pop" = some sig → Bind.checkArgs "list.pop" { sig with full := s!"{(Str.ofString "_Accumulator").toString}.{Bind.lastOf "list.pop"}" } ⟨[.ref a], []⟩ = pure () := by
    intro sig hs
    rw [signature?_of (id := "list.pop") (n := ['p', 'o', 'p']) (o := ['t', 's', 'i', 'l']) (by kernel_rfl) PySem.F.owner_list] at hs
    have hs' := Option.some.inj hs
    subst hs'
    kernel_rfl
  obtain ⟨sig, hsig⟩ : ∃ sig, Manifest.signature? "list.pop" = some sig := by
    cases h : Manifest.signature? "list.pop" with
    | none => exact absurd h (by rw [signature?_of (id := "list.pop") (n := ['p', 'o', 'p']) (o := ['t', 's', 'i', 'l']) (by kernel_rfl) PySem.F.owner_list]; decide +kernel)
    | some sig => exact ⟨sig, rfl⟩
  obtain ⟨cd, hcd, hq⟩ := Option.map_eq_some_iff.mp (acc_clsname w)
  unfold checkBoundCall
  simp only [hsig, k_pop]
  have T0 := fun {M : Model} => acc_type (M := M) e
  have I0 : Looks M s.heap (isInstance (.ref a) (.type "module")) false := T0.andThen (looks_mroIn X (acc_isnot w))
  refine wpAny_bind (I0.here ?_)
  rw [acc_notva]
  refine wpAny_bind (m := isType (.ref a)) ?_
  refine wpAny_bind (wpAny_loadPart e ?_)
  refine wpAny_pure ?_
  refine wpAny_bind (T0.here ?_)
  refine wpAny_bind ((looks_clsIn X hcd).here ?_)
  refine wpAny_bind ((looks_typeIn X (acc_meta w)).here ?_)
  rw [if_pos (by decide), hq]
  exact wpAny_of_eq (hargs sig hsig) rfl
theorem Reps.snoc_inv {W : Fz} {vs : List Value} {l : List Dt} {x : Dt} (r : Reps W vs (l ++ [x])) : ∃ vs0 v0, vs = vs0 ++ [v0] ∧ Reps W vs0 l ∧ Rep W v0 x := by
  have hl := r.length
  rw [List.length_append, List.length_singleton] at hl
  have r1 := r.take l.length
  have r2 := r.drop l.length
  rw [List.take_left] at r1
  rw [List.drop_left] at r2
  cases e : vs.drop l.length with
  | nil => rw [e] at r2; cases r2
  | cons v0 rest =>
    rw [e] at r2
    cases r2 with | cons a b => ?_
    cases b
    exact ⟨vs.take l.length, v0, by rw [← e, List.take_append_drop], r1, a⟩
theorem entry_lpop : entryFor table "list.pop" = some Builtin.«list.pop» := PySem.F.entry_list_pop
theorem pop_cal (w : World) (fs : List (Str × Dt)) (l : List Dt) (x : Dt) (hno : fs.lookup ("part_count" : Str) = none) (hsz : l.length < 1000) : CalO w (.ref 134) 2 174 fs (l ++ [x]) [] x fs l := by
  have hl2 : (l ++ [x]).length ≤ 1000 := by rw [List.length_append, List.length_singleton]; omega
  refine CalO.fn (n := 1) (dd := []) (dv := []) (names := [Str.ofString "self"]) (hK := rfl) (hcode := rfl) (hbody := rfl) (hbind := ?_) (hdv := fun _ => .nil) (hcell := by decide) (hloc := by decide) (hco := rfl) (hgen := rfl) (hk := rfl) (hgl := rfl) (hbi := rfl) (hlen := rfl) ?_
  · rintro s vs X hv
    obtain ⟨a, rfl⟩ : ∃ a, vs = [a] := by
      rcases vs with _ | ⟨a, _ | ⟨b, r⟩⟩ <;> first | exact ⟨_, rfl⟩ | simp at hv
    exact .of_eq rfl
  · rintro c a b rfl hk hs hce
    have hs0 := hs
    dsimp only at hs
    refine TrAt.cons (ExAt.if_ (r := decide (((l ++ [x]).length : Int) = 0)) (Te.compare (d1 := .int ((l ++ [x]).length : Int)) (d2 := .int 0) ?za1 ?za2 ?za3) (fun q => ?za4) fun q => ?za5)
    case za1 =>
      have h := part_cal c.w fs (l ++ [x]) hl2
      refine Go.accMeth (pre := []) (post := []) (fs' := fs) (l' := l ++ [x]) (ds := []) ?zb1 (by rfl) (by rfl) hno (Kept.of rfl) Evs.nil h (by rw [hk]; exact Nat.le_refl _)
      case zb1 => walk_at "ev"
    case za2 => walk_at "ev"
    case za3 => walk_at "cop"
    case za4 =>
      rw [List.length_append, List.length_singleton, decide_eq_true_eq] at q
      omega
    case za5 =>
      refine TrAt.of (Tr.nil ?_)
      refine TrAt.one (ExAt.ret fun W₁ => ?_)
      refine fun W hp tk Q E hs' I hQ => superEv (c := c) (R := fun vs v vs' => vs[vs.size - 1]? = some v ∧ vs' = vs.eraseIdxIfInBounds (vs.size - 1)) (d := x) (l' := l) (vars := [(Str.ofString "self", .val (.ref a))]) (a := a) (b := b) (fs := fs) (l := l ++ [x]) (bt := "builtin_function_or_method") hce rfl rfl rfl rfl rfl rfl rfl rfl rfl rfl rfl rfl rfl rfl rfl
        PySem.F.type_list_pop slot_mget entry_mget args_mget (fun h g d t os x C A P E i q => run_mget (by decide +kernel) owner_lpop i q) (.inl rfl) (by decide +kernel) entry_lpop (fun A s vs k X e => chk_lpop _ _ _ _ _ _ X e) (lop_pop _) hl2 (fun _ => by rw [List.length_append, List.length_singleton]; omega) (fun W vs v vs' r q => ?zc1) rfl W hp tk Q E hs' I (fun v W' h' tk' F' I' hs2 r => hQ v W' h' tk' F' I' hs2 ?zc2)
      case zc1 =>
        obtain ⟨e1, rfl⟩ := q
        obtain ⟨vs0, v0, e, r1, r2⟩ := r.snoc_inv
        obtain rfl : vs = (vs0 ++ [v0]).toArray := by rw [← e]
        simp at e1
        subst e1
        refine ⟨r2, ?_⟩
        have : ((vs0 ++ [v0]).toArray.eraseIdxIfInBounds ((vs0 ++ [v0]).toArray.size - 1)).toList = vs0 := by
          simp [Array.eraseIdxIfInBounds, List.eraseIdx_append]
        rw [this]
        exact r1
      case zc2 =>
        obtain ⟨rfl, r⟩ := r
        exact ⟨_, r, .inl rfl, _, [], [], rfl⟩
end
end
section
open PySem PySem.W PySem.Calls PyProof.Rows PySem.Spec Builtin Builtin.ObjectAttr
set_option Elab.async false
set_option maxRecDepth 100000
set_option maxHeartbeats 4000000
set_option linter.unusedVariables false
set_option linter.unusedSimpArgs false
section
section
variable {c : Cx} {F : Frame} {W W₁ : Fz} {h : Heap}
theorem Inv.own_new {p : Ow} (J : Inv c F W h) (n : Nat) (hn : c.s₀.heap.objs.size ≤ n) (hL : c.L < n) (hF : ∀ a ∈ F.ads, a < n) (hh : ∀ q ∈ c.hid, q.1 < n) (hp : p.Ok W h) (ha : ∀ a ∈ p.ads, n ≤ a ∧ W a = none) (nd : p.ads.Nodup) : Inv c ⟨F.vars, p :: F.own⟩ W h :=
  { wd := J.wd, vars := J.vars, base := J.base, sub := J.sub, keep := J.keep, new := J.new, hL := J.hL, wL := J.wL
    own := fun q hq => by rcases List.mem_cons.mp hq with rfl | hq; exact hp; exact J.own q hq
    ads := fun a hm => by
      rw [Frame.ads, List.flatMap_cons] at hm
      rcases List.mem_append.mp hm with hm | hm
      · exact ⟨Nat.ne_of_gt (Nat.lt_of_lt_of_le hL (ha a hm).1), (ha a hm).2, .inl (Nat.le_trans hn (ha a hm).1)⟩
      · exact J.ads a hm
    nd := by
      rw [Frame.ads, List.flatMap_cons]
      exact List.nodup_append.mpr ⟨nd, J.nd, fun a ha' b hb e => by subst e; exact absurd (hF a hb) (Nat.not_lt.mpr (ha a ha').1)⟩
    bor := J.bor
    hid := fun q hq => ⟨(J.hid q hq).1, (J.hid q hq).2.1, (J.hid q hq).2.2.1, by
      rw [Frame.ads, List.flatMap_cons]
      intro hm
      rcases List.mem_append.mp hm with hm | hm
      · exact absurd (hh q hq) (Nat.not_lt.mpr (ha _ hm).1)
      · exact (J.hid q hq).2.2.2.1 hm, (J.hid q hq).2.2.2.2⟩
    hnd := J.hnd }
theorem Ex.setAttrAcc {o value : Expr} {name : Str} {pos' pos : Pos} {C a b : Addr} {vars : List (Str × Dt)} {pre post : List Ow} {fs : List (Str × Dt)} {l : List Dt} {d : Dt} {P : Fl → Frame → Prop} (hv : Ev c ⟨vars, pre ++ ⟨a, b, .acc C fs l⟩ :: post⟩ value d) (ho : Ev c ⟨vars, pre ++ ⟨a, b, .acc C fs l⟩ :: post⟩ o (.val (.ref a)))
    (A : StoL c.w C name) (hl : fs.lookup name = none) (hz : fs.length ≤ 100) (hp : P .next ⟨vars, pre ++ ⟨a, b, .acc C (fs ++ [(name, d)]) l⟩ :: post⟩)
    (hs : swapsWith value (some (.Attribute o name pos')) pos.line c.env = Pure.pure false := by rfl) : Ex c ⟨vars, pre ++ ⟨a, b, .acc C fs l⟩ :: post⟩ (.Assign [.Attribute o name pos'] value pos) P := fun W₁ W h tk Q E hW I hQ => by
  refine plainObj_wpAny_Assign_Attribute ?_ hs
  refine hv W W h tk _ _ (Sub.refl _) I (isQ fun v W1 h1 tk1 I1 hs1 r1 => ?_)
  refine ho W1 W1 h1 tk1 _ _ (Sub.refl _) I1 (isQ fun ov W2 h2 tk2 I2 hs2 r2 => ?_)
  cases r2
  obtain ⟨es, n, vs, k, e1, e2, r, r'⟩ := I2.own ⟨a, b, .acc C fs l⟩ (List.mem_append_right _ (.head _))
  refine setAtL A hl hz I2 e1 rfl e2 r fun h' tk' t' g1 g2 => ?_
  have nab : b ≠ a := fun q => by
    have nd := I2.nd
    rw [ads_mid] at nd
    have := (List.nodup_append.mp (List.nodup_append.mp nd).2.1).1
    subst q; simp [Ow.ads] at this
  have I3 : Inv c ⟨vars, pre ++ ⟨a, b, .acc C (fs ++ [(name, d)]) l⟩ :: post⟩ W2 h' := I2.own_turn (p := ⟨a, b, .acc C fs l⟩) rfl (fun b' o' hb' e => (g2 b' (fun q => hb' (by simp [Ow.ads, q]))).trans e)
    ⟨_, _, vs, k, (g2 a (Ne.symm nab)).trans e1, g1, by rw [Array.toList_push]; exact (Flds.snoc (r1.mono hs2) r), r'⟩
  exact hQ .next W2 h' _ _ I3 (hs1.trans hs2) ⟨.next, trivial, hp⟩
end
noncomputable abbrev isz : List (Str × Dt) := [(Str.ofString "_initial_size", .int 0)]
theorem acc_init (c : Cx) (a b : Addr) (hk : c.k = 0) {fd : FuncData} {body : List Stmt} {oc : Value} {od : Option Addr} {osl : Array (Option Value)} (hK : (KK c.w).lookup 111 = some ⟨oc, od, .func fd, osl⟩) (hbody : fd.body = .stmts body) (hs : c.env.scope = fd.scope) (hce : ∃ L, c.env = callEnv fd L 111) :
    TrAt c body ⟨[(Str.ofString "initial_size", .int 0), (Str.ofString "self", .val (.ref a))], [⟨a, b, .acc 174 [] []⟩]⟩ body (fun f F => f = .next ∧ ∃ vars, F = ⟨vars, [⟨a, b, .acc 174 isz []⟩]⟩) := by
  have hK2 := hK
  cases hK
  cases hbody
  have hs0 := hs
  dsimp only at hs
  refine TrAt.cons (ExAt.of ?_)
  refine' Ex.setAttrAcc (pre := []) (post := []) (d := .int 0) ?za1 ?za2 (acc_sto _) rfl (by decide) ?za3
  case za1 => walk_at "ev"
  case za2 => walk_at "ev"
  case za3 =>
    refine TrAt.one (ExAt.expr fun W₁ => ?_)
    refine fun W hp tk Q E hs' I hQ => superEv (c := c) (R := fun vs v vs' => v = .none ∧ vs' = #[]) (d := .none) (l' := []) (vars := [(Str.ofString "initial_size", .int 0), (Str.ofString "self", .val (.ref a))]) (a := a) (b := b) (fs := isz) (l := []) (bt := "method-wrapper") hce hK2 rfl rfl rfl rfl rfl rfl rfl rfl rfl rfl rfl rfl rfl rfl
        type_linit slot_wget entry_wget args_wget (fun h g d t os x C A P E i q => run_wget owner_linit i q) (.inr rfl) (by decide +kernel) PySem.F.entry_list_init (fun A s vs k X e => chk_linit _ _ _ _) (lop_init _) (by decide) (fun q => nomatch q) (fun W vs v vs' r q => ?zc1) rfl W hp tk Q E hs' I (fun v W' h' tk' F' I' hs2 r => hQ v W' h' tk' F' I' hs2 ?zc2)
    case zc1 =>
      obtain ⟨rfl, rfl⟩ := q
      exact ⟨.none, .nil⟩
    case zc2 =>
      obtain ⟨rfl, r⟩ := r
      exact ⟨rfl, _, rfl⟩
end
end
section
open PySem PySem.W PySem.Calls PyProof.Rows PySem.Spec Builtin Builtin.ObjectAttr
set_option Elab.async false
set_option maxRecDepth 100000
set_option maxHeartbeats 4000000
set_option linter.unusedVariables false
set_option linter.unusedSimpArgs false
section
theorem acc_initf (w : World) : findIn (KK w) (.ref 174) "__init__" = some (some (.ref 111)) := by rfl
theorem fn111 (w : World) : typeIn (KK w) (.ref 111) = some (.type "function") := by rfl
theorem def111 (w : World) : ∃ fd body oc od osl, (KK w).lookup 111 = some ⟨oc, od, .func fd, osl⟩ ∧ fd.body = .stmts body ∧ codeIn (KK w) fd.code fd.qualname = true ∧ (∀ x ∈ fd.scope.names, x.2 ≠ .cell) ∧ (∀ x ∈ [Str.ofString "self", Str.ofString "initial_size"], fd.scope.names.lookup x = some .local) ∧
    fd.scope.isCoroutine = false ∧ fd.scope.isGenerator = false ∧ fd.scope.kind = .function ∧ fd.globals = mainGlobals ∧ fd.builtins = builtinsNs ∧
    (∃ dv, (∀ W, Rep W dv (.int 0)) ∧ ∀ (s : Shared) (v : Value), (KK w).In s.heap → BindsTo s fd ⟨[v], []⟩ [(Str.ofString "self", v), (Str.ofString "initial_size", dv)]) := 
  ⟨_, _, _, _, _, rfl, rfl, rfl, by decide, by decide, rfl, rfl, rfl, rfl, rfl, .int 0 395, fun _ => .int _ _, fun s v X => BindsTo.of_defaults rfl (X 103 _ rfl) rfl rfl rfl⟩
theorem acc_new {c : Cx} {F : Frame} {W₁ : Fz} (hk2 : 2 ≤ c.k) : Go c F W₁ (call (.ref 174) []) (fun v W F' => ∃ a b, v = .ref a ∧ F' = ⟨F.vars, ⟨a, b, .acc 174 isz []⟩ :: F.own⟩) := fun W hp tk Q E hs I hQ => by
  obtain ⟨fd, body, oc, od, osl, hK, hbody, hcode, hcell, hloc, hco, hgen, hk, hgl, hbi, dv, hdv, hbind⟩ := def111 c.w
  obtain ⟨p, l, me, mg, mb, X, T, h1, h2⟩ := I.wd.at I.keep
  refine wpAny_call ?_
  refine makeL (makesL_of X (acc_makes _)) (looks_findIn X (acc_initf _)) (fun self => bind_fn X self (fn111 _)) ?_
  have k1 : ∀ b o, hp.get? b = some o → ((hp.push emptyDict).push (accObj 174 hp.objs.size)).get? b = some o := fun b o e => Heap.get?_push_of_some _ (Heap.get?_push_of_some _ e)
  have sz : ((hp.push emptyDict).push (accObj 174 hp.objs.size)).objs.size = hp.objs.size + 2 := by rw [Heap.size_push, Heap.size_push]
  have gx : ((hp.push emptyDict).push (accObj 174 hp.objs.size)).get? (hp.objs.size + 1) = some (accObj 174 hp.objs.size) := by
    have := Heap.get?_push_size (hp.push emptyDict) (o := accObj 174 hp.objs.size) rfl
    rwa [Heap.size_push] at this
  have gd : ((hp.push emptyDict).push (accObj 174 hp.objs.size)).get? hp.objs.size = some emptyDict := Heap.get?_push_of_some _ (Heap.get?_push_size hp rfl)
  refine ks_codeAny_call_defAt (s := ⟨(hp.push emptyDict).push (accObj 174 hp.objs.size), c.s₀.gens, c.s₀.drawn, tk + 1, c.s₀.os⟩) (fd := fd) (body := body) (binds := [(Str.ofString "self", .ref (hp.objs.size + 1)), (Str.ofString "initial_size", dv)]) (by have := c.room.1; rw [under_tc.1]; omega) (k1 _ _ (X _ _ hK)) rfl (T.nolimit.keeps k1) ((codeRec_of X hcode).keeps k1) hbody
    (hbind _ _ (fun b o e => k1 b o (X b o e))) hcell (fun x hx => hloc _ (by rcases List.mem_cons.mp hx with rfl | hx; exact .head _; cases List.mem_singleton.mp hx; exact .tail _ (.head _))) (fun h0 hns hk0 => ?_) hco hgen hk
  let c' : Cx := { w := c.w, s₀ := St c.s₀ hp tk, W₀ := W, bor := [], hid := [], L := hp.objs.size + 2, A := (c.A.under (.builtin "type.__call__" ⟨[.ref 174], []⟩)).deeper (callEnv fd (hp.objs.size + 2) 111), env := callEnv fd (hp.objs.size + 2) 111, k := 0,
                   hk := hk, hL := rfl, hg := hgl, hb := hbi, hh := c.hh,
                   room := by
                     have := c.room
                     refine ⟨?_, ?_⟩
                     · show (c.A.under _).depth + 1 + 0 < _; rw [under_tc.1]; omega
                     · show (c.A.under _).units + 3 + 8 * 0 + 4 < _; rw [under_tc.2]; omega }
  rw [show (⟨(hp.push emptyDict).push (accObj 174 hp.objs.size), c.s₀.gens, c.s₀.drawn, tk + 1, c.s₀.os⟩ : Shared).heap.objs.size = hp.objs.size + 2 from sz] at hns ⊢
  have wn : ∀ b, hp.objs.size ≤ b → W b = none := fun b hb => by
    cases q : W b with
    | none => rfl
    | some o => exact absurd (Heap.lt_size (I.keep _ _ q)) (Nat.not_lt.mpr hb)
  have I' : Inv c' ⟨[(Str.ofString "initial_size", .int 0), (Str.ofString "self", .val (.ref (hp.objs.size + 1)))], [⟨hp.objs.size + 1, hp.objs.size, .acc 174 [] []⟩]⟩ W h0 := {
    wd := I.wd
    vars := ⟨_, hns, fun x d e => zip_look (names := [Str.ofString "self", Str.ofString "initial_size"]) (vs := [.ref (hp.objs.size + 1), dv]) (ds := [.val (.ref (hp.objs.size + 1)), .int 0]) (.cons (.val _) (.cons (hdv _) .nil)) e⟩
    base := fun b o _ e => hk0 b o (k1 b o e)
    sub := Sub.refl _
    keep := fun b o e => hk0 b o (k1 b o (I.keep b o e))
    new := fun b o e => .inl e
    hL := Nat.le_add_right _ 2
    wL := wn _ (Nat.le_add_right _ 2)
    own := fun p hp' => by
      cases List.mem_singleton.mp hp'
      exact ⟨#[], 0, #[], 0, hk0 _ _ gx, hk0 _ _ gd, .nil, .nil⟩
    ads := fun a ha => by
      simp only [Frame.ads, List.flatMap_cons, Ow.ads, List.flatMap_nil, List.append_nil, List.mem_cons, List.not_mem_nil, or_false] at ha
      rcases ha with rfl | rfl
      · exact ⟨Nat.ne_of_lt (Nat.lt_succ_self _), wn _ (Nat.le_succ _), .inl (Nat.le_succ _)⟩
      · exact ⟨Nat.ne_of_lt (Nat.lt_add_of_pos_right (by decide)), wn _ (Nat.le_refl _), .inl (Nat.le_refl _)⟩
    nd := by simp [Frame.ads, Ow.ads]
    bor := fun a ha => nomatch ha
    hid := fun p hp => nomatch hp
    hnd := List.nodup_nil }
  show PySem.wpAt _ _ _ _ _ _ (⟨h0, c.s₀.gens, c.s₀.drawn, tk + 1 + 2, c.s₀.os⟩ : Shared)
  rw [show tk + 1 + 2 = tk + 2 + 1 by omega]
  refine acc_init c' (hp.objs.size + 1) hp.objs.size rfl hK hbody rfl ⟨_, rfl⟩ W W h0 (tk + 2) _ _ (Sub.refl _) I' fun fl W' h' tk' F' I2 hs2 hp2 => ?_
  obtain ⟨f', hf', rfl, vars, rfl⟩ := hp2
  have J : Inv c F W' h' := I.grow hs2 (fun b o e => I2.base b o (fun q => nomatch q) e) I2.keep fun b o e => I2.new b o e
  have hown := I2.own ⟨hp.objs.size + 1, hp.objs.size, .acc 174 isz []⟩ (.head _)
  have ha : ∀ a ∈ Ow.ads ⟨hp.objs.size + 1, hp.objs.size, .acc 174 isz []⟩, hp.objs.size ≤ a ∧ W' a = none := fun a ha => by
    have := (I2.ads a (by simpa [Frame.ads] using ha)).2.1
    refine ⟨?_, this⟩
    simp only [Ow.ads, List.mem_cons, List.not_mem_nil, or_false] at ha
    rcases ha with rfl | rfl
    · exact Nat.le_succ _
    · exact Nat.le_refl _
  have I3 : Inv c ⟨F.vars, ⟨hp.objs.size + 1, hp.objs.size, .acc 174 isz []⟩ :: F.own⟩ W' h' := J.own_new hp.objs.size I.size I.L_lt (fun a ha => I.ads_lt a ha) (fun q hq => Heap.lt_size (I.hid q hq).1) hown ha (by simp [Ow.ads])
  have fin := hQ _ W' h' tk' _ I3 hs2 ⟨_, _, rfl, rfl⟩
  cases fl <;> first | exact hf'.elim | skip
  exact ⟨rfl, fin⟩
end
end
section
open PySem PySem.W PySem.Calls PyProof.Rows PySem.Spec
set_option Elab.async false
set_option maxRecDepth 100000
set_option maxHeartbeats 4000000
set_option linter.unusedVariables false
set_option linter.unusedSimpArgs false
section
section
variable {c : Cx} {F : Frame}
theorem Tr.freeze {ss : List Stmt} {x : Str} {vars : List (Str × Dt)} {pre post : List Ow} {p : Ow} {d : Dt} {P : Fl → Frame → Prop} (hb : c.bor = []) (hv : vars.lookup x = some (.val (.ref p.a))) (hd : p.dt = some d) (h : Tr c ⟨(x, d) :: vars, pre ++ post⟩ ss P) : Tr c ⟨vars, pre ++ p :: post⟩ ss P := fun W₁ W hp tk Q E hs I hQ => by
  obtain ⟨W2, s2, I2, r2⟩ := I.freeze hb hd
  have I3 : Inv c ⟨(x, d) :: vars, pre ++ post⟩ W2 hp := { I2 with
    vars := by
      obtain ⟨m, hn, hm⟩ := I2.vars
      refine ⟨m, hn, fun y e hy => ?_⟩
      rw [lookup_store] at hy
      by_cases q : y = x
      · rw [if_pos q] at hy; cases hy
        obtain ⟨v, e1, e2⟩ := hm x _ hv
        cases e2
        exact ⟨_, q ▸ e1, r2⟩
      · rw [if_neg q] at hy
        exact hm y e hy }
  exact h W2 W2 hp tk Q E (Sub.refl _) I3 fun a W' h' tk' F' I' hs' r => hQ a W' h' tk' F' I' (s2.trans hs') r
end
theorem Bop.modn (a b : Nat) (bi : Int) (h : b ≠ 0) (e : bi = (b : Int)) : Bop .Mod (.int (a : Int)) (.int bi) (.int ((a % b : Nat) : Int)) := by
  subst e
  have := Bop.mod_int (a : Int) (b : Int) (by omega)
  rwa [show ((a : Int)).fmod (b : Int) = ((a % b : Nat) : Int) by rw [Int.fmod_eq_emod_of_nonneg _ (by omega)]; rfl] at this
theorem Bop.divn (a b : Nat) (bi : Int) (h : b ≠ 0) (hz : b < 2 ^ 60) (e : bi = (b : Int)) : Bop .FloorDiv (.int (a : Int)) (.int bi) (.int ((a / b : Nat) : Int)) := by
  subst e
  have := Bop.div_int (a : Int) (b : Int) (by omega) (PyProof.noPylong_of_log2 (by
    have : ((b : Int)).natAbs = b := rfl
    rw [this]
    have := (Nat.log2_lt h).mpr hz
    omega))
  rwa [show ((a : Int)).fdiv (b : Int) = ((a / b : Nat) : Int) by rw [Int.fdiv_eq_ediv_of_nonneg _ (by omega)]; rfl] at this
theorem pk_take {α : Type} (l : List α) (p : Nat) : pk l none (some (p : Int)) = l.take p := by
  unfold pk kms_lo kms_hi
  simp only [List.drop_zero, Nat.sub_zero]
  rw [if_neg (by omega)]
  simp only [Int.toNat_natCast]
  rw [List.take_eq_take_iff]
  omega
theorem pk_drop {α : Type} (l : List α) (p : Nat) (i : Int) (e : i = (p : Int)) : pk l (some i) none = l.drop p := by
  subst e
  unfold pk kms_lo kms_hi
  dsimp only
  rw [if_neg (by omega)]
  simp only [Int.toNat_natCast]
  by_cases h : p ≤ l.length
  · rw [Nat.min_eq_left h, List.take_of_length_le (by rw [List.length_drop]; exact Nat.le_refl _)]
  · rw [Nat.min_eq_right (by omega), List.drop_of_length_le (by omega), List.drop_of_length_le (by omega)]
    simp
noncomputable def wd (q k : Nat) : Str := if q % 16 > 0 then ⟨#[65 + q % 16]⟩ ++ ⟨#[66 + k]⟩ else ⟨#[66 + k]⟩
noncomputable def lf (q k : Nat) : Str := if q / 16 % 2 = 1 then Str.ofString "\"" ++ wd q k ++ Str.ofString ")\"" else Str.ofString "{" ++ wd q k ++ Str.ofString "}"
noncomputable def T0 : T := .leaf ⟨#[]⟩
noncomputable def nm (q : Nat) : Int := ((q / 32 % 100 : Nat) : Int)
noncomputable def jt (ts : List T) (p : Nat) (n : Int) : List T := ts.take p ++ [T.node (ts.getD p T0) n (ts.getD (p + 1) T0)] ++ ts.drop (p + 2)
noncomputable def trs (qs : List Nat) (told : Nat) : Nat → List T × Nat
  | 0 => ((List.range 5).map fun k => .leaf (lf (qs.getD k 0) k), told)
  | k + 1 => let s := trs qs told k; (jt s.1 (s.2 % (4 - k)) (nm (qs.getD k 0)), s.2 / (4 - k))
theorem jt_len (ts : List T) (p : Nat) (n : Int) (h : p + 2 ≤ ts.length) : (jt ts p n).length = ts.length - 1 := by
  unfold jt
  simp only [List.length_append, List.length_take, List.length_drop, List.length_singleton]; omega
theorem trs_len (qs : List Nat) (told : Nat) : ∀ k, k ≤ 4 → (trs qs told k).1.length = 5 - k
  | 0, _ => rfl
  | k + 1, h => by
    have ih := trs_len qs told k (by omega)
    have : (trs qs told k).2 % (4 - k) < 4 - k := Nat.mod_lt _ (by omega)
    show (jt _ _ _).length = _
    rw [jt_len _ _ _ (by rw [ih]; omega), ih]; omega
noncomputable def treeOf (qs : List Nat) (told : Nat) : T := (trs qs told 4).1.getD 0 T0
theorem wd_len (q k : Nat) : 1 ≤ (wd q k).length ∧ (wd q k).length ≤ 2 := by
  have e : ∀ a : Nat, (⟨#[a]⟩ : Str).length = 1 := fun _ => rfl
  unfold wd; split <;> simp only [Str.length_append, e] <;> decide
theorem lf_len (q k : Nat) : (lf q k).length ≤ 10 := by
  have := wd_len q k
  unfold lf; split <;> simp only [Str.length_append, len_quo, len_rpq, len_lbr, len_rbr] <;> omega
theorem tree_cal (w : World) (qs : List Nat) (told : Nat) (hq : qs.length = 5) (ht : told < 1000) : Cal w (.ref 271) 1 [.lst (natsD qs), .int (told : Int)] (treeOf qs told).dt := by
  refine Cal.fnB (n := 0) (names := [Str.ofString "draws", Str.ofString "told"]) (hK := rfl) (hcode := rfl) (hbody := rfl) (hbind := ?_) (hcell := by decide) (hloc := by decide) (hco := rfl) (hgen := rfl) (hk := rfl) (hgl := rfl) (hbi := rfl) (hlen := rfl) (hvars := rfl) ?_
  · exact vs2 fun a b => rfl
  · intro c hw hk hs hb
    subst hw
    dsimp only at hs
    have qat : ∀ k, k < 5 → (natsD qs)[((k : Nat) : Int).toNat]? = some (.int ((qs.getD k 0 : Nat) : Int)) := fun k hk => by
      rw [Int.toNat_natCast]
      unfold natsD
      rw [List.getElem?_map, List.getD_eq_getElem?_getD, List.getElem?_eq_getElem (by omega)]
      rfl
    let L1 : Nat → List T := fun i => (List.range i).map fun k => T.leaf (lf (qs.getD k 0) k)
    refine' Tr.cons (Ex.assignListOwn hs rfl fun a => ?_)
    show Tr _ _ _ _
    refine' Tr.cons (Ex.forH (ds := rngD 5) (Its.range ?za1 ?za2 (by decide)) (fun i => [(Str.ofString "trees", .val (.ref a)), (Str.ofString "told", .int (told : Int)), (Str.ofString "draws", .lst (natsD qs))]) (fun i => [⟨a, 0, .lst ((L1 i).map T.dt)⟩]) ⟨rfl, rfl, rfl, rfl, trivial⟩ ?za3 ?za4)
    case za1 => walk_at "nm"
    case za2 => walk_at "evs"
    case za3 =>
      intro ps i d hd
      obtain ⟨hi, rfl⟩ := rng_at hd
      have hs' : (c.hides ps).env.scope = _ := hs
      refine ⟨_, As.name hs' rfl, ?_⟩
      generalize hqi : qs.getD i 0 = q
      have qi := qat i hi
      rw [hqi] at qi
      refine' Tr.cons (Ex.assign (d := .str ⟨#[66 + i]⟩) hs' rfl (Ev.sub ?zb1 ?zb2 (TyD.str _) PySem.F.slot_str_getitem.lookup (Gi.str (x := Str.ofString "BCDEF") (i := (i : Int)) (ch := 66 + i) (by omega) (by omega) ?zb3)) ?zb4)
      case zb1 => walk_at "ev"
      case zb2 => walk_at "ev"
      case zb3 => match i, hi with
        | 0, _ => rfl
        | 1, _ => rfl
        | 2, _ => rfl
        | 3, _ => rfl
        | 4, _ => rfl
      case zb4 =>
        show Tr _ _ _ _
        have e1 : ∀ a : Nat, (⟨#[a]⟩ : Str).length = 1 := fun _ => rfl
        refine' Tr.join (ι := Unit) (b := decide (((q % 16 : Nat) : Int) > 0)) (fun _ => [(Str.ofString "word", .str (wd q i)), (Str.ofString "k", .int (i : Int)), (Str.ofString "trees", .val (.ref a)), (Str.ofString "told", .int (told : Int)), (Str.ofString "draws", .lst (natsD qs))]) (fun _ => [⟨a, 0, .lst ((L1 i).map T.dt)⟩]) (fun _ => True) ?zc1 ?zc2 ?zc3 ?zc4
        case zc1 =>
          refine' Te.compare (d1 := .int ((q % 16 : Nat) : Int)) (Ev.binop (Ev.sub ?zd1 ?zd2 (TyD.lst _) slot_list_getitem.lookup (Gi.lst (by omega) qi (by omega))) ?zd3 (Bop.modn q 16 16 (by decide) rfl)) ?zd4 (Cop.gt_int _ _)
          case zd1 => walk_at "ev"
          case zd2 => walk_at "ev"
          case zd3 => walk_at "ev"
          case zd4 => walk_at "ev"
        case zc2 =>
          intro e
          have e := of_decide_eq_true e
          have hm : q % 16 < 16 := Nat.mod_lt _ (by decide)
          refine' Tr.cons (Ex.assign (d := .str (wd q i)) hs' rfl ?zd1 ?zd2)
          case zd1 =>
            rw [wd, if_pos (by omega)]
            refine' Ev.binop (d1 := .str ⟨#[65 + q % 16]⟩) (d2 := .str ⟨#[66 + i]⟩) (Ev.sub ?zf1 (Ev.binop (Ev.sub ?zf2 ?zf3 (TyD.lst _) slot_list_getitem.lookup (Gi.lst (by omega) qi (by omega))) ?zf4 (Bop.modn q 16 16 (by decide) rfl)) (TyD.str _) PySem.F.slot_str_getitem.lookup (Gi.str (x := Str.ofString "ABCDEFGHIJKLMNOP") (i := ((q % 16 : Nat) : Int)) (ch := 65 + q % 16) (by omega) (by omega) ?zf5)) ?zf6 (Bop.add_str _ _ (by rw [e1, e1]; decide))
            case zf1 => walk_at "ev"
            case zf2 => walk_at "ev"
            case zf3 => walk_at "ev"
            case zf4 => walk_at "ev"
            case zf5 =>
              generalize q % 16 = m at hm
              have : ∀ m : Fin 16, (seqIndex? ((m.val : Nat) : Int) (Str.ofString "ABCDEFGHIJKLMNOP").length).bind ((Str.ofString "ABCDEFGHIJKLMNOP").cps[·]?) = some (65 + m.val) := by decide +kernel
              exact this ⟨m, hm⟩
            case zf6 => walk_at "ev"
          case zd2 => exact Tr.nil ⟨rfl, (), ⟨rfl, rfl, rfl, rfl, rfl, rfl, trivial⟩, trivial⟩
        case zc3 =>
          intro e
          have e := of_decide_eq_false e
          refine Tr.nil ⟨rfl, (), ⟨rfl, ?_, rfl, rfl, rfl, rfl, trivial⟩, trivial⟩
          rw [wd, if_neg (by omega)]; rfl
        case zc4 =>
          intro _ _
          have hw := wd_len q i
          refine' Tr.cons (Ex.if_ (b := decide (((q / 16 % 2 : Nat) : Int) = 1)) (Te.compare (d1 := .int ((q / 16 % 2 : Nat) : Int)) (Ev.binop (Ev.binop (Ev.sub ?zd1 ?zd2 (TyD.lst _) slot_list_getitem.lookup (Gi.lst (by omega) qi (by omega))) ?zd3 (Bop.divn q 16 16 (by decide) (by decide) rfl)) ?zd4 (Bop.modn (q / 16) 2 2 (by decide) rfl)) ?zd5 ?zd6) ?zc5 ?zc6)
          case zd1 => walk_at "ev"
          case zd2 => walk_at "ev"
          case zd3 => walk_at "ev"
          case zd4 => walk_at "ev"
          case zd5 => walk_at "ev"
          case zd6 => exact Cop.eq_int _ _
          case zc5 =>
            intro e
            have e := of_decide_eq_true e
            refine' Tr.cons (Ex.appendOwn (pre := []) (post := []) (d := .str (lf q i)) ?zg1 (Evs.one ?zg2) ?zg3 ?zg4)
            case zg1 => walk_at "ev"
            case zg2 =>
              rw [lf, if_pos (by omega)]
              walk_at "ev"
            case zg3 => simp [L1]; omega
            case zg4 =>
              refine Tr.nil ?_
              refine Tr.nil ⟨?_, rfl, rfl, rfl, trivial⟩
              show [_] = [_]
              simp [L1, List.range_succ, T.dt, ← hqi]
          case zc6 =>
            intro e
            have e := of_decide_eq_false e
            refine' Tr.cons (Ex.appendOwn (pre := []) (post := []) (d := .str (lf q i)) ?zg1 (Evs.one ?zg2) ?zg3 ?zg4)
            case zg1 => walk_at "ev"
            case zg2 =>
              rw [lf, if_neg (by omega)]
              walk_at "ev"
            case zg3 => simp [L1]; omega
            case zg4 =>
              refine Tr.nil ?_
              refine Tr.nil ⟨?_, rfl, rfl, rfl, trivial⟩
              show [_] = [_]
              simp [L1, List.range_succ, T.dt, ← hqi]
    case za4 =>
      show Tr _ _ _ _
      refine Tr.freeze (x := Str.ofString "trees") (pre := []) (post := []) hb rfl rfl ?_
      have e5 : (rngD 5).length = 5 := rfl
      rw [e5]
      refine' Tr.cons (Ex.forH (ds := rngD 4) (Its.range ?zb1 ?zb2 (by decide)) (fun i => [(Str.ofString "trees", .lst ((trs qs told i).1.map T.dt)), (Str.ofString "told", .int ((trs qs told i).2 : Int)), (Str.ofString "draws", .lst (natsD qs))]) (fun i => []) ⟨rfl, rfl, rfl, rfl, trivial⟩ ?zb3 ?zb4)
      case zb1 => walk_at "nm"
      case zb2 => walk_at "evs"
      case zb3 =>
        intro ps i d hd
        obtain ⟨hi, rfl⟩ := rng_at hd
        have hs' : (c.hides ps).env.scope = _ := hs
        have tl : ∀ i, (trs qs told i).2 < 1000 := by
          intro i
          induction i with
          | zero => exact ht
          | succ i ih => exact Nat.lt_of_le_of_lt (Nat.div_le_self _ _) ih
        have hlen := trs_len qs told i (by omega)
        have htl := tl i
        have hsucc : trs qs told (i + 1) = (jt (trs qs told i).1 ((trs qs told i).2 % (4 - i)) (nm (qs.getD i 0)), (trs qs told i).2 / (4 - i)) := rfl
        have qi := qat i (by omega)
        rw [hsucc]
        generalize trs qs told i = s at *
        generalize qs.getD i 0 = q at *
        obtain ⟨ts, t⟩ := s
        dsimp only at *
        have hp : t % (4 - i) < 4 - i := Nat.mod_lt _ (by omega)
        generalize hpl : t % (4 - i) = p at *
        have at1 : ∀ j, j < ts.length → (ts.map T.dt)[j]? = some (ts.getD j T0).dt := fun j hj => by
          rw [List.getElem?_map, List.getD_eq_getElem?_getD, List.getElem?_eq_getElem hj]; rfl
        refine ⟨_, As.name hs' rfl, ?_⟩
        refine' Tr.cons (Ex.assignT (d := .tup [.int ((t / (4 - i) : Nat) : Int), .int ((p : Nat) : Int)]) ?zc1 (As.tuple (Ass.cons (As.name hs' rfl) (Ass.cons (As.name hs' rfl) Ass.nil))) ?zc2)
        case zc1 =>
          have h := Cal.divmod (w := c.w) (n := 0) t (4 - i) (by omega) (by omega) (by omega)
          rw [hpl] at h
          refine' Ev.call ?zd1 ?zd2 (Evs.cons ?zd3 (Evs.cons ?zd4 Evs.nil)) h ?zd5
          case zd1 => walk_at "nm"
          case zd2 => walk_at "kept"
          case zd3 => walk_at "ev"
          case zd4 =>
            have e : ((4 - i : Nat) : Int) = (4 : Int) - (i : Int) := by omega
            rw [e]
            walk_at "ev"
          case zd5 => walk_at "room"
        case zc2 =>
          show Tr _ _ _ _
          refine' Tr.cons (Ex.assign (d := (T.node (ts.getD p T0) (nm q) (ts.getD (p + 1) T0)).dt) hs' rfl (Ev.tuple (ds := [(ts.getD p T0).dt, .int (nm q), (ts.getD (p + 1) T0).dt]) (Evs.cons ?ze1 (Evs.cons ?ze2 (Evs.cons ?ze3 Evs.nil)))) ?ze4)
          case ze1 =>
            refine' Ev.sub ?zf1 ?zf2 (TyD.lst _) slot_list_getitem.lookup (Gi.lst (k := (p : Int)) (by omega) (at1 p (by omega)) (by omega))
            case zf1 => walk_at "ev"
            case zf2 => walk_at "ev"
          case ze2 =>
            refine' Ev.binop (Ev.binop (Ev.sub ?zf1 ?zf2 (TyD.lst _) slot_list_getitem.lookup (Gi.lst (by omega) qi (by omega))) ?zf3 (Bop.divn q 32 32 (by decide) (by decide) rfl)) ?zf4 (Bop.modn (q / 32) 100 100 (by decide) rfl)
            case zf1 => walk_at "ev"
            case zf2 => walk_at "ev"
            case zf3 => walk_at "ev"
            case zf4 => walk_at "ev"
          case ze3 =>
            refine' Ev.sub ?zf1 ?zf2 (TyD.lst _) slot_list_getitem.lookup (Gi.lst (k := (p : Int) + 1) (by omega) (by
              have : ((p : Int) + 1).toNat = p + 1 := by omega
              rw [this]; exact at1 (p + 1) (by omega)) (by omega))
            case zf1 => walk_at "ev"
            case zf2 => walk_at "ev"
          case ze4 =>
            show Tr _ _ _ _
            have ejt : (jt ts p (nm q)).map T.dt = (pk (ts.map T.dt) none (some (p : Int)) ++ [(T.node (ts.getD p T0) (nm q) (ts.getD (p + 1) T0)).dt]) ++ pk (ts.map T.dt) (some ((p : Int) + 2)) none := by
              rw [pk_take, pk_drop _ (p + 2) _ (by omega)]
              unfold jt
              simp
            refine' Tr.cons (Ex.assign (d := .lst ((jt ts p (nm q)).map T.dt)) hs' rfl ?zf1 ?zf2)
            case zf1 =>
              rw [ejt]
              have l1 : (pk (ts.map T.dt) none (some (p : Int))).length ≤ 5 := by rw [pk_take, List.length_take, List.length_map]; omega
              have l2 : (pk (ts.map T.dt) (some ((p : Int) + 2)) none).length ≤ 5 := by rw [pk_drop _ (p + 2) _ (by omega), List.length_drop, List.length_map]; omega
              have l3 : (ts.map T.dt).length ≤ 100000 := by rw [List.length_map]; omega
              refine' Ev.binop (Ev.binop (Ev.slice ?zg1 Pt.none (Pt.some ?zg2) (TyD.lst _) slot_list_getitem.lookup (Sl.lst l3)) (Ev.list (Evs.cons ?zg3 Evs.nil)) (Bop.add_lst ?zg4)) (Ev.slice ?zg5 (Pt.some ?zg6) Pt.none (TyD.lst _) slot_list_getitem.lookup (Sl.lst l3)) (Bop.add_lst ?zg7)
              case zg1 => walk_at "ev"
              case zg2 => walk_at "ev"
              case zg3 => walk_at "ev"
              case zg4 => rw [List.length_singleton]; omega
              case zg5 => walk_at "ev"
              case zg6 => walk_at "ev"
              case zg7 => rw [List.length_append, List.length_singleton]; omega
            case zf2 => exact Tr.nil ⟨rfl, rfl, rfl, rfl, trivial⟩
      case zb4 =>
        show Tr _ _ _ _
        have e4 : (rngD 4).length = 4 := rfl
        rw [e4]
        have hlen := trs_len qs told 4 (by omega)
        refine' Tr.cons (Ex.ret (d := (treeOf qs told).dt) (Ev.sub ?zc1 ?zc2 (TyD.lst _) slot_list_getitem.lookup (Gi.lst (k := 0) (by decide) ?zc3 (by decide))) (.inl rfl))
        case zc1 => walk_at "ev"
        case zc2 => walk_at "ev"
        case zc3 =>
          unfold treeOf
          show ((trs qs told 4).1.map T.dt)[0]? = _
          rw [List.getElem?_map, List.getD_eq_getElem?_getD, List.getElem?_eq_getElem (by omega)]
          rfl
end
end
section
open PySem PySem.W PySem.Calls PyProof.Rows PySem.Spec
set_option Elab.async false
set_option maxRecDepth 100000
set_option maxHeartbeats 4000000
set_option linter.unusedVariables false
set_option linter.unusedSimpArgs false
section
noncomputable def AllN (P : Nat → Prop) : Nat → Prop
  | 0 => True
  | n + 1 => P n ∧ AllN P n
theorem AllN.at {P : Nat → Prop} {n : Nat} (h : AllN P n) (k : Nat) (hk : k < n) : P k := by
  induction n with
  | zero => exact absurd hk (Nat.not_lt_zero _)
  | succ n ih =>
    rcases Nat.lt_succ_iff_lt_or_eq.mp hk with q | rfl
    · exact ih h.2 q
    · exact h.1
noncomputable def decP (id : String) (k h : Nat) : Prop := Builtin._codecs.runDecoder id Builtin._codecs.utf8Decoder none true (apW (16 * h + k + 1)).toArray 0 [] = pure ((wd h k).cps, (apW (16 * h + k + 1)).length)
theorem dec_tab (id : String) : AllN (fun k => AllN (decP id k) 16) 5 := by
  repeat' (first | exact trivial | refine And.intro ?_ ?_ | (show Builtin._codecs.runDecoder _ _ _ _ _ _ _ = _; kernel_rfl))
theorem dec_all (id : String) (k : Nat) (hk : k < 5) (h : Nat) (hh : h < 16) : Builtin._codecs.runDecoder id Builtin._codecs.utf8Decoder none true (apW (16 * h + k + 1)).toArray 0 [] = pure ((wd h k).cps, (apW (16 * h + k + 1)).length) := ((dec_tab id).at k hk).at h hh
theorem wd_mod (q k : Nat) : wd (q % 16) k = wd q k := by unfold wd; rw [Nat.mod_mod]
theorem apW_cons : ∀ (k : Fin 5) (h : Fin 16), ∃ c cs, apW (16 * h.val + k.val + 1) = c :: cs := by
  intro k h
  have : ∀ (k : Fin 5) (h : Fin 16), (apW (16 * h.val + k.val + 1)).isEmpty = false := by decide +kernel
  have := this k h
  cases e : apW (16 * h.val + k.val + 1) with
  | nil => rw [e] at this; cases this
  | cons c cs => exact ⟨c, cs, rfl⟩
theorem meets_decode {c : UInt8} {cs : List UInt8} {t : Tok} {x : PySem.Str} {n : Nat} (hd : ∀ id, Builtin._codecs.runDecoder id Builtin._codecs.utf8Decoder none true (c :: cs).toArray 0 [] = pure (x.cps, n)) :
    Meets (Builtin.«bytes.decode» ⟨[.bytes (c :: cs).toArray t], []⟩) (fun _ R s => x.length ≤ sizeLine ∧ R (.ok (.ret (.str x (s.toks + 1 + 1)))) { s with toks := s.toks + 1 + 1 + 1 }) := by
  refine .of_wp fun prog w A R s hS => ?_
  obtain ⟨hsz, h⟩ := hS
  rw [KBd.entry_eq]
  refine wpAny_bind (wpAny_mkStr ?_ (by decide))
  refine wpAny_bind (wpAny_mkStr ?_ (by decide))
  exact wpAny_bind (call_function_meets KBd.kind_text KBd.plain_text KBd.entry_text (KBd.args_text _ _ _ _) (KBd.meets_text hd) ⟨hsz, wpAny_pure ⟨_, rfl, h⟩⟩)
theorem Cal.decode {w n} (q k : Nat) (hk : k < 5) : Cal w (.builtin "bytes.decode") n [.bytes (apW (16 * (q % 16) + k + 1)).toArray] (.str (wd q k)) := fun c F W₁ vs _ _ r => by
  (replace r := Reps.cons_inv r; obtain ⟨_, _, rfl, r1, r⟩ := r)
  cases r
  cases r1
  have hh : q % 16 < 16 := Nat.mod_lt _ (by decide)
  obtain ⟨a, as, e⟩ := apW_cons ⟨k, hk⟩ ⟨q % 16, hh⟩
  have hd := fun id => dec_all id k hk (q % 16) hh
  dsimp only at e
  rw [e] at hd ⊢
  rw [wd_mod] at hd
  refine Go.fresh_val fun W h tk Q E hs I hQ => call_meets (s := St c.s₀ h tk) FB.slot_bytes_decode (typeIs_bytes _ _ _) FB.entry_bytes_decode (FB.args_bytes_decode_1 _) (meets_decode hd) ⟨?_, hQ _ (tk + 1 + 1 + 1) (.str _ _)⟩
  exact Nat.le_trans (wd_len q k).2 (by decide)
theorem named_br : ∀ (k : Fin 5) (h : Fin 16), named (Str.ofString "<" ++ wd h.val k.val ++ Str.ofString ">") = Str.ofString "{" ++ wd h.val k.val ++ Str.ofString "}" ∧ named (Str.ofString "\"" ++ wd h.val k.val ++ Str.ofString ")\"") = Str.ofString "\"" ++ wd h.val k.val ++ Str.ofString ")\"" := by decide +kernel
noncomputable def wq (q k : Nat) : Str := if q / 16 % 2 = 1 then Str.ofString "\"" ++ wd q k ++ Str.ofString ")\"" else Str.ofString "<" ++ wd q k ++ Str.ofString ">"
theorem named_wq (q k : Nat) (hk : k < 5) : named (wq q k) = lf q k := by
  have h := named_br ⟨k, hk⟩ ⟨q % 16, Nat.mod_lt _ (by decide)⟩
  dsimp only at h
  rw [wd_mod] at h
  unfold wq lf
  split
  · exact h.2
  · exact h.1
theorem wq_len (q k : Nat) : (wq q k).length ≤ 10 := by
  have := wd_len q k
  unfold wq; split <;> simp only [Str.length_append, len_quo, len_rpq, len_lt, len_gt] <;> omega
section
variable {c : Cx} {F : Frame}
theorem Go.unpackList {W₁ : Fz} {a : Value} {ds : List Dt} {P : List Value → Fz → Frame → Prop} (h : Rep W₁ a (.lst ds)) (hP : ∀ vs W, Sub W₁ W → Reps W vs ds → P vs W F) : Go c F W₁ (unpackItems a ds.length none) P := fun W hp tk Q E hs I hQ => by
  cases h with
  | @lst a vs n ds e r =>
    have hl : vs.size = ds.length := by rw [← r.length, Array.length_toList]
    rw [← hl]
    refine kun_itemsOf (s := St c.s₀ hp tk) (items := vs) c.hh ⟨_, I.keep _ _ (hs _ _ e), rfl, n, rfl⟩ fun h' he => ?_
    exact hQ _ W h' tk F (I.grow (Sub.refl _) (fun b o q => he b o (Nat.ne_of_lt (Heap.lt_size q)) q) (fun b o q => he b o (Nat.ne_of_lt (Heap.lt_size (I.keep _ _ q))) (I.keep _ _ q)) fun b o q => .inl q) (Sub.refl _) (hP _ _ hs (r.mono hs))
theorem As.tupleL {ts : List Expr} {k : Nat} {pos : Pos} {ds : List Dt} {F' : Frame} (h : Ass c F ts ds F') (hn : (assignEach ts c.env).length = ds.length := by rfl) (hstar : (assignEach ts c.env).findIdx? (·.1) = none := by rfl) : As c F (.Tuple ts k pos) (.lst ds) F' := fun W₁ v r => by
  show Go c F W₁ (do standAt pos; unpack v (assignEach ts c.env)) _
  refine Go.at ?_
  unfold unpack
  rw [hn, hstar]
  refine Go.bind (Go.holding (Go.unpackList (P := fun vs W F'' => F'' = F ∧ Reps W vs ds) r fun vs W _ r => ⟨rfl, r⟩)) (isK fun vs W hs r => ?_)
  exact h W vs r
theorem Ex.retP {e : Expr} {pos : Pos} {P : Fl → Frame → Prop} (h : ∀ W₁, Go c F W₁ (eval e c.env) (fun v W F' => ∃ d, Rep W v d ∧ P (.ret d) F')) : Ex c F (.Return (some e) pos) P := fun W₁ => by
  rw [exec_Return_some]
  refine Go.at (Go.bind (h _) fun v W F' hs r => ?_)
  obtain ⟨d, r, hp⟩ := r
  exact Go.pure fun _ hs => ⟨.ret d, r.mono hs, hp⟩
end
end
end
section
open PySem PySem.W PySem.Calls PyProof.Rows PySem.Spec
set_option Elab.async false
set_option maxRecDepth 100000
set_option maxHeartbeats 4000000
set_option linter.unusedVariables false
set_option linter.unusedSimpArgs false
section
theorem slice_last (x : Str) (h : 1 ≤ x.length) : (Txt.slice x none (some (-1))).cps.toList = x.cps.toList.take (x.length - 1) := by
  have e1 : Builtin.Str.strSliceIndices none (some (-1)) 1 x.length = Builtin.Str.strSliceIndices none (some ((x.length : Int) - 1)) 1 x.length := by
    unfold Builtin.Str.strSliceIndices
    simp only []
    rw [if_pos (by omega), if_neg (show ¬ ((x.length : Int) - 1 < 0) by omega), show (-1 : Int) + (x.length : Int) = (x.length : Int) - 1 by omega, if_pos (show (-1 : Int) < 0 by decide)]
  have e2 : Txt.slice x none (some (-1)) = StrLaws.sliceText x none (some ((x.length : Int) - 1)) := by
    unfold Txt.slice StrLaws.sliceText
    rw [e1]
  have hl : x.cps.toList.length = x.length := Array.length_toList
  rw [e2, StrLaws.sliceText_to ⟨by omega, by omega⟩]
  show (List.take _ (List.drop 0 _)) = _
  rw [List.drop_zero]
  congr 1
  omega
theorem ld_chars (rows : List Nat) : ∀ ch ∈ (ld rows).cps.toList, ch = 32 ∨ ch = 9 := by
  intro ch hc
  have hc : ch ∈ ldl rows := by simpa [ld] using hc
  unfold ldl at hc
  obtain ⟨r, hr, hc⟩ := List.mem_flatMap.mp hc
  rcases List.mem_append.mp hc with h | h
  · exact .inl (List.mem_replicate.mp h).2
  · exact .inr (List.mem_singleton.mp h)
noncomputable abbrev ldp (rows : List Nat) : Str := Txt.slice (ld rows) none (some (-1))
theorem rws_pos (t : T) : 1 ≤ t.rws.length := by
  induction t with
  | leaf => exact Nat.le_refl _
  | node a n b ia ib => simp only [T.rws, List.length_append]; omega
theorem ldp_chars (t : T) : ∀ ch ∈ (ldp t.rws).cps.toList, ch = 32 ∨ ch = 9 := by
  intro ch hc
  have hp := rws_pos t
  rw [slice_last _ (by rw [ld_len]; omega)] at hc
  exact ld_chars _ ch (List.mem_of_mem_take hc)
theorem ldp_len (t : T) : (ldp t.rws).cps.toList.length ≤ (ld t.rws).length := by
  have hp := rws_pos t
  rw [slice_last _ (by rw [ld_len]; omega), List.length_take]
  have : (ld t.rws).cps.toList.length = (ld t.rws).length := Array.length_toList
  omega
noncomputable def vl (x : T) : Int := wsLong (ldp x.rws)
noncomputable def arr (way : Int) (x y : T) (n : Int) : T := if 0 < cmpv way (vl x) (vl y) x.txt y.txt then .node y n x else .node x n y
noncomputable def jt2 (way : Int) (ts : List T) (p : Nat) (n : Int) : List T := ts.take p ++ [arr way (ts.getD p T0) (ts.getD (p + 1) T0) n] ++ ts.drop (p + 2)
noncomputable def lrs (way : Int) (qs : List Nat) (told : Nat) : Nat → List T × Nat
  | 0 => ((List.range 5).map fun k => .leaf (lf (qs.getD k 0) k), told)
  | k + 1 => let s := lrs way qs told k; (jt2 way s.1 (s.2 % (4 - k)) (nm (qs.getD k 0)), s.2 / (4 - k))
noncomputable def joinOf (way : Int) (qs : List Nat) (told : Nat) : T := (lrs way qs told 4).1.getD 0 T0
theorem jt2_len (way : Int) (ts : List T) (p : Nat) (n : Int) (h : p + 2 ≤ ts.length) : (jt2 way ts p n).length = ts.length - 1 := by
  unfold jt2
  simp only [List.length_append, List.length_take, List.length_drop, List.length_singleton]; omega
theorem lrs_len (way : Int) (qs : List Nat) (told : Nat) : ∀ k, k ≤ 4 → (lrs way qs told k).1.length = 5 - k
  | 0, _ => rfl
  | k + 1, h => by
    have ih := lrs_len way qs told k (by omega)
    have : (lrs way qs told k).2 % (4 - k) < 4 - k := Nat.mod_lt _ (by omega)
    show (jt2 _ _ _ _).length = _
    rw [jt2_len _ _ _ _ (by rw [ih]; omega), ih]; omega
theorem nm_lt (q : Nat) : 0 ≤ nm q ∧ nm q < 100 := by unfold nm; omega
noncomputable def Sm (k : Nat) (x : T) : Prop := x.gd ∧ x.ht ≤ k ∧ x.wt + 30 ≤ 40 * 2 ^ k ∧ x.sz + 1 ≤ 2 * 2 ^ k
theorem Sm.up {k : Nat} {x : T} (h : Sm k x) : Sm (k + 1) x := by
  obtain ⟨a, b, c, d⟩ := h
  refine ⟨a, by omega, ?_, ?_⟩ <;> rw [Nat.pow_succ] <;> omega
theorem Sm.node {k : Nat} {x y : T} {n : Int} (hx : Sm k x) (hy : Sm k y) (h0 : 0 ≤ n) (h1 : n < 100) : Sm (k + 1) (.node x n y) := by
  obtain ⟨a, b, c, d⟩ := hx
  obtain ⟨a', b', c', d'⟩ := hy
  refine ⟨⟨h0, h1, a, a'⟩, ?_, ?_, ?_⟩
  · simp only [T.ht]; omega
  · simp only [T.wt]; rw [Nat.pow_succ]; omega
  · simp only [T.sz]; rw [Nat.pow_succ]; omega
theorem lf_len2 (q k : Nat) : 3 ≤ (lf q k).length := by
  have := wd_len q k
  unfold lf; split <;> simp only [Str.length_append, len_quo, len_rpq, len_lbr, len_rbr] <;> omega
theorem Sm.leaf (q k : Nat) : Sm 0 (.leaf (lf q k)) := by
  have := lf_len q k
  have := lf_len2 q k
  exact ⟨(by show 2 ≤ _; omega), Nat.le_refl _, (by show (lf q k).length + 30 ≤ 40 * 2 ^ 0; omega), (by show 1 + 1 ≤ 2 * 2 ^ 0; omega)⟩
theorem getD_mem {ts : List T} {p : Nat} (h : p < ts.length) : ts.getD p T0 ∈ ts := by
  rw [List.getD_eq_getElem?_getD, List.getElem?_eq_getElem h]; exact List.getElem_mem h
theorem lrs_sm (way : Int) (qs : List Nat) (told : Nat) : ∀ k, k ≤ 4 → ∀ x ∈ (lrs way qs told k).1, Sm k x
  | 0, _, x, hx => by
    obtain ⟨k, _, rfl⟩ := List.mem_map.mp hx
    exact Sm.leaf _ _
  | k + 1, h, x, hx => by
    have ih := lrs_sm way qs told k (by omega)
    have hl := lrs_len way qs told k (by omega)
    have hp : (lrs way qs told k).2 % (4 - k) < 4 - k := Nat.mod_lt _ (by omega)
    have hx : x ∈ jt2 way (lrs way qs told k).1 ((lrs way qs told k).2 % (4 - k)) (nm (qs.getD k 0)) := hx
    unfold jt2 at hx
    rcases List.mem_append.mp hx with hx | hx
    · rcases List.mem_append.mp hx with hx | hx
      · exact (ih x (List.mem_of_mem_take hx)).up
      · rw [List.mem_singleton.mp hx]
        have m1 := ih _ (getD_mem (p := (lrs way qs told k).2 % (4 - k)) (by omega))
        have m2 := ih _ (getD_mem (p := (lrs way qs told k).2 % (4 - k) + 1) (by omega))
        have ⟨n0, n1⟩ := nm_lt (qs.getD k 0)
        unfold arr
        split
        · exact m2.node m1 n0 n1
        · exact m1.node m2 n0 n1
    · exact (ih x (List.mem_of_mem_drop hx)).up
theorem Sm.small {k : Nat} {x : T} (h : Sm k x) (hk : k ≤ 4) : x.gd ∧ x.txt.length ≤ 640 ∧ 2 ≤ x.txt.length ∧ (ld x.rws).length ≤ 200 ∧ x.ht ≤ 4 := by
  obtain ⟨a, b, c, d⟩ := h
  have t := txt_len x a
  have l := lead_len x
  have p : 2 ^ k ≤ 2 ^ 4 := Nat.pow_le_pow_right (by decide) hk
  refine ⟨a, by omega, t.2, Nat.le_trans l ?_, by omega⟩
  exact Nat.le_trans (Nat.mul_le_mul (show x.sz ≤ 31 by omega) (show x.ht + 1 ≤ 5 by omega)) (by decide)
end
end
section
open PySem PySem.W PySem.Calls PyProof.Rows PySem.Spec
set_option Elab.async false
set_option maxRecDepth 100000
set_option maxHeartbeats 4000000
set_option linter.unusedVariables false
set_option linter.unusedSimpArgs false
section
section
variable {c : Cx} {F : Frame}
theorem Ex.assignAcc {sc : Scope} {x id : Str} {p p' pos spos : Pos} {P : Fl → Frame → Prop} (hs : c.env.scope = sc) (hx : sc.names.lookup x = some .local) (hf : Ev c F (.Name id p) (.val (.ref 174))) (hk : 2 ≤ c.k) (hp : ∀ a b, P .next ⟨(x, .val (.ref a)) :: F.vars, ⟨a, b, .acc 174 isz []⟩ :: F.own⟩)
    (hsw : swapsWith (.Call (.Name id p) [] [] pos) (some (.Name x p')) spos.line c.env = Pure.pure false := by rfl) : Ex c F (.Assign [.Name x p'] (.Call (.Name id p) [] [] pos) spos) P :=
  Ex.assignP hs hx (fun W₁ => Go.mono (Ev.callF hf (Kept.of rfl) Evs.nil (fun W vs r => by cases r; exact acc_new hk)) fun v W F' _ r => by
    obtain ⟨a, b, rfl, rfl⟩ := r
    exact ⟨_, .val _, hp a b⟩) hsw
theorem Ex.accMeth {o : Expr} {name : Str} {apos pos spos : Pos} {es : List Expr} {f : Addr} {n : Nat} {ds : List Dt} {vars : List (Str × Dt)} {pre post : List Ow} {a b : Addr} {fs fs' : List (Str × Dt)} {l l' : List Dt} {P : Fl → Frame → Prop}
    (ho : Ev c ⟨vars, pre ++ ⟨a, b, .acc 174 fs l⟩ :: post⟩ o (.val (.ref a))) (hf : findIn (KK c.w) (.ref 174) name = some (some (.ref f))) (ht : typeIn (KK c.w) (.ref f) = some (.type "function")) (hno : fs.lookup name = none) (hK : Kept c.w (.ref f))
    (hes : Evs c ⟨vars, pre ++ ⟨a, b, .acc 174 fs l⟩ :: post⟩ es ds) (hc : CalO c.w (.ref f) n 174 fs l ds .none fs' l') (hn : n ≤ c.k) (hp : P .next ⟨vars, pre ++ ⟨a, b, .acc 174 fs' l'⟩ :: post⟩)
    (hst : (backTo pos (starEach es c.env)).any (·.1) = false := by rfl) (hbase : attributeBase o name c.env (eval o c.env) = eval o c.env := by rfl) (hline : (apos.endLine == pos.line) = true := by rfl)
    (hform : methodCallForm (es.length + 0) (backTo pos (starEach es c.env)) [] = true := by rfl) (hsw : swapsWith (.Call (.Attribute o name apos) es [] pos) none spos.line c.env = Pure.pure false := by rfl) :
    Ex c ⟨vars, pre ++ ⟨a, b, .acc 174 fs l⟩ :: post⟩ (.Expr (.Call (.Attribute o name apos) es [] pos) spos) P :=
  Ex.exprP (fun W₁ => Go.mono (Go.accMeth ho hf ht hno hK hes hc hn hst hbase hline hform W₁) fun v W F' _ r => by
    obtain ⟨rfl, r⟩ := r
    cases r
    exact ⟨(fun _ e => nomatch e), hp⟩) hsw
end
section
variable {c : Cx} {F : Frame}
theorem Ex.assignAccMeth {sc : Scope} {y : Str} {p' : Pos} {o : Expr} {name : Str} {apos pos spos : Pos} {es : List Expr} {f : Addr} {n : Nat} {ds : List Dt} {d : Dt} {vars : List (Str × Dt)} {pre post : List Ow} {a b : Addr} {fs fs' : List (Str × Dt)} {l l' : List Dt} {P : Fl → Frame → Prop}
    (hs : c.env.scope = sc) (hx : sc.names.lookup y = some .local)
    (ho : Ev c ⟨vars, pre ++ ⟨a, b, .acc 174 fs l⟩ :: post⟩ o (.val (.ref a))) (hf : findIn (KK c.w) (.ref 174) name = some (some (.ref f))) (ht : typeIn (KK c.w) (.ref f) = some (.type "function")) (hno : fs.lookup name = none) (hK : Kept c.w (.ref f))
    (hes : Evs c ⟨vars, pre ++ ⟨a, b, .acc 174 fs l⟩ :: post⟩ es ds) (hc : CalO c.w (.ref f) n 174 fs l ds d fs' l') (hn : n ≤ c.k) (hp : P .next ⟨(y, d) :: vars, pre ++ ⟨a, b, .acc 174 fs' l'⟩ :: post⟩)
    (hst : (backTo pos (starEach es c.env)).any (·.1) = false := by rfl) (hbase : attributeBase o name c.env (eval o c.env) = eval o c.env := by rfl) (hline : (apos.endLine == pos.line) = true := by rfl)
    (hform : methodCallForm (es.length + 0) (backTo pos (starEach es c.env)) [] = true := by rfl) (hsw : swapsWith (.Call (.Attribute o name apos) es [] pos) (some (.Name y p')) spos.line c.env = Pure.pure false := by rfl) :
    Ex c ⟨vars, pre ++ ⟨a, b, .acc 174 fs l⟩ :: post⟩ (.Assign [.Name y p'] (.Call (.Attribute o name apos) es [] pos) spos) P :=
  Ex.assignP hs hx (fun W₁ => Go.mono (Go.accMeth ho hf ht hno hK hes hc hn hst hbase hline hform W₁) fun v W F' _ r => by
    obtain ⟨rfl, r⟩ := r
    exact ⟨d, r, hp⟩) hsw
end
noncomputable abbrev E3 (z : T) : Dt := .tup [.int (vl z), .str z.txt, .str (ld z.rws)]
theorem find_push (w : World) : findIn (KK w) (.ref 174) "push" = some (some (.ref 118)) := by rfl
theorem find_pf (w : World) : findIn (KK w) (.ref 174) "pop_from" = some (some (.ref 126)) := by rfl
theorem find_pop (w : World) : findIn (KK w) (.ref 174) "pop" = some (some (.ref 134)) := by rfl
theorem joined_cal (w : World) (qs : List Nat) (told : Nat) (way : Int) (hq : qs.length = 5) (ht : told < 1000) : Cal w (.ref 314) 3 [.lst (natsD qs), .int (told : Int), .int way] (joinOf way qs told).pair := by
  refine Cal.fnB (n := 2) (names := [Str.ofString "draws", Str.ofString "told", Str.ofString "way"]) (hK := rfl) (hcode := rfl) (hbody := rfl) (hbind := ?_) (hcell := by decide) (hloc := by decide) (hco := rfl) (hgen := rfl) (hk := rfl) (hgl := rfl) (hbi := rfl) (hlen := rfl) (hvars := rfl) ?_
  · exact vs3 fun a b e => rfl
  · intro c hw hk hs hb
    subst hw
    dsimp only at hs
    have qat : ∀ k, k < 5 → (natsD qs)[((k : Nat) : Int).toNat]? = some (.int ((qs.getD k 0 : Nat) : Int)) := fun k hk => by
      rw [Int.toNat_natCast]
      unfold natsD
      rw [List.getElem?_map, List.getD_eq_getElem?_getD, List.getElem?_eq_getElem (by omega)]
      rfl
    let L1 : Nat → List T := fun i => (List.range i).map fun k => T.leaf (lf (qs.getD k 0) k)
    refine' Tr.cons (Ex.assignAcc hs rfl ?za1 (by omega) fun a b => ?_)
    case za1 => walk_at "ev"
    show Tr _ _ _ _
    refine' Tr.cons (Ex.forH (ds := rngD 5) (Its.range ?zb1 ?zb2 (by decide)) (fun i => [(Str.ofString "line", .val (.ref a)), (Str.ofString "way", .int way), (Str.ofString "told", .int (told : Int)), (Str.ofString "draws", .lst (natsD qs))]) (fun i => [⟨a, b, .acc 174 isz (pairs (L1 i))⟩]) ⟨rfl, rfl, rfl, rfl, rfl, trivial⟩ ?zb3 ?zb4)
    case zb1 => walk_at "nm"
    case zb2 => walk_at "evs"
    case zb3 =>
      intro ps i d hd
      obtain ⟨hi, rfl⟩ := rng_at hd
      have hs' : (c.hides ps).env.scope = _ := hs
      have hk' : (c.hides ps).k = 2 := hk
      refine ⟨_, As.name hs' rfl, ?_⟩
      have hL : (pairs (L1 i)).length ≤ 1000 := by simp [pairs, L1]; omega
      have hL2 : pairs (L1 (i + 1)) = pairs (L1 i) ++ [.tup [.str (Str.ofString "\t"), .str (lf (qs.getD i 0) i)]] := by
        simp [L1, List.range_succ, pairs, T.pair, T.rws, T.txt, ld_zero]
      have qi := qat i hi
      generalize qs.getD i 0 = q at *
      have hm : q % 16 < 16 := Nat.mod_lt _ (by decide)
      have eN : (16 : Int) * ((q % 16 : Nat) : Int) + (i : Int) + 1 = ((16 * (q % 16) + i + 1 : Nat) : Int) := by omega
      refine' Tr.cons (Ex.assign (d := .int ((16 * (q % 16) + i + 1 : Nat) : Int)) hs' rfl ?zc1 ?zc2)
      case zc1 =>
        rw [← eN]
        refine' Ev.binop (Ev.binop (Ev.binop ?zd1 (Ev.binop (Ev.sub ?zd2 ?zd3 (TyD.lst _) slot_list_getitem.lookup (Gi.lst (by omega) qi (by omega))) ?zd4 (Bop.modn q 16 16 (by decide) rfl)) (Bop.mul_int _ _ (.of_left (intBits_le_64 (by decide) (by decide))))) ?zd5 (Bop.add_int _ _)) ?zd6 (Bop.add_int _ _)
        case zd1 => walk_at "ev"
        case zd2 => walk_at "ev"
        case zd3 => walk_at "ev"
        case zd4 => walk_at "ev"
        case zd5 => walk_at "ev"
        case zd6 => walk_at "ev"
      case zc2 =>
        show Tr _ _ _ _
        let v : Int := if ((i % 2 : Nat) : Int) = 0 then ((16 * (q % 16) + i + 1 : Nat) : Int) else -((16 * (q % 16) + i + 1 : Nat) : Int)
        have hv : v.natAbs = 16 * (q % 16) + i + 1 := by
          show (if _ then _ else _ : Int).natAbs = _
          split
          · exact Int.natAbs_natCast _
          · rw [Int.natAbs_neg]; exact Int.natAbs_natCast _
        have hap := int2ap_cal c.w v (by rw [hv]; omega)
        rw [hv] at hap
        refine' Tr.cons (Ex.assign (d := .str (wd q i)) hs' rfl ?zd1 ?zd2)
        case zd1 =>
          refine' Ev.meth (Ev.call ?ze1 ?ze2 (Evs.cons (d := .int v) (Ev.ifexp (b := decide (((i % 2 : Nat) : Int) = 0)) (Te.compare (d1 := .int ((i % 2 : Nat) : Int)) (Ev.binop ?ze3 ?ze4 (Bop.modn i 2 2 (by decide) rfl)) ?ze5 (Cop.eq_int _ _)) (fun e => ?ze6) (fun e => ?ze7)) Evs.nil) hap ?ze8) (Mth.bytes FB.slot_bytes_decode FB.type_bytes_decode) (Kept.builtin _ _) Evs.nil (Cal.decode (n := 0) q i hi) ?ze9
          case ze1 => walk_at "nm"
          case ze2 => walk_at "kept"
          case ze3 => walk_at "ev"
          case ze4 => walk_at "ev"
          case ze5 => walk_at "ev"
          case ze6 =>
            have e := of_decide_eq_true e
            have : v = ((16 * (q % 16) + i + 1 : Nat) : Int) := if_pos e
            rw [this]
            walk_at "ev"
          case ze7 =>
            have e := of_decide_eq_false e
            have : v = -((16 * (q % 16) + i + 1 : Nat) : Int) := if_neg e
            rw [this]
            walk_at "ev"
          case ze8 => walk_at "room"
          case ze9 => walk_at "room"
        case zd2 =>
          show Tr _ _ _ _
          have hw := wd_len q i
          refine' Tr.join (ι := Unit) (b := decide (((q / 16 % 2 : Nat) : Int) = 1)) (fun _ => [(Str.ofString "word", .str (wq q i)), (Str.ofString "k", .int (i : Int)), (Str.ofString "line", .val (.ref a)), (Str.ofString "way", .int way), (Str.ofString "told", .int (told : Int)), (Str.ofString "draws", .lst (natsD qs))]) (fun _ => [⟨a, b, .acc 174 isz (pairs (L1 i))⟩]) (fun _ => True) ?ze1 ?ze2 ?ze3 ?ze4
          case ze1 =>
            refine' Te.compare (d1 := .int ((q / 16 % 2 : Nat) : Int)) (Ev.binop (Ev.binop (Ev.sub ?zf1 ?zf2 (TyD.lst _) slot_list_getitem.lookup (Gi.lst (by omega) qi (by omega))) ?zf3 (Bop.divn q 16 16 (by decide) (by decide) rfl)) ?zf4 (Bop.modn (q / 16) 2 2 (by decide) rfl)) ?zf5 (Cop.eq_int _ _)
            case zf1 => walk_at "ev"
            case zf2 => walk_at "ev"
            case zf3 => walk_at "ev"
            case zf4 => walk_at "ev"
            case zf5 => walk_at "ev"
          case ze2 =>
            intro e
            have e := of_decide_eq_true e
            refine' Tr.cons (Ex.assign (d := .str (wq q i)) hs' rfl ?zf1 ?zf2)
            case zf1 =>
              rw [wq, if_pos (by omega)]
              walk_at "ev"
            case zf2 => exact Tr.nil ⟨rfl, (), ⟨rfl, rfl, rfl, rfl, rfl, rfl, rfl, trivial⟩, trivial⟩
          case ze3 =>
            intro e
            have e := of_decide_eq_false e
            refine' Tr.cons (Ex.assign (d := .str (wq q i)) hs' rfl ?zf1 ?zf2)
            case zf1 =>
              rw [wq, if_neg (by omega)]
              walk_at "ev"
            case zf2 => exact Tr.nil ⟨rfl, (), ⟨rfl, rfl, rfl, rfl, rfl, rfl, rfl, trivial⟩, trivial⟩
          case ze4 =>
            intro _ _
            have hfs := fss_word c.w (wq q i) (by have := wq_len q i; omega)
            rw [named_wq q i hi] at hfs
            refine' Tr.cons (Ex.accMeth (pre := []) (post := []) ?zf1 (find_push _) (by rfl) (by rfl) (Kept.of rfl) (Evs.cons ?zf2 (Evs.cons (Ev.call ?zf3 ?zf4 (Evs.cons ?zf5 Evs.nil) hfs ?zf6) Evs.nil)) (push_cal c.w isz (pairs (L1 i)) (Str.ofString "\t") (lf q i) rfl hL) (by omega) ?zf7)
            case zf1 => walk_at "ev"
            case zf2 => walk_at "ev"
            case zf3 => walk_at "nm"
            case zf4 => walk_at "kept"
            case zf5 => walk_at "ev"
            case zf6 => walk_at "room"
            case zf7 =>
              refine Tr.nil ⟨?_, rfl, rfl, rfl, rfl, trivial⟩
              show [_] = [_]
              rw [hL2]
    case zb4 =>
      show Tr _ _ _ _
      have e5 : (rngD 5).length = 5 := rfl
      rw [e5]
      refine' Tr.cons (Ex.assign (d := tcD way) hs rfl (Ev.call ?zc1 ?zc2 (Evs.cons ?zc3 Evs.nil) (tc_new c.w [.tup [.int 0, .int (-1)], .tup [.int 1, .int way]]) ?zc4) ?zc5)
      case zc1 => walk_at "nm"
      case zc2 => walk_at "kept"
      case zc3 => walk_at "ev"
      case zc4 => walk_at "room"
      case zc5 =>
        show Tr _ _ _ _
        refine' Tr.cons (Ex.forH (ds := rngD 4) (Its.range ?zd1 ?zd2 (by decide)) (fun i => [(Str.ofString "comp", tcD way), (Str.ofString "line", .val (.ref a)), (Str.ofString "told", .int ((lrs way qs told i).2 : Int)), (Str.ofString "draws", .lst (natsD qs))]) (fun i => [⟨a, b, .acc 174 isz (pairs (lrs way qs told i).1)⟩]) ⟨rfl, rfl, rfl, rfl, rfl, trivial⟩ ?zd3 ?zd4)
        case zd1 => walk_at "nm"
        case zd2 => walk_at "evs"
        case zd4 =>
          show Tr _ _ _ _
          have e4 : (rngD 4).length = 4 := rfl
          rw [e4]
          have hlen := lrs_len way qs told 4 (by omega)
          have hl : pairs (lrs way qs told 4).1 = [] ++ [(joinOf way qs told).pair] := by
            unfold joinOf
            generalize (lrs way qs told 4).1 = ts at hlen
            match ts, hlen with
            | [t], _ => rfl
          rw [hl]
          refine Tr.cons (Ex.retP fun W₁ => Go.mono (Go.accMeth (pre := []) (post := []) ?ze1 (find_pop _) (by rfl) (by rfl) (Kept.of rfl) Evs.nil (pop_cal c.w isz [] _ rfl (by decide)) (by omega) (W₁ := W₁)) fun v W F' _ r => ⟨_, r.2, .inl rfl⟩)
          case ze1 => walk_at "ev"
        case zd3 =>
          intro ps i d hd
          obtain ⟨hi, rfl⟩ := rng_at hd
          have hs' : (c.hides ps).env.scope = _ := hs
          have hk' : (c.hides ps).k = 2 := hk
          have tl : ∀ i, (lrs way qs told i).2 < 1000 := by
            intro i
            induction i with
            | zero => exact ht
            | succ i ih => exact Nat.lt_of_le_of_lt (Nat.div_le_self _ _) ih
          have hlen := lrs_len way qs told i (by omega)
          have hsm := lrs_sm way qs told i (by omega)
          have htl := tl i
          have hsucc : lrs way qs told (i + 1) = (jt2 way (lrs way qs told i).1 ((lrs way qs told i).2 % (4 - i)) (nm (qs.getD i 0)), (lrs way qs told i).2 / (4 - i)) := rfl
          have qi := qat i (by omega)
          rw [hsucc]
          generalize lrs way qs told i = s at *
          generalize qs.getD i 0 = q at *
          obtain ⟨ts, t⟩ := s
          dsimp only at *
          have hp : t % (4 - i) < 4 - i := Nat.mod_lt _ (by omega)
          generalize hpl : t % (4 - i) = p at *
          have ⟨n0, n1⟩ := nm_lt q
          refine ⟨_, As.name hs' rfl, ?_⟩
          refine' Tr.cons (Ex.assignT (d := .tup [.int ((t / (4 - i) : Nat) : Int), .int ((p : Nat) : Int)]) ?ze1 (As.tuple (Ass.cons (As.name hs' rfl) (Ass.cons (As.name hs' rfl) Ass.nil))) ?ze2)
          case ze1 =>
            have h := Cal.divmod (w := c.w) (n := 0) t (4 - i) (by omega) (by omega) (by omega)
            rw [hpl] at h
            refine' Ev.call ?zf1 ?zf2 (Evs.cons ?zf3 (Evs.cons ?zf4 Evs.nil)) h ?zf5
            case zf1 => walk_at "nm"
            case zf2 => walk_at "kept"
            case zf3 => walk_at "ev"
            case zf4 =>
              have e : ((4 - i : Nat) : Int) = (4 : Int) - (i : Int) := by omega
              rw [e]
              walk_at "ev"
            case zf5 => walk_at "room"
          case ze2 =>
            show Tr _ _ _ _
            obtain ⟨x, y, rest, hdr⟩ : ∃ x y rest, ts.drop p = x :: y :: rest := by
              have : 2 ≤ (ts.drop p).length := by rw [List.length_drop]; omega
              match ts.drop p, this with
              | x :: y :: rest, _ => exact ⟨x, y, rest, rfl⟩
            have hx : ts.getD p T0 = x := by
              have := congrArg (fun l => l[0]?) hdr
              simp only [List.getElem?_drop, Nat.add_zero] at this
              rw [List.getD_eq_getElem?_getD, this]; rfl
            have hy : ts.getD (p + 1) T0 = y := by
              have := congrArg (fun l => l[1]?) hdr
              simp only [List.getElem?_drop] at this
              rw [List.getD_eq_getElem?_getD, this]; rfl
            have hrest : ts.drop (p + 2) = rest := by
              have := congrArg (List.drop 2) hdr
              rw [List.drop_drop] at this
              exact this
            have sx : Sm i x := hsm x (List.mem_of_mem_drop (i := p) (by rw [hdr]; exact .head _))
            have sy : Sm i y := hsm y (List.mem_of_mem_drop (i := p) (by rw [hdr]; exact .tail _ (.head _)))
            have hjt : jt2 way ts p (nm q) = ts.take p ++ [arr way x y (nm q)] ++ rest := by unfold jt2; rw [hx, hy, hrest]
            have hrl : rest.length ≤ 5 := by rw [← hrest, List.length_drop]; omega
            have hpk : pk (pairs ts) (some (p : Int)) none = pairs (x :: y :: rest) := by
              rw [pk_drop _ p _ rfl, ← hdr]; simp [pairs]
            have hpt : (pairs ts).take p = pairs (ts.take p) := by simp [pairs]
            have hpf := popfrom_cal c.w isz (pairs ts) p (by simp [pairs]; omega) (by simp [pairs]; omega)
            rw [hpk, hpt] at hpf
            rw [hjt]
            have hprel : (ts.take p).length ≤ 5 := by rw [List.length_take]; omega
            generalize ts.take p = pre at *
            refine' Tr.cons (Ex.assignAccMeth (pre := []) (post := []) hs' rfl ?zf1 (find_pf _) (by rfl) (by rfl) (Kept.of rfl) (Evs.cons ?zf2 Evs.nil) hpf ?zf4 ?zf3)
            case zf4 => walk_at "room"
            case zf1 => walk_at "ev"
            case zf2 => walk_at "ev"
            case zf3 =>
              show Tr _ _ _ _
              obtain ⟨gx, lx, lx2, rx, hx4⟩ := sx.small (by omega)
              obtain ⟨gy, ly, ly2, ry, hy4⟩ := sy.small (by omega)
              have hlen3 : (pairs (x :: y :: rest)).length ≤ 100000 := by simp [pairs]; omega
              have hp2 : pk (pairs (x :: y :: rest)) none (some 2) = pairs [x, y] := pk_take _ 2
              have hd2 : pk (pairs (x :: y :: rest)) (some 2) none = pairs rest := pk_drop _ 2 2 rfl
              refine' Tr.cons (Ex.assignT (d := .lst [E3 x, E3 y]) (Ev.listComp (cl := []) (ds := pairs [x, y]) (Its.of ?zg0 Itv.lst) ⟨rfl, (by simp [pairs]), ?zg4⟩ rfl) (As.tupleL (Ass.cons (As.name hs' rfl) (Ass.cons (As.name hs' rfl) Ass.nil))) ?zg5)
              case zg0 =>
                rw [← hp2]
                refine' Ev.slice ?zg1 Pt.none (Pt.some ?zg2) (TyD.lst _) slot_list_getitem.lookup (Sl.lst hlen3)
                case zg1 => walk_at "ev"
                case zg2 => walk_at "ev"
              case zg4 =>
                intro ci W h hci j d hd
                have hz : ∃ z, Sm i z ∧ d = z.pair ∧ [E3 x, E3 y][j]? = some (E3 z) := by
                  rcases j with _ | _ | j
                  · exact ⟨x, sx, (Option.some.inj hd).symm, rfl⟩
                  · exact ⟨y, sy, (Option.some.inj hd).symm, rfl⟩
                  · simp [pairs] at hd
                obtain ⟨z, sz, rfl, hj⟩ := hz
                obtain ⟨gz, lz, lz2, rz, hz4⟩ := sz.small (by omega)
                have hsc := hci.sc
                have hk2 : ci.k = 2 := hci.k.trans hk'
                have hcl := ldp_len z
                refine' ⟨_, E3 z, As.tuple (Ass.cons (As.name hsc rfl) (Ass.cons (As.name hsc rfl) Ass.nil)), ?zelt1, rfl, hj⟩
                case zelt1 =>
                  refine' Ev.tuple (Evs.cons (Ev.meth (Ev.call ?zy1 ?zy2 (Evs.cons (Ev.slice ?zy3 Pt.none (Pt.some ?zy4) (TyD.str _) PySem.F.slot_str_getitem.lookup (Sl.str ?zy5)) Evs.nil) (ws_new ci.w (ldp z.rws) (ldp_chars z) (by omega)) ?zy6) (Mth.inst (met_long _) rfl) (Kept.of rfl) Evs.nil (long_cal ci.w (ldp z.rws) (by omega)) ?zy7) (Evs.cons ?zy8 (Evs.cons ?zy9 Evs.nil)))
                  case zy1 => walk_at "nm"
                  case zy2 => walk_at "kept"
                  case zy3 => walk_at "ev"
                  case zy4 => walk_at "ev"
                  case zy5 => omega
                  case zy6 => omega
                  case zy7 => omega
                  case zy8 => walk_at "ev"
                  case zy9 => walk_at "ev"
              case zg5 =>
                show Tr _ _ _ _
                refine' Tr.join (ι := T × T) (b := decide (cmpv way (vl x) (vl y) x.txt y.txt > 0)) (fun z => [(Str.ofString "one", E3 z.1), (Str.ofString "two", E3 z.2), (Str.ofString "parts", .lst (pairs (x :: y :: rest))), (Str.ofString "k", .int (i : Int)), (Str.ofString "comp", tcD way), (Str.ofString "line", .val (.ref a)), (Str.ofString "told", .int ((t / (4 - i) : Nat) : Int)), (Str.ofString "draws", .lst (natsD qs))]) (fun _ => [⟨a, b, .acc 174 isz (pairs pre)⟩]) (fun z => arr way x y (nm q) = .node z.1 (nm q) z.2 ∧ Sm i z.1 ∧ Sm i z.2) ?zh1 ?zh2 ?zh3 ?zh4
                case zh1 =>
                  refine' Te.compare (Ev.meth ?zi1 (Mth.inst (met_compare _) rfl) (Kept.of rfl) (Evs.cons ?zi2 (Evs.cons ?zi3 Evs.nil)) (compare_cal c.w way (vl x) (vl y) x.txt y.txt (ld x.rws) (ld y.rws)) ?zi4) ?zi5 (Cop.gt_int _ _)
                  case zi1 => walk_at "ev"
                  case zi2 => walk_at "ev"
                  case zi3 => walk_at "ev"
                  case zi4 => walk_at "room"
                  case zi5 => walk_at "ev"
                case zh2 =>
                  intro e
                  have e := of_decide_eq_true e
                  refine' Tr.cons (Ex.swap2 hs' rfl rfl ?zi1 ?zi2 ?zi3)
                  case zi1 => walk_at "ev"
                  case zi2 => walk_at "ev"
                  case zi3 => exact Tr.nil ⟨rfl, (y, x), ⟨rfl, rfl, rfl, rfl, rfl, rfl, rfl, rfl, rfl, trivial⟩, by unfold arr; rw [if_pos e], sy, sx⟩
                case zh3 =>
                  intro e
                  have e := of_decide_eq_false e
                  exact Tr.nil ⟨rfl, (x, y), ⟨rfl, rfl, rfl, rfl, rfl, rfl, rfl, rfl, rfl, trivial⟩, by unfold arr; rw [if_neg e], sx, sy⟩
                case zh4 =>
                  rintro ⟨u, v⟩ ⟨harr, su, sv⟩
                  dsimp only at harr su sv ⊢
                  obtain ⟨gu, lu, lu2, ru, hu4⟩ := su.small (by omega)
                  obtain ⟨gv, lv, lv2, rv, hv4⟩ := sv.small (by omega)
                  rw [harr]
                  have hfs := fss_tree c.w u.txt v.txt (nm q) (by omega) (by omega) n0 n1 (ne_tilde lu2)
                  refine' Tr.cons (Ex.assign (d := .str (jn u.txt (nm q) v.txt)) hs' rfl (Ev.call ?zi1 ?zi2 (Evs.cons (Ev.tuple (Evs.cons ?zi3 (Evs.cons (Ev.binop (Ev.binop (Ev.sub ?zi4 ?zi5 (TyD.lst _) slot_list_getitem.lookup (Gi.lst (by omega) qi (by omega))) ?zi6 (Bop.divn q 32 32 (by decide) (by decide) rfl)) ?zi7 (Bop.modn (q / 32) 100 100 (by decide) rfl)) (Evs.cons ?zi8 Evs.nil)))) Evs.nil) hfs ?zi9) ?zi10)
                  case zi1 => walk_at "nm"
                  case zi2 => walk_at "kept"
                  case zi3 => walk_at "ev"
                  case zi4 => walk_at "ev"
                  case zi5 => walk_at "ev"
                  case zi6 => walk_at "ev"
                  case zi7 => walk_at "ev"
                  case zi8 => walk_at "ev"
                  case zi9 => walk_at "room"
                  case zi10 =>
                    show Tr _ _ _ _
                    have e6 : ld (T.node u (nm q) v).rws = ld u.rws ++ Txt.replace (ld v.rws) (Str.ofString "\t") (Str.ofString " \t") := by rw [ld_up, ld_app]; rfl
                    have l6 : (ld u.rws).length + (Txt.replace (ld v.rws) (Str.ofString "\t") (Str.ofString " \t")).length ≤ 1000000 := by
                      have : (ld u.rws ++ Txt.replace (ld v.rws) (Str.ofString "\t") (Str.ofString " \t")).length ≤ 1000 := by
                        rw [← e6]
                        have sn : Sm (i + 1) (.node u (nm q) v) := su.node sv n0 n1
                        exact Nat.le_trans (sn.small (by omega)).2.2.2.1 (by decide)
                      rw [Str.length_append] at this; omega
                    refine' Tr.cons (Ex.accMeth (pre := []) (post := []) ?zj1 (find_push _) (by rfl) (by rfl) (Kept.of rfl) (Evs.cons ?zj2 (Evs.cons ?zj3 Evs.nil)) (push_cal c.w isz (pairs pre) (ld (T.node u (nm q) v).rws) (jn u.txt (nm q) v.txt) rfl (by simp [pairs]; omega)) ?zj4 ?zj5)
                    case zj1 => walk_at "ev"
                    case zj2 =>
                      rw [e6]
                      refine' Ev.binop ?zk1 ?zk2 (Bop.add_str _ _ l6)
                      case zk1 => walk_at "ev"
                      case zk2 => walk_at "ev"
                    case zj3 => walk_at "ev"
                    case zj4 => walk_at "room"
                    case zj5 =>
                      show Tr _ _ _ _
                      have epush : pairs pre ++ [Dt.tup [.str (ld (T.node u (nm q) v).rws), .str (jn u.txt (nm q) v.txt)]] = pairs (pre ++ [.node u (nm q) v] ++ rest.take 0) := by simp [pairs, T.pair, T.txt]
                      rw [epush]
                      refine' Tr.cons (Ex.forH (ds := pairs rest) (Its.of ?zk1 Itv.lst) (fun j => [(Str.ofString "comp", tcD way), (Str.ofString "line", .val (.ref a)), (Str.ofString "told", .int ((t / (4 - i) : Nat) : Int)), (Str.ofString "draws", .lst (natsD qs))]) (fun j => [⟨a, b, .acc 174 isz (pairs (pre ++ [.node u (nm q) v] ++ rest.take j))⟩]) ?zk0 ?zk2 ?zk3)
                      case zk0 => exact ⟨rfl, rfl, rfl, rfl, rfl, trivial⟩
                      case zk1 =>
                        rw [← hd2]
                        refine' Ev.slice ?zl1 (Pt.some ?zl2) Pt.none (TyD.lst _) slot_list_getitem.lookup (Sl.lst hlen3)
                        case zl1 => walk_at "ev"
                        case zl2 => walk_at "ev"
                      case zk2 =>
                        intro ps2 j d hd
                        obtain ⟨z, hz, hzm, rfl⟩ := pairs_at hd
                        have hs2 : ((c.hides ps).hides ps2).env.scope = _ := hs
                        have hk2 : ((c.hides ps).hides ps2).k = 2 := hk
                        refine ⟨_, As.tuple (Ass.cons (As.name hs2 rfl) (Ass.cons (As.name hs2 rfl) Ass.nil)), ?_⟩
                        have etk : rest.take (j + 1) = rest.take j ++ [z] := by rw [List.take_add_one, hz]; rfl
                        have ltk : (rest.take j).length ≤ 5 := by rw [List.length_take]; omega
                        have hl9 : (pairs (pre ++ [.node u (nm q) v] ++ rest.take j)).length ≤ 1000 := by
                          simp only [pairs, List.length_map, List.length_append, List.length_singleton]; omega
                        refine' Tr.cons (Ex.accMeth (pre := []) (post := []) ?zl1 (find_push _) (by rfl) (by rfl) (Kept.of rfl) (Evs.cons ?zl2 (Evs.cons ?zl3 Evs.nil)) (push_cal c.w isz (pairs (pre ++ [.node u (nm q) v] ++ rest.take j)) (ld z.rws) z.txt rfl hl9) ?zl4 ?zl5)
                        case zl1 => walk_at "ev"
                        case zl2 => walk_at "ev"
                        case zl3 => walk_at "ev"
                        case zl4 => walk_at "room"
                        case zl5 =>
                          refine Tr.nil ⟨?_, rfl, rfl, rfl, rfl, trivial⟩
                          show [_] = [_]
                          rw [etk]
                          simp [pairs, T.pair]
                      case zk3 =>
                        have e9 : rest.take (pairs rest).length = rest := List.take_of_length_le (by simp [pairs])
                        rw [e9]
                        exact Tr.nil ⟨rfl, rfl, rfl, rfl, rfl, trivial⟩
end
end
section
open PySem PySem.W PySem.Calls PyProof.Rows PySem.Spec
set_option Elab.async false
set_option maxRecDepth 100000
set_option maxHeartbeats 4000000
set_option linter.unusedVariables false
set_option linter.unusedSimpArgs false
section
theorem forIn_one {M : Model} {A : Around} {E : Value → Shared → Prop} {s : Shared} {t : Expr} {env : Env} {Q : Bool → Shared → Prop} (h : wpAny M A (isTrue t env (eval t env)) Q E s) :
    wpAny M A (forIn [t] true fun c r => if r = true then do let ok ← isTrue c env (eval c env); pure (ForInStep.yield ok) else pure (ForInStep.yield r)) Q E s := by
  rw [List.forIn_cons, if_pos rfl]
  exact wpAny_bind (wpAny_bind (wpAny_mono h (fun ok s' q => wpAny_pure (wpAny_pure q)) fun _ _ z => z))
theorem codeAny_dcompLoop {prog : Program} {w : World} {A : Around} {R : Result → Shared → Prop} {s : Shared} {kx vx t iter : Expr} {x : Str} {px : Pos} {scope : Scope} {pos : Pos} {it : Value} {D : Addr} {env : Env} (I : Nat → Shared → Prop)
    (turn : ∀ n s, I n s → wpAny (model prog w) A (pyNext it) (fun r s₁ => match r with
      | none => R (.ok .next) s₁
      | some v => wpAny (model prog w) A (letOwnedTupleGo (.Name x px) it v) (fun _ s₁' => wpAny (model prog w) A (PySem.assign (.Name x px) env v) (fun _ s₂ =>
          wpAny (model prog w) A (isTrue t env (eval t env)) (fun ok s₃ =>
            if ok = true then wpAny (model prog w) A (eval kx env) (fun kv s₄ => wpAny (model prog w) A (eval vx env) (fun vv s₅ =>
              wpAny (model prog w) A (dictSet D kv vv) (fun _ s₆ => ∃ m, m < n ∧ I m s₆) (notedBy (model prog w) A env fun e s' => R (.error e) s') s₅) (notedBy (model prog w) A env fun e s' => R (.error e) s') s₄) (notedBy (model prog w) A env fun e s' => R (.error e) s') s₃
            else ∃ m, m < n ∧ I m s₃) (notedBy (model prog w) A env fun e s' => R (.error e) s') s₂) (notedBy (model prog w) A env fun e s' => R (.error e) s') s₁') (notedBy (model prog w) A env fun e s' => R (.error e) s') s₁) (notedBy (model prog w) A env fun e s' => R (.error e) s') s)
    (n : Nat) (h : I n s) : codeAny (model prog w) A (.compLoop (.DictComp kx vx [⟨.Name x px, iter, [t], 0⟩] scope pos) 0 it (.ref D) env) R s := by
  refine codeAny_compLoop_testsD I (fun n s hI => wpAny_mono (turn n s hI) (fun r s₁ h₁ => ?_) fun _ _ z => z) n h
  cases r with
  | none => exact h₁
  | some v =>
    have h₂ := wpAny_bind (f := fun _ => PySem.assign (.Name x px) env v) h₁
    exact wpAny_mono (show wpAny (model prog w) A (PySem.assign (.Name x px) env v) _ _ s₁ from h₂) (fun _ s₂ h₃ => forIn_one h₃) fun _ _ z => z
noncomputable def dcf (b : Nat → Bool) (ks : Nat → Int) (vd : Nat → Dt) : Nat → List (Int × Dt)
  | 0 => []
  | i + 1 => if b i then dset (dcf b ks vd i) (ks i) (vd i) else dcf b ks vd i
theorem dset_len1 {α : Type} (l : List (Int × α)) (k : Int) (v : α) : (dset l k v).length ≤ l.length + 1 := by
  unfold dset; split <;> simp
theorem dcf_len (b : Nat → Bool) (ks : Nat → Int) (vd : Nat → Dt) : ∀ i, (dcf b ks vd i).length ≤ i
  | 0 => Nat.le_refl _
  | i + 1 => by
    have ih := dcf_len b ks vd i
    unfold dcf
    split
    · exact Nat.le_trans (dset_len1 _ _ _) (Nat.succ_le_succ ih)
    · omega
theorem dcomp_loop {c : Cx} {W : Fz} {h : Heap} {kx vx t iter : Expr} {x : Str} {px : Pos} {scope : Scope} {pos : Pos} {ds : List Dt} {It D : Addr} {S : Nat → List (Addr × Obj) → Prop} {R : Result → Shared → Prop} {os : List (Addr × Obj)} {n : Nat} {tk : Nat} {F0 : Frame} {b : Nat → Bool} {ks : Nat → Int} {vd : Nat → Dt}
    (I : Inv ((c.hides [(D, dicO #[] n)]).hides os) F0 W h) (hF : F0.own = []) (st : S 0 os) (hD : Pul c.w W It (.Name x px) ds S)
    (helt : ∀ ps (i : Nat) (d : Dt), ds[i]? = some d → ∃ F2, As (c.hides ps) ⟨[], []⟩ (.Name x px) d F2 ∧ F2.own = [] ∧ Te (c.hides ps) F2 t (b i) ∧ (b i = true → Ev (c.hides ps) F2 kx (.int (ks i)) ∧ Ev (c.hides ps) F2 vx (vd i))) (hsz : ds.length ≤ 100000)
    (hR : ∀ h' tk' W' es n', Sub W W' → Inv (c.hides [(D, dicO es n')]) ⟨[], []⟩ W' h' → Ents W' es.toList (dcf b ks vd ds.length) → ((dcf b ks vd ds.length).map Prod.fst).Nodup → R (.ok .next) (St c.s₀ h' tk')) :
    codeAny (model prog c.w) c.A (.compLoop (.DictComp kx vx [⟨.Name x px, iter, [t], 0⟩] scope pos) 0 (.ref It) (.ref D) c.env) R (St c.s₀ h tk) := by
  obtain ⟨JJ, hJJ⟩ : ∃ JJ : Nat → Shared → Prop, ∀ k s, JJ k s ↔ ∃ i F1 W2 h3 tk3 os3 es n3, k = ds.length - i ∧ i ≤ ds.length ∧ s = Mine.St c.s₀ h3 tk3 ∧ Inv ((c.hides [(D, dicO es n3)]).hides os3) F1 W2 h3 ∧ F1.own = [] ∧ Sub W W2 ∧ S i os3 ∧ Ents W2 es.toList (dcf b ks vd i) ∧ ((dcf b ks vd i).map Prod.fst).Nodup := ⟨_, fun _ _ => Iff.rfl⟩
  refine codeAny_dcompLoop JJ (fun k s hI => ?_) ds.length ((hJJ _ _).mpr ⟨0, F0, W, h, tk, os, #[], n, rfl, Nat.zero_le _, rfl, I, hF, Sub.refl _, st, .nil, List.nodup_nil⟩)
  replace hI := (hJJ _ _).mp hI
  obtain ⟨i, F1, W2, h3, tk3, os3, es, n3, rfl, hi, rfl, I3, hF1, hs3, st3, hr3, hn3⟩ := hI
  by_cases hlt : i < ds.length
  · refine' wpAny_mono (hD.item (c.hides [(D, dicO es n3)]) i os3 F1 W2 h3 tk3 ?cQ _ rfl hlt st3 I3 hs3 ?cA) ?cB fun _ _ h => h
    case cB =>
      intro r s₁ hr
      cases r with
      | none => exact hr.elim
      | some v => exact hr
    intro v d os4 W4 h4 tk4 hd st4 I4 hs4 r4
    obtain ⟨F2, ha, hF2, hte, hkv⟩ := helt (os4 ++ [(D, dicO es n3)]) i d hd
    have eC : c.hides (os4 ++ [(D, dicO es n3)]) = (c.hides [(D, dicO es n3)]).hides os4 := by simp [Cx.hides]
    rw [eC] at ha hte hkv
    have I4' : Inv ((c.hides [(D, dicO es n3)]).hides os4) ⟨[], []⟩ W4 h4 := by have := I4.forget; rw [hF1] at this; exact this
    refine ha W4 v r4 W4 h4 tk4 _ _ (Sub.refl _) I4' fun _ W5 h5 tk5 F5 I5 hs5 e => ?_
    subst e
    refine hte W5 W5 h5 tk5 _ _ (Sub.refl _) I5 (isQ fun r W6 h6 tk6 I6 hs6 e => ?_)
    obtain rfl := e
    cases hb : b i with
    | false =>
      have e1 : dcf b ks vd (i + 1) = dcf b ks vd i := by rw [dcf, hb]; rfl
      exact ⟨ds.length - (i + 1), by omega, (hJJ _ _).mpr ⟨i + 1, F5, W6, h6, tk6, os4, es, n3, rfl, hlt, rfl, I6, hF2, ((hs3.trans hs4).trans hs5).trans hs6, st4, by rw [e1]; exact hr3.mono ((hs4.trans hs5).trans hs6), by rw [e1]; exact hn3⟩⟩
    | true =>
      obtain ⟨hk, hv⟩ := hkv hb
      have e1 : dcf b ks vd (i + 1) = dset (dcf b ks vd i) (ks i) (vd i) := by rw [dcf, hb]; rfl
      refine hk W6 W6 h6 tk6 _ _ (Sub.refl _) I6 (isQ fun kv W7 h7 tk7 I7 hs7 r7 => ?_)
      (replace r7 := Rep.int_inv r7; obtain ⟨t7, rfl⟩ := r7)
      refine hv W7 W7 h7 tk7 _ _ (Sub.refl _) I7 (isQ fun vv W8 h8 tk8 I8 hs8 r8 => ?_)
      have hDm : (D, dicO es n3) ∈ ((c.hides [(D, dicO es n3)]).hides os4).hid := List.mem_append_right _ (.head _)
      have hl8 := (I8.hid _ hDm).1
      have s28 := (((hs4.trans hs5).trans hs6).trans hs7).trans hs8
      obtain ⟨l, g1, g2⟩ := dictOf_out c.w hl8 (hr3.mono s28) hn3
      have g2' : (St c.s₀ h8 tk8).heap.DictOf (iK c.w) D l := g2
      refine wpAny_dictSet_pairs (s := St c.s₀ h8 tk8) (knd := iK c.w) (k := ks i) (hsz := by rw [g1.length]; exact Nat.le_trans (Nat.le_trans (dcf_len b ks vd i) (by omega)) (show 100000 ≤ sizeLine by decide)) (intKind_is prog c.w (ks i) t7) g2' fun h9 hl9 hs9 => ?_
      obtain ⟨es', n', e', r', nd'⟩ := dictOf_back hl9 (RepV.stored (k := ks i) r8 g1)
      have hnd : ((os4.map Prod.fst) ++ (D :: c.hid.map Prod.fst)).Nodup := by have := I8.hnd; simpa [Cx.hides] using this
      have hDn : ∀ p ∈ os4, p.1 ≠ D := fun p hp => (List.nodup_append.mp hnd).2.2 _ (List.mem_map_of_mem hp) _ (.head _)
      have I9 : Inv ((c.hides [(D, dicO es' n')]).hides os4) F5 W8 h9 := by
        have e1 : (c.hides [(D, dicO es n3)]).hides os4 = c.hides (os4 ++ [(D, dicO es n3)]) := by simp [Cx.hides]
        have e2 : (c.hides [(D, dicO es' n')]).hides os4 = c.hides (os4 ++ [(D, dicO es' n')]) := by simp [Cx.hides]
        rw [e1] at I8
        rw [e2]
        refine I8.turned (by simp) (fun b o hb e => hs9.extBut b o (fun q => hb (by simp [q])) e) (fun p hp => ?_)
        rcases List.mem_append.mp hp with hp | hp
        · exact hs9.extBut _ _ (hDn p hp) (I8.hid p (by simp [Cx.hides, hp])).1
        · rw [List.mem_singleton] at hp; subst hp; exact e'
      exact ⟨ds.length - (i + 1), by omega, (hJJ _ _).mpr ⟨i + 1, F5, W8, h9, _, os4, es', n', rfl, hlt, rfl, I9, hF2, hs3.trans s28, st4, by rw [e1]; exact r', by rw [e1]; exact nd'⟩⟩
  · have hin : i = ds.length := by omega
    subst hin
    refine hD.done (c.hides [(D, dicO es n3)]) os3 F1 W2 h3 tk3 _ _ rfl st3 I3 hs3 fun h4 tk4 I4 => ?_
    have I4' := I4.forget
    rw [hF1] at I4'
    exact hR h4 tk4 W2 es n3 hs3 I4' hr3 hn3
end
end
section
open PySem PySem.W PySem.Calls PyProof.Rows PySem.Spec
set_option Elab.async false
set_option maxRecDepth 100000
set_option maxHeartbeats 4000000
set_option linter.unusedVariables false
set_option linter.unusedSimpArgs false
section
theorem dcomp_core {c : Cx} {F : Frame} {W : Fz} {h : Heap} {tk : Nat} {E : Value → Shared → Prop} {kx vx t iter : Expr} {x : Str} {px : Pos} {scope : Scope} {pos : Pos} {ds : List Dt} {cl : List (Str × Addr)} {b : Nat → Bool} {ks : Nat → Int} {vd : Nat → Dt} {RR : Value → Addr → Result → Shared → Prop} (I : Inv c F W h) (hit : Its c F (.Name x px) iter ds)
    (hkind : scope.kind = .function) (hcell : ∀ x ∈ scope.names, x.2 ≠ .cell)
    (helt : ∀ ci W h, CompIn c ci scope cl F W h → ∀ (i : Nat) (d : Dt), ds[i]? = some d → ∃ F2, As ci ⟨[], []⟩ (.Name x px) d F2 ∧ F2.own = [] ∧ Te ci F2 t (b i) ∧ (b i = true → Ev ci F2 kx (.int (ks i)) ∧ Ev ci F2 vx (vd i))) (hsz : ds.length ≤ 100000)
    (hRR : ∀ acc C oC h' tk' W', Sub W W' → Inv (c.hides [(C, oC)]) F W' h' → (∃ m, h'.Ns C m) → Rep W' acc (.dic (dcf b ks vd ds.length)) → RR acc C (.ok .next) (St c.s₀ h' tk')) :
    wpAny (model prog c.w) c.A (eval iter c.env) (fun v s₁ => wpAny (model prog c.w) c.A (pyIter v) (fun it s₂ => wpAny (model prog c.w) c.A newDict (fun acc s₃ =>
      wpAny (model prog c.w) c.A (newFunctionEnv scope c.env.globals cl [] c.env.qual none .none (some c.env)) (fun cenv s₄ =>
        codeAny (model prog c.w) c.A (.compStart (.DictComp kx vx [⟨.Name x px, iter, [t], 0⟩] scope pos) 0 it acc { cenv with scope := relabel scope c.env }) (RR acc cenv.locals) s₄) E s₃) E s₂) E s₁) E (St c.s₀ h tk) := by
  refine hit W h tk _ E I fun It os S W0 h0 h1 tk1 I0 hs0 I1 st D hk1 hszle hI1 => ?_
  refine wpAny_newObj_type (s := St c.s₀ h1 tk1) ?_ (by size_fits)
  refine wpAny_newFunctionEnv (s := St c.s₀ (h1.push (dicO #[] 0)) tk1) hcell (by intro x hx; simp at hx) (fun h2 hn2 hs2 => ?_) hkind
  have hC : (h1.push (dicO #[] 0)).objs.size = h1.objs.size + 1 := Heap.size_push ..
  have e1 : (St c.s₀ (h1.push (dicO #[] 0)) tk1).heap = h1.push (dicO #[] 0) := rfl
  rw [e1] at hn2 hs2
  have up : ∀ b o, h1.get? b = some o → h2.get? b = some o := fun b o e => hs2.extBut b o (neA (.inl (by have := ltN (Heap.lt_size e); rw [hC]; omega))) (Heap.get?_push_of_some _ (Heap.get?_push_of_some _ e))
  have hDl : h2.get? h1.objs.size = some (dicO #[] 0) := hs2.extBut _ _ (by rw [hC]; exact neA (by omega)) (Heap.get?_push_of_some _ (Heap.get?_push_size _ rfl))
  have upW : ∀ b o, W0 b = some o → h1.get? b = some o := fun b o e => I1.keep b o e
  let ci : Cx := { w := c.w, s₀ := St c.s₀ h0 tk, W₀ := W0, bor := [], hid := [], L := h1.objs.size + 1, A := c.A,
                   env := { (newEnv scope (h1.objs.size + 1) c.env.globals cl c.env.qual none .none (some c.env) builtinsNs) with scope := relabel scope c.env }, k := c.k,
                   hk := hkind, hL := rfl, hg := c.hg, hb := c.hb, hh := c.hh, room := c.room }
  have Wnone : ∀ a, h1.objs.size ≤ a → W0 a = none := fun a ha => by
    cases q : W0 a with
    | none => rfl
    | some o' => exact absurd (Heap.lt_size (upW _ _ q)) (Nat.not_lt.mpr ha)
  have Ii : Inv ((ci.hides [(h1.objs.size, dicO #[] 0)]).hides os) ⟨[], []⟩ W0 h2 := {
    wd := I0.wd
    vars := ⟨_, by rw [hC] at hn2; exact hn2, fun x d e => by simp at e⟩
    base := fun b o _ e => up b o (hk1 b o e)
    sub := Sub.refl _
    keep := fun b o e => up b o (upW b o e)
    new := fun b o e => .inl e
    hL := by show h0.objs.size ≤ h1.objs.size + 1; omega
    wL := Wnone _ (by show h1.objs.size ≤ h1.objs.size + 1; omega)
    own := fun p hp => nomatch hp
    ads := fun a ha => by simp [Frame.ads] at ha
    nd := by simp [Frame.ads]
    bor := fun a ha => nomatch ha
    hid := fun p hp => by
      rcases List.mem_append.mp hp with hp | hp
      · have q := I1.hid p (List.mem_append_left _ hp)
        have q1 := ltN (Heap.lt_size q.1)
        exact ⟨up _ _ q.1, by show p.1 ≠ h1.objs.size + 1; exact neA (by omega), q.2.2.1, by simp [Frame.ads], hI1 p hp⟩
      · have hp : p ∈ [(h1.objs.size, dicO #[] 0)] := by simpa [ci, Cx.hides] using hp
        rw [List.mem_singleton] at hp; subst hp
        exact ⟨hDl, by show h1.objs.size ≠ h1.objs.size + 1; exact neA (by omega), Wnone _ (Nat.le_refl _), by simp [Frame.ads], hszle⟩
    hnd := by
      have q : (os.map Prod.fst).Nodup := by
        have := I1.hnd
        rw [show (c.hides os).hid = os ++ c.hid from rfl, List.map_append] at this
        exact (List.nodup_append.mp this).1
      show ((os ++ ([(h1.objs.size, dicO #[] 0)] ++ [])).map Prod.fst).Nodup
      rw [List.append_nil, List.map_append]
      refine List.nodup_append.mpr ⟨q, by simp, fun a ha b' hb => ?_⟩
      obtain ⟨p, hp, rfl⟩ := List.mem_map.mp ha
      simp at hb; subst hb
      exact neA (.inl (ltN (Heap.lt_size (I1.hid p (List.mem_append_left _ hp)).1))) }
  have hCI : CompIn c ci scope cl F W0 h0 := ⟨rfl, rfl, rfl, rfl, rfl, rfl, rfl, I0⟩
  have main : ∀ tk2, codeAny (model prog c.w) c.A (.compLoop (.DictComp kx vx [⟨.Name x px, iter, [t], 0⟩] scope pos) 0 (.ref It) (.ref h1.objs.size) ci.env) (RR (.ref h1.objs.size) (h1.objs.size + 1)) (St c.s₀ h2 tk2) := fun tk2 => by
    refine dcomp_loop (c := ci) (b := b) (ks := ks) (vd := vd) Ii rfl st D (fun ps i d hd => ?_) hsz fun h' tk' W' vs n' hsW I' hr' hnd' => ?_
    · exact helt (ci.hides ps) W0 h0 ⟨rfl, rfl, rfl, rfl, rfl, rfl, rfl, I0⟩ i d hd
    · have hlst := (I'.hid (h1.objs.size, dicO vs n') (.head _))
      have hnew : ∀ b o, (W'.put h1.objs.size (dicO vs n')) b = some o → W0 b = some o ∨ h0.objs.size ≤ b := fun b o e => by
        unfold Fz.put at e
        split at e
        · rename_i q; subst q; exact .inr hszle
        · exact I'.new b o e
      have Io : Inv c F (W'.put h1.objs.size (dicO vs n')) h' := I0.grow (hsW.trans (Fz.sub_put hlst.2.2.1)) (fun b o e => I'.base b o (fun q => nomatch q) e) (fun b o e => by
        unfold Fz.put at e
        split at e
        · rename_i q; subst q; cases e; exact hlst.1
        · exact I'.keep b o e) hnew
      obtain ⟨m, hm, _⟩ := I'.vars
      obtain ⟨oC, es, ep, hoC, _⟩ := id hm
      have hoC : h'.get? (h1.objs.size + 1) = some oC := hoC
      have hh : Inv (c.hides [(h1.objs.size + 1, oC)]) F (W'.put h1.objs.size (dicO vs n')) h' := Io.hide hoC (by have := ltN I0.L_lt; exact neA (by omega)) (by
          unfold Fz.put
          rw [if_neg (show ¬ _ from neA (by omega))]
          exact I'.wL) (fun q => by have := ltN (I0.ads_lt _ q); omega) (by have := I0.size; omega) (fun q => by
          obtain ⟨p, hp, e⟩ := List.mem_map.mp q
          have := ltN (Heap.lt_size (I0.hid p hp).1)
          rw [e] at this; omega)
      exact hRR _ _ _ h' tk' _ (hs0.trans (hsW.trans (Fz.sub_put hlst.2.2.1))) hh ⟨m, hm⟩ (.dic (Fz.put_self ..) (hr'.mono (Fz.sub_put hlst.2.2.1)) ⟨hnd', by have := ltN I1.big; exact beq_eq_false_iff_ne.mpr (neA (.inr (by show 1 < _; omega)))⟩)
  have e2 : ∀ tk2, codeAny (model prog c.w) c.A (.compStart (.DictComp kx vx [⟨.Name x px, iter, [t], 0⟩] scope pos) 0 (.ref It) (.ref h1.objs.size) ci.env) (RR (.ref h1.objs.size) (h1.objs.size + 1)) (St c.s₀ h2 tk2) := fun tk2 =>
    codeAny_compStart_dict (main tk2) (D.self (ci.hides [(h1.objs.size, dicO #[] 0)]) os ⟨[], []⟩ W0 h2 tk2 _ _ rfl st Ii (Sub.refl _) (main tk2))
  have e3 := e2 (tk1 + ([] : List (Str × Value)).length)
  have e4 : (St c.s₀ (h1.push (dicO #[] 0)) tk1).heap.objs.size = h1.objs.size + 1 := hC
  rw [e4]
  exact e3
theorem swaps_dcomp {c : Cx} {x : Str} {kx vx : Expr} {gens : List Comprehension} {scope sc : Scope} {pos pos' : Pos} {l : Nat} (hs : c.env.scope = sc) (hx : sc.names.lookup x = some .local) (hl : pos'.line = pos.line) (hn : (scope.names.any fun p => p.1 == x && (p.2 == .local || p.2 == .cell)) = false) :
    swapsWith (.DictComp kx vx gens scope pos) (some (.Name x pos')) l c.env = Pure.pure true := by
  have h1 := kindOf_of hs hx
  have hbk : c.env.blockKind = .function := by unfold Env.blockKind; rw [c.hk]; rfl
  show (Pure.pure (c.env.blockKind == .function && c.env.kindOf x == some .local && pos'.line == pos.line && !(scope.names.any fun p => p.1 == x && (p.2 == .local || p.2 == .cell))) : Sem Bool) = Pure.pure true
  rw [hbk, h1, hl, hn]
  simp
theorem Ex.assignDComp {c : Cx} {F : Frame} {x y : Str} {kx vx t iter : Expr} {px : Pos} {scope : Scope} {pos pos' spos : Pos} {ds : List Dt} {cl : List (Str × Addr)} {b : Nat → Bool} {ks : Nat → Int} {vd : Nat → Dt} {P : Fl → Frame → Prop} {sc : Scope} (hsc : c.env.scope = sc) (hx : sc.names.lookup y = some .local)
    (hit : Its c F (.Name x px) iter ds) (helt : ∀ ci W h, CompIn c ci scope cl F W h → ∀ (i : Nat) (d : Dt), ds[i]? = some d → ∃ F2, As ci ⟨[], []⟩ (.Name x px) d F2 ∧ F2.own = [] ∧ Te ci F2 t (b i) ∧ (b i = true → Ev ci F2 kx (.int (ks i)) ∧ Ev ci F2 vx (vd i))) (hsz : ds.length ≤ 100000)
    (hp : P .next (F.set y (.dic (dcf b ks vd ds.length))))
    (hclos : closureFor scope c.env = Pure.pure cl) (hl : pos'.line = pos.line := by rfl) (hn : (scope.names.any fun p => p.1 == y && (p.2 == .local || p.2 == .cell)) = false := by decide)
    (hkind : scope.kind = .function := by rfl) (hcell : ∀ x ∈ scope.names, x.2 ≠ .cell := by decide)
    (hnames : ∀ x ∈ scope.names, x.2 = .local → scope.names.lookup x.1 = some .local := by decide)
    (hs : ∀ x, foldedSetIterable iter c.env x = Pure.pure x := by intro _; rfl) : Ex c F (.Assign [.Name y pos'] (.DictComp kx vx [⟨.Name x px, iter, [t], 0⟩] scope pos) spos) P := fun W₁ W h tk Q E hW I hQ => by
  rw [exec_Assign_Name_used _ _ _ _ (swaps_dcomp hsc hx hl hn)]
  refine wpAny_bind (wpAny_standAt (wpAny_bind ?_))
  show wpAny _ _ (do let _ ← comprehension (.DictComp kx vx [⟨.Name x px, iter, [t], 0⟩] scope pos) scope c.env _ newDict false (eval iter c.env) (some (PySem.assign (.Name y pos') c.env))) _ _ _
  refine wpAny_bind (wpAny_mono (wpAny_comprehension_free (use := some (PySem.assign (.Name y pos') c.env)) (Q := fun _ s' => Q .next s') rfl hs hclos hkind hnames ?_) (fun _ s' hq => wpAny_pure (wpAny_pure hq)) fun _ _ e => e)
  refine dcomp_core I hit hkind hcell helt hsz fun acc C oC h' tk' W' hsW I' hm r => ?_
  obtain ⟨m, hm⟩ := hm
  have hC := I'.hid (C, oC) (.head _)
  refine (As.name (c := c.hides [(C, oC)]) (F := F) (x := y) (pos := pos') (d := .dic (dcf b ks vd ds.length)) hsc hx) W' acc r W' h' tk' _ _ (Sub.refl _) I' fun _ W2 h2 tk2 F2 I2 hs2 e => ?_
  subst e
  have hC2 := I2.hid (C, oC) (.head _)
  have hm2 : h2.Ns C m := hm.at' fun o e => by rw [hC.1] at e; cases e; exact hC2.1
  exact ⟨m, hm2, fun h'' hs'' => hQ .next W2 h'' tk2 _ (Ns_gone I2 hs'') (hsW.trans hs2) ⟨.next, trivial, hp⟩⟩
end
end
section
open PySem PySem.W PySem.Calls PyProof.Rows PySem.Spec
set_option Elab.async false
set_option maxRecDepth 100000
set_option maxHeartbeats 4000000
set_option linter.unusedVariables false
set_option linter.unusedSimpArgs false
section
section
variable {c : Cx} {F : Frame} {W W₁ : Fz} {h : Heap}
theorem Ev.cell {x : Str} {pos : Pos} {sc : Scope} {a b : Addr} {vars : List (Str × Dt)} {pre post : List Ow} {d : Dt} (hs : c.env.scope = sc) (hx : sc.names.lookup x = some .cell) (hc : c.env.cells.lookup x = some a) (hd : (x == ("__debug__" : Str)) = false := by decide) :
    Ev c ⟨vars, pre ++ ⟨a, b, .cell (some d)⟩ :: post⟩ (.Name x pos) d := fun W₁ => by
  refine Go.of_eq (eval_Name _ _ _ hd) ?_
  refine Go.at (Go.fresh_val fun W h tk Q E hW I hQ => ?_)
  obtain ⟨v, e, x, rfl, r⟩ := I.own ⟨a, b, .cell (some d)⟩ (List.mem_append_right _ (.head _))
  exact wpAny_loadName_cell (s := St c.s₀ h tk) c.hk (kindOf_of hs hx) hc ⟨_, e, rfl⟩ (hQ x tk r)
theorem Go.storeCell {x : Str} {sc : Scope} {a b : Addr} {vars : List (Str × Dt)} {pre post : List Ow} {d0 : Option Dt} {d : Dt} {v : Value} (hs : c.env.scope = sc) (hx : sc.names.lookup x = some .cell) (hc : c.env.cells.lookup x = some a) (hv : Rep W₁ v d) :
    Go c ⟨vars, pre ++ ⟨a, b, .cell d0⟩ :: post⟩ W₁ (storeName c.env x v) (fun _ _ F' => F' = ⟨vars, pre ++ ⟨a, b, .cell (some d)⟩ :: post⟩) := fun W h tk Q E hW I hQ => by
  have e : ∃ v0, h.get? a = some { cls := .type "cell", data := .cell v0 } := by
    cases d0 with
    | none => obtain ⟨v0, e, _⟩ := I.own ⟨a, b, .cell none⟩ (List.mem_append_right _ (.head _)); exact ⟨v0, e⟩
    | some d0 => obtain ⟨v0, e, _⟩ := I.own ⟨a, b, .cell (some d0)⟩ (List.mem_append_right _ (.head _)); exact ⟨v0, e⟩
  obtain ⟨v0, e⟩ := e
  unfold storeName
  simp only [kindOf_of hs hx, c.hk]
  refine wpAny_bind (wpAny_cellOf hc ?_)
  refine wpAny_bind (wpAny_load (s := St c.s₀ h tk) e ?_)
  refine wpAny_update (s := St c.s₀ h tk) e ?_
  have u1 : (h.update a fun o => { o with data := .cell (some v) }).get? a = some { cls := .type "cell", data := .cell (some v) } := by rw [Heap.get?_update_self _ e rfl]
  have I2 : Inv c ⟨vars, pre ++ ⟨a, b, .cell (some d)⟩ :: post⟩ W (h.update a fun o => { o with data := .cell (some v) }) := I.own_turn (p := ⟨a, b, .cell d0⟩) rfl (fun b' o' hb' e => (Heap.get?_update_ne _ _ _ _ (fun q => hb' (by simp [Ow.ads, q]))).trans e) ⟨some v, u1, v, rfl, hv.mono hW⟩
  exact hQ () W _ tk _ I2 (Sub.refl _) rfl
theorem swaps_cell {x : Str} {sc : Scope} {pos' pos : Pos} {l : Nat} {elt : Expr} {gens : List Comprehension} {scope : Scope} (hs : c.env.scope = sc) (hx : sc.names.lookup x = some .cell) :
    swapsWith (.ListComp elt gens scope pos) (some (.Name x pos')) l c.env = Pure.pure false := by
  have h1 := kindOf_of hs hx
  have hbk : c.env.blockKind = .function := by unfold Env.blockKind; rw [c.hk]; rfl
  show (Pure.pure (c.env.blockKind == .function && c.env.kindOf x == some .local && pos'.line == pos.line && !(scope.names.any fun p => p.1 == x && (p.2 == .local || p.2 == .cell))) : Sem Bool) = Pure.pure false
  rw [hbk, h1]
  rfl
theorem Ex.assignCell {sc : Scope} {x : Str} {value : Expr} {pos' pos : Pos} {a b : Addr} {vars : List (Str × Dt)} {pre post : List Ow} {d0 : Option Dt} {d : Dt} {P : Fl → Frame → Prop} (hs : c.env.scope = sc) (hx : sc.names.lookup x = some .cell) (hc : c.env.cells.lookup x = some a)
    (hv : Ev c ⟨vars, pre ++ ⟨a, b, .cell d0⟩ :: post⟩ value d) (hp : P .next ⟨vars, pre ++ ⟨a, b, .cell (some d)⟩ :: post⟩) (hsw : swapsWith value (some (.Name x pos')) pos.line c.env = Pure.pure false := by rfl) :
    Ex c ⟨vars, pre ++ ⟨a, b, .cell d0⟩ :: post⟩ (.Assign [.Name x pos'] value pos) P := fun W₁ => by
  rw [exec_Assign_Name _ _ _ _ _ hsw]
  refine Go.at (Go.bind (hv _) (isK fun v W hs' r => ?_))
  have hst := Go.storeCell (b := b) (vars := vars) (pre := pre) (post := post) (d0 := d0) hs hx hc r
  refine Go.at (Go.bind (P := fun _ _ F'' => F'' = ⟨vars, pre ++ ⟨a, b, .cell (some d)⟩ :: post⟩) (fun W h tk Q E hW I hQ => wpAny_bindName (hst W h tk Q E hW I hQ)) fun _ W' F'' _ e => ?_)
  subst e
  exact Go.pure fun _ _ => ⟨.next, trivial, hp⟩
theorem CompIn.fre {ci : Cx} {scope : Scope} {cl : List (Str × Addr)} {vars : List (Str × Dt)} {pre post : List Ow} {a b : Addr} {d : Dt} {x : Str} (hci : CompIn c ci scope cl ⟨vars, pre ++ ⟨a, b, .cell (some d)⟩ :: post⟩ W h) (hl : cl.lookup x = some a) : Fre ci x d := by
  obtain ⟨v, e, y, rfl, r⟩ := hci.inv.own ⟨a, b, .cell (some d)⟩ (List.mem_append_right _ (.head _))
  exact ⟨a, y, by rw [hci.cells]; exact hl, by rw [hci.heap]; exact e, by rw [hci.bor]; exact List.not_mem_nil, by rw [hci.W₀]; exact r⟩
theorem Ev.dict0 {pos : Pos} : Ev c F (.Dict [] [] pos) (.dic []) := fun W₁ W h tk Q E hs I hQ =>
  wpAny_Dict_empty (s := St c.s₀ h tk) (hQ _ _ _ tk F (I.push (dicO #[] 0) rfl) (Fz.sub_put I.none_size) ⟨rfl, .dic (Fz.put_self ..) .nil ⟨List.nodup_nil, by
    have : 333 < h.objs.size := I.big
    exact beq_eq_false_iff_ne.mpr (neA (.inr (by show 1 < h.objs.size; omega)))⟩⟩)
theorem reps_ints {W : Fz} {vs : List Value} {l : List Int} (r : Reps W vs (dints l)) : IntsAre vs l := by
  induction l generalizing vs with
  | nil => obtain rfl := r.inv; exact .nil
  | cons i l ih =>
    obtain ⟨v, vs, rfl, r, rs⟩ := Reps.cons_inv r
    obtain ⟨t, rfl⟩ := Rep.int_inv r
    exact .cons i t (ih rs)
end
theorem Cal.sum {w n} (l : List Int) : Cal w (.builtin "sum") n [.lst (dints l)] (.int l.sum) := fun c F W₁ vs _ _ r => by
  (replace r := Reps.cons_inv r; obtain ⟨_, _, rfl, r, rs⟩ := r)
  cases rs
  obtain ⟨a, vs, nn, rfl, e, r⟩ := Rep.lst_inv r
  refine Go.grown fun W h tk Q E hs I hQ => ?_
  have hi := reps_ints r
  have hl : (St c.s₀ h tk).heap.IsList a vs := ⟨_, I.keep _ _ (hs _ _ e), rfl, nn, rfl⟩
  obtain ⟨xs, hx⟩ := hi.allInts.items
  have hl' : (St c.s₀ h tk).heap.IsList a (intItems xs) := by rw [← hx]; exact hl
  refine wpAny_with_toks (n := 1) (show 1 ≤ tk + 1 from Nat.le_add_left 1 tk) (sum_intListG (s := St c.s₀ h tk) c.hh hl' fun h' tk' t' hk => ?_)
  intro htk
  obtain ⟨tk', rfl⟩ : ∃ k, tk' = k + 1 := ⟨tk' - 1, (Nat.sub_add_cancel (show 1 ≤ tk' from htk)).symm⟩
  have e1 : l = xs.toList.map (·.1) := by
    rw [← nums_intItems, ← hx]
    exact (show numsOf vs.toList.toArray.toList = l from hi.numsOf).symm
  have e2 : preSum (numAt xs) xs.size = l.sum := by
    rw [preSum_eq, List.take_of_length_le (by simp), e1]
  rw [e2]
  exact hQ _ h' tk' hk (.int _ _)
theorem Cal.min_dict {w n} (kvs : List (Int × Dt)) (m : Int) (hm : m ∈ kvs.map Prod.fst) (hle : ∀ k ∈ kvs.map Prod.fst, m ≤ k) : Cal w (.builtin "min") n [.dic kvs] (.int m) := fun c F W₁ vs _ _ r => by
  (replace r := Reps.cons_inv r; obtain ⟨_, _, rfl, r, rs⟩ := r)
  cases rs
  refine Go.grown fun W h tk Q E hs I hQ => ?_
  obtain ⟨a, es, nn, rfl, e, r, nd⟩ := Rep.dic_inv r
  obtain ⟨l, g1, g2⟩ := dictOf_out c.w (I.keep _ _ (hs _ _ e)) (r.mono hs) nd.1
  have g2' : (St c.s₀ h tk).heap.DictOf (iK c.w) a l := g2
  obtain ⟨ep, gat⟩ := g2'.dictAt
  have keys := g1.keys
  have hlen : 0 < l.length := by
    rw [← List.length_map (f := Prod.fst), keys]
    exact List.length_pos_of_mem hm
  refine wpAny_with_toks (n := 1) (show 1 ≤ tk + 1 from Nat.le_add_left 1 tk) (call_min_walk (s := St c.s₀ h tk) (wpAny_pyIter_dict nd.2 gat ?_))
  have hlt : a < h.objs.size := Heap.lt_size (I.keep _ _ (hs _ _ e))
  refine ⟨_, _, _, _, _, _, _, rfl, Walks.dictKeys (A := c.A.in1) c.hh h.objs.size a (Nat.ne_of_lt hlt) l ep, ⟨⟨_, Heap.get?_push_size _ rfl, rfl, rfl⟩, gat.at' fun o e => Heap.get?_push_of_some _ e⟩, fun b hb => ?_, hlen, CmpOf.ints_lt (fun i => (l.map Prod.fst).getD i 0) (fun j v hv => ?_), fun v h' tk' hP hk => ?_⟩
  · show b < (h.push _).objs.size
    rw [Heap.size_push]
    simp only [List.mem_cons, List.not_mem_nil, or_false] at hb
    rcases hb with rfl | rfl
    · exact Nat.lt_succ_self _
    · exact Nat.lt_succ_of_lt hlt
  · obtain ⟨k, x, hj, hv⟩ := hv
    obtain ⟨t, rfl⟩ := Value.isInt_shape hv
    exact ⟨t, by rw [List.getD_eq_getElem?_getD, List.getElem?_map, hj]; rfl⟩
  · intro htk
    obtain ⟨tk', rfl⟩ : ∃ k, tk' = k + 1 := ⟨tk' - 1, (Nat.sub_add_cancel (show 1 ≤ tk' from htk)).symm⟩
    obtain ⟨k, x, hj, hv⟩ := hP
    obtain ⟨t, rfl⟩ := Value.isInt_shape hv
    have hb := argBest_lt (fun i => (l.map Prod.fst).getD i 0) (l.length - 1)
    generalize argBest (fun i j => decide ((l.map Prod.fst).getD i 0 < (l.map Prod.fst).getD j 0)) (l.length - 1) = bi at hb hj
    have hk0 : (l.map Prod.fst)[bi]? = some k := by rw [List.getElem?_map, hj]; rfl
    have hk1 : (l.map Prod.fst).getD bi 0 = k := by rw [List.getD_eq_getElem?_getD, hk0]; rfl
    obtain ⟨j, hj2, hjm⟩ := List.getElem_of_mem (keys ▸ hm : m ∈ l.map Prod.fst)
    have h1 := hb.2 j (by rw [List.length_map] at hj2; omega)
    rw [hk1, List.getD_eq_getElem?_getD, List.getElem?_eq_getElem hj2, Option.getD_some, hjm] at h1
    have h2 := hle k (by rw [← keys]; exact List.mem_of_getElem? hk0)
    have : k = m := by omega
    subst this
    exact hQ _ h' tk' (fun b o e => hk b o (fun q => by
      rw [List.mem_singleton] at q
      exact absurd (Heap.lt_size e) (by rw [q]; exact Nat.lt_irrefl _)) (Heap.get?_push_of_some _ e)) (.int _ _)
end
end
section
open PySem PySem.W PySem.Calls PyProof.Rows PySem.Spec
set_option Elab.async false
set_option maxRecDepth 100000
set_option maxHeartbeats 8000000
set_option linter.unusedVariables false
set_option linter.unusedSimpArgs false
section
noncomputable abbrev Tk (ns : List Str) (i : Nat) : Str → Bool := fun x => (ns.take i).any (· == x)
theorem Tk_succ {ns : List Str} {i : Nat} {x : Str} (h : ns[i]? = some x) (k : Str) : (Tk ns i k || decide (k = x)) = Tk ns (i + 1) k := by
  show _ = (ns.take (i + 1)).any (· == k)
  rw [List.take_add_one, h, List.any_append]
  show (_ || _) = (_ || ((x == k) || false))
  rw [Bool.or_false]
  congr 1
  by_cases e : k = x
  · subst e; simp
  · have e' : ¬ x = k := fun q => e q.symm
    simp [e, e']
theorem Tk_not {ns : List Str} {i : Nat} {x : Str} (hn : ns.Nodup) (h : ns[i]? = some x) : Tk ns i x = false := by
  rw [Bool.eq_false_iff]
  intro q
  obtain ⟨y, hy, e⟩ := List.any_eq_true.mp q
  have e : y = x := by simpa using e
  subst e
  obtain ⟨hi, hx⟩ := List.getElem?_eq_some_iff.mp h
  obtain ⟨j, hj, hj2⟩ := List.getElem_of_mem hy
  rw [List.length_take] at hj
  rw [List.getElem_take] at hj2
  have := (List.getElem_inj (h₀ := by omega) (h₁ := hi) hn).mp (hj2.trans hx.symm)
  omega
section
variable {prog : Program} {w : World} {A : Around} {R : Result → Shared → Prop} {I : Addr} {fp wr : List Addr} {G : Array GenState → Array GenState → Prop} {n : Nat} {P : Nat → Value → Prop} {St : Nat → Shared → Prop}
theorem strs_into_set (W : WalksS prog w A.in1 I fp wr G n P St) (S : Addr) (hSf : S ∉ fp) (ns : List Str) (hnd : ns.Nodup) (hval : ∀ i v, P i v → ∃ x t, ns[i]? = some x ∧ v = .str x t) (hb : n + 1 < scanBound) :
    ∀ (k i : Nat) (s : Shared), n - i = k → i ≤ n → St i s → s.heap.SetOf (strKind prog w) S (Tk ns i) i →
      (∀ s', Moved (S :: wr) G s s' → s'.heap.SetOf (strKind prog w) S (Tk ns n) n → R (.ok (.ret .none)) s') → codeAny (model prog w) A (.builtin "set.update.loop" ⟨[.ref S, .ref I], []⟩) R s := by
  have hSw : S ∉ wr := fun h => hSf (W.sub _ h)
  have hsub : ∀ b ∈ wr, b ∈ S :: wr := fun b hb => List.mem_cons_of_mem _ hb
  have kept : ∀ {s s' : Shared} {i : Nat}, Moved wr G s s' → s.heap.SetOf (strKind prog w) S (Tk ns i) i → s'.heap.SetOf (strKind prog w) S (Tk ns i) i := fun hm hS => by
    obtain ⟨o, es, ep, tb, ho, rest⟩ := hS
    exact ⟨o, es, ep, tb, hm.heap S _ hSw ho, rest⟩
  intro k
  induction k with
  | zero =>
    intro i s hk hi hst hS hR
    obtain rfl : i = n := by omega
    refine codeAny_builtin PyProof.Rows.F.entry_set_update_loop ?_
    rw [Around.under_plainId PyProof.Rows.F.plain_set_update_loop _]
    show wpAny _ A.in1 (pyNext (.ref I) >>= _) _ _ s
    refine wpAny_bind (W.done s _ _ hst fun s' hm => ?_)
    exact wpAny_pure (hR s' (hm.mono hsub) (kept hm hS))
  | succ k ih =>
    intro i s hk hi hst hS hR
    have hlt : i < n := by omega
    refine codeAny_builtin PyProof.Rows.F.entry_set_update_loop ?_
    rw [Around.under_plainId PyProof.Rows.F.plain_set_update_loop _]
    show wpAny _ A.in1 (pyNext (.ref I) >>= _) _ _ s
    refine wpAny_bind (W.item i s _ _ hlt hst fun v s' hP hst' hm => ?_)
    obtain ⟨x, t, hx, rfl⟩ := hval i v hP
    have hS' := kept hm hS
    refine wpAny_bind (wpAny_holding ?_)
    refine wpAny_holding ?_
    refine wpAny_bind ((strKind prog w).pyHash (k := x) (strKind_is _ _ _ _) ?_)
    refine wpAny_setAddHashed_of (knd := strKind prog w) (s := { s' with toks := s'.toks + 1 }) (strKind_is _ _ _ _) rfl hS' (by omega) fun h' hsb hS2 => ?_
    have hSi : h'.SetOf (strKind prog w) S (Tk ns (i + 1)) (i + 1) := SetOf_congr hS2 (fun k' => Tk_succ hx k') (by rw [Tk_not hnd hx]; rfl)
    refine wpAny_pure ⟨plainId_quiet PyProof.Rows.F.plain_set_update_loop _, ih (i + 1) _ (by omega) hlt (W.frame _ s' _ _ hst' (Nat.le_succ _) fun b hb o e => ?_) hSi fun s'' hm'' hS'' => ?_⟩
    · rw [hsb.2 b (fun h : b = S => hSf (by rw [← h]; exact hb))]; exact e
    · refine hR s'' (Moved.trans W.gtrans ((hm.mono hsub).then_heap (Nat.le_succ _) fun b o hb e => ?_) hm'') hS''
      rw [hsb.2 b (fun h : b = S => hb (by rw [h]; exact List.mem_cons_self))]; exact e
end
end
end
section
open PySem PySem.W PySem.Calls PyProof.Rows PySem.Spec
set_option Elab.async false
set_option maxRecDepth 100000
set_option maxHeartbeats 8000000
set_option linter.unusedVariables false
set_option linter.unusedSimpArgs false
section
noncomputable abbrev setO (led : Bool) : Obj := { cls := .type "set", dict := none, data := .set #[] 0 (.fresh 0 0 led) }
section
variable {prog : Program} {w : World} {A : Around} {E : Value → Shared → Prop} {s : Shared}
theorem set_of_strs {l : Addr} {items : Array Value} {nl : Nat} {ns : List Str} {Q : Value → Shared → Prop} (hh : A.handled = none) (hl : s.heap.get? l = some (lstO items nl)) (hi : ∀ (i : Nat) (v : Value), items[i]? = some v → ∃ x t, ns[i]? = some x ∧ v = .str x t) (hnd : ns.Nodup) (hb : items.size + 1 < scanBound)
    (h : ∀ (h' : Heap) (tk : Nat), h'.SetOf (strKind prog w) s.heap.objs.size (Tk ns items.size) items.size → (∀ b o, s.heap.get? b = some o → h'.get? b = some o) → Q (.ref s.heap.objs.size) { s with heap := h', toks := tk }) :
    wpAny (model prog w) A (call (.type "set") [.ref l]) Q E s := by
  obtain ⟨c, tl, hmro⟩ := PySem.F.called_set.mro
  have hmade := PySem.F.called_set.made
  have hsub := PySem.F.called_set.sub
  refine wpAny_call (codeAny_of_tree ?_)
  show wpAny _ _ (callAny (.type "set") _) _ _ _
  refine wpAny_pure ⟨Code.quiet_builtin _ (by decide +kernel), codeAny_builtin PySem.F.entry_type_call ?_⟩
  rw [Around.under_plain (weight_type_call_type "set" [.ref l] []) rfl]
  have h1 := PySem.F.called_set.notType
  have h2 := PySem.F.called_set.canCreate
  have hct := PySem.F.typeCall_set_1 (.ref l)
  repeat (any_goals (first | assumption | wp_step))
  refine codeAny_mono (code_set_new_1 (.ref l) (E := E) (Q₁ := fun obj s₁ => ∃ led : Bool, obj = .ref s.heap.objs.size ∧ s₁ = { s with heap := s.heap.push (setO led) }) fun led => ⟨led, rfl, rfl⟩) fun r s₁ hr => ?_
  rcases r with e | (v | _ | _ | _) <;> first | exact hr | exact hr.elim | skip
  obtain ⟨led, rfl, rfl⟩ := hr
  have hS : (s.heap.push (setO led)).get? s.heap.objs.size = some (setO led) := Heap.get?_push_size _ rfl
  have hT : Shared.TypeIs { s with heap := s.heap.push (setO led) } (.ref s.heap.objs.size) "set" := ⟨_, hS, rfl⟩
  have hli := PySem.F.called_set.init.lookup
  have hbi := PySem.F.called_set.init.bind (.ref s.heap.objs.size)
  repeat (any_goals (first | assumption | wp_step))
  refine codeAny_mono (codeAny_call_builtin (R := wants (fun r s₂ => r = .none ∧ ∃ h' tk, s₂ = { s with heap := h', toks := tk } ∧ h'.SetOf (strKind prog w) s.heap.objs.size (Tk ns items.size) items.size ∧
      (∀ b o, s.heap.get? b = some o → h'.get? b = some o)) E) PySem.F.called_set.init.plain PySem.F.entry_set_init (check_set_init_1 hT ?_)) fun r₂ s₂ hr₂ => ?_
  · have hl' : (s.heap.push (setO led)).get? l = some { cls := .type "list", dict := none, data := .seq items nl, slots := #[] } := Heap.get?_push_of_some _ hl
    have hsls := PySem.F.sub_list_set
    have hslf := PySem.F.sub_list_frozenset
    have hne : (Value.type "list" == Value.type "dict") = false := by decide
    have hl1 : (s.heap.push (setO led)).IsList l items := ⟨_, hl', rfl, nl, rfl⟩
    unfold Builtin.«set.__init__» noKeywords Builtin.Frozenset.updateFrom
    generalize hPI : pyIter = PI
    wp_walk
    subst hPI
    refine wpAny_pyIter_list hl1 ?_
    refine wpAny_bind (wpAny_runValue ?_)
    have hlS : l < s.heap.objs.size := Heap.lt_size hl
    have hh3 : A.in1.in1.in1.handled = none := by simp [hh]
    have size1 : (s.heap.push (setO led)).objs.size = s.heap.objs.size + 1 := Heap.size_push ..
    have hneI : l ≠ (s.heap.push (setO led)).objs.size := by rw [size1]; exact Nat.ne_of_lt (Nat.lt_succ_of_lt hlS)
    have hSf : s.heap.objs.size ∉ [(s.heap.push (setO led)).objs.size, l] := by
      rw [size1]; simp only [List.mem_cons, List.not_mem_nil, or_false, not_or]
      exact ⟨Nat.ne_of_lt (Nat.lt_succ_self _), Nat.ne_of_gt hlS⟩
    refine strs_into_set ((Walks.list hh3 _ l hneI items).toS) s.heap.objs.size hSf ns hnd (fun i v hv => hi i v hv) hb (items.size - 0) 0 _ (by omega) (Nat.zero_le _) ⟨⟨_, Heap.get?_push_size _ rfl, rfl, rfl⟩, (hl1.push _)⟩ ?hS0 ?hR
    case hS0 =>
      have hget : ((s.heap.push (setO led)).push { cls := .type "list_iterator", data := .fields #[.ref l, .int 0 0] }).get? s.heap.objs.size = some (setO led) := Heap.get?_push_of_some _ hS
      exact SetOf_congr ((setObjOf_fresh (knd := strKind prog w) led).setOf hget (by unfold scanBound; omega)) (fun _ => rfl) rfl
    case hR =>
      intro s' hm hS'
      obtain ⟨h', g', d', tk', os'⟩ := s'
      have eg : g' = s.gens := hm.gens
      have ed : d' = s.drawn := hm.drawn
      have eo : os' = s.os := hm.os
      subst eg; subst ed; subst eo
      show wpAny _ _ _ _ _ _
      refine wpAny_pure ?_
      show wpAny _ _ (ret Value.none) _ _ _
      refine wpAny_pure ⟨rfl, h', tk', rfl, hS', fun b o e => ?_⟩
      have hb0 := Heap.lt_size e
      have hb1 : b ≠ s.heap.objs.size := Nat.ne_of_lt hb0
      have hb2 : b ≠ (s.heap.push (setO led)).objs.size := by rw [size1]; exact Nat.ne_of_lt (Nat.lt_succ_of_lt hb0)
      exact hm.heap b o (by simp only [List.mem_cons, List.not_mem_nil, or_false, not_or]; exact ⟨hb1, hb2⟩) (Heap.get?_push_of_some _ (Heap.get?_push_of_some _ e))
  · rcases r₂ with e | (v | _ | _ | _) <;> first | exact hr₂ | exact hr₂.elim | skip
    obtain ⟨rfl, h', tk, rfl, hS', hk'⟩ := hr₂
    repeat (any_goals (first | assumption | wp_step))
    exact h _ _ hS' hk'
end
section
variable {c : Cx} {F : Frame} {W₁ : Fz}
theorem Go.evalArgsW {f : Value} {args : List (Bool × Sem Value)} {R : List Value → Fz → Prop} (hst : args.any (·.1) = false) (hc : ∃ x r, args = (false, x) :: r) (hR : ∀ vs W W', Sub W W' → R vs W → R vs W') (h : Go c F W₁ (spliced args) (fun vs W F' => F' = F ∧ R vs W)) :
    Go c F W₁ (PySem.evalArgs f true args []) (fun a W F' => F' = F ∧ a.kw = [] ∧ R a.pos W) := by
  obtain ⟨x, rest, rfl⟩ := hc
  unfold PySem.evalArgs
  show Go c F W₁ (spliced ((false, x) :: rest) >>= _) _
  refine Go.bind h (isK fun vs W hs r => ?_)
  refine Go.bind (P := fun a W' F'' => F'' = F ∧ a = (vs, none)) (Go.pure fun _ _ => ⟨rfl, rfl⟩) (isK fun a W' hs' e => ?_)
  obtain rfl := e
  refine Go.holding ?_
  refine Go.bind (P := fun a W' F'' => F'' = F ∧ a = []) (Go.pure fun _ _ => ⟨rfl, rfl⟩) (isK fun a W2 hs2 e => ?_)
  obtain rfl := e
  refine Go.bind (P := fun a W' F'' => F'' = F ∧ a = vs) (Go.pure fun _ _ => ⟨rfl, rfl⟩) (isK fun a W4 hs4 e => ?_)
  obtain rfl := e
  exact Go.pure fun W'' hs'' => ⟨rfl, rfl, hR _ _ _ (((hs'.trans hs2).trans hs4).trans hs'') r⟩
theorem Ev.callW {id : Str} {p pos : Pos} {e : Expr} {f : Value} {R : Value → Fz → Prop} {P : Value → Fz → Frame → Prop} (hf : Ev c F (.Name id p) (.val f)) (hK : Kept c.w f) (hR : ∀ v W W', Sub W W' → R v W → R v W') (he : ∀ W₁, Go c F W₁ (eval e c.env) (fun v W F' => F' = F ∧ R v W))
    (hc : ∀ W v, R v W → Go c F W (PySem.call f [v]) P) (hst : (backTo pos (starEach [e] c.env)).any (·.1) = false := by rfl) (hse : starEach [e] c.env = [(false, eval e c.env)] := by rfl) : Go c F W₁ (eval (.Call (.Name id p) [e] [] pos) c.env) P := by
  show Go c F W₁ (do PySem.callWith pos (← eval (.Name id p) c.env) [] (backTo pos (starEach [e] c.env)) []) _
  refine Go.bind (hf _) (isK fun v W hs r => ?_)
  cases r
  intro W1 hp tk Q E hs I hQ
  refine callWith_of (P := fun h => (Mine.hd.heap_1 c.w.params).In h) (by rw [hst]; rfl) (fun h X => hK _ h X) ?_
  have hsp : Go c F W (spliced (backTo pos (starEach [e] c.env))) (fun vs W' F'' => F'' = F ∧ ∃ u, vs = [u] ∧ R u W') := by
    rw [hse]
    show Go c F W (spliced [(false, eval e c.env)]) _
    rw [spliced]
    refine Go.bind (he _) (isK fun u W2 hs2 r => ?_)
    show Go c F W2 ((Pure.pure [u] : Sem (List Value)) >>= _) _
    refine Go.bind (P := fun a _ F'' => F'' = F ∧ a = [u]) (Go.pure fun _ _ => ⟨rfl, rfl⟩) (isK fun here W3 hs3 r2 => ?_)
    obtain rfl := r2
    refine Go.bind (P := fun a _ F'' => F'' = F ∧ a = []) (Go.holding (Go.pure fun _ _ => ⟨rfl, rfl⟩)) (isK fun a W4 hs4 e => ?_)
    obtain rfl := e
    exact Go.pure fun W5 hs5 => ⟨rfl, u, rfl, hR _ _ _ ((hs3.trans hs4).trans hs5) r⟩
  refine Go.evalArgsW (R := fun vs W => ∃ u, vs = [u] ∧ R u W) hst ⟨_, _, by rw [hse]; rfl⟩ (fun vs W W' hs ⟨u, e, r⟩ => ⟨u, e, hR _ _ _ hs r⟩) hsp W1 hp tk _ E hs I fun a W' h' tk' F'' I' hs' r => ?_
  obtain ⟨rfl, hkw, u, hpos, r⟩ := r
  obtain ⟨_, _, _, _, _, X, _⟩ := I'.wd.at I'.keep
  refine ⟨X, ?_⟩
  rw [hkw, hpos]
  exact hc W' u r W' h' tk' Q E (Sub.refl _) I' fun v W2 h2 tk2 F2 I2 hs2 hP => hQ v W2 h2 tk2 F2 I2 (hs'.trans hs2) hP
noncomputable def IsSet (n : Nat) (v : Value) (W : Fz) : Prop := ∃ a o es ep t, v = .ref a ∧ W a = some o ∧ o.ExactSet ∧ o.data = .set es ep t ∧ t.fits es.size = true ∧ es.size = n ∧ n < 4096
theorem reps_strs_at {W : Fz} {vs : List Value} {ns : List Str} (r : Reps W vs (ns.map Dt.str)) (i : Nat) (v : Value) (e : vs[i]? = some v) : ∃ x t, ns[i]? = some x ∧ v = .str x t := by
  obtain ⟨d, h, r⟩ := r.get e
  rw [List.getElem?_map] at h
  cases q : ns[i]? with
  | none => rw [q] at h; cases h
  | some x =>
    rw [q] at h; cases h
    obtain ⟨t, rfl⟩ := Rep.str_inv r
    exact ⟨x, t, rfl, rfl⟩
theorem Ev.setStrs {id : Str} {p pos : Pos} {e : Expr} {ns : List Str} (hf : Ev c F (.Name id p) (.val (.type "set"))) (he : Ev c F e (.lst (ns.map Dt.str))) (hnd : ns.Nodup) (hb : ns.length ≤ 1000) (hst : (backTo pos (starEach [e] c.env)).any (·.1) = false := by rfl) (hse : starEach [e] c.env = [(false, eval e c.env)] := by rfl) :
    ∀ W₁, Go c F W₁ (eval (.Call (.Name id p) [e] [] pos) c.env) (fun v W F' => F' = F ∧ IsSet ns.length v W) := fun W₁ => by
  refine Ev.callW (R := fun v W => Rep W v (.lst (ns.map Dt.str))) hf (Kept.type _ _) (fun v W W' hs r => r.mono hs) he (fun W v r => ?_) hst hse
  intro W2 hp tk Q E hs I hQ
  obtain ⟨a, vs, nn, rfl, e, r⟩ := Rep.lst_inv (r.mono hs)
  have hl : vs.size = ns.length := by rw [← Array.length_toList, r.length, List.length_map]
  refine wpAny_with_toks (n := 1) (show 1 ≤ tk + 1 from Nat.le_add_left 1 tk) (set_of_strs (s := St c.s₀ hp tk) (ns := ns) c.hh (I.keep _ _ e) (fun i v hv => reps_strs_at r i v (by rw [Array.getElem?_toList]; exact hv)) hnd (by rw [hl]; unfold scanBound; omega) fun h' tk' hS hk => ?_)
  intro htk
  obtain ⟨tk', rfl⟩ : ∃ k, tk' = k + 1 := ⟨tk' - 1, (Nat.sub_add_cancel (show 1 ≤ tk' from htk)).symm⟩
  obtain ⟨o, es, ep, t, ho, hex, hd, _, _, _, hfit, hn⟩ := hS
  have ho : h'.get? hp.objs.size = some o := ho
  have I2 : Inv c F (W2.put hp.objs.size o) h' := I.grow (Fz.sub_put I.none_size) hk (fun b x e => by
    unfold Fz.put at e; split at e
    · rename_i q; subst q; cases e; exact ho
    · exact hk _ _ (I.keep b x e)) (fun b x e => by
    unfold Fz.put at e; split at e
    · rename_i q; exact .inr (Nat.le_of_eq q.symm)
    · exact .inl e)
  exact hQ _ _ h' tk' F I2 (Fz.sub_put I.none_size) ⟨rfl, _, o, es, ep, t, rfl, Fz.put_self .., hex, hd, hfit, hn.trans hl, by omega⟩
theorem Ev.lenSet {id id2 : Str} {p p2 pos pos2 : Pos} {e : Expr} {ns : List Str} (hf : Ev c F (.Name id p) (.val (.builtin "len"))) (hf2 : Ev c F (.Name id2 p2) (.val (.type "set"))) (he : Ev c F e (.lst (ns.map Dt.str))) (hnd : ns.Nodup) (hb : ns.length ≤ 1000)
    (hst : (backTo pos2 (starEach [e] c.env)).any (·.1) = false := by rfl) (hse : starEach [e] c.env = [(false, eval e c.env)] := by rfl)
    (hst2 : (backTo pos (starEach [.Call (.Name id2 p2) [e] [] pos2] c.env)).any (·.1) = false := by rfl) (hse2 : starEach [.Call (.Name id2 p2) [e] [] pos2] c.env = [(false, eval (.Call (.Name id2 p2) [e] [] pos2) c.env)] := by rfl) :
    Ev c F (.Call (.Name id p) [.Call (.Name id2 p2) [e] [] pos2] [] pos) (.int (ns.length : Int)) := fun W₁ => by
  refine Ev.callW (R := IsSet ns.length) hf (Kept.builtin _ _) (fun v W W' hs r => by obtain ⟨a, o, es, ep, t, q1, q2, q3⟩ := r; exact ⟨a, o, es, ep, t, q1, hs _ _ q2, q3⟩) (Ev.setStrs hf2 he hnd hb hst hse) (fun W v r => ?_) hst2 hse2
  obtain ⟨a, o, es, ep, t, rfl, q2, q3, q4, q5, q6, q7⟩ := r
  refine Go.fresh_val fun W2 h tk Q E hs I hQ => ?_
  refine call_len_set (s := St c.s₀ h tk) (I.keep _ _ (hs _ _ q2)) q3 q4 q5 (by rw [q6]; omega) ?_
  rw [q6]
  exact hQ _ (tk + 1 + 1) (.int _ _)
end
end
end
section
open PySem PySem.W PySem.Calls PyProof.Rows PySem.Spec
set_option Elab.async false
set_option maxRecDepth 100000
set_option maxHeartbeats 4000000
set_option linter.unusedVariables false
set_option linter.unusedSimpArgs false
section
noncomputable def st5 {α : Type} (l : List α) (k : Nat) : List α := (sliceRange (sliceBounds (some (k : Int)) none (some 5) l.length).1 (sliceBounds (some (k : Int)) none (some 5) l.length).2.1 (sliceBounds (some (k : Int)) none (some 5) l.length).2.2).filterMap (l[·]?)
theorem Reps.picked {W : Fz} {vs : List Value} {ds : List Dt} (r : Reps W vs ds) : ∀ is : List Nat, Reps W (is.filterMap (vs[·]?)) (is.filterMap (ds[·]?))
  | [] => .nil
  | i :: is => by
    have ih := Reps.picked r is
    cases e : ds[i]? with
    | none =>
      have : vs[i]? = none := by
        rw [List.getElem?_eq_none_iff] at e ⊢
        rw [r.length]; exact e
      rw [List.filterMap_cons, List.filterMap_cons, this, e]
      exact ih
    | some d =>
      obtain ⟨v, e2, rv⟩ := r.at e
      rw [List.filterMap_cons, List.filterMap_cons, e2, e]
      exact .cons rv ih
section
variable {c : Cx} {F : Frame}
theorem Ev.slice5 {value e : Expr} {k5 : Nat} {p p5 pos : Pos} {ds : List Dt} {k : Nat} (h1 : Ev c F value (.lst ds)) (h2 : Ev c F e (.int (k : Int))) (hsz : ds.length ≤ 100000) (ht : ∀ o r, letTemporaryGo value o r = Pure.pure () := by intro _ _; rfl) :
    Ev c F (.Subscript value (.Slice (some e) none (some (.Constant (.int 5) k5 p5)) p) pos) (.lst (st5 ds k)) := fun W₁ W hp tk Q E hs I hQ => by
  refine wpAny_Subscript_Slice_step slot_list_getitem.lookup ?_ ht
  refine h1 W W hp tk _ E (Sub.refl _) I (isQ fun o W' g1 tk1 I1 hs1 r1 => ?_)
  refine wpAny_Slice ?_
  refine Pt.some h2 W' W' g1 tk1 _ E (Sub.refl _) I1 (isQ fun vl W2 g2 tk2 I2 hs2 r2 => ?_)
  rw [evalPart_none]
  refine wpAny_pure ?_
  refine Pt.some (Ev.int 5 k5 p5) W2 W2 g2 tk2 _ E (Sub.refl _) I2 (isQ fun v5 W3 g3 tk3 I3 hs3 r3 => ?_)
  have I4 := I3.push { cls := .type "slice", data := .fields #[vl, .none, v5] } rfl
  have r1' := (r1.mono (hs2.trans hs3)).mono (Fz.sub_put I3.none_size (o := { cls := .type "slice", data := .fields #[vl, .none, v5] }))
  refine ⟨TyD.lst _ _ _ r1' (St c.s₀ (g3.push _) tk3) I4.keep, ?_⟩
  obtain ⟨a, vs, n, rfl, e, r⟩ := Rep.lst_inv r1'
  have hl : vs.toList.length = ds.length := r.length
  refine wpAny_getItem_list_slice (s := St c.s₀ (g3.push _) tk3) (items := vs) ⟨_, I4.keep _ _ e, rfl, n, rfl⟩ ⟨_, Heap.get?_push_size _ rfl, rfl, rfl⟩ r2 .none r3 (by simp) ?_ (by rw [← Array.length_toList, hl]; exact Nat.le_trans hsz (by decide))
  refine hQ _ _ _ tk3 F (I4.push (lstO (slicePick vs (some (k : Int)) none (some 5)) 0) rfl) ((((hs1.trans hs2).trans hs3).trans (Fz.sub_put I3.none_size)).trans (Fz.sub_put I4.none_size)) ⟨rfl, .lst (Fz.put_self ..) ?_⟩
  refine Reps.mono (Fz.sub_put I4.none_size) ?_
  unfold slicePick st5
  have e1 : vs.size = ds.length := by rw [← hl, Array.length_toList]
  rw [e1]
  have := r.picked (sliceRange (sliceBounds (some (k : Int)) none (some 5) ds.length).1 (sliceBounds (some (k : Int)) none (some 5) ds.length).2.1 (sliceBounds (some (k : Int)) none (some 5) ds.length).2.2)
  simpa using this
theorem Ev.and2 {x y : Expr} {pos : Pos} {b : Bool} (h1 : Ev c F x (.bool true)) (h2 : Ev c F y (.bool b)) (he : evalEach [x, y] c.env = [eval x c.env, eval y c.env] := by rfl) : Ev c F (.BoolOp .And [x, y] pos) (.bool b) := fun W₁ => by
  rw [arm_eval_BoolOp, he]
  refine Go.bind (h1 _) (isK fun v W hs r => ?_)
  refine Go.at (Go.bind (Go.holding (Tru.bool true c _ _ v r)) (isK fun t W2 hs2 e => ?_))
  obtain rfl := e
  exact h2 W2
end
theorem st5_nats (S : List Nat) (k : Nat) : st5 (natsD S) k = natsD (st5 S k) := by
  unfold st5 natsD
  rw [List.length_map]
  generalize sliceRange _ _ _ = is
  induction is with
  | nil => rfl
  | cons i is ih =>
    rw [List.filterMap_cons, List.filterMap_cons, List.getElem?_map]
    cases S[i]? with
    | none => exact ih
    | some x => exact congrArg (_ :: ·) ih
theorem nats_dints (S : List Nat) : natsD S = dints (S.map fun (n : Nat) => (n : Int)) := by simp [natsD, dints]
theorem nats_sum (S : List Nat) : (S.map fun (n : Nat) => (n : Int)).sum = ((S.sum : Nat) : Int) := by
  induction S with
  | nil => rfl
  | cons x S ih => rw [List.map_cons, List.sum_cons, List.sum_cons, ih]; omega
theorem Cal.sumN {w n} (S : List Nat) : Cal w (.builtin "sum") n [.lst (natsD S)] (.int ((S.sum : Nat) : Int)) := by
  rw [nats_dints, ← nats_sum]; exact Cal.sum _
noncomputable def T.lvn : T → List Nat
  | .leaf _ => [0]
  | .node a _ b => (a.lvn ++ b.lvn).map (· + 1)
theorem lv_lvn : ∀ t : T, t.lv = t.lvn.map fun (n : Nat) => (n : Int)
  | .leaf _ => rfl
  | .node a n b => by
    simp only [T.lv, T.lvn, lv_lvn a, lv_lvn b, List.map_append, List.map_map]
    congr 1
theorem dints_lv (t : T) : dints t.lv = natsD t.lvn := by rw [lv_lvn, nats_dints]
noncomputable def sumXD (dep : List (Int × Int)) : Int := ((dep.map Prod.fst).map fun k => k * gz dep k).sum
end
end
section
open PySem PySem.W PySem.Calls PyProof.Rows PySem.Spec
set_option Elab.async false
set_option maxRecDepth 100000
set_option maxHeartbeats 8000000
set_option linter.unusedVariables false
set_option linter.unusedSimpArgs false
section
noncomputable abbrev lawOwn (aD aC aU : Addr) (D C U : Option Dt) : List Ow := [⟨aD, 0, .cell D⟩, ⟨aC, 0, .cell C⟩, ⟨aU, 0, .cell U⟩]
noncomputable abbrev lawCells (aD aC aU : Addr) : List (Str × Addr) := [(Str.ofString "due", aU), (Str.ofString "counts", aC), (Str.ofString "dealt", aD)]
theorem readNe {c : Cx} {F : Frame} {l r : Expr} {pos : Pos} {x y : Str} (h1 : Ev c F l (.tup [.str x, .int 0])) (h2 : Ev c F r (.tup [.str x, .int 0])) (hm : behindInMarks .NotEq r = false := by rfl) : Te c F (.Compare l [.NotEq] [r] pos) false := by
  have h := Cop.ne_tup (ds1 := [.str x, .int 0]) (ds2 := [.str x, .int 0]) (e := fun _ => true) rfl (fun j d1 d2 e1 e2 => ?_)
  · exact Te.compare h1 h2 h hm
  · rcases j with _ | _ | j
    · cases e1; cases e2
      have := EqD.str (n := 1) x x
      rwa [show sEq x x = true by simp [sEq]] at this
    · cases e1; cases e2
      exact EqD.int (n := 1) 0 0
    · simp at e1
theorem law_c {c : Cx} {fd : FuncData} {body : List Stmt} {oc : Value} {od : Option Addr} {osl : Array (Option Value)} (hK : (KK c.w).lookup 333 = some ⟨oc, od, .func fd, osl⟩) (hbody : fd.body = .stmts body) (hs : c.env.scope = fd.scope) {aD aC aU : Addr} (hcl : c.env.cells = lawCells aD aC aU) (hk : 8 ≤ c.k)
    (S : List Nat) (t : T) (dp L : List (Int × Int)) (A B C D dm : Int) (cd : Option Dt) (dok : t.dok) (hsz : t.sz ≤ 1000) (ht : t.ht ≤ 4) (hlv : ∀ l ∈ t.lvn, l ≤ 4) (hlvn : t.lvn.length ≤ 1000) (hdl : t.dep.length ≤ 1000) (hw16 : t.ways.length = 16) (hdv : ∀ p ∈ t.dep, p.2.natAbs < 2 ^ 60)
    (hm1 : dm ∈ dp.map Prod.fst) (hm2 : ∀ k ∈ dp.map Prod.fst, dm ≤ k) (hnd : (t.ways.map T.txt).Nodup)
    (hread : ∀ x ∈ t.ways, Cal c.w (.ref 328) 2 [.str x.txt] (.tup [.str (ld x.rws), .int 0])) (hs1 : sumV dp = 16) (hs2 : sumV L = 80)
    (hA : A = 16) (hB : B = 80) (hC : C = sumXD t.dep) (hD : D = 80 + 8 * t.lv.sum) (hL : sameD L (tabOf t.lvn)) (hdue : sameD dp t.dep) :
    Tr c ⟨[(Str.ofString "total", statD A B C D L), (Str.ofString "depths", .dic (dI dp)), (Str.ofString "written", .lst (pairs t.ways)), (Str.ofString "tree", t.dt), (Str.ofString "deepest", .int dm)], lawOwn aD aC aU (some (.lst (natsD S))) cd none⟩ (body.drop 13) (fun f _ => f = .ret (.bool true)) := by
  cases hK
  cases hbody
  dsimp only at hs
  have cD : c.env.cells.lookup (Str.ofString "dealt") = some aD := by rw [hcl]; rfl
  have cC : c.env.cells.lookup (Str.ofString "counts") = some aC := by rw [hcl]; rfl
  have cU : c.env.cells.lookup (Str.ofString "due") = some aU := by rw [hcl]; rfl
  dsimp only [List.drop]
  have hpl : (pairs t.ways).length = 16 := by simp [pairs, hw16]
  refine' Tr.cons (Ex.if_ (b := false) (Te.or2 (a := false) (b := false) ?za1 fun _ => ?za2) (fun e => nomatch e) fun _ => Tr.nil ?za3)
  case za1 =>
    have h := Cal.min_dict (w := c.w) (n := 0) (dI dp) dm (by rw [show (dI dp).map Prod.fst = dp.map Prod.fst by simp [dI]]; exact hm1) (by rw [show (dI dp).map Prod.fst = dp.map Prod.fst by simp [dI]]; exact hm2)
    have hne := Cop.ne_int dm dm
    rw [show (dm != dm) = false by simp] at hne
    refine' Te.compare (Ev.call ?zb1 ?zb2 (Evs.cons ?zb3 Evs.nil) h (Nat.zero_le _)) ?zb4 hne
    case zb1 => walk_at "nm"
    case zb2 => walk_at "kept"
    case zb3 => walk_at "ev"
    case zb4 => walk_at "ev"
  case za2 =>
    have hlen : ((t.ways.map T.txt).length : Int) = 16 := by rw [List.length_map, hw16]; rfl
    have hne := Cop.ne_int ((t.ways.map T.txt).length : Int) 16
    rw [show (((t.ways.map T.txt).length : Int) != 16) = false by rw [hlen]; rfl] at hne
    refine' Te.compare (Ev.lenSet (ns := t.ways.map T.txt) ?zb1 ?zb2 (Ev.listComp (cl := []) (ds := pairs t.ways) (Its.of ?zb3 Itv.lst) ⟨?zb4, ?zb5, ?zb6⟩ rfl) hnd (by rw [List.length_map, hw16]; decide)) ?zb7 hne
    case zb1 => walk_at "nm"
    case zb2 => walk_at "nm"
    case zb3 => walk_at "ev"
    case zb4 => simp [pairs]
    case zb5 => rw [hpl]; decide
    case zb6 =>
      intro ci W h hci j d hd
      obtain ⟨z, hz, hzm, rfl⟩ := pairs_at hd
      have hsc := hci.sc
      refine' ⟨_, .str z.txt, As.tuple (Ass.cons (As.name hsc rfl) (Ass.cons (As.name hsc rfl) Ass.nil)), ?zelt1, rfl, by simp [hz]⟩
      case zelt1 => walk_at "ev"
    case zb7 => walk_at "ev"
  case za3 =>
    show Tr _ _ _ _
    have hidx : S.sum % 16 < t.ways.length := by rw [hw16]; exact Nat.mod_lt _ (by decide)
    have hget : (pairs t.ways)[((S.sum % 16 : Nat) : Int).toNat]? = some (t.ways[S.sum % 16]).pair := by
      rw [Int.toNat_natCast]; simp [pairs, List.getElem?_eq_getElem hidx]
    have hmem : t.ways[S.sum % 16] ∈ t.ways := List.getElem_mem hidx
    generalize t.ways[S.sum % 16] = x at hget hmem
    have hrd := hread x hmem
    have hil : S.sum % 16 < 16 := Nat.mod_lt _ (by decide)
    refine' Tr.cons (Ex.assign (d := x.pair) hs rfl (Ev.sub ?zb1 (Ev.binop (Ev.call ?zb2 ?zb3 (Evs.cons (Ev.cell (pre := []) (post := [⟨aC, 0, .cell cd⟩, ⟨aU, 0, .cell none⟩]) hs rfl cD) Evs.nil) (Cal.sumN (n := 0) S) (Nat.zero_le _)) ?zb4 (Bop.modn S.sum 16 16 (by decide) rfl)) (TyD.lst _) slot_list_getitem.lookup (Gi.lst (by omega) hget (by omega))) ?zb5)
    case zb1 => walk_at "ev"
    case zb2 => walk_at "nm"
    case zb3 => walk_at "kept"
    case zb4 => walk_at "ev"
    case zb5 =>
      show Tr _ _ _ _
      refine' Tr.cons (Ex.if_ (b := false) (Te.or3 (a := false) (b := false) (d := false) ?zc1 (fun _ => ?zc2) fun _ _ => ?zc3) (fun e => nomatch e) fun _ => Tr.nil ?zc4)
      case zc1 =>
        refine' readNe (x := ld x.rws) (y := ld x.rws) (Ev.call ?zd1 ?zd2 (Evs.cons ?zd3 Evs.nil) hrd ?zd4) ?zd5
        case zd1 => walk_at "nm"
        case zd2 => walk_at "kept"
        case zd3 => walk_at "ev"
        case zd4 => omega
        case zd5 => walk_at "ev"
      case zc2 =>
        have h := count_cal c.w dp
        rw [hs1] at h
        refine' Te.compare (Ev.call ?zd1 ?zd2 (Evs.cons ?zd3 Evs.nil) h ?zd4) ?zd5 (Cop.ne_int 16 16)
        case zd1 => walk_at "nm"
        case zd2 => walk_at "kept"
        case zd3 => walk_at "ev"
        case zd4 => omega
        case zd5 => walk_at "ev"
      case zc3 =>
        have h := count_cal c.w L
        rw [hs2] at h
        refine' Te.compare (Ev.call ?zd1 ?zd2 (Evs.cons ?zd3 Evs.nil) h ?zd4) ?zd5 (Cop.ne_int 80 80)
        case zd1 => walk_at "nm"
        case zd2 => walk_at "kept"
        case zd3 => walk_at "ev"
        case zd4 => omega
        case zd5 => walk_at "ev"
      case zc4 =>
        show Tr _ _ _ _
        refine' Tr.cons (Ex.assignCell (pre := [⟨aD, 0, .cell (some (.lst (natsD S)))⟩, ⟨aC, 0, .cell cd⟩]) (post := []) (d := .dic (dI t.dep)) hs rfl cU (Ev.call ?zd1 ?zd2 (Evs.cons ?zd3 Evs.nil) (depths_cal c.w t dok) ?zd4) ?zd5)
        case zd1 => walk_at "nm"
        case zd2 => walk_at "kept"
        case zd3 => walk_at "ev"
        case zd4 => omega
        case zd5 =>
          show Tr _ _ _ _
          have hlev := levels_cal c.w t (by omega)
          rw [dints_lv] at hlev
          refine' Tr.cons (Ex.assign (d := .lst (natsD t.lvn)) hs rfl (Ev.call ?ze1 ?ze2 (Evs.cons ?ze3 Evs.nil) hlev ?ze4) ?ze5)
          case ze1 => walk_at "nm"
          case ze2 => walk_at "kept"
          case ze3 => walk_at "ev"
          case ze4 => omega
          case ze5 =>
            show Tr _ _ _ _
            have hkd : (dI t.dep).map (fun p => Dt.int p.1) = dints (t.dep.map Prod.fst) := by simp [dI, dints]
            have hlvs : ((t.lvn.sum : Nat) : Int) = t.lv.sum := by rw [lv_lvn, nats_sum]
            refine' Tr.cons (Ex.assign (d := .tup [.int 16, .int 80, .int (sumXD t.dep), .int (80 + 8 * t.lv.sum), .dic (dI (tabOf t.lvn))]) hs rfl (Ev.tuple (Evs.cons ?zf1 (Evs.cons ?zf2 (Evs.cons ?zf3 (Evs.cons ?zf4 (Evs.cons ?zf5 Evs.nil)))))) ?zf6)
            case zf1 => walk_at "ev"
            case zf2 => walk_at "ev"
            case zf3 =>
              refine' Ev.call ?zg1 ?zg2 (Evs.cons (Ev.listComp (cl := [(Str.ofString "due", aU)]) (ds := (dI t.dep).map fun p => .int p.1) (rs := dints ((t.dep.map Prod.fst).map fun k => k * gz t.dep k)) (Its.of (Ev.cell (pre := [⟨aD, 0, .cell (some (.lst (natsD S)))⟩, ⟨aC, 0, .cell cd⟩]) (post := []) hs rfl cU) Itv.keys) ⟨?zg3, ?zg4, ?zg5⟩ ?zg6) Evs.nil) (Cal.sum (n := 0) _) (Nat.zero_le _)
              case zg1 => walk_at "nm"
              case zg2 => walk_at "kept"
              case zg3 => simp [dints, dI]
              case zg4 => simp [dI]; omega
              case zg5 =>
                intro ci W h hci j d hd
                obtain ⟨k, hk1, rfl, v, hv, hvm⟩ := keyD_at hd
                have hsc := hci.sc
                have hfre := CompIn.fre (pre := [⟨aD, 0, .cell (some (.lst (natsD S)))⟩, ⟨aC, 0, .cell cd⟩]) (post := []) (x := Str.ofString "due") hci rfl
                have hrl : (relabel { kind := ScopeKind.function, names := [(Str.ofString ".0", NameKind.local), (Str.ofString "x", NameKind.local), (Str.ofString "due", NameKind.free)], isGenerator := false, isCoroutine := false } c.env).names.lookup (Str.ofString "due") = some .cell := by
                  unfold relabel
                  simp [Env.kindOf, hs]
                  rfl
                have hgz : gz t.dep k = v := by unfold gz; rw [hv]; rfl
                have hvb := hdv _ hvm
                refine' ⟨_, .int (k * v), As.name hsc rfl, Ev.binop ?zh1 (Ev.sub (Ev.free hsc hrl hfre) ?zh2 (TyD.dic _) slot_dict_getitem.lookup (Gi.dic (d := .int v) ?zh3)) (Bop.mul_int _ _ (.of_right (intBits_le_64 (by omega) (by omega)))), rfl, ?zh4⟩
                case zh1 => walk_at "ev"
                case zh2 => walk_at "ev"
                case zh3 => rw [dget_dI, hv]; rfl
                case zh4 =>
                  simp only [dints, List.getElem?_map] at hk1 ⊢
                  cases hj : t.dep[j]? with
                  | none => rw [hj] at hk1; cases hk1
                  | some p =>
                    rw [hj] at hk1
                    have : p.1 = k := Option.some.inj hk1
                    simp [this, hgz]
              case zg6 =>
                unfold closureFor cellOf
                simp [cU, hcl]
            case zf4 =>
              have h8 := Bop.mul_int 8 ((t.lvn.sum : Nat) : Int) (.of_left (intBits_le_64 (by decide) (by decide)))
              rw [← hlvs]
              refine' Ev.binop ?zg1 (Ev.binop ?zg2 (Ev.call ?zg3 ?zg4 (Evs.cons ?zg5 Evs.nil) (Cal.sumN (n := 0) t.lvn) (Nat.zero_le _)) h8) (Bop.add_int _ _)
              case zg1 => walk_at "ev"
              case zg2 => walk_at "ev"
              case zg3 => walk_at "nm"
              case zg4 => walk_at "kept"
              case zg5 => walk_at "ev"
            case zf5 =>
              refine' Ev.call ?zg1 ?zg2 (Evs.cons ?zg3 Evs.nil) (table_cal c.w t.lvn hlv (by omega)) ?zg4
              case zg1 => walk_at "nm"
              case zg2 => walk_at "kept"
              case zg3 => walk_at "ev"
              case zg4 => omega
            case zf6 =>
              show Tr _ _ _ _
              subst hA hB hC hD
              have h5 := Cop.eq_tup (ds1 := [.int 16, .int 80, .int (sumXD t.dep), .int (80 + 8 * t.lv.sum), .dic (dI L)]) (ds2 := [.int 16, .int 80, .int (sumXD t.dep), .int (80 + 8 * t.lv.sum), .dic (dI (tabOf t.lvn))]) (e := fun _ => true) rfl (fun j d1 d2 e1 e2 => by
                have hi : ∀ i : Int, EqD 1 (.int i) (.int i) true := fun i => by
                  have := EqD.int (n := 1) i i
                  rwa [show (i == i) = true by simp] at this
                rcases j with _ | _ | _ | _ | _ | j
                · cases e1; cases e2; exact hi _
                · cases e1; cases e2; exact hi _
                · cases e1; cases e2; exact hi _
                · cases e1; cases e2; exact hi _
                · cases e1; cases e2; exact EqD.dic hL
                · simp at e1)
              refine' Tr.cons (Ex.ret (d := .bool true) (Ev.and2 (Ev.compare ?zg1 ?zg2 h5) (Ev.compare ?zg3 (Ev.cell (pre := [⟨aD, 0, .cell (some (.lst (natsD S)))⟩, ⟨aC, 0, .cell cd⟩]) (post := []) hs rfl cU) (Cop.eq_dic hdue))) rfl)
              case zg1 => walk_at "ev"
              case zg2 => walk_at "ev"
              case zg3 => walk_at "ev"
end
end
section
open PySem PySem.W PySem.Calls PyProof.Rows PySem.Spec
set_option Elab.async false
set_option maxRecDepth 100000
set_option maxHeartbeats 8000000
set_option linter.unusedVariables false
set_option linter.unusedSimpArgs false
section
noncomputable def cOf (l : List Nat) : Nat → List (Int × Int)
  | 0 => []
  | i + 1 => if 0 < l.getD i 0 then dset (cOf l i) (i : Int) ((l.getD i 0 : Nat) : Int) else cOf l i
noncomputable def callersR (r : List Nat) : List (Int × Int) := cOf (wsRun (ldl r)).1 (wsRun (ldl r)).1.length
noncomputable def deepR (r : List Nat) : Int := wsLong (ld r)
noncomputable abbrev Tot := Int × Int × Int × Int × List (Int × Int)
noncomputable def totS (s : Tot) (r : List Nat) : Tot := (1 + s.1, ((wsRun (ldl r)).2.2.2 : Int) + s.2.1, deepR r + s.2.2.1, ((wsRun (ldl r)).2.2.1 : Int) + s.2.2.2.1, addC s.2.2.2.2 (callersR r))
noncomputable def depS (d : List (Int × Int)) (r : List Nat) : List (Int × Int) := addC d [(deepR r, 1)]
noncomputable abbrev totD (s : Tot) : Dt := statD s.1 s.2.1 s.2.2.1 s.2.2.2.1 s.2.2.2.2
noncomputable def tot0 : Tot := (0, 0, 0, 0, [])
theorem cOf_len (l : List Nat) : ∀ i, (cOf l i).length ≤ i
  | 0 => Nat.le_refl _
  | i + 1 => by
    have ih := cOf_len l i
    unfold cOf
    split
    · exact Nat.le_trans (dset_len1 _ _ _) (Nat.succ_le_succ ih)
    · omega
theorem dcf_cOf (l : List Nat) : ∀ i, dcf (fun i => decide (((l.getD i 0 : Nat) : Int) > 0)) (fun i => (i : Int)) (fun i => .int ((l.getD i 0 : Nat) : Int)) i = dI (cOf l i)
  | 0 => rfl
  | i + 1 => by
    rw [dcf, cOf, dcf_cOf l i]
    by_cases h : 0 < l.getD i 0
    · rw [if_pos h, if_pos (decide_eq_true (by omega)), dset_dI]
    · rw [if_neg h, if_neg (by simpa using h)]
theorem ld_list (r : List Nat) : (ld r).cps.toList = ldl r := by simp [ld]
theorem callersR_len (r : List Nat) (h : (ld r).length ≤ 200) : (wsRun (ldl r)).1.length ≤ 201 ∧ (callersR r).length ≤ 201 := by
  have hl : (ldl r).length ≤ 200 := by rw [← ld_list, Array.length_toList]; exact h
  have := (ws_small (ldl r) ([], 0, 0, 0) 0 (Nat.le_refl _) (Nat.le_refl _)).1
  have h1 : (wsRun (ldl r)).1.length ≤ 201 := by unfold wsRun; omega
  exact ⟨h1, Nat.le_trans (cOf_len _ _) h1⟩
theorem tot_len (R : List (List Nat)) : ∀ s : Tot, (∀ r ∈ R, (ld r).length ≤ 200) → (R.foldl totS s).2.2.2.2.length ≤ s.2.2.2.2.length + 201 * R.length := by
  induction R with
  | nil => intro s _; exact Nat.le_refl _
  | cons r R ih =>
    intro s h
    have h1 := ih (totS s r) fun x hx => h x (.tail _ hx)
    have h2 := (callersR_len r (h r (.head _))).2
    have h3 : (totS s r).2.2.2.2.length ≤ s.2.2.2.2.length + (callersR r).length := addC_len _ _
    rw [List.foldl_cons, List.length_cons]
    omega
theorem dep_len2 (R : List (List Nat)) : ∀ d, (R.foldl depS d).length ≤ d.length + R.length := by
  induction R with
  | nil => intro d; exact Nat.le_refl _
  | cons r R ih =>
    intro d
    have h1 := ih (depS d r)
    have h3 : (depS d r).length ≤ d.length + 1 := addC_len _ _
    rw [List.foldl_cons, List.length_cons]
    omega
theorem seq_at (i n : Nat) (h : i < n) : seqIndex? (i : Int) n = some i := by
  unfold seqIndex?
  simp
  omega
theorem atr_nt (w : World) : Atr w 260 (Str.ofString "nt") := ⟨rfl, rfl, rfl⟩
theorem atr_n (w : World) : Atr w 260 (Str.ofString "n") := ⟨rfl, rfl, rfl⟩
noncomputable def cntAt (t : T) : Nat → Option Dt
  | 0 => none
  | i + 1 => (t.ways[i]?).map fun x => .tup (cntD (wsRun (ldl x.rws)).1)
theorem wsF_norm (r : List Nat) : (wsF (ld r)).lookup (Str.ofString "norm") = some (.tup [.tup (cntD (wsRun (ldl r)).1), .int ((wsRun (ldl r)).2.1 : Int)]) := by
  rw [← ld_list]; rfl
theorem wsF_nt (r : List Nat) : (wsF (ld r)).lookup (Str.ofString "nt") = some (.int ((wsRun (ldl r)).2.2.2 : Int)) := by
  rw [← ld_list]; rfl
theorem wsF_n (r : List Nat) : (wsF (ld r)).lookup (Str.ofString "n") = some (.int ((wsRun (ldl r)).2.2.1 : Int)) := by
  rw [← ld_list]; rfl
end
end
section
open PySem PySem.W PySem.Calls PyProof.Rows PySem.Spec
set_option Elab.async false
set_option maxRecDepth 100000
set_option maxHeartbeats 8000000
set_option linter.unusedVariables false
set_option linter.unusedSimpArgs false
section
theorem law_b {c : Cx} {fd : FuncData} {body : List Stmt} {oc : Value} {od : Option Addr} {osl : Array (Option Value)} (hK : (KK c.w).lookup 333 = some ⟨oc, od, .func fd, osl⟩) (hbody : fd.body = .stmts body) (hs : c.env.scope = fd.scope) {aD aC aU : Addr} (hcl : c.env.cells = lawCells aD aC aU) (hk : 8 ≤ c.k)
    {P : Fl → Frame → Prop} (S : List Nat) (t : T) (dm : Int) (wok : t.wok) (ht : t.ht ≤ 4) (hw16 : t.ways.length = 16) (hlong : ∀ x ∈ t.ways, (ld x.rws).length ≤ 200)
    (h : Tr c ⟨[(Str.ofString "total", totD ((t.ways.map T.rws).foldl totS tot0)), (Str.ofString "depths", .dic (dI ((t.ways.map T.rws).foldl depS []))), (Str.ofString "written", .lst (pairs t.ways)), (Str.ofString "tree", t.dt), (Str.ofString "deepest", .int dm)], lawOwn aD aC aU (some (.lst (natsD S))) (cntAt t 16) none⟩ (body.drop 13) P) :
    Tr c ⟨[(Str.ofString "tree", t.dt), (Str.ofString "deepest", .int dm)], lawOwn aD aC aU (some (.lst (natsD S))) none none⟩ (body.drop 9) P := by
  cases hK
  cases hbody
  dsimp only at hs
  have cC : c.env.cells.lookup (Str.ofString "counts") = some aC := by rw [hcl]; rfl
  dsimp only [List.drop] at h ⊢
  let tt : Nat → Tot := fun i => ((t.ways.map T.rws).take i).foldl totS tot0
  let dd : Nat → List (Int × Int) := fun i => ((t.ways.map T.rws).take i).foldl depS []
  refine' Tr.cons (Ex.assign (d := totD tot0) hs rfl (Ev.tuple (ds := [.int 0, .int 0, .int 0, .int 0, .dic []]) (Evs.cons ?za1 (Evs.cons ?za2 (Evs.cons ?za3 (Evs.cons ?za4 (Evs.cons Ev.dict0 Evs.nil)))))) ?za5)
  case za1 => walk_at "ev"
  case za2 => walk_at "ev"
  case za3 => walk_at "ev"
  case za4 => walk_at "ev"
  case za5 =>
    show Tr _ _ _ _
    refine' Tr.cons (Ex.assign (d := .dic []) hs rfl Ev.dict0 ?zb1)
    case zb1 =>
      show Tr _ _ _ _
      refine' Tr.cons (Ex.assign (d := .lst (pairs t.ways)) hs rfl (Ev.call ?zc1 ?zc2 (Evs.cons ?zc3 Evs.nil) (writings_cal c.w t wok) ?zc4) ?zc5)
      case zc1 => walk_at "nm"
      case zc2 => walk_at "kept"
      case zc3 => walk_at "ev"
      case zc4 => omega
      case zc5 =>
        show Tr _ _ _ _
        have hpl : (pairs t.ways).length = 16 := by simp [pairs, hw16]
        refine' Tr.cons (Ex.forH (ds := pairs t.ways) (Its.of ?zd1 Itv.lst) (fun i => [(Str.ofString "total", totD (tt i)), (Str.ofString "depths", .dic (dI (dd i))), (Str.ofString "written", .lst (pairs t.ways)), (Str.ofString "tree", t.dt), (Str.ofString "deepest", .int dm)]) (fun i => lawOwn aD aC aU (some (.lst (natsD S))) (cntAt t i) none) ⟨rfl, rfl, rfl, rfl, rfl, rfl, trivial⟩ ?zd2 ?zd3)
        case zd1 => walk_at "ev"
        case zd3 =>
          rw [hpl]
          have e1 : tt 16 = (t.ways.map T.rws).foldl totS tot0 := by
            show ((t.ways.map T.rws).take 16).foldl totS tot0 = _
            rw [List.take_of_length_le (by rw [List.length_map]; omega)]
          have e2 : dd 16 = (t.ways.map T.rws).foldl depS [] := by
            show ((t.ways.map T.rws).take 16).foldl depS [] = _
            rw [List.take_of_length_le (by rw [List.length_map]; omega)]
          rw [e1, e2]
          exact h
        case zd2 =>
          intro ps i d hd
          obtain ⟨x, hx, hxm, rfl⟩ := pairs_at hd
          have hs' : (c.hides ps).env.scope = _ := hs
          have hk' : 8 ≤ (c.hides ps).k := hk
          have hxl := hlong x hxm
          have hi16 : i < 16 := by
            have := (List.getElem?_eq_some_iff.mp hx).1
            omega
          have hR : (t.ways.map T.rws)[i]? = some x.rws := by rw [List.getElem?_map, hx]; rfl
          have et : tt (i + 1) = totS (tt i) x.rws := take_foldl totS tot0 _ i _ hR
          have ed : dd (i + 1) = depS (dd i) x.rws := take_foldl depS [] _ i _ hR
          have ec : cntAt t (i + 1) = some (.tup (cntD (wsRun (ldl x.rws)).1)) := by show (t.ways[i]?).map _ = _; rw [hx]; rfl
          have lt1 : (tt i).2.2.2.2.length ≤ 201 * 16 := by
            have := tot_len ((t.ways.map T.rws).take i) tot0 (fun r hr => by
              obtain ⟨y, hy, rfl⟩ := List.mem_map.mp (List.mem_of_mem_take hr)
              exact hlong y hy)
            have l0 : (tot0.2.2.2.2).length = 0 := rfl
            have : ((t.ways.map T.rws).take i).length ≤ 16 := by rw [List.length_take]; omega
            show (((t.ways.map T.rws).take i).foldl totS tot0).2.2.2.2.length ≤ _
            omega
          have lt2 : (dd i).length ≤ 16 := by
            have := dep_len2 ((t.ways.map T.rws).take i) []
            have : ((t.ways.map T.rws).take i).length ≤ 16 := by rw [List.length_take]; omega
            show (((t.ways.map T.rws).take i).foldl depS []).length ≤ _
            simp at *
            omega
          have ⟨lc1, lc2⟩ := callersR_len x.rws hxl
          have hcps : (ld x.rws).cps.toList.length ≤ 1000 := by
            have : (ld x.rws).cps.toList.length = (ld x.rws).length := Array.length_toList
            omega
          rw [et, ed, ec]
          generalize tt i = s at *
          generalize dd i = dp at *
          refine ⟨_, As.tuple (Ass.cons (As.name hs' rfl) (Ass.cons (As.name hs' rfl) Ass.nil)), ?_⟩
          refine' Tr.cons (Ex.assign (d := .inst 260 (wsF (ld x.rws))) hs' rfl (Ev.call ?ze1 ?ze2 (Evs.cons ?ze3 Evs.nil) (ws_new c.w (ld x.rws) (ld_chars _) hcps) ?ze4) ?ze5)
          case ze1 => walk_at "nm"
          case ze2 => walk_at "kept"
          case ze3 => walk_at "ev"
          case ze4 => omega
          case ze5 =>
            show Tr _ _ _ _
            refine' Tr.cons (Ex.assignCell (pre := [⟨aD, 0, .cell (some (.lst (natsD S)))⟩]) (post := [⟨aU, 0, .cell none⟩]) (d := .tup (cntD (wsRun (ldl x.rws)).1)) hs' rfl cC (Ev.sub (Ev.attr ?zf1 (atr_norm _) (wsF_norm x.rws)) ?zf2 (TyD.tup _) slot_tuple_getitem.lookup (Gi.tup (k := 0) (j := 0) rfl rfl)) ?zf3)
            case zf1 => walk_at "ev"
            case zf2 => walk_at "ev"
            case zf3 =>
              show Tr _ _ _ _
              refine' Tr.cons (Ex.assign (d := .int (deepR x.rws)) hs' rfl (Ev.meth ?zg1 (Mth.inst (met_long _) rfl) (Kept.of rfl) Evs.nil (long_cal c.w (ld x.rws) hcps) ?zg2) ?zg3)
              case zg1 => walk_at "ev"
              case zg2 => omega
              case zg3 =>
                show Tr _ _ _ _
                have hcl2 : (cntD (wsRun (ldl x.rws)).1).length = (wsRun (ldl x.rws)).1.length := List.length_map ..
                generalize hcn : (wsRun (ldl x.rws)).1 = cn at *
                have cat : ∀ j, j < cn.length → (cntD cn)[j]? = some (.int ((cn.getD j 0 : Nat) : Int)) := fun j hj => by
                  simp [cntD, List.getElem?_eq_getElem hj, List.getD_eq_getElem?_getD]
                refine' Tr.cons (Ex.assignDComp (cl := [(Str.ofString "counts", aC)]) (b := fun i => decide (((cn.getD i 0 : Nat) : Int) > 0)) (ks := fun i => (i : Int)) (vd := fun i => .int ((cn.getD i 0 : Nat) : Int)) (ds := rngD cn.length) hs' rfl
                  (Its.range ?zi1 (Evs.cons (Ev.call ?zi2 ?zi3 (Evs.cons (Ev.cell (pre := [⟨aD, 0, .cell (some (.lst (natsD S)))⟩]) (post := [⟨aU, 0, .cell none⟩]) hs' rfl cC) Evs.nil) ?zi4 (Nat.zero_le _)) Evs.nil) (by omega)) ?zi5 ?zi6 ?zi7 ?zi8)
                case zi1 => walk_at "nm"
                case zi2 => walk_at "nm"
                case zi3 => walk_at "kept"
                case zi4 =>
                  have := Cal.len_tup (w := c.w) (n := 0) (cntD cn) (by omega)
                  rwa [hcl2] at this
                case zi5 =>
                  intro ci W hh hci j d hd
                  obtain ⟨hj, rfl⟩ := rng_at hd
                  have hsc := hci.sc
                  have hfre := CompIn.fre (pre := [⟨aD, 0, .cell (some (.lst (natsD S)))⟩]) (post := [⟨aU, 0, .cell none⟩]) (x := Str.ofString "counts") hci rfl
                  have hrl : (relabel { kind := ScopeKind.function, names := [(Str.ofString ".0", NameKind.local), (Str.ofString "x", NameKind.local), (Str.ofString "counts", NameKind.free)], isGenerator := false, isCoroutine := false } (c.hides ps).env).names.lookup (Str.ofString "counts") = some .cell := by
                    unfold relabel
                    simp [Env.kindOf, hs']
                    rfl
                  refine' ⟨_, As.name hsc rfl, rfl, ?zj1, fun _ => ⟨?zj2, ?zj3⟩⟩
                  case zj1 =>
                    refine' Te.compare (Ev.sub (Ev.free hsc hrl hfre) ?zk1 (TyD.tup _) slot_tuple_getitem.lookup (Gi.tup (by rw [hcl2]; exact seq_at j _ hj) (cat j hj) (by omega) (by omega))) ?zk2 (Cop.gt_int _ _)
                    case zk1 => walk_at "ev"
                    case zk2 => walk_at "ev"
                  case zj2 => walk_at "ev"
                  case zj3 =>
                    refine' Ev.sub (Ev.free hsc hrl hfre) ?zl1 (TyD.tup _) slot_tuple_getitem.lookup (Gi.tup (by rw [hcl2]; exact seq_at j _ hj) (cat j hj) (by omega) (by omega))
                    case zl1 => walk_at "ev"
                case zi6 => simp [rngD]; omega
                case zi8 =>
                  unfold closureFor cellOf
                  have cC' : (c.hides ps).env.cells.lookup (Str.ofString "counts") = some aC := cC
                  simp [cC']
                case zi7 =>
                  show Tr _ _ _ _
                  have erl : (rngD cn.length).length = cn.length := by simp [rngD]
                  have ecall : cOf cn cn.length = callersR x.rws := by unfold callersR; rw [hcn]
                  rw [erl, dcf_cOf, ecall]
                  have hst := stats_cal c.w s.1 s.2.1 s.2.2.1 s.2.2.2.1 s.2.2.2.2 1 ((wsRun (ldl x.rws)).2.2.2 : Int) (deepR x.rws) ((wsRun (ldl x.rws)).2.2.1 : Int) (callersR x.rws) (by omega)
                  refine' Tr.cons (Ex.assign (d := totD (totS s x.rws)) hs' rfl (Ev.call ?zk1 ?zk2 (Evs.cons ?zk3 (Evs.cons (Ev.tuple (Evs.cons ?zk4 (Evs.cons (Ev.attr ?zk5 (atr_nt _) (wsF_nt x.rws)) (Evs.cons ?zk6 (Evs.cons (Ev.attr ?zk7 (atr_n _) (wsF_n x.rws)) (Evs.cons ?zk8 Evs.nil)))))) Evs.nil)) hst ?zk9) ?zk10)
                  case zk1 => walk_at "nm"
                  case zk2 => walk_at "kept"
                  case zk3 => walk_at "ev"
                  case zk4 => walk_at "ev"
                  case zk5 => walk_at "ev"
                  case zk6 => walk_at "ev"
                  case zk7 => walk_at "ev"
                  case zk8 => walk_at "ev"
                  case zk9 => omega
                  case zk10 =>
                    show Tr _ _ _ _
                    have had := addcallers_cal c.w dp [(deepR x.rws, 1)] (by simp; omega)
                    refine' Tr.cons (Ex.assign (d := .dic (dI (depS dp x.rws))) hs' rfl (Ev.call ?zl1 ?zl2 (Evs.cons ?zl3 (Evs.cons (d := .dic (dI [(deepR x.rws, 1)])) (Ev.dict1 (fun ps2 => ?zl4) (fun ps2 => ?zl5)) Evs.nil)) had ?zl6) ?zl7)
                    case zl1 => walk_at "nm"
                    case zl2 => walk_at "kept"
                    case zl3 => walk_at "ev"
                    case zl4 =>
                      have hs2 : ((c.hides ps).hides ps2).env.scope = _ := hs
                      walk_at "ev"
                    case zl5 => walk_at "ev"
                    case zl6 => omega
                    case zl7 => exact Tr.nil ⟨rfl, rfl, rfl, rfl, rfl, rfl, trivial⟩
end
end
section
open PySem PySem.W PySem.Calls PyProof.Rows PySem.Spec
set_option Elab.async false
set_option maxRecDepth 100000
set_option maxHeartbeats 8000000
set_option linter.unusedVariables false
set_option linter.unusedSimpArgs false
section
noncomputable def dealS (xs : List Int) : List Nat := (xs.take 60).map fun x => (x.fmod 1000000).toNat
noncomputable def baseN : List Nat := [37, 5, 18, 260, 99]
noncomputable def drawS (S : List Nat) : List Nat := (List.range 5).map fun k => baseN.getD k 0 + (st5 S k).sum
noncomputable def toldS (S : List Nat) : Nat := (8 + S.sum) % 24
noncomputable def wayS (S : List Nat) : Int := 1 - 2 * ((S.sum / 24 % 2 : Nat) : Int)
theorem fmod_nat (x : Int) : (((x.fmod 1000000).toNat : Nat) : Int) = x.fmod 1000000 := by
  rw [Int.fmod_eq_emod_of_nonneg _ (by decide)]
  exact Int.toNat_of_nonneg (Int.emod_nonneg _ (by decide))
theorem law_a {c : Cx} {fd : FuncData} {body : List Stmt} {oc : Value} {od : Option Addr} {osl : Array (Option Value)} (hK : (KK c.w).lookup 333 = some ⟨oc, od, .func fd, osl⟩) (hbody : fd.body = .stmts body) (hs : c.env.scope = fd.scope) {aD aC aU : Addr} (hcl : c.env.cells = lawCells aD aC aU) (hk : 8 ≤ c.k)
    {P : Fl → Frame → Prop} (xs : List Int) (hxl : xs.length ≤ 1000) (S : List Nat) (hS : S = dealS xs) (t u : T) (way : Int) (hway : way = wayS S) (ht : t = treeOf (drawS S) (toldS S)) (hu : u = joinOf way (drawS S) (toldS S))
    (tok : t.ok) (twt : t.wt ≤ 100000) (tht : t.ht ≤ 4) (hus : Sm 4 u) (hplain : u.txt = (t.plain way).2) (hdeep : vl u = (t.rounds : Int) - 1) (hread : Cal c.w (.ref 328) 2 [.str u.txt] (.tup [.str (ld u.rws), .int 0])) (hasc : ascii u.txt) (hparen : Cal c.w (.ref 191) 1 [.bytes (enc u.txt)] (.int 0))
    (h : Tr c ⟨[(Str.ofString "tree", t.dt), (Str.ofString "deepest", .int (vl u))], lawOwn aD aC aU (some (.lst (natsD S))) none none⟩ (body.drop 9) P) :
    Tr c ⟨[(Str.ofString "script", .lst (dints xs))], lawOwn aD aC aU none none none⟩ body P := by
  cases hK
  cases hbody
  dsimp only at hs
  have cD : c.env.cells.lookup (Str.ofString "dealt") = some aD := by rw [hcl]; rfl
  dsimp only [List.drop] at h ⊢
  have hSl : S.length ≤ 60 := by rw [hS]; unfold dealS; rw [List.length_map, List.length_take]; omega
  have hnl : (natsD S).length ≤ 60 := by unfold natsD; rw [List.length_map]; exact hSl
  have hpk : pk (dints xs) none (some 60) = dints (xs.take 60) := (pk_take _ 60).trans (by simp [dints])
  refine' Tr.cons (Ex.assignCell (pre := []) (post := [⟨aC, 0, .cell none⟩, ⟨aU, 0, .cell none⟩]) (d := .lst (natsD S)) hs rfl cD (Ev.listComp (cl := []) (ds := dints (xs.take 60)) (Its.of ?za1 Itv.lst) ⟨?za2, ?za3, ?za4⟩ rfl) ?za5 (swaps_cell hs rfl))
  case za1 =>
    rw [← hpk]
    refine' Ev.slice ?zb1 Pt.none (Pt.some ?zb2) (TyD.lst _) slot_list_getitem.lookup (Sl.lst (by simp [dints]; omega))
    case zb1 => walk_at "ev"
    case zb2 => walk_at "ev"
  case za2 => rw [hS]; simp [natsD, dealS, dints]
  case za3 => simp [dints]; omega
  case za4 =>
    intro ci W hh hci j d hd
    simp only [dints, List.getElem?_map, Option.map_eq_some_iff] at hd
    obtain ⟨x, hx, rfl⟩ := hd
    have hsc := hci.sc
    refine' ⟨_, .int (x.fmod 1000000), As.name hsc rfl, ?zb3, rfl, ?zb4⟩
    case zb3 => walk_at "ev"
    case zb4 =>
      rw [hS]
      unfold natsD dealS
      rw [List.getElem?_map, List.getElem?_map, hx]
      show some (Dt.int _) = _
      rw [fmod_nat]
  case za5 =>
    show Tr _ _ _ _
    have hq5 : (drawS S).length = 5 := by simp [drawS]
    refine' Tr.cons (Ex.assignComp (cl := [(Str.ofString "dealt", aD)]) (ds := rngD 5) (rs := natsD (drawS S)) hs rfl (Its.range ?zb1 ?zb2 (by decide)) ⟨?zb3, ?zb4, ?zb5⟩ ?zb6 ?zb7)
    case zb1 => walk_at "nm"
    case zb2 => walk_at "evs"
    case zb3 => simp [natsD, hq5, rngD]
    case zb4 => simp [rngD]
    case zb5 =>
      intro ci W hh hci j d hd
      obtain ⟨hj, rfl⟩ := rng_at hd
      have hsc := hci.sc
      have hfre := CompIn.fre (pre := []) (post := [⟨aC, 0, .cell none⟩, ⟨aU, 0, .cell none⟩]) (x := Str.ofString "dealt") hci rfl
      have hrl : (relabel { kind := ScopeKind.function, names := [(Str.ofString ".0", NameKind.local), (Str.ofString "k", NameKind.local), (Str.ofString "sum", NameKind.globalImplicit), (Str.ofString "dealt", NameKind.free)], isGenerator := false, isCoroutine := false } c.env).names.lookup (Str.ofString "dealt") = some .cell := by
        unfold relabel
        simp [Env.kindOf, hs]
        rfl
      have hsum := Cal.sumN (w := ci.w) (n := 0) (st5 S j)
      rw [← st5_nats] at hsum
      have hb : [Dt.int 37, .int 5, .int 18, .int 260, .int 99][j]? = some (.int ((baseN.getD j 0 : Nat) : Int)) := by
        match j, hj with
        | 0, _ => rfl
        | 1, _ => rfl
        | 2, _ => rfl
        | 3, _ => rfl
        | 4, _ => rfl
      have hadd := Bop.add_int ((baseN.getD j 0 : Nat) : Int) (((st5 S j).sum : Nat) : Int)
      rw [← Int.natCast_add] at hadd
      refine' ⟨_, .int ((baseN.getD j 0 + (st5 S j).sum : Nat) : Int), As.name hsc rfl, ?zc1, rfl, ?zc2⟩
      case zc1 =>
        refine' Ev.binop (Ev.sub (Ev.tuple (ds := [.int 37, .int 5, .int 18, .int 260, .int 99]) ?zd1) ?zd2 (TyD.tup _) slot_tuple_getitem.lookup (Gi.tup (seq_at j 5 hj) hb (by omega) (by omega))) (Ev.call ?zd3 ?zd4 (Evs.cons (Ev.slice5 (Ev.free hsc hrl hfre) ?zd5 (by omega)) Evs.nil) hsum (Nat.zero_le _)) hadd
        case zd1 => walk_at "evs"
        case zd2 => walk_at "ev"
        case zd3 => exact Ev.builtin hsc (by unfold relabel; rfl) (fun _ => rfl) rfl (by decide)
        case zd4 => walk_at "kept"
        case zd5 => walk_at "ev"
      case zc2 =>
        unfold natsD drawS
        rw [List.getElem?_map, List.getElem?_map, List.getElem?_range hj]
        rfl
    case zb7 =>
      unfold closureFor cellOf
      simp [cD]
    case zb6 =>
      show Tr _ _ _ _
      have h8 := Bop.add_int 8 ((S.sum : Nat) : Int)
      rw [show (8 : Int) + ((S.sum : Nat) : Int) = ((8 + S.sum : Nat) : Int) by omega] at h8
      refine' Tr.cons (Ex.assign (d := .int ((toldS S : Nat) : Int)) hs rfl (Ev.binop (Ev.binop ?zc1 (Ev.call ?zc2 ?zc3 (Evs.cons (Ev.cell (pre := []) (post := [⟨aC, 0, .cell none⟩, ⟨aU, 0, .cell none⟩]) hs rfl cD) Evs.nil) (Cal.sumN (n := 0) S) (Nat.zero_le _)) h8) ?zc4 (Bop.modn (8 + S.sum) 24 24 (by decide) rfl)) ?zc5)
      case zc1 => walk_at "ev"
      case zc2 => walk_at "nm"
      case zc3 => walk_at "kept"
      case zc4 => walk_at "ev"
      case zc5 =>
        show Tr _ _ _ _
        refine' Tr.cons (Ex.assign (d := .int way) hs rfl (hway ▸ Ev.binop ?zd1 (Ev.binop ?zd2 (Ev.binop (Ev.binop (Ev.call ?zd3 ?zd4 (Evs.cons (Ev.cell (pre := []) (post := [⟨aC, 0, .cell none⟩, ⟨aU, 0, .cell none⟩]) hs rfl cD) Evs.nil) (Cal.sumN (n := 0) S) (Nat.zero_le _)) ?zd5 (Bop.divn S.sum 24 24 (by decide) (by decide) rfl)) ?zd6 (Bop.modn (S.sum / 24) 2 2 (by decide) rfl)) (Bop.mul_int _ _ (.of_left (intBits_le_64 (by decide) (by decide))))) (Bop.sub_int _ _)) ?zd7)
        case zd1 => walk_at "ev"
        case zd2 => walk_at "ev"
        case zd3 => walk_at "nm"
        case zd4 => walk_at "kept"
        case zd5 => walk_at "ev"
        case zd6 => walk_at "ev"
        case zd7 =>
          show Tr _ _ _ _
          have htl : toldS S < 1000 := by unfold toldS; omega
          have htree := tree_cal c.w (drawS S) (toldS S) hq5 htl
          rw [← ht] at htree
          refine' Tr.cons (Ex.assign (d := t.dt) hs rfl (Ev.call ?ze1 ?ze2 (Evs.cons ?ze3 (Evs.cons ?ze4 Evs.nil)) htree ?ze5) ?ze6)
          case ze1 => walk_at "nm"
          case ze2 => walk_at "kept"
          case ze3 => walk_at "ev"
          case ze4 => walk_at "ev"
          case ze5 => omega
          case ze6 =>
            show Tr _ _ _ _
            have hjoin := joined_cal c.w (drawS S) (toldS S) way hq5 htl
            rw [← hu] at hjoin
            refine' Tr.cons (Ex.assignT (d := u.pair) (Ev.call ?zf1 ?zf2 (Evs.cons ?zf3 (Evs.cons ?zf4 (Evs.cons ?zf5 Evs.nil))) hjoin ?zf6) (As.tuple (Ass.cons (As.name hs rfl) (Ass.cons (As.name hs rfl) Ass.nil))) ?zf7)
            case zf1 => walk_at "nm"
            case zf2 => walk_at "kept"
            case zf3 => walk_at "ev"
            case zf4 => walk_at "ev"
            case zf5 => walk_at "ev"
            case zf6 => omega
            case zf7 =>
              show Tr _ _ _ _
              obtain ⟨gu, lu, lu2, ru, hu4⟩ := hus.small (by omega)
              have hcl2 := ldp_len u
              refine' Tr.cons (Ex.assign (d := .int (vl u)) hs rfl (Ev.meth (Ev.call ?zg1 ?zg2 (Evs.cons (Ev.slice ?zg3 Pt.none (Pt.some ?zg4) (TyD.str _) PySem.F.slot_str_getitem.lookup (Sl.str ?zg5)) Evs.nil) (ws_new c.w (ldp u.rws) (ldp_chars u) (by omega)) ?zg6) (Mth.inst (met_long _) rfl) (Kept.of rfl) Evs.nil (long_cal c.w (ldp u.rws) (by omega)) ?zg7) ?zg8)
              case zg1 => walk_at "nm"
              case zg2 => walk_at "kept"
              case zg3 => walk_at "ev"
              case zg4 => walk_at "ev"
              case zg5 => omega
              case zg6 => omega
              case zg7 => omega
              case zg8 =>
                show Tr _ _ _ _
                refine' Tr.cons (Ex.if_ (b := false) (Te.or2 (a := false) (b := false) ?zi1 fun _ => ?zi2) (fun e => nomatch e) fun _ => Tr.nil ?zi3)
                case zi1 =>
                  have hne := Cop.ne_str u.txt u.txt
                  rw [show (!sEq u.txt u.txt) = false by simp [sEq]] at hne
                  have hpc := plain_cal c.w way t tok twt
                  rw [← hplain] at hpc
                  refine' Te.compare ?zj1 (Ev.sub (Ev.call ?zj2 ?zj3 (Evs.cons ?zj4 (Evs.cons ?zj5 Evs.nil)) hpc ?zj6) ?zj7 (TyD.tup _) slot_tuple_getitem.lookup (Gi.tup (k := 1) (j := 1) rfl rfl)) hne
                  case zj1 => walk_at "ev"
                  case zj2 => walk_at "nm"
                  case zj3 => walk_at "kept"
                  case zj4 => walk_at "ev"
                  case zj5 => walk_at "ev"
                  case zj6 => omega
                  case zj7 => walk_at "ev"
                case zi2 =>
                  have hne := Cop.ne_int (vl u) ((t.rounds : Int) - 1)
                  rw [show (vl u != (t.rounds : Int) - 1) = false by rw [hdeep]; simp] at hne
                  refine' Te.compare ?zj1 (Ev.binop (Ev.call ?zj2 ?zj3 (Evs.cons ?zj4 Evs.nil) (rounds_cal c.w t) ?zj5) ?zj6 (Bop.sub_int _ _)) hne
                  case zj1 => walk_at "ev"
                  case zj2 => walk_at "nm"
                  case zj3 => walk_at "kept"
                  case zj4 => walk_at "ev"
                  case zj5 => omega
                  case zj6 => walk_at "ev"
                case zi3 =>
                  show Tr _ _ _ _
                  refine' Tr.cons (Ex.if_ (b := false) (Te.or2 (a := false) (b := false) ?zk1 fun _ => ?zk2) (fun e => nomatch e) fun _ => Tr.nil ?zk3)
                  case zk1 =>
                    refine' readNe (x := ld u.rws) (y := ld u.rws) (Ev.call ?zl1 ?zl2 (Evs.cons ?zl3 Evs.nil) hread ?zl4) ?zl5
                    case zl1 => walk_at "nm"
                    case zl2 => walk_at "kept"
                    case zl3 => walk_at "ev"
                    case zl4 => omega
                    case zl5 => walk_at "ev"
                  case zk2 =>
                    refine' Te.compare (Ev.call ?zl1 ?zl2 (Evs.cons (Ev.meth ?zl3 (Mth.str PySem.F.slot_str_encode PySem.F.type_str_encode PySem.F.plainAttrs_str) (Kept.builtin _ _) Evs.nil (Cal.encode (w := c.w) (n := 0) u.txt hasc (by omega)) (Nat.zero_le _)) Evs.nil) hparen ?zl4) ?zl5 (Cop.ne_int 0 0)
                    case zl1 => walk_at "nm"
                    case zl2 => walk_at "kept"
                    case zl3 => walk_at "ev"
                    case zl4 => omega
                    case zl5 => walk_at "ev"
                  case zk3 =>
                    show Tr _ _ _ _
                    exact Tr.has (vars := [(Str.ofString "tree", t.dt), (Str.ofString "deepest", .int (vl u))]) (own := lawOwn aD aC aU (some (.lst (natsD S))) none none) ⟨rfl, rfl, rfl, trivial⟩ h
end
end
section
open PySem PySem.W PySem.Calls PyProof.Rows PySem.Spec
set_option Elab.async false
set_option maxRecDepth 100000
set_option linter.unusedVariables false
set_option linter.unusedSimpArgs false
section
/-! the plain law: rows, rounds, the sorted tree -/
noncomputable def mxr : List Nat → Nat
  | [] => 0
  | r :: rs => max (r + 1) (mxr rs)
theorem mxr_app : ∀ a b : List Nat, mxr (a ++ b) = max (mxr a) (mxr b)
  | [], b => by simp [mxr]
  | r :: rs, b => by simp only [List.cons_append, mxr, mxr_app rs b, Nat.max_assoc]
theorem mxr_up : ∀ a : List Nat, a ≠ [] → mxr (a.map (· + 1)) = mxr a + 1
  | [], h => absurd rfl h
  | [r], _ => by simp [mxr]
  | r :: q :: rs, _ => by
    have ih := mxr_up (q :: rs) (by simp)
    show max (r + 1 + 1) (mxr ((q :: rs).map (· + 1))) = max (r + 1) (mxr (q :: rs)) + 1
    rw [ih]; omega
theorem bump_length (l : List Nat) (b : Nat) : (bump l b).length = max l.length (b + 1) := by
  unfold bump
  dsimp only
  rw [List.length_set]
  split
  · rw [List.length_append, List.length_replicate]; omega
  · omega
theorem run_blanks (s : Wst) : ∀ r : Nat, (List.replicate r 32).foldl wsStep s = (s.1, s.2.1 + r, s.2.2.1 + r, s.2.2.2)
  | 0 => rfl
  | r + 1 => by
    have ih := run_blanks (wsStep s 32) r
    rw [List.replicate_succ, List.foldl_cons, ih]
    unfold wsStep
    rw [if_pos rfl]
    dsimp only
    rw [show s.2.1 + 1 + r = s.2.1 + (r + 1) by omega, show s.2.2.1 + 1 + r = s.2.2.1 + (r + 1) by omega]
theorem run_rows (rows : List Nat) : ∀ s : Wst, s.2.1 = 0 → ((ldl rows).foldl wsStep s).1.length = max s.1.length (mxr rows) ∧ ((ldl rows).foldl wsStep s).2.1 = 0 := by
  induction rows with
  | nil => intro s h; exact ⟨by simp [ldl, mxr], h⟩
  | cons r rs ih =>
    intro s h
    have e : ldl (r :: rs) = List.replicate r 32 ++ [9] ++ ldl rs := by simp [ldl]
    rw [e, List.foldl_append, List.foldl_append, run_blanks]
    have e2 : [9].foldl wsStep (s.1, s.2.1 + r, s.2.2.1 + r, s.2.2.2) = (bump s.1 (s.2.1 + r), 0, s.2.2.1 + r + 1, s.2.2.2 + 1) := by
      show wsStep _ 9 = _
      unfold wsStep
      rw [if_neg (by decide)]
    rw [e2]
    obtain ⟨i1, i2⟩ := ih (bump s.1 (s.2.1 + r), 0, s.2.2.1 + r + 1, s.2.2.2 + 1) rfl
    refine ⟨?_, i2⟩
    rw [i1, bump_length, h, mxr]
    rw [Nat.zero_add, Nat.max_assoc]
theorem ldp_list (rows : List Nat) (r : Nat) : (ldp (rows ++ [r])).cps.toList = ldl rows ++ List.replicate r 32 := by
  have e : ldl (rows ++ [r]) = ldl rows ++ List.replicate r 32 ++ [9] := by simp [ldl]
  rw [slice_last _ (by rw [ld_len]; simp; omega), ld_list, e]
  have hl : (ld (rows ++ [r])).length - 1 = (ldl rows ++ List.replicate r 32).length := by
    have : (ld (rows ++ [r])).length = (ldl (rows ++ [r])).length := by rw [← ld_list, Array.length_toList]; rfl
    rw [this, e, List.length_append, List.length_singleton]; rfl
  rw [hl, List.take_left]
theorem vl_mxr (x : T) : vl x = (mxr x.rws : Int) - 1 := by
  have hp := rws_pos x
  obtain ⟨rows, r, e⟩ : ∃ rows r, x.rws = rows ++ [r] := by
    generalize x.rws = l at hp
    exact ⟨l.dropLast, l.getLast (by intro q; rw [q] at hp; simp at hp), (List.dropLast_concat_getLast _).symm⟩
  unfold vl
  rw [e, mxr_app]
  unfold wsLong
  rw [ldp_list]
  unfold wsRun
  rw [List.foldl_append, run_blanks]
  obtain ⟨h1, h2⟩ := run_rows rows ([], 0, 0, 0) rfl
  dsimp only
  rw [h2, h1]
  simp only [List.length_nil, mxr]
  split <;> omega
noncomputable def T.stra : T → Nat
  | .leaf _ => 0
  | .node a _ b => if a.stra = b.stra then a.stra + 1 else max a.stra b.stra
theorem cut_stra : ∀ t : T, match t.cut with
    | none => t.stra = 0
    | some t' => t'.stra + 1 = t.stra
  | .leaf _ => rfl
  | .node a n b => by
    have ia := cut_stra a
    have ib := cut_stra b
    simp only [T.cut]
    cases ea : a.cut <;> cases eb : b.cut <;> rw [ea] at ia <;> rw [eb] at ib <;> simp only [T.stra] at ia ib ⊢
    · rw [ia, ib, if_pos rfl]
    · split <;> omega
    · split <;> omega
    · rename_i x y
      split <;> split <;> omega
theorem rounds_stra : ∀ (n : Nat) (t : T), t.sz ≤ n → t.rounds = t.stra + 1 := by
  intro n
  induction n with
  | zero => intro t h; have := cut_sz t; omega
  | succ n ih =>
    intro t h
    have h1 := cut_sz t
    have h2 := cut_stra t
    show rds t.sz (some t) = _
    rw [rds_step]
    cases e : t.cut with
    | none =>
      rw [e] at h2
      rw [h2]
      rfl
    | some t' =>
      rw [e] at h1 h2
      have h1 : t'.sz < t.sz := h1
      have := ih t' (by omega)
      show rds t'.sz (some t') + 1 = _
      rw [show rds t'.sz (some t') = t'.rounds from rfl, this]
      exact congrArg (· + 1) h2
noncomputable def T.srt (way : Int) : T → T
  | .leaf s => .leaf s
  | .node a n b => arr way (a.srt way) (b.srt way) n
theorem jt_srt (way : Int) (ts : List T) (p : Nat) (n : Int) : jt2 way (ts.map (T.srt way)) p n = (jt ts p n).map (T.srt way) := by
  have hg : ∀ q, (ts.map (T.srt way)).getD q T0 = T.srt way (ts.getD q T0) := fun q => by
    rw [List.getD_eq_getElem?_getD, List.getD_eq_getElem?_getD, List.getElem?_map]
    cases ts[q]? <;> rfl
  unfold jt2 jt
  rw [hg, hg]
  simp [T.srt]
theorem lrs_srt (way : Int) (qs : List Nat) (told : Nat) : ∀ k, lrs way qs told k = ((trs qs told k).1.map (T.srt way), (trs qs told k).2)
  | 0 => by simp [lrs, trs, T.srt]
  | k + 1 => by
    have ih := lrs_srt way qs told k
    unfold lrs trs
    rw [ih]
    dsimp only
    rw [jt_srt]
theorem join_srt (way : Int) (qs : List Nat) (told : Nat) : joinOf way qs told = (treeOf qs told).srt way := by
  unfold joinOf treeOf
  rw [lrs_srt]
  dsimp only
  rw [List.getD_eq_getElem?_getD, List.getD_eq_getElem?_getD, List.getElem?_map]
  cases (trs qs told 4).1[0]? <;> rfl
theorem mx_node (x y : T) (n : Int) : mxr (T.node x n y).rws = max (mxr x.rws) (mxr y.rws + 1) := by
  have hp := rws_pos y
  simp only [T.rws]
  rw [mxr_app, mxr_up _ (by intro q; rw [q] at hp; simp at hp)]
theorem srt_mx (way : Int) : ∀ t : T, mxr (t.srt way).rws = t.stra + 1
  | .leaf s => rfl
  | .node a n b => by
    have ia := srt_mx way a
    have ib := srt_mx way b
    simp only [T.srt, T.stra]
    unfold arr
    generalize a.srt way = x at *
    generalize b.srt way = y at *
    have vx := vl_mxr x
    have vy := vl_mxr y
    rw [ia] at vx
    rw [ib] at vy
    rw [vx, vy]
    unfold cmpv
    rcases Nat.lt_trichotomy a.stra b.stra with h | h | h
    · rw [if_pos (show ((a.stra + 1 : Nat) : Int) - 1 < ((b.stra + 1 : Nat) : Int) - 1 by omega), if_pos (by decide), mx_node, ia, ib, if_neg (by omega)]; omega
    · rw [h, if_pos rfl]
      have hb : ∀ q : Bool, mxr (if q = true then T.node y n x else T.node x n y).rws = b.stra + 1 + 1 := fun q => by
        cases q
        · rw [if_neg (by decide), mx_node, ia, ib]; omega
        · rw [if_pos rfl, mx_node, ia, ib]; omega
      generalize (if ((b.stra + 1 : Nat) : Int) - 1 < ((b.stra + 1 : Nat) : Int) - 1 then (1 : Int) else _) = cc
      by_cases hq : 0 < cc
      · have := hb true
        simpa [hq] using this
      · have := hb false
        simpa [hq] using this
    · rw [if_neg (show ¬ ((a.stra + 1 : Nat) : Int) - 1 < ((b.stra + 1 : Nat) : Int) - 1 by omega), if_pos (show ((b.stra + 1 : Nat) : Int) - 1 < ((a.stra + 1 : Nat) : Int) - 1 by omega), if_neg (by decide), mx_node, ia, ib, if_neg (by omega)]; omega
theorem sLt_asymm {s t : Str} (h : sLt s t = true) : sLt t s = false := by
  unfold sLt at h ⊢
  rw [decide_eq_true_eq] at h
  rw [decide_eq_false_iff_not]
  exact List.lt_asymm h
theorem sLt_eq {s t : Str} (h1 : sLt s t = false) (h2 : sLt t s = false) : s = t := by
  unfold sLt at h1 h2
  rw [decide_eq_false_iff_not] at h1 h2
  exact Str.ext_list (List.le_antisymm (List.not_lt.mp h2) (List.not_lt.mp h1))
theorem plain_srt (way : Int) (hw : way = 1 ∨ way = -1) : ∀ t : T, t.plain way = ((t.stra : Int), (t.srt way).txt)
  | .leaf s => rfl
  | .node a n b => by
    have ia := plain_srt way hw a
    have ib := plain_srt way hw b
    have ma := srt_mx way a
    have mb := srt_mx way b
    simp only [T.plain, ia, ib, T.srt, T.stra]
    unfold arr
    generalize a.srt way = x at *
    generalize b.srt way = y at *
    have vx := vl_mxr x
    have vy := vl_mxr y
    rw [ma] at vx
    rw [mb] at vy
    rw [vx, vy]
    unfold cmpv
    rcases Nat.lt_trichotomy a.stra b.stra with h | h | h
    · have e1 : decide ((b.stra : Int) > (a.stra : Int)) = true := decide_eq_true (by omega)
      rw [if_pos (show ((a.stra + 1 : Nat) : Int) - 1 < ((b.stra + 1 : Nat) : Int) - 1 by omega), if_pos (show (0 : Int) < 1 by decide), if_neg (show ¬ a.stra = b.stra by omega)]
      simp only [e1, Bool.true_or, if_true]
      refine Prod.ext ?_ rfl
      dsimp only
      split <;> omega
    · rw [h]
      have e1 : decide ((b.stra : Int) > (b.stra : Int)) = false := decide_eq_false (by omega)
      have e2 : ((b.stra : Int) == (b.stra : Int)) = true := by simp
      rw [if_neg (show ¬ ((b.stra + 1 : Nat) : Int) - 1 < ((b.stra + 1 : Nat) : Int) - 1 by omega), if_neg (show ¬ ((b.stra + 1 : Nat) : Int) - 1 < ((b.stra + 1 : Nat) : Int) - 1 by omega), if_pos rfl]
      simp only [e1, e2, Bool.false_or, Bool.true_and]
      have hval : ∀ (p q : Bool) (u v : Str), (if (((b.stra : Int)) + 1 > ((b.stra : Int))) then ((b.stra : Int)) + 1 else ((b.stra : Int))) = (((b.stra + 1 : Nat)) : Int) := fun _ _ _ _ => by rw [if_pos (by omega)]; omega
      cases l1 : sLt x.txt y.txt with
      | true =>
        have l2 := sLt_asymm l1
        rw [l2]
        rcases hw with rfl | rfl
        · have : (false == ((1 : Int) == 1)) = false := by decide
          simp only [this, if_true, Bool.false_eq_true, if_false, show ¬ (0 : Int) < -1 by decide, T.txt]
          refine Prod.ext ?_ rfl
          exact hval true true x.txt x.txt
        · have : (false == ((-1 : Int) == 1)) = true := by decide
          simp only [this, if_true, show (0 : Int) < - -1 by decide, T.txt]
          refine Prod.ext ?_ rfl
          exact hval true true x.txt x.txt
      | false =>
        cases l2 : sLt y.txt x.txt with
        | true =>
          rcases hw with rfl | rfl
          · have : (true == ((1 : Int) == 1)) = true := by decide
            simp only [this, if_true, Bool.false_eq_true, if_false, show (0 : Int) < 1 by decide, T.txt]
            refine Prod.ext ?_ rfl
            exact hval true true x.txt x.txt
          · have : (true == ((-1 : Int) == 1)) = false := by decide
            simp only [this, if_true, Bool.false_eq_true, if_false, show ¬ (0 : Int) < -1 by decide, T.txt]
            refine Prod.ext ?_ rfl
            exact hval true true x.txt x.txt
        | false =>
          have he := sLt_eq l1 l2
          simp only [Bool.false_eq_true, if_false, show ¬ (0 : Int) < 0 by decide, T.txt, he]
          refine Prod.ext ?_ ?_
          · dsimp only
            split <;> exact hval true true x.txt x.txt
          · dsimp only
            split <;> rfl
    · have e1 : decide ((b.stra : Int) > (a.stra : Int)) = false := decide_eq_false (by omega)
      have e2 : ((b.stra : Int) == (a.stra : Int)) = false := by simp; omega
      rw [if_neg (show ¬ ((a.stra + 1 : Nat) : Int) - 1 < ((b.stra + 1 : Nat) : Int) - 1 by omega), if_pos (show ((b.stra + 1 : Nat) : Int) - 1 < ((a.stra + 1 : Nat) : Int) - 1 by omega), if_neg (show ¬ (0 : Int) < -1 by decide), if_neg (show ¬ a.stra = b.stra by omega)]
      simp only [e1, e2, Bool.false_or, Bool.false_and, Bool.false_eq_true, if_false]
      refine Prod.ext ?_ rfl
      dsimp only
      split <;> omega
end
end
section
open PySem PySem.W PySem.Calls PyProof.Rows PySem.Spec
set_option Elab.async false
set_option maxRecDepth 100000
set_option linter.unusedVariables false
set_option linter.unusedSimpArgs false
section
/-! the plain law: the reading of a text -/
theorem WQ.pre {p : List UInt8} (hp : ∀ x ∈ p, x ≠ 34) {l r : List UInt8} (h : WQ l r) : WQ (p ++ l) (p ++ r) := by
  cases h with
  | plain h => exact .plain fun x hx => (List.mem_append.mp hx).elim (hp x) (h x)
  | @quo pre mid l r h1 h2 h3 =>
    rw [← List.append_assoc, ← List.append_assoc]
    exact .quo (fun x hx => (List.mem_append.mp hx).elim (hp x) (h1 x)) h2 h3
theorem WQ.app {l r l' r' : List UInt8} (h : WQ l r) (h' : WQ l' r') : WQ (l ++ l') (r ++ r') := by
  induction h with
  | plain h => exact h'.pre h
  | @quo pre mid l r h1 h2 h3 ih =>
    have := WQ.quo h1 h2 ih
    simpa [List.append_assoc] using this
theorem net_app (a b : List UInt8) : net (a ++ b) = net a + net b := by
  unfold net
  rw [List.count_append, List.count_append]; omega
theorem enc_app (s t : Str) : (enc (s ++ t)).toList = (enc s).toList ++ (enc t).toList := by
  simp [enc, Str.cps_append]
noncomputable def Cd (s : Str) (d : Int) : Prop := (∀ c ∈ s.cps.toList, c < 128 ∧ c ≠ 40) ∧ ∃ res, WQ (enc s).toList res ∧ net res = d
noncomputable def Pl (s : Str) : Prop := ∀ c ∈ s.cps.toList, c < 128 ∧ c ≠ 40 ∧ c ≠ 41 ∧ c ≠ 34
theorem enc_mem {s : Str} {x : UInt8} (h : x ∈ (enc s).toList) : ∃ c ∈ s.cps.toList, c.toUInt8 = x := by
  simp only [enc, Array.toList_map, List.mem_map] at h
  exact h
theorem u8_nk {c k : Nat} (hc : c < 128) (hk : k < 128) (h : c ≠ k) : c.toUInt8 ≠ k.toUInt8 := by
  intro e
  have := congrArg UInt8.toNat e
  simp at this
  omega
theorem Pl.wq {s : Str} (h : Pl s) : WQ (enc s).toList (enc s).toList ∧ net (enc s).toList = 0 := by
  refine ⟨.plain fun x hx => ?_, ?_⟩
  · obtain ⟨c, hc, rfl⟩ := enc_mem hx
    exact u8_nk (h c hc).1 (by decide) (h c hc).2.2.2
  · unfold net
    have h1 : (enc s).toList.count 40 = 0 := List.count_eq_zero.mpr fun hx => by
      obtain ⟨c, hc, e⟩ := enc_mem hx
      exact u8_nk (h c hc).1 (by decide) (h c hc).2.1 e
    have h2 : (enc s).toList.count 41 = 0 := List.count_eq_zero.mpr fun hx => by
      obtain ⟨c, hc, e⟩ := enc_mem hx
      exact u8_nk (h c hc).1 (by decide) (h c hc).2.2.1 e
    rw [h1, h2]; rfl
theorem Cd.plain {s t : Str} {d : Int} (h : Cd s d) (ht : Pl t) : Cd (s ++ t) d := by
  obtain ⟨h1, res, h2, h3⟩ := h
  obtain ⟨t1, t2⟩ := ht.wq
  refine ⟨fun c hc => ?_, res ++ (enc t).toList, ?_, ?_⟩
  · rw [Str.cps_append, Array.toList_append] at hc
    exact (List.mem_append.mp hc).elim (h1 c) fun q => ⟨(ht c q).1, (ht c q).2.1⟩
  · rw [enc_app]; exact h2.app t1
  · rw [net_app, h3, t2]; omega
theorem wq_l : WQ (enc (Str.ofString "(")).toList (enc (Str.ofString "(")).toList := .plain (by
  have e : (enc (Str.ofString "(")).toList = [40] := by decide +kernel
  rw [e]; decide)
theorem wq_r : WQ (enc (Str.ofString ")")).toList (enc (Str.ofString ")")).toList := .plain (by
  have e : (enc (Str.ofString ")")).toList = [41] := by decide +kernel
  rw [e]; decide)
theorem Cd.close {s : Str} {d : Int} (h : Cd s d) : Cd (s ++ Str.ofString ")") (d - 1) := by
  obtain ⟨h1, res, h2, h3⟩ := h
  refine ⟨fun c hc => ?_, res ++ (enc (Str.ofString ")")).toList, ?_, ?_⟩
  · rw [Str.cps_append, Array.toList_append] at hc
    refine (List.mem_append.mp hc).elim (h1 c) fun q => ?_
    have : c = 41 := by simpa [Str.ofString] using (show c ∈ [41] from q)
    subst this; decide
  · rw [enc_app]; exact h2.app wq_r
  · rw [net_app, h3, show net (enc (Str.ofString ")")).toList = -1 by decide +kernel]; omega
theorem pl_num (n : Int) (h0 : 0 ≤ n) (h1 : n < 100) : Pl (Str.ofString (toString n)) := by
  have key : ∀ k : Fin 100, ((Str.ofString (toString ((k.val : Nat) : Int))).cps.toList.all fun c => c < 128 && c ≠ 40 && c ≠ 41 && c ≠ 34) = true := by decide +kernel
  have := key ⟨n.toNat, by omega⟩
  have e : ((n.toNat : Nat) : Int) = n := by omega
  simp only [e] at this
  intro c hc
  have := List.all_eq_true.mp this c hc
  simpa [and_assoc] using this
theorem pl_colon : Pl (Str.ofString ":") := by
  intro c hc
  have : c = 58 := by simpa using (show c ∈ [58] from hc)
  subst this; decide
noncomputable def LG (s : Str) : Prop := 3 ≤ s.length ∧ Cd s 0
noncomputable def T.lg : T → Prop
  | .leaf s => LG s
  | .node a n b => 0 ≤ n ∧ n < 100 ∧ a.lg ∧ b.lg
noncomputable def T.chs : T → List Str × Str
  | .leaf s => ([], s)
  | .node a n b => (a.chs.1 ++ (a.chs.2 ++ Str.ofString ":" ++ Str.ofString (toString n)) :: b.chs.1, b.chs.2 ++ Str.ofString ")")
noncomputable def T.tl : T → List Nat
  | .leaf _ => []
  | .node a _ b => a.tl ++ 1 :: b.tl.map (· + 1)
theorem rws_tl : ∀ t : T, t.rws = 0 :: t.tl
  | .leaf _ => rfl
  | .node a n b => by simp [T.rws, T.tl, rws_tl a, rws_tl b]
inductive Rd : Int → List Str → List Nat → Int → Prop
  | nil {d} : Rd d [] [] d
  | cons {d d' e : Int} {ch cs} {r : Nat} {rs} : Cd ch e → d + e + 1 = r → Rd r cs rs d' → Rd d (ch :: cs) (r :: rs) d'
theorem Rd.app {d d1 d2 : Int} {cs cs' rs rs'} (h : Rd d cs rs d1) (h' : Rd d1 cs' rs' d2) : Rd d (cs ++ cs') (rs ++ rs') d2 := by
  induction h with
  | nil => exact h'
  | cons a b _ ih => exact .cons a b (ih h')
theorem rd_tree : ∀ (t : T), t.lg → ∀ p : Nat, ∃ dl e, Rd p t.chs.1 (t.tl.map (· + p)) dl ∧ Cd t.chs.2 e ∧ dl + e = p
  | .leaf s, h, p => ⟨p, 0, .nil, h.2, by omega⟩
  | .node a n b, h, p => by
    obtain ⟨h0, h1, ha, hb⟩ := h
    obtain ⟨da, ea, ra, ca, qa⟩ := rd_tree a ha p
    obtain ⟨db, eb, rb, cb, qb⟩ := rd_tree b hb (p + 1)
    refine ⟨db, eb - 1, ?_, cb.close, by omega⟩
    have e1 : (T.node a n b).tl.map (· + p) = a.tl.map (· + p) ++ (p + 1) :: b.tl.map (· + (p + 1)) := by
      simp only [T.tl, List.map_append, List.map_cons, List.map_map]
      congr 1
      rw [show 1 + p = p + 1 by omega]
      congr 1
      refine List.map_congr_left fun x _ => ?_
      show x + 1 + p = x + (p + 1)
      omega
    rw [e1]
    exact ra.app (.cons ((ca.plain pl_colon).plain (pl_num n h0 h1)) (by push_cast; omega) rb)
theorem chs_len : ∀ (t : T), t.lg → (∀ ch ∈ t.chs.1, ch.length ≤ t.wt) ∧ t.chs.2.length ≤ t.wt ∧ t.chs.1.length + 1 ≤ t.sz
  | .leaf s, _ => ⟨(fun _ h => nomatch h), Nat.le_refl _, Nat.le_refl _⟩
  | .node a n b, h => by
    obtain ⟨h0, h1, ha, hb⟩ := h
    obtain ⟨a1, a2, a3⟩ := chs_len a ha
    obtain ⟨b1, b2, b3⟩ := chs_len b hb
    have hn := Str.length_ofInt n h0 h1
    refine ⟨fun ch hc => ?_, ?_, ?_⟩
    · simp only [T.chs] at hc
      simp only [T.wt]
      rcases List.mem_append.mp hc with q | q
      · have := a1 ch q; omega
      · rcases List.mem_cons.mp q with rfl | q
        · simp only [Str.length_append, len_colon]; omega
        · have := b1 ch q; omega
    · simp only [T.chs, T.wt, Str.length_append, len_rpar]; omega
    · simp only [T.chs, T.sz, List.length_append, List.length_cons]; omega
theorem jl_last (c : Nat) (s p : List Nat) : ∀ l : List (List Nat), jl c (l ++ [p ++ s]) = jl c (l ++ [p]) ++ s
  | [] => rfl
  | [q] => by simp [jl]
  | q :: r :: l => by
    have ih := jl_last c s p (r :: l)
    show q ++ c :: jl c (r :: l ++ [p ++ s]) = (q ++ c :: jl c (r :: l ++ [p])) ++ s
    rw [ih]; simp
theorem jl_mid (c : Nat) (p q : List Nat) (r : List (List Nat)) : ∀ l : List (List Nat), jl c (l ++ p :: q :: r) = jl c (l ++ [p]) ++ c :: jl c (q :: r)
  | [] => rfl
  | [x] => by simp [jl]
  | x :: y :: l => by
    have ih := jl_mid c p q r (y :: l)
    show x ++ c :: jl c (y :: l ++ p :: q :: r) = (x ++ c :: jl c (y :: l ++ [p])) ++ c :: jl c (q :: r)
    rw [ih]; simp
noncomputable abbrev chl (t : T) : List (List Nat) := (t.chs.1 ++ [t.chs.2]).map fun p => p.cps.toList
theorem txt_jl : ∀ t : T, t.txt.cps.toList = jl 40 (chl t)
  | .leaf s => rfl
  | .node a n b => by
    have ia := txt_jl a
    have ib := txt_jl b
    have e1 : ∀ s : String, ∀ l, (Str.ofString s).cps.toList = l → (Str.ofString s).cps.toList = l := fun _ _ h => h
    show (jn a.txt n b.txt).cps.toList = _
    unfold jn
    simp only [Str.cps_append, Array.toList_append, ia, ib]
    have hl : chl (.node a n b) = a.chs.1.map (fun p => p.cps.toList) ++ (a.chs.2.cps.toList ++ ((Str.ofString ":").cps.toList ++ (Str.ofString (toString n)).cps.toList)) :: (b.chs.1.map (fun p => p.cps.toList) ++ [b.chs.2.cps.toList ++ (Str.ofString ")").cps.toList]) := by
      simp [chl, T.chs, Str.cps_append]
    rw [hl]
    obtain ⟨q, r, hb⟩ : ∃ q r, b.chs.1.map (fun p => p.cps.toList) ++ [b.chs.2.cps.toList ++ (Str.ofString ")").cps.toList] = q :: r := by
      cases b.chs.1.map (fun p => p.cps.toList) with
      | nil => exact ⟨_, _, rfl⟩
      | cons q r => exact ⟨_, _, rfl⟩
    rw [hb, jl_mid, ← hb, jl_last, jl_last]
    have e2 : (Str.ofString "(").cps.toList = [40] := by decide +kernel
    rw [e2]
    simp [chl]
theorem ways_lg : ∀ (t x : T), x ∈ t.ways → t.lg → x.lg := by
  intro t
  induction t with
  | leaf s => intro x hx h; simp [T.ways] at hx; subst hx; exact h
  | node a n b ia ib =>
    intro x hx h
    obtain ⟨h0, h1, ha, hb⟩ := h
    simp only [T.ways, List.mem_flatMap, List.mem_cons, List.not_mem_nil, or_false] at hx
    obtain ⟨y, hy, z, hz, hx⟩ := hx
    have gy := ia y hy ha
    have gz := ib z hz hb
    rcases hx with rfl | rfl
    · exact ⟨h0, h1, gy, gz⟩
    · exact ⟨h0, h1, gz, gy⟩
theorem lg_gd : ∀ t : T, t.lg → t.gd
  | .leaf s, h => Nat.le_trans (by decide) h.1
  | .node a n b, ⟨h0, h1, ha, hb⟩ => ⟨h0, h1, lg_gd a ha, lg_gd b hb⟩
theorem cd_ascii {s : Str} {d : Int} (h : Cd s d) : ascii s := fun c hc => (h.1 c hc).1
theorem Rd.cds {d d' : Int} {cs rs} (h : Rd d cs rs d') : ∀ ch ∈ cs, ∃ e, Cd ch e := by
  induction h with
  | nil => intro ch hc; cases hc
  | cons a b _ ih => intro ch hc; rcases List.mem_cons.mp hc with rfl | hc; exact ⟨_, a⟩; exact ih ch hc
theorem Rd.len {d d' : Int} {cs rs} (h : Rd d cs rs d') : rs.length = cs.length := by
  induction h with
  | nil => rfl
  | cons a b _ ih => rw [List.length_cons, List.length_cons, ih]
theorem Rd.chk {d d' : Int} {cs rs} (h : Rd d cs rs d') : ∀ d0 : Nat, d = d0 → (∀ ch ∈ cs, ch.length ≤ 80000) →
    (∀ (i : Nat) x p q, cs[i]? = some x → (d0 :: rs)[i]? = some p → rs[i]? = some q → Chk (x ++ Str.ofString "(") (p : Int) (q : Int)) ∧ (∀ p : Nat, (d0 :: rs)[rs.length]? = some p → (p : Int) = d') := by
  induction h with
  | nil =>
    intro d0 hd _
    exact ⟨fun i x p q e => by simp at e, fun p hp => by simp at hp; omega⟩
  | @cons d d' e ch cs r rs a b _ ih =>
    intro d0 hd hl
    obtain ⟨i1, i2⟩ := ih r rfl fun c hc => hl c (.tail _ hc)
    refine ⟨fun i x p q e1 e2 e3 => ?_, fun p hp => ?_⟩
    · cases i with
      | zero =>
        simp at e1 e2 e3
        subst e1 e2 e3
        obtain ⟨h1, res, h2, h3⟩ := a
        have hx := hl ch (.head _)
        refine ⟨fun c hc => ?_, by rw [Str.length_append, len_lpar]; omega, res ++ (enc (Str.ofString "(")).toList, ?_, ?_⟩
        · rw [Str.cps_append, Array.toList_append] at hc
          refine (List.mem_append.mp hc).elim (fun q => (h1 c q).1) fun q => ?_
          have : c = 40 := by simpa using (show c ∈ [40] from q)
          subst this; decide
        · rw [enc_app]; exact h2.app wq_l
        · rw [net_app, h3, show net (enc (Str.ofString "(")).toList = 1 by decide +kernel]; omega
      | succ i => exact i1 i x p q (by simpa using e1) (by simpa using e2) (by simpa using e3)
    · exact i2 p (by simpa using hp)
theorem read_ok (w : World) (x : T) (h : x.lg) (hw : x.wt ≤ 10000) (hs : x.sz ≤ 50) (hr : ∀ r ∈ x.tl, r ≤ 1000) : Cal w (.ref 328) 2 [.str x.txt] (.tup [.str (ld x.rws), .int 0]) := by
  obtain ⟨dl, e, rd, cd, q⟩ := rd_tree x h 0
  have e0 : x.tl.map (· + 0) = x.tl := by simp
  rw [e0] at rd
  obtain ⟨l1, l2, l3⟩ := chs_len x h
  obtain ⟨c1, c2⟩ := rd.chk 0 rfl fun ch hc => Nat.le_trans (l1 ch hc) (by omega)
  have hg := (txt_len x (lg_gd x h)).1
  rw [rws_tl x]
  have e2 : Str.ofString "(" = ⟨#[40]⟩ := by decide +kernel
  refine read_cal w x.txt x.chs.1 x.chs.2 x.tl 0 (by omega) ?_ rd.len hr (by omega) c1 fun p hp => ?_
  · rw [e2]
    refine split_eq _ 40 _ (by simp) (fun p hp => ?_) (txt_jl x)
    rcases List.mem_append.mp hp with hp | hp
    · obtain ⟨e, c⟩ := rd.cds p hp
      exact fun hc => (c.1 _ hc).2 rfl
    · rw [List.mem_singleton.mp hp]
      exact fun hc => (cd.1 _ hc).2 rfl
  · have := c2 p hp
    obtain ⟨h1, res, h2, h3⟩ := cd
    exact ⟨fun c hc => (h1 c hc).1, by omega, res, h2, by omega⟩
theorem paren_tree : ∀ t : T, t.lg → ascii t.txt ∧ ∃ res, WQ (enc t.txt).toList res ∧ net res = 0
  | .leaf s, h => ⟨cd_ascii h.2, h.2.2⟩
  | .node a n b, ⟨h0, h1, ha, hb⟩ => by
    obtain ⟨aa, ra, wa, na⟩ := paren_tree a ha
    obtain ⟨ab, rb, wb, nb⟩ := paren_tree b hb
    have hn := pl_num n h0 h1
    obtain ⟨n1, n2⟩ := hn.wq
    obtain ⟨c1, c2⟩ := pl_colon.wq
    have asc : ∀ {s t : Str}, ascii s → ascii t → ascii (s ++ t) := fun h1 h2 c hc => by
      rw [Str.cps_append, Array.toList_append] at hc
      exact (List.mem_append.mp hc).elim (h1 c) (h2 c)
    have one : ascii (Str.ofString "(") ∧ ascii (Str.ofString ")") := ⟨fun c hc => by
      have : c = 40 := by simpa using (show c ∈ [40] from hc)
      subst this; decide, fun c hc => by
      have : c = 41 := by simpa using (show c ∈ [41] from hc)
      subst this; decide⟩
    show ascii (jn a.txt n b.txt) ∧ _
    unfold jn
    refine ⟨asc (asc (asc (asc (asc aa fun c hc => (pl_colon c hc).1) fun c hc => (hn c hc).1) one.1) ab) one.2, ra ++ (enc (Str.ofString ":")).toList ++ (enc (Str.ofString (toString n))).toList ++ (enc (Str.ofString "(")).toList ++ rb ++ (enc (Str.ofString ")")).toList, ?_, ?_⟩
    · show WQ (enc (jn a.txt n b.txt)).toList _
      unfold jn
      rw [enc_app, enc_app, enc_app, enc_app, enc_app]
      exact ((((wa.app c1).app n1).app wq_l).app wb).app wq_r
    · rw [net_app, net_app, net_app, net_app, net_app, na, c2, n2, nb, show net (enc (Str.ofString "(")).toList = 1 by decide +kernel, show net (enc (Str.ofString ")")).toList = -1 by decide +kernel]; decide
theorem paren_ok (w : World) (x : T) (h : x.lg) (hw : x.wt ≤ 10000) : Cal w (.ref 191) 1 [.bytes (enc x.txt)] (.int 0) := by
  obtain ⟨_, res, h2, h3⟩ := paren_tree x h
  have hg := (txt_len x (lg_gd x h)).1
  have := paren_one w (enc x.txt) res h2 (by rw [enc_size]; omega)
  rw [h3] at this
  exact this
end
end
section
open PySem PySem.W PySem.Calls PyProof.Rows PySem.Spec
set_option Elab.async false
set_option maxRecDepth 100000
set_option linter.unusedVariables false
set_option linter.unusedSimpArgs false
section
/-! the plain law: the 24 shapes -/
noncomputable def keyL (l : List Nat) : Nat := if l.getD 2 0 = 125 ∨ l.getD 2 0 = 41 then l.getD 1 0 else l.getD 2 0
noncomputable def T.st : T → T
  | .leaf s => .leaf ⟨#[keyL s.cps.toList]⟩
  | .node a _ b => .node a.st 0 b.st
noncomputable def trs0 (told : Nat) : Nat → List T × Nat
  | 0 => ((List.range 5).map fun k => .leaf ⟨#[66 + k]⟩, told)
  | k + 1 => let s := trs0 told k; (jt s.1 (s.2 % (4 - k)) 0, s.2 / (4 - k))
noncomputable def shape (told : Nat) : T := (trs0 told 4).1.getD 0 T0
noncomputable def T.ord0 : T → List Nat
  | .leaf s => [s.cps.toList.getD 0 0]
  | .node a _ b => a.ord0 ++ b.ord0
noncomputable def sameB (l1 l2 : List (Int × Int)) : Bool := l1.length == l2.length && l1.all fun p => dget l2 p.1 == some p.2
noncomputable def nodupB (l : List (List Nat)) : Bool := decide l.Nodup
noncomputable def smallB (l : List (Int × Int)) : Bool := decide (l.length ≤ 100) && l.all fun p => decide (p.2.natAbs < 2 ^ 60)
noncomputable def T.dokB : T → Bool
  | .leaf _ => true
  | .node a _ b => a.dokB && b.dokB && smallB a.dep && smallB b.dep
noncomputable def chkShape (t : T) : Bool :=
  let R := t.ways.map T.rws
  let tt := R.foldl totS tot0
  let dd := R.foldl depS []
  tt.1 == 16 && tt.2.1 == 80 && tt.2.2.1 == sumXD t.dep && tt.2.2.2.1 == 80 + 8 * ((t.lvn.sum : Nat) : Int) && sameB tt.2.2.2.2 (tabOf t.lvn) && sameB dd t.dep &&
    sumV dd == 16 && sumV tt.2.2.2.2 == 80 && (dd.map Prod.fst).contains (t.stra : Int) && (dd.map Prod.fst).all (fun k => (t.stra : Int) ≤ k) &&
    t.ways.length == 16 && nodupB (t.ways.map T.ord0) && t.lvn.all (· ≤ 4) && t.lvn.length == 5 && t.dep.all (fun p => p.2.natAbs < 1000) && decide (t.dep.length ≤ 100) && t.tl.all (· ≤ 4) && t.ht ≤ 4 && t.sz == 9 && t.dokB
theorem all24 : ∀ i : Fin 24, chkShape (shape i.val) = true := by decide +kernel
theorem st_rws : ∀ t : T, t.st.rws = t.rws
  | .leaf _ => rfl
  | .node a n b => by simp only [T.st, T.rws, st_rws a, st_rws b]
theorem st_lvn : ∀ t : T, t.st.lvn = t.lvn
  | .leaf _ => rfl
  | .node a n b => by simp only [T.st, T.lvn, st_lvn a, st_lvn b]
theorem st_dep : ∀ t : T, t.st.dep = t.dep
  | .leaf _ => rfl
  | .node a n b => by simp only [T.st, T.dep, st_dep a, st_dep b]
theorem st_stra : ∀ t : T, t.st.stra = t.stra
  | .leaf _ => rfl
  | .node a n b => by simp only [T.st, T.stra, st_stra a, st_stra b]
theorem st_tl : ∀ t : T, t.st.tl = t.tl
  | .leaf _ => rfl
  | .node a n b => by simp only [T.st, T.tl, st_tl a, st_tl b]
theorem st_ht : ∀ t : T, t.st.ht = t.ht
  | .leaf _ => rfl
  | .node a n b => by simp only [T.st, T.ht, st_ht a, st_ht b]
theorem st_sz : ∀ t : T, t.st.sz = t.sz
  | .leaf _ => rfl
  | .node a n b => by simp only [T.st, T.sz, st_sz a, st_sz b]
theorem st_dok : ∀ t : T, t.st.dokB = t.dokB
  | .leaf _ => rfl
  | .node a n b => by simp only [T.st, T.dokB, st_dok a, st_dok b, st_dep]
theorem st_ways : ∀ t : T, t.st.ways = t.ways.map T.st
  | .leaf _ => rfl
  | .node a n b => by
    simp only [T.st, T.ways, st_ways a, st_ways b]
    generalize a.ways = xs
    generalize b.ways = ys
    have h1 : ∀ (x : T) (ys : List T), ((ys.map T.st).flatMap fun y => [T.node x.st 0 y, T.node y 0 x.st]) = (ys.flatMap fun y => [T.node x n y, T.node y n x]).map T.st := by
      intro x ys
      induction ys with
      | nil => rfl
      | cons y ys ih => rw [List.map_cons, List.flatMap_cons, List.flatMap_cons, ih, List.map_append]; rfl
    induction xs with
    | nil => rfl
    | cons x xs ih => rw [List.map_cons, List.flatMap_cons, List.flatMap_cons, ih, List.map_append, h1]
theorem dok_of : ∀ t : T, t.dokB = true → t.dok
  | .leaf _, _ => trivial
  | .node a n b, h => by
    simp only [T.dokB, smallB, Bool.and_eq_true, decide_eq_true_eq, List.all_eq_true] at h
    obtain ⟨⟨⟨ha, hb⟩, h1, h2⟩, h3, h4⟩ := h
    exact ⟨dok_of a ha, dok_of b hb, ⟨h1, h2⟩, ⟨h3, h4⟩⟩
theorem jt_st (ts : List T) (p : Nat) (n : Int) (h : p + 1 < ts.length) : (jt ts p n).map T.st = jt (ts.map T.st) p 0 := by
  have hg : ∀ q, q < ts.length → (ts.map T.st).getD q T0 = T.st (ts.getD q T0) := fun q hq => by
    rw [List.getD_eq_getElem?_getD, List.getD_eq_getElem?_getD, List.getElem?_map, List.getElem?_eq_getElem hq]
    rfl
  unfold jt
  rw [hg p (by omega), hg (p + 1) h]
  simp [T.st]
theorem key_lf : ∀ (q k : Nat), k < 5 → keyL (lf q k).cps.toList = 66 + k := by
  have key : ∀ (m : Fin 16) (k : Fin 5), keyL (Str.ofString "\"" ++ wd m.val k.val ++ Str.ofString ")\"").cps.toList = 66 + k.val ∧ keyL (Str.ofString "{" ++ wd m.val k.val ++ Str.ofString "}").cps.toList = 66 + k.val := by decide +kernel
  intro q k hk
  have h := key ⟨q % 16, Nat.mod_lt _ (by decide)⟩ ⟨k, hk⟩
  dsimp only at h
  rw [wd_mod] at h
  unfold lf
  split
  · exact h.1
  · exact h.2
theorem trs_st (qs : List Nat) (told : Nat) : ∀ k, k ≤ 4 → (trs qs told k).1.map T.st = (trs0 told k).1 ∧ (trs qs told k).2 = (trs0 told k).2
  | 0, _ => by
    refine ⟨?_, rfl⟩
    show ((List.range 5).map fun k => T.leaf (lf (qs.getD k 0) k)).map T.st = (List.range 5).map fun k => T.leaf ⟨#[66 + k]⟩
    rw [List.map_map]
    refine List.map_congr_left fun k hk => ?_
    show T.leaf _ = _
    rw [key_lf _ _ (List.mem_range.mp hk)]
  | k + 1, h => by
    obtain ⟨i1, i2⟩ := trs_st qs told k (by omega)
    have hl := trs_len qs told k (by omega)
    have hp : (trs qs told k).2 % (4 - k) < 4 - k := Nat.mod_lt _ (by omega)
    unfold trs trs0
    dsimp only
    rw [← i1, ← i2]
    exact ⟨jt_st _ _ _ (by omega), rfl⟩
theorem tree_st (qs : List Nat) (told : Nat) : (treeOf qs told).st = shape told := by
  obtain ⟨h1, h2⟩ := trs_st qs told 4 (Nat.le_refl _)
  have hl := trs_len qs told 4 (Nat.le_refl _)
  unfold treeOf shape
  rw [← h1]
  generalize (trs qs told 4).1 = ts at hl
  match ts, hl with
  | [t], _ => rfl
theorem lg_lf (q k : Nat) (hk : k < 5) : LG (lf q k) := by
  refine ⟨lf_len2 q k, ?_⟩
  have key : ∀ (m : Fin 16) (k : Fin 5), ((Str.ofString "{" ++ wd m.val k.val ++ Str.ofString "}").cps.toList.all fun c => c < 128 && c ≠ 40 && c ≠ 41 && c ≠ 34) = true ∧
      ((Str.ofString "\"" ++ wd m.val k.val ++ Str.ofString ")\"").cps.toList.all fun c => c < 128 && c ≠ 40) = true ∧
      (enc (Str.ofString "\"" ++ wd m.val k.val ++ Str.ofString ")\"")).toList = [] ++ 34 :: (((enc (wd m.val k.val)).toList ++ [41]) ++ 34 :: []) ∧ (((enc (wd m.val k.val)).toList ++ [41]).all fun c => c ≠ 34 && c ≠ 92) = true := by decide +kernel
  have h := key ⟨q % 16, Nat.mod_lt _ (by decide)⟩ ⟨k, hk⟩
  dsimp only at h
  rw [wd_mod] at h
  obtain ⟨h1, h2, h3, h4⟩ := h
  unfold lf
  split
  · refine ⟨fun c hc => by simpa using List.all_eq_true.mp h2 c hc, [] ++ [], ?_, rfl⟩
    rw [h3]
    exact .quo (fun x hx => nomatch hx) (fun x hx => by simpa using List.all_eq_true.mp h4 x hx) (.plain fun x hx => nomatch hx)
  · have hp : Pl (Str.ofString "{" ++ wd q k ++ Str.ofString "}") := fun c hc => by
      have := List.all_eq_true.mp h1 c hc
      simpa [and_assoc] using this
    obtain ⟨w1, w2⟩ := hp.wq
    exact ⟨fun c hc => ⟨(hp c hc).1, (hp c hc).2.1⟩, _, w1, w2⟩
theorem trs_lg (qs : List Nat) (told : Nat) : ∀ k, k ≤ 4 → ∀ x ∈ (trs qs told k).1, x.lg ∧ Sm k x
  | 0, _, x, hx => by
    obtain ⟨k, hk, rfl⟩ := List.mem_map.mp hx
    exact ⟨lg_lf _ _ (List.mem_range.mp hk), Sm.leaf _ _⟩
  | k + 1, h, x, hx => by
    have ih := trs_lg qs told k (by omega)
    have hl := trs_len qs told k (by omega)
    have hp : (trs qs told k).2 % (4 - k) < 4 - k := Nat.mod_lt _ (by omega)
    have hx : x ∈ jt (trs qs told k).1 ((trs qs told k).2 % (4 - k)) (nm (qs.getD k 0)) := hx
    unfold jt at hx
    rcases List.mem_append.mp hx with hx | hx
    · rcases List.mem_append.mp hx with hx | hx
      · exact ⟨(ih x (List.mem_of_mem_take hx)).1, (ih x (List.mem_of_mem_take hx)).2.up⟩
      · rw [List.mem_singleton.mp hx]
        have m1 := ih _ (getD_mem (p := (trs qs told k).2 % (4 - k)) (by omega))
        have m2 := ih _ (getD_mem (p := (trs qs told k).2 % (4 - k) + 1) (by omega))
        have ⟨n0, n1⟩ := nm_lt (qs.getD k 0)
        exact ⟨⟨n0, n1, m1.1, m2.1⟩, m1.2.node m2.2 n0 n1⟩
    · exact ⟨(ih x (List.mem_of_mem_drop hx)).1, (ih x (List.mem_of_mem_drop hx)).2.up⟩
theorem tree_lg (qs : List Nat) (told : Nat) : (treeOf qs told).lg ∧ Sm 4 (treeOf qs told) := by
  have hl := trs_len qs told 4 (Nat.le_refl _)
  exact trs_lg qs told 4 (Nat.le_refl _) _ (getD_mem (by omega))
theorem srt_lg (way : Int) : ∀ t : T, t.lg → (t.srt way).lg ∧ (t.srt way).wt = t.wt ∧ (t.srt way).sz = t.sz ∧ (t.srt way).ht = t.ht
  | .leaf s, h => ⟨h, rfl, rfl, rfl⟩
  | .node a n b, ⟨h0, h1, ha, hb⟩ => by
    obtain ⟨a1, a2, a3, a4⟩ := srt_lg way a ha
    obtain ⟨b1, b2, b3, b4⟩ := srt_lg way b hb
    simp only [T.srt]
    unfold arr
    split
    · exact ⟨⟨h0, h1, b1, a1⟩, by simp only [T.wt, a2, b2]; omega, by simp only [T.sz, a3, b3]; omega, by simp only [T.ht, a4, b4]; omega⟩
    · exact ⟨⟨h0, h1, a1, b1⟩, by simp only [T.wt, a2, b2], by simp only [T.sz, a3, b3], by simp only [T.ht, a4, b4]⟩
theorem key_pre (s t : Str) (h : 3 ≤ s.length) : keyL (s ++ t).cps.toList = keyL s.cps.toList := by
  have hl : s.cps.toList.length = s.length := Array.length_toList
  rw [Str.cps_append, Array.toList_append]
  have h1 : (s.cps.toList ++ t.cps.toList).getD 1 0 = s.cps.toList.getD 1 0 := by
    rw [List.getD_eq_getElem?_getD, List.getD_eq_getElem?_getD, List.getElem?_append_left (by omega)]
  have h2 : (s.cps.toList ++ t.cps.toList).getD 2 0 = s.cps.toList.getD 2 0 := by
    rw [List.getD_eq_getElem?_getD, List.getD_eq_getElem?_getD, List.getElem?_append_left (by omega)]
  unfold keyL
  rw [h1, h2]
theorem chl_ord : ∀ t : T, t.lg → (chl t).map keyL = t.st.ord0 ∧ 3 ≤ t.chs.2.length
  | .leaf s, h => ⟨by simp [chl, T.chs, T.st, T.ord0], h.1⟩
  | .node a n b, ⟨h0, h1, ha, hb⟩ => by
    obtain ⟨ia, la⟩ := chl_ord a ha
    obtain ⟨ib, lb⟩ := chl_ord b hb
    refine ⟨?_, by simp only [T.chs, Str.length_append]; omega⟩
    simp only [T.st, T.ord0, ← ia, ← ib]
    simp only [chl, T.chs, List.map_append, List.map_cons, List.map_nil, List.append_assoc, List.cons_append, List.nil_append]
    rw [key_pre (b.chs.2) _ lb, key_pre (a.chs.2 ++ Str.ofString ":") _ (by rw [Str.length_append]; omega), key_pre a.chs.2 _ la]
theorem chl_free : ∀ t : T, t.lg → ∀ p ∈ chl t, 40 ∉ p := fun t h p hp => by
  obtain ⟨dl, e, rd, cd, q⟩ := rd_tree t h 0
  obtain ⟨s, hs, rfl⟩ := List.mem_map.mp hp
  rcases List.mem_append.mp hs with hs | hs
  · obtain ⟨e, c⟩ := rd.cds s hs
    exact fun hc => (c.1 _ hc).2 rfl
  · rw [List.mem_singleton.mp hs]
    exact fun hc => (cd.1 _ hc).2 rfl
theorem txt_ord (x y : T) (hx : x.lg) (hy : y.lg) (h : x.txt = y.txt) : x.st.ord0 = y.st.ord0 := by
  have h2 := congrArg (fun s : Str => s.cps.toList) h
  simp only [txt_jl] at h2
  have := jl_inj 40 _ _ (by simp [chl]) (by simp [chl]) (chl_free x hx) (chl_free y hy) h2
  rw [← (chl_ord x hx).1, ← (chl_ord y hy).1, this]
theorem nodup_of_map {α β γ : Type} (f : α → β) (g : α → γ) : ∀ l : List α, (∀ x ∈ l, ∀ y ∈ l, f x = f y → g x = g y) → (l.map g).Nodup → (l.map f).Nodup
  | [], _, _ => List.nodup_nil
  | x :: l, h, hn => by
    rw [List.map_cons, List.nodup_cons] at hn ⊢
    refine ⟨fun hm => hn.1 ?_, nodup_of_map f g l (fun a ha b hb => h a (.tail _ ha) b (.tail _ hb)) hn.2⟩
    obtain ⟨y, hy, e⟩ := List.mem_map.mp hm
    rw [List.mem_map]
    exact ⟨y, hy, h y (.tail _ hy) x (.head _) e⟩
end
end
section
open PySem PySem.W PySem.Calls PyProof.Rows PySem.Spec
set_option Elab.async false
set_option maxRecDepth 100000
set_option linter.unusedVariables false
set_option linter.unusedSimpArgs false
section
theorem sameB_ok {l1 l2 : List (Int × Int)} (h : sameB l1 l2 = true) : sameD l1 l2 := by
  unfold sameB at h
  rw [Bool.and_eq_true, beq_iff_eq, List.all_eq_true] at h
  exact ⟨h.1, fun p hp => by simpa using h.2 p hp⟩
theorem lg_ok : ∀ t : T, t.lg → t.ok
  | .leaf _, _ => trivial
  | .node a n b, ⟨h0, h1, ha, hb⟩ => ⟨h0, h1, lg_ok a ha, lg_ok b hb⟩
theorem tl_le (x : T) (h : x.ht ≤ 4) : ∀ r ∈ x.tl, r ≤ 1000 := fun r hr => by
  have := (rws_len x).2 r (by rw [rws_tl]; exact .tail _ hr)
  omega
theorem law_tr {c : Cx} {fd : FuncData} {body : List Stmt} {oc : Value} {od : Option Addr} {osl : Array (Option Value)} (hK : (KK c.w).lookup 333 = some ⟨oc, od, .func fd, osl⟩) (hbody : fd.body = .stmts body) (hs : c.env.scope = fd.scope) {aD aC aU : Addr} (hcl : c.env.cells = lawCells aD aC aU) (hk : 8 ≤ c.k)
    (xs : List Int) (hxl : xs.length ≤ 1000) : Tr c ⟨[(Str.ofString "script", .lst (dints xs))], lawOwn aD aC aU none none none⟩ body (fun f _ => f = .ret (.bool true)) := by
  generalize hS : dealS xs = S
  obtain ⟨tlg, tsm⟩ := tree_lg (drawS S) (toldS S)
  have htold : toldS S < 24 := Nat.mod_lt _ (by decide)
  have hchk : chkShape (treeOf (drawS S) (toldS S)).st = true := by rw [tree_st]; exact all24 ⟨toldS S, htold⟩
  have hway : wayS S = 1 ∨ wayS S = -1 := by
    unfold wayS
    have : S.sum / 24 % 2 < 2 := Nat.mod_lt _ (by decide)
    omega
  have hu := join_srt (wayS S) (drawS S) (toldS S)
  generalize ht : treeOf (drawS S) (toldS S) = t at *
  have hps := plain_srt (wayS S) hway t
  have hmx := srt_mx (wayS S) t
  obtain ⟨ulg, uwt, usz, uht⟩ := srt_lg (wayS S) t tlg
  have hrd := rounds_stra t.sz t (Nat.le_refl _)
  rw [← hu] at hps hmx ulg uwt usz uht
  obtain ⟨s1, s2, s3, s4⟩ := tsm
  have hvl := vl_mxr (joinOf (wayS S) (drawS S) (toldS S))
  rw [hmx] at hvl
  have hvl' : vl (joinOf (wayS S) (drawS S) (toldS S)) = (t.stra : Int) := by rw [hvl]; omega
  generalize hue : joinOf (wayS S) (drawS S) (toldS S) = u at *
  have usm : Sm 4 u := ⟨lg_gd u ulg, by omega, by omega, by omega⟩
  have wmem : ∀ x ∈ t.ways, x.lg ∧ x.wt = t.wt ∧ x.ht = t.ht ∧ x.sz = t.sz := fun x hx => ⟨ways_lg t x hx tlg, (ways_mem t x hx).2⟩
  unfold chkShape at hchk
  have eR : t.st.ways.map T.rws = t.ways.map T.rws := by
    rw [st_ways, List.map_map]
    exact List.map_congr_left fun x _ => st_rws x
  have eO : t.st.ways.map T.ord0 = t.ways.map fun x => x.st.ord0 := by
    rw [st_ways, List.map_map]; rfl
  have eL : t.st.ways.length = t.ways.length := by rw [st_ways, List.length_map]
  simp only [eR, eO, eL, st_dep, st_lvn, st_stra, st_tl, st_ht, st_sz, st_dok] at hchk
  simp only [Bool.and_eq_true, beq_iff_eq, List.all_eq_true, decide_eq_true_eq, List.contains_iff_mem, nodupB] at hchk
  obtain ⟨⟨⟨⟨⟨⟨⟨⟨⟨⟨⟨⟨⟨⟨⟨⟨⟨⟨⟨k1, k2⟩, k3⟩, k4⟩, k5⟩, k6⟩, k7⟩, k8⟩, k9⟩, k10⟩, k11⟩, k12⟩, k13⟩, k14⟩, k15⟩, k16⟩, k17⟩, k18⟩, k19⟩, k20⟩ := hchk
  have hnd : (t.ways.map T.txt).Nodup := nodup_of_map T.txt (fun x => x.st.ord0) t.ways (fun x hx y hy e => txt_ord x y (wmem x hx).1 (wmem y hy).1 e) k12
  have wok : t.wok := ⟨s1, by omega, by
    have : t.sz * (t.ht + 1) ≤ 31 * 5 := Nat.mul_le_mul (by omega) (by omega)
    omega, by omega⟩
  have hlong : ∀ x ∈ t.ways, (ld x.rws).length ≤ 200 := fun x hx => by
    obtain ⟨_, _, h2, h3⟩ := wmem x hx
    have := lead_len x
    rw [h2, h3] at this
    have h5 : t.sz * (t.ht + 1) ≤ 31 * 5 := Nat.mul_le_mul (by omega) (by omega)
    omega
  have hread : ∀ x ∈ t.ways, Cal c.w (.ref 328) 2 [.str x.txt] (.tup [.str (ld x.rws), .int 0]) := fun x hx => by
    obtain ⟨h0, h1, h2, h3⟩ := wmem x hx
    exact read_ok c.w x h0 (by omega) (by omega) (tl_le x (by omega))
  have hdok := dok_of t k20
  refine law_a (t := t) (u := u) (way := wayS S) hK hbody hs hcl hk xs hxl S hS.symm rfl ht.symm hue.symm (lg_ok t tlg) (by omega) (by omega) usm (by rw [hps]) (by rw [hvl', hrd]; omega) (read_ok c.w u ulg (by omega) (by omega) (tl_le u (by omega))) (paren_tree u ulg).1 (paren_ok c.w u ulg (by omega)) ?_
  refine law_b hK hbody hs hcl hk S t (vl u) wok (by omega) k11 hlong ?_
  refine law_c hK hbody hs hcl hk S t _ _ _ _ _ _ (vl u) _ hdok (by omega) (by omega) (fun l hl => by simpa using k13 l hl) (by omega) (by omega) k11 (fun p hp => by have := k15 p hp; omega) (by rw [hvl']; exact k9) (fun k hk => by rw [hvl']; simpa using k10 k hk) hnd hread k7 k8 k1 k2 k3 ?_ (sameB_ok k5) (sameB_ok k6)
  rw [k4, lv_lvn, nats_sum]
end
end
section
open PySem PySem.W PySem.Calls PyProof.Rows PySem.Spec
set_option Elab.async false
set_option maxRecDepth 100000
set_option maxHeartbeats 4000000
set_option linter.unusedVariables false
set_option linter.unusedSimpArgs false
section
noncomputable abbrev frmO : Obj := { cls := .type "frame", data := .dict #[] }
noncomputable abbrev celO : Obj := { cls := .type "cell", data := .cell none }
theorem law_env {M : Model} {A : Around} {E : Value → Shared → Prop} {s : Shared} {scope : Scope} {globals : Addr} {x : Str} {v : Value} {qual : Str} {func : Option Addr} {code : Value} {builtins : Addr} {Q : Env → Shared → Prop} (hk : scope.kind = .function) (hl : scope.names.lookup x = some .local)
    (hQ : ∀ h', h'.Ns s.heap.objs.size (fun y => if y = x then some v else none) → Heap.SameBut s.heap.objs.size (pushCells (s.heap.push frmO) scope.names) h' →
      Q (newEnv scope s.heap.objs.size globals (cellsFrom (s.heap.objs.size + 1) scope.names []) qual func code none builtins) { s with heap := h', toks := s.toks + 1 }) :
    wpAny M A (newFunctionEnv scope globals [] [(x, v)] qual func code none builtins) Q E s := by
  simp only [newFunctionEnv, Option.isSome_none, Bool.false_eq_true, if_false]
  refine wpAny_bind (wpAny_alloc ?_)
  refine wpAny_bind (wpAny_layCells _ (fun name kind cells => by cases hkc : kind == NameKind.cell <;> simp [hkc]) _ _ _ _ ?_)
  rw [show ({ s with heap := s.heap.push frmO } : Shared).heap.objs.size = s.heap.objs.size + 1 from Heap.size_push ..]
  refine wpAny_bind ?_
  rw [List.forIn_cons]
  refine wpAny_bind (wpAny_bind ?_)
  have hn : (pushCells (s.heap.push frmO) scope.names).Ns s.heap.objs.size (fun _ => none) := (Heap.Ns.new s.heap (.type "frame")).keeps (pushCells_keeps _ _)
  refine wpAny_storeName_local (s := { s with heap := pushCells (s.heap.push frmO) scope.names }) hl hn (fun h' hn' hs' => ?_) (by show (scope.kind == .class || _) = false; rw [hk]; rfl)
  exact wpAny_pure (wpAny_pure (wpAny_pure (hQ h' hn' hs')))
theorem reps_of_ints {W : Fz} {vs : List Value} {l : List Int} (h : IntsAre vs l) : Reps W vs (dints l) := by
  induction h with
  | nil => exact .nil
  | cons n t _ ih => exact .cons (.int n t) ih
theorem law_def (w : World) : ∃ fd body oc od osl, (KK w).lookup 333 = some ⟨oc, od, .func fd, osl⟩ ∧ fd.body = .stmts body ∧ fd.scope.kind = .function ∧ fd.scope.names.lookup (Str.ofString "script") = some .local ∧
    (∀ H : Heap, pushCells H fd.scope.names = ((H.push celO).push celO).push celO) ∧ (∀ n : Nat, cellsFrom n fd.scope.names [] = lawCells n (n + 1) (n + 1 + 1)) ∧ fd.scope.isCoroutine = false ∧ fd.scope.isGenerator = false :=
  ⟨_, _, _, _, _, rfl, rfl, rfl, rfl, fun _ => rfl, fun _ => rfl, rfl, rfl⟩
theorem law_call {w : World} {s₁ : Shared} {fa l : Addr} {o : Obj} {fdl fd : FuncData} {body : List Stmt} {vs : List Value} {xs : List Int} {R : Result → Shared → Prop} {oc : Value} {od : Option Addr} {osl : Array (Option Value)} {p : Program} {loose : List Str} {mean : ExcName → Option Value} {mg mb : Str → Option Value}
    (hK : (KK w).lookup 333 = some ⟨oc, od, .func fd, osl⟩) (hb3 : fd.body = .stmts body) (hk3 : fd.scope.kind = .function) (hl3 : fd.scope.names.lookup (Str.ofString "script") = some .local)
    (hp3 : ∀ H : Heap, pushCells H fd.scope.names = ((H.push celO).push celO).push celO) (hc3 : ∀ n : Nat, cellsFrom n fd.scope.names [] = lawCells n (n + 1) (n + 1 + 1)) (hco : fd.scope.isCoroutine = false) (hgen : fd.scope.isGenerator = false)
    (ho : s₁.heap.get? fa = some o) (hd : o.data = .func fdl) (hcd : s₁.heap.CodeRec fdl.code fdl.qualname) (X : (KK w).In s₁.heap) (T : Top p loose mean mg mb s₁.heap)
    (hsc : fdl.scope = fd.scope) (hbd : fdl.body = .stmts body) (hclo : fdl.closure = []) (hgl : fdl.globals = mainGlobals) (hbi : fdl.builtins = builtinsNs) (hbind : bindArgs fdl ⟨[.ref l], []⟩ = pure [(Str.ofString "script", .ref l)])
    (hl : s₁.heap.get? l = some (lstO vs.toArray 0)) (hi : IntsAre vs xs) (hxl : xs.length ≤ 1000)
    (hR : ∀ h' tk', (∀ b o, s₁.heap.get? b = some o → h'.get? b = some o) → R (.ok (.ret (.bool true))) (St s₁ h' tk')) : codeAny (model prog w) callerA (.call (.ref fa) ⟨[.ref l], []⟩) R s₁ := by
  refine codeAny_call_function (by decide +kernel) ho hd (by rw [hsc]; exact hco) (by rw [hsc]; exact hgen) hbd hcd ?_
  rw [hbind, hclo]
  refine wpAny_pure ?_
  refine law_env (by rw [hsc]; exact hk3) (by rw [hsc]; exact hl3) fun h0 hn0 hs0 => ?_
  rw [hsc, hp3] at hs0
  have up : ∀ b o, s₁.heap.get? b = some o → h0.get? b = some o := fun b o e => hs0.extBut b o (neA (.inl (ltN (Heap.lt_size e)))) (Heap.get?_push_of_some _ (Heap.get?_push_of_some _ (Heap.get?_push_of_some _ (Heap.get?_push_of_some _ e))))
  have z1 : (s₁.heap.push frmO).objs.size = s₁.heap.objs.size + 1 := Heap.size_push ..
  have z2 : ((s₁.heap.push frmO).push celO).objs.size = s₁.heap.objs.size + 1 + 1 := by rw [Heap.size_push, z1]
  have z3 : (((s₁.heap.push frmO).push celO).push celO).objs.size = s₁.heap.objs.size + 1 + 1 + 1 := by rw [Heap.size_push, z2]
  have c1 : h0.get? (s₁.heap.objs.size + 1) = some celO := hs0.extBut _ _ (neA (by omega)) (Heap.get?_push_of_some _ (Heap.get?_push_of_some _ (z1 ▸ Heap.get?_push_size _ rfl)))
  have c2 : h0.get? (s₁.heap.objs.size + 1 + 1) = some celO := hs0.extBut _ _ (neA (by omega)) (Heap.get?_push_of_some _ (z2 ▸ Heap.get?_push_size _ rfl))
  have c3 : h0.get? (s₁.heap.objs.size + 1 + 1 + 1) = some celO := hs0.extBut _ _ (neA (by omega)) (z3 ▸ Heap.get?_push_size _ rfl)
  refine ⟨T.nolimit.keeps up, ?_⟩
  let env : Env := newEnv fdl.scope s₁.heap.objs.size fdl.globals (cellsFrom (s₁.heap.objs.size + 1) fdl.scope.names []) (fdl.qualname ++ ".<locals>.") (some fa) fdl.code none fdl.builtins
  show codeAny _ _ (.func body env) _ _
  refine codeAny_func ?_
  let c : Cx := { w := w, s₀ := s₁, W₀ := fun b => s₁.heap.get? b, bor := [], hid := [], L := s₁.heap.objs.size, A := callerA.deeper env, env := env, k := 8,
                  hk := by show fdl.scope.kind = _; rw [hsc]; exact hk3
                  hL := rfl, hg := hgl, hb := hbi, hh := rfl
                  room := by
                    refine ⟨?_, ?_⟩
                    · show callerA.depth + 1 + 8 < _; decide +kernel
                    · show callerA.units + 3 + 8 * 8 + 4 < _; decide +kernel }
  have wnone : ∀ a, s₁.heap.objs.size ≤ a → s₁.heap.get? a = none := fun a ha => by
    cases q : s₁.heap.get? a with
    | none => rfl
    | some o' => exact absurd (Heap.lt_size q) (Nat.not_lt.mpr ha)
  have I : Inv c ⟨[(Str.ofString "script", .lst (dints xs))], lawOwn (s₁.heap.objs.size + 1) (s₁.heap.objs.size + 1 + 1) (s₁.heap.objs.size + 1 + 1 + 1) none none none⟩ (fun b => s₁.heap.get? b) h0 := {
    wd := ⟨s₁.heap, p, loose, mean, mg, mb, X, T, fun a o e => e⟩
    vars := ⟨_, hn0, fun x d e => by
      rw [lookup_store] at e
      by_cases q : x = Str.ofString "script"
      · rw [if_pos q] at e ⊢
        cases e
        exact ⟨_, rfl, .lst hl (reps_of_ints hi)⟩
      · rw [if_neg q] at e
        cases e⟩
    base := fun b o _ e => up b o e
    sub := Sub.refl _
    keep := up
    new := fun b o e => .inl e
    hL := Nat.le_refl _
    wL := wnone _ (Nat.le_refl _)
    own := fun q hq => by
      simp only [lawOwn, List.mem_cons, List.not_mem_nil, or_false] at hq
      rcases hq with rfl | rfl | rfl
      · exact ⟨none, c1, rfl⟩
      · exact ⟨none, c2, rfl⟩
      · exact ⟨none, c3, rfl⟩
    ads := fun a ha => by
      simp only [Frame.ads, lawOwn, List.flatMap_cons, Ow.ads, List.flatMap_nil, List.append_nil, List.cons_append, List.nil_append, List.mem_cons, List.not_mem_nil, or_false] at ha
      have hb : s₁.heap.objs.size < a := by rcases ha with rfl | rfl | rfl <;> (show _ < _; exact Nat.lt_of_lt_of_le (Nat.lt_succ_self _) (by omega))
      exact ⟨neA (.inr (ltN hb)), wnone a (Nat.le_of_lt hb), .inl (Nat.le_of_lt hb)⟩
    nd := by
      simp only [Frame.ads, lawOwn, List.flatMap_cons, Ow.ads, List.flatMap_nil, List.append_nil, List.cons_append, List.nil_append, List.nodup_cons, List.mem_cons, List.not_mem_nil, or_false, not_or, List.nodup_nil, and_true, not_false_eq_true]
      exact ⟨⟨neA (by omega), neA (by omega)⟩, neA (by omega)⟩
    bor := fun a ha => nomatch ha
    hid := fun q hq => nomatch hq
    hnd := List.nodup_nil }
  have tr := law_tr (c := c) (aD := s₁.heap.objs.size + 1) (aC := s₁.heap.objs.size + 1 + 1) (aU := s₁.heap.objs.size + 1 + 1 + 1) hK hb3 hsc (by show cellsFrom _ fdl.scope.names [] = _; rw [hsc, hc3]) (Nat.le_refl _) xs hxl
  refine tr (fun b => s₁.heap.get? b) (fun b => s₁.heap.get? b) h0 s₁.toks _ _ (Sub.refl _) I fun fl W' h' tk' F' I' hs' r => ?_
  obtain ⟨f, hf, rfl⟩ := r
  cases fl <;> first | exact hf.elim | skip
  rename_i v
  have hf : Rep W' v (.bool true) := hf
  cases hf
  exact hR h' tk' fun b o e => I'.base b o (fun q => nomatch q) e
end
end
end Mine
end
open PySem PySem.W PyProof.Rows
set_option Elab.async false
set_option maxRecDepth 100000
set_option maxHeartbeats 8000000
namespace Mine
theorem exact_list {P : Params} {h : Heap} {a : Addr} {vs : List Value} {xs : List PyData} (hL : h.IsList a vs.toArray) (w1 : Well P h (.ref a) (ofPy (.list xs))) : h.get? a = some (lstO vs.toArray 0) := by
  obtain ⟨o, ho, hc, n, hd⟩ := hL
  obtain ⟨ys, e⟩ : ∃ ys, ofPy (.list xs) = .list ys := ⟨_, rfl⟩
  rw [e] at w1
  cases w1 with
  | list e1 _ =>
    rw [e1] at ho
    cases ho
    cases hd
    exact e1
end Mine
theorem PySem.Challenge.cw_xg0078_01_holds : PySem.Challenge.rw_xg0078_01.Holds := by
  refine Mine.hd ⟨Mine.left, ?_⟩
  k_fill
  intro w s₀ s₁ mg mb G Y fa o pm cd doc dV kV ho hd hcd hD hmg hg args vals as hpre hlay hrd hwl hlo
  have KX := kIn_of Y
  have X := (Ground.X G).1
  have V := (Ground.X G).2
  refine Ground.open G ?_
  intro T B D TE TW
  try (refine guard_noD D (by decide +kernel) ?_; clear D)
  obtain ⟨_, _, M⟩ := bmod_of_top T
  have TA := at_of_top T
  try (obtain ⟨_, _, he, B0⟩ := based_of_top T rfl hmg ho hd; have he' : cd = _ := he; subst he'; clear he)
  clear hmg
  wrow_args hpre hlay hrd hwl hlo
  all_goals (
    first | refine callC_kw (enter_call ?_) | refine enter_call ?_ | refine callC_kw (enter_callW ?_) | refine enter_callW ?_ | w_how
    w_top on)
  have he := Dflts.none hD rfl
  subst he
  have he := Dflts.noKw hD
  subst he
  refine codeAny_mono ?_ (fun _ _ g => GoodW.toG g)
  refine Mine.law_call (w := w) (hK := rfl) (hb3 := rfl) (hk3 := rfl) (hl3 := rfl) (hp3 := fun _ => rfl) (hc3 := fun _ => rfl) (hco := rfl) (hgen := rfl) ho (fd_plain hd) hcd KX T rfl rfl rfl rfl rfl rfl (Mine.exact_list (by assumption) (by assumption)) (by assumption) (by omega) ?_
  intro h' tk' hk
  refine ⟨.inl ⟨.bool true, .bool true, [], rfl, ?_, ?_, ?_, ?_⟩, hk, rfl, hg⟩
  · intro cls; rfl
  · exact .bool true
  · exact postW_of (by wrow_shape) (by wtm_val) (by str_meet; first | done | w_fin)
  · exact fun _ => ⟨List.nodup_nil, fun a ha => nomatch ha⟩

