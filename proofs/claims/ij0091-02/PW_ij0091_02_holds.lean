import PyProof.Rows.All
import Wide.All
import OpenK.AllK
import Wide.FinOn
import KE.BitLaws
import KE.KNestM
import KE.KLam
import PyProof.EqKinds
import PyProof.ListOps
import PyProof.WalksMore
import PyProof.WalksPairs
import PySem.Builtin.Re_Pattern.W2All
import PyProof.Rows.Range3
import Lean
import PySem.Challenge.RW_ij0091_02
open PySem PySem.W PyProof.Rows PySem.Calls
set_option Elab.async false
set_option maxRecDepth 100000
set_option maxHeartbeats 8000000
set_option linter.unusedVariables false
set_option linter.unusedSimpArgs false
namespace Mine
/-- the text's statements that the later proof looks at, by their places -/
noncomputable def vwB : { l : List Stmt // ([0, 2, 3, 5, 6, 8, 9, 11, 12, 13, 15, 16, 17, 18, 19, 20, 21, 22, 23].filterMap fun i => PySem.Challenge.rw_ij0091_02.row.prog.main.body[i]?) = l } := ⟨_, by
  show ([_, _, _, _, _, _, _, _, _, _, _, _, _, _, _, _, _, _, _] : List Stmt) = _
  rfl⟩
noncomputable def vw : Program := { PySem.Challenge.rw_ij0091_02.row.prog with main := { PySem.Challenge.rw_ij0091_02.row.prog.main with body := vwB.1 } }
end Mine

set_option hygiene false in
local macro_rules | `(tactic| o_head $H) => `(tactic| exact h)
theorem Mine.hd0 (h : PySem.Challenge.rw_ij0091_02.row.Holds) : PySem.Challenge.rw_ij0091_02.row.Holds := by
  k_head
namespace Mine
noncomputable abbrev hk : Hook := kmHook Mine.hd0.heap_1 [2, 3, 6, 11, 12, 35, 36, 37, 39, 40, 42, 43, 45, 49, 51, 52, 54, 55, 56, 58, 59, 61, 62, 63, 65, 66, 68, 69, 70, 72, 73, 75, 76, 77, 79, 80, 82, 83, 84, 86, 87, 89, 90, 91, 94, 95, 96, 98, 99, 101, 102, 103, 105, 106, 108, 109, 110, 112, 113, 115, 116, 117, 119, 120, 122, 123, 124, 126, 127, 129, 130, 131, 134, 135, 136, 139, 140, 141, 144, 145] (fun _ => by kernel_rfl) [57]
noncomputable def fastEnds (p : Program) (w : World) (N : Nat) : Option Shared :=
  ((PySem.W.Fast.tw10274390034422433532 PySem.W.Fast.tw14364793385576792824 (opening p) w N (PySem.W.Fast.tw1435165496053646825 (opening p)).1 (PySem.W.Fast.tw1435165496053646825 (opening p)).2).bind (PySem.W.Fast.tw14289696077712309145 p)).bind fun s₀ =>
  match s₀.heap.isNs mainGlobals && s₀.gens.size == 0 with
  | true => (PySem.W.Fast.tw14082659384304107361 PySem.W.Fast.tw14364793385576792824 p w s₀.heap.objs.size (s₀.heap.nsMap mainGlobals "__annotations__") N s₀ (topStub p)).bind fun s₁ => match staticsOk (importedModules p.main.body) s₀.heap s₁.heap && namesBound p s₁.heap && gensDone s₁ && laidKept s₀.heap s₁.heap with
      | true => some s₁
      | false => none
  | false => none
theorem fast_eq (p : Program) (w : World) (N : Nat) : openEnds treeTable p w N = fastEnds p w N := by
  unfold fastEnds
  rw [← PySem.W.Fast.te10274390034422433532, ← PySem.W.Fast.te14082659384304107361, ← PySem.W.Fast.te14289696077712309145, ← PySem.W.Fast.te1435165496053646825, ← PySem.W.Fast.te14364793385576792824]
  rfl
/-- what is seen at the text's end, in one world -/
noncomputable abbrev seen (w : World) : Prop := Option.map (fun s => (openSeen vw [Str.ofString "_twin_re_1", Str.ofString "_special_chars_map"] (importedModules PySem.Challenge.rw_ij0091_02.row.prog.main.body) (fun s => xlAt vw [] s && recOk (RowW.records (OpenRow.toRowW PySem.Challenge.rw_ij0091_02.row)) s) true s, Hook.obs hk s))
    (openEnds treeTable PySem.Challenge.rw_ij0091_02.row.prog w 3856) = some (openGood vw [Str.ofString "_twin_re_1", Str.ofString "_special_chars_map"], Hook.val hk w)
noncomputable abbrev seenF (w : World) : Prop := Option.map (fun s => (openSeen vw [Str.ofString "_twin_re_1", Str.ofString "_special_chars_map"] (importedModules PySem.Challenge.rw_ij0091_02.row.prog.main.body) (fun s => xlAt vw [] s && recOk (RowW.records (OpenRow.toRowW PySem.Challenge.rw_ij0091_02.row)) s) true s, Hook.obs hk s))
    (fastEnds PySem.Challenge.rw_ij0091_02.row.prog w 3856) = some (openGood vw [Str.ofString "_twin_re_1", Str.ofString "_special_chars_map"], Hook.val hk w)
theorem leaf1 (w : World) : seenF ((w.withFollow "special-get-raises" false).withFollow "comprehension-iter-twice" false) := by
  kernel_rfl
theorem leaf2 (w : World) : seenF ((w.withFollow "special-get-raises" true).withFollow "comprehension-iter-twice" false) := by
  kernel_rfl
theorem leaf3 (w : World) : seenF ((w.withFollow "special-get-raises" false).withFollow "comprehension-iter-twice" true) := by
  kernel_rfl
theorem leaf4 (w : World) : seenF ((w.withFollow "special-get-raises" true).withFollow "comprehension-iter-twice" true) := by
  kernel_rfl

theorem leftF (w : World) : seenF w :=
  byRow2 "comprehension-iter-twice" (P := seenF) (fun w => byRow2 "special-get-raises" (P := fun w => seenF (w.withFollow "comprehension-iter-twice" false)) leaf1 leaf2 w) (fun w => byRow2 "special-get-raises" (P := fun w => seenF (w.withFollow "comprehension-iter-twice" true)) leaf3 leaf4 w) w
theorem left (w : World) : seen w := by
  unfold seen
  rw [fast_eq]
  exact leftF w
end Mine
local macro_rules | `(tactic| o_law) => `(tactic| refine holds_law (by decide +kernel) fun said => ?_)
set_option hygiene false in
local macro_rules | `(tactic| o_head $H) => `(tactic| (
    refine holds_open (q := Mine.vw) (loose := [Str.ofString "_twin_re_1", Str.ofString "_special_chars_map"]) (Xt := fun s => xlAt Mine.vw [] s && recOk (RowW.records (OpenRow.toRowW PySem.Challenge.rw_ij0091_02.row)) s) (XP := XL Mine.vw []) (Yf := Hook.obs Mine.hk) (Ya := Hook.val Mine.hk) (YP := Hook.says Mine.hk) (N := 3856) Mine.left (Hook.of Mine.hk) (Hook.keeps Mine.hk) (fun s e => xl_of s (Bool.and_eq_true_iff.mp e).1) XL.keeps (by rfl) (by rfl) (by rfl) (fun s e => recFacts_of (Bool.and_eq_true_iff.mp e).2) (by rfl) (by first | assumption | decide +kernel) (by decide +kernel) ⟨rfl, rfl, rfl, rfl, rfl, by decide +kernel⟩ ?hw ?hc))
open_top Mine.hd for PySem.Challenge.rw_ij0091_02

namespace Mine

/-! ## Abstract values, abstract objects, abstract states -/

inductive Av where
  | none
  | bool (b : Bool)
  | int (i : Int)
  | str (x : Str)
  | ref (a : Addr)
  | raw (v : Value)

noncomputable def Av.is : Av → Value → Prop
  | .none, v => v = .none
  | .bool b, v => v = .bool b
  | .int i, v => ∃ t, v = .int i t
  | .str x, v => ∃ t, v = .str x t
  | .ref a, v => v = .ref a
  | .raw u, v => v = u

noncomputable abbrev Avs (l : List Av) (vs : List Value) : Prop := Paired Av.is l vs

inductive Mk where
  | list (l : List Av)
  | tup (l : List Av)
  | cell (v : Option Av)
  | any (o : Obj)

noncomputable def Mk.is : Mk → Obj → Prop
  | .list l, o => ∃ vs n, o = { cls := .type "list", data := .seq vs.toArray n } ∧ Avs l vs
  | .tup l, o => ∃ vs n, o = { cls := .type "tuple", data := .seq vs.toArray n } ∧ Avs l vs
  | .cell .none, o => o.data = .cell .none
  | .cell (.some a), o => ∃ v, o.data = .cell (.some v) ∧ a.is v
  | .any o', o => o = o' ∧ o'.isFreed = false

structure Sg where
  hb : Heap
  loc : List (Str × Option Av)
  hp : List (Addr × Mk)

structure Cx where
  prog : Program
  w : World
  A : Around
  env : Env
  K : Frag
  gok : Array GenState → Prop
  os : OsState

/-- what a heap holds at every time: the top's names, and the main text's builtins -/
structure TopB (p : Program) (loose : List Str) (mg mb : Str → Option Value) (h : Heap) : Prop extends TopRead p loose mg mb h where
  bmain : ∃ bm ob, mg "__builtins__" = some (.ref bm) ∧ bm ≠ builtinsNs ∧ h.get? bm = some ob ∧ ob.cls = .type "module" ∧ ob.dict = some builtinsNs ∧ ob.data = .plain
theorem TopB.up {p : Program} {loose : List Str} {mg mb : Str → Option Value} {h h' : Heap} (x : TopB p loose mg mb h) (k : h.StaysIn h') : TopB p loose mg mb h' :=
  ⟨x.toTopRead.keeps k, let ⟨bm, ob, e1, e2, e3, r⟩ := x.bmain; ⟨bm, ob, e1, e2, k _ _ e3, r⟩⟩
noncomputable def Wd (K : Frag) (h : Heap) : Prop := K.In h ∧ ∃ p loose mg mb, TopB p loose mg mb h
theorem Wd.keeps {K : Frag} {h h' : Heap} (x : Wd K h) (k : h.StaysIn h') : Wd K h' :=
  ⟨x.1.keeps k, let ⟨p, l, a, b, T⟩ := x.2; ⟨p, l, a, b, T.up k⟩⟩

structure At (C : Cx) (σ : Sg) (s : Shared) : Prop where
  fr : ∃ m, s.heap.Ns C.env.locals m ∧ ∀ x a, (x, some a) ∈ σ.loc → ∃ v, Av.is a v ∧ m x = some v
  keep : σ.hb.StaysIn s.heap
  off : σ.hb.get? C.env.locals = none
  nd : (σ.loc.map (·.1)).Nodup
  hp : ∀ a k, (a, k) ∈ σ.hp → (∃ o, s.heap.get? a = some o ∧ k.is o) ∧ a ≠ C.env.locals ∧ σ.hb.get? a = none
  hnd : (σ.hp.map (·.1)).Nodup
  wd : Wd C.K σ.hb
  gens : C.gok s.gens
  os : s.os = C.os

noncomputable def Post {α : Type} (C : Cx) (σ : Sg) (Q : α → Sg → Prop) (a : α) (s' : Shared) : Prop := ∃ σ', σ.hb.StaysIn σ'.hb ∧ At C σ' s' ∧ Q a σ'

structure T {α : Type} (C : Cx) (t : Sem α) (σ : Sg) (Q : α → Sg → Prop) : Prop where
  run : ∀ s, At C σ s → wpAny (model C.prog C.w) C.A t (Post C σ Q) (fun _ _ => False) s

noncomputable def TV (C : Cx) (t : Sem Value) (σ : Sg) (Q : Av → Sg → Prop) : Prop := T C t σ (fun v σ' => ∃ a, Av.is a v ∧ Q a σ')

theorem stays_refl (h : Heap) : h.StaysIn h := fun _ _ e => e
theorem stays_trans {a b c : Heap} (x : a.StaysIn b) (y : b.StaysIn c) : a.StaysIn c := fun i o e => y i o (x i o e)

section
variable {α β : Type} {C : Cx} {σ : Sg}

theorem T.pure {a : α} {Q : α → Sg → Prop} (h : Q a σ) : T C (pure a) σ Q := ⟨fun _ hs => wpAny_pure ⟨σ, stays_refl _, hs, h⟩⟩

theorem T.mono {t : Sem α} {Q Q' : α → Sg → Prop} (h : T C t σ Q) (q : ∀ a σ', σ.hb.StaysIn σ'.hb → Q a σ' → Q' a σ') : T C t σ Q' :=
  ⟨fun s hs => wpAny_mono (h.run s hs) (fun a _ ⟨σ', k, x, y⟩ => ⟨σ', k, x, q a σ' k y⟩) fun _ _ x => x⟩
theorem TV.mono {t : Sem Value} {Q Q' : Av → Sg → Prop} (h : TV C t σ Q) (q : ∀ a σ', σ.hb.StaysIn σ'.hb → Q a σ' → Q' a σ') : TV C t σ Q' :=
  T.mono h fun _ σ' k ⟨a, x, y⟩ => ⟨a, x, q a σ' k y⟩

/-- the composition used everywhere -/
theorem T.step {t : Sem α} {R : α → Sg → Prop} {E : Value → Shared → Prop} {s : Shared} {P : α → Shared → Prop} (h : T C t σ R) (hs : At C σ s)
    (k : ∀ a σ' s', σ.hb.StaysIn σ'.hb → At C σ' s' → R a σ' → P a s') : wpAny (model C.prog C.w) C.A t P E s :=
  wpAny_mono (h.run s hs) (fun a s' ⟨σ', x, y, z⟩ => k a σ' s' x y z) fun _ _ x => x.elim

theorem Post.up {σ₁ : Sg} {Q : α → Sg → Prop} (k : σ.hb.StaysIn σ₁.hb) (a : α) (s : Shared) (x : Post C σ₁ Q a s) : Post C σ Q a s :=
  let ⟨σ', x1, x2, x3⟩ := x; ⟨σ', stays_trans k x1, x2, x3⟩

theorem T.go {t : Sem α} {Q : α → Sg → Prop} {σ₁ : Sg} {s : Shared} (h : T C t σ₁ Q) (k : σ.hb.StaysIn σ₁.hb) (hs : At C σ₁ s) :
    wpAny (model C.prog C.w) C.A t (Post C σ Q) (fun _ _ => False) s :=
  wpAny_mono (h.run s hs) (Post.up k) fun _ _ x => x
theorem T.bind {m : Sem α} {f : α → Sem β} {Q : β → Sg → Prop} (h : T C m σ (fun a σ' => T C (f a) σ' Q)) : T C (m >>= f) σ Q :=
  ⟨fun _ hs => wpAny_bind (h.step hs fun _ _ _ k x y => y.go k x)⟩
theorem T.holding {vs : List Value} {m : Sem α} {Q : α → Sg → Prop} (h : T C m σ Q) : T C (holding vs m) σ Q := ⟨fun s hs => wpAny_holding (h.run s hs)⟩
theorem T.standAt {pos : Pos} {Q : Unit → Sg → Prop} (h : Q () σ) : T C (standAt pos) σ Q := ⟨fun _ hs => wpAny_standAt ⟨σ, stays_refl _, hs, h⟩⟩

/-- from a rule of the library: the state's heap and the count of tokens alone may turn, all is kept -/
theorem At.kept {s : Shared} {h' : Heap} {tk : Nat} (x : At C σ s) (k : s.heap.StaysIn h') : At C σ { s with heap := h', toks := tk } where
  fr := let ⟨m, F, l⟩ := x.fr; ⟨m, F.keeps k, l⟩
  keep := stays_trans x.keep k
  off := x.off
  nd := x.nd
  hp := fun a k' e => let ⟨⟨o, e1, e2⟩, r⟩ := x.hp a k' e; ⟨⟨o, k _ _ e1, e2⟩, r⟩
  hnd := x.hnd
  wd := x.wd
  gens := x.gens
  os := x.os
theorem At.toks {s : Shared} {tk : Nat} (x : At C σ s) : At C σ { s with toks := tk } := x.kept (h' := s.heap) (stays_refl _)

theorem At.hbget {s : Shared} {a : Addr} {o : Obj} (x : At C σ s) (e : σ.hb.get? a = some o) : s.heap.get? a = some o := x.keep _ _ e

end



/-! ## The frame's names -/

inductive Put (x : Str) (a : Av) : List (Str × Option Av) → List (Str × Option Av) → Prop
  | here {u l} : Put x a ((x, u) :: l) ((x, some a) :: l)
  | there {p l l'} : Put x a l l' → Put x a (p :: l) (p :: l')

theorem Put.names {x a l l'} (h : Put x a l l') : l'.map (·.1) = l.map (·.1) := by
  induction h with
  | here => rfl
  | there _ ih => simp only [List.map_cons, ih]
theorem Put.mem {x a l l'} (h : Put x a l l') (hn : (l.map (·.1)).Nodup) : ∀ y b, (y, some b) ∈ l' → (y = x ∧ b = a) ∨ (y ≠ x ∧ (y, some b) ∈ l) := by
  induction h with
  | here =>
    intro y b hm
    rcases List.mem_cons.mp hm with e | h2
    · cases e; exact .inl ⟨rfl, rfl⟩
    · refine .inr ⟨fun e => ?_, .tail _ h2⟩
      subst e
      exact (List.nodup_cons.mp hn).1 (List.mem_map.mpr ⟨(_, _), h2, rfl⟩)
  | @there p l l' hp ih =>
    intro y b hm
    have hn' := List.nodup_cons.mp hn
    rcases List.mem_cons.mp hm with e | hm
    · refine .inr ⟨fun q => ?_, by rw [e]; exact .head _⟩
      subst q
      have : y ∈ l'.map (·.1) := by
        clear ih hm
        induction hp with
        | here => exact .head _
        | there _ ih => 
          refine .tail _ (ih ?_ ?_)
          · simp only [List.map_cons, List.nodup_cons, List.mem_cons, not_or] at hn ⊢
            exact ⟨hn.1.2, hn.2.2⟩
          · simp only [List.map_cons, List.nodup_cons, List.mem_cons, not_or] at hn ⊢
            exact ⟨hn.1.2, hn.2.2⟩
      rw [hp.names, ← show p.1 = y from by rw [← e]] at this
      exact hn'.1 this
    · rcases ih hn'.2 y b hm with h | h
      · exact .inl h
      · exact .inr ⟨h.1, .tail _ h.2⟩

inductive Upd (a : Addr) (k k' : Mk) : List (Addr × Mk) → List (Addr × Mk) → Prop
  | here {l} : Upd a k k' ((a, k) :: l) ((a, k') :: l)
  | there {p l l'} : Upd a k k' l l' → Upd a k k' (p :: l) (p :: l')

theorem Upd.names {a k k' l l'} (h : Upd a k k' l l') : l'.map (·.1) = l.map (·.1) := by
  induction h with
  | here => rfl
  | there _ ih => simp only [List.map_cons, ih]
theorem Upd.has {a k k' l l'} (h : Upd a k k' l l') : (a, k) ∈ l := by
  induction h with
  | here => exact .head _
  | there _ ih => exact .tail _ ih
theorem Upd.mem {a k k' l l'} (h : Upd a k k' l l') (hn : (l.map (·.1)).Nodup) : ∀ b j, (b, j) ∈ l' → (b = a ∧ j = k') ∨ (b ≠ a ∧ (b, j) ∈ l) := by
  induction h with
  | here =>
    intro y b hm
    rcases List.mem_cons.mp hm with e | h2
    · cases e; exact .inl ⟨rfl, rfl⟩
    · refine .inr ⟨fun e => ?_, .tail _ h2⟩
      subst e
      exact (List.nodup_cons.mp hn).1 (List.mem_map.mpr ⟨(_, _), h2, rfl⟩)
  | @there p l l' hp ih =>
    intro y b hm
    have hn' := List.nodup_cons.mp hn
    rcases List.mem_cons.mp hm with e | hm
    · refine .inr ⟨fun q => ?_, by rw [e]; exact .head _⟩
      subst q
      exact hn'.1 (List.mem_map.mpr ⟨_, hp.has, by rw [← e]⟩)
    · rcases ih hn'.2 y b hm with h | h
      · exact .inl h
      · exact .inr ⟨h.1, .tail _ h.2⟩

structure Fn (C : Cx) : Prop where
  kind : C.env.scope.kind = .function
  globals : C.env.globals = mainGlobals
  builtins : C.env.builtins = builtinsNs

section
variable {C : Cx} {hb : Heap} {loc : List (Str × Option Av)} {hp : List (Addr × Mk)}

theorem loc_name {x : Str} {a : Av} {pos : Pos} {Q : Av → Sg → Prop} (F : C.env.scope.kind = .function) (hk : C.env.kindOf x = some .local) (hm : (x, some a) ∈ loc) (hd : (x == ("__debug__" : Str)) = false)
    (q : Q a ⟨hb, loc, hp⟩) : TV C (eval (.Name x pos) C.env) ⟨hb, loc, hp⟩ Q := by
  refine ⟨fun s hs => ?_⟩
  obtain ⟨m, Fm, l⟩ := hs.fr
  obtain ⟨v, e1, e2⟩ := l x a hm
  exact wpAny_Name (wpAny_loadName_local F hk Fm e2 ⟨_, stays_refl _, hs, a, e1, q⟩) hd

theorem loc_load {x : Str} {a : Av} {Q : Av → Sg → Prop} (F : C.env.scope.kind = .function) (hk : C.env.kindOf x = some .local) (hm : (x, some a) ∈ loc)
    (q : Q a ⟨hb, loc, hp⟩) : TV C (loadName C.env x) ⟨hb, loc, hp⟩ Q := by
  refine ⟨fun s hs => ?_⟩
  obtain ⟨m, Fm, l⟩ := hs.fr
  obtain ⟨v, e1, e2⟩ := l x a hm
  exact wpAny_loadName_local F hk Fm e2 ⟨_, stays_refl _, hs, a, e1, q⟩

theorem glob_name {x : Str} {v : Value} {a : Av} {pos : Pos} {Q : Av → Sg → Prop} (F : Fn C) (hk : C.env.kindOf x = some .globalImplicit) (e : nsIn C.K mainGlobals x = some (some v)) (ha : Av.is a v) (hd : (x == ("__debug__" : Str)) = false)
    (q : Q a ⟨hb, loc, hp⟩) : TV C (eval (.Name x pos) C.env) ⟨hb, loc, hp⟩ Q := by
  refine ⟨fun s hs => ?_⟩
  obtain ⟨X, p, lo, mg, mb, T⟩ := hs.wd
  exact Name_function_global F.kind hk (loadGlobal_global (by rw [F.globals]; exact T.g.keeps hs.keep) (mg_of X T.g e) ⟨_, stays_refl _, hs, a, ha, q⟩) hd

theorem glob_fn {x : Str} {v : Value} {pos : Pos} {Q : Av → Sg → Prop} (F : Fn C) (hk : C.env.kindOf x = some .globalImplicit) (e : nsIn C.K mainGlobals x = some (some v)) (hd : (x == ("__debug__" : Str)) = false)
    (q : Q (.raw v) ⟨hb, loc, hp⟩) : TV C (eval (.Name x pos) C.env) ⟨hb, loc, hp⟩ Q := glob_name (a := .raw v) F hk e rfl hd q

theorem built_name {x : Str} {v : Value} {pos : Pos} {Q : Av → Sg → Prop} (F : Fn C) (hk : C.env.kindOf x = some .globalImplicit) (e : nsIn C.K mainGlobals x = some none) (hv : bootBuiltins x = some v) (hn : x ≠ "__name__") (hd : (x == ("__debug__" : Str)) = false)
    (q : Q (.raw v) ⟨hb, loc, hp⟩) : TV C (eval (.Name x pos) C.env) ⟨hb, loc, hp⟩ Q := by
  refine ⟨fun s hs => ?_⟩
  obtain ⟨X, p, lo, mg, mb, T⟩ := hs.wd
  exact Name_function_global F.kind hk (loadGlobal_builtin (by rw [F.globals]; exact T.g.keeps hs.keep) (mg_none_of X T.g e) (by rw [F.builtins]; exact T.b.keeps hs.keep) ((T.builtins x hn).trans hv) ⟨_, stays_refl _, hs, .raw v, rfl, q⟩) hd

theorem cell_name {x : Str} {c : Addr} {a : Av} {pos : Pos} {Q : Av → Sg → Prop} (F : C.env.scope.kind = .function) (hk : C.env.kindOf x = some .cell) (hc : C.env.cells.lookup x = some c) (hm : (c, Mk.cell (some a)) ∈ hp) (hd : (x == ("__debug__" : Str)) = false)
    (q : Q a ⟨hb, loc, hp⟩) : TV C (eval (.Name x pos) C.env) ⟨hb, loc, hp⟩ Q := by
  refine ⟨fun s hs => ?_⟩
  obtain ⟨⟨o, e1, v, e2, e3⟩, _⟩ := hs.hp c _ hm
  exact wpAny_Name (wpAny_loadName_cell F hk hc ⟨o, e1, e2⟩ ⟨_, stays_refl _, hs, a, e3, q⟩) hd

/-- a cell that lies in the frozen part -/
noncomputable def CellIn (h : Heap) (c : Addr) (a : Av) : Prop := ∃ o v, h.get? c = some o ∧ o.data = .cell (some v) ∧ Av.is a v
theorem free_name {x : Str} {c : Addr} {a : Av} {pos : Pos} {Q : Av → Sg → Prop} (F : C.env.scope.kind = .function) (hk : C.env.kindOf x = some .free ∨ C.env.kindOf x = some .cell) (hc : C.env.cells.lookup x = some c) (hm : CellIn hb c a) (hd : (x == ("__debug__" : Str)) = false)
    (hcd : (x == ("__classdict__" : Str)) = false)
    (q : Q a ⟨hb, loc, hp⟩) : TV C (eval (.Name x pos) C.env) ⟨hb, loc, hp⟩ Q := by
  refine ⟨fun s hs => ?_⟩
  obtain ⟨o, v, e1, e2, e3⟩ := hm
  have e1' := hs.hbget e1
  rcases hk with hk | hk
  · exact wpAny_Name (wpAny_loadName_free F hk hc ⟨o, e1', e2⟩ ⟨_, stays_refl _, hs, a, e3, q⟩ hcd) hd
  · exact wpAny_Name (wpAny_loadName_cell F hk hc ⟨o, e1', e2⟩ ⟨_, stays_refl _, hs, a, e3, q⟩) hd

theorem store_loc {x : Str} {a : Av} {loc' : List (Str × Option Av)} {v : Value} {Q : Unit → Sg → Prop} (F : C.env.scope.kind = .function) (hk : C.env.kindOf x = some .local) (hput : Put x a loc loc') (hv : Av.is a v)
    (q : Q () ⟨hb, loc', hp⟩) : T C (storeName C.env x v) ⟨hb, loc, hp⟩ Q := by
  refine ⟨fun s hs => ?_⟩
  obtain ⟨m, Fm, l⟩ := hs.fr
  refine wpAny_storeName_local hk Fm (fun h' hn hsb => ⟨⟨hb, loc', hp⟩, stays_refl _, ?_, q⟩) (by rw [F]; rfl)
  refine ⟨⟨_, hn, fun y b hm => ?_⟩, fun b o e => (hsb.2 b (fun q => ?_)).trans (hs.keep b o e), hs.off, ?_, fun c k hm => ?_, hs.hnd, hs.wd, hs.gens, hs.os⟩
  · rcases hput.mem hs.nd y b hm with ⟨e1, e2⟩ | ⟨e1, e2⟩
    · subst e1 e2
      exact ⟨v, hv, by simp⟩
    · obtain ⟨u, e3, e4⟩ := l y b e2
      exact ⟨u, e3, by simp only [e1, if_false, e4]⟩
  · have := hs.off; rw [← q] at this; rw [show hb.get? b = some o from e] at this; cases this
  · show (loc'.map (·.1)).Nodup
    rw [hput.names]; exact hs.nd
  · obtain ⟨⟨o, e1, e2⟩, e3, e4⟩ := hs.hp c k hm
    exact ⟨⟨o, (hsb.2 c e3).trans e1, e2⟩, e3, e4⟩

/-- one object of the frame's own is changed -/
theorem At.upd {σ : Sg} {a : Addr} {k k' : Mk} {hp' : List (Addr × Mk)} {s : Shared} {h' : Heap} {tk : Nat} (hs : At C σ s) (u : Upd a k k' σ.hp hp') (hsb : Heap.SameBut a s.heap h') (hk : ∃ o, h'.get? a = some o ∧ k'.is o) :
    At C { σ with hp := hp' } { s with heap := h', toks := tk } := by
  obtain ⟨m, Fm, l⟩ := hs.fr
  obtain ⟨_, ha1, ha2⟩ := hs.hp a k u.has
  refine ⟨⟨m, Fm.sameBut hsb (Ne.symm ha1), l⟩, fun b o e => (hsb.2 b (fun q => ?_)).trans (hs.keep b o e), hs.off, hs.nd, fun c j hm => ?_, ?_, hs.wd, hs.gens, hs.os⟩
  · rw [q, ha2] at e; cases e
  · rcases u.mem hs.hnd c j hm with ⟨e1, e2⟩ | ⟨e1, e2⟩
    · subst e1 e2; exact ⟨hk, ha1, ha2⟩
    · obtain ⟨⟨o, f1, f2⟩, f3, f4⟩ := hs.hp c j e2
      exact ⟨⟨o, (hsb.2 c e1).trans f1, f2⟩, f3, f4⟩
  · show (hp'.map (·.1)).Nodup
    rw [u.names]; exact hs.hnd

theorem store_cell {x : Str} {c : Addr} {a : Av} {u : Option Av} {hp' : List (Addr × Mk)} {v : Value} {Q : Unit → Sg → Prop} (F : C.env.scope.kind = .function) (hk : C.env.kindOf x = some .cell) (hc : C.env.cells.lookup x = some c)
    (hu : Upd c (.cell u) (.cell (some a)) hp hp') (hv : Av.is a v) (q : Q () ⟨hb, loc, hp'⟩) : T C (storeName C.env x v) ⟨hb, loc, hp⟩ Q := by
  refine ⟨fun s hs => ?_⟩
  obtain ⟨⟨o, e1, e2⟩, e3, e4⟩ := hs.hp c _ hu.has
  have : ∃ v₀, o.data = .cell v₀ := by
    cases u with
    | none => exact ⟨_, e2⟩
    | some b => obtain ⟨w, e, _⟩ := e2; exact ⟨_, e⟩
  obtain ⟨v₀, hd⟩ := this
  refine wpAny_storeName_cell F hk hc ⟨o, e1, hd⟩ fun h' hcell hsb => ?_
  obtain ⟨o', ho', hd'⟩ := hcell
  exact ⟨⟨hb, loc, hp'⟩, stays_refl _, hs.upd hu hsb ⟨o', ho', v, hd', hv⟩, q⟩

/-- a new object -/
theorem At.new {σ : Sg} {k : Mk} {s : Shared} {o : Obj} {h' : Heap} {a : Addr} {tk : Nat} (hs : At C σ s) (ha : s.heap.get? a = none) (hk : s.heap.StaysIn h') (ho : h'.get? a = some o) (hi : k.is o) :
    At C { σ with hp := (a, k) :: σ.hp } { s with heap := h', toks := tk } := by
  have hs' := hs.kept (tk := tk) hk
  have new : ∀ {P : Prop}, (s.heap.get? a).isSome → P := fun h => by rw [ha] at h; cases h
  refine ⟨hs'.fr, hs'.keep, hs.off, hs.nd, fun c j hm => ?_, ?_, hs.wd, hs.gens, hs.os⟩
  · rcases List.mem_cons.mp hm with e | hm
    · cases e
      refine ⟨⟨o, ho, hi⟩, fun q => ?_, ?_⟩
      · obtain ⟨m, Fm, _⟩ := hs.fr
        obtain ⟨oL, _, _, hL, _⟩ := Fm
        have q' : a = C.env.locals := q
        rw [← q', ha] at hL; cases hL
      · cases e : σ.hb.get? a with
        | none => rfl
        | some o' => have := hs.hbget e; rw [ha] at this; cases this
    · exact hs'.hp c j hm
  · refine List.nodup_cons.mpr ⟨fun hm => ?_, hs.hnd⟩
    obtain ⟨⟨c, j⟩, hm, e0⟩ := List.mem_map.mp hm
    obtain ⟨⟨o, e, _⟩, _⟩ := hs.hp c j hm
    have e0' : c = a := e0
    rw [e0', ha] at e; cases e

/-- all but the frame and the changing objects becomes the frozen part -/
theorem At.rebase {σ : Sg} {s : Shared} (hs : At C σ s) : ∃ hb', σ.hb.StaysIn hb' ∧ At C { σ with hb := hb' } s ∧
    ∀ b o, s.heap.get? b = some o → b ≠ C.env.locals → b ∉ σ.hp.map (·.1) → hb'.get? b = some o := by
  have nm : ∀ b o, σ.hb.get? b = some o → b ∉ C.env.locals :: σ.hp.map (·.1) := fun b o e q => by
    rcases List.mem_cons.mp q with q | q
    · rw [q, hs.off] at e; cases e
    · obtain ⟨⟨c, j⟩, hm, e0⟩ := List.mem_map.mp q
      have e0' : c = b := e0
      have := (hs.hp c j hm).2.2
      rw [e0', e] at this; cases this
  have st : σ.hb.StaysIn (hideAll s.heap (C.env.locals :: σ.hp.map (·.1))) := fun b o e => hideAll_get _ (hs.keep b o e) (nm b o e)
  refine ⟨_, st, ⟨hs.fr, fun b o e => of_hideAll _ e, hideAll_none _ (.head _), hs.nd, fun a k hm => ?_, hs.hnd, hs.wd.keeps st, hs.gens, hs.os⟩, fun b o e h1 h2 => hideAll_get _ e fun q => ?_⟩
  · obtain ⟨e1, e2, _⟩ := hs.hp a k hm
    exact ⟨e1, e2, hideAll_none _ (.tail _ (List.mem_map.mpr ⟨_, hm, rfl⟩))⟩
  · rcases List.mem_cons.mp q with q | q
    · exact h1 q
    · exact h2 q

/-- an object of the frame's own is frozen -/
inductive Del (a : Addr) (k : Mk) : List (Addr × Mk) → List (Addr × Mk) → Prop
  | here {l} : Del a k ((a, k) :: l) l
  | there {p l l'} : Del a k l l' → Del a k (p :: l) (p :: l')
theorem Del.has {a k l l'} (h : Del a k l l') : (a, k) ∈ l := by
  induction h with
  | here => exact .head _
  | there _ ih => exact .tail _ ih
theorem Del.mem {a k l l'} (h : Del a k l l') : ∀ p ∈ l', p ∈ l := by
  induction h with
  | here => exact fun p hp => .tail _ hp
  | there _ ih =>
    intro p hp
    rcases List.mem_cons.mp hp with e | hp
    · rw [e]; exact .head _
    · exact .tail _ (ih p hp)
theorem Del.nodup {a k l l'} (h : Del a k l l') (hn : (l.map (·.1)).Nodup) : (l'.map (·.1)).Nodup ∧ a ∉ l'.map (·.1) := by
  induction h with
  | here => exact ⟨(List.nodup_cons.mp hn).2, (List.nodup_cons.mp hn).1⟩
  | @there p l l' d ih =>
    obtain ⟨h1, h2⟩ := List.nodup_cons.mp hn
    obtain ⟨i1, i2⟩ := ih h2
    refine ⟨List.nodup_cons.mpr ⟨fun hm => ?_, i1⟩, fun hm => ?_⟩
    · obtain ⟨q, hq, e⟩ := List.mem_map.mp hm
      exact h1 (List.mem_map.mpr ⟨q, d.mem q hq, e⟩)
    · rcases List.mem_cons.mp hm with e | hm
      · exact h1 (List.mem_map.mpr ⟨_, d.has, e⟩)
      · exact i2 hm

theorem At.drop {σ : Sg} {a : Addr} {k : Mk} {hp' : List (Addr × Mk)} {s : Shared} (hs : At C σ s) (d : Del a k σ.hp hp') : At C { σ with hp := hp' } s :=
  ⟨hs.fr, hs.keep, hs.off, hs.nd, fun c j hm => hs.hp c j (d.mem _ hm), (d.nodup hs.hnd).1, hs.wd, hs.gens, hs.os⟩

/-- an object that lies in the frozen part -/
noncomputable def Is (h : Heap) (a : Addr) (k : Mk) : Prop := ∃ o, h.get? a = some o ∧ k.is o
theorem Is.keeps {h h' : Heap} {a k} (x : Is h a k) (t : h.StaysIn h') : Is h' a k := let ⟨o, e, r⟩ := x; ⟨o, t _ _ e, r⟩

theorem At.freeze {σ : Sg} {a : Addr} {k : Mk} {hp' : List (Addr × Mk)} {s : Shared} (hs : At C σ s) (d : Del a k σ.hp hp') :
    ∃ hb', σ.hb.StaysIn hb' ∧ At C ⟨hb', σ.loc, hp'⟩ s ∧ Is hb' a k ∧ (∀ b o, s.heap.get? b = some o → b ≠ C.env.locals → b ∉ hp'.map (·.1) → hb'.get? b = some o) ∧ σ.hb.get? a = none := by
  obtain ⟨⟨o, e1, e2⟩, e3, e4⟩ := hs.hp a k d.has
  obtain ⟨hb', k1, k2, k3⟩ := (hs.drop d).rebase
  exact ⟨hb', k1, k2, ⟨o, k3 a o e1 e3 (d.nodup hs.hnd).2, e2⟩, k3, e4⟩

theorem freeze {α : Type} {a : Addr} {k : Mk} {hp' : List (Addr × Mk)} {t : Sem α} {Q : α → Sg → Prop} (d : Del a k hp hp')
    (h : ∀ hb', hb.StaysIn hb' → Is hb' a k → hb.get? a = none → T C t ⟨hb', loc, hp'⟩ Q) : T C t ⟨hb, loc, hp⟩ Q := by
  refine ⟨fun s hs => ?_⟩
  obtain ⟨hb', k1, k2, k3, _, k5⟩ := hs.freeze d
  exact (h hb' k1 k3 k5).go k1 k2
end


structure Kt where
  next : Sg → Prop
  ret : Av → Sg → Prop
  brk : Sg → Prop := fun _ => False
  cont : Sg → Prop := fun _ => False

noncomputable def Kt.run (k : Kt) : Flow → Sg → Prop
  | .next, σ => k.next σ
  | .ret v, σ => ∃ a, Av.is a v ∧ k.ret a σ
  | .brk, σ => k.brk σ
  | .cont, σ => k.cont σ

noncomputable abbrev TX (C : Cx) (t : Sem Flow) (σ : Sg) (k : Kt) : Prop := T C t σ k.run

section
variable {α β : Type} {C : Cx} {σ : Sg}

theorem TV.bind {m : Sem Value} {f : Value → Sem β} {Q : β → Sg → Prop} (h : TV C m σ (fun a σ' => ∀ v, Av.is a v → T C (f v) σ' Q)) : T C (m >>= f) σ Q :=
  T.bind (T.mono h fun v _ _ ⟨a, x, y⟩ => y v x)
theorem TV.pure {a : Av} {v : Value} {Q : Av → Sg → Prop} (ha : Av.is a v) (q : Q a σ) : TV C (Pure.pure v) σ Q := T.pure ⟨a, ha, q⟩
theorem TV.holding {vs : List Value} {m : Sem Value} {Q : Av → Sg → Prop} (h : TV C m σ Q) : TV C (PySem.holding vs m) σ Q := T.holding h

theorem T.point {Q : Unit → Sg → Prop} (h : Q () σ) : T C point σ Q := ⟨fun _ hs => wpAny_point ⟨σ, stays_refl _, hs, h⟩⟩
theorem T.rule {tag : String} {Q : Unit → Sg → Prop} (h : Q () σ) : T C (rule tag) σ Q := ⟨fun _ hs => wpAny_rule ⟨σ, stays_refl _, hs, h⟩⟩
theorem T.releaseGo {keep : List Value} {Q : Unit → Sg → Prop} (h : Q () σ) : ∀ l, T C (release.go keep l) σ Q
  | [] => T.pure h
  | [_] => T.pure h
  | _ :: y :: r => T.bind (T.holding (T.point (T.releaseGo h (y :: r))))
theorem T.release {vs keep : List Value} {Q : Unit → Sg → Prop} (h : Q () σ) : T C (release vs keep) σ Q := T.releaseGo h _
theorem TV.operate {vs : List Value} {m : Sem Value} {Q : Av → Sg → Prop} (h : TV C m σ Q) : TV C (operate vs m) σ Q :=
  T.bind (T.holding (T.mono h fun _ _ _ x => T.bind (T.release (T.pure x))))
theorem TV.mkInt {i : Int} {Q : Av → Sg → Prop} (q : Q (.int i) σ) : TV C (mkInt i) σ Q := ⟨fun s hs => wpAny_mkInt ⟨σ, stays_refl _, hs.toks, .int i, ⟨_, rfl⟩, q⟩⟩
theorem TV.mkStr {x : Str} {Q : Av → Sg → Prop} (hx : x.length ≤ sizeLine) (q : Q (.str x) σ) : TV C (mkStr x) σ Q := ⟨fun s hs => wpAny_mkStr ⟨σ, stays_refl _, hs.toks, .str x, ⟨_, rfl⟩, q⟩ hx⟩
theorem TV.mkText {x : Str} {Q : Av → Sg → Prop} (q : Q (.str x) σ) : TV C (mkText x) σ Q := ⟨fun s hs => wpAny_mkText ⟨σ, stays_refl _, hs.toks, .str x, ⟨_, rfl⟩, q⟩⟩

/-! ## Expressions -/

theorem e_int {i : Int} {k pos} {Q : Av → Sg → Prop} (q : Q (.int i) σ) : TV C (eval (.Constant (.int i) k pos) C.env) σ Q := TV.mkInt q
theorem e_str {x : Str} {k pos} {Q : Av → Sg → Prop} (q : Q (.str x) σ) : TV C (eval (.Constant (.str x) k pos) C.env) σ Q := TV.mkText q
theorem e_bool {b : Bool} {k pos} {Q : Av → Sg → Prop} (q : Q (.bool b) σ) : TV C (eval (.Constant (.bool b) k pos) C.env) σ Q := TV.pure (a := .bool b) rfl q
theorem e_none {k pos} {Q : Av → Sg → Prop} (q : Q .none σ) : TV C (eval (.Constant .none k pos) C.env) σ Q := TV.pure (a := .none) rfl q

/-- an operation on two values -/
noncomputable def O2 (C : Cx) (f : Value → Value → Sem Value) (a b : Av) (σ : Sg) (Q : Av → Sg → Prop) : Prop := ∀ va vb, Av.is a va → Av.is b vb → TV C (f va vb) σ Q
noncomputable def O1 (C : Cx) (f : Value → Sem Value) (a : Av) (σ : Sg) (Q : Av → Sg → Prop) : Prop := ∀ va, Av.is a va → TV C (f va) σ Q
noncomputable def OB (C : Cx) (f : Value → Sem Bool) (a : Av) (σ : Sg) (Q : Bool → Sg → Prop) : Prop := ∀ va, Av.is a va → T C (f va) σ Q

theorem e_binop {l op r pos} {Q : Av → Sg → Prop} (h : TV C (eval l C.env) σ (fun a σ₁ => TV C (eval r C.env) σ₁ (fun b σ₂ => O2 C (binaryOp op) a b σ₂ Q))) :
    TV C (eval (.BinOp l op r pos) C.env) σ Q := by
  rw [arm_eval_BinOp]
  exact TV.bind (TV.mono h fun a σ₁ _ h₁ v hv => TV.bind (TV.holding (TV.mono h₁ fun b σ₂ _ h₂ u hu => T.bind (T.standAt (TV.operate (h₂ v u hv hu))))))

theorem e_unop {op x pos} {Q : Av → Sg → Prop} (h : TV C (eval x C.env) σ (fun a σ₁ => O1 C (unaryOp op) a σ₁ Q)) : TV C (eval (.UnaryOp op x pos) C.env) σ Q := by
  rw [arm_eval_UnaryOp]
  exact TV.bind (TV.mono h fun a σ₁ _ h₁ v hv => T.bind (T.standAt (T.holding (h₁ v hv))))

theorem e_ifexp {test body orelse pos} {Q : Av → Sg → Prop} (h : T C (isTrue test C.env (eval test C.env)) σ (fun b σ₁ => (b = true → TV C (eval body C.env) σ₁ Q) ∧ (b = false → TV C (eval orelse C.env) σ₁ Q))) :
    TV C (eval (.IfExp test body orelse pos) C.env) σ Q := by
  rw [arm_eval_IfExp]
  refine T.bind (T.mono h fun b σ₁ _ h₁ => ?_)
  cases b
  · exact h₁.2 rfl
  · exact h₁.1 rfl

theorem e_or2 {x y pos} {Q : Av → Sg → Prop} (h : TV C (eval x C.env) σ (fun a σ₁ => OB C truthy a σ₁ (fun b σ₂ => (b = true → Q a σ₂) ∧ (b = false → TV C (eval y C.env) σ₂ Q)))) :
    TV C (eval (.BoolOp .Or [x, y] pos) C.env) σ Q := by
  rw [arm_eval_BoolOp]
  show TV C (boolOp pos .Or [eval x C.env, eval y C.env]) σ Q
  unfold boolOp
  refine TV.bind (TV.mono h fun a σ₁ _ h₁ v hv => T.bind (T.standAt (T.bind (T.holding (T.mono (h₁ v hv) fun b σ₂ _ h₂ => ?_)))))
  cases b
  · exact h₂.2 rfl
  · exact TV.pure hv (h₂.1 rfl)
theorem e_and2 {x y pos} {Q : Av → Sg → Prop} (h : TV C (eval x C.env) σ (fun a σ₁ => OB C truthy a σ₁ (fun b σ₂ => (b = false → Q a σ₂) ∧ (b = true → TV C (eval y C.env) σ₂ Q)))) :
    TV C (eval (.BoolOp .And [x, y] pos) C.env) σ Q := by
  rw [arm_eval_BoolOp]
  show TV C (boolOp pos .And [eval x C.env, eval y C.env]) σ Q
  unfold boolOp
  refine TV.bind (TV.mono h fun a σ₁ _ h₁ v hv => T.bind (T.standAt (T.bind (T.holding (T.mono (h₁ v hv) fun b σ₂ _ h₂ => ?_)))))
  cases b
  · exact TV.pure hv (h₂.1 rfl)
  · exact h₂.2 rfl
/-- comparisons: a chain of one and of two -/
theorem e_cmp1 {l op r pos} {Q : Av → Sg → Prop} (h : TV C (eval l C.env) σ (fun a σ₁ => TV C (eval r C.env) σ₁ (fun b σ₂ => O2 C (compareOp op) a b σ₂ Q))) (hm : behindInMarks op r = false := by with_unfolding_all rfl) :
    TV C (eval (.Compare l [op] [r] pos) C.env) σ Q := by
  rw [eval_Compare1, markedBehindIn_of_false hm]
  exact TV.bind (TV.mono h fun a σ₁ _ h₁ v hv => TV.bind (TV.holding (TV.mono h₁ fun b σ₂ _ h₂ u hu => T.bind (T.standAt (TV.operate (h₂ v u hv hu))))))

theorem e_cmp2 {l op op' r r' pos} {Q : Av → Sg → Prop} (h : TV C (eval l C.env) σ (fun a σ₁ => TV C (eval r C.env) σ₁ (fun b σ₂ => O2 C (compareOp op) a b σ₂ (fun c σ₃ => OB C truthy c σ₃ (fun t σ₄ =>
      (t = false → Q c σ₄) ∧ (t = true → TV C (eval r' C.env) σ₄ (fun d σ₅ => O2 C (compareOp op') b d σ₅ Q))))))) (hm : behindInMarks op' r' = false := by with_unfolding_all rfl) :
    TV C (eval (.Compare l [op, op'] [r, r'] pos) C.env) σ Q := by
  rw [arm_eval_Compare]
  show TV C (eval l C.env >>= fun v => compareChain pos v [op, op'] [eval r C.env, markedBehindIn op' r' (eval r' C.env)]) σ Q
  rw [markedBehindIn_of_false hm]
  refine TV.bind (TV.mono h fun a σ₁ _ h₁ v hv => ?_)
  unfold compareChain
  refine TV.bind (TV.holding (TV.mono h₁ fun b σ₂ _ h₂ u hu => T.bind (T.standAt (TV.bind (TV.holding (TV.mono (h₂ v u hv hu) fun c σ₃ _ h₃ w hw => ?_))))))
  refine T.bind (T.release (T.bind (T.holding (T.mono (h₃ w hw) fun t σ₄ _ h₄ => ?_))))
  cases t
  · exact TV.pure hw (h₄.1 rfl)
  · show T C (compareChain pos u [op'] [eval r' C.env]) σ₄ _
    unfold compareChain
    exact TV.bind (TV.holding (TV.mono (h₄.2 rfl) fun d σ₅ _ h₅ z hz => T.bind (T.standAt (TV.operate (h₅ u z hu hz)))))

/-! ## Tests -/

theorem b_cmp1 {l op r pos whole} {Q : Bool → Sg → Prop} (h : TV C (eval l C.env) σ (fun a σ₁ => TV C (eval r C.env) σ₁ (fun b σ₂ => O2 C (compareOp op) a b σ₂ (fun c σ₃ => OB C truthy c σ₃ Q)))) (hm : behindInMarks op r = false := by with_unfolding_all rfl) :
    T C (isTrue (.Compare l [op] [r] pos) C.env whole) σ Q := by
  rw [isTrue_Compare1, markedBehindIn_of_false hm]
  exact TV.bind (TV.mono h fun a σ₁ _ h₁ v hv => TV.bind (TV.holding (TV.mono h₁ fun b σ₂ _ h₂ u hu => T.bind (T.standAt (TV.bind (TV.operate (TV.mono (h₂ v u hv hu) fun c σ₃ _ h₃ w hw => T.holding (h₃ w hw))))))))

theorem b_cmp2 {l op op' r r' pos whole} {Q : Bool → Sg → Prop} (h : TV C (eval l C.env) σ (fun a σ₁ => TV C (eval r C.env) σ₁ (fun b σ₂ => O2 C (compareOp op) a b σ₂ (fun c σ₃ => OB C truthy c σ₃ (fun t σ₄ =>
      (t = false → Q false σ₄) ∧ (t = true → TV C (eval r' C.env) σ₄ (fun d σ₅ => O2 C (compareOp op') b d σ₅ (fun c' σ₆ => OB C truthy c' σ₆ Q)))))))) (hm : behindInMarks op' r' = false := by with_unfolding_all rfl) :
    T C (isTrue (.Compare l [op, op'] [r, r'] pos) C.env whole) σ Q := by
  rw [arm_isTrue_Compare]
  show T C (eval l C.env >>= fun v => testChain pos v [op, op'] [eval r C.env, markedBehindIn op' r' (eval r' C.env)]) σ Q
  rw [markedBehindIn_of_false hm]
  refine TV.bind (TV.mono h fun a σ₁ _ h₁ v hv => ?_)
  unfold testChain
  refine TV.bind (TV.holding (TV.mono h₁ fun b σ₂ _ h₂ u hu => T.bind (T.standAt (TV.bind (TV.holding (TV.mono (h₂ v u hv hu) fun c σ₃ _ h₃ w hw => ?_))))))
  refine T.bind (T.release (T.bind (T.holding (T.mono (h₃ w hw) fun t σ₄ _ h₄ => ?_))))
  cases t
  · exact T.pure (h₄.1 rfl)
  · show T C (testChain pos u [op'] [eval r' C.env]) σ₄ _
    unfold testChain
    exact TV.bind (TV.holding (TV.mono (h₄.2 rfl) fun d σ₅ _ h₅ z hz => T.bind (T.standAt (TV.bind (TV.operate (TV.mono (h₅ u z hu hz) fun c' σ₆ _ h₆ y hy => T.holding (h₆ y hy)))))))

theorem b_not {x pos whole} {Q : Bool → Sg → Prop} (h : T C (isTrue x C.env (eval x C.env)) σ (fun b σ₁ => Q (!b) σ₁)) : T C (isTrue (.UnaryOp .Not x pos) C.env whole) σ Q := by
  rw [arm_isTrue_UnaryOp]
  exact T.bind (T.mono h fun b σ₁ _ h₁ => T.pure h₁)

theorem b_and {x rest pos whole} {Q : Bool → Sg → Prop} (h : T C (isTrue x C.env (eval x C.env)) σ (fun b σ₁ => (b = false → Q false σ₁) ∧ (b = true → T C (allTrue .And rest C.env) σ₁ Q))) :
    T C (isTrue (.BoolOp .And (x :: rest) pos) C.env whole) σ Q := by
  rw [arm_isTrue_BoolOp, arm_allTrue_cons]
  refine T.bind (T.mono h fun b σ₁ _ h₁ => ?_)
  cases b
  · exact T.pure (h₁.1 rfl)
  · exact h₁.2 rfl
theorem b_or {x rest pos whole} {Q : Bool → Sg → Prop} (h : T C (isTrue x C.env (eval x C.env)) σ (fun b σ₁ => (b = true → Q true σ₁) ∧ (b = false → T C (allTrue .Or rest C.env) σ₁ Q))) :
    T C (isTrue (.BoolOp .Or (x :: rest) pos) C.env whole) σ Q := by
  rw [arm_isTrue_BoolOp, arm_allTrue_cons]
  refine T.bind (T.mono h fun b σ₁ _ h₁ => ?_)
  cases b
  · exact h₁.2 rfl
  · exact T.pure (h₁.1 rfl)
theorem a_and {x rest} {Q : Bool → Sg → Prop} (h : T C (isTrue x C.env (eval x C.env)) σ (fun b σ₁ => (b = false → Q false σ₁) ∧ (b = true → T C (allTrue .And rest C.env) σ₁ Q))) :
    T C (allTrue .And (x :: rest) C.env) σ Q := by
  rw [arm_allTrue_cons]
  refine T.bind (T.mono h fun b σ₁ _ h₁ => ?_)
  cases b
  · exact T.pure (h₁.1 rfl)
  · exact h₁.2 rfl
theorem a_or {x rest} {Q : Bool → Sg → Prop} (h : T C (isTrue x C.env (eval x C.env)) σ (fun b σ₁ => (b = true → Q true σ₁) ∧ (b = false → T C (allTrue .Or rest C.env) σ₁ Q))) :
    T C (allTrue .Or (x :: rest) C.env) σ Q := by
  rw [arm_allTrue_cons]
  refine T.bind (T.mono h fun b σ₁ _ h₁ => ?_)
  cases b
  · exact h₁.2 rfl
  · exact T.pure (h₁.1 rfl)
theorem a_and_nil {Q : Bool → Sg → Prop} (q : Q true σ) : T C (allTrue .And [] C.env) σ Q := T.pure q
theorem a_or_nil {Q : Bool → Sg → Prop} (q : Q false σ) : T C (allTrue .Or [] C.env) σ Q := T.pure q

/-- a test that is a plain value: a name, a call, .. -/
theorem b_plain {e : Expr} {Q : Bool → Sg → Prop} (h : TV C (eval e C.env) σ (fun a σ₁ => OB C truthy a σ₁ Q))
    (he : isTrue e C.env (eval e C.env) = (do let v ← eval e C.env; PySem.standAt e.pos; PySem.holding [v] (truthy v)) := by rfl) : T C (isTrue e C.env (eval e C.env)) σ Q := by
  rw [he]
  exact TV.bind (TV.mono h fun a σ₁ _ h₁ v hv => T.bind (T.standAt (T.holding (h₁ v hv))))

/-! ## Statements -/

theorem x_nil {k : Kt} (q : k.next σ) : TX C (execs [] C.env) σ k := T.pure q
theorem x_cons {st rest} {k : Kt} (h : TX C (exec st C.env) σ { k with next := fun σ₁ => TX C (execs rest C.env) σ₁ k }) : TX C (execs (st :: rest) C.env) σ k := by
  rw [execs_cons]
  refine T.bind (T.mono h fun f σ₁ _ h₁ => ?_)
  cases f with
  | next => exact h₁
  | brk => exact T.pure h₁
  | cont => exact T.pure h₁
  | ret v => exact T.pure h₁

theorem T.bindName {x : Str} {v : Value} {Q : Unit → Sg → Prop} (h : T C (storeName C.env x v) σ Q) : T C (bindName C.env x v) σ Q := ⟨fun s hs => wpAny_bindName (h.run s hs)⟩

theorem x_assign {x pos' value pos} {k : Kt} (h : TV C (eval value C.env) σ (fun a σ₁ => ∀ v, Av.is a v → T C (storeName C.env x v) σ₁ (fun _ σ₂ => k.next σ₂)))
    (hs : swapsWith value (some (.Name x pos')) pos.line C.env = Pure.pure false := by rfl) : TX C (exec (.Assign [.Name x pos'] value pos) C.env) σ k := by
  rw [exec_Assign_Name _ _ _ _ _ hs]
  exact T.bind (T.standAt (TV.bind (TV.mono h fun a σ₁ _ h₁ v hv => T.bind (T.standAt (T.bind (T.bindName (T.mono (h₁ v hv) fun _ _ _ q => T.pure q)))))))

theorem x_aug {x npos op value pos} {k : Kt} (h : TV C (loadName C.env x) σ (fun a σ₁ => TV C (eval value C.env) σ₁ (fun b σ₂ => O2 C (inplaceOp op) a b σ₂ (fun c σ₃ =>
      ∀ v, Av.is c v → T C (storeName C.env x v) σ₃ (fun _ σ₄ => k.next σ₄))))) : TX C (exec (.AugAssign (.Name x npos) op value pos) C.env) σ k := by
  rw [exec_AugAssign_Name]
  exact T.bind (T.standAt (TV.bind (TV.mono h fun a σ₁ _ h₁ v hv => TV.bind (TV.holding (TV.mono h₁ fun b σ₂ _ h₂ u hu => T.bind (T.standAt (TV.bind (TV.operate (TV.mono (h₂ v u hv hu) fun c σ₃ _ h₃ w hw =>
    T.bind (T.standAt (T.bind (T.bindName (T.mono (h₃ w hw) fun _ _ _ q => T.pure q)))))))))))))

theorem x_if {test body orelse pos} {k : Kt} (h : T C (isTrue test C.env (eval test C.env)) σ (fun b σ₁ => (b = true → TX C (execs body C.env) σ₁ k) ∧ (b = false → TX C (execs orelse C.env) σ₁ k))) :
    TX C (exec (.If test body orelse pos) C.env) σ k := by
  rw [exec_If]
  refine T.bind (T.standAt (T.bind (T.mono h fun b σ₁ _ h₁ => ?_)))
  cases b
  · exact h₁.2 rfl
  · exact h₁.1 rfl

theorem x_assert {test msg pos} {k : Kt} (h : T C (isTrue test C.env (eval test C.env)) σ (fun b σ₁ => b = true ∧ k.next σ₁)) : TX C (exec (.Assert test msg pos) C.env) σ k := by
  rw [arm_exec_Assert]
  refine T.bind (T.standAt (T.bind (T.mono h fun b σ₁ _ h₁ => ?_)))
  obtain ⟨rfl, q⟩ := h₁
  exact T.pure q

theorem x_return {e pos} {k : Kt} (h : TV C (eval e C.env) σ k.ret) : TX C (exec (.Return (some e) pos) C.env) σ k := by
  rw [exec_Return_some]
  exact T.bind (T.standAt (TV.bind (TV.mono h fun a σ₁ _ h₁ v hv => T.pure ⟨a, hv, h₁⟩)))

theorem x_break {pos} {k : Kt} (q : k.brk σ) : TX C (exec (.Break pos) C.env) σ k := by
  rw [arm_exec_Break]
  exact T.bind (T.standAt (T.pure q))

/-- an expression as a statement that gives back None -/
theorem x_expr {e pos} {k : Kt} (h : TV C (eval e C.env) σ (fun a σ₁ => a = .none ∧ k.next σ₁)) (hf : C.env.scope.kind = .function) (hs : swapsWith e none pos.line C.env = Pure.pure false := by rfl) :
    TX C (exec (.Expr e pos) C.env) σ k := by
  have hi : interactive C.env = false := by unfold interactive; rw [hf]; rfl
  rw [exec_Expr _ _ _ hi hs]
  refine T.bind (T.standAt (TV.bind (TV.mono h fun a σ₁ _ h₁ v hv => ?_)))
  obtain ⟨rfl, q⟩ := h₁
  have hv' : v = .none := hv
  subst hv'
  rw [dropValue_plain (by intro a e; cases e)]
  exact T.pure q

theorem x_while {test body orelse pos} {k : Kt} (I : Nat → Sg → Prop) (n : Nat) (h0 : I n σ)
    (turn : ∀ n σ₁, σ.hb.StaysIn σ₁.hb → I n σ₁ → T C (isTrue test C.env (eval test C.env)) σ₁ (fun b σ₂ =>
      (b = true → TX C (execs body C.env) σ₂ { next := fun σ₃ => ∃ m, m < n ∧ I m σ₃, cont := fun σ₃ => ∃ m, m < n ∧ I m σ₃, brk := k.next, ret := k.ret }) ∧
      (b = false → TX C (execs orelse C.env) σ₂ k))) :
    TX C (exec (.While test body orelse pos) C.env) σ k := by
  refine ⟨fun s hs => ?_⟩
  refine wpAny_While (codeAny_whileLoop (fun n s' => ∃ σ₁, σ.hb.StaysIn σ₁.hb ∧ At C σ₁ s' ∧ I n σ₁) (fun n s' hI => ?_) n ⟨σ, stays_refl _, hs, h0⟩)
  obtain ⟨σ₁, st₁, at₁, i₁⟩ := hI
  refine (turn n σ₁ st₁ i₁).step at₁ fun b σ₂ s₂ st₂ at₂ q => ?_
  cases b
  · simp only [Bool.false_eq_true, if_false]
    exact (q.2 rfl).step at₂ fun f σ₃ s₃ st₃ at₃ r => ⟨σ₃, stays_trans st₁ (stays_trans st₂ st₃), at₃, r⟩
  · simp only [if_true]
    refine (q.1 rfl).step at₂ fun f σ₃ s₃ st₃ at₃ r => ?_
    have st := stays_trans st₁ (stays_trans st₂ st₃)
    cases f with
    | next => obtain ⟨m, hm, hI⟩ := r; exact ⟨m, hm, σ₃, st, at₃, hI⟩
    | cont => obtain ⟨m, hm, hI⟩ := r; exact ⟨m, hm, σ₃, st, at₃, hI⟩
    | brk => exact ⟨σ₃, st, at₃, r⟩
    | ret v => exact ⟨σ₃, st, at₃, r⟩
end


noncomputable abbrev S (l : List Nat) : Str := ⟨l.toArray⟩
theorem S_len (l : List Nat) : (S l).length = l.length := by show l.toArray.size = _; simp
theorem S_inj {a b : List Nat} : S a = S b ↔ a = b := ⟨fun h => by have := congrArg Str.cps h; simpa using this, fun h => by rw [h]⟩
theorem S_cps (a : List Nat) : (S a).cps.toList = a := by simp
theorem S_app (a b : List Nat) : S a ++ S b = S (a ++ b) := by
  apply Str.ext'
  show (S a).cps ++ (S b).cps = _
  simp

section
variable {C : Cx} {σ : Sg}

theorem isI {i : Int} {t : Tok} : Av.is (.int i) (.int i t) := ⟨t, rfl⟩
theorem isS {x : Str} {t : Tok} : Av.is (.str x) (.str x t) := ⟨t, rfl⟩
theorem isB {b : Bool} : Av.is (.bool b) (.bool b) := rfl
theorem isN : Av.is .none .none := rfl
theorem isR {a : Addr} : Av.is (.ref a) (.ref a) := rfl
theorem give {s : Shared} {tk : Nat} {a : Av} {v : Value} {Q : Av → Sg → Prop} (hs : At C σ s) (ha : Av.is a v) (q : Q a σ) :
    Post C σ (fun v σ' => ∃ a, Av.is a v ∧ Q a σ') v { s with toks := tk } := ⟨σ, stays_refl _, hs.toks, a, ha, q⟩

/-! ## Numbers -/
theorem o_add {a b : Int} {Q : Av → Sg → Prop} (q : Q (.int (a + b)) σ) : O2 C (binaryOp .Add) (.int a) (.int b) σ Q := by
  rintro _ _ ⟨t, rfl⟩ ⟨u, rfl⟩
  refine ⟨fun s hs => ?_⟩
  with_reducible exact add_int (give hs isI q)
theorem o_sub {a b : Int} {Q : Av → Sg → Prop} (q : Q (.int (a - b)) σ) : O2 C (binaryOp .Sub) (.int a) (.int b) σ Q := by
  rintro _ _ ⟨t, rfl⟩ ⟨u, rfl⟩
  refine ⟨fun s hs => ?_⟩
  with_reducible exact sub_int (give hs isI q)
theorem o_mod {a b : Int} {Q : Av → Sg → Prop} (hb : 0 < b) (q : Q (.int (a % b)) σ) : O2 C (binaryOp .Mod) (.int a) (.int b) σ Q := by
  rintro _ _ ⟨t, rfl⟩ ⟨u, rfl⟩
  refine ⟨fun s hs => ?_⟩
  rw [← Int.fmod_eq_emod_of_nonneg a (by omega)] at q
  with_reducible exact mod_int (by omega) (give hs isI q)
theorem o_div {a b : Int} {Q : Av → Sg → Prop} (hb : 0 < b) (hp : Builtin.divisionGoesByPylong a b = false) (q : Q (.int (a / b)) σ) : O2 C (binaryOp .FloorDiv) (.int a) (.int b) σ Q := by
  rintro _ _ ⟨t, rfl⟩ ⟨u, rfl⟩
  refine ⟨fun s hs => ?_⟩
  rw [← Int.fdiv_eq_ediv_of_nonneg a (by omega)] at q
  with_reducible exact floordiv_int (by omega) (give hs isI q) (.inl hp)
theorem o_and {a b : Int} {Q : Av → Sg → Prop} (q : Q (.int (Builtin.bitAnd a b)) σ) : O2 C (binaryOp .BitAnd) (.int a) (.int b) σ Q := by
  rintro _ _ ⟨t, rfl⟩ ⟨u, rfl⟩
  refine ⟨fun s hs => ?_⟩
  with_reducible exact and_int (give hs isI q)
theorem o_or {a b : Int} {Q : Av → Sg → Prop} (q : Q (.int (Builtin.bitOr a b)) σ) : O2 C (binaryOp .BitOr) (.int a) (.int b) σ Q := by
  rintro _ _ ⟨t, rfl⟩ ⟨u, rfl⟩
  refine ⟨fun s hs => ?_⟩
  with_reducible exact or_int (give hs isI q)
theorem o_iadd {a b : Int} {Q : Av → Sg → Prop} (q : Q (.int (a + b)) σ) : O2 C (inplaceOp .Add) (.int a) (.int b) σ Q := by
  rintro _ _ ⟨t, rfl⟩ ⟨u, rfl⟩
  refine ⟨fun s hs => ?_⟩
  with_reducible exact iadd_int (give hs isI q)
theorem o_eq {a b : Int} {Q : Av → Sg → Prop} (q : Q (.bool (a == b)) σ) : O2 C (compareOp .Eq) (.int a) (.int b) σ Q := by
  rintro _ _ ⟨t, rfl⟩ ⟨u, rfl⟩
  refine ⟨fun s hs => ?_⟩
  with_reducible exact eq_int (give hs isB q)
theorem o_lt {a b : Int} {Q : Av → Sg → Prop} (q : Q (.bool (decide (a < b))) σ) : O2 C (compareOp .Lt) (.int a) (.int b) σ Q := by
  rintro _ _ ⟨t, rfl⟩ ⟨u, rfl⟩
  refine ⟨fun s hs => ?_⟩
  with_reducible exact lt_int (give hs isB q)
theorem o_le {a b : Int} {Q : Av → Sg → Prop} (q : Q (.bool (decide (a ≤ b))) σ) : O2 C (compareOp .LtE) (.int a) (.int b) σ Q := by
  rintro _ _ ⟨t, rfl⟩ ⟨u, rfl⟩
  refine ⟨fun s hs => ?_⟩
  with_reducible exact PyProof.Rows.le_int (give hs isB q)
theorem o_ge {a b : Int} {Q : Av → Sg → Prop} (q : Q (.bool (decide (b ≤ a))) σ) : O2 C (compareOp .GtE) (.int a) (.int b) σ Q := by
  rintro _ _ ⟨t, rfl⟩ ⟨u, rfl⟩
  refine ⟨fun s hs => ?_⟩
  with_reducible exact PyProof.Rows.ge_int (give hs isB q)
/-! ## Texts -/
theorem o_seq {x y : Str} {Q : Av → Sg → Prop} (q : Q (.bool (x == y)) σ) : O2 C (compareOp .Eq) (.str x) (.str y) σ Q := by
  rintro _ _ ⟨t, rfl⟩ ⟨u, rfl⟩
  refine ⟨fun s hs => ?_⟩
  with_reducible exact eq_str (give hs isB q)
theorem o_sne {x y : Str} {Q : Av → Sg → Prop} (q : Q (.bool (x != y)) σ) : O2 C (compareOp .NotEq) (.str x) (.str y) σ Q := by
  rintro _ _ ⟨t, rfl⟩ ⟨u, rfl⟩
  refine ⟨fun s hs => ?_⟩
  with_reducible exact PyProof.Rows.ne_str (give hs isB q)
theorem o_sle {x y : Str} {Q : Av → Sg → Prop} (q : Q (.bool (!(y.cps.toList < x.cps.toList))) σ) : O2 C (compareOp .LtE) (.str x) (.str y) σ Q := by
  rintro _ _ ⟨t, rfl⟩ ⟨u, rfl⟩
  refine ⟨fun s hs => ?_⟩
  with_reducible exact PySem.P.le_str (give hs isB q)
theorem o_sgt {x y : Str} {Q : Av → Sg → Prop} (q : Q (.bool (y.cps.toList < x.cps.toList)) σ) : O2 C (compareOp .Gt) (.str x) (.str y) σ Q := by
  rintro _ _ ⟨t, rfl⟩ ⟨u, rfl⟩
  refine ⟨fun s hs => ?_⟩
  with_reducible exact PySem.P.gt_str (give hs isB q)
theorem o_sadd {x y : Str} {Q : Av → Sg → Prop} (hsz : x.length + y.length ≤ sizeLine) (q : Q (.str (x ++ y)) σ) : O2 C (binaryOp .Add) (.str x) (.str y) σ Q := by
  rintro _ _ ⟨t, rfl⟩ ⟨u, rfl⟩
  refine ⟨fun s hs => ?_⟩
  with_reducible exact PyProof.Rows.add_str (fun t' tk => (give hs isS q)) hsz
/-! ## Truth -/
theorem t_bool {b : Bool} {Q : Bool → Sg → Prop} (q : Q b σ) : OB C truthy (.bool b) σ Q := by
  rintro _ rfl
  exact T.pure q
theorem t_int {a : Int} {Q : Bool → Sg → Prop} (q : Q (a != 0) σ) : OB C truthy (.int a) σ Q := by
  rintro _ ⟨t, rfl⟩
  refine ⟨fun s hs => ?_⟩
  exact PyProof.Rows.truthy_int ⟨σ, stays_refl _, hs, q⟩

/-! ## Where an object lies -/
noncomputable def Here (σ : Sg) (a : Addr) (k : Mk) : Prop := (a, k) ∈ σ.hp ∨ Is σ.hb a k
theorem Here.at {a : Addr} {k : Mk} {s : Shared} (h : Here σ a k) (hs : At C σ s) : ∃ o, s.heap.get? a = some o ∧ k.is o := by
  rcases h with h | ⟨o, e, r⟩
  · exact (hs.hp a k h).1
  · exact ⟨o, hs.hbget e, r⟩
theorem Here.list {a : Addr} {l : List Av} {s : Shared} (h : Here σ a (.list l)) (hs : At C σ s) : ∃ vs, s.heap.IsList a vs.toArray ∧ Avs l vs := by
  obtain ⟨o, e, vs, n, rfl, r⟩ := h.at hs
  exact ⟨vs, ⟨_, e, rfl, n, rfl⟩, r⟩
theorem Here.tup {a : Addr} {l : List Av} {s : Shared} (h : Here σ a (.tup l)) (hs : At C σ s) : ∃ vs, IsTup s.heap a vs.toArray ∧ Avs l vs := by
  obtain ⟨o, e, vs, n, rfl, r⟩ := h.at hs
  exact ⟨vs, ⟨_, e, rfl, n, rfl⟩, r⟩

theorem Paired.get {α β : Type} {F : α → β → Prop} : ∀ {l : List α} {r : List β} (h : Paired F l r) {i : Nat} {a : α}, l[i]? = some a → ∃ b, r[i]? = some b ∧ F a b
  | _, _, .nil, i, a, e => by simp at e
  | _, _, .cons (b := b) h t, 0, a, e => by simp at e; subst e; exact ⟨b, by simp, h⟩
  | _, _, .cons h t, i + 1, a, e => by
    obtain ⟨b, e1, e2⟩ := Paired.get t (i := i) (by simpa using e)
    exact ⟨b, by simpa using e1, e2⟩
theorem Paired.len {α β : Type} {F : α → β → Prop} {l : List α} {r : List β} (h : Paired F l r) : r.length = l.length := h.length.symm
theorem Paired.app {α β : Type} {F : α → β → Prop} : ∀ {l l' : List α} {r r' : List β}, Paired F l r → Paired F l' r' → Paired F (l ++ l') (r ++ r')
  | _, _, _, _, .nil, h => h
  | _, _, _, _, .cons h t, h' => .cons h (Paired.app t h')
theorem Paired.take {α β : Type} {F : α → β → Prop} : ∀ {l : List α} {r : List β} (n : Nat), Paired F l r → Paired F (l.take n) (r.take n)
  | _, _, n, .nil => by simpa using Paired.nil
  | _, _, 0, .cons h t => by simpa using Paired.nil
  | _, _, n + 1, .cons h t => by simpa using Paired.cons h (Paired.take n t)
theorem Paired.drop {α β : Type} {F : α → β → Prop} : ∀ {l : List α} {r : List β} (n : Nat), Paired F l r → Paired F (l.drop n) (r.drop n)
  | _, _, n, .nil => by simpa using Paired.nil
  | _, _, 0, .cons h t => by simpa using Paired.cons h t
  | _, _, n + 1, .cons h t => by simpa using Paired.drop n t

theorem avs_ints : ∀ {l : List Int} {vs : List Value}, Avs (l.map .int) vs → IntsAre vs l
  | [], _, .nil => IntsAre.nil
  | _ :: _, _, .cons ⟨t, e⟩ r => by subst e; exact IntsAre.cons _ _ (avs_ints r)
theorem avs_strs : ∀ {l : List Str} {vs : List Value}, Avs (l.map .str) vs → StrsAre vs l
  | [], _, .nil => StrsAre.nil
  | _ :: _, _, .cons ⟨t, e⟩ r => by subst e; exact StrsAre.cons _ _ (avs_strs r)
end


/-- the list's items are lists' own values one by one -/
noncomputable def TL (C : Cx) : List Expr → Sg → (List Av → Sg → Prop) → Prop
  | [], σ, Q => Q [] σ
  | e :: r, σ, Q => TV C (eval e C.env) σ (fun a σ₁ => TL C r σ₁ (fun as σ₂ => Q (a :: as) σ₂))

noncomputable def plainE : Expr → Bool
  | .Starred .. => false
  | _ => true

theorem starEach_plain {env : Env} : ∀ {l : List Expr}, l.all plainE = true → starEach l env = l.map fun e => (false, eval e env)
  | [], _ => rfl
  | e :: r, h => by
    simp only [List.all_cons, Bool.and_eq_true] at h
    rw [List.map_cons, ← starEach_plain h.2]
    cases e <;> first | rfl | (simp [plainE] at h)
theorem backTo_plain {env : Env} {pos : Pos} {l : List Expr} (h : l.all plainE = true) : backTo pos (starEach l env) = l.map fun e => (false, eval e env) := by
  rw [starEach_plain h]
  unfold backTo
  rw [List.map_map]
  rfl

section
variable {α : Type} {C : Cx} {σ : Sg}

theorem TL.mono : ∀ {l : List Expr} {σ : Sg} {Q Q' : List Av → Sg → Prop}, TL C l σ Q → (∀ as σ', σ.hb.StaysIn σ'.hb → Q as σ' → Q' as σ') → TL C l σ Q'
  | [], σ, _, _, h, q => q _ _ (stays_refl _) h
  | e :: r, σ, _, _, h, q => TV.mono h fun a σ₁ k h₁ => TL.mono h₁ fun as σ₂ k' x => q _ _ (stays_trans k k') x

theorem T.spliced : ∀ {l : List Expr} {σ : Sg} {Q : List Value → Sg → Prop}, TL C l σ (fun as σ₁ => ∀ vs, Avs as vs → Q vs σ₁) → T C (spliced (l.map fun e => (false, eval e C.env))) σ Q
  | [], σ, Q, h => T.pure (h [] .nil)
  | e :: r, σ, Q, h => by
    rw [List.map_cons, PySem.spliced.eq_def]
    refine TV.bind (TV.mono h fun a σ₁ _ h₁ v hv => ?_)
    refine T.bind (T.pure ?_)
    refine T.bind (T.holding (T.spliced (TL.mono h₁ fun as σ₂ _ h₂ vs hvs => ?_)))
    exact T.pure (h₂ (v :: vs) (.cons hv hvs))

/-! ## New objects -/
theorem fresh_none (h : Heap) {a : Addr} (ha : h.objs.size ≤ a) : h.get? a = none := by
  cases e : h.get? a with
  | none => rfl
  | some o => exact absurd (Heap.lt_size e) (Nat.not_lt.mpr ha)

theorem T.newList {as : List Av} {vs : List Value} {Q : Av → Sg → Prop} (hvs : Avs as vs) (hsz : as.length ≤ sizeLine)
    (q : ∀ a, Q (.ref a) { σ with hp := (a, .list as) :: σ.hp }) : TV C (newList vs) σ Q := by
  refine ⟨fun s hs => PySem.wpAny_newList ?_ (by rw [Paired.len hvs]; exact hsz)⟩
  exact ⟨{ σ with hp := (s.heap.objs.size, .list as) :: σ.hp }, stays_refl _, hs.new (k := .list as) (tk := s.toks) (a := s.heap.objs.size) (o := { cls := .type "list", data := .seq vs.toArray }) (fresh_none _ (Nat.le_refl _)) (fun b o e => Heap.get?_push_of_some _ e) (Heap.get?_push_size _ rfl) ⟨vs, _, rfl, hvs⟩, .ref _, isR, q _⟩
theorem T.newTuple {as : List Av} {vs : List Value} {Q : Av → Sg → Prop} (hvs : Avs as vs) (hsz : as.length ≤ sizeLine)
    (q : ∀ a, Q (.ref a) { σ with hp := (a, .tup as) :: σ.hp }) : TV C (newTuple vs) σ Q := by
  refine ⟨fun s hs => PySem.wpAny_newTuple ?_ (by rw [Paired.len hvs]; exact hsz)⟩
  exact ⟨{ σ with hp := (s.heap.objs.size, .tup as) :: σ.hp }, stays_refl _, hs.new (k := .tup as) (tk := s.toks) (a := s.heap.objs.size) (o := { cls := .type "tuple", data := .seq vs.toArray }) (fresh_none _ (Nat.le_refl _)) (fun b o e => Heap.get?_push_of_some _ e) (Heap.get?_push_size _ rfl) ⟨vs, _, rfl, hvs⟩, .ref _, isR, q _⟩

theorem e_list {elts pos} {Q : Av → Sg → Prop} (hp : elts.all plainE = true) (h : TL C elts σ (fun as σ₁ => as.length ≤ sizeLine ∧ ∀ a, Q (.ref a) { σ₁ with hp := (a, .list as) :: σ₁.hp })) :
    TV C (eval (.List elts pos) C.env) σ Q := by
  rw [arm_eval_List, backTo_plain hp]
  exact T.bind (T.standAt (T.bind (T.spliced (TL.mono h fun as σ₁ _ h₁ vs hvs => T.newList hvs h₁.1 h₁.2))))
/-- a list display that is never changed -/
theorem e_listF {elts pos} {Q : Av → Sg → Prop} (hp : elts.all plainE = true) (h : TL C elts σ (fun as σ₁ => as.length ≤ sizeLine ∧ ∀ x hb', σ₁.hb.StaysIn hb' → σ₁.hb.get? x = none → Is hb' x (.list as) → Q (.ref x) ⟨hb', σ₁.loc, σ₁.hp⟩)) :
    TV C (eval (.List elts pos) C.env) σ Q := by
  rw [arm_eval_List, backTo_plain hp]
  refine T.bind (T.standAt (T.bind (T.spliced (TL.mono h fun as σ₁ _ h₁ vs hvs => ?_))))
  refine ⟨fun s hs => PySem.wpAny_newList ?_ (by rw [Paired.len hvs]; exact h₁.1)⟩
  have hn := fresh_none s.heap (Nat.le_refl _)
  have hs' := hs.new (tk := s.toks) (a := s.heap.objs.size) (k := .list as) (o := { cls := .type "list", data := .seq vs.toArray }) hn (fun b o e => Heap.get?_push_of_some _ e) (Heap.get?_push_size _ rfl) ⟨vs, _, rfl, hvs⟩
  obtain ⟨hb', f1, f2, f3, _, f5⟩ := hs'.freeze (a := s.heap.objs.size) (k := .list as) (hp' := σ₁.hp) .here
  exact ⟨_, f1, f2, .ref _, isR, h₁.2 _ hb' f1 f5 f3⟩
theorem e_tupF {elts k pos} {Q : Av → Sg → Prop} (hp : elts.all plainE = true) (h : TL C elts σ (fun as σ₁ => as.length ≤ sizeLine ∧ ∀ x hb', σ₁.hb.StaysIn hb' → σ₁.hb.get? x = none → Is hb' x (.tup as) → Q (.ref x) ⟨hb', σ₁.loc, σ₁.hp⟩)) :
    TV C (eval (.Tuple elts k pos) C.env) σ Q := by
  rw [arm_eval_Tuple, backTo_plain hp]
  refine T.bind (T.standAt (T.bind (T.spliced (TL.mono h fun as σ₁ _ h₁ vs hvs => ?_))))
  refine ⟨fun s hs => PySem.wpAny_newTuple ?_ (by rw [Paired.len hvs]; exact h₁.1)⟩
  have hn := fresh_none s.heap (Nat.le_refl _)
  have hs' := hs.new (tk := s.toks) (a := s.heap.objs.size) (k := .tup as) (o := { cls := .type "tuple", data := .seq vs.toArray }) hn (fun b o e => Heap.get?_push_of_some _ e) (Heap.get?_push_size _ rfl) ⟨vs, _, rfl, hvs⟩
  obtain ⟨hb', f1, f2, f3, _, f5⟩ := hs'.freeze (a := s.heap.objs.size) (k := .tup as) (hp' := σ₁.hp) .here
  exact ⟨_, f1, f2, .ref _, isR, h₁.2 _ hb' f1 f5 f3⟩

/-! ## Items -/
noncomputable def ItemT (C : Cx) (a b : Av) (σ : Sg) (Q : Av → Sg → Prop) : Prop :=
  ∀ vo vi, Av.is a vo → Av.is b vi → ∀ s, At C σ s → ItemOn (model C.prog C.w) C.A (fun _ _ => False) vo vi (Post C σ (fun v σ' => ∃ a, Av.is a v ∧ Q a σ')) s

theorem sub_tail {value slice : Expr} {o i : Value} {Q : Value → Shared → Prop} {s : Shared} {ops : List Value} (h : ItemOn (model C.prog C.w) C.A (fun _ _ => False) o i Q s)
    (hs : subscripted slice false o i = operate ops (getItem o i)) : wpAny (model C.prog C.w) C.A (subscriptTail value slice o i) Q (fun _ _ => False) s :=
  kba_turn (value' := .Name "_" ⟨0, 0, 0, 0⟩) (fun _ => rfl) (tail_of_ItemOn h hs (fun _ => rfl))

theorem e_item {value slice pos} {Q : Av → Sg → Prop} (h : TV C (eval value C.env) σ (fun a σ₁ => TV C (eval slice C.env) σ₁ (fun b σ₂ => ItemT C a b σ₂ Q)))
    (hs : ∀ o i, subscripted slice false o i = operate [o, i] (getItem o i) := by intro _ _; rfl) : TV C (eval (.Subscript value slice pos) C.env) σ Q := by
  refine ⟨fun s hs' => Subscript_ ?_⟩
  refine T.step h hs' fun v σ₁ s₁ k₁ at₁ ⟨a, ha, h₁⟩ => ?_
  refine T.step h₁ at₁ fun u σ₂ s₂ k₂ at₂ ⟨b, hb, h₂⟩ => ?_
  exact wpAny_mono (sub_tail (h₂ v u ha hb s₂ at₂) (hs v u)) (Post.up (stays_trans k₁ k₂)) fun _ _ x => x

theorem it_list {a : Addr} {l : List Av} {k : Int} {x : Av} {Q : Av → Sg → Prop} (h : Here σ a (.list l)) (h0 : 0 ≤ k) (h1 : k < 2 ^ 63) (hx : l[k.toNat]? = some x) (q : Q x σ) : ItemT C (.ref a) (.int k) σ Q := by
  rintro _ _ rfl ⟨t, rfl⟩ s hs
  obtain ⟨vs, e1, e2⟩ := h.list hs
  obtain ⟨v, e3, e4⟩ := Paired.get e2 hx
  exact ⟨"list", _, slot_list_getitem.lookup, e1.typeIs, wpAny_getItem_list e1 h0 h1 (by simpa using e3) ⟨σ, stays_refl _, hs, x, e4, q⟩⟩
theorem it_str {x : Str} {k : Int} {c : Nat} {Q : Av → Sg → Prop} (h1 : -(2 ^ 63) ≤ k) (h2 : k < 2 ^ 63) (hc : ((seqIndex? k x.length).bind (x.cps[·]?)) = some c) (q : Q (.str (S [c])) σ) : ItemT C (.str x) (.int k) σ Q := by
  rintro _ _ ⟨u, rfl⟩ ⟨t, rfl⟩ s hs
  refine ⟨"str", _, PySem.F.slot_str_getitem.lookup, typeIs_str _ _ _, getItem_str (c := c) ?_ hc (give hs isS q)⟩
  simp; omega
end


section
variable {α : Type} {C : Cx} {σ : Sg}

/-! ## Calls -/

/-- a call of f with these arguments -/
noncomputable def CC (C : Cx) (f : Value) (as : List Av) (σ : Sg) (Q : Av → Sg → Prop) : Prop := ∀ vs, Avs as vs → TV C (call f vs []) σ Q

/-- what callWith asks of the callee -/
noncomputable def Kp (C : Cx) (f : Value) : Prop := ∀ h, C.K.In h → ∃ k, (k = Keeper.frame ∨ k = Keeper.machine ∨ k = Keeper.boundFrame) ∧ Looks (model C.prog C.w) h (keeperOf f) k
theorem kp_builtin {id : String} : Kp C (.builtin id) := fun _ _ => ⟨.machine, .inr (.inl rfl), Looks.of_pure rfl⟩
theorem kp_type {T : String} : Kp C (.type T) := fun _ _ => ⟨.machine, .inr (.inl rfl), Looks.of_pure rfl⟩
theorem kp_fn {a : Addr} (h : keepIn C.K (.ref a) = true) : Kp C (.ref a) := fun _ X => by
  obtain ⟨k, a, b⟩ := looks_keep (M := model C.prog C.w) h X
  exact ⟨k, a.elim .inl (fun e => .inr (.inl e)), b⟩

theorem evalArgs_T {f : Value} {args : List Expr} {Q : Args → Shared → Prop} {s : Shared} (h : TL C args σ (fun as σ₁ => ∀ vs s₁, σ.hb.StaysIn σ₁.hb → At C σ₁ s₁ → Avs as vs → Q ⟨vs, []⟩ s₁)) (hs : At C σ s) :
    wpAny (model C.prog C.w) C.A (evalArgs f true (args.map fun e => (false, eval e C.env)) []) Q (fun _ _ => False) s := by
  have key : wpAny (model C.prog C.w) C.A (spliced (args.map fun e => (false, eval e C.env))) (fun vs s' => Q ⟨vs, []⟩ s') (fun _ _ => False) s :=
    T.step (T.spliced (Q := fun vs σ₁ => ∀ s₁, σ.hb.StaysIn σ₁.hb → At C σ₁ s₁ → Q ⟨vs, []⟩ s₁) (TL.mono h fun as σ₁ _ x vs hvs s₁ k hs₁ => x vs s₁ k hs₁ hvs)) hs fun vs σ₁ s₁ k at₁ q => q s₁ k at₁
  cases args with
  | nil => exact evalArgs_nil3 (h [] s (stays_refl _) hs .nil)
  | cons e r => exact evalArgs_plain key

theorem c_with {f : Value} {first : List Av} {fs : List Value} {pos : Pos} {args : List Expr} {Q : Av → Sg → Prop} (hk : Kp C f) (hf : Avs first fs) (hp : args.all plainE = true)
    (h : TL C args σ (fun as σ₁ => CC C f (first ++ as) σ₁ Q)) : TV C (callWith pos f fs (backTo pos (starEach args C.env)) []) σ Q := by
  rw [backTo_plain hp]
  refine ⟨fun s hs => callWith_of (P := fun h => C.K.In h) ?_ hk (evalArgs_T (TL.mono h fun as σ₁ k x => ?_) hs)⟩
  · simp
  · intro vs s₁ k₁ at₁ hvs
    exact ⟨at₁.wd.1.keeps at₁.keep, wpAny_mono ((x (fs ++ vs) (Paired.app hf hvs)).run s₁ at₁) (Post.up k₁) fun _ _ x => x⟩

inductive CallOn (C : Cx) (args : List Expr) (Q : Av → Sg → Prop) (σ₁ : Sg) (a : Av) : Prop
  | mk (f : Value) (e : a = .raw f) (k : Kp C f) (h : TL C args σ₁ (fun as σ₂ => CC C f as σ₂ Q)) : CallOn C args Q σ₁ a
theorem e_call {id : Str} {p pos : Pos} {args : List Expr} {Q : Av → Sg → Prop} (hp : args.all plainE = true)
    (h : TV C (eval (.Name id p) C.env) σ (fun a σ₁ => CallOn C args Q σ₁ a)) : TV C (eval (.Call (.Name id p) args [] pos) C.env) σ Q := by
  refine ⟨fun s hs => wpAny_Call_NameR ?_⟩
  refine T.step h hs fun v σ₁ s₁ k₁ at₁ H_ => ?_
  obtain ⟨a, ha, f, ea, kf, x⟩ := H_
  subst ea
  have hv : v = f := ha
  subst hv
  exact T.go (c_with kf (first := []) (fs := []) .nil hp x) k₁ at₁

/-! ## Methods of built-in types -/
structure MethOf (T : String) (name : Str) (id : String) : Prop where
  plain : PlainAttrs T
  slot : Slot T name id
  ty : typeOf (.builtin id) = pure (.type "method_descriptor")

noncomputable def OfType (C : Cx) (a : Av) (σ : Sg) (T : String) : Prop := ∀ v s, Av.is a v → At C σ s → s.TypeIs v T ∧ ∀ x, v = .ref x → ∃ o, s.heap.get? x = some o ∧ o.dict = none
theorem of_str {x : Str} : OfType C (.str x) σ "str" := by
  rintro _ s ⟨t, rfl⟩ hs
  exact ⟨typeIs_str _ _ _, fun x e => nomatch e⟩
theorem of_list {a : Addr} {l : List Av} (h : Here σ a (.list l)) : OfType C (.ref a) σ "list" := by
  rintro _ s rfl hs
  obtain ⟨o, e, vs, n, rfl, r⟩ := h.at hs
  exact ⟨⟨_, e, rfl⟩, fun x e' => by cases e'; exact ⟨_, e, rfl⟩⟩

theorem e_meth {o : Expr} {name : Str} {apos pos : Pos} {args : List Expr} {Ty id : String} {pl : Sem Bool} {Q : Av → Sg → Prop} (M : MethOf Ty name id) (hp : args.all plainE = true)
    (h : TV C (eval o C.env) σ (fun a σ₁ => OfType C a σ₁ Ty ∧ TL C args σ₁ (fun as σ₂ => CC C (.builtin id) (a :: as) σ₂ Q)))
    (he : eval (.Call (.Attribute o name apos) args [] pos) C.env = (do
      let ov ← eval o C.env
      PySem.standAt apos.atName
      let (f, first) ← PySem.holding [ov] (getMethod ov name pl)
      callWith pos f first (backTo pos (starEach args C.env)) (backToKw pos (keywordEach [] C.env))) := by rfl) :
    TV C (eval (.Call (.Attribute o name apos) args [] pos) C.env) σ Q := by
  refine ⟨fun s hs => methodCall_KW (pl := pl) ?_ he⟩
  refine T.step h hs fun v σ₁ s₁ k₁ at₁ H_ => ?_
  obtain ⟨a, ha, h1, h2⟩ := H_
  obtain ⟨t1, t2⟩ := h1 v s₁ ha at₁
  exact getMethod_builtin t1 M.plain M.slot M.ty t2 (T.go (c_with kp_builtin (first := [a]) (fs := [v]) (.cons ha .nil) hp h2) k₁ at₁)

/-! ## f-strings -/
theorem e_fval {value pos} {Q : Av → Sg → Prop} (h : TV C (eval value C.env) σ (fun a σ₁ => ∃ x, a = .str x ∧ x.length ≤ sizeLine ∧ Q (.str x) σ₁)) : TV C (eval (.FormattedValue value (-1) none pos) C.env) σ Q := by
  rw [arm_eval_FormattedValue]
  refine TV.bind (TV.mono h fun a σ₁ _ ⟨x, e, hx, q⟩ v hv => ?_)
  subst e
  obtain ⟨t, rfl⟩ := hv
  refine T.bind (T.standAt ?_)
  show TV C ((PySem.holding [Value.str x t] (Pure.pure (Value.str x t))) >>= fun r => formatField r Str.empty) σ₁ Q
  refine T.bind (T.holding (T.pure ?_))
  show TV C (do rule "fstring.same-str"; return ← habitSame "fstring-hands-on-the-str" (Value.str x t)) σ₁ Q
  refine T.bind (T.rule ?_)
  show TV C (ask >>= fun S => if (!S.params.followText "fstring-hands-on-the-str") = true then Pure.pure (Value.str x t) else mkStr x) σ₁ Q
  refine ⟨fun s hs => wpAny_bind (wpAny_askSetting ?_)⟩
  split
  · exact (TV.pure (C := C) (σ := σ₁) (a := .str x) ⟨t, rfl⟩ q).run s hs
  · exact (TV.mkStr (C := C) (σ := σ₁) hx q).run s hs

/-- the parts of an f-string, glued -/
noncomputable def TJ (C : Cx) (out : Str) : List Expr → Sg → (Av → Sg → Prop) → Prop
  | [], σ, Q => out.length ≤ sizeLine ∧ Q (.str out) σ
  | e :: r, σ, Q => TV C (eval e C.env) σ (fun a σ₁ => ∃ x, a = .str x ∧ out.length + x.length ≤ sizeLine ∧ TJ C (out ++ x) r σ₁ Q)

theorem T.joinParts : ∀ {l : List Expr} {out : Str} {σ : Sg} {Q : Av → Sg → Prop}, TJ C out l σ Q → TV C (joinParts out (evalEach l C.env)) σ Q
  | [], out, σ, Q, h => by
    show TV C (mkStr out) σ Q
    exact TV.mkStr h.1 h.2
  | e :: r, out, σ, Q, h => by
    show TV C (do
      let some s ← asStr? (← eval e C.env) | unsupported "internal:joinedstr"
      if out.length + s.length > sizeLine then unsupported "str:memory"
      PySem.joinParts (out ++ s) (evalEach r C.env)) σ Q
    refine TV.bind (TV.mono h fun a σ₁ _ ⟨x, ea, hx, h₁⟩ v hv => ?_)
    subst ea
    obtain ⟨t, rfl⟩ := hv
    refine T.bind (T.pure (a := some x) ?_)
    show TV C (do
      if out.length + x.length > sizeLine then unsupported "str:memory"
      PySem.joinParts (out ++ x) (evalEach r C.env)) σ₁ Q
    rw [if_neg (by omega)]
    exact T.joinParts h₁

theorem e_fstr {e e' : Expr} {r : List Expr} {pos} {Q : Av → Sg → Prop} (h : TJ C Str.empty (e :: e' :: r) σ Q) : TV C (eval (.JoinedStr (e :: e' :: r) pos) C.env) σ Q := by
  rw [arm_eval_JoinedStr]
  exact T.joinParts h
end


section
variable {α : Type} {C : Cx} {σ : Sg}

/-! ## Slices -/
noncomputable def optV : Option Int → Value → Prop
  | none, v => v = .none
  | some i, v => ∃ t, v = .int i t
noncomputable def TP (C : Cx) : Option Expr → Sg → (Option Int → Sg → Prop) → Prop
  | none, σ, Q => Q none σ
  | some e, σ, Q => TV C (eval e C.env) σ (fun a σ₁ => ∃ i, a = .int i ∧ Q (some i) σ₁)
theorem T.part {e : Option Expr} {Q : Value → Sg → Prop} (h : TP C e σ (fun i σ₁ => ∀ v, optV i v → Q v σ₁)) : T C (valueOrNone (evalOpt e C.env)) σ Q := by
  cases e with
  | none => exact T.pure (h _ rfl)
  | some e => exact T.mono h fun v σ₁ _ ⟨a, ha, i, e, x⟩ => x v (by subst e; exact ha)

noncomputable def SliceT (C : Cx) (a : Av) (l u : Option Int) (σ : Sg) (Q : Av → Sg → Prop) : Prop :=
  ∀ vo vl vu, Av.is a vo → optV l vl → optV u vu → ∀ s, At C σ s → ItemOn (model C.prog C.w) C.A (fun _ _ => False) vo (.ref s.heap.objs.size) (Post C σ (fun v σ' => ∃ a, Av.is a v ∧ Q a σ'))
    { s with heap := s.heap.push { cls := .type "slice", data := .fields #[vl, vu, .none] } }

theorem e_slice {value : Expr} {lo hi : Option Expr} {sp pos} {Q : Av → Sg → Prop} (h : TV C (eval value C.env) σ (fun a σ₁ => TP C lo σ₁ (fun l σ₂ => TP C hi σ₂ (fun u σ₃ => SliceT C a l u σ₃ Q)))) :
    TV C (eval (.Subscript value (.Slice lo hi none sp) pos) C.env) σ Q := by
  refine ⟨fun s hs => Subscript_ ?_⟩
  refine T.step h hs fun v σ₁ s₁ k₁ at₁ ⟨a, ha, h₁⟩ => ?_
  have inner : T C (do
      let l ← valueOrNone (evalOpt lo C.env)
      let u ← PySem.holding [l] (valueOrNone (evalOpt hi C.env))
      pure (l, u)) σ₁ (fun p σ₃ => ∃ l u, optV l p.1 ∧ optV u p.2 ∧ SliceT C a l u σ₃ Q) := by
    refine T.bind (T.part ?_)
    cases lo with
    | none => exact fun v hv => T.bind (T.holding (T.part (by
        cases hi with
        | none => exact fun w hw => T.pure ⟨_, _, hv, hw, h₁⟩
        | some e => exact TV.mono h₁ fun b σ₃ _ ⟨j, ej, x⟩ => ⟨j, ej, fun w hw => T.pure ⟨_, _, hv, hw, x⟩⟩)))
    | some e => exact TV.mono h₁ fun b σ₂ _ ⟨i, ei, x⟩ => ⟨i, ei, fun v hv => T.bind (T.holding (T.part (by
        cases hi with
        | none => exact fun w hw => T.pure ⟨_, _, hv, hw, x⟩
        | some e => exact TV.mono x fun b σ₃ _ ⟨j, ej, x⟩ => ⟨j, ej, fun w hw => T.pure ⟨_, _, hv, hw, x⟩⟩)))⟩
  have inner' := T.step (P := fun p s₃ => wpAny (model C.prog C.w) C.A (newFields "slice" [p.1, p.2, .none]) (fun i s₄ => wpAny (model C.prog C.w) C.A (subscriptTail value (.Slice lo hi none sp) v i) (Post C σ (fun v σ' => ∃ a, Av.is a v ∧ Q a σ')) (fun _ _ => False) s₄) (fun _ _ => False) s₃)
    inner at₁ (E := fun _ _ => False) fun p σ₃ s₃ k₃ at₃ ⟨l, u, hl, hu, x⟩ => by
      refine wpAny_newObj_type (T := "slice") (wpAny_mono (sub_tail (ops := [_, _]) (x v p.1 p.2 ha hl hu s₃ at₃) rfl) (Post.up (stays_trans k₁ k₃)) fun _ _ x => x)
  show wpAny (model C.prog C.w) C.A (do
      let l ← valueOrNone (evalOpt lo C.env)
      let u ← PySem.holding [l] (valueOrNone (evalOpt hi C.env))
      let s ← PySem.holding [l, u] (Pure.pure Value.none)
      newFields "slice" [l, u, s]) _ _ s₁
  have e2 : (do
      let l ← valueOrNone (evalOpt lo C.env)
      let u ← PySem.holding [l] (valueOrNone (evalOpt hi C.env))
      let s ← PySem.holding [l, u] (Pure.pure Value.none)
      newFields "slice" [l, u, s] : Sem Value) = ((do
      let l ← valueOrNone (evalOpt lo C.env)
      let u ← PySem.holding [l] (valueOrNone (evalOpt hi C.env))
      pure (l, u)) >>= fun p => newFields "slice" [p.1, p.2, Value.none]) := by
    simp only [bind_assoc, pure_bind]
    refine congrArg _ (funext fun l => congrArg _ (funext fun u => ?_))
    have : ∀ (vs : List Value), (PySem.holding vs (Pure.pure Value.none) : Sem Value) = Pure.pure Value.none := by
      intro vs
      unfold PySem.holding
      split <;> rfl
    rw [this]; rfl
  rw [e2]
  exact wpAny_bind inner'

theorem pv_of {o : Option Int} {v : Value} (h : optV o v) : ∃ p : Option (Int × Tok), v = partValue p ∧ p.map (·.1) = o := by
  cases o with
  | none => exact ⟨none, h, rfl⟩
  | some i => obtain ⟨t, rfl⟩ := h; exact ⟨some (i, t), rfl, rfl⟩

theorem sl_str {x : Str} {l u : Option Int} {Q : Av → Sg → Prop} (hx : x.length ≤ sizeLine) (q : Q (.str (Txt.slice x l u)) σ) : SliceT C (.str x) l u σ Q := by
  rintro _ vl vu ⟨t, rfl⟩ hl hu s hs
  obtain ⟨pl, rfl, rfl⟩ := pv_of hl
  obtain ⟨pu, rfl, rfl⟩ := pv_of hu
  have hk := hs.kept (h' := s.heap.push { cls := .type "slice", data := .fields #[partValue pl, partValue pu, .none] }) (tk := s.toks) (fun _ _ e => Heap.get?_push_of_some _ e)
  exact ⟨"str", _, PySem.F.slot_str_getitem.lookup, typeIs_str _ _ _, wpAny_getItem_str_slice (l := pl) (u := pu) (st := none) ⟨_, Heap.get?_push_size _ rfl, rfl, rfl⟩ rfl
    (post_val_or_str ⟨Nat.le_trans (Txt.slice_le x _ _) hx, fun t' k => ⟨σ, stays_refl _, hk.toks, _, isS, q⟩⟩)⟩

/-- a list's slice: a new list, frozen -/
theorem sl_list {a : Addr} {as : List Av} {l u : Option Int} {bs : List Av} {Q : Av → Sg → Prop} (h : Here σ a (.list as)) (hsz : as.length ≤ sizeLine)
    (hb : ∀ vs, Avs as vs → Avs bs (slicePick vs.toArray l u none).toList)
    (q : ∀ x hb', σ.hb.StaysIn hb' → σ.hb.get? x = none → Is hb' x (.list bs) → Q (.ref x) ⟨hb', σ.loc, σ.hp⟩) : SliceT C (.ref a) l u σ Q := by
  rintro _ vl vu rfl hl hu s hs
  obtain ⟨vs, e1, e2⟩ := h.list hs
  obtain ⟨pl, rfl, rfl⟩ := pv_of hl
  obtain ⟨pu, rfl, rfl⟩ := pv_of hu
  have hk := hs.kept (h' := s.heap.push { cls := .type "slice", data := .fields #[partValue pl, partValue pu, .none] }) (tk := s.toks) (fun _ _ e => Heap.get?_push_of_some _ e)
  have e1' := e1.push { cls := .type "slice", data := .fields #[partValue pl, partValue pu, .none] }
  have ip : ∀ p : Option (Int × Tok), IsPart (partValue p) (p.map (·.1)) := fun p => by
    cases p with
    | none => exact IsPart.none
    | some q => obtain ⟨i, t⟩ := q; exact IsPart.int i t
  refine ⟨"list", _, slot_list_getitem.lookup, e1'.typeIs, wpAny_getItem_list_slice e1' ⟨_, Heap.get?_push_size _ rfl, rfl, rfl⟩ (ip pl) (ip pu) IsPart.none (by simp) ?_ (by simp [Paired.len e2]; exact hsz)⟩
  have hn := hk.new (k := .list bs) (tk := s.toks) (o := { cls := .type "list", data := .seq (slicePick vs.toArray (pl.map (·.1)) (pu.map (·.1)) none) }) (fresh_none _ (Nat.le_refl _)) (fun b o e => Heap.get?_push_of_some _ e) (Heap.get?_push_size _ rfl) ⟨(slicePick vs.toArray (pl.map (·.1)) (pu.map (·.1)) none).toList, 0, by simp, hb vs e2⟩
  obtain ⟨hb', f1, f2, f3, _, f5⟩ := hn.freeze (k := .list bs) (hp' := σ.hp) .here
  exact ⟨_, f1, f2, .ref _, isR, q _ hb' f1 f5 f3⟩
end


/-! ## A list's bound append -/
noncomputable def bmObj (a : Addr) : Obj := { cls := .type "builtin_function_or_method", data := .fields #[.builtin "list.append", .ref a] }

namespace BM
theorem slot_get : Slot "method_descriptor" "__get__" "method_descriptor.__get__" :=
  .of (owner := "method_descriptor") (n := "__get__") (by rw [typeLookup_type, builtinLookup_eq_fast]; kernel_rfl) (by decide +kernel) (by decide +kernel) (by decide +kernel)
    (by first | exact .inl (by decide +kernel) | exact .inr (by decide +kernel)) (by rw [isSubtype_type]; kernel_rfl)
theorem entry_get : entryFor table "method_descriptor.__get__" = some Builtin.«method_descriptor.__get__» := entryFor_of_tree (by kernel_rfl)
theorem args_get (a b c : Value) : argsOk "method_descriptor.__get__" ⟨[a, b, c], []⟩ := by unfold argsOk; kernel_rfl
theorem told : Manifest.toldItsClass.contains "list.append" = false := by decide +kernel
theorem owner_ap : (kfb_private% "nameAndClass") (.builtin "list.append") = (pure (Str.ofString "append", .type "list") : Sem (Str × Value)) := by kernel_rfl
theorem sub_list : isSubtype (.type "list") (.type "list") = pure true := by rw [isSubtype_type]; kernel_rfl
theorem no_set : typeLookup (.type "method_descriptor") "__set__" = pure none := by rw [typeLookup_type, builtinLookup_eq_fast]; kernel_rfl
theorem no_del : typeLookup (.type "method_descriptor") "__delete__" = pure none := by rw [typeLookup_type, builtinLookup_eq_fast]; kernel_rfl

section
variable {prog : Program} {w : World} {A : Around} {E : Value → Shared → Prop} {h : Heap} {g : Array GenState} {d : Drawn} {t : Nat} {os : OsState} {a : Addr} {o : Obj}

theorem run_get {Q : Fin → Shared → Prop} (hx : h.get? a = some o) (hc : o.cls = .type "list") (hq : Q (.done (.ret (.ref h.objs.size))) ⟨h.push (bmObj a), g, d, t, os⟩) :
    wpAny (model prog w) A (Builtin.«method_descriptor.__get__» ⟨[.builtin "list.append", .ref a, .type "list"], []⟩) Q E ⟨h, g, d, t, os⟩ := by
  have hT : (⟨h, g, d, t, os⟩ : Shared).TypeIs (.ref a) "list" := ⟨_, hx, hc⟩
  unfold Builtin.«method_descriptor.__get__»
  refine wpAny_bind (wpAny_of_eq (a := (.builtin "list.append", some (.ref a), some (.type "list"))) (by first | rfl | kernel_rfl) ?_)
  simp only [told, Bool.false_eq_true, if_false]
  have inst : wpAny (model prog w) A ((kfb_private% "checkInstance") (.builtin "list.append") (.ref a)) (fun _ s' => s' = ⟨h, g, d, t, os⟩) E ⟨h, g, d, t, os⟩ := by
    show wpAny _ _ ((kfb_private% "nameAndClass") (.builtin "list.append") >>= _) _ _ _
    rw [owner_ap]
    refine wpAny_bind (wpAny_pure ?_)
    refine wpAny_bind (wpAny_isInstance (T := "list") (b := true) hT sub_list ?_)
    exact wpAny_pure rfl
  show wpAny _ _ ((kfb_private% "checkInstance") (.builtin "list.append") (.ref a) >>= fun _ => newFields "builtin_function_or_method" [.builtin "list.append", .ref a] >>= fun v => ret v) _ _ _
  refine wpAny_bind (wpAny_mono inst (fun _ s' e => ?_) fun _ _ e => e)
  subst e
  exact wpAny_bind (wpAny_newObj_type (wpAny_pure hq))

theorem entry_ga {tk : Tok} {Q : Fin → Shared → Prop} (hx : h.get? a = some o) (hc : o.cls = .type "list") (hd : o.dict = none) (hdat : ∃ xs k, o.data = .seq xs k) (hq : Q (.done (.ret (.ref h.objs.size))) ⟨h.push (bmObj a), g, d, t, os⟩) :
    wpAny (model prog w) A (Builtin.«object.__getattribute__» ⟨[.ref a, .str "append" tk], []⟩) Q E ⟨h, g, d, t, os⟩ := by
  obtain ⟨c, dd, dat, sl⟩ := o
  obtain ⟨xs, k, hdat⟩ := hdat
  simp only at hc hd hdat
  subst hc hd hdat
  have hT : (⟨h, g, d, t, os⟩ : Shared).TypeIs (.ref a) "list" := ⟨_, hx, rfl⟩
  have f4 := slot_list_append.lookup
  have f5 : typeOf (.builtin "list.append") = pure (.type "method_descriptor") := PySem.F.type_list_append
  have f6 := slot_get.lookup
  have f7 := no_set
  have f8 := no_del
  repeat (any_goals (first | assumption | wp_step))
  refine codeAny_call_builtin slot_get.plain entry_get (slot_get.check _ _ _ _ _ _ _ _ (show (⟨h, g, d, t, os⟩ : Shared).TypeIs (.builtin "list.append") "method_descriptor" from f5) (args_get _ _ _) (run_get hx rfl ?_))
  exact wpAny_pure hq

theorem call_ga {tk : Tok} {R : Result → Shared → Prop} (hx : h.get? a = some o) (hc : o.cls = .type "list") (hd : o.dict = none) (hdat : ∃ xs k, o.data = .seq xs k) (hq : R (.ok (.ret (.ref h.objs.size))) ⟨h.push (bmObj a), g, d, t, os⟩) :
    codeAny (model prog w) A (.call (.builtin "list.__getattribute__") ⟨[.ref a, .str "append" tk], []⟩) R ⟨h, g, d, t, os⟩ :=
  codeAny_call_builtin PySem.F.slot_list_getattribute.plain PySem.F.entry_list_ga (PySem.F.slot_list_getattribute.check _ _ _ _ _ _ _ _ (show (⟨h, g, d, t, os⟩ : Shared).TypeIs (.ref a) "list" from ⟨_, hx, hc⟩) (PySem.F.args_list_getattribute_2 _ _) (entry_ga hx hc hd hdat hq))

theorem get_append {Q : Value → Shared → Prop} (hx : h.get? a = some o) (hc : o.cls = .type "list") (hd : o.dict = none) (hdat : ∃ xs k, o.data = .seq xs k)
    (hq : Q (.ref h.objs.size) ⟨h.push (bmObj a), g, d, t + 1, os⟩) : wpAny (model prog w) A (getAttr (.ref a) "append" true) Q E ⟨h, g, d, t, os⟩ := by
  unfold getAttr
  refine wpAny_bind (wpAny_mkText ?_)
  unfold getAttrBy
  refine wpAny_holding (wpAny_bind (wpAny_typeOf (T := "list") ⟨_, hx, hc⟩ (wpAny_bind ?_)))
  rw [PySem.F.slot_list_getattribute.lookup]
  refine wpAny_pure ?_
  show wpAny _ _ (getAttrByItsOwn _ _ _ _ _ _) _ _ _
  unfold getAttrByItsOwn
  refine wpAny_bind (wpAny_pure (wpAny_bind (wpAny_attempt (wpAny_holding ?_))))
  show wpAny _ _ (boundAndCalled _ _ _) _ _ _
  unfold boundAndCalled
  rw [PySem.F.slot_list_getattribute.bind]
  refine wpAny_bind (wpAny_pure ?_)
  exact wpAny_call (call_ga hx hc hd hdat (wpAny_pure hq))

theorem kind_ap : builtinKind "list.append" = some .method := by decide +kernel
theorem notVar : Manifest.varargsMethods.contains "list.append" = false := by decide +kernel
theorem noMod : isSubtype (.type "list") (.type "module") = pure false := by rw [isSubtype_type]; kernel_rfl
theorem noType : isSubtype (.type "list") (.type "type") = pure false := by rw [isSubtype_type]; kernel_rfl
theorem sig_ap (a x : Value) : ∃ sig, Manifest.signature? "list.append" = some sig ∧ Bind.checkArgs "list.append" { sig with full := s!"{Bind.lastOf "list"}.{Bind.lastOf "list.append"}" } ⟨[a, x], []⟩ = pure () := by
  refine ⟨(Manifest.signature? "list.append").get (by decide +kernel), by simp, ?_⟩
  kernel_rfl

theorem check_bm {x : Value} {Q : Unit → Shared → Prop} {s : Shared} {vs : Array Value} {n : Nat} (ho : s.heap.get? a = some { cls := .type "list", data := .seq vs n }) (hq : Q () s) : wpAny (model prog w) A (checkBoundCall "list.append" ⟨[.ref a, x], []⟩) Q E s := by
  have hT : s.TypeIs (.ref a) "list" := ⟨_, ho, rfl⟩
  obtain ⟨sig, e1, e2⟩ := sig_ap (.ref a) x
  unfold checkBoundCall
  simp only [e1, kind_ap]
  show wpAny _ _ (isInstance (.ref a) (.type "module") >>= _) _ _ _
  refine wpAny_bind (wpAny_isInstance hT noMod ?_)
  simp only [notVar, Bool.or_self, Bool.false_eq_true, if_false]
  unfold isType
  refine wpAny_bind (wpAny_bind (wpAny_loadPart ho (wpAny_pure ?_)))
  simp only [Bool.false_eq_true, if_false]
  refine wpAny_bind (wpAny_typeOf hT ?_)
  show wpAny _ _ (Bind.checkArgs _ _ _) _ _ _
  rw [e2]
  exact wpAny_pure hq

theorem call_bm {x : Value} {R : Result → Shared → Prop} {b : Addr} {items : Array Value} (hb : h.get? b = some (bmObj a)) (hl : h.PlainList a items) (hsz : items.size ≤ sizeLine)
    (hq : ∀ h', h'.PlainList a (items.push x) → Heap.SameBut a h h' → R (.ok (.ret .none)) ⟨h', g, d, t, os⟩) :
    codeAny (model prog w) A (.call (.ref b) ⟨[x], []⟩) R ⟨h, g, d, t, os⟩ := by
  refine codeAny_of_tree ?_
  show wpAny _ _ (callAny (.ref b) _) _ _ _
  unfold callAny
  refine wpAny_bind (wpAny_load hb ?_)
  show wpAny _ _ (checkBoundCall "list.append" ⟨[.ref a, x], []⟩ >>= fun _ => again (.builtin "list.append" ⟨[.ref a, x], []⟩)) _ _ _
  have hT : (⟨h, g, d, t, os⟩ : Shared).TypeIs (.ref a) "list" := let ⟨n, e⟩ := hl; ⟨_, e, rfl⟩
  refine wpAny_bind (check_bm (show (⟨h, g, d, t, os⟩ : Shared).heap.get? a = _ from hl.choose_spec) (wpAny_pure ⟨Code.quiet_builtin _ (by decide +kernel), codeAny_builtin entry_list_append ?_⟩))
  obtain ⟨n, ho⟩ := hl
  show wpAny _ _ (updateSeq a (·.push x) >>= fun _ => ret .none) _ _ _
  refine wpAny_bind (wpAny_updateSeq ho rfl (wpAny_pure (hq _ ⟨n + 1, ?_⟩ (Heap.SameBut.update ..))) hsz)
  rw [Heap.get?_update_self _ ho (by rw [Obj.mapSeq_push_plain]; rfl), Obj.mapSeq_push_plain]
end
end BM

section
variable {C : Cx} {σ : Sg}

/-- «add = res.append» -/
theorem e_append {o : Expr} {pos : Pos} {Q : Av → Sg → Prop} {l : List Av} (h : TV C (eval o C.env) σ (fun a σ₁ => ∃ x, a = .ref x ∧ ∃ l, (x, .list l) ∈ σ₁.hp ∧ ∀ b, Q (.ref b) { σ₁ with hp := (b, .any (bmObj x)) :: σ₁.hp }))
    (hb : attributeBase o "append" C.env (eval o C.env) = eval o C.env := by rfl) (ht : ∀ o' r, letTemporaryGo o o' r = pure () := by intro _ _; rfl) : TV C (eval (.Attribute o "append" pos) C.env) σ Q := by
  rw [arm_eval_Attribute, hb]
  refine TV.bind (TV.mono h fun a σ₁ _ ⟨x, ea, l, hm, q⟩ v hv => ?_)
  subst ea
  have hv' : v = .ref x := hv
  subst hv'
  refine T.bind (T.standAt (TV.bind (TV.holding (Q := fun r σ₂ => Q r σ₂) ⟨fun s hs => ?_⟩ |>.mono fun r σ₂ _ q v hv => by rw [ht]; exact TV.pure hv q)))
  obtain ⟨⟨o', e1, vs, n, e2, e3⟩, _⟩ := hs.hp x _ hm
  subst e2
  obtain ⟨hp, g, d, tk, os⟩ := s
  refine BM.get_append e1 rfl rfl ⟨_, _, rfl⟩ ?_
  exact ⟨{ σ₁ with hp := (hp.objs.size, .any (bmObj x)) :: σ₁.hp }, stays_refl _, hs.new (tk := tk + 1) (k := .any (bmObj x)) (fresh_none _ (Nat.le_refl _)) (fun b o e => Heap.get?_push_of_some _ e) (Heap.get?_push_size _ rfl) ⟨rfl, rfl⟩, _, isR, q _⟩

/-- «add(x)» -/
theorem c_bm {b x : Addr} {l : List Av} {y : Av} {hp' : List (Addr × Mk)} {Q : Av → Sg → Prop} (hm : (b, Mk.any (bmObj x)) ∈ σ.hp) (u : Upd x (.list l) (.list (l ++ [y])) σ.hp hp') (hsz : l.length ≤ sizeLine)
    (q : Q .none { σ with hp := hp' }) : CC C (.ref b) [y] σ Q := by
  rintro _ (_ | ⟨hy, ⟨⟩⟩)
  rename_i v
  refine ⟨fun s hs => ?_⟩
  obtain ⟨⟨ob, e1, e1', _⟩, _⟩ := hs.hp b _ hm
  subst e1'
  obtain ⟨⟨o', e2, vs, n, e3, e4⟩, _⟩ := hs.hp x _ u.has
  subst e3
  obtain ⟨hp, g, d, tk, os⟩ := s
  refine wpAny_call (BM.call_bm e1 ⟨n, e2⟩ (by simp [Paired.len e4]; exact hsz) fun h' hl hsb => ?_)
  obtain ⟨n', hl⟩ := hl
  exact ⟨{ σ with hp := hp' }, stays_refl _, hs.upd u hsb ⟨_, hl, vs ++ [v], n', by simp, Paired.app e4 (.cons hy .nil)⟩, _, isN, q⟩
end


/-! ## Data, read -/
inductive Dt where
  | none
  | bool (b : Bool)
  | int (i : Int)
  | str (x : Str)
  | ref (x : Addr)
  | list (l : List Dt)
  | tup (l : List Dt)

mutual
noncomputable def Rd (F : Addr → Prop) (h : Heap) : Dt → Av → Prop
  | .none, a => a = .none
  | .bool b, a => a = .bool b
  | .int i, a => a = .int i
  | .str x, a => a = .str x
  | .ref x, a => a = .ref x
  | .list l, a => ∃ x as, a = .ref x ∧ F x ∧ Is h x (.list as) ∧ Rds F h l as
  | .tup l, a => ∃ x as, a = .ref x ∧ F x ∧ Is h x (.tup as) ∧ Rds F h l as
noncomputable def Rds (F : Addr → Prop) (h : Heap) : List Dt → List Av → Prop
  | [], as => as = []
  | d :: l, as => ∃ a r, as = a :: r ∧ Rd F h d a ∧ Rds F h l r
end

mutual
theorem Rd.mono {F F' : Addr → Prop} {h h' : Heap} (hk : ∀ x o, F x → h.get? x = some o → F' x ∧ h'.get? x = some o) : ∀ (d : Dt) (a : Av), Rd F h d a → Rd F' h' d a
  | .none, a, e => by rw [Rd] at *; exact e
  | .bool b, a, e => by rw [Rd] at *; exact e
  | .int i, a, e => by rw [Rd] at *; exact e
  | .str x, a, e => by rw [Rd] at *; exact e
  | .ref x, a, e => by rw [Rd] at *; exact e
  | .list l, a, e => by
    rw [Rd] at *
    obtain ⟨x, as, e1, e2, ⟨o, e3, e4⟩, e5⟩ := e
    exact ⟨x, as, e1, (hk x o e2 e3).1, ⟨o, (hk x o e2 e3).2, e4⟩, Rds.mono hk l as e5⟩
  | .tup l, a, e => by
    rw [Rd] at *
    obtain ⟨x, as, e1, e2, ⟨o, e3, e4⟩, e5⟩ := e
    exact ⟨x, as, e1, (hk x o e2 e3).1, ⟨o, (hk x o e2 e3).2, e4⟩, Rds.mono hk l as e5⟩
theorem Rds.mono {F F' : Addr → Prop} {h h' : Heap} (hk : ∀ x o, F x → h.get? x = some o → F' x ∧ h'.get? x = some o) : ∀ (l : List Dt) (as : List Av), Rds F h l as → Rds F' h' l as
  | [], as, e => by rw [Rds] at *; exact e
  | d :: l, as, e => by
    rw [Rds] at *
    obtain ⟨a, r, e1, e2, e3⟩ := e
    exact ⟨a, r, e1, Rd.mono hk d a e2, Rds.mono hk l r e3⟩
end
noncomputable abbrev Any : Addr → Prop := fun _ => True
noncomputable abbrev New (h : Heap) : Addr → Prop := fun x => h.get? x = none
theorem Rd.keeps {F : Addr → Prop} {h h' : Heap} {d : Dt} {a : Av} (x : Rd F h d a) (k : h.StaysIn h') : Rd F h' d a := Rd.mono (fun x o f e => ⟨f, k _ _ e⟩) d a x
theorem Rds.keeps {F : Addr → Prop} {h h' : Heap} {d : List Dt} {a : List Av} (x : Rds F h d a) (k : h.StaysIn h') : Rds F h' d a := Rds.mono (fun x o f e => ⟨f, k _ _ e⟩) d a x
theorem Rd.any {F : Addr → Prop} {h : Heap} {d : Dt} {a : Av} (x : Rd F h d a) : Rd Any h d a := Rd.mono (fun x o f e => ⟨trivial, e⟩) d a x
theorem Rd.newer {b h : Heap} {g : Heap} {d : Dt} {a : Av} (x : Rd (New b) h d a) (k : g.StaysIn b) : Rd (New g) h d a :=
  Rd.mono (fun x o f e => ⟨(by
    cases q : g.get? x with
    | none => exact q
    | some o' => have := k _ _ q; rw [show b.get? x = none from f] at this; cases this), e⟩) d a x

theorem rds_ints {F : Addr → Prop} {h : Heap} : ∀ {l : List Int} {as : List Av}, Rds F h (l.map .int) as ↔ as = l.map .int
  | [], as => by rw [List.map_nil, Rds, List.map_nil]
  | i :: l, as => by
    rw [List.map_cons, Rds, List.map_cons]
    constructor
    · rintro ⟨a, r, rfl, e, e'⟩
      rw [Rd] at e
      rw [e, rds_ints.mp e']
    · rintro rfl
      exact ⟨_, _, rfl, by rw [Rd], rds_ints.mpr rfl⟩
theorem rds_strs {F : Addr → Prop} {h : Heap} : ∀ {l : List Str} {as : List Av}, Rds F h (l.map .str) as ↔ as = l.map .str
  | [], as => by rw [List.map_nil, Rds, List.map_nil]
  | i :: l, as => by
    rw [List.map_cons, Rds, List.map_cons]
    constructor
    · rintro ⟨a, r, rfl, e, e'⟩
      rw [Rd] at e
      rw [e, rds_strs.mp e']
    · rintro rfl
      exact ⟨_, _, rfl, by rw [Rd], rds_strs.mpr rfl⟩
theorem Rds.len {F : Addr → Prop} {h : Heap} : ∀ {l : List Dt} {as : List Av}, Rds F h l as → as.length = l.length
  | [], as, e => by rw [Rds] at e; rw [e]; rfl
  | d :: l, as, e => by
    rw [Rds] at e
    obtain ⟨a, r, rfl, _, e'⟩ := e
    rw [List.length_cons, List.length_cons, Rds.len e']
theorem Rds.get {F : Addr → Prop} {h : Heap} : ∀ {l : List Dt} {as : List Av} {i : Nat} {d : Dt}, Rds F h l as → l[i]? = some d → ∃ a, as[i]? = some a ∧ Rd F h d a
  | [], as, i, d, e, q => by simp at q
  | d :: l, as, 0, d', e, q => by
    rw [Rds] at e
    obtain ⟨a, r, rfl, e1, _⟩ := e
    simp at q; subst q
    exact ⟨a, by simp, e1⟩
  | d :: l, as, i + 1, d', e, q => by
    rw [Rds] at e
    obtain ⟨a, r, rfl, _, e'⟩ := e
    obtain ⟨b, e1, e2⟩ := Rds.get (i := i) e' (by simpa using q)
    exact ⟨b, by simpa using e1, e2⟩
theorem Rds.app {F : Addr → Prop} {h : Heap} : ∀ {l l' : List Dt} {as as' : List Av}, Rds F h l as → Rds F h l' as' → Rds F h (l ++ l') (as ++ as')
  | [], l', as, as', e, e' => by rw [Rds] at e; subst e; exact e'
  | d :: l, l', as, as', e, e' => by
    rw [Rds] at e
    obtain ⟨a, r, rfl, e1, e2⟩ := e
    rw [List.cons_append, Rds]
    exact ⟨a, r ++ as', rfl, e1, Rds.app e2 e'⟩

/-! ## Room -/
noncomputable def Ok (n : Nat) (A : Around) : Prop := A.handled = none ∧ A.depth + n ≤ 900 ∧ A.units + 10 * n ≤ 9000
theorem Ok.le {n m : Nat} {A : Around} (h : Ok n A) (hm : m ≤ n) : Ok m A := ⟨h.1, by have := h.2.1; omega, by have := h.2.2; omega⟩
theorem Ok.deeper {n : Nat} {A : Around} {env : Env} (h : Ok (n + 1) A) : Ok n (A.deeper env) := by
  refine ⟨h.1, ?_, ?_⟩
  · have := h.2.1; show A.depth + 1 + n ≤ 900; omega
  · have := h.2.2; show A.units + 3 + 10 * n ≤ 9000; omega
theorem Ok.room {n : Nat} {A : Around} (h : Ok n A) : A.depth < recursionLimit := by have := h.2.1; show A.depth < 1000; omega
theorem Ok.units {n : Nat} {A : Around} (h : Ok n A) : A.units < cLine := by have := h.2.2; show A.units < 9900; omega

/-! ## Own functions -/
structure IsC (C : Cx) (prog : Program) (w : World) (K : Frag) (env : Env) : Prop where
  prog : C.prog = prog
  w : C.w = w
  K : C.K = K
  env : C.env = env
theorem IsC.kind {C : Cx} {prog w K env} (h : IsC C prog w K env) {x : Str} {k : Option NameKind} (e : env.kindOf x = k) : C.env.kindOf x = k := by rw [h.env]; exact e
theorem IsC.isFn {C : Cx} {prog w K q sc L f cd} (h : IsC C prog w K (envOf q sc L f cd)) (e : sc.kind = .function) : Fn C := ⟨by rw [h.env]; exact e, by rw [h.env]; rfl, by rw [h.env]; rfl⟩
theorem IsC.glob {C : Cx} {prog w K env} (h : IsC C prog w K env) {x : Str} {r : Option (Option Value)} (e : nsIn K mainGlobals x = r) : nsIn C.K mainGlobals x = r := by rw [h.K]; exact e
theorem IsC.keep {C : Cx} {prog w K env} (h : IsC C prog w K env) {v : Value} (e : keepIn K v = true) : keepIn C.K v = true := by rw [h.K]; exact e
noncomputable abbrev Pre := Heap → List Av → Dt → Prop
structure Mono (P : Pre) : Prop where
  up : ∀ h h' as d, h.StaysIn h' → P h as d → P h' as d

/-- a call of f gives back what P says, and changes nothing -/
noncomputable def Fun (prog : Program) (w : World) (K : Frag) (f : Addr) (n : Nat) (P : Pre) : Prop :=
  ∀ (A : Around) (s : Shared) (as : List Av) (vs : List Value) (d : Dt), Ok n A → Wd K s.heap → Avs as vs → P s.heap as d →
    wpAny (model prog w) A (call (.ref f) vs []) (fun v s' => ∃ a, Av.is a v ∧ s.heap.StaysIn s'.heap ∧ Rd (New s.heap) s'.heap d a ∧ s'.gens = s.gens ∧ s'.os = s.os) (fun _ _ => False) s

theorem IsC.fn {C : Cx} {prog w K env f n P} (h : IsC C prog w K env) (F : Fun prog w K f n P) : Fun C.prog C.w C.K f n P := by rw [h.prog, h.w, h.K]; exact F
theorem mono_const {P : List Av → Dt → Prop} : Mono (fun _ as d => P as d) := ⟨fun _ _ _ _ _ h => h⟩

noncomputable def Dt.imm : Dt → Option Av
  | .none => some .none
  | .bool b => some (.bool b)
  | .int i => some (.int i)
  | .str x => some (.str x)
  | _ => Option.none

section
variable {α : Type} {C : Cx} {σ : Sg}

theorem At.after {s s' : Shared} (x : At C σ s) (k : s.heap.StaysIn s'.heap) (g : s'.gens = s.gens) (o : s'.os = s.os) : At C σ s' where
  fr := let ⟨m, F, l⟩ := x.fr; ⟨m, F.keeps k, l⟩
  keep := stays_trans x.keep k
  off := x.off
  nd := x.nd
  hp := fun a k' e => let ⟨⟨o, e1, e2⟩, r⟩ := x.hp a k' e; ⟨⟨o, k _ _ e1, e2⟩, r⟩
  hnd := x.hnd
  wd := x.wd
  gens := by rw [g]; exact x.gens
  os := o.trans x.os

/-- a call that gives back a plain value -/
theorem c_funI {f : Addr} {n : Nat} {P : Pre} {as : List Av} {d : Dt} {a : Av} {Q : Av → Sg → Prop} (F : Fun C.prog C.w C.K f n P) (hA : Ok n C.A) (hP : Mono P) (hp : P σ.hb as d) (hd : d.imm = some a) (q : Q a σ) : CC C (.ref f) as σ Q := by
  intro vs hvs
  refine ⟨fun s hs => wpAny_mono (F C.A s as vs d hA (hs.wd.keeps hs.keep) hvs (hP.up _ _ _ _ hs.keep hp)) (fun v s' H_ => ?_) fun _ _ x => x⟩
  obtain ⟨b, hb, k, r, g, o⟩ := H_
  have : b = a := by
    cases d <;> simp only [Dt.imm, Option.some.injEq, reduceCtorEq] at hd <;> rw [Rd] at r <;> rw [r, ← hd]
  subst this
  exact ⟨σ, stays_refl _, hs.after k g o, b, hb, q⟩

theorem c_fun {f : Addr} {n : Nat} {P : Pre} {as : List Av} {d : Dt} {Q : Av → Sg → Prop} (F : Fun C.prog C.w C.K f n P) (hA : Ok n C.A) (hP : Mono P) (hp : P σ.hb as d)
    (q : ∀ a hb', σ.hb.StaysIn hb' → Rd (New σ.hb) hb' d a → Q a ⟨hb', σ.loc, σ.hp⟩) : CC C (.ref f) as σ Q := by
  intro vs hvs
  refine ⟨fun s hs => wpAny_mono (F C.A s as vs d hA (hs.wd.keeps hs.keep) hvs (hP.up _ _ _ _ hs.keep hp)) (fun v s' H_ => ?_) fun _ _ x => x⟩
  obtain ⟨b, hb, k, r, g, o⟩ := H_
  have hs' := hs.after k g o
  obtain ⟨hb', k1, k2, k3⟩ := hs'.rebase
  refine ⟨_, k1, k2, b, hb, q b hb' k1 ?_⟩
  refine Rd.mono (fun x o f e => ⟨?_, k3 x o e (fun q => ?_) (fun q => ?_)⟩) d b r
  · cases q : σ.hb.get? x with
    | none => exact q
    | some o' => have := hs.keep _ _ q; rw [f] at this; cases this
  · obtain ⟨m, ⟨oL, _, _, hL, _⟩, _⟩ := hs.fr
    rw [← q, f] at hL; cases hL
  · obtain ⟨⟨c, j⟩, hm, e0⟩ := List.mem_map.mp q
    obtain ⟨⟨o', e', _⟩, _⟩ := hs.hp c j hm
    have e0' : c = x := e0
    rw [e0', f] at e'; cases e'
end

theorem lookup_mem {β : Type} : ∀ {cs : List (Str × β)} {n : Str} {c : β}, (cs.map (·.1)).Nodup → (n, c) ∈ cs → cs.lookup n = some c
  | (n', c') :: cs, n, c, hnd, hm => by
    rw [List.map_cons, List.nodup_cons] at hnd
    rcases List.mem_cons.mp hm with e | hm
    · cases e; simp [List.lookup_cons]
    · have hne : n ≠ n' := fun e => hnd.1 (List.mem_map.mpr ⟨(n, c), hm, e⟩)
      have hb : (n == n') = false := by simpa using hne
      rw [List.lookup_cons, hb]
      exact lookup_mem hnd.2 hm

/-- a plain function's contract out of a walk of its body -/
theorem Fun.mk {prog : Program} {w : World} {K : Frag} {f : Addr} {n : Nat} {P : Pre} {oc : Value} {od : Option Addr} {osl : Array (Option Value)} {name qual : Str} {params : Arguments} {body : List Stmt} {scope : Scope} {dV kV doc pm cdv ct : Value} {an : Option Addr}
    (hk : K.lookup f = some ⟨oc, od, .func (fnOf name qual params body scope dV kV doc pm an cdv ct), osl⟩) (hcd : codeIn K cdv qual = true) (ps rest : List Str) (hnd : (ps ++ rest).Nodup)
    (hbind : ∀ vs : List Value, vs.length = ps.length → bindArgs (fnOf name qual params body scope dV kV doc pm an cdv ct) ⟨vs, []⟩ = pure (ps.zip vs))
    (hloc : ∀ x ∈ ps, scope.names.lookup x = some .local) (hcell : ∀ x ∈ scope.names, x.2 ≠ .cell)
    (hlen : ∀ h as d, P h as d → as.length = ps.length)
    (walk : ∀ (C : Cx) (L : Addr) (hb : Heap) (as : List Av) (d : Dt), IsC C prog w K (envOf qual scope L f cdv) → Ok n C.A → Wd K hb → P hb as d →
      TX C (execs body C.env) ⟨hb, ps.zipWith (fun p a => (p, some a)) as ++ rest.map (fun p => (p, none)), []⟩ { next := fun _ => False, ret := fun a σ' => Rd (New hb) σ'.hb d a })
    (hco : scope.isCoroutine = false := by rfl) (hgen : scope.isGenerator = false := by rfl) (hki : scope.kind = .function := by rfl) : Fun prog w K f (n + 1) P := by
  intro A s as vs d hA hW hvs hp
  have hl := hlen _ _ _ hp
  have hvl : vs.length = ps.length := (Paired.len hvs).trans hl
  have hzip : ∀ x ∈ ps.zip vs, scope.names.lookup x.1 = some .local := fun x hx => hloc x.1 (List.of_mem_zip hx).1
  obtain ⟨X, p, lo, mg, mb, T⟩ := id hW
  refine wpAny_call (codeAny_call_def (fd := fnOf name qual params body scope dV kV doc pm an cdv ct) (body := body) (binds := ps.zip vs) hA.room (X _ _ hk) rfl T.nolimit (codeRec_of X hcd) rfl (BindsTo.of_eq (hbind vs hvl)) hcell hzip (fun h₁ hns hk₁ => ?_) hco hgen hki)
  have hC := walk ⟨prog, w, A.deeper (envOf qual scope s.heap.objs.size f cdv), envOf qual scope s.heap.objs.size f cdv, K, (· = s.gens), s.os⟩ s.heap.objs.size s.heap as d ⟨rfl, rfl, rfl, rfl⟩ hA.deeper hW hp
  have look : ∀ (ps : List Str) (as : List Av) (vs : List Value), Avs as vs → ps.Nodup → as.length = ps.length → ∀ x a, (x, some a) ∈ ps.zipWith (fun p a => (p, some a)) as → ∃ v, Av.is a v ∧ (ps.zip vs).reverse.lookup x = some v := by
    intro ps as vs hvs hnd hl x a hm
    have mem : ∀ (ps : List Str) (as : List Av) (vs : List Value), Avs as vs → as.length = ps.length → (x, some a) ∈ ps.zipWith (fun p a => (p, some a)) as → ∃ v, Av.is a v ∧ (x, v) ∈ ps.zip vs := by
      intro ps
      induction ps with
      | nil => intro as vs _ _ hm; simp at hm
      | cons p r ih =>
        intro as vs hvs hl hm
        cases hvs with
        | nil => simp at hm
        | @cons a' v' as' vs' h t =>
          simp only [List.zipWith_cons_cons, List.mem_cons, Prod.mk.injEq, Option.some.injEq] at hm
          rcases hm with ⟨rfl, rfl⟩ | hm
          · exact ⟨v', h, by simp⟩
          · obtain ⟨v, h1, h2⟩ := ih as' vs' t (by simpa using hl) hm
            exact ⟨v, h1, by simp [h2]⟩
    obtain ⟨v, h1, h2⟩ := mem ps as vs hvs hl hm
    refine ⟨v, h1, ?_⟩
    refine lookup_mem ?_ (List.mem_reverse.mpr h2)
    rw [List.map_reverse]
    have : (ps.zip vs).map (·.1) = ps := by
      rw [List.map_fst_zip]
      rw [Paired.len hvs, hl]
      exact Nat.le_refl _
    rw [this]
    unfold List.Nodup at hnd ⊢
    rw [List.pairwise_reverse]
    exact List.Pairwise.imp (fun {a b} (h : a ≠ b) (e : b = a) => h e.symm) hnd
  have hat : At ⟨prog, w, A.deeper (envOf qual scope s.heap.objs.size f cdv), envOf qual scope s.heap.objs.size f cdv, K, (· = s.gens), s.os⟩ ⟨s.heap, ps.zipWith (fun p a => (p, some a)) as ++ rest.map (fun p => (p, none)), []⟩ { s with heap := h₁, toks := s.toks + (ps.zip vs).length } := by
    refine ⟨⟨_, hns, fun x a hm => ?_⟩, hk₁, fresh_none _ (Nat.le_refl _), ?_, fun _ _ hm => (by cases hm), List.nodup_nil, hW, rfl, rfl⟩
    · rcases List.mem_append.mp hm with hm | hm
      · exact look ps as vs hvs (List.nodup_append.mp hnd).1 hl x a hm
      · obtain ⟨p, _, e⟩ := List.mem_map.mp hm
        cases e
    · have : (List.map (fun (x : Str × Option Av) => x.1) (ps.zipWith (fun p a => (p, some a)) as ++ rest.map (fun p => (p, none)))) = ps ++ rest := by
        rw [List.map_append, List.map_map]
        congr 1
        · rw [List.map_zipWith]
          have : ∀ (ps : List Str) (as : List Av), as.length = ps.length → List.zipWith (fun a _ => a) ps as = ps := by
            intro ps
            induction ps with
            | nil => intro as _; rfl
            | cons p r ih => 
              intro as h
              cases as with
              | nil => simp at h
              | cons b t => rw [List.zipWith_cons_cons, ih t (by simpa using h)]
          exact this ps as hl
        · exact List.map_id' _
      rw [this]; exact hnd
  refine wpAny_mono (hC.run _ hat) (fun fl s' H_ => ?_) fun _ _ x => x.elim
  obtain ⟨σ', k1, k2, k3⟩ := H_
  cases fl with
  | ret v =>
    obtain ⟨a, ha, hr⟩ := k3
    exact ⟨a, ha, fun b o e => k2.keep _ _ (k1 _ _ e), hr.keeps k2.keep, k2.gens, k2.os⟩
  | next => exact k3.elim
  | brk => exact k3.elim
  | cont => exact k3.elim


section
variable {α : Type} {C : Cx} {σ : Sg}

theorem tl_nil {Q : List Av → Sg → Prop} (q : Q [] σ) : TL C [] σ Q := q
theorem tl_cons {e : Expr} {r : List Expr} {Q : List Av → Sg → Prop} (h : TV C (eval e C.env) σ (fun a σ₁ => TL C r σ₁ (fun as σ₂ => Q (a :: as) σ₂))) : TL C (e :: r) σ Q := h
theorem tp_none {Q : Option Int → Sg → Prop} (q : Q none σ) : TP C none σ Q := q
theorem tp_some {e : Expr} {Q : Option Int → Sg → Prop} (h : TV C (eval e C.env) σ (fun a σ₁ => ∃ i, a = .int i ∧ Q (some i) σ₁)) : TP C (some e) σ Q := h
theorem tj_nil {out : Str} {Q : Av → Sg → Prop} (h : out.length ≤ sizeLine) (q : Q (.str out) σ) : TJ C out [] σ Q := ⟨h, q⟩
theorem tj_cons {out : Str} {e : Expr} {r : List Expr} {Q : Av → Sg → Prop} (h : TV C (eval e C.env) σ (fun a σ₁ => ∃ x, a = .str x ∧ out.length + x.length ≤ sizeLine ∧ TJ C (out ++ x) r σ₁ Q)) : TJ C out (e :: r) σ Q := h

/-- a statement whose ways meet -/
theorem x_seq {st : Stmt} {rest : List Stmt} {k : Kt} (M : Sg → Prop) (h : TX C (exec st C.env) σ { k with next := M }) (h2 : ∀ σ', σ.hb.StaysIn σ'.hb → M σ' → TX C (execs rest C.env) σ' k) : TX C (execs (st :: rest) C.env) σ k := by
  refine x_cons (T.mono h fun f σ₁ s q => ?_)
  cases f with
  | next => exact h2 σ₁ s q
  | brk => exact q
  | cont => exact q
  | ret v => exact q

/-! ## Stores -/
inductive Sto (x : Str) (P : Sg → Prop) (σ₁ : Sg) (a : Av) : Prop
  | mk (l' : List (Str × Option Av)) (h : Put x a σ₁.loc l') (q : P ⟨σ₁.hb, l', σ₁.hp⟩) : Sto x P σ₁ a
theorem x_set {x pos' value pos} {k : Kt} (F : C.env.scope.kind = .function) (hk : C.env.kindOf x = some .local)
    (h : TV C (eval value C.env) σ (fun a σ₁ => Sto x k.next σ₁ a))
    (hs : swapsWith value (some (.Name x pos')) pos.line C.env = Pure.pure false := by rfl) : TX C (exec (.Assign [.Name x pos'] value pos) C.env) σ k :=
  x_assign (TV.mono h fun a σ₁ _ ⟨l', p, q⟩ v hv => by obtain ⟨hb, loc, hp⟩ := σ₁; exact store_loc F hk p hv q) hs

theorem x_augl {x npos op value pos} {k : Kt} {a : Av} (F : C.env.scope.kind = .function) (hk : C.env.kindOf x = some .local) (hm : (x, some a) ∈ σ.loc)
    (h : TV C (eval value C.env) σ (fun b σ₂ => O2 C (inplaceOp op) a b σ₂ (fun c σ₃ => Sto x k.next σ₃ c))) : TX C (exec (.AugAssign (.Name x npos) op value pos) C.env) σ k := by
  obtain ⟨hb, loc, hp⟩ := σ
  refine x_aug (loc_load F hk hm (TV.mono h fun b σ₂ _ x va vb ha hvb => TV.mono (x va vb ha hvb) fun c σ₃ _ ⟨l', p, q⟩ v hv => ?_))
  obtain ⟨hb', loc', hp'⟩ := σ₃
  exact store_loc F hk p hv q

/-- the first of the ledger is let go -/
theorem T.weak {t : Sem α} {Q : α → Sg → Prop} (h : T C t σ (fun a σ' => Q a ⟨σ'.hb, σ'.loc, σ'.hp.tail⟩)) : T C t σ Q := by
  refine ⟨fun s hs => wpAny_mono (h.run s hs) (fun a s' H_ => ?_) fun _ _ x => x⟩
  obtain ⟨σ', k, x, q⟩ := H_
  obtain ⟨hb, loc, hp⟩ := σ'
  cases hp with
  | nil => exact ⟨_, k, x, q⟩
  | cons p r => exact ⟨⟨hb, loc, r⟩, k, x.drop (a := p.1) (k := p.2) (hp' := r) .here, q⟩
theorem e_tup {elts k pos} {Q : Av → Sg → Prop} (hp : elts.all plainE = true) (h : TL C elts σ (fun as σ₁ => as.length ≤ sizeLine ∧ ∀ a, Q (.ref a) ⟨σ₁.hb, σ₁.loc, (a, .tup as) :: σ₁.hp⟩)) :
    TV C (eval (.Tuple elts k pos) C.env) σ Q := by
  rw [arm_eval_Tuple, backTo_plain hp]
  exact T.bind (T.standAt (T.bind (T.spliced (TL.mono h fun as σ₁ _ h₁ vs hvs => T.newTuple hvs h₁.1 h₁.2))))

/-! ## «in» a tuple, a list -/
theorem any_strs (ys : List Str) (x : Str) : (ys.any fun y => y == x) = decide (x ∈ ys) := by
  induction ys with
  | nil => simp
  | cons y r ih =>
    rw [List.any_cons, ih]
    by_cases h : y = x
    · subst h; simp
    · have h' : x ≠ y := fun e => h e.symm
      simp [h, h']
theorem any_ints (ys : List Int) (x : Int) : (ys.any fun y => y == x) = decide (x ∈ ys) := by
  induction ys with
  | nil => simp
  | cons y r ih =>
    rw [List.any_cons, ih]
    by_cases h : y = x
    · subst h; simp
    · have h' : x ≠ y := fun e => h e.symm
      simp [h, h']
theorem o_in_tupS {t : Addr} {l : List Av} {ys : List Str} {x : Str} {Q : Av → Sg → Prop} (h : Here σ t (.tup l)) (hl : l = ys.map .str) (q : Q (.bool (decide (x ∈ ys))) σ) : O2 C (compareOp .In) (.str x) (.ref t) σ Q := by
  rintro _ _ ⟨u, rfl⟩ rfl
  subst hl
  refine ⟨fun s hs => ?_⟩
  obtain ⟨vs, e1, e2⟩ := h.tup hs
  refine in_tuple_strs e1 (avs_strs e2) (give hs isB ?_)
  rw [any_strs]; exact q
theorem o_in_tupI {t : Addr} {l : List Av} {ys : List Int} {x : Int} {Q : Av → Sg → Prop} (h : Here σ t (.tup l)) (hl : l = ys.map .int) (q : Q (.bool (decide (x ∈ ys))) σ) : O2 C (compareOp .In) (.int x) (.ref t) σ Q := by
  rintro _ _ ⟨u, rfl⟩ rfl
  subst hl
  refine ⟨fun s hs => ?_⟩
  obtain ⟨vs, e1, e2⟩ := h.tup hs
  refine in_tuple_ints e1 (avs_ints e2) (give hs isB ?_)
  rw [any_ints]; exact q
theorem Avs.one {a : Av} {vs : List Value} (h : Avs [a] vs) : ∃ v, vs = [v] ∧ Av.is a v := by
  cases h with
  | cons h t => cases t; exact ⟨_, rfl, h⟩
theorem Avs.two {a b : Av} {vs : List Value} (h : Avs [a, b] vs) : ∃ v u, vs = [v, u] ∧ Av.is a v ∧ Av.is b u := by
  cases h with
  | cons h t => obtain ⟨u, e, h'⟩ := Avs.one t; subst e; exact ⟨_, _, rfl, h, h'⟩
theorem Avs.three {a b c : Av} {vs : List Value} (h : Avs [a, b, c] vs) : ∃ v u w, vs = [v, u, w] ∧ Av.is a v ∧ Av.is b u ∧ Av.is c w := by
  cases h with
  | cons h t => obtain ⟨u, w, e, h', h''⟩ := Avs.two t; subst e; exact ⟨_, _, _, rfl, h, h', h''⟩

theorem bc_len_str {x : Str} {Q : Av → Sg → Prop} (hx : x.length ≤ sizeLine) (q : Q (.int x.length) σ) : CC C (.builtin "len") [.str x] σ Q := by
  intro vs hvs
  obtain ⟨v, rfl, t, rfl⟩ := Avs.one hvs
  refine ⟨fun s hs => PyProof.Rows.len_str ?_ (give hs isI q)⟩
  rw [sizeLine_eq] at hx; omega
theorem bc_len_list {a : Addr} {l : List Av} {Q : Av → Sg → Prop} (h : Here σ a (.list l)) (hsz : l.length ≤ sizeLine) (q : Q (.int l.length) σ) : CC C (.builtin "len") [.ref a] σ Q := by
  intro vs hvs
  obtain ⟨v, rfl, e⟩ := Avs.one hvs
  have e' : v = .ref a := e
  subst e'
  refine ⟨fun s hs => ?_⟩
  obtain ⟨us, e1, e2⟩ := h.list hs
  have hlen := Paired.len e2
  rw [← hlen] at q
  refine call_len_list e1 ?_ (give hs isI (by simpa using q))
  rw [sizeLine_eq] at hsz; simp [hlen]; omega
theorem bc_append {a : Addr} {l : List Av} {y : Av} {hp' : List (Addr × Mk)} {Q : Av → Sg → Prop} (u : Upd a (.list l) (.list (l ++ [y])) σ.hp hp') (hsz : l.length ≤ sizeLine) (q : Q .none ⟨σ.hb, σ.loc, hp'⟩) :
    CC C (.builtin "list.append") [.ref a, y] σ Q := by
  intro vs hvs
  obtain ⟨v, x, rfl, e, hx⟩ := Avs.two hvs
  have e' : v = .ref a := e
  subst e'
  refine ⟨fun s hs => ?_⟩
  obtain ⟨⟨o', e2, us, n, e3, e4⟩, _⟩ := hs.hp a _ u.has
  subst e3
  refine wpAny_list_append_plain ⟨n, e2⟩ (fun h' hl hsb => ?_) (by simp [Paired.len e4]; exact hsz)
  obtain ⟨n', hl⟩ := hl
  exact ⟨⟨σ.hb, σ.loc, hp'⟩, stays_refl _, hs.upd u hsb ⟨_, hl, us ++ [x], n', by simp, Paired.app e4 (.cons hx .nil)⟩, _, isN, q⟩
theorem meth_append : MethOf "list" "append" "list.append" := ⟨PySem.F.plainAttrs_list, PySem.F.slot_list_append, PySem.F.type_list_append⟩

theorem bc_chr {i : Int} {Q : Av → Sg → Prop} (h0 : 0 ≤ i) (h1 : i ≤ 1114111) (q : Q (.str (S [i.toNat])) σ) : CC C (.builtin "chr") [.int i] σ Q := by
  intro vs hvs
  obtain ⟨v, rfl, t, rfl⟩ := Avs.one hvs
  exact ⟨fun s hs => chr_of_range h0 h1 (give hs isS q)⟩
theorem bc_ord {c : Nat} {Q : Av → Sg → Prop} (q : Q (.int c) σ) : CC C (.builtin "ord") [.str (S [c])] σ Q := by
  intro vs hvs
  obtain ⟨v, rfl, t, rfl⟩ := Avs.one hvs
  exact ⟨fun s hs => ord_of_one rfl (give hs isI q)⟩
theorem bc_isStr {x : Str} {Q : Av → Sg → Prop} (q : Q (.bool true) σ) : CC C (.builtin "isinstance") [.str x, .raw (.type "str")] σ Q := by
  intro vs hvs
  obtain ⟨v, u, rfl, ⟨t, rfl⟩, hu⟩ := Avs.two hvs
  have hu' : u = .type "str" := hu
  subst hu'
  exact ⟨fun s hs => call_isinstance_yes (Tx := "str") (typeIs_str _ _ _) (by first | rfl | kernel_rfl) isSubtype_str_str (give hs isB q)⟩
theorem bc_isStr_int {i : Int} {Q : Av → Sg → Prop} (q : Q (.bool false) σ) : CC C (.builtin "isinstance") [.int i, .raw (.type "str")] σ Q := by
  intro vs hvs
  obtain ⟨v, u, rfl, ⟨t, rfl⟩, hu⟩ := Avs.two hvs
  have hu' : u = .type "str" := hu
  subst hu'
  exact ⟨fun s hs => PySem.IsiPair.int_str (give hs isB q)⟩
end


section
variable {α : Type} {C : Cx} {σ : Sg}

/-! ## Several names at once -/
inductive Puts : List Str → List Av → List (Str × Option Av) → List (Str × Option Av) → Prop
  | nil {l} : Puts [] [] l l
  | cons {x a xs as l l' l''} : Put x a l l' → Puts xs as l' l'' → Puts (x :: xs) (a :: as) l l''

theorem Puts.nil_inv {as : List Av} {l l' : List (Str × Option Av)} (h : Puts [] as l l') : as = [] ∧ l = l' := by cases h; exact ⟨rfl, rfl⟩
theorem Puts.cons_inv {x : Str} {xs : List Str} {as : List Av} {l l' : List (Str × Option Av)} (h : Puts (x :: xs) as l l') : ∃ a as' l₁, as = a :: as' ∧ Put x a l l₁ ∧ Puts xs as' l₁ l' := by
  cases h with
  | cons h1 h2 => exact ⟨_, _, _, rfl, h1, h2⟩
theorem Paired.nil_inv {α β : Type} {F : α → β → Prop} {r : List β} (h : Paired F [] r) : r = [] := by cases h; rfl
theorem Paired.cons_inv {α β : Type} {F : α → β → Prop} {a : α} {l : List α} {r : List β} (h : Paired F (a :: l) r) : ∃ b r', r = b :: r' ∧ F a b ∧ Paired F l r' := by
  cases h with
  | cons h1 h2 => exact ⟨_, _, rfl, h1, h2⟩
theorem T.inOrder {hb : Heap} {hp : List (Addr × Mk)} (F : C.env.scope.kind = .function) {xs : List Str} {Q : Unit → Sg → Prop} : ∀ {as : List Av} {vs : List Value} {loc loc' : List (Str × Option Av)},
    Avs as vs → (∀ x ∈ xs, C.env.kindOf x = some .local) → Puts xs as loc loc' → Q () ⟨hb, loc', hp⟩ → T C (assignInOrder (xs.map fun n => PySem.bindName C.env n) vs) ⟨hb, loc, hp⟩ Q := by
  induction xs with
  | nil =>
    intro as vs loc loc' hv _ hp q
    have e := hp.nil_inv
    obtain ⟨e1, e2⟩ := e
    subst e1 e2
    have e := Paired.nil_inv hv
    subst e
    exact ⟨fun s hs => assignInOrder_nil ⟨_, stays_refl _, hs, q⟩⟩
  | cons x xs ih =>
    intro as vs loc loc' hv hk hp q
    obtain ⟨a, as', l₁, e, h1, h2⟩ := hp.cons_inv
    subst e
    obtain ⟨v, vs', e, hv1, hv2⟩ := Paired.cons_inv hv
    subst e
    show T C (do PySem.holding _ (PySem.bindName C.env x v); assignInOrder _ _) _ Q
    refine T.bind (T.holding (T.bindName (store_loc F (hk x (List.mem_cons_self ..)) h1 hv1 ?_)))
    exact ih hv2 (fun y hy => hk y (List.mem_cons_of_mem _ hy)) h2 q

theorem T.unpackT {t : Addr} {as : List Av} {n : Nat} {Q : List Value → Sg → Prop} (hh : C.A.handled = none) (h : Here σ t (.tup as)) (hn : n = as.length) (q : ∀ vs, Avs as vs → Q vs σ) : T C (unpackItems (.ref t) n none) σ Q := by
  subst hn
  refine ⟨fun s hs => ?_⟩
  obtain ⟨vs, e1, e2⟩ := h.tup hs
  have hl : as.length = vs.toArray.size := by simp [Paired.len e2]
  rw [hl]
  exact unpackItems_tuple hh e1 fun h' he => ⟨σ, stays_refl _, hs.kept (tk := s.toks) (h' := h') (fun b o e => he b o (Nat.ne_of_lt (Heap.lt_size e)) e), q vs e2⟩

theorem Paired.rev {α β : Type} {F : α → β → Prop} : ∀ {l : List α} {r : List β}, Paired F l r → Paired F l.reverse r.reverse
  | _, _, .nil => .nil
  | _, _, .cons h t => by
    rw [List.reverse_cons, List.reverse_cons]
    exact Paired.app (Paired.rev t) (.cons h .nil)

theorem x_tset {elts tk tpos velts vk vpos pos} {k : Kt} {names : List Str} {env' : Env} (he : C.env = env') (F : C.env.scope.kind = .function) (hh : C.A.handled = none)
    (hw : swappedStores [.Tuple elts tk tpos] (.Tuple velts vk vpos) env' = pure (some names)) (hs : swapsWithSole [.Tuple elts tk tpos] (.Tuple velts vk vpos) pos.line env' = pure false)
    (hk : ∀ x ∈ names, env'.kindOf x = some .local) (hp : velts.all plainE = true)
    (h : TL C velts σ (fun as σ₁ => as.length ≤ sizeLine ∧ as.length = names.length ∧ ∃ l', Puts names.reverse as.reverse σ₁.loc l' ∧ k.next ⟨σ₁.hb, l', σ₁.hp⟩)) :
    TX C (exec (.Assign [.Tuple elts tk tpos] (.Tuple velts vk vpos) pos) C.env) σ k := by
  subst he
  rw [exec_Assign]
  refine T.bind (T.standAt ?_)
  rw [hs]
  refine T.bind (T.pure ?_)
  rw [if_neg (by decide)]
  rw [arm_eval_Tuple, backTo_plain hp]
  refine T.bind ?_
  refine T.bind (T.standAt (T.bind (T.spliced (TL.mono h fun as σ₁ _ h₁ vs hvs => ?_))))
  obtain ⟨h1, h2, l', h3, h4⟩ := h₁
  refine T.mono (T.newTuple (Q := fun a σ₂ => ∃ t, a = .ref t ∧ σ₂ = { σ₁ with hp := (t, .tup as) :: σ₁.hp }) hvs h1 fun a => ⟨a, rfl, rfl⟩) fun v σ₂ _ H_ => ?_
  obtain ⟨a, ha, t, e1, e2⟩ := H_
  subst e1 e2
  have hv : v = .ref t := ha
  subst hv
  rw [hw]
  refine T.bind (T.pure ?_)
  show T C (do rule "assign.swapped-stores"; let items ← unpackItems (.ref t) names.length none; assignInOrder (names.reverse.map fun n => PySem.bindName C.env n) items.reverse; Pure.pure Flow.next) _ _
  refine T.bind (T.rule (T.bind (T.unpackT hh (.inl (.head _)) h2.symm fun us hus => T.bind ?_)))
  refine T.weak (T.inOrder F (Paired.rev hus) (fun x hx => hk x (by simpa using hx)) h3 ?_)
  exact T.pure h4

theorem assignEach_names {env : Env} : ∀ l : List (Str × Pos), assignEach (l.map fun p => .Name p.1 p.2) env = l.map fun p => (false, assign (.Name p.1 p.2) env)
  | [] => rfl
  | p :: r => by
    have ih := assignEach_names (env := env) r
    rw [List.map_cons, List.map_cons, ← ih]
    rfl

theorem T.inOrderA {hb : Heap} {hp : List (Addr × Mk)} (F : C.env.scope.kind = .function) {xs : List (Str × Pos)} {Q : Unit → Sg → Prop} : ∀ {as : List Av} {vs : List Value} {loc loc' : List (Str × Option Av)},
    Avs as vs → (∀ x ∈ xs, C.env.kindOf x.1 = some .local) → Puts (xs.map (·.1)) as loc loc' → Q () ⟨hb, loc', hp⟩ → T C (assignInOrder (xs.map fun p => assign (.Name p.1 p.2) C.env) vs) ⟨hb, loc, hp⟩ Q := by
  induction xs with
  | nil =>
    intro as vs loc loc' hv _ hp q
    have e := hp.nil_inv
    obtain ⟨e1, e2⟩ := e
    subst e1 e2
    have e := Paired.nil_inv hv
    subst e
    exact ⟨fun s hs => assignInOrder_nil ⟨_, stays_refl _, hs, q⟩⟩
  | cons x xs ih =>
    intro as vs loc loc' hv hk hp q
    obtain ⟨a, as', l₁, e, h1, h2⟩ := hp.cons_inv
    subst e
    obtain ⟨v, vs', e, hv1, hv2⟩ := Paired.cons_inv hv
    subst e
    show T C (do PySem.holding _ (assign (.Name x.1 x.2) C.env v); assignInOrder _ _) _ Q
    refine T.bind (T.holding ?_)
    show T C (do PySem.standAt x.2; PySem.bindName C.env x.1 v) _ _
    refine T.bind (T.standAt (T.bindName (store_loc F (hk x (List.mem_cons_self ..)) h1 hv1 ?_)))
    exact ih hv2 (fun y hy => hk y (List.mem_cons_of_mem _ hy)) h2 q

theorem T.assignT {hb : Heap} {hp : List (Addr × Mk)} {t : Addr} {as : List Av} {xs : List (Str × Pos)} {tk tpos} {loc loc' : List (Str × Option Av)} {Q : Unit → Sg → Prop} (F : C.env.scope.kind = .function) (hh : C.A.handled = none) (h : Here ⟨hb, loc, hp⟩ t (.tup as))
    (hk : ∀ x ∈ xs, C.env.kindOf x.1 = some .local) (hl : xs.length = as.length) (hps : Puts (xs.map (·.1)) as loc loc') (q : Q () ⟨hb, loc', hp⟩) : T C (assign (.Tuple (xs.map fun p => .Name p.1 p.2) tk tpos) C.env (.ref t)) ⟨hb, loc, hp⟩ Q := by
  refine ⟨fun s hs => ?_⟩
  obtain ⟨vs, e1, e2⟩ := h.tup hs
  refine assign_Tuple_tuple hh e1 (by rw [assignEach_names]; simp [Paired.len e2, hl]) (by rw [assignEach_names, List.findIdx?_eq_none_iff]; simp) fun h' he => ?_
  rw [assignEach_names, List.map_map]
  have hs' := hs.kept (tk := s.toks) (h' := h') (fun b o e => he b o (Nat.ne_of_lt (Heap.lt_size e)) e)
  exact (T.inOrderA F e2 hk hps q).go (stays_refl _) hs'

theorem x_unpack2 {x y : Str} {px py : Pos} {tk tpos value pos} {k : Kt} {env' : Env} (he : C.env = env') (F : C.env.scope.kind = .function) (hh : C.A.handled = none)
    (hw : swappedStores [.Tuple [.Name x px, .Name y py] tk tpos] value env' = pure none) (hs : swapsWithSole [.Tuple [.Name x px, .Name y py] tk tpos] value pos.line env' = pure false)
    (hx : env'.kindOf x = some .local) (hy : env'.kindOf y = some .local)
    (h : TV C (eval value C.env) σ (fun a σ₁ => ∃ t u v, a = .ref t ∧ Here σ₁ t (.tup [u, v]) ∧ ∃ l' l'', Put x u σ₁.loc l' ∧ Put y v l' l'' ∧ k.next ⟨σ₁.hb, l'', σ₁.hp⟩)) :
    TX C (exec (.Assign [.Tuple [.Name x px, .Name y py] tk tpos] value pos) C.env) σ k := by
  subst he
  rw [exec_Assign]
  refine T.bind (T.standAt ?_)
  rw [hs]
  refine T.bind (T.pure ?_)
  rw [if_neg (by decide)]
  refine TV.bind (TV.mono h fun a σ₁ _ ⟨t, u, v, e, h1, l', l'', h2, h3, h4⟩ w hw' => ?_)
  subst e
  have hv : w = .ref t := hw'
  subst hv
  rw [hw]
  refine T.bind (T.pure ?_)
  show T C (do assignAll (.ref t) [assign (.Tuple [.Name x px, .Name y py] tk tpos) C.env]; Pure.pure Flow.next) _ _
  show T C (do assign (.Tuple [.Name x px, .Name y py] tk tpos) C.env (.ref t); Pure.pure Flow.next) _ _
  obtain ⟨hb, loc, hp⟩ := σ₁
  refine T.bind (T.assignT (xs := [(x, px), (y, py)]) F hh h1 (by simp [hx, hy]) rfl (.cons h2 (.cons h3 .nil)) (T.pure h4))

/-! ## «is» -/
theorem o_isnot_sr {x : Str} {a : Addr} {Q : Av → Sg → Prop} (q : Q (.bool true) σ) : O2 C (compareOp .IsNot) (.str x) (.ref a) σ Q := by
  rintro _ _ ⟨t, rfl⟩ rfl
  exact ⟨fun s hs => wpAny_isNot_other rfl (by intro h; cases h) ⟨σ, stays_refl _, hs, _, isB, q⟩⟩
/-! ## join -/
theorem meth_join : MethOf "str" "join" "str.join" := ⟨PySem.F.plainAttrs_str, PySem.F.slot_str_join, PySem.F.type_str_join⟩
theorem bc_join {x : Str} {a : Addr} {l : List Av} {ys : List Str} {Q : Av → Sg → Prop} (h : Here σ a (.list l)) (hl : l = ys.map .str) (hsep : x.length ≤ 16) (hw : (ys.map (·.length)).sum + ys.length ≤ 1048576)
    (q : Q (.str (Txt.join x ys)) σ) : CC C (.builtin "str.join") [.str x, .ref a] σ Q := by
  intro vs hvs
  subst hl
  obtain ⟨v, u, rfl, ⟨t, rfl⟩, hu⟩ := Avs.two hvs
  have hu' : u = .ref a := hu
  subst hu'
  refine ⟨fun s hs => ?_⟩
  obtain ⟨us, e1, e2⟩ := h.list hs
  exact join_listW e1 (by simpa using avs_strs e2) hsep hw fun t' k => give hs isS q

/-! ## lists alike -/
theorem o_eq_len {a b : Addr} {l l' : List Av} {Q : Av → Sg → Prop} (hu : C.A.units < cLine) (h : Here σ a (.list l)) (h' : Here σ b (.list l')) (hl : l = [] ∨ l' = []) (q : Q (.bool (l.isEmpty && l'.isEmpty)) σ) : O2 C (compareOp .Eq) (.ref a) (.ref b) σ Q := by
  rintro _ _ rfl rfl
  refine ⟨fun s hs => ?_⟩
  obtain ⟨us, e1, e2⟩ := h.list hs
  obtain ⟨vs, f1, f2⟩ := h'.list hs
  have g1 := Paired.len e2
  have g2 := Paired.len f2
  by_cases hb : l = [] ∧ l' = []
  · obtain ⟨rfl, rfl⟩ := hb
    have u0 : us = [] := List.length_eq_zero_iff.mp g1
    have v0 : vs = [] := List.length_eq_zero_iff.mp g2
    subst u0 v0
    exact SeqAt.eq_listAt e1 f1 rfl hu (e := fun _ => true) (fun j h1 _ => absurd h1 (Nat.not_lt_zero _)) ⟨σ, stays_refl _, hs, _, isB, q⟩
  · have hne : (us.toArray.size != vs.toArray.size) = true := by
      simp only [List.size_toArray, g1, g2, bne_iff_ne]
      intro he
      rcases hl with rfl | rfl
      · exact hb ⟨rfl, List.length_eq_zero_iff.mp he.symm⟩
      · exact hb ⟨List.length_eq_zero_iff.mp he, rfl⟩
    refine SeqAt.eq_list_lengthsAt e1 f1 hne hu ⟨σ, stays_refl _, hs, .bool false, isB, ?_⟩
    have : (l.isEmpty && l'.isEmpty) = false := by
      cases l with
      | cons _ _ => rfl
      | nil => cases l' with
        | nil => exact absurd ⟨rfl, rfl⟩ hb
        | cons _ _ => rfl
    rw [this] at q; exact q

/-! ## ranges, min -/
end

section
variable {prog : Program} {w : World} {A : Around} {E : Value → Shared → Prop}
theorem tl_hit {s : Shared} {d : Addr} {c : Nat} {x : Str} {t : Tok} {f : Int → Option Value} {Q : Builtin.Str.Mapped → Shared → Prop} (hd : (d == sysModules) = false) (hm : s.heap.MapOf (intKind prog w) d f) (hf : f c = some (.str x t))
    (q : ∀ tk, Q (.text x) { s with toks := tk }) : wpAny (model prog w) A (Builtin.Str.tableLookup (.ref d) c) Q E s := by
  unfold Builtin.Str.tableLookup
  refine wpAny_bind (wpAny_attempt ?_)
  refine wpAny_bind (wpAny_mkInt ?_)
  refine wpAny_getItem_of (knd := intKind prog w) (k := (c : Int)) (intKind_is prog w _ _) hm hf ?_
  show wpAny _ _ (asInt? (.str x t) >>= _) _ _ _
  refine wpAny_bind (wpAny_pure ?_)
  show wpAny _ _ (asStr? (.str x t) >>= _) _ _ _
  refine wpAny_bind (wpAny_pure ?_)
  exact wpAny_pure (q _)
theorem tl_miss {s : Shared} {d : Addr} {c : Nat} {f : Int → Option Value} {Q : Builtin.Str.Mapped → Shared → Prop} (hh : A.handled = none) (hd : (d == sysModules) = false) (hm : s.heap.MapOf (intKind prog w) d f) (hf : f c = none)
    (q : ∀ h' tk, s.heap.StaysIn h' → Q .keep { s with heap := h', toks := tk }) : wpAny (model prog w) A (Builtin.Str.tableLookup (.ref d) c) Q E s := by
  unfold Builtin.Str.tableLookup
  refine wpAny_bind (wpAny_attempt ?_)
  refine wpAny_bind (wpAny_mkInt ?_)
  refine wpAny_getItem_missing_of (knd := intKind prog w) (k := (c : Int)) (intKind_is prog w _ _) hd hh hm hf fun h' e X => ?_
  obtain ⟨ob, t, ho, hc, _⟩ := X.there
  show wpAny _ _ (isInstance (.ref e) (.type "LookupError") >>= _) _ _ _
  refine wpAny_bind (wpAny_isInstance (T := "KeyError") (b := true) ⟨ob, ho, hc⟩ (by rw [isSubtype_type]; kernel_rfl) ?_)
  show wpAny _ _ (rule _ >>= fun _ => pure Builtin.Str.Mapped.keep) _ _ _
  exact wpAny_bind (wpAny_rule (wpAny_pure (q _ _ fun b o e => X.keeps b o e)))
set_option maxHeartbeats 4000000 in
theorem tr_hit {s : Shared} {d : Addr} {c : Nat} {t : Tok} {x : Str} {u : Tok} {f : Int → Option Value} {Q : PySem.Fin → Shared → Prop} (hd : (d == sysModules) = false) (hm : s.heap.MapOf (intKind prog w) d f) (hf : f c = some (.str x u)) (hl : x.length = 2)
    (q : ∀ t' tk, Q (.done (.ret (.str x t'))) { s with toks := tk }) : wpAny (model prog w) A (Builtin.«str.translate» ⟨[.str (S [c]) t, .ref d], []⟩) Q E s := by
  have hall : ((S [c]).cps.all fun x => decide (x < 128)) = decide (c < 128) := by simp
  have hx : x.cps.size = 2 := hl
  unfold Builtin.«str.translate»
  repeat wp_step
  by_cases hc : c < 128
  · simp only [hall, hc, decide_true, if_true, List.lookup]
    refine wpAny_bind (tl_hit (c := c) hd hm hf fun tk => ?_)
    have e1 : (x.length == 1) = false := by rw [hl]; rfl
    simp only [e1, Bool.false_and, Bool.false_eq_true, if_false]
    repeat (first | refine wpAny_bind (tl_hit (c := c) hd hm hf fun tk => ?_) | wp_step)
    rw [if_neg (by show ¬ Builtin.Str.tooLong (0 + x.length) = true; rw [hl]; decide +kernel)]
    have e2 : (⟨List.foldl (fun acc p => acc ++ p.cps) #[] [x]⟩ : Str) = x := by cases x; simp
    show wpAny _ _ (retStr ⟨List.foldl (fun acc p => acc ++ p.cps) #[] [x]⟩) _ _ _
    rw [e2]
    repeat wp_step
    exact q _ _
  · have hcd : decide (c < 128) = false := by simpa using hc
    simp only [hall, hcd, Bool.false_eq_true, if_false]
    repeat (first | refine wpAny_bind (tl_hit (c := c) hd hm hf fun tk => ?_) | wp_step)
    rw [if_neg (by show ¬ Builtin.Str.tooLong (0 + x.length) = true; rw [hl]; decide +kernel)]
    have e2 : (⟨List.foldl (fun acc p => acc ++ p.cps) #[] [x]⟩ : Str) = x := by cases x; simp
    show wpAny _ _ (retStr ⟨List.foldl (fun acc p => acc ++ p.cps) #[] [x]⟩) _ _ _
    rw [e2]
    repeat wp_step
    exact q _ _
set_option maxHeartbeats 4000000 in
theorem tr_miss {s : Shared} {d : Addr} {c : Nat} {t : Tok} {f : Int → Option Value} {Q : PySem.Fin → Shared → Prop} (hh : A.handled = none) (hd : (d == sysModules) = false) (hm : s.heap.MapOf (intKind prog w) d f) (hf : f c = none)
    (q : ∀ t' h' tk, s.heap.StaysIn h' → Q (.done (.ret (.str (S [c]) t'))) { s with heap := h', toks := tk }) : wpAny (model prog w) A (Builtin.«str.translate» ⟨[.str (S [c]) t, .ref d], []⟩) Q E s := by
  have hall : ((S [c]).cps.all fun x => decide (x < 128)) = decide (c < 128) := by simp
  unfold Builtin.«str.translate»
  repeat wp_step
  by_cases hc : c < 128
  · simp only [hall, hc, decide_true, if_true, List.lookup]
    refine wpAny_bind (tl_miss (c := c) hh hd hm hf fun h' tk hk => ?_)
    repeat wp_step
    exact q _ _ _ hk
  · have hcd : decide (c < 128) = false := by simpa using hc
    simp only [hall, hcd, Bool.false_eq_true, if_false]
    refine wpAny_bind (tl_miss (c := c) hh hd hm hf fun h' tk hk => ?_)
    repeat wp_step
    exact q _ _ _ hk
end

/-- the table's rows: a number to its sign behind a backslash -/
noncomputable def intAt : Value → Option Nat
  | .int (.ofNat i) _ => some i
  | _ => none
noncomputable def strAt : Value → Option Str
  | .str x _ => some x
  | _ => none
theorem intAt_inv {v : Value} {i : Nat} (h : intAt v = some i) : ∃ t, v = .int (i : Int) t := by
  cases v with
  | int j t => cases j with
    | ofNat k => exact ⟨t, congrArg (fun k : Nat => Value.int (k : Int) t) (Option.some.inj h)⟩
    | negSucc k => exact nomatch (show none = some i from h)
  | _ => exact nomatch (show none = some i from h)
theorem strAt_inv {v : Value} {x : Str} (h : strAt v = some x) : ∃ u, v = .str x u := by
  cases v with
  | str j t => exact ⟨t, congrArg (fun k => Value.str k t) (Option.some.inj h)⟩
  | _ => exact nomatch (show none = some x from h)
noncomputable def rowOk (e : DictEntry) : Bool := match intAt e.key with
  | some i => match strAt e.val with
    | some x => e.hash == hashInt i && x == S [92, i]
    | none => false
  | none => false
theorem rowOk_inv {e : DictEntry} (h : rowOk e = true) : ∃ i : Nat, intAt e.key = some i ∧ (∃ t, e.key = .int (i : Int) t) ∧ (∃ u, e.val = .str (S [92, i]) u) ∧ e.hash = hashInt i := by
  unfold rowOk at h
  cases h1 : intAt e.key with
  | none => rw [h1] at h; exact Bool.noConfusion h
  | some i =>
    rw [h1] at h
    cases h2 : strAt e.val with
    | none => rw [h2] at h; exact Bool.noConfusion h
    | some x =>
      rw [h2] at h
      have h := Bool.and_eq_true_iff.mp h
      have hx : x = S [92, i] := eq_of_beq h.2
      subst hx
      exact ⟨i, rfl, intAt_inv h1, strAt_inv h2, eq_of_beq h.1⟩
noncomputable def rowsOk (es : List DictEntry) : Bool := es.all rowOk
noncomputable def keysOf (es : List DictEntry) : List Nat := es.filterMap fun e => intAt e.key
theorem rows_find (c : Nat) (es : List DictEntry) : rowsOk es = true → (c ∈ keysOf es → ∃ u, (es.find? fun e => Value.isInt (c : Int) e.key).map (·.val) = some (.str (S [92, c]) u)) ∧ (c ∉ keysOf es → (es.find? fun e => Value.isInt (c : Int) e.key) = none) := by
  induction es with
  | nil => exact fun _ => And.intro (fun h => absurd h (List.not_mem_nil)) (fun _ => rfl)
  | cons e r ih =>
    intro h
    have h := Bool.and_eq_true_iff.mp (show (rowOk e && rowsOk r) = true from h)
    have ih := ih h.2
    obtain ⟨i, hi, ⟨t, hk⟩, ⟨u, hv⟩, _⟩ := rowOk_inv h.1
    have ek : keysOf (e :: r) = i :: keysOf r := List.filterMap_cons_some hi
    rw [ek]
    by_cases hci : c = i
    · subst hci
      have e0 : Value.isInt (c : Int) e.key = true := by rw [hk]; exact beq_self_eq_true (c : Int)
      refine ⟨fun _ => ⟨u, ?_⟩, fun hn => absurd (List.mem_cons_self ..) hn⟩
      rw [List.find?_cons_of_pos (p := fun e : DictEntry => Value.isInt (c : Int) e.key) e0]
      exact congrArg some hv
    · have e0 : Value.isInt (c : Int) e.key = false := by
        rw [hk]
        exact beq_eq_false_iff_ne.mpr fun q => hci (Int.ofNat.inj q).symm
      rw [List.find?_cons_of_neg (p := fun e : DictEntry => Value.isInt (c : Int) e.key) (by rw [e0]; exact Bool.noConfusion)]
      refine ⟨fun hm => ih.1 ?_, fun hn => ih.2 fun hm => hn (List.mem_cons_of_mem _ hm)⟩
      exact (List.mem_cons.mp hm).resolve_left hci
theorem rows_map {prog : Program} {w : World} {h : Heap} {d : Addr} {es : Array DictEntry} {ep : Nat} (ho : h.get? d = some { cls := .type "dict", data := .dict es ep }) (hr : rowsOk es.toList = true) :
    h.MapOf (intKind prog w) d (fun k => findBy (intKind prog w).is es k) := by
  refine ⟨_, es, ep, ho, ⟨rfl, rfl, rfl⟩, rfl, fun e he => ?_, fun k => rfl⟩
  obtain ⟨i, _, ⟨t, hk⟩, _, hh⟩ := rowOk_inv (List.all_eq_true.mp hr e (by simpa using he))
  refine ⟨(i : Int), ?_, hh⟩
  rw [hk]
  exact intKind_is prog w _ _

section
variable {C : Cx} {σ : Sg}
theorem meth_translate : MethOf "str" "translate" "str.translate" := ⟨PySem.F.plainAttrs_str, PySem.F.slot_str_translate, PySem.F.type_str_translate⟩
theorem bc_translate {c : Nat} {d : Addr} {es : Array DictEntry} {ep : Nat} {Q : Av → Sg → Prop} (hh : C.A.handled = none) (ho : C.K.lookup d = some { cls := .type "dict", data := .dict es ep }) (hr : rowsOk es.toList = true) (hd : (d == sysModules) = false)
    (q : Q (.str (S (if c ∈ keysOf es.toList then [92, c] else [c]))) σ) : CC C (.builtin "str.translate") [.str (S [c]), .raw (.ref d)] σ Q := by
  intro vs hvs
  obtain ⟨v, u, rfl, ⟨t, rfl⟩, hu⟩ := Avs.two hvs
  have hu' : u = .ref d := hu
  subst hu'
  refine ⟨fun s hs => ?_⟩
  have ho' := hs.hbget (hs.wd.1 _ _ ho)
  have hm := rows_map (prog := C.prog) (w := C.w) ho' hr
  obtain ⟨f1, f2⟩ := rows_find c es.toList hr
  refine wpAny_call_entry PySem.F.slot_str_translate (typeIs_str _ _ _) PySem.F.entry_str_translate ?_ (PySem.F.args_str_translate_2 _ _)
  by_cases hc : c ∈ keysOf es.toList
  · obtain ⟨u, hu⟩ := f1 hc
    rw [if_pos hc] at q
    refine tr_hit hd hm (x := S [92, c]) (u := u) ?_ (by rw [S_len]; rfl) fun t' tk => ⟨_, rfl, give hs isS q⟩
    show findBy _ _ _ = _
    unfold findBy
    rw [← Array.find?_toList]
    exact hu
  · rw [if_neg hc] at q
    refine tr_miss hh hd hm ?_ fun t' h' tk hk => ⟨_, rfl, ⟨σ, stays_refl _, hs.kept hk, _, isS, q⟩⟩
    show findBy _ _ _ = _
    unfold findBy
    rw [← Array.find?_toList]
    exact congrArg (Option.map _) (f2 hc)
end


theorem lookup_object_new : typeLookup (.type "object") "__new__" = pure (some (.builtin "object.__new__")) := by rw [typeLookup_type, builtinLookup_eq_fast]; kernel_rfl
theorem mro_obj : mroOf (.type "object") = pure [.type "object"] := by kernel_rfl
theorem called_object : TypeCalled "object" "object.__new__" "object.__init__" :=
  ⟨by decide +kernel, by decide +kernel, ⟨_, _, mro_obj⟩, madeBy_type mro_obj lookup_object_new (by decide +kernel), by decide +kernel, PySem.F.sub_object_object, PySem.F.slot_object_init⟩
theorem typeCall_object : checkTypeCall "object" ⟨[], []⟩ = pure () := by kernel_rfl
theorem newCall_object : checkBuiltinCall "object.__new__" ⟨[.type "object"], []⟩ = pure () := by kernel_rfl
theorem object_args (a : Value) : argsOk "object.__init__" ⟨[a], []⟩ := by
  unfold argsOk; rw [signature?_of (id := "object.__init__") (n := ['_', '_', 't', 'i', 'n', 'i', '_', '_']) (o := ['t', 'c', 'e', 'j', 'b', 'o']) (by kernel_rfl) PySem.F.owner_object]; kernel_rfl
noncomputable def plainObj : Obj := { cls := .type "object", data := .plain }
theorem meets_object_new : Meets (Builtin.«object.__new__» ⟨[.type "object"], []⟩) (fun _ R s => R (.ok (.ret (.ref s.heap.objs.size))) { s with heap := s.heap.push plainObj }) :=
  .of_wp fun prog w A R s h => by
    obtain ⟨hp, g, d, tk, os⟩ := s
    have hm : Bind.madeHere "object.__new__" (.type "object") = pure () := by kernel_rfl
    unfold Builtin.«object.__new__»
    repeat (first | with_reducible refine wpAny_bind (wpAny_of_eq hm ?_) | wp_step)
    exact ⟨_, rfl, h⟩
theorem meets_object_init (a : Value) : Meets (Builtin.«object.__init__» ⟨[a], []⟩) (fun _ R s => R (.ok (.ret .none)) s) :=
  Meets.of_wp fun prog w A R s hs => wpAny_pure ⟨_, rfl, hs⟩

section
variable {C : Cx} {σ : Sg}
theorem bc_object {Q : Av → Sg → Prop} (q : ∀ x hb', σ.hb.StaysIn hb' → σ.hb.get? x = none → hb'.get? x = some plainObj → Q (.ref x) ⟨hb', σ.loc, σ.hp⟩) : CC C (.type "object") [] σ Q := by
  rintro _ ⟨⟩
  refine ⟨fun s hs => ?_⟩
  refine callType_meets (Q₁ := fun obj s₁ => obj = .ref s.heap.objs.size ∧ s₁ = { s with heap := s.heap.push plainObj }) called_object typeCall_object newCall_object PySem.F.entry_object_new PySem.F.entry_object_init meets_object_new ⟨rfl, rfl⟩ fun obj s₁ e => ?_
  obtain ⟨rfl, rfl⟩ := e
  have hg : (s.heap.push plainObj).get? s.heap.objs.size = some plainObj := Heap.get?_push_size _ rfl
  refine ⟨⟨_, hg, rfl⟩, object_args _, _, meets_object_init _, rfl, ?_⟩
  have hs' := hs.new (tk := s.toks) (a := s.heap.objs.size) (k := .any plainObj) (o := plainObj) (fresh_none _ (Nat.le_refl _)) (fun b o e => Heap.get?_push_of_some _ e) hg ⟨rfl, rfl⟩
  obtain ⟨hb', f1, f2, ⟨o, f3, f4, _⟩, _, f5⟩ := hs'.freeze (a := s.heap.objs.size) (k := .any plainObj) (hp' := σ.hp) .here
  subst f4
  exact ⟨_, f1, f2, .ref _, isR, q _ hb' f1 f5 f3⟩
end

section
variable {C : Cx} {σ : Sg}

noncomputable def jn (sep : List Nat) : List (List Nat) → List Nat
  | [] => []
  | [x] => x
  | x :: y :: r => x ++ sep ++ jn sep (y :: r)
theorem it_strN {l : List Nat} {i c : Nat} {Q : Av → Sg → Prop} (hc : l[i]? = some c) (hl : l.length ≤ 2 ^ 62) (q : Q (.str (S [c])) σ) : ItemT C (.str (S l)) (.int (i : Int)) σ Q := by
  have hi := (List.getElem?_eq_some_iff.mp hc).1
  refine it_str (by omega) (by omega) ?_ q
  rw [S_len, StrLaws.seqIndex_nonneg (by omega) (by omega)]
  simpa using hc
theorem it_strLast {l : List Nat} {c : Nat} {Q : Av → Sg → Prop} (hc : l.getLast? = some c) (hl : l.length ≤ 2 ^ 62) (q : Q (.str (S [c])) σ) : ItemT C (.str (S l)) (.int (-1)) σ Q := by
  have hne : l ≠ [] := by rintro rfl; simp at hc
  have h0 := List.length_pos_iff.mpr hne
  refine it_str (by omega) (by omega) ?_ q
  rw [S_len]
  have : seqIndex? (-1) l.length = some (l.length - 1) := by
    unfold seqIndex?
    have e1 : (if (-1 : Int) < 0 then (-1 : Int) + (l.length : Int) else -1) = (l.length : Int) - 1 := by rw [if_pos (by decide)]; omega
    have e2 : (decide ((0 : Int) ≤ (l.length : Int) - 1) && decide ((l.length : Int) - 1 < (l.length : Int))) = true := by simp; omega
    simp only [e1, e2, if_true]
    congr 1
    omega
  rw [this]
  rw [List.getLast?_eq_getElem?] at hc
  simpa using hc
theorem it_listI {a : Addr} {l : List Av} {i : Nat} {x : Av} {Q : Av → Sg → Prop} (h : Here σ a (.list l)) (hx : l[i]? = some x) (hl : l.length ≤ 2 ^ 62) (q : Q x σ) : ItemT C (.ref a) (.int (i : Int)) σ Q := by
  have hi := (List.getElem?_eq_some_iff.mp hx).1
  exact it_list h (by omega) (by omega) (by simpa using hx) q

theorem S1_beq (a b : List Nat) : (S a == S b) = decide (a = b) := by
  by_cases h : a = b
  · subst h; simp
  · have : S a ≠ S b := fun e => h (S_inj.mp e)
    simp [h, this]

inductive Sto2 (x y : Str) (P : Sg → Prop) (σ₁ : Sg) (as : List Av) : Prop
  | mk (u v : Av) (e : as = [u, v]) (l' l'' : List (Str × Option Av)) (p1 : Put y v σ₁.loc l') (p2 : Put x u l' l'') (q : P ⟨σ₁.hb, l'', σ₁.hp⟩) : Sto2 x y P σ₁ as
inductive Sto3 (x y z : Str) (P : Sg → Prop) (σ₁ : Sg) (as : List Av) : Prop
  | mk (u v w : Av) (e : as = [u, v, w]) (l' l'' l3 : List (Str × Option Av)) (p1 : Put z w σ₁.loc l') (p2 : Put y v l' l'') (p3 : Put x u l'' l3) (q : P ⟨σ₁.hb, l3, σ₁.hp⟩) : Sto3 x y z P σ₁ as
inductive CallOnM (C : Cx) (args : List Expr) (Q : Av → Sg → Prop) (σ₁ : Sg) (a : Av) : Prop
  | mk (b x : Addr) (e : a = .ref b) (h : TL C args σ₁ (fun as σ₂ => (b, Mk.any (bmObj x)) ∈ σ₂.hp ∧ CC C (.ref b) as σ₂ Q)) : CallOnM C args Q σ₁ a
inductive Added (b x : Addr) (P : Sg → Prop) (σ₂ : Sg) (y : Av) : Prop
  | mk (m : (b, Mk.any (bmObj x)) ∈ σ₂.hp) (l : List Av) (hp' : List (Addr × Mk)) (hl : l.length ≤ sizeLine) (u : Upd x (.list l) (.list (l ++ [y])) σ₂.hp hp') (q : P ⟨σ₂.hb, σ₂.loc, hp'⟩) : Added b x P σ₂ y
inductive AddOn (C : Cx) (arg : Expr) (P : Sg → Prop) (σ₁ : Sg) (a : Av) : Prop
  | mk (b x : Addr) (e : a = .ref b) (m : (b, Mk.any (bmObj x)) ∈ σ₁.hp) (h : TV C (eval arg C.env) σ₁ (fun y σ₂ => Added b x P σ₂ y)) : AddOn C arg P σ₁ a
theorem x_tset2 {x y : Str} {px py : Pos} {tk tpos velts vk vpos pos} {k : Kt} {env' : Env} (he : C.env = env') (F : C.env.scope.kind = .function) (hh : C.A.handled = none)
    (hw : swappedStores [.Tuple [.Name x px, .Name y py] tk tpos] (.Tuple velts vk vpos) env' = Pure.pure (some [x, y])) (hs : swapsWithSole [.Tuple [.Name x px, .Name y py] tk tpos] (.Tuple velts vk vpos) pos.line env' = Pure.pure false)
    (hx : env'.kindOf x = some .local) (hy : env'.kindOf y = some .local) (hp : velts.all plainE = true)
    (h : TL C velts σ (fun as σ₁ => Sto2 x y k.next σ₁ as)) :
    TX C (exec (.Assign [.Tuple [.Name x px, .Name y py] tk tpos] (.Tuple velts vk vpos) pos) C.env) σ k :=
  x_tset he F hh hw hs (by intro z hz; simp only [List.mem_cons, List.not_mem_nil, or_false] at hz; rcases hz with rfl | rfl <;> assumption) hp
    (TL.mono h fun as σ₁ _ ⟨u, v, e, l', l'', p1, p2, q⟩ => by subst e; exact ⟨by rw [sizeLine_eq]; simp, rfl, l'', .cons p1 (.cons p2 .nil), q⟩)
theorem x_tset3 {x y z : Str} {px py pz : Pos} {tk tpos velts vk vpos pos} {k : Kt} {env' : Env} (he : C.env = env') (F : C.env.scope.kind = .function) (hh : C.A.handled = none)
    (hw : swappedStores [.Tuple [.Name x px, .Name y py, .Name z pz] tk tpos] (.Tuple velts vk vpos) env' = Pure.pure (some [x, y, z])) (hs : swapsWithSole [.Tuple [.Name x px, .Name y py, .Name z pz] tk tpos] (.Tuple velts vk vpos) pos.line env' = Pure.pure false)
    (hx : env'.kindOf x = some .local) (hy : env'.kindOf y = some .local) (hz : env'.kindOf z = some .local) (hp : velts.all plainE = true)
    (h : TL C velts σ (fun as σ₁ => Sto3 x y z k.next σ₁ as)) :
    TX C (exec (.Assign [.Tuple [.Name x px, .Name y py, .Name z pz] tk tpos] (.Tuple velts vk vpos) pos) C.env) σ k :=
  x_tset he F hh hw hs (by intro z hz; simp only [List.mem_cons, List.not_mem_nil, or_false] at hz; rcases hz with rfl | rfl | rfl <;> assumption) hp
    (TL.mono h fun as σ₁ _ ⟨u, v, w, e, l', l'', l3, p1, p2, p3, q⟩ => by subst e; exact ⟨by rw [sizeLine_eq]; simp, rfl, l3, .cons p1 (.cons p2 (.cons p3 .nil)), q⟩)
theorem e_callM {id : Str} {p pos : Pos} {args : List Expr} {Q : Av → Sg → Prop} (hp : args.all plainE = true)
    (h : TV C (eval (.Name id p) C.env) σ (fun a σ₁ => CallOnM C args Q σ₁ a)) : TV C (eval (.Call (.Name id p) args [] pos) C.env) σ Q := by
  refine ⟨fun s hs => wpAny_Call_NameR ?_⟩
  refine T.step h hs fun v σ₁ s₁ k₁ at₁ H_ => ?_
  obtain ⟨a, ha, b, x, ea, y⟩ := H_
  subst ea
  have hv : v = .ref b := ha
  subst hv
  show wpAny _ _ (callWith pos (.ref b) [] (backTo pos (starEach args C.env)) []) _ _ _
  rw [backTo_plain hp]
  refine callWith_of (P := fun h => h.get? b = some (bmObj x)) (by simp) (fun h e => ⟨.machine, .inr (.inl rfl), fun A Q E s k q => ?_⟩) (evalArgs_T (TL.mono y fun as σ₂ k ⟨y1, y2⟩ => ?_) at₁)
  · show wpAny _ _ (load b >>= _) _ _ _
    refine wpAny_bind (wpAny_load (k _ _ e) ?_)
    exact wpAny_pure q
  · intro vs s₂ k₂ at₂ hvs
    obtain ⟨⟨o, e1, e2, _⟩, _⟩ := at₂.hp b _ y1
    subst e2
    exact ⟨e1, wpAny_mono ((y2 vs hvs).run s₂ at₂) (Post.up (stays_trans k₁ k₂)) fun _ _ x => x⟩

/-- «add(x)» -/
theorem x_add {id : Str} {p pos pos' : Pos} {arg : Expr} {k : Kt} (hf : C.env.scope.kind = .function) (hp : [arg].all plainE = true) (hs : swapsWith (.Call (.Name id p) [arg] [] pos) none pos'.line C.env = Pure.pure false)
    (h : TV C (eval (.Name id p) C.env) σ (fun a σ₁ => AddOn C arg k.next σ₁ a)) :
    TX C (exec (.Expr (.Call (.Name id p) [arg] [] pos) pos') C.env) σ k :=
  x_expr (e_callM hp (TV.mono h fun a σ₁ _ ⟨b, x, e, _, y⟩ => ⟨b, x, e, tl_cons (TV.mono y fun z σ₂ _ ⟨m, l, hp', hl, u, q⟩ => tl_nil ⟨m, c_bm m u hl ⟨rfl, q⟩⟩)⟩)) hf hs

theorem drop {α : Type} {hb : Heap} {loc : List (Str × Option Av)} {hp hp' : List (Addr × Mk)} {a : Addr} {k : Mk} {t : Sem α} {Q : α → Sg → Prop} (d : Del a k hp hp') (h : T C t ⟨hb, loc, hp'⟩ Q) : T C t ⟨hb, loc, hp⟩ Q :=
  ⟨fun s hs => h.go (stays_refl _) (hs.drop d)⟩
theorem strs_map (ys : List (List Nat)) : (ys.map fun y => Av.str (S y)) = (ys.map S).map Av.str := by rw [List.map_map]; rfl
theorem sum_len (ys : List (List Nat)) : ((ys.map S).map (·.length)).sum = ys.flatten.length := by
  rw [List.map_map, List.length_flatten]
  congr 1
theorem jn_nil : ∀ ys : List (List Nat), jn [] ys = ys.flatten
  | [] => rfl
  | [x] => by simp [jn]
  | x :: y :: r => by
    have := jn_nil (y :: r)
    rw [jn, this]
    simp
/-- a test that leaves all as it is -/
noncomputable abbrev TT (C : Cx) (e : Expr) (whole : Sem Value) (σ : Sg) (b : Bool) : Prop := T C (isTrue e C.env whole) σ (fun t σ' => σ' = σ ∧ t = b)
theorem tt_or {x y pos whole} {b1 b2 : Bool} (h1 : TT C x (eval x C.env) σ b1) (h2 : b1 = false → TT C y (eval y C.env) σ b2) : TT C (.BoolOp .Or [x, y] pos) whole σ (b1 || b2) := by
  refine b_or (T.mono h1 ?_)
  rintro _ _ _ ⟨rfl, rfl⟩
  refine ⟨fun e => ⟨rfl, by rw [e]; rfl⟩, fun e => a_or (T.mono (h2 e) ?_)⟩
  rintro _ _ _ ⟨rfl, rfl⟩
  exact ⟨fun e2 => ⟨rfl, by rw [e, e2]; rfl⟩, fun e2 => a_or_nil ⟨rfl, by rw [e, e2]; rfl⟩⟩
theorem tt_and {x y pos whole} {b1 b2 : Bool} (h1 : TT C x (eval x C.env) σ b1) (h2 : b1 = true → TT C y (eval y C.env) σ b2) : TT C (.BoolOp .And [x, y] pos) whole σ (b1 && b2) := by
  refine b_and (T.mono h1 ?_)
  rintro _ _ _ ⟨rfl, rfl⟩
  refine ⟨fun e => ⟨rfl, by rw [e]; rfl⟩, fun e => a_and (T.mono (h2 e) ?_)⟩
  rintro _ _ _ ⟨rfl, rfl⟩
  exact ⟨fun e2 => ⟨rfl, by rw [e, e2]; rfl⟩, fun e2 => a_and_nil ⟨rfl, by rw [e, e2]; rfl⟩⟩
theorem tt_and3 {x y z pos whole} {b1 b2 b3 : Bool} (h1 : TT C x (eval x C.env) σ b1) (h2 : b1 = true → TT C y (eval y C.env) σ b2) (h3 : b1 = true → b2 = true → TT C z (eval z C.env) σ b3) : TT C (.BoolOp .And [x, y, z] pos) whole σ (b1 && b2 && b3) := by
  refine b_and (T.mono h1 ?_)
  rintro _ _ _ ⟨rfl, rfl⟩
  refine ⟨fun e => ⟨rfl, by rw [e]; rfl⟩, fun e => a_and (T.mono (h2 e) ?_)⟩
  rintro _ _ _ ⟨rfl, rfl⟩
  refine ⟨fun e2 => ⟨rfl, by rw [e, e2]; rfl⟩, fun e2 => a_and (T.mono (h3 e e2) ?_)⟩
  rintro _ _ _ ⟨rfl, rfl⟩
  exact ⟨fun e3 => ⟨rfl, by rw [e, e2, e3]; rfl⟩, fun e3 => a_and_nil ⟨rfl, by rw [e, e2, e3]; rfl⟩⟩
theorem x_ifB {test body orelse pos} {k : Kt} (b : Bool) (h : TT C test (eval test C.env) σ b) (h1 : b = true → TX C (execs body C.env) σ k) (h2 : b = false → TX C (execs orelse C.env) σ k) : TX C (exec (.If test body orelse pos) C.env) σ k := by
  refine x_if (T.mono h ?_)
  rintro _ _ _ ⟨rfl, rfl⟩
  exact ⟨h1, h2⟩
theorem tt_of {e : Expr} {whole : Sem Value} {a b : Bool} (h : a = b) (q : TT C e whole σ a) : TT C e whole σ b := by rw [← h]; exact q
theorem o_neg {a : Int} {Q : Av → Sg → Prop} (q : Q (.int (-a)) σ) : O1 C (unaryOp .USub) (.int a) σ Q := by
  rintro _ ⟨t, rfl⟩
  refine ⟨fun s hs => ?_⟩
  with_reducible exact neg_int (give hs isI q)
end
theorem lit_star : Str.ofString "*" = S [42] := by decide +kernel
theorem lit_q : Str.ofString "?" = S [63] := by decide +kernel
theorem lit_open : Str.ofString "[" = S [91] := by decide +kernel
theorem lit_close : Str.ofString "]" = S [93] := by decide +kernel
theorem lit_bang : Str.ofString "!" = S [33] := by decide +kernel
theorem lit_dot : Str.ofString "." = S [46] := by decide +kernel
theorem lit_bs : Str.ofString "\\" = S [92] := by decide +kernel
theorem lit_empty : Str.ofString "" = S [] := by decide +kernel
theorem lit_head : Str.ofString "(?s:" = S [40, 63, 115, 58] := by decide +kernel
theorem lit_tail : Str.ofString ")\\Z" = S [41, 92, 90] := by decide +kernel
theorem str_join (sep : List Nat) : ∀ ys : List (List Nat), Str.join (S sep) (ys.map S) = S (jn sep ys)
  | [] => rfl
  | [x] => rfl
  | x :: y :: r => by
    have ih := str_join sep (y :: r)
    rw [List.map_cons] at ih
    rw [List.map_cons, List.map_cons, join_cons_cons, ih, S_app, S_app]
    rfl
theorem txt_join (sep : List Nat) (ys : List (List Nat)) : Txt.join (S sep) (ys.map S) = S (jn sep ys) := by
  rw [← str_join]
  exact StrLaws.glued_eq_join _ _


/-! ## Slices, in plain words -/
noncomputable def cut (v : Option Int) (d n : Nat) : Nat := match v with
  | none => d
  | some i => (max 0 (min (if i < 0 then i + n else i) n)).toNat
theorem sr_one (p q : Nat) : sliceRange (p : Int) q 1 = List.range' p (q - p) := by
  unfold sliceRange
  simp only [show (1 : Int) > 0 by decide, if_true, Int.ediv_one]
  have e : (if (p : Int) < q then (q : Int) - p + 1 - 1 else 0).toNat = q - p := by split <;> omega
  rw [e, List.range'_eq_map_range]
  refine List.map_congr_left fun k _ => ?_
  omega
theorem pick_one {α : Type} (l : List α) : ∀ m p, (List.range' p m).filterMap (fun i => l[i]?) = (l.drop p).take m
  | 0, p => by simp
  | m + 1, p => by
    rw [List.range'_succ, List.filterMap_cons, pick_one l m (p + 1)]
    by_cases h : p < l.length
    · rw [List.getElem?_eq_getElem h, List.drop_eq_getElem_cons h, List.take_succ_cons]
    · rw [List.getElem?_eq_none (by omega), List.drop_eq_nil_of_le (by omega), List.drop_eq_nil_of_le (by omega)]
      simp
theorem cut_le (v : Option Int) (d n : Nat) (h : d ≤ n) : cut v d n ≤ n := by
  unfold cut
  cases v with
  | none => exact h
  | some i => show (max 0 (min (if i < 0 then i + (n : Int) else i) n)).toNat ≤ n; omega
theorem indices_cut (lo hi : Option Int) (n : Nat) : Builtin.Str.strSliceIndices lo hi 1 n = List.range' (cut lo 0 n) (cut hi n n - cut lo 0 n) := by
  have key : ∀ i : Int, max 0 (min (if i < 0 then i + (n : Int) else i) n) = ((cut (some i) 0 n : Nat) : Int) := fun i => by
    unfold cut
    show _ = (((max 0 (min (if i < 0 then i + (n : Int) else i) n)).toNat : Nat) : Int)
    omega
  have key2 : ∀ i : Int, max 0 (min (if i < 0 then i + (n : Int) else i) n) = ((cut (some i) n n : Nat) : Int) := key
  unfold Builtin.Str.strSliceIndices
  cases lo <;> cases hi <;> simp only [show (1 : Int) > 0 by decide, if_true, key]
  · exact sr_one 0 n
  · exact sr_one 0 _
  · exact sr_one _ n
  · exact sr_one _ _
theorem txt_slice (l : List Nat) (lo hi : Option Int) : Txt.slice (S l) lo hi = S ((l.drop (cut lo 0 l.length)).take (cut hi l.length l.length - cut lo 0 l.length)) := by
  unfold Txt.slice
  rw [S_len, indices_cut]
  have e : ((List.range' (cut lo 0 l.length) (cut hi l.length l.length - cut lo 0 l.length)).filterMap fun i => (S l).cps[i]?) = (l.drop (cut lo 0 l.length)).take (cut hi l.length l.length - cut lo 0 l.length) := by
    have e0 : (fun i : Nat => (S l).cps[i]?) = fun i : Nat => l[i]? := by funext i; simp
    rw [e0]
    exact pick_one l _ _
  split
  · rename_i h
    simp only [beq_self_eq_true, Bool.true_and, beq_iff_eq, List.length_range'] at h
    have h2 := cut_le hi l.length l.length (Nat.le_refl _)
    have h3 : cut lo 0 l.length = 0 ∨ l.length = 0 := by omega
    rcases h3 with h3 | h3
    · rw [h3] at h ⊢
      rw [List.drop_zero, List.take_of_length_le (by omega)]
    · have : l = [] := List.length_eq_zero_iff.mp h3
      subst this
      simp
  · exact congrArg S e
theorem list_slice (vs : List Value) (lo hi : Option Int) : (slicePick vs.toArray lo hi none).toList = (vs.drop (cut lo 0 vs.length)).take (cut hi vs.length vs.length - cut lo 0 vs.length) := by
  have key : ∀ i : Int, max 0 (min (if i < 0 then i + (vs.length : Int) else i) vs.length) = ((cut (some i) 0 vs.length : Nat) : Int) := fun i => by
    unfold cut
    show _ = (((max 0 (min (if i < 0 then i + (vs.length : Int) else i) vs.length)).toNat : Nat) : Int)
    omega
  have hsz : vs.toArray.size = vs.length := by simp
  have e0 : (fun i : Nat => vs.toArray[i]?) = fun i : Nat => vs[i]? := by funext i; simp
  unfold slicePick
  rw [e0, List.toList_toArray, hsz]
  have fin : ∀ p q : Nat, (sliceRange (p : Int) q 1).filterMap (fun i => vs[i]?) = (vs.drop p).take (q - p) := fun p q => by rw [sr_one, pick_one]
  unfold sliceBounds
  cases lo <;> cases hi <;> simp only [Option.getD_none, show (1 : Int) > 0 by decide, if_true, key]
  · exact fin 0 vs.length
  · exact fin 0 _
  · exact fin _ vs.length
  · exact fin _ _

section
variable {C : Cx} {σ : Sg}
theorem sl_strL {l : List Nat} {lo hi : Option Int} {Q : Av → Sg → Prop} (hx : l.length ≤ sizeLine) (q : Q (.str (S ((l.drop (cut lo 0 l.length)).take (cut hi l.length l.length - cut lo 0 l.length)))) σ) : SliceT C (.str (S l)) lo hi σ Q :=
  sl_str (by rw [S_len]; exact hx) (by rw [txt_slice]; exact q)
theorem sl_listL {a : Addr} {as : List Av} {lo hi : Option Int} {Q : Av → Sg → Prop} (h : Here σ a (.list as)) (hsz : as.length ≤ sizeLine)
    (q : ∀ x hb', σ.hb.StaysIn hb' → σ.hb.get? x = none → Is hb' x (.list ((as.drop (cut lo 0 as.length)).take (cut hi as.length as.length - cut lo 0 as.length))) → Q (.ref x) ⟨hb', σ.loc, σ.hp⟩) : SliceT C (.ref a) lo hi σ Q :=
  sl_list h hsz (fun vs hvs => by
    rw [list_slice, Paired.len hvs]
    exact Paired.take _ (Paired.drop _ hvs)) q
end

theorem cut_nat (k d n : Nat) : cut (some (k : Int)) d n = min k n := by
  unfold cut
  show (max 0 (min (if (k : Int) < 0 then (k : Int) + (n : Int) else (k : Int)) n)).toNat = min k n
  omega
theorem cut_neg (k d n : Nat) (hk : 0 < k) : cut (some (-(k : Int))) d n = n - k := by
  unfold cut
  show (max 0 (min (if -(k : Int) < 0 then -(k : Int) + (n : Int) else -(k : Int)) n)).toNat = n - k
  omega
/-- text[k:k+m] -/
theorem part_len (l : List Nat) (k m d n : Nat) (hn : n = l.length) : (l.drop (cut (some (k : Int)) 0 n)).take (cut (some ((k + m : Nat) : Int)) d n - cut (some (k : Int)) 0 n) = (l.drop k).take m := by
  subst hn
  rw [cut_nat, cut_nat]
  by_cases h : k ≤ l.length
  · rw [Nat.min_eq_left h]
    by_cases h2 : k + m ≤ l.length
    · rw [Nat.min_eq_left h2, Nat.add_sub_cancel_left]
    · rw [Nat.min_eq_right (by omega)]
      rw [List.take_of_length_le (by simp), List.take_of_length_le (by simp; omega)]
  · rw [Nat.min_eq_right (b := l.length) (a := k) (by omega), List.drop_eq_nil_of_le (Nat.le_refl _), List.drop_eq_nil_of_le (by omega)]
    simp


theorem get_none_of {hb hb' : Heap} {b : Addr} (k : hb'.StaysIn hb) (e : hb.get? b = none) : hb'.get? b = none := by
  cases q : hb'.get? b with
  | none => rfl
  | some o => rw [k _ _ q] at e; cases e

section
variable {C : Cx}
theorem At.but {σ : Sg} {s : Shared} {h' : Heap} {tk : Nat} {wr : List Addr} (x : At C σ s) (hw : ∀ b ∈ wr, σ.hb.get? b = none ∧ b ≠ C.env.locals ∧ b ∉ σ.hp.map (·.1)) (k : ∀ b o, b ∉ wr → s.heap.get? b = some o → h'.get? b = some o) :
    At C σ { s with heap := h', toks := tk } where
  fr := let ⟨m, F, l⟩ := x.fr; ⟨m, F.at' fun o e => k _ _ (fun q => (hw _ q).2.1 rfl) e, l⟩
  keep := fun b o e => k _ _ (fun q => by rw [(hw _ q).1] at e; cases e) (x.keep _ _ e)
  off := x.off
  nd := x.nd
  hp := fun a j e => let ⟨⟨o, e1, e2⟩, r⟩ := x.hp a j e; ⟨⟨o, k _ _ (fun q => (hw _ q).2.2 (List.mem_map.mpr ⟨_, e, rfl⟩)) e1, e2⟩, r⟩
  hnd := x.hnd
  wd := x.wd
  gens := x.gens
  os := x.os
theorem At.shrink {hb hb' : Heap} {loc hp} {s : Shared} (x : At C ⟨hb, loc, hp⟩ s) (k : hb'.StaysIn hb) (W : Wd C.K hb') : At C ⟨hb', loc, hp⟩ s where
  fr := x.fr
  keep := stays_trans k x.keep
  off := get_none_of k x.off
  nd := x.nd
  hp := fun a j e => let ⟨r1, r2, r3⟩ := x.hp a j e; ⟨r1, r2, get_none_of k r3⟩
  hnd := x.hnd
  wd := W
  gens := x.gens
  os := x.os

noncomputable abbrev Apart (C : Cx) (hb : Heap) (hp : List (Addr × Mk)) (wr : List Addr) : Prop := ∀ b ∈ wr, hb.get? b = none ∧ b ≠ C.env.locals ∧ b ∉ hp.map (·.1)

/-- an iterator whose items go into a target -/
structure Dr (C : Cx) (I : Addr) (target : Expr) (fp wr : List Addr) (n : Nat) (St : Nat → Heap → Prop) (put : Nat → List (Str × Option Av) → List (Str × Option Av) → Prop) : Prop where
  sub : ∀ b ∈ wr, b ∈ fp
  frame : ∀ i h h', St i h → (∀ b ∈ fp, ∀ o, h.get? b = some o → h'.get? b = some o) → St i h'
  there : ∀ i h, St i h → ∀ b ∈ wr, ∃ o, h.get? b = some o
  draw : ∀ i hb loc hp (s : Shared) (Q : Shared → Prop) (E : Value → Shared → Prop), i < n → St i s.heap → At C ⟨hb, loc, hp⟩ s → Apart C hb hp wr → (∀ b ∈ fp, b ≠ C.env.locals ∧ b ∉ hp.map (·.1)) → (∃ loc', put i loc loc') →
    (∀ s' loc', put i loc loc' → At C ⟨hb, loc', hp⟩ s' → St (i + 1) s'.heap → Q s') →
    wpAny (model C.prog C.w) C.A (pyNext (.ref I)) (fun r s₁ => match r with
      | none => False
      | some v => wpAny (model C.prog C.w) C.A (letOwnedTupleGo target (.ref I) v) (fun _ s₂ => wpAny (model C.prog C.w) C.A (assign target C.env v) (fun _ s₃ => Q s₃) E s₂) E s₁) E s
  done : ∀ hb loc hp (s : Shared) (Q : Shared → Prop) (E : Value → Shared → Prop), St n s.heap → At C ⟨hb, loc, hp⟩ s → Apart C hb hp wr → (∀ s', At C ⟨hb, loc, hp⟩ s' → Q s') →
    wpAny (model C.prog C.w) C.A (pyNext (.ref I)) (fun r s₁ => match r with
      | none => Q s₁
      | some _ => False) E s
  self : ∀ i (s : Shared) (Q : Value → Shared → Prop) (E : Value → Shared → Prop), St i s.heap → Q (.ref I) s → wpAny (model C.prog C.w) C.A (pyIter (.ref I)) Q E s

/-- a step of the triples that keeps what an iterator stands on -/
theorem T.stepI {α : Type} {t : Sem α} {hb loc hp} {E : Value → Shared → Prop} {s : Shared} {P : α → Shared → Prop} {fp : List Addr} {St : Heap → Prop} (fr : ∀ h h', St h → (∀ b ∈ fp, ∀ o, h.get? b = some o → h'.get? b = some o) → St h')
    (hfp : ∀ b ∈ fp, b ≠ C.env.locals ∧ b ∉ hp.map (·.1)) (hs : At C ⟨hb, loc, hp⟩ s) (st : St s.heap)
    (h : ∀ hb', hb.StaysIn hb' → (∀ b o, s.heap.get? b = some o → b ≠ C.env.locals → b ∉ hp.map (·.1) → hb'.get? b = some o) → T C t ⟨hb', loc, hp⟩ (fun a σ' => ∀ s', hb'.StaysIn σ'.hb → At C σ' s' → St s'.heap → P a s')) :
    wpAny (model C.prog C.w) C.A t P E s := by
  obtain ⟨hb', k1, k2, k3⟩ := hs.rebase
  refine T.step (h hb' k1 k3) k2 fun a σ' s' k at' q => q s' k at' ?_
  refine fr _ _ st fun b hb o e => ?_
  exact at'.keep _ _ (k _ _ (k3 b o e (hfp b hb).1 (hfp b hb).2))

theorem T.assignN {x : Str} {px : Pos} {a : Av} {v : Value} {hb : Heap} {loc loc' hp} {Q : Unit → Sg → Prop} (F : C.env.scope.kind = .function) (hk : C.env.kindOf x = some .local) (hput : Put x a loc loc') (hv : Av.is a v)
    (q : Q () ⟨hb, loc', hp⟩) : T C (assign (.Name x px) C.env v) ⟨hb, loc, hp⟩ Q := by
  show T C (do PySem.standAt px; PySem.bindName C.env x v) _ _
  exact T.bind (T.standAt (T.bindName (store_loc F hk hput hv q)))

theorem T.assignI {hb : Heap} {hp : List (Addr × Mk)} {t : Addr} {as : List Av} {xs : List (Str × Pos)} {tk tpos} {loc loc' : List (Str × Option Av)} {Q : Unit → Sg → Prop} (F : C.env.scope.kind = .function) (hh : C.A.handled = none)
    (h : ∃ vs, hb.IsTuple t vs.toArray ∧ Avs as vs) (hk : ∀ x ∈ xs, C.env.kindOf x.1 = some .local) (hl : xs.length = as.length) (hps : Puts (xs.map (·.1)) as loc loc') (q : Q () ⟨hb, loc', hp⟩) :
    T C (assign (.Tuple (xs.map fun p => .Name p.1 p.2) tk tpos) C.env (.ref t)) ⟨hb, loc, hp⟩ Q := by
  refine ⟨fun s hs => ?_⟩
  obtain ⟨vs, ⟨o, e1, e2, n, e3⟩, e4⟩ := h
  have ht : IsTup s.heap t vs.toArray := ⟨o, hs.hbget e1, e2, n, e3⟩
  refine assign_Tuple_tuple hh ht (by rw [assignEach_names]; simp [Paired.len e4, hl]) (by rw [assignEach_names, List.findIdx?_eq_none_iff]; simp) fun h' he => ?_
  rw [assignEach_names, List.map_map]
  have hs' := hs.kept (tk := s.toks) (h' := h') (fun b o e => he b o (Nat.ne_of_lt (Heap.lt_size e)) e)
  exact (T.inOrderA F e4 hk hps q).go (stays_refl _) hs'

theorem Dr.of_walks {I : Addr} {fp wr : List Addr} {n : Nat} {P : Nat → Value → Prop} {St : Nat → Heap → Prop} {x : Str} {px : Pos} (item : Nat → Av) (W : Walks C.prog C.w C.A I fp wr n P St) (F : C.env.scope.kind = .function) (hk : C.env.kindOf x = some .local)
    (there : ∀ i h, St i h → ∀ b ∈ wr, ∃ o, h.get? b = some o) (hP : ∀ i v, i < n → P i v → Av.is (item i) v) : Dr C I (.Name x px) fp wr n St (fun i l l' => Put x (item i) l l') where
  sub := W.sub
  frame := W.frame
  there := there
  draw := fun i hb loc hp s Q E hi st hs hw hfp ⟨loc', hput⟩ hQ => by
    refine W.item i s _ E hi st fun v h' tk hv st' hk' => ?_
    show wpAny _ _ (letOwnedTupleGo (.Name x px) (.ref I) v) _ _ _
    refine wpAny_of_eq (a := ()) rfl ?_
    have hs1 := hs.but (tk := tk) hw hk'
    refine T.stepI (W.frame (i + 1)) hfp hs1 st' fun hb' k1 k2 => T.assignN F hk hput (hP i v hi hv) fun s' k at' st2 => ?_
    exact hQ s' loc' hput (at'.shrink k1 hs.wd) st2
  done := fun hb loc hp s Q E st hs hw hQ => W.done s _ E st fun h' tk hk' => hQ _ (hs.but hw hk')
  self := W.self

theorem Dr.of_walksT {I : Addr} {fp wr : List Addr} {n : Nat} {Pt : Nat → Array Value → Prop} {St : Nat → Heap → Prop} {Mid : Nat → Addr → Heap → Prop} {x y : Str} {px py tp : Pos} {tk : Nat} (i1 i2 : Nat → Av) (W : WalksT C.prog C.w C.A I fp wr n Pt St Mid) (hh : C.A.handled = none)
    (F : C.env.scope.kind = .function) (hx : C.env.kindOf x = some .local) (hy : C.env.kindOf y = some .local) (there : ∀ i h, St i h → ∀ b ∈ wr, ∃ o, h.get? b = some o)
    (hP : ∀ i vals, i < n → Pt i vals → ∃ u v, vals = #[u, v] ∧ Av.is (i1 i) u ∧ Av.is (i2 i) v) :
    Dr C I (.Tuple [.Name x px, .Name y py] tk tp) fp wr n St (fun i l l' => ∃ l₁, Put x (i1 i) l l₁ ∧ Put y (i2 i) l₁ l') where
  sub := W.sub
  frame := W.frame
  there := there
  draw := fun i hb loc hp s Q E hi st hs hw hfp ⟨loc', l₁, hp1, hp2⟩ hQ => by
    refine W.item i s _ E hi st fun t vals h' tk' hv hge hT hm hk' => ?_
    have hs1 := hs.but (tk := tk') hw hk'
    refine W.go _ _ _ i t _ _ _ hm fun h'' st' hk2 => ?_
    have hs2 := hs1.but (h' := h'') (tk := tk') hw hk2
    obtain ⟨u, v, rfl, hu, hv'⟩ := hP i vals hi hv
    obtain ⟨ot, ho, hc, nn, hd⟩ := hT
    have hT2 := hk2 _ _ (W.apart _ _ _ hm) ho
    obtain ⟨hb', k1, k2, k3⟩ := hs2.rebase
    have hlt : ∀ {b o}, s.heap.get? b = some o → t ≠ b := fun e q => by subst q; exact absurd (Heap.lt_size e) (Nat.not_lt.mpr hge)
    have ht : ∃ vs : List Value, hb'.IsTuple t vs.toArray ∧ Avs [i1 i, i2 i] vs := by
      refine ⟨[u, v], ⟨ot, k3 t ot hT2 ?_ ?_, hc, nn, hd⟩, .cons hu (.cons hv' .nil)⟩
      · obtain ⟨m, ⟨oL, _, _, hL, _⟩, _⟩ := hs.fr
        exact hlt hL
      · intro q
        obtain ⟨⟨c, j⟩, hm, e0⟩ := List.mem_map.mp q
        obtain ⟨⟨o', e', _⟩, _⟩ := hs.hp c j hm
        exact hlt e' e0.symm
    refine T.step (T.assignI (xs := [(x, px), (y, py)]) (loc' := loc') F hh ht (by simp [hx, hy]) rfl (.cons hp1 (.cons hp2 .nil)) (Q := fun _ σ' => σ' = ⟨hb', loc', hp⟩) rfl) k2 fun _ σ' s' k at' e => ?_
    subst e
    refine hQ s' loc' ⟨l₁, hp1, hp2⟩ (at'.shrink k1 hs.wd) ?_
    refine W.frame _ _ _ st' fun b hb o e => ?_
    exact at'.keep _ _ (k3 b o e (hfp b hb).1 (hfp b hb).2)
  done := fun hb loc hp s Q E st hs hw hQ => W.done s _ E st fun h' tk hk' => hQ _ (hs.but hw hk')
  self := W.self
end


noncomputable abbrev ctests (ifs : List Expr) (env : Env) : Sem Bool :=
  forIn ifs true fun c r => if r = true then do let ok ← isTrue c env (eval c env); pure (ForInStep.yield ok) else pure (ForInStep.yield r)

section
variable {prog : Program} {w : World} {A : Around} {R : Result → Shared → Prop}
theorem codeAny_compLoop_any {elt target iter : Expr} {ifs : List Expr} {scope : Scope} {pos : Pos} {it acc : Value} {env : Env} (I : Nat → Shared → Prop)
    (turn : ∀ n s, I n s → ∀ E, wpAny (model prog w) A (pyNext it) (fun r s₁ => match r with
      | none => R (.ok .next) s₁
      | some v => wpAny (model prog w) A (letOwnedTupleGo target it v) (fun _ s₁' => wpAny (model prog w) A (assign target env v) (fun _ s₂ =>
          wpAny (model prog w) A (ctests ifs env) (fun ok s₃ =>
            if ok = true then wpAny (model prog w) A (eval elt env) (fun x s₄ =>
              wpAny (model prog w) A (call (.builtin "list.append") [acc, x]) (fun _ s₅ => ∃ m, m < n ∧ I m s₅) E s₄) E s₃
            else ∃ m, m < n ∧ I m s₃) E s₂) E s₁') E s₁) E s)
    (n : Nat) {s : Shared} (h : I n s) : codeAny (model prog w) A (.compLoop (.ListComp elt [⟨target, iter, ifs, 0⟩] scope pos) 0 it acc env) R s := by
  refine codeAny_loop rfl I (fun n s hI => ?_) n h
  show wpAny _ A ((compTurn (.ListComp elt [⟨target, iter, ifs, 0⟩] scope pos) 0 it acc env).onRaise (fun x => do noteFrame x env; theTreesLotGoes x)) _ _ s
  refine wpAny_noted ?_
  rw [compTurn_list]
  refine wpAny_bind (wpAny_standAt (wpAny_bind (wpAny_mono (turn n s hI _) (fun r s₁ h₁ => ?_) fun _ _ h' => h')))
  cases r with
  | none => exact wpAny_pure h₁
  | some v =>
    refine wpAny_bind (wpAny_mono h₁ (fun _ s₁' h₁' => ?_) fun _ _ h' => h')
    refine wpAny_bind (wpAny_mono h₁' (fun _ s₂ h₂ => wpAny_bind (wpAny_mono h₂ (fun ok s₃ h₃ => ?_) fun _ _ h' => h')) fun _ _ h' => h')
    cases ok with
    | false => exact wpAny_pure ⟨rfl, h₃⟩
    | true =>
      exact wpAny_bind (wpAny_bind (wpAny_mono h₃ (fun x s₄ h₄ => wpAny_bind (wpAny_mono h₄ (fun _ s₅ h₅ => wpAny_pure (wpAny_pure ⟨rfl, h₅⟩)) fun _ _ h' => h')) fun _ _ h' => h'))
end

section
variable {C : Cx}

theorem range_step {β : Type} (p : Nat → Bool) (d : Nat → β) (i : Nat) : ((List.range (i + 1)).filter p).map d = ((List.range i).filter p).map d ++ (if p i then [d i] else []) := by
  rw [List.range_succ, List.filter_append, List.map_append]
  cases h : p i <;> simp [h]

inductive EltOk (hb' : Heap) (loc : List (Str × Option Av)) (hp : List (Addr × Mk)) (d : Dt) (σ'' : Sg) (a : Av) : Prop
  | mk (hb'' : Heap) (k : hb'.StaysIn hb'') (e : σ'' = ⟨hb'', loc, hp⟩) (r : Rd (New hb') hb'' d a) : EltOk hb' loc hp d σ'' a
inductive LoopI (C : Cx) (wr : List Addr) (n : Nat) (Lc : List (Str × Option Av) → Prop) (St : Nat → Heap → Prop) (hbB : Heap) (D : Addr) (p : Nat → Bool) (d : Nat → Dt) (m : Nat) (s' : Shared) : Prop
  | mk (i : Nat) (hbE : Heap) (as : List Av) (loc : List (Str × Option Av)) (em : m = n + 1 - i) (hi : i ≤ n) (hk : hbB.StaysIn hbE) (hw : ∀ b ∈ wr, hbE.get? b = none) (hat : At C ⟨hbE, loc, [(D, .list as)]⟩ s') (hlc : Lc loc) (st : St i s'.heap)
    (hrd : Rds (New hbB) hbE (((List.range i).filter p).map d) as) (hal : as.length ≤ i) : LoopI C wr n Lc St hbB D p d m s'
theorem comp_loop {target iter elt : Expr} {ifs : List Expr} {scope : Scope} {pos : Pos} {I D : Addr} {fp wr : List Addr} {n : Nat} {St : Nat → Heap → Prop} {put} (R : Dr C I target fp wr n St put) (Lc : List (Str × Option Av) → Prop) (locOf : Nat → List (Str × Option Av))
    (hput : ∀ i loc, i < n → Lc loc → put i loc (locOf i)) (hdet : ∀ i loc loc', Lc loc → put i loc loc' → loc' = locOf i) (hLc : ∀ i, Lc (locOf i)) (p : Nat → Bool) (d : Nat → Dt) (hbB : Heap) (hn : n ≤ sizeLine) (hwB : ∀ b ∈ wr, hbB.get? b = none)
    (fpD : ∀ b ∈ fp, b ≠ C.env.locals ∧ b ≠ D)
    (body : ∀ i hb' acc, i < n → hbB.StaysIn hb' → T C (ctests ifs C.env) ⟨hb', locOf i, [(D, .list acc)]⟩ (fun ok σ' => σ' = ⟨hb', locOf i, [(D, .list acc)]⟩ ∧ ok = p i ∧
      (p i = true → TV C (eval elt C.env) ⟨hb', locOf i, [(D, .list acc)]⟩ (fun a σ'' => EltOk hb' (locOf i) [(D, .list acc)] (d i) σ'' a))))
    {loc0 : List (Str × Option Av)} (hl0 : Lc loc0) {s : Shared} (at0 : At C ⟨hbB, loc0, [(D, .list [])]⟩ s) (st0 : St 0 s.heap) {Rr : Result → Shared → Prop}
    (hR : ∀ s' hbE as loc, hbB.StaysIn hbE → At C ⟨hbE, loc, [(D, .list as)]⟩ s' → Rds (New hbB) hbE (((List.range n).filter p).map d) as → Rr (.ok .next) s') :
    codeAny (model C.prog C.w) C.A (.compLoop (.ListComp elt [⟨target, iter, ifs, 0⟩] scope pos) 0 (.ref I) (.ref D) C.env) Rr s := by
  have fpD' : ∀ {as : List Av}, ∀ b ∈ fp, b ≠ C.env.locals ∧ b ∉ [(D, Mk.list as)].map (·.1) := fun b hb => ⟨(fpD b hb).1, by simpa using (fpD b hb).2⟩
  refine codeAny_compLoop_any (fun m s' => LoopI C wr n Lc St hbB D p d m s') ?_ (n + 1)
    ⟨0, hbB, [], loc0, rfl, Nat.zero_le _, stays_refl _, hwB, at0, hl0, st0, by rw [List.range_zero, List.filter_nil, List.map_nil, Rds], Nat.le_refl _⟩
  rintro m s' ⟨i, hbE, as, loc, rfl, hi, hk, hwE, hat, hlc, st, hrd, hal⟩ E
  have hap : Apart C hbE [(D, Mk.list as)] wr := fun b hb => ⟨hwE b hb, (fpD b (R.sub b hb)).1, (fpD' (as := as) b (R.sub b hb)).2⟩
  by_cases hin : i = n
  · subst hin
    refine wpAny_mono (R.done hbE loc _ s' (fun s'' => Rr (.ok .next) s'') E st hat hap fun s'' at'' => hR s'' hbE as loc hk at'' hrd) (fun r s₁ h => ?_) fun _ _ x => x
    cases r with
    | none => exact h
    | some v => exact h.elim
  · have hlt : i < n := by omega
    refine wpAny_mono (R.draw i hbE loc _ s' (fun s₂ => wpAny (model C.prog C.w) C.A (ctests ifs C.env) (fun ok s₃ =>
            if ok = true then wpAny (model C.prog C.w) C.A (eval elt C.env) (fun x s₄ =>
              wpAny (model C.prog C.w) C.A (call (.builtin "list.append") [.ref D, x]) (fun _ s₅ => ∃ m, m < n + 1 - i ∧ LoopI C wr n Lc St hbB D p d m s₅) E s₄) E s₃
            else ∃ m, m < n + 1 - i ∧ LoopI C wr n Lc St hbB D p d m s₃) E s₂) E hlt st hat hap fpD' ⟨_, hput i loc hlt hlc⟩ ?_) (fun r s₁ h => ?_) fun _ _ x => x
    · intro s₂ loc' hpt at₂ st₂
      have e := hdet i loc loc' hlc hpt
      subst e
      refine T.stepI (R.frame (i + 1)) fpD' at₂ st₂ fun hb' k1 k2 => T.mono (body i hb' as hlt (stays_trans hk k1)) fun ok σ' _ q s₃ k at₃ st₃ => ?_
      obtain ⟨rfl, rfl, q2⟩ := q
      cases hp : p i with
      | false =>
        simp only [Bool.false_eq_true, if_false]
        refine ⟨n + 1 - (i + 1), by omega, i + 1, hbE, as, _, rfl, by omega, hk, hwE, at₃.shrink k1 (hat.wd), hLc i, st₃, ?_, by omega⟩
        rw [range_step, hp]
        simpa using hrd
      | true =>
        simp only [if_true]
        refine T.step (q2 hp) at₃ fun v σ₄ s₄ _ at₄ H_ => ?_
        obtain ⟨a, hav, hb'', k5, e4, hrda⟩ := H_
        subst e4
        refine T.step (bc_append (C := C) (σ := ⟨hb'', locOf i, [(D, .list as)]⟩) (Q := fun _ σ' => σ' = ⟨hb'', locOf i, [(D, .list (as ++ [a]))]⟩) .here (by omega) rfl [.ref D, v] (.cons isR (.cons hav .nil))) at₄ fun _ σ₅ s₅ _ at₅ ⟨_, _, e5⟩ => ?_
        subst e5
        have kE : (hideAll hb'' wr).StaysIn hb'' := fun b o e => of_hideAll _ e
        have kB : hbE.StaysIn (hideAll hb'' wr) := fun b o e => hideAll_get _ (k5 _ _ (k1 _ _ e)) fun q => by rw [hwE b q] at e; cases e
        refine ⟨n + 1 - (i + 1), by omega, i + 1, hideAll hb'' wr, as ++ [a], _, rfl, by omega, stays_trans hk kB, fun b hb => hideAll_none _ hb, at₅.shrink kE (hat.wd.keeps kB), hLc i, ?_, ?_, by simp; omega⟩
        · refine R.frame _ _ _ st₂ fun b hb o e => at₅.keep _ _ (k5 _ _ (k2 b o e (fpD' (as := as) b hb).1 (fpD' (as := as) b hb).2))
        · rw [range_step, hp]
          refine Rds.app (hrd.keeps kB) ?_
          show Rds _ _ [d i] [a]
          rw [Rds]
          refine ⟨_, _, rfl, ?_, by rw [Rds]⟩
          refine Rd.mono (fun x o f e => ⟨get_none_of (stays_trans hk k1) f, hideAll_get _ e fun q => ?_⟩) _ _ hrda
          obtain ⟨o', e'⟩ := R.there _ _ st₂ x q
          have := k2 x o' e' (fpD' (as := as) x (R.sub x q)).1 (fpD' (as := as) x (R.sub x q)).2
          rw [show hb'.get? x = none from f] at this
          cases this
    · cases r with
      | none => exact h.elim
      | some v => exact h
end


/-- an iterable: its iterator, ready for a target -/
structure Source (C : Cx) (σ₁ σ₂ : Sg) (a : Av) (target : Expr) (n : Nat) (put : Nat → List (Str × Option Av) → List (Str × Option Av) → Prop) (ok : Cx → Prop) : Prop where
  hb : σ₁.hb.StaysIn σ₂.hb
  size : n ≤ sizeLine
  iter : ∀ v (s : Shared) (Q : Value → Shared → Prop), Av.is a v → At C σ₁ s →
    (∀ s₂ I fp wr St, At C σ₂ s₂ → St 0 s₂.heap → (∀ b ∈ fp, b < s₂.heap.objs.size) → Apart C σ₂.hb σ₂.hp wr → (∀ C', C'.prog = C.prog → C'.w = C.w → C'.A = C.A → ok C' → Dr C' I target fp wr n St put) → (∀ b ∈ fp, b ≠ C.env.locals) → Q (.ref I) s₂) →
    wpAny (model C.prog C.w) C.A (pyIter v) Q (fun _ _ => False) s

structure Inner (C C' : Cx) (scope : Scope) (cl : List (Str × Addr)) (Lc : Addr) : Prop where
  env : C'.env = compEnvC scope cl Lc C.env
  prog : C'.prog = C.prog
  w : C'.w = C.w
  K : C'.K = C.K
  A : C'.A = C.A
theorem Inner.is {C C' : Cx} {scope cl Lc prog w K env} (h : Inner C C' scope cl Lc) (hC : IsC C prog w K env) : IsC C' prog w K (compEnvC scope cl Lc env) :=
  ⟨h.prog.trans hC.prog, h.w.trans hC.w, h.K.trans hC.K, by rw [h.env, hC.env]⟩
theorem Inner.fn {C C' : Cx} {scope cl Lc} (h : Inner C C' scope cl Lc) (hk : scope.kind = .function) (hF : Fn C) : Fn C' :=
  ⟨by rw [h.env]; exact hk, by rw [h.env]; exact hF.globals, by rw [h.env]; exact hF.builtins⟩
theorem Inner.ok {C C' : Cx} {scope cl Lc n} (h : Inner C C' scope cl Lc) (hA : Ok n C.A) : Ok n C'.A := by rw [h.A]; exact hA

/-- what the turns of a comprehension make -/
structure Body (C : Cx) (σ : Sg) (scope : Scope) (cl : List (Str × Addr)) (names : List Str) (ifs : List Expr) (elt : Expr) (n : Nat) (locOf : Nat → List (Str × Option Av)) (ok : Cx → Prop) (p : Nat → Bool) (d : Nat → Dt) : Prop where
  nd : names.Nodup
  ok : ∀ C' Lc, Inner C C' scope cl Lc → ok C'
  run : ∀ C' Lc D i hb' acc, Inner C C' scope cl Lc → i < n → σ.hb.StaysIn hb' → (∀ a k, (a, k) ∈ σ.hp → Is hb' a k) →
    T C' (ctests ifs C'.env) ⟨hb', locOf i, [(D, .list acc)]⟩ (fun ok σ' => σ' = ⟨hb', locOf i, [(D, .list acc)]⟩ ∧ ok = p i ∧
      (p i = true → TV C' (eval elt C'.env) ⟨hb', locOf i, [(D, .list acc)]⟩ (fun a σ'' => EltOk hb' (locOf i) [(D, .list acc)] (d i) σ'' a)))

/-- the locals of a comprehension: the target's names, each time all of them put -/
structure Names (names : List Str) (n : Nat) (put : Nat → List (Str × Option Av) → List (Str × Option Av) → Prop) (locOf : Nat → List (Str × Option Av)) : Prop where
  putAt : ∀ i loc, i < n → loc.map (·.1) = names → put i loc (locOf i)
  det : ∀ i loc loc', loc.map (·.1) = names → put i loc loc' → loc' = locOf i
  ns : ∀ i, (locOf i).map (·.1) = names

theorem At.but' {C : Cx} {σ : Sg} {s s' : Shared} {wr : List Addr} (x : At C σ s) (hw : Apart C σ.hb σ.hp wr) (k : ∀ b o, b ∉ wr → s.heap.get? b = some o → s'.heap.get? b = some o) (g : C.gok s'.gens) (o : s'.os = C.os) : At C σ s' where
  fr := let ⟨m, F, l⟩ := x.fr; ⟨m, F.at' fun o e => k _ _ (fun q => (hw _ q).2.1 rfl) e, l⟩
  keep := fun b o e => k _ _ (fun q => by rw [(hw _ q).1] at e; cases e) (x.keep _ _ e)
  off := x.off
  nd := x.nd
  hp := fun a j e => let ⟨⟨o, e1, e2⟩, r⟩ := x.hp a j e; ⟨⟨o, k _ _ (fun q => (hw _ q).2.2 (List.mem_map.mpr ⟨_, e, rfl⟩)) e1, e2⟩, r⟩
  hnd := x.hnd
  wd := x.wd
  gens := g
  os := o

section
variable {C : Cx} {σ : Sg}

theorem comp_block {elt target iter : Expr} {ifs : List Expr} {scope : Scope} {cl : List (Str × Addr)} {pos : Pos} {s₂ : Shared} {I : Addr} {fp wr : List Addr} {n : Nat} {St : Nat → Heap → Prop} {put} {ok : Cx → Prop} {names : List Str} {locOf} {p : Nat → Bool} {d : Nat → Dt}
    (at₂ : At C σ s₂) (st : St 0 s₂.heap) (hfp : ∀ b ∈ fp, b < s₂.heap.objs.size) (hwr : Apart C σ.hb σ.hp wr) (hdr : ∀ C', C'.prog = C.prog → C'.w = C.w → C'.A = C.A → ok C' → Dr C' I target fp wr n St put)
    (hsz : n ≤ sizeLine) (hcell : ∀ y ∈ scope.names, y.2 ≠ .cell) (hkind : scope.kind = .function) (hN : Names names n put locOf) (hB : Body C σ scope cl names ifs elt n locOf ok p d)
    {RR : Value → Addr → Result → Shared → Prop}
    (hRR : ∀ D Lc hbF as s' m, σ.hb.StaysIn hbF → σ.hb.get? D = none → At C ⟨hbF, σ.loc, σ.hp⟩ s' → hbF.get? Lc = none → Lc ≠ C.env.locals → Lc ∉ σ.hp.map (·.1) → s'.heap.Ns Lc m → Is hbF D (.list as) → Rds (New σ.hb) hbF (((List.range n).filter p).map d) as → RR (.ref D) Lc (.ok .next) s') :
    wpAny (model C.prog C.w) C.A (newList []) (fun acc s₃ => wpAny (model C.prog C.w) C.A (newFunctionEnv scope C.env.globals cl [] C.env.qual none .none (some C.env)) (fun cenv s₄ =>
      codeAny (model C.prog C.w) C.A (.compStart (.ListComp elt [⟨target, iter, ifs, 0⟩] scope pos) 0 (.ref I) acc { cenv with scope := relabel scope C.env }) (RR acc cenv.locals) s₄) (fun _ _ => False) s₃) (fun _ _ => False) s₂ := by
  refine wpAny_newObj_type (wpAny_newFunctionEnv hcell (by intro y hy; simp at hy) (fun h₁ hns₁ hsb₁ => ?_) hkind)
  dsimp only at hns₁ hsb₁ ⊢
  generalize hH2 : s₂.heap.push { cls := .type "list", dict := none, data := .seq ([] : List Value).toArray } = H2 at hns₁ hsb₁ ⊢
  have hC : H2.objs.size = s₂.heap.objs.size + 1 := by rw [← hH2, Heap.size_push]
  have hDC : s₂.heap.objs.size ≠ H2.objs.size := by rw [hC]; exact Nat.ne_of_lt (Nat.lt_succ_self _)
  have below : ∀ b, b < s₂.heap.objs.size → b ≠ H2.objs.size ∧ b ≠ s₂.heap.objs.size := fun b hb => ⟨by rw [hC]; exact Nat.ne_of_lt (Nat.lt_succ_of_lt hb), Nat.ne_of_lt hb⟩
  have old : ∀ b o, s₂.heap.get? b = some o → h₁.get? b = some o := fun b o e => hsb₁.extBut b o (below b (Heap.lt_size e)).1 (Heap.get?_push_of_some _ (hH2 ▸ Heap.get?_push_of_some _ e))
  have hacc : h₁.get? s₂.heap.objs.size = some { cls := .type "list", data := .seq #[] } := hsb₁.extBut _ _ hDC (Heap.get?_push_of_some _ (hH2 ▸ Heap.get?_push_size _ rfl))
  generalize hLc : H2.objs.size = Lc at *
  generalize hD : s₂.heap.objs.size = D at *
  have hfD : s₂.heap.get? D = none := fresh_none _ (by rw [hD]; exact Nat.le_refl _)
  have hfL : s₂.heap.get? Lc = none := fresh_none _ (by rw [hD, hC]; exact Nat.le_succ _)
  let C' : Cx := ⟨C.prog, C.w, C.A, compEnvC scope cl Lc C.env, C.K, C.gok, C.os⟩
  have hin : Inner C C' scope cl Lc := ⟨rfl, rfl, rfl, rfl, rfl⟩
  have R := hdr C' rfl rfl rfl (hB.ok C' Lc hin)
  let hbB := hideAll h₁ (Lc :: D :: wr)
  have inB : ∀ b o, s₂.heap.get? b = some o → b ∉ wr → hbB.get? b = some o := fun b o e hb => hideAll_get _ (old b o e) fun q => by
    rcases List.mem_cons.mp q with q | q
    · exact (below b (by rw [← hD] at *; exact Heap.lt_size e)).1 q
    · rcases List.mem_cons.mp q with q | q
      · exact (below b (by rw [← hD] at *; exact Heap.lt_size e)).2 q
      · exact hb q
  have kB : σ.hb.StaysIn hbB := fun b o e => inB b o (at₂.hbget e) fun q => by rw [(hwr b q).1] at e; cases e
  have at0 : ∀ tk, At C' ⟨hbB, names.map (fun x => (x, none)), [(D, .list [])]⟩ { s₂ with heap := h₁, toks := tk } := fun tk => by
    refine ⟨⟨_, hns₁, fun x a hm => ?_⟩, fun b o e => of_hideAll _ e, hideAll_none _ (.head _), ?_, fun a k hm => ?_, ?_, at₂.wd.keeps kB, at₂.gens, at₂.os⟩
    · obtain ⟨y, _, e⟩ := List.mem_map.mp hm
      cases e
    · rw [List.map_map]
      have : (List.map ((fun (x : Str × Option Av) => x.1) ∘ fun x => (x, none)) names) = names := List.map_id' _
      show (List.map ((fun (x : Str × Option Av) => x.1) ∘ fun x => (x, none)) names).Nodup
      rw [this]
      exact hB.nd
    · simp only [List.mem_singleton, Prod.mk.injEq] at hm
      obtain ⟨rfl, rfl⟩ := hm
      exact ⟨⟨_, hacc, [], 0, rfl, .nil⟩, hDC, hideAll_none _ (.tail _ (.head _))⟩
    · simp
  have hpB : ∀ a k, (a, k) ∈ σ.hp → Is hbB a k := fun a k hm => by
    obtain ⟨⟨o, e1, e2⟩, _⟩ := at₂.hp a k hm
    exact ⟨o, inB a o e1 fun q => (hwr a q).2.2 (List.mem_map.mpr ⟨_, hm, rfl⟩), e2⟩
  have loop : ∀ tk, codeAny (model C.prog C.w) C.A (.compLoop (.ListComp elt [⟨target, iter, ifs, 0⟩] scope pos) 0 (.ref I) (.ref D) C'.env) (RR (.ref D) Lc) { s₂ with heap := h₁, toks := tk } := fun tk => by
    refine comp_loop (C := C') R (fun loc => loc.map (·.1) = names) locOf hN.putAt hN.det hN.ns p d hbB hsz (fun b hb => hideAll_none _ (.tail _ (.tail _ hb))) (fun b hb => ?_) (fun i hb' acc hi k => hB.run C' Lc D i hb' acc hin hi (stays_trans kB k) fun a j hm => (hpB a j hm).keeps k)
      (loc0 := names.map (fun x => (x, none))) ?_ (at0 tk) (R.frame _ _ _ st fun b _ o e => old b o e) ?_
    · have := hfp b hb
      exact ⟨(below b this).1, (below b this).2⟩
    · rw [List.map_map]
      exact List.map_id' _
    · intro s' hbE as loc hk at' hrd
      obtain ⟨m, hm, _⟩ := at'.fr
      have hLL : Lc ≠ C.env.locals := by
        rintro rfl
        obtain ⟨_, ⟨oL, _, _, hL, _⟩, _⟩ := at₂.fr
        rw [hfL] at hL; cases hL
      have hLp : Lc ∉ σ.hp.map (·.1) := fun q => by
        obtain ⟨⟨c, j⟩, hm, e0⟩ := List.mem_map.mp q
        obtain ⟨⟨o', e', _⟩, _⟩ := at₂.hp c j hm
        have e0' : c = Lc := e0
        rw [e0', hfL] at e'; cases e'
      have hDL : D ≠ C.env.locals := by
        rintro rfl
        obtain ⟨_, ⟨oL, _, _, hL, _⟩, _⟩ := at₂.fr
        rw [hfD] at hL; cases hL
      have hDp : D ∉ σ.hp.map (·.1) := fun q => by
        obtain ⟨⟨c, j⟩, hm, e0⟩ := List.mem_map.mp q
        obtain ⟨⟨o', e', _⟩, _⟩ := at₂.hp c j hm
        have e0' : c = D := e0
        rw [e0', hfD] at e'; cases e'
      have keep2 : ∀ b o, b ∉ wr → s₂.heap.get? b = some o → s'.heap.get? b = some o := fun b o hb e => at'.keep _ _ (hk _ _ (inB b o e hb))
      have atO : At C σ s' := at₂.but' hwr keep2 at'.gens at'.os
      obtain ⟨hb1, r1, r2, r3⟩ := atO.rebase
      have kS : (hideAll hb1 [Lc]).StaysIn hb1 := fun b o e => of_hideAll _ e
      have kT : σ.hb.StaysIn (hideAll hb1 [Lc]) := fun b o e => hideAll_get _ (r1 _ _ e) fun q => by
        simp only [List.mem_singleton] at q
        subst q
        have := at₂.hbget e
        rw [hfL] at this; cases this
      have hDn : σ.hb.get? D = none := by
        cases q : σ.hb.get? D with
        | none => rfl
        | some o => have := at₂.hbget q; rw [hfD] at this; cases this
      obtain ⟨⟨oD, eD1, eD2⟩, eD3, _⟩ := at'.hp D _ (.head _)
      refine hRR D Lc (hideAll hb1 [Lc]) as s' m kT hDn (r2.shrink kS (at₂.wd.keeps kT)) (hideAll_none _ (.head _)) hLL hLp hm ⟨oD, hideAll_get _ (r3 D oD eD1 hDL hDp) (by simpa using hDC), eD2⟩ ?_
      refine Rds.mono (fun x o f e => ⟨get_none_of kB f, hideAll_get _ (r3 x o (at'.keep _ _ e) ?_ ?_) ?_⟩) _ _ hrd
      · rintro rfl
        obtain ⟨_, ⟨oL, _, _, hL, _⟩, _⟩ := at₂.fr
        have := inB _ _ hL fun q => (hwr _ q).2.1 rfl
        rw [show hbB.get? C.env.locals = none from f] at this; cases this
      · intro q
        obtain ⟨⟨c, j⟩, hm', e0⟩ := List.mem_map.mp q
        have e0' : c = x := e0
        obtain ⟨o', e', _⟩ := hpB c j hm'
        rw [e0', show hbB.get? x = none from f] at e'; cases e'
      · intro q
        simp only [List.mem_singleton] at q
        have := at'.off
        rw [q] at e
        rw [show hbE.get? Lc = none from this] at e; cases e
  exact codeAny_compStart_list (loop _) (R.self 0 { s₂ with heap := h₁, toks := _ } _ _ (R.frame _ _ _ st fun b _ o e => old b o e) (loop _))
end

section
variable {C : Cx} {σ : Sg}

inductive CompOn (C : Cx) (target elt : Expr) (ifs : List Expr) (scope : Scope) (cl : List (Str × Addr)) (R : Addr → Sg → Prop) (σ₁ : Sg) (a : Av) : Prop
  | mk (σ₂ : Sg) (n : Nat) (put : Nat → List (Str × Option Av) → List (Str × Option Av) → Prop) (ok : Cx → Prop) (names : List Str) (locOf : Nat → List (Str × Option Av)) (p : Nat → Bool) (d : Nat → Dt)
    (hS : Source C σ₁ σ₂ a target n put ok) (hN : Names names n put locOf) (hB : Body C σ₂ scope cl names ifs elt n locOf ok p d)
    (q : ∀ x hb' as, σ₂.hb.StaysIn hb' → σ₂.hb.get? x = none → Is hb' x (.list as) → Rds (New σ₂.hb) hb' (((List.range n).filter p).map d) as → R x ⟨hb', σ₂.loc, σ₂.hp⟩) : CompOn C target elt ifs scope cl R σ₁ a
theorem e_comp {elt target iter : Expr} {ifs : List Expr} {scope : Scope} {pos : Pos} {cl : List (Str × Addr)} {env' : Env} {Q : Av → Sg → Prop} (he : C.env = env') (hclos : closureFor scope env' = pure cl) (hcell : ∀ y ∈ scope.names, y.2 ≠ .cell) (hkind : scope.kind = .function)
    (hnames : ∀ x ∈ scope.names, x.2 = .local → scope.names.lookup x.1 = some .local) (hs : ∀ x, foldedSetIterable iter env' x = pure x)
    (h : TV C (eval iter C.env) σ (fun a σ₁ => CompOn C target elt ifs scope cl (fun x σ' => Q (.ref x) σ') σ₁ a)) :
    TV C (eval (.ListComp elt [⟨target, iter, ifs, 0⟩] scope pos) C.env) σ Q := by
  subst he
  rw [eval_ListComp]
  refine ⟨fun s hs' => wpAny_comprehension_free (use := none) rfl hs hclos hkind hnames (T.step h hs' fun v σ₁ s₁ k₁ at₁ H_ => ?_)⟩
  obtain ⟨a, ha, σ₂, n, put, ok, names, locOf, p, d, hS, hN, hB, q⟩ := H_
  refine hS.iter v s₁ _ ha at₁ fun s₂ I fp wr St at₂ st hfp hwr hdr _ => ?_
  refine comp_block (RR := fun acc L => compPost (model C.prog C.w) C.A (fun _ _ => False) none _ acc L) at₂ st hfp hwr hdr hS.size hcell hkind hN hB ?_
  intro D Lc hbF as s' m k2 hD at' hLn hLL hLp hm hIs hrd
  refine ⟨m, hm, fun h' hsb => ⟨⟨hbF, σ₂.loc, σ₂.hp⟩, stays_trans k₁ (stays_trans hS.hb k2), ?_, .ref D, isR, q D hbF as k2 hD hIs hrd⟩⟩
  exact at'.but (tk := s'.toks) (wr := [Lc]) (fun b hb => by simp only [List.mem_singleton] at hb; subst hb; exact ⟨hLn, hLL, hLp⟩) fun b o hb e => (hsb.2 b (by simpa using hb)).trans e

theorem x_comp {elt target iter : Expr} {ifs : List Expr} {scope : Scope} {pos spos : Pos} {cl : List (Str × Addr)} {env' : Env} {y : Str} {py : Pos} {k : Kt} (he : C.env = env') (F : C.env.scope.kind = .function) (hy : env'.kindOf y = some .local)
    (hsw : swapsWith (.ListComp elt [⟨target, iter, ifs, 0⟩] scope pos) (some (.Name y py)) spos.line env' = pure true) (hclos : closureFor scope env' = pure cl) (hcell : ∀ y ∈ scope.names, y.2 ≠ .cell) (hkind : scope.kind = .function)
    (hnames : ∀ x ∈ scope.names, x.2 = .local → scope.names.lookup x.1 = some .local) (hs : ∀ x, foldedSetIterable iter env' x = pure x)
    (h : TV C (eval iter C.env) σ (fun a σ₁ => CompOn C target elt ifs scope cl (fun x σ' => Sto y k.next σ' (.ref x)) σ₁ a)) :
    TX C (exec (.Assign [.Name y py] (.ListComp elt [⟨target, iter, ifs, 0⟩] scope pos) spos) C.env) σ k := by
  subst he
  rw [exec_Assign_Name_used _ _ _ _ hsw]
  refine T.bind (T.standAt ⟨fun s hs' => wpAny_bind ?_⟩)
  show wpAny _ _ (do let _ ← comprehension (.ListComp elt [⟨target, iter, ifs, 0⟩] scope pos) scope C.env _ (newList []) false (eval iter C.env) (some (assign (.Name y py) C.env))) _ _ s
  refine wpAny_bind (wpAny_mono (wpAny_comprehension_free (use := some (assign (.Name y py) C.env)) (Q := fun _ s' => Post C σ k.run Flow.next s') rfl hs hclos hkind hnames
    (T.step h hs' fun v σ₁ s₁ k₁ at₁ H_ => ?_)) (fun _ s' hq => wpAny_pure (wpAny_pure hq)) fun _ _ e => e)
  obtain ⟨a, ha, σ₂, n, put, ok, names, locOf, p, d, hS, hN, hB, q⟩ := H_
  refine hS.iter v s₁ _ ha at₁ fun s₂ I fp wr St at₂ st hfp hwr hdr _ => ?_
  refine comp_block (RR := fun acc L => compPost (model C.prog C.w) C.A (fun _ _ => False) (some (assign (.Name y py) C.env)) _ acc L) at₂ st hfp hwr hdr hS.size hcell hkind hN hB ?_
  intro D Lc hbF as s' m k2 hD at' hLn hLL hLp hm hIs hrd
  obtain ⟨l', hput, hq⟩ := q D hbF as k2 hD hIs hrd
  show wpAny _ _ (assign (.Name y py) C.env (.ref D)) _ _ _
  refine T.stepI (fp := [Lc]) (St := fun h => ∃ m, h.Ns Lc m) (fun h h' ⟨m, hm⟩ hk => ⟨m, hm.at' fun o e => hk Lc (.head _) o e⟩) (fun b hb => by simp only [List.mem_singleton] at hb; subst hb; exact ⟨hLL, hLp⟩) at' ⟨m, hm⟩ fun hb' k3 _ => T.assignN F hy hput isR fun s'' k4 at'' ⟨m', hm'⟩ => ?_
  refine ⟨m', hm', fun h' hsb => ⟨⟨hbF, l', σ₂.hp⟩, stays_trans k₁ (stays_trans hS.hb k2), ?_, hq⟩⟩
  exact (at''.shrink k3 at'.wd).but (tk := s''.toks) (wr := [Lc]) (fun b hb => by simp only [List.mem_singleton] at hb; subst hb; exact ⟨hLn, hLL, hLp⟩) fun b o hb e => (hsb.2 b (by simpa using hb)).trans e

/-! ## Sources -/
theorem At.locals_lt {s : Shared} (hs : At C σ s) : C.env.locals < s.heap.objs.size := by
  obtain ⟨m, ⟨oL, _, _, hL, _⟩, _⟩ := hs.fr
  exact Heap.lt_size hL
theorem At.hp_lt {s : Shared} (hs : At C σ s) {b : Addr} (h : b ∈ σ.hp.map (·.1)) : b < s.heap.objs.size := by
  obtain ⟨⟨c, j⟩, hm, e0⟩ := List.mem_map.mp h
  have e0' : c = b := e0
  obtain ⟨⟨o', e', _⟩, _⟩ := hs.hp c j hm
  rw [← e0']; exact Heap.lt_size e'
theorem At.hb_lt {s : Shared} (hs : At C σ s) {b : Addr} {o : Obj} (h : σ.hb.get? b = some o) : b < s.heap.objs.size := Heap.lt_size (hs.hbget h)
theorem At.fresh {s : Shared} (hs : At C σ s) {b : Addr} (h : s.heap.objs.size ≤ b) : σ.hb.get? b = none ∧ b ≠ C.env.locals ∧ b ∉ σ.hp.map (·.1) := by
  refine ⟨?_, fun e => ?_, fun e => ?_⟩
  · cases q : σ.hb.get? b with
    | none => rfl
    | some o => exact absurd (hs.hb_lt q) (Nat.not_lt.mpr h)
  · exact absurd hs.locals_lt (Nat.not_lt.mpr (e ▸ h))
  · exact absurd (hs.hp_lt e) (Nat.not_lt.mpr h)
theorem Here.ne_locals {a : Addr} {k : Mk} {s : Shared} (h : Here σ a k) (hs : At C σ s) : a ≠ C.env.locals := by
  rcases h with h | ⟨o, e, _⟩
  · exact (hs.hp a k h).2.1
  · intro q; rw [q, hs.off] at e; cases e

theorem src_list {a : Addr} {as : List Av} {x : Str} {px : Pos} (h : Here σ a (.list as)) (hsz : as.length ≤ sizeLine) (hh : C.A.handled = none) :
    Source C σ σ (.ref a) (.Name x px) as.length (fun i l l' => Put x (as.getD i .none) l l') (fun C' => C'.env.scope.kind = .function ∧ C'.env.kindOf x = some .local) where
  hb := stays_refl _
  size := hsz
  iter := fun v s Q hv hs hQ => by
    have hv' : v = .ref a := hv
    subst hv'
    obtain ⟨vs, e1, e2⟩ := h.list hs
    have halt : a < s.heap.objs.size := by obtain ⟨o, ho, _⟩ := e1; exact Heap.lt_size ho
    have hne : a ≠ s.heap.objs.size := Nat.ne_of_lt halt
    have hlen : vs.toArray.size = as.length := by simp [Paired.len e2]
    refine wpAny_pyIter_list e1 ?_
    refine hQ _ s.heap.objs.size [s.heap.objs.size, a] [s.heap.objs.size] (fun i h => h.IsListIter s.heap.objs.size a i ∧ h.IsList a vs.toArray) (hs.kept (tk := s.toks) fun _ _ e => Heap.get?_push_of_some _ e)
      ⟨⟨_, Heap.get?_push_size _ rfl, rfl, rfl⟩, e1.push _⟩ ?_ (fun b hb => by simp only [List.mem_singleton] at hb; subst hb; exact hs.fresh (Nat.le_refl _)) (fun C' e1' e2' e3' ok => ?_) ?_
    · intro b hb
      rw [Heap.size_push]
      simp only [List.mem_cons, List.not_mem_nil, or_false] at hb
      rcases hb with rfl | rfl
      · exact Nat.lt_succ_self _
      · exact Nat.lt_succ_of_lt halt
    · have W := Walks.list (prog := C'.prog) (w := C'.w) (A := C'.A) (by rw [e3']; exact hh) s.heap.objs.size a hne vs.toArray
      rw [hlen] at W
      refine Dr.of_walks (fun i => as.getD i .none) W ok.1 ok.2 (fun i h st b hb => ?_) fun i v hi hv => ?_
      · simp only [List.mem_singleton] at hb
        subst hb
        obtain ⟨⟨o, ho, _⟩, _⟩ := st
        exact ⟨o, ho⟩
      · have hg : as[i]? = some as[i] := List.getElem?_eq_getElem hi
        obtain ⟨u, hu, hau⟩ := Paired.get e2 hg
        have : u = v := by
          have := hv
          simp only [List.getElem?_toArray] at this
          rw [hu] at this
          exact Option.some.inj this
        subst this
        rw [List.getD_eq_getElem?_getD, hg]
        exact hau
    · intro b hb
      simp only [List.mem_cons, List.not_mem_nil, or_false] at hb
      rcases hb with rfl | rfl
      · exact (hs.fresh (Nat.le_refl _)).2.1
      · exact h.ne_locals hs

theorem Put.nil_inv {x : Str} {a : Av} {l' : List (Str × Option Av)} (h : Put x a [] l') : False := by cases h
theorem Put.cons_inv {x : Str} {a : Av} {p : Str × Option Av} {r l' : List (Str × Option Av)} (h : Put x a (p :: r) l') : (p.1 = x ∧ l' = (x, some a) :: r) ∨ ∃ r', Put x a r r' ∧ l' = p :: r' := by
  cases h with
  | here => exact .inl ⟨rfl, rfl⟩
  | there h => exact .inr ⟨_, h, rfl⟩
theorem keys_one {x : Str} {loc : List (Str × Option Av)} (h : loc.map (·.1) = [x]) : ∃ u, loc = [(x, u)] := by
  obtain ⟨p, r, e, h1, h2⟩ := List.map_eq_cons_iff.mp h
  have h2 := List.map_eq_nil_iff.mp h2
  subst e h1 h2
  exact ⟨p.2, rfl⟩
theorem keys_two {x y : Str} {loc : List (Str × Option Av)} (h : loc.map (·.1) = [x, y]) : ∃ u v, loc = [(x, u), (y, v)] := by
  obtain ⟨p, r, e, h1, h2⟩ := List.map_eq_cons_iff.mp h
  obtain ⟨v, h2⟩ := keys_one h2
  subst e h1 h2
  exact ⟨p.2, v, rfl⟩
theorem names_one {x : Str} {n : Nat} {it : Nat → Av} : Names [x] n (fun i l l' => Put x (it i) l l') (fun i => [(x, some (it i))]) where
  putAt := fun i loc _ h => by
    obtain ⟨u, e⟩ := keys_one h
    subst e
    exact .here
  det := fun i loc loc' h hp => by
    obtain ⟨u, e⟩ := keys_one h
    subst e
    rcases hp.cons_inv with h | ⟨r', h, _⟩
    · exact h.2
    · exact h.nil_inv.elim
  ns := fun i => rfl
theorem names_two {x y : Str} {n : Nat} {i1 i2 : Nat → Av} (hne : x ≠ y) : Names [x, y] n (fun i l l' => ∃ l₁, Put x (i1 i) l l₁ ∧ Put y (i2 i) l₁ l') (fun i => [(x, some (i1 i)), (y, some (i2 i))]) where
  putAt := fun i loc _ h => by
    obtain ⟨u, v, e⟩ := keys_two h
    subst e
    exact ⟨_, .here, .there .here⟩
  det := fun i loc loc' h hp => by
    obtain ⟨u, v, e⟩ := keys_two h
    subst e
    obtain ⟨l₁, h1, h2⟩ := hp
    rcases h1.cons_inv with h | ⟨r', h, _⟩
    · have h := h.2
      subst h
      rcases h2.cons_inv with h | ⟨r', h, e⟩
      · exact absurd h.1 hne
      · subst e
        rcases h.cons_inv with h | ⟨r', h, _⟩
        · rw [h.2]
        · exact h.nil_inv.elim
    · rcases h.cons_inv with h | ⟨r', h, _⟩
      · exact absurd h.1.symm hne
      · exact h.nil_inv.elim
  ns := fun i => rfl

theorem ct_nil {ok : Bool → Sg → Prop} (q : ok true σ) : T C (ctests [] C.env) σ ok := ⟨fun s hs => wpAny_tests_nil ⟨σ, stays_refl _, hs, q⟩⟩
theorem ct_one {c : Expr} {b : Bool} {ok : Bool → Sg → Prop} (h : TT C c (eval c C.env) σ b) (q : ok b σ) : T C (ctests [c] C.env) σ ok := by
  refine ⟨fun s hs => wpAny_tests_one ?_⟩
  refine (T.mono h ?_).run s hs
  rintro _ _ _ ⟨rfl, rfl⟩
  exact q
end


/-! ## zip over any two sources -/
structure ZipFar (z TI TO i1 i2 : Addr) (fp1 fp2 : List Addr) : Prop where
  a : TI ≠ z
  b : TO ≠ z
  c : TI ≠ TO
  d : TI ≠ i1
  e : TI ≠ i2
  m1 : i1 ∈ fp1
  m2 : i2 ∈ fp2
  f1 : ∀ x ∈ fp1, x ≠ z ∧ x ≠ TO ∧ x ≠ i2
  f2 : ∀ x ∈ fp2, x ≠ z ∧ x ≠ TO ∧ x ≠ i1

noncomputable abbrev Rest (z TO i1 i2 : Addr) (h h' : Heap) : Prop := ∀ c o, c ≠ z → c ≠ TO → c ≠ i1 → c ≠ i2 → h.get? c = some o → h'.get? c = some o

section
variable {prog : Program} {w : World} {A : Around} {E : Value → Shared → Prop} {s : Shared} {z TI TO i1 i2 : Addr} {fp1 fp2 : List Addr} {n1 n2 : Nat} {P1 P2 : Nat → Value → Prop} {S1 S2 : Nat → Heap → Prop}

/-- one turn of zip over two sources -/
theorem zipD_item {i : Nat} {a b : Value} {Q : Value → Shared → Prop} (D1 : Draws prog w A i1 fp1 n1 P1 S1) (D2 : Draws prog w A i2 fp2 n2 P2 S2) (D : ZipFar z TI TO i1 i2 fp1 fp2) (h1 : i < n1) (h2 : i < n2)
    (hz : IsZip s.heap z TI TO .none) (hTI : IsPair s.heap TI (.ref i1) (.ref i2)) (hTO : IsPair s.heap TO a b) (s1 : S1 i s.heap) (s2 : S2 i s.heap)
    (hQ : ∀ x y h' T tk, P1 i x → P2 i y → s.heap.objs.size ≤ T → IsZip h' z TI TO (rawInt T) → IsPair h' TO x y → S1 (i + 1) h' → S2 (i + 1) h' → IsPair h' T x y → Rest z TO i1 i2 s.heap h' → Q (.ref T) { s with heap := h', toks := tk }) :
    wpAny (model prog w) A (Builtin.«zip.__next__» ⟨[.ref z], []⟩) (fun fin s' => ∃ v, fin = .done (.ret v) ∧ Q v s') E s := by
  have q1 := D.f1 i1 D.m1
  have q2 := D.f2 i2 D.m2
  refine wpAny_bind (m := field (.ref z) 2) (wpAny_field hz rfl (x := .bool false) rfl ?_)
  refine wpAny_bind (m := field (.ref z) 3) (wpAny_field hz rfl (x := .ref TI) rfl ?_)
  refine wpAny_bind (wpAny_seqItems hTI rfl ?_)
  refine wpAny_bind (m := Builtin.SmallTypes.ownedTupleIsFree (.ref z)) (wpAny_bind (wpAny_field hz rfl (x := .none) rfl (wpAny_pure ?_)))
  simp only [if_true]
  refine wpAny_bind (wpAny_rule (wpAny_bind (wpAny_field hz rfl (x := .ref TO) rfl (wpAny_bind (wpAny_setField_rec hz (by simp) fun g1 z1 k1 => ?_)))))
  replace z1 : IsZip g1 z TI TO .ellipsis := z1
  simp only [List.zipIdx_cons, List.zipIdx_nil, List.forIn_cons, List.forIn_nil]
  refine wpAny_bind (wpAny_bind (wpAny_bind (wpAny_onRaise (wpAny_bind (m := Builtin.SmallTypes.nextOf (.ref i1)) (D1.item i _ _ _ h1 (D1.frame _ _ _ s1 fun c hc o e => k1.extBut _ _ (D.f1 c hc).1 e) fun x g2 t2 px st1 k2 => wpAny_pure ?_)))))
  have o2 : IsPair g2 TO a b := k2.extBut _ _ (Ne.symm q1.2.1) (k1.extBut _ _ D.b hTO)
  refine wpAny_bind (wpAny_seqItems o2 rfl (wpAny_bind (wpAny_updateSeq_pair o2 fun g3 o3 k3 => wpAny_bind (wpAny_letGo (wpAny_pure ?_)))))
  replace o3 : IsPair g3 TO x b := o3
  refine wpAny_bind (wpAny_bind (wpAny_onRaise (wpAny_bind (m := Builtin.SmallTypes.nextOf (.ref i2)) (D2.item i _ _ _ h2 (D2.frame _ _ _ s2 fun c hc o e =>
    k3.extBut _ _ (D.f2 c hc).2.1 (k2.extBut _ _ (D.f2 c hc).2.2 (k1.extBut _ _ (D.f2 c hc).1 e))) fun y g4 t4 py st2 k4 => wpAny_pure ?_))))
  have o4 : IsPair g4 TO x b := k4.extBut _ _ (Ne.symm q2.2.1) o3
  refine wpAny_bind (wpAny_seqItems o4 rfl (wpAny_bind (wpAny_updateSeq_pair o4 fun g5 o5 k5 => wpAny_bind (wpAny_letGo (wpAny_pure (wpAny_pure ?_))))))
  replace o5 : IsPair g5 TO x y := o5
  refine wpAny_bind (wpAny_seqItems o5 rfl (wpAny_bind (wpAny_newTuple ?_)))
  have z5 : IsZip g5 z TI TO .ellipsis := k5.extBut _ _ (Ne.symm D.b) (k4.extBut _ _ (Ne.symm q2.1) (k3.extBut _ _ (Ne.symm D.b) (k2.extBut _ _ (Ne.symm q1.1) z1)))
  have sz : g5.objs.size = s.heap.objs.size := by rw [k5.1, k4.1, k3.1, k2.1, k1.1]
  refine wpAny_bind (m := Builtin.SmallTypes.ownedTupleHandOut (.ref z) (.ref g5.objs.size)) (wpAny_bind (wpAny_setField_rec (Heap.get?_push_of_some _ z5) (by simp) fun g7 z7 k7 => ?_))
  replace z7 : IsZip g7 z TI TO (rawInt g5.objs.size) := z7
  refine wpAny_setField_rec z7 (by simp) fun g8 z8 k8 => wpAny_pure ⟨_, rfl, ?_⟩
  have up : ∀ c o, c ≠ z → g5.get? c = some o → g8.get? c = some o := fun c o c1 e => k8.extBut _ _ c1 (k7.extBut _ _ c1 (Heap.get?_push_of_some _ e))
  have zl : z ≠ g5.objs.size := Nat.ne_of_lt (Heap.lt_size z5)
  refine hQ x y g8 g5.objs.size _ px py (by rw [sz]; exact Nat.le_refl _) z8 (up _ _ D.b o5) ?_ ?_ (k8.extBut _ _ (Ne.symm zl) (k7.extBut _ _ (Ne.symm zl) (Heap.get?_push_size _ rfl))) fun c o c1 c2 c3 c4 e =>
    up c o c1 (k5.extBut _ _ c2 (k4.extBut _ _ c4 (k3.extBut _ _ c2 (k2.extBut _ _ c3 (k1.extBut _ _ c1 e)))))
  · exact D1.frame _ _ _ st1 fun c hc o e => up c o (D.f1 c hc).1 (k5.extBut _ _ (D.f1 c hc).2.1 (k4.extBut _ _ (D.f1 c hc).2.2 (k3.extBut _ _ (D.f1 c hc).2.1 e)))
  · exact D2.frame _ _ _ st2 fun c hc o e => up c o (D.f2 c hc).1 (k5.extBut _ _ (D.f2 c hc).2.1 e)

theorem zipD_end {i : Nat} {a b : Value} {Q : PySem.Fin → Shared → Prop} (D1 : Draws prog w A i1 fp1 n1 P1 S1) (D2 : Draws prog w A i2 fp2 n2 P2 S2) (D : ZipFar z TI TO i1 i2 fp1 fp2) (hi : i = min n1 n2)
    (hz : IsZip s.heap z TI TO .none) (hTI : IsPair s.heap TI (.ref i1) (.ref i2)) (hTO : IsPair s.heap TO a b) (s1 : S1 i s.heap) (s2 : S2 i s.heap)
    (hE : ∀ h' e tk, Rest z TO i1 i2 s.heap h' → (∃ o, h'.get? e = some o ∧ o.cls = .type "StopIteration") → E (.ref e) { s with heap := h', toks := tk }) :
    wpAny (model prog w) A (Builtin.«zip.__next__» ⟨[.ref z], []⟩) Q E s := by
  have q1 := D.f1 i1 D.m1
  have q2 := D.f2 i2 D.m2
  refine wpAny_bind (m := field (.ref z) 2) (wpAny_field hz rfl (x := .bool false) rfl ?_)
  refine wpAny_bind (m := field (.ref z) 3) (wpAny_field hz rfl (x := .ref TI) rfl ?_)
  refine wpAny_bind (wpAny_seqItems hTI rfl ?_)
  refine wpAny_bind (m := Builtin.SmallTypes.ownedTupleIsFree (.ref z)) (wpAny_bind (wpAny_field hz rfl (x := .none) rfl (wpAny_pure ?_)))
  simp only [if_true]
  refine wpAny_bind (wpAny_rule (wpAny_bind (wpAny_field hz rfl (x := .ref TO) rfl (wpAny_bind (wpAny_setField_rec hz (by simp) fun g1 z1 k1 => ?_)))))
  replace z1 : IsZip g1 z TI TO .ellipsis := z1
  simp only [List.zipIdx_cons, List.zipIdx_nil, List.forIn_cons, List.forIn_nil]
  have st1 : S1 i g1 := D1.frame _ _ _ s1 fun c hc o e => k1.extBut _ _ (D.f1 c hc).1 e
  by_cases h1 : i = n1
  · subst h1
    refine wpAny_bind (wpAny_bind (wpAny_bind (wpAny_onRaise (wpAny_bind (m := Builtin.SmallTypes.nextOf (.ref i1)) (D1.done _ _ _ st1 fun g2 e k2 he => ?_)))))
    obtain ⟨oe, hoe, hce⟩ := he
    have z2 : IsZip g2 z TI TO .ellipsis := k2 _ _ (Ne.symm q1.1) z1
    have hez : e ≠ z := fun x => by subst x; rw [z2] at hoe; cases hoe; simp at hce
    exact wpAny_setField_rec z2 (by simp) fun g3 _ k3 => hE g3 e _ (fun c o c1 _ c3 _ x => k3.extBut _ _ c1 (k2 _ _ c3 (k1.extBut _ _ c1 x))) ⟨oe, k3.extBut _ _ hez hoe, hce⟩
  · have hn2 : i = n2 := by omega
    subst hn2
    refine wpAny_bind (wpAny_bind (wpAny_bind (wpAny_onRaise (wpAny_bind (m := Builtin.SmallTypes.nextOf (.ref i1)) (D1.item i _ _ _ (by omega) st1 fun x g2 t2 px st1' k2 => wpAny_pure ?_)))))
    have o2 : IsPair g2 TO a b := k2.extBut _ _ (Ne.symm q1.2.1) (k1.extBut _ _ D.b hTO)
    refine wpAny_bind (wpAny_seqItems o2 rfl (wpAny_bind (wpAny_updateSeq_pair o2 fun g3 o3 k3 => wpAny_bind (wpAny_letGo (wpAny_pure ?_)))))
    refine wpAny_bind (wpAny_bind (wpAny_onRaise (wpAny_bind (m := Builtin.SmallTypes.nextOf (.ref i2)) (D2.done _ _ _ (D2.frame _ _ _ s2 fun c hc o e =>
      k3.extBut _ _ (D.f2 c hc).2.1 (k2.extBut _ _ (D.f2 c hc).2.2 (k1.extBut _ _ (D.f2 c hc).1 e))) fun g4 e k4 he => ?_))))
    obtain ⟨oe, hoe, hce⟩ := he
    have z4 : IsZip g4 z TI TO .ellipsis := k4 _ _ (Ne.symm q2.1) (k3.extBut _ _ (Ne.symm D.b) (k2.extBut _ _ (Ne.symm q1.1) z1))
    have hez : e ≠ z := fun x => by subst x; rw [z4] at hoe; cases hoe; simp at hce
    exact wpAny_setField_rec z4 (by simp) fun g5 _ k5 => hE g5 e _ (fun c o c1 c2 c3 c4 x => k5.extBut _ _ c1 (k4 _ _ c4 (k3.extBut _ _ c2 (k2.extBut _ _ c3 (k1.extBut _ _ c1 x))))) ⟨oe, k5.extBut _ _ hez hoe, hce⟩
end

section
variable {prog : Program} {w : World} {A : Around} {z TI TO i1 i2 : Addr} {fp1 fp2 : List Addr} {n1 n2 : Nat} {P1 P2 : Nat → Value → Prop} {S1 S2 : Nat → Heap → Prop}

theorem walks_zip (hh : A.handled = none) (D1 : Draws prog w A.in1 i1 fp1 n1 P1 S1) (D2 : Draws prog w A.in1 i2 fp2 n2 P2 S2) (D : ZipFar z TI TO i1 i2 fp1 fp2) (l1 : ∀ i h, S1 i h → ∃ o, h.get? i1 = some o) (l2 : ∀ i h, S2 i h → ∃ o, h.get? i2 = some o) :
    WalksT prog w A z (z :: TI :: TO :: (fp1 ++ fp2)) [z, TO, i1, i2] (min n1 n2) (fun i vals => ∃ x y, P1 i x ∧ P2 i y ∧ vals = #[x, y])
      (fun i h => IsZip h z TI TO .none ∧ IsPair h TI (.ref i1) (.ref i2) ∧ (∃ a b, IsPair h TO a b) ∧ S1 i h ∧ S2 i h)
      (fun i T h => IsZip h z TI TO (rawInt T) ∧ IsPair h TI (.ref i1) (.ref i2) ∧ (∃ a b, IsPair h TO a b) ∧ S1 (i + 1) h ∧ S2 (i + 1) h ∧ T ≠ z ∧ T ≠ TO ∧ T ≠ i1 ∧ T ≠ i2) where
  sub := fun c hc => by
    have m1 := D.m1
    have m2 := D.m2
    simp only [List.mem_cons, List.not_mem_nil, or_false] at hc
    rcases hc with rfl | rfl | rfl | rfl <;> simp [*]
  frame := fun i h h' ⟨hz, hTI, ⟨a, b, hTO⟩, s1, s2⟩ hk =>
    ⟨hk z (by simp) _ hz, hk TI (by simp) _ hTI, ⟨a, b, hk TO (by simp) _ hTO⟩, D1.frame _ _ _ s1 fun c hc o e => hk c (by simp [hc]) o e, D2.frame _ _ _ s2 fun c hc o e => hk c (by simp [hc]) o e⟩
  item := fun i s Q E hi st hQ => by
    obtain ⟨hz, hTI, ⟨a, b, hTO⟩, s1, s2⟩ := st
    have hT : s.TypeIs (.ref z) "zip" := ⟨_, hz, rfl⟩
    unfold pyNext
    refine wpAny_bind (wpAny_attempt (wpAny_callSpecial?_slot (name := Str.ofString "__next__") hT PySem.F.slot_zip_next
      (wpAny_call_entry PySem.F.slot_zip_next hT PySem.F.entry_zip_next (zipD_item D1 D2 D (by omega) (by omega) hz hTI hTO s1 s2 fun x y h' T tk px py hge z' o' t1 t2 oT hk => ?_) (PySem.F.args_zip_next_1 _))))
    have lt : ∀ {c o}, s.heap.get? c = some o → T ≠ c := fun e => Nat.ne_of_gt (Nat.lt_of_lt_of_le (Heap.lt_size e) hge)
    obtain ⟨o1, e1⟩ := l1 _ _ s1
    obtain ⟨o2, e2⟩ := l2 _ _ s2
    refine wpAny_pure (hQ T #[x, y] h' tk ⟨x, y, px, py, rfl⟩ hge ⟨_, oT, rfl, _, rfl⟩ ⟨z', hk _ _ D.a D.c D.d D.e hTI, ⟨_, _, o'⟩, t1, t2, lt hz, lt hTO, lt e1, lt e2⟩ fun c o hc e => ?_)
    simp only [List.mem_cons, List.not_mem_nil, or_false, not_or] at hc
    exact hk c o hc.1 hc.2.1 hc.2.2.1 hc.2.2.2 e
  go := fun elts k pos i T s Q E ⟨hz, hTI, ⟨a, b, hTO⟩, s1, s2, _⟩ hQ => by
    refine wpAny_letOwnedTupleGo_zip hz fun h' hz' hs' => hQ h' ⟨hz', hs'.extBut _ _ D.a hTI, ⟨a, b, hs'.extBut _ _ D.b hTO⟩, D1.frame _ _ _ s1 fun c hc o e => hs'.extBut _ _ (D.f1 c hc).1 e, D2.frame _ _ _ s2 fun c hc o e => hs'.extBut _ _ (D.f2 c hc).1 e⟩
      fun c o hc e => hs'.extBut _ _ (fun x => hc (by simp [x])) e
  apart := fun i T h ⟨_, _, _, _, _, t1, t2, t3, t4⟩ hT => by
    simp only [List.mem_cons, List.not_mem_nil, or_false] at hT
    rcases hT with h | h | h | h
    · exact t1 h
    · exact t2 h
    · exact t3 h
    · exact t4 h
  done := fun s Q E ⟨hz, hTI, ⟨a, b, hTO⟩, s1, s2⟩ hQ => by
    have hT : s.TypeIs (.ref z) "zip" := ⟨_, hz, rfl⟩
    unfold pyNext
    refine wpAny_bind (wpAny_attempt (wpAny_callSpecial?_slot (name := Str.ofString "__next__") hT PySem.F.slot_zip_next
      (wpAny_call_entry PySem.F.slot_zip_next hT PySem.F.entry_zip_next (zipD_end D1 D2 D rfl hz hTI hTO s1 s2 fun h' e tk hk he => ?_) (PySem.F.args_zip_next_1 _))))
    obtain ⟨o, ho, hc⟩ := he
    refine wpAny_bind (wpAny_isInstance (T := "StopIteration") (b := true) ⟨o, ho, hc⟩ isSubtype_stop (wpAny_pure (hQ _ _ fun c o hc e => ?_)))
    simp only [List.mem_cons, List.not_mem_nil, or_false, not_or] at hc
    exact hk c o hc.1 hc.2.1 hc.2.2.1 hc.2.2.2 e
  self := fun i s Q E st hQ => wpAny_pyIter_zip st.1 hQ
end

noncomputable def liO (l : Addr) : Obj := { cls := .type "list_iterator", data := .fields #[.ref l, .int 0 0] }
noncomputable def siO (x : Str) (t : Tok) : Obj := { cls := .type (strIterType x), data := .fields #[.str x t, .int 0 0] }
noncomputable def enO (it : Addr) : Obj := { cls := .type "enumerate", dict := none, data := .fields #[.none, .bool false, .ref it, rawInt 0, .none, .none], slots := #[] }
noncomputable def prO (a b : Value) : Obj := { cls := .type "tuple", data := .seq #[a, b] }
noncomputable def zpO (TI TO : Addr) : Obj := { cls := .type "zip", dict := none, data := .fields #[.none, .bool false, .bool false, .ref TI, .ref TO], slots := #[] }

theorem draws_str {prog : Program} {w : World} {A : Around} (hh : A.handled = none) (it : Addr) (x : Str) (t : Tok) :
    Draws prog w A it [it] x.cps.size (fun i v => ∃ c u, x.cps[i]? = some c ∧ v = .str ⟨#[c]⟩ u) (fun i h => h.IsStrIter it (strIterType x) x t i) := by
  unfold strIterType
  cases x.cps.all (· < 128)
  · exact Draws.strWide hh it x t
  · exact Draws.strAscii hh it x t

noncomputable abbrev zS1 (h : Heap) (l1 : Addr) : Heap := h.push (liO l1)
noncomputable abbrev zS2 (h : Heap) (l1 : Addr) (x : Str) (t : Tok) : Heap := (zS1 h l1).push (siO x t)
noncomputable abbrev zS3 (h : Heap) (l1 : Addr) (x : Str) (t : Tok) : Heap := (zS2 h l1 x t).push (prO (.ref h.objs.size) (.ref (zS1 h l1).objs.size))
noncomputable abbrev zS4 (h : Heap) (l1 : Addr) (x : Str) (t : Tok) : Heap := (zS3 h l1 x t).push (prO .none .none)
noncomputable abbrev zS5 (h : Heap) (l1 : Addr) (x : Str) (t : Tok) : Heap := (zS4 h l1 x t).push (zpO (zS2 h l1 x t).objs.size (zS3 h l1 x t).objs.size)

set_option maxHeartbeats 4000000 in
theorem meets_zip_ls (l1 : Addr) (xs : Array Value) (x : Str) (t : Tok) :
    Meets (Builtin.«zip.__new__» ⟨[.type "zip", .ref l1, .str x t], []⟩) (fun _ R s => s.heap.IsList l1 xs ∧ R (.ok (.ret (.ref (zS4 s.heap l1 x t).objs.size))) { s with heap := zS5 s.heap l1 x t }) :=
  .of_wp fun prog w A R s h => by
    obtain ⟨hp, g, d, tk, os⟩ := s; obtain ⟨hl1, h⟩ := h
    have hsub := sub_zip
    have hL1 : Heap.IsList (Shared.heap ⟨hp, g, d, tk, os⟩) l1 xs := hl1
    wp_walk using wpAny_pyIter_list hL1, wpAny_pyIter_strU
    exact ⟨_, rfl, h⟩



section
variable {C : Cx} {σ : Sg}
theorem bc_zip {l : Addr} {as : List Av} {x : Str} {Q : Av → Sg → Prop} (h : Here σ l (.list as))
    (q : ∀ z TO TI i2 i1 t, Q (.ref z) ⟨σ.hb, σ.loc, (z, .any (zpO TI TO)) :: (TO, .any (prO .none .none)) :: (TI, .any (prO (.ref i1) (.ref i2))) :: (i2, .any (siO x t)) :: (i1, .any (liO l)) :: σ.hp⟩) : CC C (.type "zip") [.ref l, .str x] σ Q := by
  intro vs hvs
  obtain ⟨v, u, rfl, e, t, rfl⟩ := Avs.two hvs
  have e' : v = .ref l := e
  subst e'
  refine ⟨fun s hs => ?_⟩
  obtain ⟨us, e1, e2⟩ := h.list hs
  have up : ∀ (h : Heap) (o : Obj) b o', h.get? b = some o' → (h.push o).get? b = some o' := fun h o b o' e => Heap.get?_push_of_some _ e
  refine callType_new PySem.F.called_zip (by decide) (PySem.F.typeCall_zip_2 _ _) (PySem.F.newCall_zip_2 _ _) (fun obj => PySem.F.args_object_init_3 obj _ _) PySem.F.entry_zip_new (meets_zip_ls l us.toArray x t) ⟨e1, ?_⟩
  have a1 := hs.new (tk := s.toks) (a := s.heap.objs.size) (k := .any (liO l)) (o := liO l) (fresh_none _ (Nat.le_refl _)) (up _ _) (Heap.get?_push_size _ rfl) ⟨rfl, rfl⟩
  have a2 := a1.new (tk := s.toks) (a := (zS1 s.heap l).objs.size) (k := .any (siO x t)) (o := siO x t) (fresh_none _ (Nat.le_refl _)) (up _ _) (Heap.get?_push_size _ rfl) ⟨rfl, rfl⟩
  have a3 := a2.new (tk := s.toks) (a := (zS2 s.heap l x t).objs.size) (k := .any (prO (.ref s.heap.objs.size) (.ref (zS1 s.heap l).objs.size))) (o := prO (.ref s.heap.objs.size) (.ref (zS1 s.heap l).objs.size)) (fresh_none _ (Nat.le_refl _)) (up _ _) (Heap.get?_push_size _ rfl) ⟨rfl, rfl⟩
  have a4 := a3.new (tk := s.toks) (a := (zS3 s.heap l x t).objs.size) (k := .any (prO .none .none)) (o := prO .none .none) (fresh_none _ (Nat.le_refl _)) (up _ _) (Heap.get?_push_size _ rfl) ⟨rfl, rfl⟩
  have a5 := a4.new (tk := s.toks) (a := (zS4 s.heap l x t).objs.size) (k := .any (zpO (zS2 s.heap l x t).objs.size (zS3 s.heap l x t).objs.size)) (o := zpO (zS2 s.heap l x t).objs.size (zS3 s.heap l x t).objs.size) (fresh_none _ (Nat.le_refl _)) (up _ _) (Heap.get?_push_size _ rfl) ⟨rfl, rfl⟩
  refine ⟨⟨_, Heap.get?_push_size _ rfl, rfl⟩, ?_⟩
  have qq := q (zS4 s.heap l x t).objs.size (zS3 s.heap l x t).objs.size (zS2 s.heap l x t).objs.size (zS1 s.heap l).objs.size s.heap.objs.size t
  refine ⟨_, ?_, a5, .ref (zS4 s.heap l x t).objs.size, isR, qq⟩
  exact stays_refl _

theorem an {P : Addr → Prop} : ∀ c ∈ ([] : List Addr), P c := fun _ h => nomatch h
theorem ac {P : Addr → Prop} {a : Addr} {l : List Addr} (h : P a) (t : ∀ c ∈ l, P c) : ∀ c ∈ a :: l, P c := List.forall_mem_cons.mpr ⟨h, t⟩
theorem src_zip {hb : Heap} {loc hp} {l z TO TI i2 i1 : Addr} {as : List Av} {y : List Nat} {t : Tok} {a b : Str} {pa pb tp : Pos} {tk : Nat} (h : Is hb l (.list as)) (hsz : as.length ≤ sizeLine) (hh : C.A.handled = none) :
    Source C ⟨hb, loc, (z, .any (zpO TI TO)) :: (TO, .any (prO .none .none)) :: (TI, .any (prO (.ref i1) (.ref i2))) :: (i2, .any (siO (S y) t)) :: (i1, .any (liO l)) :: hp⟩ ⟨hb, loc, hp⟩ (.ref z) (.Tuple [.Name a pa, .Name b pb] tk tp) (min as.length y.length)
      (fun i l l' => ∃ l₁, Put a (as.getD i .none) l l₁ ∧ Put b (.str (S [y.getD i 0])) l₁ l') (fun C' => C'.env.scope.kind = .function ∧ C'.env.kindOf a = some .local ∧ C'.env.kindOf b = some .local) where
  hb := stays_refl _
  size := Nat.le_trans (Nat.min_le_left ..) hsz
  iter := fun v s Q hv hs hQ => by
    have hv' : v = .ref z := hv
    subst hv'
    obtain ⟨⟨oz, gz, ez, _⟩, nz, bz⟩ := hs.hp z _ (.head _)
    obtain ⟨⟨oO, gO, eO, _⟩, nO, bO⟩ := hs.hp TO _ (.tail _ (.head _))
    obtain ⟨⟨oI, gI, eI, _⟩, nI, bI⟩ := hs.hp TI _ (.tail _ (.tail _ (.head _)))
    obtain ⟨⟨o2, g2, e2, _⟩, n2, b2⟩ := hs.hp i2 _ (.tail _ (.tail _ (.tail _ (.head _))))
    obtain ⟨⟨o1, g1, e1, _⟩, n1, b1⟩ := hs.hp i1 _ (.tail _ (.tail _ (.tail _ (.tail _ (.head _)))))
    subst ez eO eI e2 e1
    obtain ⟨ol, gl, us, nn, el, eus⟩ := h
    subst el
    have gl' := hs.hbget gl
    have hnd := hs.hnd
    simp only [List.map_cons, List.nodup_cons, List.mem_cons, not_or] at hnd
    obtain ⟨⟨zO, zI, z2, z1, zp⟩, ⟨OI, O2, O1, Op⟩, ⟨I2, I1, Ip⟩, ⟨n21, p2⟩, p1, _⟩ := hnd
    have nl : ∀ {c}, hb.get? c = none → l ≠ c := fun e q => by subst q; rw [gl] at e; cases e
    have hll : hb.get? l = some _ := gl
    have nloc : l ≠ C.env.locals := fun q => by
      have := hs.off
      rw [← q] at this
      rw [show hb.get? l = none from this] at gl; cases gl
    have at₂ := ((((hs.drop .here).drop .here).drop .here).drop .here).drop .here
    refine wpAny_pyIter_zip gz ?_
    have S1 : s.heap.IsListIter i1 l 0 ∧ s.heap.IsList l us.toArray := ⟨⟨_, g1, rfl, rfl⟩, ⟨_, gl', rfl, _, rfl⟩⟩
    have S2 : s.heap.IsStrIter i2 (strIterType (S y)) (S y) t 0 := ⟨_, g2, rfl, rfl⟩
    have F : ZipFar z TI TO i1 i2 [i1, l] [i2] := by
      refine ⟨Ne.symm zI, Ne.symm zO, Ne.symm OI, I1, I2, by simp, by simp, ?_, ?_⟩
      · exact ac ⟨Ne.symm z1, Ne.symm O1, Ne.symm n21⟩ (ac ⟨nl bz, nl bO, nl b2⟩ an)
      · exact ac ⟨Ne.symm z2, Ne.symm O2, n21⟩ an
    have hlen : us.toArray.size = as.length := by simp [Paired.len eus]
    have hlen2 : (S y).cps.size = y.length := by simp
    refine hQ s z (z :: TI :: TO :: ([i1, l] ++ [i2])) [z, TO, i1, i2] (fun i h => IsZip h z TI TO .none ∧ IsPair h TI (.ref i1) (.ref i2) ∧ (∃ a b, IsPair h TO a b) ∧ (h.IsListIter i1 l i ∧ h.IsList l us.toArray) ∧ h.IsStrIter i2 (strIterType (S y)) (S y) t i) at₂ ⟨gz, gI, ⟨_, _, gO⟩, S1, S2⟩ ?_ ?_ (fun C' e1' e2' e3' ok => ?_) ?_
    · exact ac (Heap.lt_size gz) (ac (Heap.lt_size gI) (ac (Heap.lt_size gO) (ac (Heap.lt_size g1) (ac (Heap.lt_size gl') (ac (Heap.lt_size g2) an)))))
    · exact ac ⟨bz, nz, zp⟩ (ac ⟨bO, nO, Op⟩ (ac ⟨b1, n1, p1⟩ (ac ⟨b2, n2, p2⟩ an)))
    · have hh' : C'.A.handled = none := by rw [e3']; exact hh
      have W := walks_zip (prog := C'.prog) (w := C'.w) (A := C'.A) hh' (Draws.list (A := C'.A.in1) hh' i1 l (nl b1) us.toArray) (draws_str (A := C'.A.in1) hh' i2 (S y) t) F (fun i h st => let ⟨o, ho, _⟩ := st.1; ⟨o, ho⟩) (fun i h st => let ⟨o, ho, _⟩ := st; ⟨o, ho⟩)
      rw [hlen, hlen2] at W
      refine Dr.of_walksT (fun i => as.getD i .none) (fun i => .str (S [y.getD i 0])) W hh' ok.1 ok.2.1 ok.2.2 (fun i h st => ?_) fun i vals hi hv => ?_
      · obtain ⟨wz, _, ⟨_, _, wO⟩, ⟨⟨o, ho, _⟩, _⟩, ⟨o', ho', _⟩⟩ := st
        exact ac ⟨_, wz⟩ (ac ⟨_, wO⟩ (ac ⟨o, ho⟩ (ac ⟨o', ho'⟩ an)))
      · obtain ⟨u, v, hu, ⟨c, tc, hc, rfl⟩, rfl⟩ := hv
        refine ⟨_, _, rfl, ?_, tc, ?_⟩
        · have hg : as[i]? = some as[i] := List.getElem?_eq_getElem (by omega)
          obtain ⟨u', hu', hau⟩ := Paired.get eus hg
          have : u' = u := by
            simp only [List.getElem?_toArray] at hu
            rw [hu'] at hu
            exact Option.some.inj hu
          subst this
          rw [List.getD_eq_getElem?_getD, hg]
          exact hau
        · have hc' : y[i]? = some c := by simpa using hc
          rw [List.getD_eq_getElem?_getD, hc']
          rfl
    · exact ac nz (ac nI (ac nO (ac n1 (ac nloc (ac n2 an)))))

theorem bc_enum {l : Addr} {as : List Av} {Q : Av → Sg → Prop} (h : Here σ l (.list as))
    (q : ∀ e it oi, (∀ h : Heap, h.get? it = some oi → h.IsListIter it l 0) → Q (.ref e) ⟨σ.hb, σ.loc, (e, .any (enO it)) :: (it, .any oi) :: σ.hp⟩) : CC C (.type "enumerate") [.ref l] σ Q := by
  intro vs hvs
  obtain ⟨v, rfl, e⟩ := Avs.one hvs
  have e' : v = .ref l := e
  subst e'
  refine ⟨fun s hs => ?_⟩
  obtain ⟨us, e1, e2⟩ := h.list hs
  refine call_enumerate_list e1 fun h' hE hI hz hk => ?_
  obtain ⟨oi, gi, ci, di⟩ := hI
  have hf0 : s.heap.get? s.heap.objs.size = none := fresh_none _ (Nat.le_refl _)
  have hf1 : s.heap.get? (s.heap.objs.size + 1) = none := fresh_none _ (Nat.le_succ _)
  have oif : oi.isFreed = false := by
    obtain ⟨c, dd, dat, sl⟩ := oi
    simp only at di
    subst di
    rfl
  have a1 := hs.new (tk := s.toks) (h' := h') (a := s.heap.objs.size) (k := .any oi) (o := oi) hf0 hk gi ⟨rfl, oif⟩
  have fr := hs.fresh (b := s.heap.objs.size + 1) (Nat.le_succ _)
  have a2 : At C ⟨σ.hb, σ.loc, (s.heap.objs.size + 1, .any (enO s.heap.objs.size)) :: (s.heap.objs.size, .any oi) :: σ.hp⟩ { s with heap := h' } := by
    refine ⟨a1.fr, a1.keep, a1.off, a1.nd, fun c j hm => ?_, ?_, a1.wd, a1.gens, a1.os⟩
    · rcases List.mem_cons.mp hm with q | hm
      · cases q; exact ⟨⟨_, hE, rfl, rfl⟩, fr.2.1, fr.1⟩
      · exact a1.hp c j hm
    · refine List.nodup_cons.mpr ⟨?_, a1.hnd⟩
      simp only [List.map_cons, List.mem_cons, not_or]
      exact ⟨Nat.succ_ne_self _, fr.2.2⟩
  refine ⟨_, ?_, a2, _, isR, q _ _ oi fun h g => ⟨oi, g, ci, di⟩⟩
  exact stays_refl _

theorem src_enum {hb : Heap} {loc hp} {l e it : Addr} {oi : Obj} {as : List Av} {a b : Str} {pa pb tp : Pos} {tk : Nat} (h : Is hb l (.list as)) (hsz : as.length ≤ sizeLine) (hh : C.A.handled = none) (hit : ∀ h : Heap, h.get? it = some oi → h.IsListIter it l 0) :
    Source C ⟨hb, loc, (e, .any (enO it)) :: (it, .any oi) :: hp⟩ ⟨hb, loc, hp⟩ (.ref e) (.Tuple [.Name a pa, .Name b pb] tk tp) as.length
      (fun i l l' => ∃ l₁, Put a (.int i) l l₁ ∧ Put b (as.getD i .none) l₁ l') (fun C' => C'.env.scope.kind = .function ∧ C'.env.kindOf a = some .local ∧ C'.env.kindOf b = some .local) where
  hb := stays_refl _
  size := hsz
  iter := fun v s Q hv hs hQ => by
    have hv' : v = .ref e := hv
    subst hv'
    obtain ⟨⟨oe, ge, ee, _⟩, ne, be⟩ := hs.hp e _ (.head _)
    obtain ⟨⟨o1, gi, ei, _⟩, ni, bi⟩ := hs.hp it _ (.tail _ (.head _))
    subst ee ei
    obtain ⟨ol, gl, us, nn, el, eus⟩ := h
    subst el
    have gl' := hs.hbget gl
    have hnd := hs.hnd
    simp only [List.map_cons, List.nodup_cons, List.mem_cons, not_or] at hnd
    obtain ⟨⟨ei, ep⟩, ip, _⟩ := hnd
    have nl : ∀ {c}, hb.get? c = none → l ≠ c := fun e q => by subst q; rw [gl] at e; cases e
    have nloc : l ≠ C.env.locals := fun q => by
      have := hs.off
      rw [← q] at this
      rw [show hb.get? l = none from this] at gl; cases gl
    have at₂ := (hs.drop .here).drop .here
    have hlen : us.toArray.size = as.length := by simp [Paired.len eus]
    refine wpAny_pyIter_enum (it := it) (i := 0) (old := .none) ge ?_
    refine hQ s e [e, it, l] [e, it] (fun i h => (∃ old, IsEnum h e it i old) ∧ h.IsListIter it l i ∧ h.IsList l us.toArray) at₂ ⟨⟨.none, ge⟩, hit _ gi, ⟨_, gl', rfl, _, rfl⟩⟩ ?_ ?_ (fun C' e1' e2' e3' ok => ?_) ?_
    · intro c hc
      simp only [List.mem_cons, List.not_mem_nil, or_false] at hc
      rcases hc with rfl | rfl | rfl
      · exact Heap.lt_size ge
      · exact Heap.lt_size gi
      · exact Heap.lt_size gl'
    · intro c hc
      simp only [List.mem_cons, List.not_mem_nil, or_false] at hc
      rcases hc with rfl | rfl
      · exact ⟨be, ne, ep⟩
      · exact ⟨bi, ni, ip⟩
    · have hh' : C'.A.handled = none := by rw [e3']; exact hh
      have W := WalksT.enumerate (prog := C'.prog) (w := C'.w) (A := C'.A) hh' e it l ei (nl be) (nl bi) us.toArray
      rw [hlen] at W
      refine Dr.of_walksT (fun i => .int i) (fun i => as.getD i .none) W hh' ok.1 ok.2.1 ok.2.2 (fun i h st c hc => ?_) fun i vals hi hv => ?_
      · obtain ⟨⟨_, we⟩, ⟨o, ho, _⟩, _⟩ := st
        simp only [List.mem_cons, List.not_mem_nil, or_false] at hc
        rcases hc with rfl | rfl
        · exact ⟨_, we⟩
        · exact ⟨o, ho⟩
      · obtain ⟨tc, x, hx, rfl⟩ := hv
        refine ⟨_, _, rfl, ⟨tc, rfl⟩, ?_⟩
        have hg : as[i]? = some as[i] := List.getElem?_eq_getElem (by omega)
        obtain ⟨u', hu', hau⟩ := Paired.get eus hg
        have : u' = x := by
          simp only [List.getElem?_toArray] at hx
          rw [hu'] at hx
          exact Option.some.inj hx
        subst this
        rw [List.getD_eq_getElem?_getD, hg]
        exact hau
    · intro c hc
      simp only [List.mem_cons, List.not_mem_nil, or_false] at hc
      rcases hc with rfl | rfl | rfl
      · exact ne
      · exact ni
      · exact nloc
end


/-- an iterable whose iterator is one object -/
structure Src1 (C : Cx) (σ : Sg) (a : Av) (n : Nat) (item : Nat → Av) : Prop where
  iter : ∀ v (s : Shared) (Q : Value → Shared → Prop), Av.is a v → At C σ s →
    (∀ s₂ I o0 (Si : Nat → Obj → Prop), s.heap.get? I = none → s₂.gens = s.gens → s₂.os = s.os → s.heap.StaysIn s₂.heap → s₂.heap.get? I = some o0 → Si 0 o0 → (∀ i o, Si i o → o.isFreed = false) →
      (∀ i (s' : Shared), i < n → σ.hb.StaysIn s'.heap → (∃ o, s'.heap.get? I = some o ∧ Si i o) → ∀ (Q : Option Value → Shared → Prop) E,
        (∀ v h' tk o', Av.is (item i) v → h'.get? I = some o' → Si (i + 1) o' → (∀ b o, b ≠ I → s'.heap.get? b = some o → h'.get? b = some o) → Q (some v) { s' with heap := h', toks := tk }) → wpAny (model C.prog C.w) C.A (pyNext (.ref I)) Q E s') →
      (∀ (s' : Shared), σ.hb.StaysIn s'.heap → (∃ o, s'.heap.get? I = some o ∧ Si n o) → ∀ (Q : Option Value → Shared → Prop) E,
        (∀ h' tk, (∀ b o, b ≠ I → s'.heap.get? b = some o → h'.get? b = some o) → Q none { s' with heap := h', toks := tk }) → wpAny (model C.prog C.w) C.A (pyNext (.ref I)) Q E s') → Q (.ref I) s₂) →
    wpAny (model C.prog C.w) C.A (pyIter v) Q (fun _ _ => False) s

section
variable {C : Cx} {σ : Sg}

theorem At.cons {hb : Heap} {loc hp} {s : Shared} {I : Addr} {k : Mk} {o : Obj} (x : At C ⟨hb, loc, hp⟩ s) (e : s.heap.get? I = some o) (hk : k.is o) (h1 : I ≠ C.env.locals) (h2 : hb.get? I = none) (h3 : I ∉ hp.map (·.1)) : At C ⟨hb, loc, (I, k) :: hp⟩ s where
  fr := x.fr
  keep := x.keep
  off := x.off
  nd := x.nd
  hp := fun a j hm => by
    rcases List.mem_cons.mp hm with q | hm
    · cases q; exact ⟨⟨o, e, hk⟩, h1, h2⟩
    · exact x.hp a j hm
  hnd := List.nodup_cons.mpr ⟨h3, x.hnd⟩
  wd := x.wd
  gens := x.gens
  os := x.os

/-- a turn is over: what the iterator holds is let go -/
inductive Turned (it : Addr) (oi : Obj) (P : Sg → Prop) (σ' : Sg) : Prop
  | mk (hb' : Heap) (loc'' : List (Str × Option Av)) (hp' : List (Addr × Mk)) (e : σ' = ⟨hb', loc'', (it, .any oi) :: hp'⟩) (q : P ⟨hb', loc'', hp'⟩) : Turned it oi P σ'
noncomputable abbrev turnK (it : Addr) (oi : Obj) (P : Sg → Prop) (k : Kt) : Kt := { next := Turned it oi P, cont := Turned it oi P, brk := Turned it oi k.next, ret := k.ret }
inductive ForOn (C : Cx) (x : Str) (body orelse : List Stmt) (k : Kt) (σ₁ : Sg) (a : Av) : Prop
  | mk (n : Nat) (item : Nat → Av) (S : Src1 C σ₁ a n item) (Inv : Nat → Sg → Prop) (i0 : Inv 0 σ₁)
    (turn : ∀ i it oi hb loc hp, i < n → σ₁.hb.StaysIn hb → Inv i ⟨hb, loc, hp⟩ → ∃ loc', Put x (item i) loc loc' ∧ TX C (execs body C.env) ⟨hb, loc', (it, .any oi) :: hp⟩ (turnK it oi (Inv (i + 1)) k))
    (fin : ∀ hb loc hp, σ₁.hb.StaysIn hb → Inv n ⟨hb, loc, hp⟩ → TX C (execs orelse C.env) ⟨hb, loc, hp⟩ k) : ForOn C x body orelse k σ₁ a
inductive ForI (C : Cx) (I : Addr) (n : Nat) (hb0 : Heap) (Si : Nat → Obj → Prop) (Inv : Nat → Sg → Prop) (m : Nat) (s' : Shared) : Prop
  | mk (i : Nat) (hb : Heap) (loc : List (Str × Option Av)) (hp : List (Addr × Mk)) (oi : Obj) (em : m = n + 1 - i) (hi : i ≤ n) (hk : hb0.StaysIn hb) (hat : At C ⟨hb, loc, (I, .any oi) :: hp⟩ s') (hS : Si i oi) (hInv : Inv i ⟨hb, loc, hp⟩) : ForI C I n hb0 Si Inv m s'
theorem x_for {x : Str} {px : Pos} {iter : Expr} {body orelse : List Stmt} {pos : Pos} {k : Kt} (F : C.env.scope.kind = .function) (hkx : C.env.kindOf x = some .local) (hs : ∀ v, foldedSetIterable iter C.env v = pure v)
    (h : TV C (eval iter C.env) σ (fun a σ₁ => ForOn C x body orelse k σ₁ a)) :
    TX C (exec (.For (.Name x px) iter body orelse pos) C.env) σ k := by
  refine ⟨fun s hs' => wpAny_For (T.step h hs' fun v σ₁ s₁ k₁ at₁ H_ => ?_) hs⟩
  obtain ⟨a, ha, n, item, S, Inv, i0, turn, fin⟩ := H_
  refine S.iter v s₁ _ ha at₁ fun s₂ I o0 Si hI hg ho hk hI2 hS0 hfr next done => ?_
  have fI : σ₁.hb.get? I = none ∧ I ≠ C.env.locals ∧ I ∉ σ₁.hp.map (·.1) := by
    refine ⟨?_, fun e => ?_, fun e => ?_⟩
    · cases q : σ₁.hb.get? I with
      | none => rfl
      | some o => have := at₁.hbget q; rw [hI] at this; cases this
    · obtain ⟨m, ⟨oL, _, _, hL, _⟩, _⟩ := at₁.fr
      rw [← e, hI] at hL; cases hL
    · obtain ⟨⟨c, j⟩, hm, e0⟩ := List.mem_map.mp e
      obtain ⟨⟨o', e', _⟩, _⟩ := at₁.hp c j hm
      have e0' : c = I := e0
      rw [e0', hI] at e'; cases e'
  have at₂ : At C σ₁ s₂ := at₁.after hk hg ho
  refine codeAny_forLoop_any (ForI C I n σ₁.hb Si Inv) ?_ (n + 1)
    ⟨0, σ₁.hb, σ₁.loc, σ₁.hp, o0, rfl, Nat.zero_le _, stays_refl _, At.cons at₂ hI2 ⟨rfl, hfr _ _ hS0⟩ fI.2.1 fI.1 fI.2.2, hS0, i0⟩
  rintro m s' ⟨i, hb, loc, hp, oi, rfl, hi, hkb, hat, hSi, hInv⟩
  obtain ⟨⟨o', g1, g2, _⟩, g3, g4⟩ := hat.hp I _ (.head _)
  subst g2
  have hnp : I ∉ hp.map (·.1) := (List.nodup_cons.mp hat.hnd).1
  have drp := hat.drop .here
  have apart : Apart C hb hp [I] := fun b hb => by simp only [List.mem_singleton] at hb; subst hb; exact ⟨g4, g3, hnp⟩
  by_cases hin : i = n
  · subst hin
    refine done s' (stays_trans hkb hat.keep) ⟨_, g1, hSi⟩ _ _ fun h' tk hk' => ?_
    have at3 := drp.but (tk := tk) apart fun b o hb e => hk' b o (by simpa using hb) e
    exact (fin hb loc hp hkb hInv).step at3 fun f σ' s₄ k₄ at₄ r => ⟨σ', stays_trans k₁ (stays_trans hkb k₄), at₄, r⟩
  · refine next i s' (by omega) (stays_trans hkb hat.keep) ⟨_, g1, hSi⟩ _ _ fun v h' tk o' hv hI' hS' hk' => ?_
    show wpAny _ _ (letOwnedTupleGo (.Name x px) (.ref I) v) _ _ _
    refine wpAny_of_eq (a := ()) rfl ?_
    have at3 := At.cons (drp.but (tk := tk) apart fun b o hb e => hk' b o (by simpa using hb) e) hI' (k := .any o') ⟨rfl, hfr _ _ hS'⟩ g3 g4 hnp
    obtain ⟨loc', hput, hbody⟩ := turn i I o' hb loc hp (by omega) hkb hInv
    refine T.step (T.assignN (Q := fun _ σ' => σ' = ⟨hb, loc', (I, .any o') :: hp⟩) F hkx hput hv rfl) at3 fun _ σ' s₃ _ at₃ e => ?_
    subst e
    refine hbody.step at₃ fun f σ' s₄ k₄ at₄ r => ?_
    cases f with
    | next =>
      obtain ⟨hb', loc'', hp', rfl, hI''⟩ := r
      exact ⟨n + 1 - (i + 1), by omega, i + 1, hb', loc'', hp', o', rfl, by omega, stays_trans hkb k₄, at₄, hS', hI''⟩
    | cont =>
      obtain ⟨hb', loc'', hp', rfl, hI''⟩ := r
      exact ⟨n + 1 - (i + 1), by omega, i + 1, hb', loc'', hp', o', rfl, by omega, stays_trans hkb k₄, at₄, hS', hI''⟩
    | brk =>
      obtain ⟨hb', loc'', hp', rfl, hq⟩ := r
      exact ⟨⟨hb', loc'', hp'⟩, stays_trans k₁ (stays_trans hkb k₄), at₄.drop .here, hq⟩
    | ret v => exact ⟨σ', stays_trans k₁ (stays_trans hkb k₄), at₄, r⟩

end


theorem bindL_other {k : Str → Option NameKind} {x : Str} : ∀ (binds : List (Str × Value)) (m : Str → Option Value), x ∉ binds.map (·.1) → bindL k binds m x = m x
  | [], m, _ => rfl
  | (n, v) :: r, m, h => by
    simp only [List.map_cons, List.mem_cons, not_or] at h
    rw [bindL, bindL_other r _ h.2]
    split
    · exact if_neg h.1
    · rfl
theorem bindL_mem {k : Str → Option NameKind} {x : Str} {v : Value} (hk : k x = some .local) : ∀ (binds : List (Str × Value)) (m : Str → Option Value), (binds.map (·.1)).Nodup → (x, v) ∈ binds → bindL k binds m x = some v
  | (n, u) :: r, m, hnd, hm => by
    rw [List.map_cons, List.nodup_cons] at hnd
    rcases List.mem_cons.mp hm with e | hm
    · cases e
      rw [bindL, bindL_other r _ hnd.1, if_pos hk, if_pos rfl]
    · rw [bindL]
      exact bindL_mem hk r _ hnd.2 hm
theorem bindC_other {k : Str → Option NameKind} {x : Str} : ∀ (binds : List (Str × Value)) (m : Str → Option Value), x ∉ binds.map (·.1) → bindC k binds m x = m x
  | [], m, _ => rfl
  | (n, v) :: r, m, h => by
    simp only [List.map_cons, List.mem_cons, not_or] at h
    rw [bindC, bindC_other r _ h.2]
    split
    · rfl
    · exact if_neg h.1
theorem bindC_mem {k : Str → Option NameKind} {x : Str} {v : Value} (hk : k x ≠ some .local) : ∀ (binds : List (Str × Value)) (m : Str → Option Value), (binds.map (·.1)).Nodup → (x, v) ∈ binds → bindC k binds m x = some v
  | (n, u) :: r, m, hnd, hm => by
    rw [List.map_cons, List.nodup_cons] at hnd
    rcases List.mem_cons.mp hm with e | hm
    · cases e
      rw [bindC, bindC_other r _ hnd.1, if_neg hk, if_pos rfl]
    · rw [bindC]
      exact bindC_mem hk r _ hnd.2 hm

theorem zip_rel : ∀ {ps : List Str} {as : List Av} {vs : List Value}, Avs as vs → as.length = ps.length → ∀ x a, (x, a) ∈ ps.zip as → ∃ v, Av.is a v ∧ (x, v) ∈ ps.zip vs
  | [], _, _, _, _, x, a, h => by simp at h
  | p :: ps, _, _, .nil, hl, x, a, h => by simp at h
  | p :: ps, _, _, .cons hv ht, hl, x, a, h => by
    rw [List.zip_cons_cons] at h
    rcases List.mem_cons.mp h with e | h
    · cases e; exact ⟨_, hv, by simp⟩
    · obtain ⟨v, h1, h2⟩ := zip_rel ht (by simpa using hl) x a h
      exact ⟨v, h1, by simp [h2]⟩
theorem lookup_in {α β : Type} [BEq α] [LawfulBEq α] : ∀ {l : List (α × β)} {x : α} {b : β}, l.lookup x = some b → (x, b) ∈ l
  | (y, c) :: l, x, b, h => by
    rw [List.lookup_cons] at h
    cases hxy : x == y with
    | true => rw [hxy] at h; cases h; rw [eq_of_beq hxy]; exact .head _
    | false => rw [hxy] at h; exact .tail _ (lookup_in h)
theorem lookup_out {α β : Type} [BEq α] [LawfulBEq α] : ∀ {l : List (α × β)} {x : α}, l.lookup x = none → x ∉ l.map (·.1)
  | [], x, _ => by simp
  | (y, c) :: l, x, h => by
    rw [List.lookup_cons] at h
    cases hxy : x == y with
    | true => rw [hxy] at h; cases h
    | false =>
      rw [hxy] at h
      simp only [List.map_cons, List.mem_cons, not_or]
      exact ⟨fun e => by simp [e] at hxy, lookup_out h⟩

theorem IsC.isFnC {C : Cx} {prog w K q sc L f cd} (h : IsC C prog w K (envOfC q sc L f cd)) (e : sc.kind = .function) : Fn C := ⟨by rw [h.env]; exact e, by rw [h.env]; rfl, by rw [h.env]; rfl⟩
/-- a function with cells of its own -/
theorem Fun.mkC {prog : Program} {w : World} {K : Frag} {f : Addr} {n : Nat} {P : Pre} {oc : Value} {od : Option Addr} {osl : Array (Option Value)} {name qual : Str} {params : Arguments} {body : List Stmt} {scope : Scope} {dV kV doc pm cdv ct : Value} {an : Option Addr}
    (hk : K.lookup f = some ⟨oc, od, .func (fnX name qual params body scope [] dV kV doc pm an cdv ct), osl⟩) (hcd : codeIn K cdv qual = true) (ps rest : List Str) (hnd : (ps ++ rest).Nodup)
    (hbind : ∀ vs : List Value, vs.length = ps.length → bindArgs (fnX name qual params body scope [] dV kV doc pm an cdv ct) ⟨vs, []⟩ = pure (ps.zip vs))
    (hkind0 : ∀ x ∈ ps, scope.names.lookup x = some .local ∨ (scope.names.lookup x = some .cell ∧ x ∈ (cellsFrom 0 scope.names []).map (·.1)))
    (hcs0 : ((cellsFrom 0 scope.names []).map (·.1)).Nodup) (hck0 : ∀ c ∈ (cellsFrom 0 scope.names []).map (·.1), scope.names.lookup c = some .cell)
    (hlen : ∀ h as d, P h as d → as.length = ps.length)
    (walk : ∀ (C : Cx) (L : Addr) (hb : Heap) (as : List Av) (d : Dt), IsC C prog w K (envOfC qual scope L f cdv) → Ok n C.A → Wd K hb → P hb as d → hb.get? L = none → C.env.locals = L →
      TX C (execs body C.env) ⟨hb, ((ps.zip as).filter (fun p => scope.names.lookup p.1 == some .local)).map (fun p => (p.1, some p.2)) ++ rest.map (fun p => (p, none)), (cellsFrom (L + 1) scope.names []).map fun c => (c.2, .cell ((ps.zip as).lookup c.1))⟩
        { next := fun _ => False, ret := fun a σ' => Rd (New hb) σ'.hb d a })
    (hco : scope.isCoroutine = false := by rfl) (hgen : scope.isGenerator = false := by rfl) (hki : scope.kind = .function := by rfl) : Fun prog w K f (n + 1) P := by
  intro A s as vs d hA hW hvs hp
  have hnm : ∀ n, (cellsFrom n scope.names []).map (·.1) = (cellsFrom 0 scope.names []).map (·.1) := fun n => cellsFrom_names scope.names n 0 [] [] rfl
  have hcs : ∀ n, ((cellsFrom n scope.names []).map (·.1)).Nodup := fun n => by rw [hnm]; exact hcs0
  have hck : ∀ n, ∀ c ∈ cellsFrom n scope.names [], scope.names.lookup c.1 = some .cell := fun n c hc => hck0 _ (by rw [← hnm n]; exact List.mem_map.mpr ⟨c, hc, rfl⟩)
  have hkind : ∀ x ∈ ps, ∀ n, scope.names.lookup x = some .local ∨ (scope.names.lookup x = some .cell ∧ ((cellsFrom n scope.names []).lookup x).isSome = true) := fun x hx n => by
    rcases hkind0 x hx with h | ⟨h1, h2⟩
    · exact .inl h
    · refine .inr ⟨h1, ?_⟩
      rw [← hnm n] at h2
      cases q : (cellsFrom n scope.names []).lookup x with
      | some c => rfl
      | none => exact absurd h2 (lookup_out q)
  have hl := hlen _ _ _ hp
  have hvl : vs.length = ps.length := (Paired.len hvs).trans hl
  obtain ⟨X, p, lo, mg, mb, T⟩ := id hW
  have hzn : (ps.zip vs).map (·.1) = ps := List.map_fst_zip (by omega)
  have hza : (ps.zip as).map (·.1) = ps := List.map_fst_zip (by omega)
  have hnp : ps.Nodup := (List.nodup_append.mp hnd).1
  refine wpAny_call (codeAny_call_function (fd := fnX name qual params body scope [] dV kV doc pm an cdv ct) (body := body) hA.room (X _ _ hk) rfl hco hgen rfl (codeRec_of X hcd) ?_)
  refine wpAny_of_eq (hbind vs hvl) ?_
  refine wpAny_newFunctionEnv_cells hki (fun x hx => hkind x.1 (List.of_mem_zip hx).1 _) fun env' he s' x => ?_
  subst he
  refine ⟨T.nolimit.keeps x.toInCall.keep, codeAny_func ?_⟩
  obtain ⟨h₁, tk, rfl, hk₁⟩ := x.done
  have hC := walk ⟨prog, w, A.deeper (envOfC qual scope s.heap.objs.size f cdv), envOfC qual scope s.heap.objs.size f cdv, K, (· = s.gens), s.os⟩ s.heap.objs.size s.heap as d ⟨rfl, rfl, rfl, rfl⟩ hA.deeper hW hp (fresh_none _ (Nat.le_refl _)) rfl
  have hat : At ⟨prog, w, A.deeper (envOfC qual scope s.heap.objs.size f cdv), envOfC qual scope s.heap.objs.size f cdv, K, (· = s.gens), s.os⟩
      ⟨s.heap, ((ps.zip as).filter (fun p => scope.names.lookup p.1 == some .local)).map (fun p => (p.1, some p.2)) ++ rest.map (fun p => (p, none)), (cellsFrom (s.heap.objs.size + 1) scope.names []).map fun c => (c.2, .cell ((ps.zip as).lookup c.1))⟩ { s with heap := h₁, toks := tk } := by
    refine ⟨⟨_, x.toInCall.ns, fun y a hm => ?_⟩, hk₁, fresh_none _ (Nat.le_refl _), ?_, fun c k hm => ?_, ?_, hW, rfl, rfl⟩
    · rcases List.mem_append.mp hm with hm | hm
      · obtain ⟨⟨y', a'⟩, hm2, e⟩ := List.mem_map.mp hm
        cases e
        obtain ⟨hm3, hm4⟩ := List.mem_filter.mp hm2
        obtain ⟨v, h1, h2⟩ := zip_rel hvs hl _ _ hm3
        refine ⟨v, h1, bindL_mem ?_ _ _ (by rw [hzn]; exact hnp) h2⟩
        show scope.names.lookup y' = some .local
        simpa using hm4
      · obtain ⟨q, _, e⟩ := List.mem_map.mp hm
        cases e
    · have e1 : List.map (fun (x : Str × Option Av) => x.1) (((ps.zip as).filter (fun p => scope.names.lookup p.1 == some .local)).map (fun p => (p.1, some p.2)) ++ rest.map (fun p => (p, none))) = ((ps.zip as).filter (fun p => scope.names.lookup p.1 == some .local)).map (·.1) ++ rest := by
        rw [List.map_append, List.map_map, List.map_map]
        congr 1
        exact List.map_id' _
      rw [e1]
      refine List.Sublist.nodup (l₂ := ps ++ rest) (List.Sublist.append ?_ (List.Sublist.refl _)) hnd
      have := (List.filter_sublist (p := fun p : Str × Av => scope.names.lookup p.1 == some .local) (l := ps.zip as)).map (·.1)
      rw [hza] at this
      exact this
    · obtain ⟨⟨y, c'⟩, hm2, e⟩ := List.mem_map.mp hm
      cases e
      have hlk : (cellsFrom (s.heap.objs.size + 1) scope.names []).lookup y = some c' := lookup_mem (hcs _) hm2
      obtain ⟨o, ho, hd⟩ := x.cell y c' hlk
      have habove := x.above y c' hm2
      have habove : s.heap.objs.size < c' := habove
      refine ⟨⟨o, ho, ?_⟩, Nat.ne_of_gt habove, fresh_none _ (Nat.le_of_lt habove)⟩
      have hyk : (envOfC qual scope s.heap.objs.size f cdv).kindOf y ≠ some .local := by
        show scope.names.lookup y ≠ some .local
        rw [hck _ _ hm2]; simp
      cases hz : (ps.zip as).lookup y with
      | some a =>
        obtain ⟨v, h1, h2⟩ := zip_rel hvs hl y a (lookup_in hz)
        refine ⟨v, ?_, h1⟩
        rw [hd]
        exact congrArg Data.cell (bindC_mem hyk _ _ (by rw [hzn]; exact hnp) h2)
      | none =>
        show o.data = .cell none
        rw [hd]
        refine congrArg Data.cell ((bindC_other _ _ ?_).trans rfl)
        rw [hzn, ← hza]
        exact lookup_out hz
    · have := x.apart
      rw [List.map_map]
      show ((cellsFrom (s.heap.objs.size + 1) scope.names []).map fun c => c.2).Nodup
      unfold List.Nodup
      rw [List.pairwise_map]
      exact this
  refine wpAny_mono (hC.run _ hat) (fun fl s' H_ => ?_) fun _ _ x => x.elim
  obtain ⟨σ', k1, k2, k3⟩ := H_
  cases fl with
  | ret v =>
    obtain ⟨a, ha, hr⟩ := k3
    exact ⟨a, ha, fun b o e => k2.keep _ _ (k1 _ _ e), hr.keeps k2.keep, k2.gens, k2.os⟩
  | next => exact k3.elim
  | brk => exact k3.elim
  | cont => exact k3.elim

section
variable {C : Cx} {σ : Sg}

theorem o_ne_len {a b : Addr} {l l' : List Av} {Q : Av → Sg → Prop} (hu : C.A.units < cLine) (h : Here σ a (.list l)) (h' : Here σ b (.list l')) (hl : l = [] ∨ l' = []) (q : Q (.bool (!(l.isEmpty && l'.isEmpty))) σ) : O2 C (compareOp .NotEq) (.ref a) (.ref b) σ Q := by
  rintro _ _ rfl rfl
  refine ⟨fun s hs => ?_⟩
  obtain ⟨us, e1, e2⟩ := h.list hs
  obtain ⟨vs, f1, f2⟩ := h'.list hs
  have g1 := Paired.len e2
  have g2 := Paired.len f2
  show wpAny _ _ (richCompare .NotEq _ _) _ _ _
  by_cases hb : l = [] ∧ l' = []
  · obtain ⟨rfl, rfl⟩ := hb
    have u0 : us = [] := List.length_eq_zero_iff.mp g1
    have v0 : vs = [] := List.length_eq_zero_iff.mp g2
    subst u0 v0
    exact SeqAt.RcNeAt.lists e1 f1 rfl hu (e := fun _ => true) (fun j h1 _ => absurd h1 (Nat.not_lt_zero _)) _ _ _ _ ⟨σ, stays_refl _, hs, _, isB, q⟩
  · have hne : (us.toArray.size != vs.toArray.size) = true := by
      simp only [List.size_toArray, g1, g2, bne_iff_ne]
      intro he
      rcases hl with rfl | rfl
      · exact hb ⟨rfl, List.length_eq_zero_iff.mp he.symm⟩
      · exact hb ⟨List.length_eq_zero_iff.mp he, rfl⟩
    refine SeqAt.RcNeAt.lists_lengths e1 f1 hne hu _ _ _ _ ⟨σ, stays_refl _, hs, .bool true, isB, ?_⟩
    have : (l.isEmpty && l'.isEmpty) = false := by
      cases l with
      | cons _ _ => rfl
      | nil => cases l' with
        | nil => exact absurd ⟨rfl, rfl⟩ hb
        | cons _ _ => rfl
    rw [this] at q; exact q

theorem T.assignC {x : Str} {px : Pos} {c : Addr} {a : Av} {u : Option Av} {v : Value} {hb : Heap} {loc hp hp'} {Q : Unit → Sg → Prop} (F : C.env.scope.kind = .function) (hk : C.env.kindOf x = some .cell) (hc : C.env.cells.lookup x = some c) (hu : Upd c (.cell u) (.cell (some a)) hp hp') (hv : Av.is a v)
    (q : Q () ⟨hb, loc, hp'⟩) : T C (assign (.Name x px) C.env v) ⟨hb, loc, hp⟩ Q := by
  show T C (do PySem.standAt px; PySem.bindName C.env x v) _ _
  exact T.bind (T.standAt (T.bindName (store_cell F hk hc hu hv q)))

inductive ForOnC (C : Cx) (c : Addr) (body orelse : List Stmt) (k : Kt) (σ₁ : Sg) (a : Av) : Prop
  | mk (n : Nat) (item : Nat → Av) (S : Src1 C σ₁ a n item) (Inv : Nat → Sg → Prop) (i0 : Inv 0 σ₁)
    (turn : ∀ i it oi hb loc hp, i < n → σ₁.hb.StaysIn hb → Inv i ⟨hb, loc, hp⟩ → ∃ u hp1, Upd c (.cell u) (.cell (some (item i))) hp hp1 ∧ TX C (execs body C.env) ⟨hb, loc, (it, .any oi) :: hp1⟩ (turnK it oi (Inv (i + 1)) k))
    (fin : ∀ hb loc hp, σ₁.hb.StaysIn hb → Inv n ⟨hb, loc, hp⟩ → TX C (execs orelse C.env) ⟨hb, loc, hp⟩ k) : ForOnC C c body orelse k σ₁ a
/-- a for whose target is a cell -/
theorem x_forC {x : Str} {px : Pos} {c : Addr} {iter : Expr} {body orelse : List Stmt} {pos : Pos} {k : Kt} (F : C.env.scope.kind = .function) (hkx : C.env.kindOf x = some .cell) (hcx : C.env.cells.lookup x = some c) (hs : ∀ v, foldedSetIterable iter C.env v = pure v)
    (h : TV C (eval iter C.env) σ (fun a σ₁ => ForOnC C c body orelse k σ₁ a)) :
    TX C (exec (.For (.Name x px) iter body orelse pos) C.env) σ k := by
  refine ⟨fun s hs' => wpAny_For (T.step h hs' fun v σ₁ s₁ k₁ at₁ H_ => ?_) hs⟩
  obtain ⟨a, ha, n, item, S, Inv, i0, turn, fin⟩ := H_
  refine S.iter v s₁ _ ha at₁ fun s₂ I o0 Si hI hg ho hk hI2 hS0 hfr next done => ?_
  have fI : σ₁.hb.get? I = none ∧ I ≠ C.env.locals ∧ I ∉ σ₁.hp.map (·.1) := by
    refine ⟨?_, fun e => ?_, fun e => ?_⟩
    · cases q : σ₁.hb.get? I with
      | none => rfl
      | some o => have := at₁.hbget q; rw [hI] at this; cases this
    · obtain ⟨m, ⟨oL, _, _, hL, _⟩, _⟩ := at₁.fr
      rw [← e, hI] at hL; cases hL
    · obtain ⟨⟨c, j⟩, hm, e0⟩ := List.mem_map.mp e
      obtain ⟨⟨o', e', _⟩, _⟩ := at₁.hp c j hm
      have e0' : c = I := e0
      rw [e0', hI] at e'; cases e'
  have at₂ : At C σ₁ s₂ := at₁.after hk hg ho
  refine codeAny_forLoop_any (ForI C I n σ₁.hb Si Inv) ?_ (n + 1)
    ⟨0, σ₁.hb, σ₁.loc, σ₁.hp, o0, rfl, Nat.zero_le _, stays_refl _, At.cons at₂ hI2 ⟨rfl, hfr _ _ hS0⟩ fI.2.1 fI.1 fI.2.2, hS0, i0⟩
  rintro m s' ⟨i, hb, loc, hp, oi, rfl, hi, hkb, hat, hSi, hInv⟩
  obtain ⟨⟨o', g1, g2, _⟩, g3, g4⟩ := hat.hp I _ (.head _)
  subst g2
  have hnp : I ∉ hp.map (·.1) := (List.nodup_cons.mp hat.hnd).1
  have drp := hat.drop .here
  have apart : Apart C hb hp [I] := fun b hb => by simp only [List.mem_singleton] at hb; subst hb; exact ⟨g4, g3, hnp⟩
  by_cases hin : i = n
  · subst hin
    refine done s' (stays_trans hkb hat.keep) ⟨_, g1, hSi⟩ _ _ fun h' tk hk' => ?_
    have at3 := drp.but (tk := tk) apart fun b o hb e => hk' b o (by simpa using hb) e
    exact (fin hb loc hp hkb hInv).step at3 fun f σ' s₄ k₄ at₄ r => ⟨σ', stays_trans k₁ (stays_trans hkb k₄), at₄, r⟩
  · refine next i s' (by omega) (stays_trans hkb hat.keep) ⟨_, g1, hSi⟩ _ _ fun v h' tk o' hv hI' hS' hk' => ?_
    show wpAny _ _ (letOwnedTupleGo (.Name x px) (.ref I) v) _ _ _
    refine wpAny_of_eq (a := ()) rfl ?_
    have at3 := At.cons (drp.but (tk := tk) apart fun b o hb e => hk' b o (by simpa using hb) e) hI' (k := .any o') ⟨rfl, hfr _ _ hS'⟩ g3 g4 hnp
    obtain ⟨u, hp1, hput, hbody⟩ := turn i I o' hb loc hp (by omega) hkb hInv
    refine T.step (T.assignC (Q := fun _ σ' => σ' = ⟨hb, loc, (I, .any o') :: hp1⟩) F hkx hcx (.there hput) hv rfl) at3 fun _ σ' s₃ _ at₃ e => ?_
    subst e
    refine hbody.step at₃ fun f σ' s₄ k₄ at₄ r => ?_
    cases f with
    | next =>
      obtain ⟨hb', loc'', hp', rfl, hI''⟩ := r
      exact ⟨n + 1 - (i + 1), by omega, i + 1, hb', loc'', hp', o', rfl, by omega, stays_trans hkb k₄, at₄, hS', hI''⟩
    | cont =>
      obtain ⟨hb', loc'', hp', rfl, hI''⟩ := r
      exact ⟨n + 1 - (i + 1), by omega, i + 1, hb', loc'', hp', o', rfl, by omega, stays_trans hkb k₄, at₄, hS', hI''⟩
    | brk =>
      obtain ⟨hb', loc'', hp', rfl, hq⟩ := r
      exact ⟨⟨hb', loc'', hp'⟩, stays_trans k₁ (stays_trans hkb k₄), at₄.drop .here, hq⟩
    | ret v => exact ⟨σ', stays_trans k₁ (stays_trans hkb k₄), at₄, r⟩
theorem cellin_of {h : Heap} {c : Addr} {a : Av} (x : Is h c (.cell (some a))) : CellIn h c a := let ⟨o, e, v, e2, e3⟩ := x; ⟨o, v, e, e2, e3⟩
end


section
variable {prog : Program} {w : World} {A : Around} {R : Result → Shared → Prop}
end


section
variable {prog : Program} {w : World} {A : Around} {R : Result → Shared → Prop} {s : Shared}
end

section
variable {C : Cx}
end

/-! ## Functions that write a table of codes, and make generators -/
/-- the generators stay bare -/
noncomputable def Grown (g g' : Array GenState) : Prop := AllBare g → AllBare g'
theorem Grown.refl (g : Array GenState) : Grown g g := id
theorem Grown.trans {a b c : Array GenState} (x : Grown a b) (y : Grown b c) : Grown a c := fun h => y (x h)
noncomputable def GrowOk (C : Cx) : Prop := ∀ g g', C.gok g → Grown g g' → C.gok g'
/-- the table of a function's inner codes: the code at one place is the inner function's -/
structure TabOk (lp : Pos) (lq : Str) (h : Heap) (ps : Array Value) : Prop where
  tri : TriplesOk ps.toList
  code : ∀ cv, codeAmong lp ps.toList = some cv → h.CodeRec cv lq
theorem TabOk.keeps {lp lq} {h h' : Heap} {ps : Array Value} (x : TabOk lp lq h ps) (k : h.StaysIn h') : TabOk lp lq h' ps :=
  ⟨x.tri, fun cv e => let ⟨c, oc, vs, t, e1, e2, r⟩ := x.code cv e; ⟨c, oc, vs, t, e1, k _ _ e2, r⟩⟩
/-- what a call may have made of the table: the code at that place is the old one, or a new object -/
structure TabNew (lp : Pos) (lq : Str) (h0 h : Heap) (ps ps' : Array Value) : Prop where
  tri : TriplesOk ps'.toList
  code : ∀ cv, codeAmong lp ps'.toList = some cv → codeAmong lp ps.toList = some cv ∨ ∃ c o vs t, cv = .ref c ∧ h0.get? c = none ∧ h.get? c = some o ∧ o.data = .fields vs ∧ vs[1]? = some (.str lq t)
theorem TabNew.ok {lp lq} {h0 h : Heap} {ps ps' : Array Value} (x : TabNew lp lq h0 h ps ps') (y : TabOk lp lq h0 ps) (k : h0.StaysIn h) : TabOk lp lq h ps' :=
  ⟨x.tri, fun cv e => (x.code cv e).elim (fun e => (y.keeps k).code cv e) fun ⟨c, o, vs, t, e1, _, e3, r⟩ => ⟨c, o, vs, t, e1, e3, r⟩⟩
theorem TabNew.keeps {lp lq} {h0 h h' : Heap} {ps ps' : Array Value} (x : TabNew lp lq h0 h ps ps') (k : h.StaysIn h') : TabNew lp lq h0 h' ps ps' :=
  ⟨x.tri, fun cv e => (x.code cv e).imp id fun ⟨c, o, vs, t, e1, e2, e3, r⟩ => ⟨c, o, vs, t, e1, e2, k _ _ e3, r⟩⟩
noncomputable def FunT (prog : Program) (w : World) (K : Frag) (T : Addr) (lp : Pos) (lq : Str) (f : Addr) (n : Nat) (P : Pre) : Prop :=
  ∀ (A : Around) (s : Shared) (as : List Av) (vs : List Value) (d : Dt) (ps : Array Value), Ok n A → Wd K (hideAll s.heap [T]) → Avs as vs → s.heap.get? T = some (tabObj ps) → TabOk lp lq (hideAll s.heap [T]) ps → P (hideAll s.heap [T]) as d →
    wpAny (model prog w) A (call (.ref f) vs []) (fun v s' => ∃ a ps', Av.is a v ∧ (hideAll s.heap [T]).StaysIn s'.heap ∧ s'.heap.get? T = some (tabObj ps') ∧ TabNew lp lq (hideAll s.heap [T]) (hideAll s'.heap [T]) ps ps' ∧ Rd (New (hideAll s.heap [T])) (hideAll s'.heap [T]) d a ∧ Grown s.gens s'.gens ∧ s'.os = s.os) (fun _ _ => False) s
theorem IsC.fnT {C : Cx} {prog w K env T lp lq f n P} (h : IsC C prog w K env) (F : FunT prog w K T lp lq f n P) : FunT C.prog C.w C.K T lp lq f n P := by rw [h.prog, h.w, h.K]; exact F
theorem CodeRec.keeps {h h' : Heap} {cv : Value} {q : Str} (x : h.CodeRec cv q) (k : h.StaysIn h') : h'.CodeRec cv q :=
  let ⟨c, oc, vs, t, e1, e2, r⟩ := x; ⟨c, oc, vs, t, e1, k _ _ e2, r⟩

theorem c_funT {C : Cx} {hb : Heap} {loc : List (Str × Option Av)} {T f : Addr} {lp : Pos} {lq : Str} {n : Nat} {P : Pre} {as : List Av} {d : Dt} {ps : Array Value} {Q : Av → Sg → Prop} {hpOf : Array Value → List (Addr × Mk)} (F : FunT C.prog C.w C.K T lp lq f n P) (hA : Ok n C.A) (hP : Mono P) (hG : GrowOk C)
    (hu : ∀ ps', Upd T (.any (tabObj ps)) (.any (tabObj ps')) (hpOf ps) (hpOf ps')) (ht : TabOk lp lq hb ps) (hp : P hb as d)
    (q : ∀ a hb' ps', hb.StaysIn hb' → TabNew lp lq hb hb' ps ps' → Rd (New hb) hb' d a → Q a ⟨hb', loc, hpOf ps'⟩) : CC C (.ref f) as ⟨hb, loc, hpOf ps⟩ Q := by
  intro vs hvs
  refine ⟨fun s hs => ?_⟩
  obtain ⟨⟨oT, gT, eT, _⟩, nT, bT⟩ := hs.hp T _ (hu ps).has
  subst eT
  have kh : hb.StaysIn (hideAll s.heap [T]) := fun b o e => hideAll_get _ (hs.keep b o e) fun q => by
    rw [List.mem_singleton.mp q, bT] at e; cases e
  have ne : ∀ b, b ≠ T → b ∉ [T] := fun b h q => h (List.mem_singleton.mp q)
  refine wpAny_mono (F C.A s as vs d ps hA (hs.wd.keeps kh) hvs gT (ht.keeps kh) (hP.up _ _ _ _ kh hp)) (fun v s' H_ => ?_) fun _ _ x => x
  obtain ⟨b, ps', hb', k, gT', ht', r, g, o⟩ := H_
  have hs' : At C ⟨hb, loc, hpOf ps'⟩ s' := by
    obtain ⟨m, Fm, l⟩ := hs.fr
    refine ⟨⟨m, Fm.at' fun o e => k _ _ (hideAll_get _ e (ne _ (Ne.symm nT))), l⟩, fun b o e => k _ _ (kh b o e), hs.off, hs.nd, fun c j hm => ?_, ?_, hs.wd, hG _ _ hs.gens g, o.trans hs.os⟩
    · rcases (hu ps').mem hs.hnd c j hm with ⟨e1, e2⟩ | ⟨e1, e2⟩
      · subst e1 e2; exact ⟨⟨_, gT', rfl, rfl⟩, nT, bT⟩
      · obtain ⟨⟨o, f1, f2⟩, f3, f4⟩ := hs.hp c j e2
        exact ⟨⟨o, k _ _ (hideAll_get _ f1 (ne _ e1)), f2⟩, f3, f4⟩
    · show ((hpOf ps').map (·.1)).Nodup
      rw [(hu ps').names]; exact hs.hnd
  obtain ⟨hb2, k1, k2, k3⟩ := hs'.rebase
  have hT2 : ∀ x o, (hideAll s'.heap [T]).get? x = some o → x ≠ T := fun x o e q => by rw [q, hideAll_none _ (.head _)] at e; cases e
  have inB : ∀ x o, (hideAll s'.heap [T]).get? x = some o → x ≠ C.env.locals → x ∉ (hpOf ps').map (·.1) → hb2.get? x = some o := fun x o e h1 h2 => k3 x o (of_hideAll _ e) h1 h2
  have apart : ∀ x o, (hideAll s'.heap [T]).get? x = some o → (hideAll s.heap [T]).get? x = none → hb.get? x = none ∧ hb2.get? x = some o := fun x o e f => by
    refine ⟨?_, inB x o e (fun q => ?_) fun q => ?_⟩
    · cases q : hb.get? x with
      | none => rfl
      | some o' => have := kh _ _ q; rw [f] at this; cases this
    · obtain ⟨m, ⟨oL, _, _, hL, _⟩, _⟩ := hs.fr
      have : (hideAll s.heap [T]).get? C.env.locals = some oL := hideAll_get _ hL (ne _ (Ne.symm nT))
      rw [← q, f] at this; cases this
    · rw [(hu ps').names] at q
      obtain ⟨⟨c, j⟩, hm, e0⟩ := List.mem_map.mp q
      obtain ⟨⟨o', e', _⟩, _⟩ := hs.hp c j hm
      have e0' : c = x := e0
      have : (hideAll s.heap [T]).get? c = some o' := hideAll_get _ e' (ne _ (by rw [e0']; exact hT2 x o e))
      rw [e0', f] at this; cases this
  refine ⟨_, k1, k2, b, hb', q b hb2 ps' k1 ⟨ht'.tri, fun cv e => ?_⟩ (Rd.mono (fun x o f e => apart x o e f) d b r)⟩
  rcases ht'.code cv e with e | ⟨c, o, vs, t, e1, e2, e3, r⟩
  · exact .inl e
  · obtain ⟨z1, z2⟩ := apart c o e3 e2
    exact .inr ⟨c, o, vs, t, e1, z1, z2, r⟩

theorem FunT.mk {T : Addr} {lp : Pos} {lq : Str} {prog : Program} {w : World} {K : Frag} {f : Addr} {n : Nat} {P : Pre} {oc : Value} {od : Option Addr} {osl : Array (Option Value)} {name qual : Str} {params : Arguments} {body : List Stmt} {scope : Scope} {dV kV doc pm cdv ct : Value} {an : Option Addr}
    (hk : K.lookup f = some ⟨oc, od, .func (fnOf name qual params body scope dV kV doc pm an cdv ct), osl⟩) (hcd : codeIn K cdv qual = true) (ps rest : List Str) (hnd : (ps ++ rest).Nodup)
    (hbind : ∀ vs : List Value, vs.length = ps.length → bindArgs (fnOf name qual params body scope dV kV doc pm an cdv ct) ⟨vs, []⟩ = pure (ps.zip vs))
    (hloc : ∀ x ∈ ps, scope.names.lookup x = some .local) (hcell : ∀ x ∈ scope.names, x.2 ≠ .cell)
    (hlen : ∀ h as d, P h as d → as.length = ps.length)
    (walk : ∀ (C : Cx) (L : Addr) (hb : Heap) (as : List Av) (d : Dt) (tb : Array Value), IsC C prog w K (envOf qual scope L f cdv) → Ok n C.A → GrowOk C → Wd K hb → TabOk lp lq hb tb → P hb as d →
      TX C (execs body C.env) ⟨hb, ps.zipWith (fun p a => (p, some a)) as ++ rest.map (fun p => (p, none)), [(T, .any (tabObj tb))]⟩ { next := fun _ => False, ret := fun a σ' => Rd (New hb) σ'.hb d a ∧ ∃ tb', (T, .any (tabObj tb')) ∈ σ'.hp ∧ TabNew lp lq hb σ'.hb tb tb' })
    (hco : scope.isCoroutine = false := by rfl) (hgen : scope.isGenerator = false := by rfl) (hki : scope.kind = .function := by rfl) : FunT prog w K T lp lq f (n + 1) P := by
  intro A s as vs d tb hA hW hvs hgT hTok hp
  have ne : ∀ b, b ≠ T → b ∉ [T] := fun b h q => h (List.mem_singleton.mp q)
  have kS : (hideAll s.heap [T]).StaysIn s.heap := fun b o e => of_hideAll _ e
  have hTL : T ≠ s.heap.objs.size := Nat.ne_of_lt (Heap.lt_size hgT)
  have hoff : (hideAll s.heap [T]).get? s.heap.objs.size = none := by
    cases q : (hideAll s.heap [T]).get? s.heap.objs.size with
    | none => rfl
    | some o => have := kS _ _ q; rw [fresh_none _ (Nat.le_refl _)] at this; cases this
  have hl := hlen _ _ _ hp
  have hvl : vs.length = ps.length := (Paired.len hvs).trans hl
  have hzip : ∀ x ∈ ps.zip vs, scope.names.lookup x.1 = some .local := fun x hx => hloc x.1 (List.of_mem_zip hx).1
  obtain ⟨X, p, lo, mg, mb, Tp⟩ := id hW
  refine wpAny_call (codeAny_call_def (fd := fnOf name qual params body scope dV kV doc pm an cdv ct) (body := body) (binds := ps.zip vs) hA.room (kS _ _ (X _ _ hk)) rfl ((Tp.nolimit).keeps kS) (codeRec_of (X.keeps kS) hcd) rfl (BindsTo.of_eq (hbind vs hvl)) hcell hzip (fun h₁ hns hk₁ => ?_) hco hgen hki)
  have hC := walk ⟨prog, w, A.deeper (envOf qual scope s.heap.objs.size f cdv), envOf qual scope s.heap.objs.size f cdv, K, Grown s.gens, s.os⟩ s.heap.objs.size (hideAll s.heap [T]) as d tb ⟨rfl, rfl, rfl, rfl⟩ hA.deeper (fun _ _ h k => h.trans k) hW hTok hp
  have look : ∀ (ps : List Str) (as : List Av) (vs : List Value), Avs as vs → ps.Nodup → as.length = ps.length → ∀ x a, (x, some a) ∈ ps.zipWith (fun p a => (p, some a)) as → ∃ v, Av.is a v ∧ (ps.zip vs).reverse.lookup x = some v := by
    intro ps as vs hvs hnd hl x a hm
    have mem : ∀ (ps : List Str) (as : List Av) (vs : List Value), Avs as vs → as.length = ps.length → (x, some a) ∈ ps.zipWith (fun p a => (p, some a)) as → ∃ v, Av.is a v ∧ (x, v) ∈ ps.zip vs := by
      intro ps
      induction ps with
      | nil => intro as vs _ _ hm; simp at hm
      | cons p r ih =>
        intro as vs hvs hl hm
        cases hvs with
        | nil => simp at hm
        | @cons a' v' as' vs' h t =>
          simp only [List.zipWith_cons_cons, List.mem_cons, Prod.mk.injEq, Option.some.injEq] at hm
          rcases hm with ⟨rfl, rfl⟩ | hm
          · exact ⟨v', h, by simp⟩
          · obtain ⟨v, h1, h2⟩ := ih as' vs' t (by simpa using hl) hm
            exact ⟨v, h1, by simp [h2]⟩
    obtain ⟨v, h1, h2⟩ := mem ps as vs hvs hl hm
    refine ⟨v, h1, ?_⟩
    refine lookup_mem ?_ (List.mem_reverse.mpr h2)
    rw [List.map_reverse]
    have : (ps.zip vs).map (·.1) = ps := by
      rw [List.map_fst_zip]
      rw [Paired.len hvs, hl]
      exact Nat.le_refl _
    rw [this]
    unfold List.Nodup at hnd ⊢
    rw [List.pairwise_reverse]
    exact List.Pairwise.imp (fun {a b} (h : a ≠ b) (e : b = a) => h e.symm) hnd
  have hat : At ⟨prog, w, A.deeper (envOf qual scope s.heap.objs.size f cdv), envOf qual scope s.heap.objs.size f cdv, K, Grown s.gens, s.os⟩ ⟨hideAll s.heap [T], ps.zipWith (fun p a => (p, some a)) as ++ rest.map (fun p => (p, none)), [(T, .any (tabObj tb))]⟩ { s with heap := h₁, toks := s.toks + (ps.zip vs).length } := by
    refine ⟨⟨_, hns, fun x a hm => ?_⟩, (fun b o e => hk₁ _ _ (kS _ _ e)), hoff, ?_, fun a k hm => ?_, (by simp), hW, Grown.refl _, rfl⟩
    · rcases List.mem_append.mp hm with hm | hm
      · exact look ps as vs hvs (List.nodup_append.mp hnd).1 hl x a hm
      · obtain ⟨p, _, e⟩ := List.mem_map.mp hm
        cases e
    · have : (List.map (fun (x : Str × Option Av) => x.1) (ps.zipWith (fun p a => (p, some a)) as ++ rest.map (fun p => (p, none)))) = ps ++ rest := by
        rw [List.map_append, List.map_map]
        congr 1
        · rw [List.map_zipWith]
          have : ∀ (ps : List Str) (as : List Av), as.length = ps.length → List.zipWith (fun a _ => a) ps as = ps := by
            intro ps
            induction ps with
            | nil => intro as _; rfl
            | cons p r ih => 
              intro as h
              cases as with
              | nil => simp at h
              | cons b t => rw [List.zipWith_cons_cons, ih t (by simpa using h)]
          exact this ps as hl
        · exact List.map_id' _
      rw [this]; exact hnd
    · obtain ⟨e1, e2⟩ := Prod.mk.inj (List.mem_singleton.mp hm)
      rw [e1, e2]
      exact ⟨⟨_, hk₁ _ _ hgT, rfl, rfl⟩, hTL, hideAll_none _ (.head _)⟩
  refine wpAny_mono (hC.run _ hat) (fun fl s' H_ => ?_) fun _ _ x => x.elim
  obtain ⟨σ', k1, k2, k3⟩ := H_
  cases fl with
  | ret v =>
    obtain ⟨a, ha, hr, tb', hm, hn⟩ := k3
    obtain ⟨⟨oT, gT, eT, _⟩, _, bT⟩ := k2.hp T _ hm
    subst eT
    have kE : σ'.hb.StaysIn (hideAll s'.heap [T]) := fun b o e => hideAll_get _ (k2.keep _ _ e) (ne _ fun q => by rw [q, bT] at e; cases e)
    exact ⟨a, tb', ha, fun b o e => k2.keep _ _ (k1 _ _ e), gT, hn.keeps kE, hr.keeps kE, k2.gens, k2.os⟩
  | next => exact k3.elim
  | brk => exact k3.elim
  | cont => exact k3.elim

section
variable {C : Cx} {hb : Heap} {loc : List (Str × Option Av)}
theorem At.tab {T : Addr} {ps ps' : Array Value} {hpOf : Array Value → List (Addr × Mk)} {s s' : Shared} (hs : At C ⟨hb, loc, hpOf ps⟩ s) (hu : ∀ ps', Upd T (.any (tabObj ps)) (.any (tabObj ps')) (hpOf ps) (hpOf ps'))
    (k : ∀ b o, b ≠ T → s.heap.get? b = some o → s'.heap.get? b = some o) (gT' : s'.heap.get? T = some (tabObj ps')) (g : C.gok s'.gens) (o : s'.os = s.os) : At C ⟨hb, loc, hpOf ps'⟩ s' := by
  obtain ⟨_, nT, bT⟩ := hs.hp T _ (hu ps).has
  obtain ⟨m, Fm, l⟩ := hs.fr
  refine ⟨⟨m, Fm.at' fun o e => k _ _ (Ne.symm nT) e, l⟩, fun b o e => k _ _ (fun q => by rw [q, bT] at e; cases e) (hs.keep b o e), hs.off, hs.nd, fun c j hm => ?_, ?_, hs.wd, g, o.trans hs.os⟩
  · rcases (hu ps').mem hs.hnd c j hm with ⟨e1, e2⟩ | ⟨e1, e2⟩
    · subst e1 e2; exact ⟨⟨_, gT', rfl, rfl⟩, nT, bT⟩
    · obtain ⟨⟨o, f1, f2⟩, f3, f4⟩ := hs.hp c j e2
      exact ⟨⟨o, k _ _ e1 f1, f2⟩, f3, f4⟩
  · show ((hpOf ps').map (·.1)).Nodup
    rw [(hu ps').names]; exact hs.hnd
/-- an object that is new to the heap lies in the part that is frozen anew -/
theorem At.fresh_apart {σ : Sg} {s : Shared} (hs : At C σ s) {b : Addr} (h : s.heap.objs.size ≤ b) : σ.hb.get? b = none ∧ b ≠ C.env.locals ∧ b ∉ σ.hp.map (·.1) := by
  have hn : s.heap.get? b = none := fresh_none _ h
  refine ⟨?_, fun q => ?_, fun q => ?_⟩
  · cases q : σ.hb.get? b with
    | none => rfl
    | some o => have := hs.keep _ _ q; rw [hn] at this; cases this
  · obtain ⟨m, ⟨oL, _, _, hL, _⟩, _⟩ := hs.fr
    rw [← q, hn] at hL; cases hL
  · obtain ⟨⟨c, j⟩, hm, e0⟩ := List.mem_map.mp q
    obtain ⟨⟨o', e', _⟩, _⟩ := hs.hp c j hm
    have e0' : c = b := e0
    rw [e0', hn] at e'; cases e'

theorem TopB.at {p : Program} {lo : List Str} {mg mb : Str → Option Value} {h : Heap} {Tb : Addr} {ps : Array Value} (x : TopB p lo mg mb h) (g : h.get? Tb = some (tabObj ps)) : mainGlobals ≠ Tb ∧ h.BuiltinsAt mg Tb := by
  obtain ⟨bm, ob, e1, e2, e3, e4, e5, e6⟩ := x.bmain
  obtain ⟨o, es, ep, f1, f2, _⟩ := x.g
  refine ⟨fun q => ?_, bm, ob, e1, e2, fun q => ?_, fun q => ?_, e3, e4, e5, e6⟩
  · rw [q, g] at f1; cases f1; cases f2
  · rw [q, f1] at e3; cases e3; rw [e6] at f2; cases f2
  · rw [q, g] at e3; cases e3; cases e4

theorem codeAmong_snocT {pos : Pos} {c : Value} {l : List Value} (h : TriplesOk l) (hn : codeAmong pos l = none) (lp : Pos) {cv : Value} (e : codeAmong lp (l ++ [rawInt pos.line, rawInt pos.col, c]) = some cv) : codeAmong lp l = some cv ∨ cv = c := by
  fun_induction TriplesOk l with
  | case1 =>
    simp only [List.nil_append, codeAmong, rawInt] at e
    split at e
    · exact .inr (Option.some.inj e).symm
    · cases e
  | case2 a t b u x rest ih =>
    simp only [List.cons_append, codeAmong] at e hn ⊢
    split at hn
    · cases hn
    · split at e
      · rename_i h1; rw [if_pos h1]; exact .inl e
      · rename_i h1; rw [if_neg h1]; exact ih h hn e
  | case3 l h1 h2 => exact h.elim

/-- «lambda ..» -/
theorem e_lambda {hpOf : Array Value → List (Addr × Mk)} {ps : Array Value} {params : Arguments} {body : Expr} {scope : Scope} {pos : Pos} {clos : List (Str × Addr)} {c T : Addr} {lq : Str} {Q : Av → Sg → Prop} (hF : Fn C) (hG : GrowOk C)
    (hdef : defaultsOf params C.env = ([], [])) (hclos : closureFor scope C.env = pure clos) (hcode : C.env.code = .ref c) (hhd : codeHdIn C.K c T = true)
    (hu : ∀ ps', Upd T (.any (tabObj ps)) (.any (tabObj ps')) (hpOf ps) (hpOf ps')) (ht : TabOk pos lq hb ps) (hlq : C.env.qual ++ "<lambda>" = lq)
    (q : ∀ f cv ctv pm hb' ps', hb.StaysIn hb' → hb.get? f = none → hb'.get? f = some { cls := .type "function", data := .func (kla_fn "<lambda>" lq params body scope clos pm cv ctv) } → hb'.CodeRec cv lq → TabNew pos lq hb hb' ps ps' → Q (.ref f) ⟨hb', loc, hpOf ps'⟩) :
    TV C (eval (.Lambda params body scope pos) C.env) ⟨hb, loc, hpOf ps⟩ Q := by
  refine ⟨fun s hs => kla_eval hdef ?_⟩
  obtain ⟨⟨oT, gT, eT, _⟩, nT, bT⟩ := hs.hp T _ (hu ps).has
  subst eT
  obtain ⟨X, p, lo, mg, mb, Tp⟩ := hs.wd.keeps hs.keep
  rw [hlq]
  have hcd := codeHd_of_K X hhd
  cases hn : codeAmong pos ps.toList with
  | none =>
    refine kla_makeFunction hclos hF.globals Tp.g hcode hcd gT ht.tri hn (Tp.at gT).1 (Tp.at gT).2 fun c' ctv h' tk hx hge hlt hrec htb => ?_
    have kk : ∀ b o, b ≠ T → s.heap.get? b = some o → (h'.push (kla_obj "<lambda>" lq params body scope clos ((mg "__name__").getD .none) c' ctv)).get? b = some o := fun b o hb e => Heap.get?_push_of_some _ (hx b o hb e)
    have hs' := hs.tab (s' := { s with heap := h'.push (kla_obj "<lambda>" lq params body scope clos ((mg "__name__").getD .none) c' ctv), toks := tk }) hu kk (Heap.get?_push_of_some _ htb) hs.gens rfl
    obtain ⟨hb2, k1, k2, k3⟩ := hs'.rebase
    have a1 := hs.fresh_apart hge
    have a2 := hs.fresh_apart (b := h'.objs.size) (Nat.le_of_lt (Nat.lt_of_le_of_lt hge hlt))
    have nm : ∀ {b}, b ∉ (hpOf ps).map (·.1) → b ∉ (hpOf (ps ++ #[rawInt pos.line, rawInt pos.col, .ref c'])).map (·.1) := fun h => by rw [(hu _).names]; exact h
    obtain ⟨c2, oc, vs, t, e1, e2, e3, e4⟩ := hrec
    cases e1
    have gc := k3 c' _ (Heap.get?_push_of_some _ e2) a1.2.1 (nm a1.2.2)
    refine ⟨_, k1, k2, _, isR, q _ (.ref c') ctv ((mg "__name__").getD .none) hb2 _ k1 a2.1 (k3 _ _ (Heap.get?_push_size _ rfl) a2.2.1 (nm a2.2.2)) ⟨c', oc, vs, t, rfl, gc, e3, e4⟩ ⟨?_, fun cv e => ?_⟩⟩
    · have := TriplesOk_snoc pos.line pos.col (.ref c') ps.toList ht.tri
      simpa using this
    · have e' : codeAmong pos (ps.toList ++ [rawInt pos.line, rawInt pos.col, .ref c']) = some cv := by simpa using e
      rcases codeAmong_snocT ht.tri hn pos e' with h | h
      · exact .inl h
      · exact .inr ⟨c', oc, vs, t, h, a1.1, gc, e3, e4⟩
  | some cv =>
    refine kla_makeFunctionHit hclos hF.globals Tp.g hcode hcd gT ht.tri hn (Tp.at gT).2 fun ctv h' tk hx hge => ?_
    have kk : ∀ b o, b ≠ T → s.heap.get? b = some o → (h'.push { cls := .type "function", data := .func (kla_fn "<lambda>" lq params body scope clos ((mg "__name__").getD .none) cv ctv) }).get? b = some o := fun b o hb e => Heap.get?_push_of_some _ (hx b o e)
    have hs' := hs.tab (s' := { s with heap := h'.push { cls := .type "function", data := .func (kla_fn "<lambda>" lq params body scope clos ((mg "__name__").getD .none) cv ctv) }, toks := tk }) hu kk (Heap.get?_push_of_some _ (hx _ _ gT)) hs.gens rfl
    obtain ⟨hb2, k1, k2, k3⟩ := hs'.rebase
    have a2 := hs.fresh_apart (b := h'.objs.size) hge
    exact ⟨_, k1, k2, _, isR, q _ cv ctv ((mg "__name__").getD .none) hb2 ps k1 a2.1 (k3 _ _ (Heap.get?_push_size _ rfl) a2.2.1 a2.2.2) (CodeRec.keeps (ht.code cv hn) k1) ⟨ht.tri, fun cv e => .inl e⟩⟩
end

section
variable {prog : Program} {w : World} {A : Around}
noncomputable abbrev yes : Nat → Bool := fun _ => true
/-- what the item of a generator without a test gives: at that time a token has been made -/
noncomputable abbrev EltQ (prog : Program) (w : World) (cenv : Env) (x : Str) (elt : Expr) (P F : Nat → Value → Prop) : Prop :=
  ∀ (A' : Around) E' i v (s₂ : Shared) m₂, A'.handled = none → P i v → 0 < s₂.toks → s₂.heap.Ns cenv.locals m₂ → m₂ x = some v → wpAny (model prog w) A' (eval elt cenv) (fun y s₃ => F i y ∧ Keeps s₂ s₃) E' s₂
noncomputable abbrev genRun (elt iter : Expr) (x : Str) (px : Pos) (scope : Scope) (pos : Pos) (I : Addr) (cenv : Env) : Code := .compLoop (.GeneratorExp elt [⟨.Name x px, iter, [], 0⟩] scope pos) 0 (.ref I) .none cenv
noncomputable abbrev genBegin (elt iter : Expr) (x : Str) (px : Pos) (scope : Scope) (pos : Pos) (I : Addr) (cenv : Env) : Code := .compStart (.GeneratorExp elt [⟨.Name x px, iter, [], 0⟩] scope pos) 0 (.ref I) .none cenv
theorem gen_loop {elt iter : Expr} {x : Str} {px : Pos} {scope : Scope} {pos : Pos} {I : Addr} {fp wr : List Addr} {n : Nat} {P : Nat → Value → Prop} {St : Nat → Heap → Prop} {cenv : Env}
    (hh : A.handled = none) (W : ∀ A' : Around, A'.handled = none → Walks prog w A' I fp wr n P St) (F : Nat → Value → Prop)
    (hx : cenv.kindOf x = some .local) (hp : (cenv.scope.kind == .class || (cenv.scope.kind == .module && cenv.locals != cenv.globals)) = false)
    (hco : cenv.scope.isCoroutine = false) (hC : cenv.locals ∉ fp) (hq : EltQ prog w cenv x elt P F) :
    ∀ (k i : Nat) (s₀ s : Shared) (m : Str → Option Value), n - i = k → i ≤ n → St i s.heap → s.heap.Ns cenv.locals m → GenSince cenv.locals wr s₀ s →
      Seg (model prog w) A (fun n s₀ r s₁ => r = .ok .next ∧ (n = 0 ∧ GenSince cenv.locals wr s₀ s₁)) (genProto cenv.locals fp wr yes n F) (passing yes n i).length s₀
        (genRun elt iter x px scope pos I cenv) ((model prog w).den (genRun elt iter x px scope pos I cenv)) [] s := by
  have hh' : (A.over (genRun elt iter x px scope pos I cenv) []).handled = none := hh
  have hw : cenv.locals ∉ wr := fun h => hC ((W A hh).sub _ h)
  have hy : ∀ v, yieldOut cenv v = yieldValue v := fun v => by simp only [yieldOut, hco, Bool.false_eq_true, if_false]
  intro k
  induction k with
  | zero =>
    intro i s₀ s m hk hi hst hn hs
    obtain rfl : i = n := by omega
    show Seg _ A _ _ _ s₀ _ ((compTurn (.GeneratorExp elt [⟨.Name x px, iter, [], 0⟩] scope pos) 0 (.ref I) .none cenv).onRaise (leaving cenv)) [] s
    rw [compTurn_gen, Sem.onRaise_eq_wrap]
    refine seg_bind_wrap (wpAny_standAt (seg_bind_wrap ((W _ hh').done s _ _ hst fun h' tk hk' => ?_)))
    exact seg_end (.ok .next) ⟨rfl, by rw [passing_end]; rfl, hs.step fun b o _ hb e => hk' b o hb e⟩
  | succ k ih =>
    intro i s₀ s m hk hi hst hn hs
    have hlt : i < n := by omega
    show Seg _ A _ _ _ s₀ _ ((compTurn (.GeneratorExp elt [⟨.Name x px, iter, [], 0⟩] scope pos) 0 (.ref I) .none cenv).onRaise (leaving cenv)) [] s
    rw [compTurn_gen, Sem.onRaise_eq_wrap]
    refine seg_bind_wrap (wpAny_standAt (seg_bind_wrap ((W _ hh').item i s _ _ hlt hst fun v h₁ t₁ hv hst₁ hk₁ => ?_)))
    refine seg_bind_wrap (wpAny_of_eq (rfl : letOwnedTupleGo (.Name x px) (.ref I) v = pure ()) ?_)
    refine seg_bind_wrap (wpAny_assign_Name (wpAny_storeName_local hx (hn.at' fun o e => hk₁ _ o hw e) (fun h₂ hn₂ hs₂ => ?_) hp))
    have up : ∀ b o, b ≠ cenv.locals → b ∉ wr → s.heap.get? b = some o → h₂.get? b = some o := fun b o h1 h2 e => hs₂.extBut b o h1 (hk₁ b o h2 e)
    have hst₂ : St (i + 1) h₂ := (W A hh).frame _ _ _ hst₁ fun b hb o e => hs₂.extBut b o (fun h => hC (h ▸ hb)) e
    refine seg_bind_wrap (wpAny_pure ?_)
    rw [passing_true hlt rfl, List.length_cons]
    simp only [if_true, hy]
    rw [Sem.bind_eq_wrap', Sem.bind_eq_wrap', Sem.wrap_wrap, Sem.wrap_wrap]
    refine seg_wrap (wpAny_mono (hq _ _ i v _ _ hh' hv (Nat.succ_pos _) hn₂ (by simp)) (fun y s₄ h₄ => ?_) fun _ _ e => e)
    obtain ⟨hF, h₄, t₄, rfl, hk₄⟩ := h₄
    refine seg_at (seg_yield rfl rfl rfl ⟨⟨i, passing_here hlt rfl, hF⟩, hs.step fun b o h1 h2 e => hk₄ b o (up b o h1 h2 e), fun s'' hal => ?_⟩)
    exact seg_again rfl (ih (i + 1) s'' s'' _ (by omega) hlt ((W A hh).frame _ _ _ hst₂ fun b hb o e => hal b (List.mem_cons_of_mem _ hb) o (hk₄ b o e))
      ((hn₂.keeps hk₄).at' fun o e => hal _ (List.mem_cons_self ..) o e) (GenSince.refl _ _ _))
theorem gen_begin {elt iter : Expr} {x : Str} {px : Pos} {scope : Scope} {pos : Pos} {I : Addr} {fp wr : List Addr} {n : Nat} {P : Nat → Value → Prop} {St : Nat → Heap → Prop} {cenv : Env}
    (hh : A.handled = none) (W : ∀ A' : Around, A'.handled = none → Walks prog w A' I fp wr n P St) (F : Nat → Value → Prop)
    (hx : cenv.kindOf x = some .local) (hp : (cenv.scope.kind == .class || (cenv.scope.kind == .module && cenv.locals != cenv.globals)) = false)
    (hco : cenv.scope.isCoroutine = false) (hC : cenv.locals ∉ fp) (hq : EltQ prog w cenv x elt P F) (s₀ s : Shared) (m : Str → Option Value) (hst : St 0 s.heap) (hn : s.heap.Ns cenv.locals m) (hs : GenSince cenv.locals wr s₀ s) :
    Seg (model prog w) A (fun n s₀ r s₁ => r = .ok .next ∧ (n = 0 ∧ GenSince cenv.locals wr s₀ s₁)) (genProto cenv.locals fp wr yes n F) (passing yes n 0).length s₀
      (genBegin elt iter x px scope pos I cenv) ((model prog w).den (genBegin elt iter x px scope pos I cenv)) [] s := by
  have hh' : (A.over (genBegin elt iter x px scope pos I cenv) []).handled = none := hh
  have loop := gen_loop (iter := iter) (px := px) (scope := scope) (pos := pos) hh W F hx hp hco hC hq n 0 s₀ s m (Nat.sub_zero _) (Nat.zero_le _) hst hn hs
  show Seg _ A _ _ _ s₀ _ ((compStart (.GeneratorExp elt [⟨.Name x px, iter, [], 0⟩] scope pos) 0 (.ref I) .none cenv).onRaise (leaving cenv)) [] s
  unfold compStart
  rw [Sem.onRaise_eq_wrap]
  show Seg _ A _ _ _ s₀ _ ((ask >>= _).wrap _ _ _ _) [] s
  refine seg_bind_wrap (wpAny_askSetting ?_)
  split
  · exact seg_again rfl loop
  · refine seg_bind_wrap (wpAny_rule ?_)
    show Seg _ A _ _ _ s₀ _ ((standAt iter.pos >>= _).wrap _ _ _ _) [] s
    exact seg_bind_wrap (wpAny_standAt (seg_bind_wrap ((W _ hh').self 0 s _ _ hst (seg_again rfl loop))))
theorem gen_fresh {elt iter : Expr} {x : Str} {px : Pos} {scope : Scope} {pos : Pos} {I a : Addr} {g : Nat} {fp wr : List Addr} {n : Nat} {P : Nat → Value → Prop} {St : Nat → Heap → Prop} {cenv : Env}
    (hh : A.handled = none) (W : ∀ A' : Around, A'.handled = none → Walks prog w A' I fp wr n P St) (F : Nat → Value → Prop)
    (hx : cenv.kindOf x = some .local) (hp : (cenv.scope.kind == .class || (cenv.scope.kind == .module && cenv.locals != cenv.globals)) = false)
    (hco : cenv.scope.isCoroutine = false) (hC : cenv.locals ∉ fp) {s : Shared} {m : Str → Option Value} (hq : EltQ prog w cenv x elt P F)
    (hg : s.heap.IsGen a g) (hgs : s.gens[g]? = some (.fresh (genBegin elt iter x px scope pos I cenv))) (hst : St 0 s.heap) (hn : s.heap.Ns cenv.locals m) (hl : s.heap.NoLimit) : GenAt prog w A a g cenv.locals fp wr yes n F 0 s :=
  ⟨hg, hl, _, hgs, fun s'' hal => ⟨rfl, gen_begin (A := A.in1) hh W F hx hp hco hC hq s'' s'' m ((W A hh).frame _ _ _ hst fun b hb o e => hal b (List.mem_cons_of_mem _ hb) o e)
    (hn.at' fun o e => hal _ (List.mem_cons_self ..) o e) (GenSince.refl _ _ _)⟩⟩
end

section
variable {prog : Program} {w : World} {A : Around} {E : Value → Shared → Prop} {s : Shared}
/-- «o.replace(y, z)» with two written texts -/
theorem raw_replace {pl : Sem Bool} {env : Env} {o : Expr} {y z : Str} {ap pos p1 p2 : Pos} {k1 k2 : Tok} {Q : Value → Shared → Prop}
    (hyz : (y == z) = false)
    (h : wpAny (model prog w) A (eval o env) (fun v s₁ => ∃ x t, v = .str x t ∧ 0 < s₁.toks ∧ x.length + (x.length + 1) * z.length ≤ 16777216 ∧ ∀ t' k, s₁.toks ≤ k → Q (.str (Txt.replace x y z) t') { s₁ with toks := k }) E s)
    (he : eval (.Call (.Attribute o "replace" ap) [.Constant (.str y) k1 p1, .Constant (.str z) k2 p2] [] pos) env = (do
      let ov ← eval o env
      PySem.standAt ap.atName
      let (f, first) ← PySem.holding [ov] (getMethod ov "replace" pl)
      callWith pos f first (backTo pos (starEach [.Constant (.str y) k1 p1, .Constant (.str z) k2 p2] env)) (backToKw pos (keywordEach [] env))) := by rfl) :
    wpAny (model prog w) A (eval (.Call (.Attribute o "replace" ap) [.Constant (.str y) k1 p1, .Constant (.str z) k2 p2] [] pos) env) Q E s := by
  refine methodCall_KW (pl := pl) (wpAny_mono h (fun v s₁ H_ => ?_) fun _ _ e => e) he
  obtain ⟨x, t, rfl, h0, hb, q⟩ := H_
  refine getMethod_builtin (typeIs_str _ _ _) PySem.F.plainAttrs_str PySem.F.slot_str_replace PySem.F.type_str_replace (fun x e => nomatch e) ?_
  rw [show backTo pos (starEach [.Constant (.str y) k1 p1, .Constant (.str z) k2 p2] env) = [(false, mkText y), (false, mkText z)] from rfl]
  show wpAny (model prog w) A (callWith pos (.builtin "str.replace") [.str x t] [(false, mkText y), (false, mkText z)] []) Q E s₁
  refine callWith_of (P := fun _ => True) rfl (fun _ _ => ⟨.machine, .inr (.inl rfl), Looks.of_pure rfl⟩) (evalArgs_plain ?_)
  rw [PySem.spliced.eq_def]
  refine wpAny_bind (wpAny_mkText (wpAny_bind (wpAny_pure (wpAny_bind (wpAny_holding ?_)))))
  rw [PySem.spliced.eq_def]
  refine wpAny_bind (wpAny_mkText (wpAny_bind (wpAny_pure (wpAny_bind (wpAny_holding ?_)))))
  rw [PySem.spliced.eq_def]
  refine wpAny_pure (wpAny_pure (wpAny_pure ⟨trivial, ?_⟩))
  refine wpAny_with_toks (n := s₁.toks) (Nat.le_succ_of_le (Nat.le_succ _)) ?_
  exact SC.replace (Nat.ne_of_gt h0) (Nat.succ_ne_zero _) (Nat.ne_of_lt (Nat.lt_succ_self _)) hyz hb fun t' k hk => q t' k hk
end

theorem codeAmong_snoc_ne {pos lp : Pos} {c : Value} {l : List Value} (h : TriplesOk l) (hne : ((pos.line : Int) == (lp.line : Int) && (pos.col : Int) == (lp.col : Int)) = false) {cv : Value} (e : codeAmong lp (l ++ [rawInt pos.line, rawInt pos.col, c]) = some cv) : codeAmong lp l = some cv := by
  fun_induction TriplesOk l with
  | case1 =>
    simp only [List.nil_append, codeAmong, rawInt] at e
    rw [hne] at e
    cases e
  | case2 a t b u x rest ih =>
    simp only [List.cons_append, codeAmong] at e ⊢
    split at e
    · rename_i h1; rw [if_pos h1]; exact e
    · rename_i h1; rw [if_neg h1]; exact ih h e
  | case3 l h1 h2 => exact h.elim
theorem passing_yes (n : Nat) : passing yes n 0 = List.range n := by
  unfold passing
  rw [List.drop_zero]
  exact List.filter_eq_self.mpr fun _ _ => rfl
section
variable {C : Cx} {hb : Heap} {loc : List (Str × Option Av)}
theorem At.more {σ : Sg} {s s' : Shared} (x : At C σ s) (k : s.heap.StaysIn s'.heap) (g : C.gok s'.gens) (o : s'.os = s.os) : At C σ s' where
  fr := let ⟨m, F, l⟩ := x.fr; ⟨m, F.keeps k, l⟩
  keep := stays_trans x.keep k
  off := x.off
  nd := x.nd
  hp := fun a k' e => let ⟨⟨o, e1, e2⟩, r⟩ := x.hp a k' e; ⟨⟨o, k _ _ e1, e2⟩, r⟩
  hnd := x.hnd
  wd := x.wd
  gens := g
  os := o.trans x.os
theorem items_are {n : Nat} {l : List (Str × Tok)} {f : Nat → Str} (h : ItemsOf (fun j y => ∃ i, (passing yes n 0)[j]? = some i ∧ ∃ t, y = Value.str (f i) t) (strValues l).toArray (passing yes n 0).length) : l.map (·.1) = (List.range n).map f := by
  rw [passing_yes] at h
  have hl : l.length = n := by
    have := h.1
    simpa [strValues] using this
  refine List.ext_getElem (by simp [hl]) fun j h1 h2 => ?_
  have hj : j < n := by simpa using h2
  have hj' : j < l.length := by rw [hl]; exact hj
  obtain ⟨i, e1, t, e2⟩ := h.2 j (.str (l[j]).1 (l[j]).2) (by simp [strValues, hj'])
  rw [List.getElem?_range hj] at e1
  have e3 := Option.some.inj e1
  subst e3
  injection e2 with e4 e5
  rw [List.getElem_map, List.getElem_map, List.getElem_range]
  exact e4
theorem code_tab {hpOf : Array Value → List (Addr × Mk)} {ps : Array Value} {c Tb : Addr} {gp lp : Pos} {lq qn : Str} {scope : Scope} {E : Value → Shared → Prop} {QQ : Value → Shared → Prop} {s : Shared} (hs : At C ⟨hb, loc, hpOf ps⟩ s) (hcode : C.env.code = .ref c) (hhd : codeHdIn C.K c Tb = true)
    (hu : ∀ ps', Upd Tb (.any (tabObj ps)) (.any (tabObj ps')) (hpOf ps) (hpOf ps')) (ht : TabOk lp lq hb ps) (hne : ((gp.line : Int) == (lp.line : Int) && (gp.col : Int) == (lp.col : Int)) = false)
    (q : ∀ code h4 tk4 ps', (∀ b o, b ≠ Tb → s.heap.get? b = some o → Heap.get? h4 b = some o) → Heap.get? h4 Tb = some (tabObj ps') → TabNew lp lq hb hb ps ps' → QQ code { s with heap := h4, toks := tk4 }) :
    wpAny (model C.prog C.w) C.A (genexprCode C.env gp qn scope) QQ E s := by
  obtain ⟨⟨oT, gT, eT, _⟩, nT, bT⟩ := hs.hp Tb _ (hu ps).has
  subst eT
  have hcd := codeHd_of_K (hs.wd.keeps hs.keep).1 hhd
  cases hnf : codeAmong gp ps.toList with
  | some cv => exact wpAny_genexprCode_hit hcode (hcd.code gT ht.tri) hnf (q cv s.heap s.toks ps (fun _ _ _ e => e) gT ⟨ht.tri, fun _ e => .inl e⟩)
  | none =>
    refine wpAny_genexprCodeX hcode (hcd.code gT ht.tri) (hcd.tab gT) hnf fun c' h4 tk4 hx _ _ _ _ htb _ => q _ h4 tk4 _ (fun b o hb e => hx b o hb e) htb.2 ⟨?_, fun cv e => .inl (codeAmong_snoc_ne ht.tri hne (c := .ref c') (by simpa using e))⟩
    have := TriplesOk_snoc gp.line gp.col (.ref c') ps.toList ht.tri
    simpa using this

set_option maxHeartbeats 2000000 in
/-- «sep.join(elt for x in it)» -/
theorem e_joinGen {pl : Sem Bool} {hpOf : Array Value → List (Addr × Mk)} {ps : Array Value} {sep : Str} {k0 : Tok} {cp ap gp pos ip px : Pos} {elt : Expr} {x it : Str} {scope : Scope} {clos : List (Str × Addr)} {l c Tb : Addr} {xs : List Str} {g : Str → Str} {lp : Pos} {lq : Str} {n : Nat} {Q : Av → Sg → Prop}
    (hF : Fn C) (hA : Ok n C.A) (hG : GrowOk C) (hco : scope.isCoroutine = false) (hclos : closureFor scope C.env = pure clos) (hcell : ∀ y ∈ scope.names, y.2 ≠ .cell) (h0 : scope.names.lookup (".0" : Str) = some NameKind.local)
    (hx : scope.names.lookup x = some .local) (hkind : scope.kind = .function) (hk : C.env.kindOf it = some .local) (hloc : (it, some (.ref l)) ∈ loc) (hd : (it == ("__debug__" : Str)) = false)
    (hcode : C.env.code = .ref c) (hhd : codeHdIn C.K c Tb = true)
    (hu : ∀ ps', Upd Tb (.any (tabObj ps)) (.any (tabObj ps')) (hpOf ps) (hpOf ps')) (ht : TabOk lp lq hb ps) (hne : ((gp.line : Int) == (lp.line : Int) && (gp.col : Int) == (lp.col : Int)) = false)
    (hl : (l, .list (xs.map .str)) ∈ hpOf ps)
    (helt : ∀ (A' : Around) (cenv : Env) (s₂ : Shared) (m₂ : Str → Option Value) (y : Str) (t : Tok) (Q' : Value → Shared → Prop) (E' : Value → Shared → Prop), y ∈ xs → A'.handled = none → cenv.kindOf x = some .local → cenv.scope.kind = .function → 0 < s₂.toks →
      s₂.heap.Ns cenv.locals m₂ → m₂ x = some (.str y t) → (∀ t' k, Q' (.str (g y) t') { s₂ with toks := k }) → wpAny (model C.prog C.w) A' (eval elt cenv) Q' E' s₂)
    (hj : JoinOk sep (xs.map g) = true) (hn : xs.length ≤ sizeLine)
    (q : ∀ ps', TabNew lp lq hb hb ps ps' → Q (.str (Txt.join sep (xs.map g))) ⟨hb, loc, hpOf ps'⟩)
    (hs : ∀ v, genFold (.Name it ip) C.env v = pure v := by exact fun _ => rfl)
    (he : eval (.Call (.Attribute (.Constant (.str sep) k0 cp) "join" ap) [.GeneratorExp elt [⟨.Name x px, .Name it ip, [], 0⟩] scope gp] [] pos) C.env = (do
      let ov ← eval (.Constant (.str sep) k0 cp) C.env
      PySem.standAt ap.atName
      let (f, first) ← PySem.holding [ov] (getMethod ov "join" pl)
      callWith pos f first (backTo pos (starEach [.GeneratorExp elt [⟨.Name x px, .Name it ip, [], 0⟩] scope gp] C.env)) (backToKw pos (keywordEach [] C.env))) := by rfl) :
    TV C (eval (.Call (.Attribute (.Constant (.str sep) k0 cp) "join" ap) [.GeneratorExp elt [⟨.Name x px, .Name it ip, [], 0⟩] scope gp] [] pos) C.env) ⟨hb, loc, hpOf ps⟩ Q := by
  refine ⟨fun s hs0 => methodCall_KW (pl := pl) ?_ he⟩
  refine (wpAny_mkText ?_ : wpAny (model C.prog C.w) C.A (mkText sep) _ _ s)
  refine getMethod_builtin (typeIs_str _ _ _) PySem.F.plainAttrs_str PySem.F.slot_str_join PySem.F.type_str_join (fun x e => nomatch e) ?_
  show wpAny (model C.prog C.w) C.A (callWith pos (.builtin "str.join") [.str sep s.toks] [(false, eval (.GeneratorExp elt [⟨.Name x px, .Name it ip, [], 0⟩] scope gp) C.env)] []) _ _ { s with toks := s.toks + 1 }
  refine callWith_of (P := fun _ => True) rfl (fun _ _ => ⟨.machine, .inr (.inl rfl), Looks.of_pure rfl⟩) (evalArgs_plain ?_)
  rw [PySem.spliced.eq_def]
  have hs1 : At C ⟨hb, loc, hpOf ps⟩ { s with toks := s.toks + 1 } := hs0.kept (tk := s.toks + 1) fun _ _ e => e
  generalize hsv : ({ s with toks := s.toks + 1 } : Shared) = s1 at hs1
  generalize s.toks = tk0
  refine wpAny_bind (wpAny_GeneratorExp_make hco hclos hcell h0 hkind hA.room ?_ hs)
  refine T.step (loc_name (Q := fun a σ' => a = .ref l ∧ σ' = ⟨hb, loc, hpOf ps⟩) hF.kind hk hloc hd ⟨rfl, rfl⟩) hs1 fun v σ' s2 _ at2 H_ => ?_
  obtain ⟨a, ha, e1, e2⟩ := H_
  subst e1 e2
  have hv : v = .ref l := ha
  subst hv
  obtain ⟨⟨ol, gl, us, nn, el, eus⟩, nl, bl⟩ := at2.hp l _ hl
  subst el
  refine wpAny_pyIter_list ⟨_, gl, rfl, _, rfl⟩ ?_
  have hI2 := at2.fresh_apart (b := s2.heap.objs.size) (Nat.le_refl _)
  have at3 : At C ⟨hb, loc, hpOf ps⟩ { s2 with heap := s2.heap.push (liO l) } := at2.kept (tk := s2.toks) fun b o e => Heap.get?_push_of_some _ e
  have gI : (s2.heap.push (liO l)).get? s2.heap.objs.size = some (liO l) := Heap.get?_push_size _ rfl
  have gl3 : (s2.heap.push (liO l)).get? l = _ := Heap.get?_push_of_some _ gl
  have hlI : l ≠ s2.heap.objs.size := Nat.ne_of_lt (Heap.lt_size gl)
  show (s2.heap.push (liO l)).NoLimit ∧ wpAny (model C.prog C.w) C.A (genexprCode C.env gp (C.env.qual ++ "<genexpr>") scope) _ _ { s2 with heap := s2.heap.push (liO l) }
  have hsz3 : (s2.heap.push (liO l)).objs.size = s2.heap.objs.size + 1 := Heap.size_push ..
  generalize s2.heap.push (liO l) = H3 at at3 gI gl3 hsz3 ⊢
  have hI3 : s2.heap.objs.size < H3.objs.size := by rw [hsz3]; exact Nat.lt_succ_self _
  obtain ⟨⟨oT, gT, eT, _⟩, nT, bT⟩ := at3.hp Tb _ (hu ps).has
  subst eT
  refine ⟨(at3.wd.keeps at3.keep).2.choose_spec.choose_spec.choose_spec.choose_spec.nolimit, ?_⟩
  refine code_tab at3 hcode hhd hu ht hne fun code h4 tk4 ps' k4 gT4 hnew => ?_
  have at4 : At C ⟨hb, loc, hpOf ps'⟩ { s2 with heap := h4, toks := tk4 } := at3.tab (s' := { s2 with heap := h4, toks := tk4 }) hu k4 gT4 at3.gens rfl
  obtain ⟨X, p, lo, mg, mb, Tp⟩ := at4.wd.keeps at4.keep
  obtain ⟨bm', ob', b1, b2, b3, b4, b5, b6, b7, b8⟩ := (Tp.at gT4).2
  refine wpAny_builtinsFor (by rw [hF.globals]; exact Tp.g) b1 b2 b5 b6 b7 b8 ?_
  intro h' hn' hs'
  refine wpAny_bind (wpAny_pure (wpAny_bind (wpAny_holding ?_)))
  rw [PySem.spliced.eq_def]
  refine wpAny_pure (wpAny_pure ⟨trivial, ?_⟩)
  dsimp only at hn' hs' b1 Tp ⊢
  have hh := hA.1
  have hIT : s2.heap.objs.size ≠ Tb := fun q => by rw [q] at gI; rw [gI] at gT; cases gT
  have hlT : l ≠ Tb := fun q => by rw [q] at gl3; rw [gl3] at gT; cases gT
  have gI4 := k4 _ _ hIT gI
  have gl4 := k4 _ _ hlT gl3
  generalize hIe : s2.heap.objs.size = I at *
  have keep' : ∀ b o, h4.get? b = some o → h'.get? b = some o := fun b o e => hs'.extBut b o (Nat.ne_of_lt (Heap.lt_size e)) (Heap.get?_push_of_some _ e)
  have hsz : h'.objs.size = h4.objs.size + 1 := by rw [hs'.1, Heap.size_push]
  generalize hgen : ({ cls := .type "generator", data := .fields #[.int s2.gens.size 0, .str "<genexpr>" (tk4 + 1), .str (C.env.qual ++ "<genexpr>") (tk4 + 1 + 1)] } : Obj) = G5
  have keep5 : ∀ b o, h4.get? b = some o → (h'.push G5).get? b = some o := fun b o e => Heap.get?_push_of_some _ (keep' b o e)
  have hI4 : I < h4.objs.size := Heap.lt_size gI4
  have hl4 : l < h4.objs.size := Heap.lt_size gl4
  have hc4 : cStatics < h4.objs.size := by obtain ⟨mc, hn, _⟩ := Tp.nolimit; exact hn.lt
  have hlen : us.toArray.size = xs.length := by
    have := Paired.len eus
    simpa using this
  have hsub : ∀ b ∈ [I], b ∈ [I, l, cStatics] := fun b hb => by rw [List.mem_singleton.mp hb]; exact List.mem_cons_self ..
  have hbig : ∀ b ∈ [I, l, cStatics], b < h4.objs.size := ac hI4 (ac hl4 (ac hc4 an))
  have hcI : cStatics ≠ I := fun q => by
    obtain ⟨mc, ⟨o, es, ep, e1, e2, _⟩, _⟩ := Tp.nolimit
    rw [q, gI4] at e1; cases e1; cases e2
  have at5 : At C ⟨hb, loc, hpOf ps'⟩ { heap := h'.push G5, gens := s2.gens.push (.fresh (genBegin elt (.Name it ip) x px scope gp I (genEnv scope clos h4.objs.size code builtinsNs C.env))), drawn := s2.drawn, toks := tk4 + 1 + 1 + 1, os := s2.os } :=
    at4.more keep5 (hG _ _ at4.gens fun h => h.push rfl) rfl
  refine SC.joinGen (WalksS.genexpQ (A := C.A.in1.in1) hh h'.objs.size s2.gens.size h4.objs.size [I, l, cStatics] [I] yes us.toArray.size (fun i y => ∃ t, y = .str (g (xs.getD i ⟨#[]⟩)) t)
      (by rw [hsz]; exact Nat.succ_ne_self _) (fun hm => by have := hbig _ hm; rw [hsz] at this; exact absurd this (by omega)) hsub hA.room (by simp) (Nat.ne_of_lt hc4) (by simp [hcI]))
    (fun i s st => st.1.typeIs)
    (gen_fresh (A := C.A.in1.in1) (cenv := genEnv scope clos h4.objs.size code builtinsNs C.env) hh (fun A' hA' => (Walks.list hA' I l hlI us.toArray).mono_fp (ac (by simp) (ac (by simp) an))) _ hx (by simp [genEnv, hkind]) hco
      (fun hm => Nat.lt_irrefl _ (hbig _ hm)) (fun A' E' i v s₂ m₂ hA' hv h0 hn hm => ?elt) (by rw [← hgen]; exact ⟨_, _, _, Heap.get?_push_size _ rfl, rfl, rfl, rfl⟩) (Array.getElem?_push_size ..)
      ⟨⟨_, keep5 _ _ gI4, rfl, rfl⟩, ⟨_, keep5 _ _ gl4, rfl, _, rfl⟩⟩ (hn'.push _) (Tp.nolimit.keeps keep5))
    (ac (by rw [Heap.size_push]; exact Nat.lt_succ_self _) (ac (by rw [Heap.size_push, hsz]; exact Nat.lt_succ_of_lt (Nat.lt_succ_self _)) fun b hb => by rw [Heap.size_push, hsz]; exact Nat.lt_succ_of_lt (Nat.lt_succ_of_lt (hbig b hb)))) (List.mem_cons_self ..)
    (fun i v ⟨_, _, t, e⟩ => ⟨_, t, e⟩) (fun s' lst hmv hit => ?fin) (by rw [passing_yes, List.length_range, hlen]; exact hn)
  case elt =>
    have hi : i < us.length := by
      have := (Array.getElem?_eq_some_iff.mp hv).1
      simpa using this
    have hix : i < xs.length := by rw [← hlen]; simpa using hi
    obtain ⟨u', hu', hau⟩ := Paired.get eus (i := i) (a := .str xs[i]) (by rw [List.getElem?_map, List.getElem?_eq_getElem hix]; rfl)
    have hv' : us[i]? = some v := by simpa using hv
    rw [hu'] at hv'
    cases hv'
    obtain ⟨t, rfl⟩ := hau
    have hgx : xs.getD i ⟨#[]⟩ = xs[i] := by rw [List.getD_eq_getElem?_getD, List.getElem?_eq_getElem hix]; rfl
    refine helt A' _ s₂ m₂ xs[i] t _ _ (List.getElem_mem hix) hA' hx hkind h0 hn hm fun t' k => ⟨⟨t', by rw [hgx]⟩, s₂.heap, k, rfl, fun _ _ e => e⟩
  case fin =>
    have e1 := items_are hit
    have e2 : (List.range us.toArray.size).map (fun i => g (xs.getD i ⟨#[]⟩)) = xs.map g := by
      rw [hlen]
      refine List.ext_getElem (by simp) fun j h1 h2 => ?_
      have hj : j < xs.length := by simpa using h2
      rw [List.getElem_map, List.getElem_range, List.getElem_map, List.getD_eq_getElem?_getD, List.getElem?_eq_getElem hj]
      rfl
    rw [e2] at e1
    rw [e1]
    refine ⟨hj, fun t' k => ?_⟩
    have aI : hb.get? I = none ∧ I ≠ C.env.locals ∧ I ∉ (hpOf ps').map (·.1) := ⟨hI2.1, hI2.2.1, by rw [(hu ps').names]; exact hI2.2.2⟩
    have aC := at4.fresh_apart (b := h4.objs.size) (Nat.le_refl _)
    refine ⟨⟨hb, loc, hpOf ps'⟩, stays_refl _, ?_, .str _, ⟨t', rfl⟩, q ps' hnew⟩
    refine at5.but' (wr := [h4.objs.size, I]) (fun b hb => ?_) (fun b o hb e => hmv.heap b o hb e) (hG _ _ at5.gens fun h => hmv.gens.bare h) (hmv.os.trans at5.os)
    rcases List.mem_cons.mp hb with e | hb
    · rw [e]; exact aC
    · rw [List.mem_singleton.mp hb]; exact aI
end

set_option maxHeartbeats 4000000
/-! ## The class [&~|], looked for in a text -/
noncomputable def reCode : Array Nat := #[14, 14, 4, 1, 1, 9, 0, 64, 0, 1342177280, 0, 0, 0, 0, 0, 17, 0, 13, 11, 9, 0, 64, 0, 1342177280, 0, 0, 0, 0, 0, 17, 1, 1]
noncomputable def amp (c : Nat) : Bool := c == 38 || c == 124 || c == 126
theorem amp_of {c : Nat} (h : amp c = true) : c = 38 ∨ c = 124 ∨ c = 126 := by
  unfold amp at h
  simpa [or_assoc] using h
theorem amp_bits : ∀ c < 256, (reCode.getD (5 + (1 + c / 32)) 0).testBit (c % 32) = amp c := by decide +kernel
theorem inSet_amp (c : Nat) (seen : Sre.Seen) : ∃ seen', Sre.inSet reCode c reCode.size 5 true seen = .ok (amp c, seen') := by
  show ∃ seen', (if (decide (c < 256) && (reCode.getD (5 + (1 + c / 32)) 0).testBit (c % 32)) = true then Except.ok (true, seen.add 9) else Except.ok (false, (seen.add 9).add 0)) = .ok (amp c, seen')
  by_cases h : c < 256
  · rw [amp_bits c h, decide_eq_true h, Bool.true_and]
    cases amp c
    · exact ⟨_, rfl⟩
    · exact ⟨_, rfl⟩
  · have ha : amp c = false := by
      cases e : amp c with
      | false => rfl
      | true => have := amp_of e; omega
    rw [decide_eq_false h, Bool.false_and, ha]
    exact ⟨_, rfl⟩
/-- the next sign of the class, from a place on -/
noncomputable def nextAmp (text : Array Nat) (lim : Nat) : (fuel s : Nat) → Option Nat
  | 0, _ => none
  | fuel + 1, s => if s ≥ lim then none else if amp (text.getD s 0) then some s else nextAmp text lim fuel (s + 1)
theorem admitted_amp (m : Sre.M) (hc : m.code = reCode) : ∀ (fuel s : Nat) (seen : Sre.Seen), ∃ seen', Sre.M.admitted m fuel s seen = .ok (nextAmp m.text m.lim fuel s, seen')
  | 0, s, seen => ⟨seen, rfl⟩
  | fuel + 1, s, seen => by
    unfold Sre.M.admitted nextAmp
    by_cases h : s ≥ m.lim
    · rw [if_pos h, if_pos h]; exact ⟨_, rfl⟩
    · rw [if_neg h, if_neg h, hc]
      obtain ⟨seen', e⟩ := inSet_amp (m.text.getD s 0) seen
      rw [e]
      cases ha : amp (m.text.getD s 0) with
      | true => exact ⟨_, rfl⟩
      | false => exact admitted_amp m hc fuel (s + 1) seen'
noncomputable def st0 (text : Array Nat) (lim s ls : Nat) (seen : Sre.Seen) : Sre.M :=
  { code := reCode, text := text, lim := lim, start := s, lastStart := ls, pc := 15, pos := s, handed := s, marks := #[none, none], frames := [{ wait := Sre.Wait.nextStart, pc := 15, pos := s, outermost := true }], weight := 1, seen := seen }
noncomputable def st1 (text : Array Nat) (lim s ls : Nat) (seen : Sre.Seen) : Sre.M :=
  { code := reCode, text := text, lim := lim, start := s, lastStart := ls, pc := 17, pos := s, handed := s, marks := #[some s, none], lastmark := 0, frames := [{ wait := Sre.Wait.nextStart, pc := 15, pos := s, outermost := true }], weight := 1, seen := seen }
noncomputable def st2 (text : Array Nat) (lim s ls : Nat) (seen : Sre.Seen) : Sre.M :=
  { code := reCode, text := text, lim := lim, start := s, lastStart := ls, pc := 29, pos := s + 1, handed := s, marks := #[some s, none], lastmark := 0, frames := [{ wait := Sre.Wait.nextStart, pc := 15, pos := s, outermost := true }], weight := 1, seen := seen }
noncomputable def st3 (text : Array Nat) (lim s ls : Nat) (seen : Sre.Seen) : Sre.M :=
  { code := reCode, text := text, lim := lim, start := s, lastStart := ls, pc := 31, pos := s + 1, handed := s, marks := #[some s, some (s + 1)], lastmark := 1, lastindex := 1, frames := [{ wait := Sre.Wait.nextStart, pc := 15, pos := s, outermost := true }], weight := 1, seen := seen }
noncomputable def st4 (text : Array Nat) (lim s ls : Nat) (seen : Sre.Seen) : Sre.M :=
  { code := reCode, text := text, lim := lim, start := s, lastStart := ls, pc := 31, pos := s + 1, handed := s + 1, marks := #[some s, some (s + 1)], lastmark := 1, lastindex := 1, frames := [{ wait := Sre.Wait.nextStart, pc := 15, pos := s, outermost := true }], weight := 1, answer := some true, seen := seen }
theorem step0 (text : Array Nat) (lim s ls : Nat) (seen : Sre.Seen) : (st0 text lim s ls seen).step = st1 text lim s ls (seen.add 17) := rfl
theorem step1 (text : Array Nat) (lim s ls : Nat) (seen : Sre.Seen) (hs : s < lim) (ha : amp (text.getD s 0) = true) : ∃ seen', (st1 text lim s ls seen).step = st2 text lim s ls seen' := by
  show ∃ seen', (if s ≥ lim then _ else match Sre.accepts reCode 17 (text.getD s 0) (seen.add 13) with
    | .error why => _
    | .ok (false, seen) => _
    | .ok (true, seen) => _ : Sre.M) = _
  rw [if_neg (Nat.not_le.mpr hs)]
  rcases amp_of ha with e | e | e <;> rw [e] <;> exact ⟨_, rfl⟩
theorem step2 (text : Array Nat) (lim s ls : Nat) (seen : Sre.Seen) : (st2 text lim s ls seen).step = st3 text lim s ls (seen.add 17) := by
  show Sre.M.mark { st2 text lim s ls seen with seen := seen.add 17 } 1 = _
  unfold Sre.M.mark
  show ({ st2 text lim s ls seen with seen := seen.add 17, marks := (if ((1 : Nat) : Int) ≤ (0 : Int) + 1 then #[some s, none] else _ : Array (Option Nat)).setIfInBounds 1 (some (s + 1)), lastmark := max (0 : Int) ((1 : Nat) : Int), lastindex := 1, pc := 31 } : Sre.M) = _
  rw [if_pos (by decide), show max (0 : Int) ((1 : Nat) : Int) = 1 from by decide]
  rfl
theorem step3 (text : Array Nat) (lim s ls : Nat) (seen : Sre.Seen) : (st3 text lim s ls seen).step = st4 text lim s ls (seen.add 1) := rfl
/-- a machine that has found the sign at s -/
structure FoundAt (m : Sre.M) (s : Nat) : Prop where
  out : m.outcome = some .matched
  start : m.start = s
  handed : m.handed = s + 1
  marks : m.marks = #[some s, some (s + 1)]
  lastmark : m.lastmark = 1
  lastindex : m.lastindex = 1
theorem run4 (text : Array Nat) (lim s ls : Nat) (seen : Sre.Seen) (hs : s < lim) (ha : amp (text.getD s 0) = true) : ∃ seen', Sre.M.runFor 4 (st0 text lim s ls seen) = st4 text lim s ls seen' := by
  show ∃ seen', Sre.M.runFor 3 (st0 text lim s ls seen).step = _
  rw [step0]
  obtain ⟨z, e⟩ := step1 text lim s ls (seen.add 17) hs ha
  show ∃ seen', Sre.M.runFor 2 (st1 text lim s ls (seen.add 17)).step = _
  rw [e]
  show ∃ seen', Sre.M.runFor 1 (st2 text lim s ls z).step = _
  rw [step2]
  show ∃ seen', Sre.M.runFor 0 (st3 text lim s ls (z.add 17)).step = _
  rw [step3]
  exact ⟨_, rfl⟩
theorem run8 (text : Array Nat) (lim s ls : Nat) (seen : Sre.Seen) : FoundAt (Sre.M.runFor 4 (st4 text lim s ls seen)) s := ⟨rfl, rfl, rfl, rfl, rfl, rfl⟩

set_option maxHeartbeats 4000000
open PySem.Builtin PySem.Builtin.Re
section
variable {M : Model} {A : Around} {E : Value → Shared → Prop} {s : Shared}
theorem drive_succ (n : Nat) (m : Sre.M) : reDrive (n + 1) m = if (m.runFor 4).outcome.isSome = true then pure (m.runFor 4) else (rule "sre.turn" >>= fun _ => reDrive n (m.runFor 4)) := rfl
theorem pow64 : (2 : Nat) ^ 64 = 18446744073709551614 + 1 + 1 := rfl
theorem drive1 {m m1 : Sre.M} {Q : Sre.M → Shared → Prop} (h1 : m.runFor 4 = m1) (o1 : m1.outcome.isSome = true) (q : Q m1 s) : wpAny M A (reDrive (2 ^ 64) m) Q E s := by
  rw [pow64, drive_succ, h1, if_pos o1]
  exact wpAny_pure q
theorem drive2 {m m1 m2 : Sre.M} {Q : Sre.M → Shared → Prop} (h1 : m.runFor 4 = m1) (o1 : m1.outcome.isSome = false) (h2 : m1.runFor 4 = m2) (o2 : m2.outcome.isSome = true) (q : Q m2 s) : wpAny M A (reDrive (2 ^ 64) m) Q E s := by
  rw [pow64, drive_succ, h1, if_neg (by rw [o1]; exact Bool.false_ne_true)]
  refine wpAny_bind (wpAny_rule ?_)
  rw [drive_succ, h2, if_pos o2]
  exact wpAny_pure q
theorem run_end {m : Sre.M} {Q : Option Sre.M → Shared → Prop} (h : wpAny M A (reDrive (2 ^ 64) m) (fun m' s' => (m'.outcome = some .matched ∧ Q (some m') s') ∨ (m'.outcome = some .failed ∧ Q none s')) E s) : wpAny M A (reRunToEnd m) Q E s := by
  unfold reRunToEnd
  refine wpAny_bind (wpAny_mono h (fun m' s' H_ => ?_) fun _ _ e => e)
  have loop : ∀ (l : List Nat) (Q' : PUnit → Shared → Prop), Q' ⟨⟩ s' → wpAny M A (forIn l PUnit.unit fun i _ => if m'.seen.has i = true then (rule (Sre.names.getD i "") >>= fun _ => pure (ForInStep.yield PUnit.unit)) else pure (ForInStep.yield PUnit.unit)) Q' E s' := by
    intro l Q' q
    induction l with
    | nil => rw [List.forIn_nil]; exact wpAny_pure q
    | cons a l ih =>
      rw [List.forIn_cons]
      refine wpAny_bind ?_
      by_cases hb : m'.seen.has a = true
      · rw [if_pos hb]
        exact wpAny_bind (wpAny_rule (wpAny_pure ih))
      · rw [if_neg hb]
        exact wpAny_pure ih
  refine wpAny_bind (loop _ _ ?_)
  rcases H_ with ⟨e, q⟩ | ⟨e, q⟩
  · rw [e]; exact wpAny_pure q
  · rw [e]; exact wpAny_pure q
/-- where the search has to look: from start on -/
noncomputable def ampFrom (text : Array Nat) (start : Nat) : Option Nat := nextAmp text text.size (text.size + 1 - start) start
theorem ampFrom_lt {text : Array Nat} {lim : Nat} : ∀ {fuel s p : Nat}, nextAmp text lim fuel s = some p → s ≤ p ∧ p < lim ∧ amp (text.getD p 0) = true
  | 0, _, _, h => nomatch h
  | fuel + 1, s, p, h => by
    unfold nextAmp at h
    by_cases h1 : s ≥ lim
    · rw [if_pos h1] at h; cases h
    · rw [if_neg h1] at h
      by_cases h2 : amp (text.getD s 0) = true
      · rw [if_pos h2] at h; cases h; exact ⟨Nat.le_refl _, Nat.lt_of_not_le h1, h2⟩
      · rw [if_neg h2] at h
        obtain ⟨a, b⟩ := ampFrom_lt h
        exact ⟨Nat.le_of_succ_le a, b⟩
theorem search {text : Array Nat} {start : Nat} {must : Bool} {Q : Option Sre.M → Shared → Prop}
    (q : match ampFrom text start with | some p => ∀ m, FoundAt m p → Q (some m) s | none => Q none s) : wpAny M A (reRunToEnd (Sre.forSearch reCode text 1 start text.size must)) Q E s := by
  refine run_end ?_
  obtain ⟨fr, hfr⟩ : ∃ fr : Sre.M, fr = { code := reCode, text := text, lim := text.size, start := start, lastStart := text.size, pc := 15, pos := start, handed := start, marks := #[none, none], mustAdvance := must, seen := ({} : Sre.Seen).add 14 } := ⟨_, rfl⟩
  have e0 : Sre.forSearch reCode text 1 start text.size must = if (decide (start > text.size) || decide (text.size - start < 1)) = true then { fr with lastStart := 0, answer := some false } else fr.attemptFrom start true := by rw [hfr]; rfl
  rw [e0]
  by_cases h : start ≥ text.size
  · rw [if_pos (by simp only [Bool.or_eq_true, decide_eq_true_eq]; omega)]
    have e : ampFrom text start = none := by
      cases e : ampFrom text start with
      | none => rfl
      | some p => have := ampFrom_lt e; omega
    rw [e] at q
    exact drive1 rfl (by rw [hfr]; rfl) (.inr ⟨by rw [hfr]; rfl, q⟩)
  · rw [if_neg (by simp only [Bool.or_eq_true, decide_eq_true_eq]; omega)]
    obtain ⟨z, ez⟩ := admitted_amp fr (by rw [hfr]) (fr.lim + 1 - start) start fr.seen
    have e1 : fr.attemptFrom start true = match Sre.M.admitted fr (fr.lim + 1 - start) start fr.seen with
      | .ok (some s, seen) => ({ fr with mustAdvance := false, seen } : Sre.M).attemptAt s true
      | .ok (none, seen) => ({ fr with seen } : Sre.M).say false
      | .error why => fr.stick why := by
      show (if (!fr.hasFirstSet) = true then _ else _ : Sre.M) = _
      have hF : fr.hasFirstSet = true := by rw [hfr]; rfl
      rw [if_neg (by rw [hF]; decide)]
      rfl
    rw [e1, ez]
    have e2 : nextAmp fr.text fr.lim (fr.lim + 1 - start) start = ampFrom text start := by rw [hfr]; rfl
    rw [e2]
    cases e : ampFrom text start with
    | none =>
      rw [e] at q
      exact drive1 rfl (by rw [hfr]; rfl) (.inr ⟨by rw [hfr]; rfl, q⟩)
    | some p =>
      rw [e] at q
      obtain ⟨h1, h2, h3⟩ := ampFrom_lt e
      have e3 : ({ fr with mustAdvance := false, seen := z } : Sre.M).attemptAt p true = st0 text text.size p text.size z := by rw [hfr]; rfl
      show wpAny M A (reDrive (2 ^ 64) (({ fr with mustAdvance := false, seen := z } : Sre.M).attemptAt p true)) _ E s
      rw [e3]
      obtain ⟨z', e4⟩ := run4 text text.size p text.size z h2 h3
      have f := run8 text text.size p text.size z'
      exact drive2 e4 rfl rfl (by rw [f.out]; rfl) (.inl ⟨f.out, q _ f⟩)
end

set_option maxHeartbeats 4000000
theorem slot_re_sub : Slot "re.Pattern" "sub" "re.Pattern.sub" :=
  .of (owner := "re.Pattern") (n := "sub") (by rw [typeLookup_type, builtinLookup_eq_fast]; kernel_rfl) (by decide +kernel) (by decide +kernel) (by decide +kernel)
    (by first | exact .inl (by decide +kernel) | exact .inr (by decide +kernel)) (by rw [isSubtype_type]; kernel_rfl)
theorem type_re_sub : typeOf (.builtin "re.Pattern.sub") = pure (.type "method_descriptor") := by show builtinType _ = _; rw [builtinType_eq_fast]; kernel_rfl
theorem entry_re_sub : entryFor table "re.Pattern.sub" = some Builtin.«re.Pattern.sub» := entryFor_of_tree (by kernel_rfl)
theorem entry_re_loop : entryFor table "re.Pattern.sub.loop" = some Builtin.«re.Pattern.sub.loop» := entryFor_of_tree (by kernel_rfl)
theorem attrs_re : PlainAttrs "re.Pattern" := ⟨⟨"object.__getattribute__", by rw [typeLookup_type, builtinLookup_eq_fast]; kernel_rfl, by decide +kernel⟩, by rw [typeLookup_type, builtinLookup_eq_fast]; kernel_rfl⟩
theorem slot_re_group : Slot "re.Match" "group" "re.Match.group" :=
  .of (owner := "re.Match") (n := "group") (by rw [typeLookup_type, builtinLookup_eq_fast]; kernel_rfl) (by decide +kernel) (by decide +kernel) (by decide +kernel)
    (by first | exact .inl (by decide +kernel) | exact .inr (by decide +kernel)) (by rw [isSubtype_type]; kernel_rfl)
theorem type_re_group : typeOf (.builtin "re.Match.group") = pure (.type "method_descriptor") := by show builtinType _ = _; rw [builtinType_eq_fast]; kernel_rfl
theorem entry_re_group : entryFor table "re.Match.group" = some Builtin.«re.Match.group» := entryFor_of_tree (by kernel_rfl)
theorem attrs_match : PlainAttrs "re.Match" := ⟨⟨"object.__getattribute__", by rw [typeLookup_type, builtinLookup_eq_fast]; kernel_rfl, by decide +kernel⟩, by rw [typeLookup_type, builtinLookup_eq_fast]; kernel_rfl⟩
theorem args_re_sub (a b c : Value) : argsOk "re.Pattern.sub" ⟨[a, b, c], []⟩ := by
  unfold argsOk; kernel_rfl
theorem args_re_group (a b : Value) : argsOk "re.Match.group" ⟨[a, b], []⟩ := by
  unfold argsOk; kernel_rfl

set_option maxHeartbeats 4000000
open PySem.Builtin PySem.Builtin.Re
/-- the pattern object of the class -/
structure RePat (h : Heap) (pa : Addr) : Prop where
  ex : ∃ ca vs n items t2 t6, h.get? pa = some { cls := .type "re.Pattern", data := .fields vs } ∧ vs.getD 5 .none = .ref ca ∧ vs.getD 6 .none = .int 0 t6 ∧ vs.getD 2 .none = .int 1 t2 ∧
    (∃ o : Obj, h.get? ca = some o ∧ o.data = .seq items n) ∧ (items.map reRawOf).map (·.toNat) = reCode
theorem RePat.keeps {h h' : Heap} {pa : Addr} (x : RePat h pa) (k : h.StaysIn h') : RePat h' pa :=
  let ⟨ca, vs, n, items, t2, t6, e1, e2, e3, e4, ⟨o, e5, e6⟩, e7⟩ := x.ex
  ⟨ca, vs, n, items, t2, t6, k _ _ e1, e2, e3, e4, ⟨o, k _ _ e5, e6⟩, e7⟩
noncomputable abbrev tgt (pa : Addr) (x : Str) (t : Tok) : ReTarget := ⟨.ref pa, .str x t, reCode, x.cps, 0, 1, 0, x.cps.size⟩
section
variable {M : Model} {A : Around} {E : Value → Shared → Prop} {s : Shared}
theorem whole {pa : Addr} {x : Str} {t : Tok} {Q : ReTarget → Shared → Prop} (hp : RePat s.heap pa) (q : Q (tgt pa x t) s) : wpAny M A (reWholeTarget (.ref pa) (.str x t)) Q E s := by
  obtain ⟨ca, vs, n, items, t2, t6, e1, e2, e3, e4, ⟨o, e5, e6⟩, e7⟩ := hp.ex
  unfold reWholeTarget
  refine wpAny_bind (wpAny_fieldsOf e1 rfl ?_)
  refine wpAny_bind (wpAny_of_eq (rfl : reTextOf (.str x t) = pure (x.cps, 0)) ?_)
  simp only [e3, e2, e4, reRawNat]
  simp only [reNoCollectionInside]
  repeat wp_step
  rw [e6]
  refine wpAny_pure (wpAny_pure (wpAny_pure ?_))
  show Q ⟨.ref pa, .str x t, (items.map reRawOf).map (·.toNat), x.cps, 0, 1, 0, x.cps.size⟩ s
  rw [e7]
  exact q
theorem slice {text : Array Nat} {b e : Nat} {Q : Value → Shared → Prop} (hl : (text.extract b e).size ≤ sizeLine) (q : Q (.str ⟨text.extract b e⟩ s.toks) { s with toks := s.toks + 1 }) : wpAny M A (reSlice text 0 b e) Q E s :=
  wpAny_mkStr q hl
/-- the match object of one sign -/
structure MatchAt (h : Heap) (mo pa : Addr) (x : Str) (t : Tok) (p : Nat) : Prop where
  ex : ∃ tu : Addr, h.get? mo = some { cls := .type "re.Match", data := .fields #[.str x t, .ref pa, rawInt 0, rawInt x.cps.size, rawInt 1, .ref tu] } ∧
    h.get? tu = some { cls := .type "tuple", data := .seq #[rawInt p, rawInt (p + 1 : Nat), rawInt p, rawInt (p + 1 : Nat)] }
theorem new_match {pa : Addr} {x : Str} {t : Tok} {p : Nat} {m : Sre.M} {Q : Value → Shared → Prop} (f : FoundAt m p)
    (q : ∀ mo h', s.heap.StaysIn h' → s.heap.get? mo = none → MatchAt h' mo pa x t p → Q (.ref mo) { s with heap := h' }) : wpAny M A (reNewMatch (.ref pa) (.str x t) 1 0 x.cps.size m) Q E s := by
  unfold reNewMatch
  simp only [f.lastmark, f.marks, f.lastindex, f.start, f.handed]
  rw [if_neg (by show ¬ ((decide (((2 * 0 + 1 : Nat) : Int) ≤ 1) && decide (p + 1 < p) || false) = true); simp)]
  show wpAny M A (newTuple [rawInt (p : Nat), rawInt (p + 1 : Nat), rawInt (p : Nat), rawInt (p + 1 : Nat)] >>= fun tu => newFields "re.Match" [.str x t, .ref pa, rawInt 0, rawInt x.cps.size, rawInt 1, tu]) Q E s
  refine wpAny_bind (wpAny_newTuple ?_ (by rw [sizeLine_eq]; simp))
  simp only [newFields]
  refine wpAny_newObj_type ?_ (by size_fits)
  refine q _ _ (fun b o e => Heap.get?_push_of_some _ (Heap.get?_push_of_some _ e)) (fresh_none _ (by rw [Heap.size_push]; exact Nat.le_succ _)) ⟨s.heap.objs.size, Heap.get?_push_size _ rfl, Heap.get?_push_of_some _ (Heap.get?_push_size _ rfl)⟩
end
/-- «m.group(1)» -/
theorem bc_group {C : Cx} {σ : Sg} {mo pa : Addr} {x : Str} {t : Tok} {p : Nat} {Q : Av → Sg → Prop} (h : MatchAt σ.hb mo pa x t p) (hx : p < x.cps.size) (q : Q (.str (S [x.cps.getD p 0])) σ) : CC C (.builtin "re.Match.group") [.ref mo, .int 1] σ Q := by
  intro vs hvs
  obtain ⟨v, u, rfl, hv, ⟨ti, rfl⟩⟩ := Avs.two hvs
  have hv' : v = .ref mo := hv
  subst hv'
  refine ⟨fun s hs => ?_⟩
  obtain ⟨tu, g1, g2⟩ := h.ex
  have g1 := hs.hbget g1
  have g2 := hs.hbget g2
  refine wpAny_call_entry slot_re_group ⟨_, g1, rfl⟩ entry_re_group ?_ (args_re_group _ _)
  have hsl : (x.cps.extract p (p + 1)).toList = [x.cps.getD p 0] := by
    rw [Array.toList_extract, List.extract_eq_take_drop, Nat.add_sub_cancel_left]
    have hx' : p < x.cps.toList.length := by simpa using hx
    rw [List.drop_eq_getElem_cons hx']
    simp [Array.getD, hx]
  have hs1 : (⟨x.cps.extract p (p + 1)⟩ : Str) = S [x.cps.getD p 0] := congrArg Str.mk (Array.ext' (by rw [hsl]))
  show wpAny _ _ (do
      let y ← reFound (.ref mo)
      let n ← reGroupNumber y (.int 1 ti)
      let z ← reGroupText y n .none
      PySem.ret z) _ _ s
  unfold reFound
  refine wpAny_bind (wpAny_bind (wpAny_fieldsOf g1 rfl (wpAny_bind ?_)))
  show wpAny _ _ (reRawItems (.ref tu)) _ _ s
  unfold reRawItems
  refine wpAny_bind (wpAny_seqItems g2 rfl (wpAny_pure (wpAny_pure ?_)))
  refine wpAny_bind ?_
  have hsp : (Array.map reRawOf ((some #[rawInt (p : Nat), rawInt (p + 1 : Nat), rawInt (p : Nat), rawInt (p + 1 : Nat)]).getD #[])) = #[(p : Int), ((p + 1 : Nat) : Int), (p : Int), ((p + 1 : Nat) : Int)] := by simp [reRawOf, rawInt]
  rw [hsp]
  unfold reGroupNumber
  refine wpAny_bind (wpAny_of_eq (rfl : asInt? (.int 1 ti) = pure (some 1)) ?_)
  refine wpAny_bind (wpAny_of_eq (rfl : asIndex (.int 1 ti) = pure 1) ?_)
  refine wpAny_pure ?_
  unfold reGroupText
  show wpAny _ _ (((if (decide ((p : Int) < 0) || decide (((p + 1 : Nat) : Int) < 0)) = true then pure Value.none else do
      let (text, kind) ← reTextOf (.str x t)
      reSlice text kind (p : Int).toNat ((p + 1 : Nat) : Int).toNat) : Sem Value) >>= fun z => PySem.ret z) _ _ s
  rw [if_neg (by simp; omega)]
  refine wpAny_bind (wpAny_bind (wpAny_of_eq (rfl : reTextOf (.str x t) = pure (x.cps, 0)) ?_))
  show wpAny _ _ (reSlice x.cps 0 p (p + 1)) _ _ s
  refine slice (by rw [show (x.cps.extract p (p + 1)).size = 1 from by rw [← Array.length_toList, hsl]; rfl, sizeLine_eq]; decide) (wpAny_pure ⟨_, rfl, ?_⟩)
  rw [hs1]
  exact ⟨σ, stays_refl _, hs.kept (tk := s.toks + 1) fun _ _ e => e, _, isS, q⟩

set_option maxHeartbeats 4000000
noncomputable abbrev lamArgs (p : Pos) : Arguments := { posonlyargs := [], args := [{ arg := "_m", annotation := none, pos := p }], vararg := none, kwonlyargs := [], kw_defaults := [], kwarg := none, defaults := [] }
noncomputable abbrev lamScope : Scope := { kind := .function, names := [("_m", .local)], isGenerator := false, isCoroutine := false }
/-- (the call's own place: all on one line) -/
noncomputable abbrev lamBody (p1 p2 p4 p6 p7 p8 : Pos) (p3 p5 : Nat) : Expr :=
  .BinOp (.Constant (.str "\\") 0 p1) .Add (.BoolOp .Or [.Call (.Attribute (.Name "_m" p2) "group" ⟨63, p3, 63, p5⟩) [.Constant (.int 1) 0 p4] [] ⟨63, p3, 63, p5 + 3⟩, .Constant (.str "") 0 p6] p7) p8
/-- the lambda's function object -/
structure LamAt (h : Heap) (f : Addr) : Prop where
  ex : ∃ lq pa p1 p2 p3 p4 p5 p6 p7 p8 pm cv ctv, h.get? f = some { cls := .type "function", data := .func (kla_fn "<lambda>" lq (lamArgs pa) (lamBody p1 p2 p4 p6 p7 p8 p3 p5) lamScope [] pm cv ctv) } ∧ h.CodeRec cv lq
theorem LamAt.keeps {h h' : Heap} {f : Addr} (x : LamAt h f) (k : h.StaysIn h') : LamAt h' f :=
  let ⟨lq, pa, p1, p2, p3, p4, p5, p6, p7, p8, pm, cv, ctv, e, r⟩ := x.ex
  ⟨lq, pa, p1, p2, p3, p4, p5, p6, p7, p8, pm, cv, ctv, k _ _ e, CodeRec.keeps r k⟩
theorem t_str1 {C : Cx} {σ : Sg} {c : Nat} {Q : Bool → Sg → Prop} (q : Q true σ) : OB C truthy (.str (S [c])) σ Q := by
  rintro _ ⟨t, rfl⟩
  refine ⟨fun s hs => ?_⟩
  exact PySem.P.truthy_str (by rw [S_len]; show ¬ ((1 : Nat) : Int) ≥ 2 ^ 63; decide) ⟨σ, stays_refl _, hs.kept (tk := s.toks + 1 + 1) fun _ _ e => e, by rw [S_len]; exact q⟩
theorem lam_call {prog : Program} {w : World} {A : Around} {K : Frag} {s : Shared} {f mo pa : Addr} {x : Str} {t : Tok} {p : Nat} {E : Value → Shared → Prop} {Q : Value → Shared → Prop} (hA : Ok 2 A) (hW : Wd K s.heap) (hf : LamAt s.heap f) (hm : MatchAt s.heap mo pa x t p) (hx : p < x.cps.size)
    (q : ∀ t' s', s.heap.StaysIn s'.heap → s'.gens = s.gens → s'.os = s.os → Q (.str (S [92, x.cps.getD p 0]) t') s') : wpAny (model prog w) A (call (.ref f) [.ref mo] []) Q E s := by
  obtain ⟨lq, pa', p1, p2, p3, p4, p5, p6, p7, p8, pm, cv, ctv, hg, hcd⟩ := hf.ex
  obtain ⟨X, pr, lo, mg, mb, Tp⟩ := id hW
  refine wpAny_call (kla_callFunE hA.room hg rfl rfl rfl rfl hcd ?_)
  show wpAny _ _ (bindArgs (kla_fn "<lambda>" lq (lamArgs pa') (lamBody p1 p2 p4 p6 p7 p8 p3 p5) lamScope [] pm cv ctv) ⟨[.ref mo], []⟩) _ _ s
  rw [show bindArgs (kla_fn "<lambda>" lq (lamArgs pa') (lamBody p1 p2 p4 p6 p7 p8 p3 p5) lamScope [] pm cv ctv) ⟨[.ref mo], []⟩ = (pure [(("_m" : Str), Value.ref mo)] : Sem (List (Str × Value))) from rfl]
  refine wpAny_pure (wpAny_newFunctionEnv (show ∀ y ∈ lamScope.names, y.2 ≠ .cell by decide) (by intro y hy; rw [List.mem_singleton.mp hy]; rfl) (fun h₁ hns hsb => ⟨(Tp.nolimit).fresh _ hsb, ?_⟩) rfl)
  show codeAny _ _ (.expr (lamBody p1 p2 p4 p6 p7 p8 p3 p5) (envX lq lamScope s.heap.objs.size f cv [])) _ _
  have hk₁ : s.heap.StaysIn h₁ := fun b o e => hsb.extBut b o (Nat.ne_of_lt (Heap.lt_size e)) (Heap.get?_push_of_some _ e)
  have hC : At ⟨prog, w, A.deeper (envX lq lamScope s.heap.objs.size f cv []), envX lq lamScope s.heap.objs.size f cv [], K, (· = s.gens), s.os⟩ ⟨s.heap, [("_m", some (.ref mo))], []⟩ { s with heap := h₁, toks := s.toks + [(("_m" : Str), Value.ref mo)].length } :=
    ⟨⟨_, hns, fun x a hm => by rw [List.mem_singleton] at hm; cases hm; exact ⟨_, rfl, rfl⟩⟩, hk₁, fresh_none _ (Nat.le_refl _), by simp, fun _ _ hm => (by cases hm), List.nodup_nil, hW, rfl, rfl⟩
  have body : TV ⟨prog, w, A.deeper (envX lq lamScope s.heap.objs.size f cv []), envX lq lamScope s.heap.objs.size f cv [], K, (· = s.gens), s.os⟩ (eval (lamBody p1 p2 p4 p6 p7 p8 p3 p5) (envX lq lamScope s.heap.objs.size f cv [])) ⟨s.heap, [("_m", some (.ref mo))], []⟩ (fun a σ' => a = .str (S [92, x.cps.getD p 0])) := by
    refine e_binop (e_str (e_or2 (e_meth ⟨attrs_match, slot_re_group, type_re_group⟩ rfl ?_)))
    refine loc_name rfl rfl (List.mem_cons_self ..) (by decide +kernel) ⟨fun v s hv hs => ?_, tl_cons (e_int (tl_nil (bc_group hm hx ?_)))⟩
    · have hv' : v = .ref mo := hv
      subst hv'
      obtain ⟨tu, g1, g2⟩ := hm.ex
      exact ⟨⟨_, hs.hbget g1, rfl⟩, fun x e => by cases e; exact ⟨_, hs.hbget g1, rfl⟩⟩
    · refine t_str1 ⟨fun _ => o_sadd (by rw [show (Str.ofString "\\") = S [92] from rfl, S_len, S_len, sizeLine_eq]; show 1 + 1 ≤ 16777216; decide) ?_, fun e => Bool.noConfusion e⟩
      rfl
  refine kla_codeExpr (wpAny_mono (body.run _ hC) (fun v s' H_ => ?_) fun _ _ e => e.elim)
  obtain ⟨σ', k1, k2, a, ha, e⟩ := H_
  subst e
  obtain ⟨t', rfl⟩ := ha
  exact q t' s' (fun b o e => k2.keep _ _ (k1 _ _ e)) k2.gens k2.os

set_option maxHeartbeats 4000000
open PySem.Builtin PySem.Builtin.Re
noncomputable def eamp (c : Nat) : List Nat := if amp c then [92, c] else [c]
theorem nextAmp_none {text : Array Nat} {lim : Nat} : ∀ {fuel s : Nat}, lim < fuel + s → nextAmp text lim fuel s = none → ∀ i, s ≤ i → i < lim → amp (text.getD i 0) = false
  | 0, s, hf, _, i, h1, h2 => absurd h2 (by omega)
  | fuel + 1, s, hf, h, i, h1, h2 => by
    unfold nextAmp at h
    rw [if_neg (by omega)] at h
    by_cases ha : amp (text.getD s 0) = true
    · rw [if_pos ha] at h; cases h
    · rw [if_neg ha] at h
      by_cases e : i = s
      · subst e; simpa using ha
      · exact nextAmp_none (by omega) h i (by omega) h2
theorem nextAmp_before {text : Array Nat} {lim : Nat} : ∀ {fuel s p : Nat}, nextAmp text lim fuel s = some p → ∀ i, s ≤ i → i < p → amp (text.getD i 0) = false
  | 0, _, _, h, _, _, _ => nomatch h
  | fuel + 1, s, p, h, i, h1, h2 => by
    unfold nextAmp at h
    by_cases h0 : s ≥ lim
    · rw [if_pos h0] at h; cases h
    · rw [if_neg h0] at h
      by_cases ha : amp (text.getD s 0) = true
      · rw [if_pos ha] at h; cases h; omega
      · rw [if_neg ha] at h
        by_cases e : i = s
        · subst e; simpa using ha
        · exact nextAmp_before h i (by omega) h2
theorem eamp_none {l : List Nat} (h : ∀ c ∈ l, amp c = false) : l.flatMap eamp = l := by
  induction l with
  | nil => rfl
  | cons c r ih =>
    rw [List.flatMap_cons, ih fun c hc => h c (List.mem_cons_of_mem _ hc)]
    unfold eamp
    rw [h c (List.mem_cons_self ..)]
    rfl
theorem getD_S (ys : List Nat) (i : Nat) : (S ys).cps.getD i 0 = ys.getD i 0 := by
  show ys.toArray.getD i 0 = _
  simp [Array.getD, List.getD_eq_getElem?_getD]
  split
  · rename_i h; rw [List.getElem?_eq_getElem h]; rfl
  · rename_i h; rw [List.getElem?_eq_none (by omega)]; rfl
theorem sub_none {ys : List Nat} {start : Nat} (h : ampFrom (S ys).cps start = none) : (ys.drop start).flatMap eamp = ys.drop start := by
  refine eamp_none fun c hc => ?_
  obtain ⟨i, hi, e⟩ := List.mem_iff_getElem.mp hc
  rw [List.length_drop] at hi
  have hz : (S ys).cps.size = ys.length := S_len ys
  have := nextAmp_none (text := (S ys).cps) (lim := (S ys).cps.size) (by omega) h (start + i) (by omega) (by omega)
  rw [getD_S, List.getD_eq_getElem?_getD, List.getElem?_eq_getElem (by omega)] at this
  rw [List.getElem_drop] at e
  rw [← e]
  exact this
theorem sub_some {ys : List Nat} {start p : Nat} (h : ampFrom (S ys).cps start = some p) : start ≤ p ∧ p < ys.length ∧ amp (ys.getD p 0) = true ∧ (ys.drop start).flatMap eamp = (ys.drop start).take (p - start) ++ ([92, ys.getD p 0] ++ (ys.drop (p + 1)).flatMap eamp) := by
  obtain ⟨h1, h2, h3⟩ := ampFrom_lt h
  have hz : (S ys).cps.size = ys.length := S_len ys
  rw [hz] at h2
  rw [getD_S] at h3
  refine ⟨h1, h2, h3, ?_⟩
  have e1 : ys.drop start = (ys.drop start).take (p - start) ++ ys.getD p 0 :: ys.drop (p + 1) := by
    conv => lhs; rw [← List.take_append_drop (p - start) (ys.drop start)]
    rw [List.drop_drop, show start + (p - start) = p by omega, List.drop_eq_getElem_cons h2, List.getD_eq_getElem?_getD, List.getElem?_eq_getElem h2]
    rfl
  have e2 : ((ys.drop start).take (p - start)).flatMap eamp = (ys.drop start).take (p - start) := by
    refine eamp_none fun c hc => ?_
    obtain ⟨i, hi, e⟩ := List.mem_iff_getElem.mp hc
    rw [List.length_take, List.length_drop] at hi
    have := nextAmp_before h (start + i) (by omega) (by omega)
    rw [getD_S, List.getD_eq_getElem?_getD, List.getElem?_eq_getElem (by omega)] at this
    rw [List.getElem_take, List.getElem_drop] at e
    rw [← e]
    exact this
  conv => lhs; rw [e1]
  rw [List.flatMap_append, e2, List.flatMap_cons]
  congr 1
  unfold eamp
  rw [h3]
  rfl
theorem Ok.in1 {n : Nat} {A : Around} (h : Ok (n + 1) A) : Ok n A.in1 :=
  ⟨h.1, by have := h.2.1; show A.depth + n ≤ 900; omega, by have := h.2.2; show A.units + 1 + 10 * n ≤ 9000; omega⟩
noncomputable abbrev lpArgs (pa f D : Addr) (ys : List Nat) (t : Tok) (n : Int) (start : Nat) (must : Bool) : Args := ⟨[.ref pa, .str (S ys) t, .ref f, rawInt 1, rawInt 0, rawInt n, rawInt start, rawInt start, .bool must, .ref D, .bool false], []⟩
theorem push_at {C : Cx} {hb : Heap} {loc : List (Str × Option Av)} {A : Around} {E : Value → Shared → Prop} {D : Addr} {acc : List Av} {hp : List (Addr × Mk)} {v : Value} {a : Av} {s : Shared} {Q : Unit → Shared → Prop} (hs : At C ⟨hb, loc, (D, .list acc) :: hp⟩ s) (hv : Av.is a v) (hl : acc.length < sizeLine)
    (q : ∀ s', At C ⟨hb, loc, (D, .list (acc ++ [a])) :: hp⟩ s' → Q () s') : wpAny (model C.prog C.w) A (updateSeq D fun x => x.push v) Q E s := by
  obtain ⟨⟨o, e, vs, n, ho, hvs⟩, _⟩ := hs.hp D _ (.head _)
  subst ho
  have hz : vs.toArray.size = acc.length := by simp [Paired.len hvs]
  have e2 : (s.heap.update D (Obj.mapSeq fun x => x.push v)).get? D = some { cls := .type "list", data := .seq (vs ++ [v]).toArray (n + 1) } := by
    rw [Heap.get?_update_self _ e rfl]
    simp [Obj.mapSeq]
  refine wpAny_updateSeq e rfl (q _ (hs.upd (tk := s.toks) (.here) (Heap.SameBut.update ..) ⟨_, e2, vs ++ [v], n + 1, rfl, Paired.app hvs (.cons hv .nil)⟩)) (by rw [hz]; exact Nat.le_of_lt hl) (by simp only [Array.size_push]; rw [hz]; exact Nat.succ_le_succ (Nat.le_of_lt hl))
theorem S_of (z : Str) : S z.cps.toList = z := by cases z; simp [S]
theorem join_flat (acc : List Str) : Txt.join (S []) acc = S (acc.map fun z => z.cps.toList).flatten := by
  have e : acc = (acc.map fun z => z.cps.toList).map S := by
    rw [List.map_map]
    conv => lhs; rw [← List.map_id acc]
    exact List.map_congr_left fun z _ => (S_of z).symm
  conv => lhs; rw [e]
  rw [txt_join, jn_nil]
theorem len_flat (acc : List Str) : (acc.map (·.length)).sum = (acc.map fun z => z.cps.toList).flatten.length := by
  rw [List.length_flatten, List.map_map]
  rfl
/-- the pieces are joined -/
theorem sub_end {C : Cx} {hb : Heap} {loc : List (Str × Option Av)} {hp : List (Addr × Mk)} {D : Addr} {acc : List Str} {ys tot : List Nat} {n : Int} {s : Shared} {E : Value → Shared → Prop} {Q : Fin → Shared → Prop} (hs : At C ⟨hb, loc, (D, .list (acc.map .str)) :: hp⟩ s) (htot : (acc.map fun z => z.cps.toList).flatten = tot) (htl : tot.length ≤ 100000) (hac : acc.length ≤ 100000)
    (q : ∀ s' t', At C ⟨hb, loc, hp⟩ s' → Q (.done (.ret (.str (S tot) t'))) s') :
    wpAny (model C.prog C.w) C.A.in1 (do
      let joiner ← reSlice ys.toArray 0 0 0
      let items ← seqItems? (Value.ref D)
      if (items.getD #[]).isEmpty = true then do
        let text ← pure joiner
        if false = true then do
          let r ← holding [text] do
            let i ← mkInt n
            newTuple [text, i]
          ret r
        else ret text
      else do
        let text ← call (Value.builtin (if (0 == 0) = true then "str.join" else "bytes.join")) [joiner, Value.ref D]
        if false = true then do
          let r ← holding [text] do
            let i ← mkInt n
            newTuple [text, i]
          ret r
        else ret text) Q E s := by
  have h0 : (⟨ys.toArray.extract 0 0⟩ : Str) = S [] := congrArg Str.mk (by apply Array.ext'; simp)
  refine wpAny_bind (slice (by rw [show (ys.toArray.extract 0 0).size = 0 by simp]; exact Nat.zero_le _) ?_)
  rw [h0]
  have hs1 : At C ⟨hb, loc, (D, .list (acc.map .str)) :: hp⟩ { s with toks := s.toks + 1 } := hs.kept (tk := s.toks + 1) fun _ _ e => e
  generalize ({ s with toks := s.toks + 1 } : Shared) = s1 at hs1
  generalize s.toks = tk
  obtain ⟨⟨o, e, vs, n', ho, hvs⟩, _⟩ := hs1.hp D _ (.head _)
  subst ho
  refine wpAny_bind (wpAny_seqItems e rfl ?_)
  have hz := Paired.len hvs
  rw [List.length_map] at hz
  cases acc with
  | nil =>
    have hvn : vs = [] := List.length_eq_zero_iff.mp hz
    subst hvn
    rw [if_pos (by rfl)]
    refine wpAny_bind (wpAny_pure ?_)
    rw [if_neg (by decide)]
    have : tot = [] := by rw [← htot]; rfl
    subst this
    exact wpAny_pure (q s1 _ (hs1.drop .here))
  | cons z r =>
    rw [if_neg (by cases vs with
      | nil => simp at hz
      | cons a b => simp)]
    refine wpAny_bind ?_
    rw [if_pos (by decide)]
    have key := (bc_join (C := { C with A := C.A.in1 }) (σ := ⟨hb, loc, (D, .list ((z :: r).map .str)) :: hp⟩) (x := S []) (a := D) (ys := z :: r) (Q := fun a σ' => a = .str (S tot) ∧ σ' = ⟨hb, loc, (D, .list ((z :: r).map .str)) :: hp⟩) (.inl (.head _)) rfl (by rw [S_len]; decide) (by rw [len_flat, htot]; omega) ⟨by rw [join_flat, htot], rfl⟩ [.str (S []) tk, .ref D] (.cons ⟨tk, rfl⟩ (.cons isR .nil)))
    have hs2 : At { C with A := C.A.in1 } ⟨hb, loc, (D, .list ((z :: r).map .str)) :: hp⟩ s1 := ⟨hs1.fr, hs1.keep, hs1.off, hs1.nd, hs1.hp, hs1.hnd, hs1.wd, hs1.gens, hs1.os⟩
    refine T.step key hs2 fun v σ' s2 _ at2 H_ => ?_
    obtain ⟨a, ha, e1, e2⟩ := H_
    subst e1 e2
    obtain ⟨t', rfl⟩ := ha
    rw [if_neg (by decide)]
    have at3 : At C ⟨hb, loc, (D, .list ((z :: r).map .str)) :: hp⟩ s2 := ⟨at2.fr, at2.keep, at2.off, at2.nd, at2.hp, at2.hnd, at2.wd, at2.gens, at2.os⟩
    exact wpAny_pure (q s2 t' (at3.drop .here))
theorem quiet_loop (args : Args) : (Code.builtin "re.Pattern.sub.loop" args).quiet = true := by first | rfl | decide +kernel | exact plainId_quiet (by decide +kernel) args
theorem sub_loop {C : Cx} {hb : Heap} {loc : List (Str × Option Av)} {hp : List (Addr × Mk)} {pa f D : Addr} {ys tot : List Nat} {t : Tok} (hP : RePat hb pa) (hf : LamAt hb f) (hA : Ok 3 C.A) (hlen : ys.length ≤ 1000) (htl : tot.length ≤ 100000) :
    ∀ (k start : Nat) (acc : List Str) (n : Int) (must : Bool) (s : Shared) (R : Result → Shared → Prop), ys.length - start ≤ k → start ≤ ys.length → acc.length ≤ 2 * start → At C ⟨hb, loc, (D, .list (acc.map .str)) :: hp⟩ s →
      (acc.map fun z => z.cps.toList).flatten ++ (ys.drop start).flatMap eamp = tot → (∀ s' t', At C ⟨hb, loc, hp⟩ s' → R (.ok (.ret (.str (S tot) t'))) s') → codeAny (model C.prog C.w) C.A (.builtin "re.Pattern.sub.loop" (lpArgs pa f D ys t n start must)) R s := by
  intro k
  induction k using Nat.strongRecOn with
  | ind k ih =>
    intro start acc n must s R hk hst hac hs htot q
    refine codeAny_builtin entry_re_loop ?_
    rw [Around.under_plainId (by decide +kernel)]
    unfold Builtin.«re.Pattern.sub.loop»
    dsimp only [lpArgs, rawInt]
    refine wpAny_bind (whole (hP.keeps hs.keep) ?_)
    rw [if_neg (by decide), if_neg (by simp)]
    have hst' : ((start : Nat) : Int).toNat = start := rfl
    simp only [hst']
    refine wpAny_bind (search (text := (S ys).cps) ?_)
    have hz : (S ys).cps.size = ys.length := S_len ys
    cases e : ampFrom (S ys).cps start with
    | none =>
      have e1 := sub_none e
      rw [e1] at htot
      dsimp only
      by_cases hsp : start < ys.length
      · rw [if_pos (by simpa using hsp)]
        have hsl : (⟨ys.toArray.extract start ys.toArray.size⟩ : Str) = S (ys.drop start) := congrArg Str.mk (by apply Array.ext'; rw [Array.toList_extract, List.extract_eq_take_drop]; show List.take (ys.toArray.size - start) (List.drop start ys) = List.drop start ys; exact List.take_of_length_le (by simp))
        refine wpAny_bind (slice (by rw [show (ys.toArray.extract start ys.toArray.size).size = (⟨ys.toArray.extract start ys.toArray.size⟩ : Str).length from rfl, hsl, S_len, sizeLine_eq, List.length_drop]; omega) ?_)
        refine wpAny_bind (push_at (acc := acc.map .str) (a := .str (S (ys.drop start))) (hs.kept (tk := s.toks + 1) fun _ _ e => e) ⟨_, by rw [hsl]⟩ (by rw [sizeLine_eq, List.length_map]; omega) fun s1 b1 => ?_)
        have b1' : At C ⟨hb, loc, (D, .list ((acc ++ [S (ys.drop start)]).map .str)) :: hp⟩ s1 := by rw [List.map_append]; exact b1
        exact sub_end b1' (by rw [← htot]; simp) htl (by rw [List.length_append]; simp only [List.length_cons, List.length_nil]; omega) fun s' t' h => q s' t' h
      · rw [if_neg (by simpa using hsp)]
        rw [List.drop_eq_nil_of_le (by omega), List.append_nil] at htot
        exact sub_end hs htot htl (by omega) fun s' t' h => q s' t' h
    | some p =>
      obtain ⟨h1, h2, h3, h4⟩ := sub_some e
      rw [h4] at htot
      intro m fm
      dsimp only
      simp only [fm.start, fm.handed]
      by_cases hsp : start < p
      · rw [if_pos hsp]
        have hsl : (⟨(S ys).cps.extract start p⟩ : Str) = S ((ys.drop start).take (p - start)) := congrArg Str.mk (by apply Array.ext'; simp [List.extract_eq_take_drop])
        refine wpAny_bind (slice (by rw [show ((S ys).cps.extract start p).size = (⟨(S ys).cps.extract start p⟩ : Str).length from rfl, hsl, S_len, sizeLine_eq, List.length_take, List.length_drop]; omega) ?_)
        refine wpAny_bind (push_at (acc := acc.map .str) (a := .str (S ((ys.drop start).take (p - start)))) (hs.kept (tk := s.toks + 1) fun _ _ e => e) ⟨_, by rw [hsl]⟩ (by rw [sizeLine_eq, List.length_map]; omega) fun s1 b1 => ?_)
        have b1' : At C ⟨hb, loc, (D, .list ((acc ++ [S ((ys.drop start).take (p - start))]).map .str)) :: hp⟩ s1 := by rw [List.map_append]; exact b1
        rw [if_neg (by decide)]
        refine wpAny_bind (new_match fm fun mo h' kh hmo hMA => ?_)
        have a1 : At C ⟨hb, loc, (D, .list ((acc ++ [S ((ys.drop start).take (p - start))]).map .str)) :: hp⟩ { s1 with heap := h' } := b1'.kept (tk := s1.toks) kh
        refine wpAny_bind (wpAny_holding ?_)
        rw [if_pos (by decide)]
        refine lam_call (K := C.K) hA.in1 (a1.wd.keeps a1.keep) (hf.keeps a1.keep) hMA (by rw [hz]; exact h2) fun t' s2 k2 g2 o2 => ?_
        have a2 := a1.after k2 g2 o2
        rw [if_pos (by rfl)]
        refine wpAny_bind (push_at (acc := (acc ++ [S ((ys.drop start).take (p - start))]).map .str) (a := .str (S [92, ys.getD p 0])) a2 ⟨t', by rw [getD_S]⟩ (by rw [sizeLine_eq]; simp only [List.length_map, List.length_append, List.length_cons, List.length_nil]; omega) fun s3 a3 => ?_)
        refine wpAny_pure ⟨?quiet, ?_⟩
        rotate_left
        · refine ih (k - 1) (by omega) (p + 1) ((acc ++ [S ((ys.drop start).take (p - start))]) ++ [S [92, ys.getD p 0]]) (n + 1) _ s3 R (by omega) (by omega) (by simp only [List.length_append, List.length_cons, List.length_nil]; omega) (by rw [List.map_append]; exact a3) ?_ q
          rw [← htot]; simp
        case quiet => exact quiet_loop _
      · rw [if_neg hsp]
        have hp0 : p - start = 0 := by omega
        rw [hp0] at htot
        rw [if_neg (by decide)]
        refine wpAny_bind (new_match fm fun mo h' kh hmo hMA => ?_)
        have a1 : At C ⟨hb, loc, (D, .list ((acc).map .str)) :: hp⟩ { s with heap := h' } := hs.kept (tk := s.toks) kh
        refine wpAny_bind (wpAny_holding ?_)
        rw [if_pos (by decide)]
        refine lam_call (K := C.K) hA.in1 (a1.wd.keeps a1.keep) (hf.keeps a1.keep) hMA (by rw [hz]; exact h2) fun t' s2 k2 g2 o2 => ?_
        have a2 := a1.after k2 g2 o2
        rw [if_pos (by rfl)]
        refine wpAny_bind (push_at (acc := acc.map .str) (a := .str (S [92, ys.getD p 0])) a2 ⟨t', by rw [getD_S]⟩ (by rw [sizeLine_eq, List.length_map]; omega) fun s3 a3 => ?_)
        refine wpAny_pure ⟨?quiet, ?_⟩
        rotate_left
        · refine ih (k - 1) (by omega) (p + 1) ((acc) ++ [S [92, ys.getD p 0]]) (n + 1) _ s3 R (by omega) (by omega) (by simp only [List.length_append, List.length_cons, List.length_nil]; omega) (by rw [List.map_append]; exact a3) ?_ q
          rw [← htot]; simp
        case quiet => exact quiet_loop _

set_option maxHeartbeats 4000000
open PySem.Builtin PySem.Builtin.Re
theorem called_fn : ∃ id, typeLookup (.type "function") "__call__" = pure (some (.builtin id)) := ⟨"function.__call__", by rw [typeLookup_type, builtinLookup_eq_fast]; kernel_rfl⟩
theorem named_sub (f x : Value) : reNamed "re.Pattern.sub" "sub" ["repl", "string", "count"] 2 [f, x] [] = pure [some f, some x, none] := by rfl
theorem eamp_len (ys : List Nat) : (ys.flatMap eamp).length ≤ 2 * ys.length := by
  induction ys with
  | nil => exact Nat.le_refl _
  | cons c r ih =>
    rw [List.flatMap_cons, List.length_append, List.length_cons]
    have : (eamp c).length ≤ 2 := by unfold eamp; split <;> simp
    omega
theorem bc_sub {C : Cx} {σ : Sg} {pa f : Addr} {ys : List Nat} {Q : Av → Sg → Prop} (hP : RePat σ.hb pa) (hf : LamAt σ.hb f) (hA : Ok 4 C.A) (hlen : ys.length ≤ 1000) (q : Q (.str (S (ys.flatMap eamp))) σ) : CC C (.builtin "re.Pattern.sub") [.raw (.ref pa), .ref f, .str (S ys)] σ Q := by
  intro vs hvs
  obtain ⟨v, u, x, rfl, hv, hu, ⟨t, rfl⟩⟩ := Avs.three hvs
  have hv' : v = .ref pa := hv
  have hu' : u = .ref f := hu
  subst hv' hu'
  obtain ⟨hb, loc, hp⟩ := σ
  refine ⟨fun s hs => ?_⟩
  obtain ⟨ca, vs', n, items, t2, t6, e1, _⟩ := (hP.keeps hs.keep).ex
  obtain ⟨lq, pa', p1, p2, p3, p4, p5, p6, p7, p8, pm, cv, ctv, hg, _⟩ := (hf.keeps hs.keep).ex
  refine wpAny_call (codeAny_call_builtin slot_re_sub.plain entry_re_sub (slot_re_sub.check _ _ _ _ _ _ _ _ ⟨_, e1, rfl⟩ (args_re_sub _ _ _) ?_))
  show wpAny (model C.prog C.w) C.A.in1 (reSubstitute "re.Pattern.sub" "sub" false ⟨[.ref pa, .ref f, .str (S ys) t], []⟩) _ _ s
  unfold reSubstitute
  dsimp only
  rw [named_sub]
  refine wpAny_bind (wpAny_pure ?_)
  dsimp only
  refine wpAny_bind (wpAny_pure ?_)
  obtain ⟨id, hid⟩ := called_fn
  refine wpAny_bind (wpAny_specialOf (T := "function") ⟨_, hg, rfl⟩ hid ?_)
  rw [if_pos (by rfl)]
  refine wpAny_bind (wpAny_pure ?_)
  rw [if_pos (by rfl)]
  refine wpAny_bind (wpAny_pure (wpAny_bind (wpAny_holding (whole (hP.keeps hs.keep) ?_))))
  rw [if_pos (by rfl)]
  have hnot : wpAny (model C.prog C.w) C.A.in1 (reNotHeld "re.Pattern.sub" (.str (S ys) t)) (fun _ s' => s' = s) (fun e s' => False) s := by
    unfold reNotHeld
    refine wpAny_bind (wpAny_isInstance (T := "str") (b := false) (typeIs_str _ _ _) (by rw [isSubtype_type]; kernel_rfl) ?_)
    rw [if_neg (by decide)]
    exact wpAny_pure rfl
  refine wpAny_bind (wpAny_mono hnot (fun _ s' e => ?_) fun _ _ e => e)
  subst e
  refine wpAny_bind (wpAny_newList ?_ (by rw [sizeLine_eq]; decide))
  have a1 := hs.fresh_apart (b := s'.heap.objs.size) (Nat.le_refl _)
  have a2 : At C ⟨hb, loc, (s'.heap.objs.size, .list (([] : List Str).map .str)) :: hp⟩ { s' with heap := s'.heap.push { cls := .type "list", data := .seq ([] : List Value).toArray } } :=
    At.cons (hs.kept (tk := s'.toks) fun b o e => Heap.get?_push_of_some _ e) (Heap.get?_push_size _ rfl) ⟨[], 0, rfl, .nil⟩ a1.2.1 a1.1 a1.2.2
  refine wpAny_pure ⟨quiet_loop _, ?_⟩
  refine sub_loop (tot := ys.flatMap eamp) hP hf (hA.le (by omega)) hlen (by have := eamp_len ys; omega) ys.length 0 [] 0 false _ _ (by omega) (Nat.zero_le _) (Nat.zero_le _) a2 (by simp) fun s2 t' at2 => ?_
  exact ⟨⟨hb, loc, hp⟩, stays_refl _, at2, .str _, ⟨t', rfl⟩, q⟩

set_option maxHeartbeats 4000000
open PySem.Builtin PySem.Builtin.Str
/-! ## replace by one sign; find -/
noncomputable def rep1 (c : Nat) (w l : List Nat) : List Nat := l.flatMap fun k => if k = c then w else [k]
theorem rep1_app (c : Nat) (w a b : List Nat) : rep1 c w (a ++ b) = rep1 c w a ++ rep1 c w b := List.flatMap_append
theorem rep1_free (c : Nat) (w : List Nat) : ∀ l : List Nat, c ∉ l → rep1 c w l = l
  | [], _ => rfl
  | k :: r, h => by
    have h1 : ¬ k = c := fun e => h (e ▸ List.mem_cons_self ..)
    unfold rep1
    rw [List.flatMap_cons, if_neg h1]
    exact congrArg (k :: ·) (rep1_free c w r fun m => h (List.mem_cons_of_mem _ m))
theorem rep1_one (c : Nat) (w : List Nat) : rep1 c w [c] = w := by simp [rep1]
theorem rep1_join (c : Nat) (w : List Nat) : ∀ parts : List Str, (∀ p ∈ parts, c ∉ p.cps.toList) → rep1 c w (Str.join ⟨#[c]⟩ parts).cps.toList = (Str.join (S w) parts).cps.toList
  | [], _ => rfl
  | [p], h => rep1_free c w _ (h p (List.mem_singleton.mpr rfl))
  | p :: q :: r, h => by
    have ih := rep1_join c w (q :: r) fun a ha => h a (List.mem_cons_of_mem _ ha)
    show rep1 c w (p ++ ⟨#[c]⟩ ++ Str.join ⟨#[c]⟩ (q :: r)).cps.toList = (p ++ S w ++ Str.join (S w) (q :: r)).cps.toList
    simp only [Str.cps_append, Array.toList_append]
    rw [rep1_app, rep1_app, ih, rep1_free c w _ (h p (List.mem_cons_self ..))]
    congr 2
    exact rep1_one c w
theorem replace_S (ys w : List Nat) (c : Nat) : Txt.replace (S ys) (S [c]) (S w) = S (rep1 c w ys) := by
  have e : (Txt.replace (S ys) (S [c]) (S w)).cps.toList = rep1 c w ys := by
    rw [show S [c] = (⟨#[c]⟩ : Str) from rfl, StrLaws.replace_one, ← rep1_join c w _ (StrLaws.split_free (S ys) c), StrLaws.join_split]
  rw [← e, S_of]
theorem gives_find4 (x y : Str) (i j : Int) (t u v r : Tok) : Gives («str.find» ⟨[.str x t, .str y u, .int i v, .int j r], []⟩) (.int (match occurrences x y (fromIndex x.length i) (min (fromIndex x.length j) x.length) 1 with | k :: _ => (k : Int) | [] => -1)) := by
  show Gives (match occurrences x y (fromIndex x.length i) (min (fromIndex x.length j) x.length) 1 with | k :: _ => retInt k | [] => (do rule "str.find.not-found"; retInt (-1))) _
  cases occurrences x y (fromIndex x.length i) (min (fromIndex x.length j) x.length) 1 with
  | nil => exact .rule (.of_eq rfl)
  | cons k _ => exact .of_eq rfl
theorem at_of {ys : List Nat} {c i hi : Nat} (h : ys[i]? = some c) (hh : i < hi) : StrLaws.At (S ys) (S [c]) hi i :=
  ⟨by show i + 1 ≤ hi; omega, ((StrLaws.subAt_one (S ys) c i).mpr h).2⟩
theorem occ_here {ys : List Nat} {c i hi : Nat} (h : ys[i]? = some c) (hh : i < hi) : ∃ r, occurrences (S ys) (S [c]) i hi 1 = i :: r := by
  rw [StrLaws.occ_eq]
  obtain ⟨m, hm⟩ : ∃ m, hi + 1 - i = m + 1 := ⟨hi - i, by omega⟩
  rw [hm, List.range'_succ]
  rcases StrLaws.occ_first (S ys) (S [c]) hi 1 (Nat.le_refl _) (i :: List.range' (i + 1) m) i (fun j hj => by
      rcases List.mem_cons.mp hj with e | hj
      · omega
      · have := List.mem_range'_1.mp hj; omega) with ⟨_, h2⟩ | ⟨pre, a, post, e, h1, _, h3⟩
  · exact absurd (at_of h hh) (h2 i (List.mem_cons_self ..))
  · cases pre with
    | cons b pre =>
      injection e with e1 e2
      subst e1
      exact absurd (at_of h hh) (h3 _ (List.mem_cons_self ..))
    | nil =>
      injection e with e1 e2
      subst e1
      have h1' : (forIn (i :: List.range' (i + 1) m) ((#[] : Array Nat), i) (StrLaws.occBody (S ys) (S [c]) hi 1)).run.fst.toList[0]? = some i := by simpa using h1
      generalize (forIn (i :: List.range' (i + 1) m) ((#[] : Array Nat), i) (StrLaws.occBody (S ys) (S [c]) hi 1)).run.fst.toList = l at h1' ⊢
      cases l with
      | nil => cases h1'
      | cons x r => cases h1'; exact ⟨r, rfl⟩
theorem occ_past {x y : Str} {lo hi : Nat} (h : hi < lo) : occurrences x y lo hi 1 = [] := by
  rw [StrLaws.occ_eq, show hi + 1 - lo = 0 by omega]
  rfl
theorem fromIndex_nat (n i : Nat) : fromIndex n (i : Int) = i := by
  unfold fromIndex
  rw [if_neg (by omega)]
  omega
theorem Avs.four {a b c d : Av} {vs : List Value} (h : Avs [a, b, c, d] vs) : ∃ v u w z, vs = [v, u, w, z] ∧ Av.is a v ∧ Av.is b u ∧ Av.is c w ∧ Av.is d z := by
  obtain ⟨v, vs, e, h1, h⟩ := Paired.cons_inv h
  obtain ⟨u, w, z, e2, h2, h3, h4⟩ := Avs.three h
  subst e e2
  exact ⟨v, u, w, z, rfl, h1, h2, h3, h4⟩
theorem bc_find {C : Cx} {σ : Sg} {ys : List Nat} {c i j : Nat} {r : Int} {Q : Av → Sg → Prop} (hr : (match occurrences (S ys) (S [c]) i (min j ys.length) 1 with | k :: _ => (k : Int) | [] => -1) = r) (q : Q (.int r) σ) : CC C (.builtin "str.find") [.str (S ys), .str (S [c]), .int (i : Nat), .int (j : Nat)] σ Q := by
  intro vs hvs
  obtain ⟨v, u, w, z, rfl, ⟨t1, rfl⟩, ⟨t2, rfl⟩, ⟨t3, rfl⟩, ⟨t4, rfl⟩⟩ := Avs.four hvs
  refine ⟨fun s hs => ?_⟩
  refine call_gives PySem.F.slot_str_find (typeIs_str _ _ _) PySem.F.entry_str_find (PySem.F.args_str_find_4 _ _ _ _) (gives_find4 _ _ _ _ _ _ _ _) ?_
  rw [fromIndex_nat, fromIndex_nat, S_len, hr]
  exact ⟨σ, stays_refl _, hs.kept (tk := s.toks + 1) fun _ _ e => e, _, isI, q⟩
/-- «x.find(c, i, j)»: the sign stands at i -/
theorem bc_find_here {C : Cx} {σ : Sg} {ys : List Nat} {c i j : Nat} {Q : Av → Sg → Prop} (h : ys[i]? = some c) (hij : i < j) (hj : j ≤ ys.length) (q : Q (.int (i : Nat)) σ) : CC C (.builtin "str.find") [.str (S ys), .str (S [c]), .int (i : Nat), .int (j : Nat)] σ Q := by
  obtain ⟨r, e⟩ := occ_here (hi := min j ys.length) h (by omega)
  exact bc_find (by rw [e]) q
/-- «x.find(c, i, j)»: i lies behind j -/
theorem bc_find_past {C : Cx} {σ : Sg} {ys : List Nat} {c i j : Nat} {Q : Av → Sg → Prop} (hij : j < i) (q : Q (.int (-1)) σ) : CC C (.builtin "str.find") [.str (S ys), .str (S [c]), .int (i : Nat), .int (j : Nat)] σ Q :=
  bc_find (by rw [occ_past (by omega)]) q
theorem meth_find : MethOf "str" "find" "str.find" := ⟨PySem.F.plainAttrs_str, PySem.F.slot_str_find, PySem.F.type_str_find⟩

set_option maxHeartbeats 4000000
section
variable {C : Cx} {σ : Sg}
/-- a list's item is stored anew -/
theorem set_plain0 {A : Around} {E : Value → Shared → Prop} {s : Shared} {l : Addr} {vs : List Value} {m : Nat} {k : Int} {t : Tok} {v : Value} {Q : Unit → Shared → Prop} (hl : s.heap.get? l = some { cls := .type "list", data := .seq vs.toArray m }) (h0 : 0 ≤ k) (hfit : k < 2 ^ 63) (hn : k < vs.toArray.size)
    (hQ : Q () { s with heap := s.heap.update l (Obj.mapSeq (·.setIfInBounds k.toNat v)) }) : wpAny (model C.prog C.w) A (setItem (.ref l) (.int k t) v) Q E s := by
  have hT : s.TypeIs (.ref l) "list" := ⟨_, hl, rfl⟩
  unfold setItem
  try with_reducible refine wpAny_holding ?_
  first | refine wpAny_bind (wpAny_pure ?_) | skip
  refine wpAny_bind (wpAny_sequenceKey hT (by decide) ?_)
  refine wpAny_bind (wpAny_callSpecial?_slot (name := Str.ofString "__setitem__") hT slot_list_setitem (wpAny_call_entry slot_list_setitem hT entry_list_setitem ?_ (args_list_setitem _ _ _)))
  show wpAny _ _ (Builtin.List.listSubscript? (.int k t) >>= _) _ _ s
  refine wpAny_bind (wpAny_listSubscript_int (fitsIndex_of h0 hfit) ?_)
  clear hfit
  obtain ⟨j, rfl⟩ := Int.eq_ofNat_of_zero_le h0
  have hj : j < vs.toArray.size := by omega
  have hx' : vs.toArray[j]? = some vs.toArray[j] := Array.getElem?_eq_getElem hj
  show wpAny _ _ ((seqItemAt l j >>= fun r => pure (r.map (j, ·))) >>= _) _ _ s
  refine wpAny_bind (wpAny_bind (wpAny_seqItemAt hl rfl (wpAny_pure ?_)))
  rw [hx']
  show wpAny _ _ (setSeqItemAt l j v >>= _) _ _ s
  refine wpAny_bind (wpAny_setSeqItemAt hl rfl ?_)
  first
    | exact wpAny_bind (wpAny_pure (wpAny_pure ⟨.none, rfl, wpAny_pure hQ⟩))
    | exact wpAny_pure ⟨.none, rfl, wpAny_pure hQ⟩
theorem Paired.set {α β : Type} {F : α → β → Prop} {a : α} {b : β} (h : F a b) : ∀ {l : List α} {r : List β}, Paired F l r → ∀ n, Paired F (l.set n a) (r.set n b) := by
  intro l r hp
  induction hp with
  | nil => intro n; exact .nil
  | cons x t ih =>
    intro n
    cases n with
    | zero => exact .cons h t
    | succ n => exact .cons x (ih n)
theorem Paired.erase {α β : Type} {F : α → β → Prop} : ∀ {l : List α} {r : List β}, Paired F l r → ∀ n, Paired F (l.eraseIdx n) (r.eraseIdx n) := by
  intro l r hp
  induction hp with
  | nil => intro n; exact .nil
  | cons x t ih =>
    intro n
    cases n with
    | zero => exact t
    | succ n => exact .cons x (ih n)
inductive SetOn (P : Sg → Prop) (σ : Sg) (b c a : Av) : Prop
  | mk (l : Addr) (n : Nat) (as : List Av) (hp' : List (Addr × Mk)) (e : b = .ref l) (e2 : c = .int (n : Nat)) (hn : n < as.length) (hsz : as.length ≤ 1000) (u : Upd l (.list as) (.list (as.set n a)) σ.hp hp') (q : P ⟨σ.hb, σ.loc, hp'⟩) : SetOn P σ b c a
theorem assign_Sub (o i : Expr) (pos : Pos) (env : Env) (v : Value) : ∃ rel : Value → Value → List Value, assign (.Subscript o i pos) env v = (holding [v] (eval o env) >>= fun ov => holding [v, ov] (eval i env) >>= fun iv => PySem.standAt pos >>= fun _ => holding [v, ov, iv] (setItem ov iv v) >>= fun _ => PySem.release (rel ov iv) []) := ⟨fun ov iv => match i with | .Slice _ _ none _ => [iv, v, ov] | _ => [v, ov, iv], rfl⟩
/-- «o[i] = value» -/
theorem x_setitem {o i value : Expr} {pos' pos : Pos} {k : Kt} (h : TV C (eval value C.env) σ (fun a σ₁ => TV C (eval o C.env) σ₁ (fun b σ₂ => TV C (eval i C.env) σ₂ (fun c σ₃ => SetOn k.next σ₃ b c a))))
    (hs : swapsWith value (some (.Subscript o i pos')) pos.line C.env = Pure.pure false := by rfl) : TX C (exec (.Assign [.Subscript o i pos'] value pos) C.env) σ k := by
  rw [exec_Assign_Subscript _ _ _ _ _ hs]
  refine T.bind (T.standAt (TV.bind (TV.mono h fun a σ₁ _ h₁ v hv => ?_)))
  refine T.bind ?_
  obtain ⟨rel, e⟩ := assign_Sub o i pos' C.env v
  rw [e]
  refine TV.bind (TV.holding (TV.mono h₁ fun b σ₂ _ h₂ ov hov => TV.bind (TV.holding (TV.mono h₂ fun c σ₃ _ h₃ iv hiv => T.bind (T.standAt (T.bind (T.holding ?_)))))))
  obtain ⟨l, n, as, hp', e1, e2, hn, hsz, u, q⟩ := h₃
  subst e1 e2
  have hov' : ov = .ref l := hov
  subst hov'
  obtain ⟨ti, rfl⟩ := hiv
  refine ⟨fun s hs => ?_⟩
  obtain ⟨⟨ob, e2, us, m, e3, e4⟩, _⟩ := hs.hp l _ u.has
  subst e3
  have hz : us.length = as.length := (Paired.len e4).symm ▸ rfl
  have hz' : us.toArray.size = as.length := by simp [hz]
  refine set_plain0 e2 (by omega) (by omega) (by rw [hz']; exact Int.ofNat_lt.mpr hn) ?_
  have e5 : (s.heap.update l (Obj.mapSeq (·.setIfInBounds ((n : Nat) : Int).toNat v))).get? l = some { cls := .type "list", data := .seq (us.set n v).toArray m } := by
    rw [Heap.get?_update_self _ e2 rfl]
    simp [Obj.mapSeq]
  refine ⟨⟨σ₃.hb, σ₃.loc, hp'⟩, stays_refl _, hs.upd (tk := s.toks) u (Heap.SameBut.update ..) ⟨_, e5, us.set n v, m, rfl, Paired.set hv e4 n⟩, ?_⟩
  exact T.release (T.pure q)
inductive DelOn (P : Sg → Prop) (σ : Sg) (b c : Av) : Prop
  | mk (l : Addr) (n : Nat) (as : List Av) (hp' : List (Addr × Mk)) (e : b = .ref l) (e2 : c = .int (n : Nat)) (hn : n < as.length) (hsz : as.length ≤ 1000) (u : Upd l (.list as) (.list (as.eraseIdx n)) σ.hp hp') (q : P ⟨σ.hb, σ.loc, hp'⟩) : DelOn P σ b c
/-- «del o[i]» -/
theorem x_del {o i : Expr} {pos' pos : Pos} {k : Kt} (h : TV C (eval o C.env) σ (fun b σ₂ => TV C (eval i C.env) σ₂ (fun c σ₃ => DelOn k.next σ₃ b c))) : TX C (exec (.Delete [.Subscript o i pos'] pos) C.env) σ k := by
  show T C (do
    PySem.standAt pos
    (do
      (do
        let ov ← eval o C.env
        let iv ← holding [ov] (eval i C.env)
        PySem.standAt pos'
        holding [ov, iv] (delItem ov iv)
        PySem.release [ov, iv] [])
      (Pure.pure ()))
    Pure.pure Flow.next) σ _
  refine T.bind (T.standAt (T.bind (T.bind ?_)))
  refine TV.bind (TV.mono h fun b σ₂ _ h₂ ov hov => TV.bind (TV.holding (TV.mono h₂ fun c σ₃ _ h₃ iv hiv => T.bind (T.standAt (T.bind (T.holding ?_))))))
  obtain ⟨l, n, as, hp', e1, e2, hn, hsz, u, q⟩ := h₃
  subst e1 e2
  have hov' : ov = .ref l := hov
  subst hov'
  obtain ⟨ti, rfl⟩ := hiv
  refine ⟨fun s hs => ?_⟩
  obtain ⟨⟨ob, e2, us, m, e3, e4⟩, _⟩ := hs.hp l _ u.has
  subst e3
  have hz : us.length = as.length := (Paired.len e4).symm ▸ rfl
  have hz' : us.toArray.size = as.length := by simp [hz]
  have hfit : Builtin.List.listFitsIndex ((n : Nat) : Int) = true := by
    unfold Builtin.List.listFitsIndex
    simp only [Bool.and_eq_true, decide_eq_true_eq]
    omega
  have hk : seqIndex? ((n : Nat) : Int) us.toArray.size = some n := by
    unfold seqIndex?
    dsimp only
    have hneg : ¬ ((n : Nat) : Int) < 0 := by omega
    simp only [if_neg hneg]
    rw [hz', if_pos (by simp only [Bool.and_eq_true, decide_eq_true_eq]; exact ⟨Int.natCast_nonneg n, Int.ofNat_lt.mpr hn⟩)]
    rfl
  refine wpAny_delItem_plain ⟨m, e2⟩ hfit hk (fun h' hl hsb => ?_) (by rw [hz', sizeLine_eq]; omega)
  obtain ⟨m', hl⟩ := hl
  refine ⟨⟨σ₃.hb, σ₃.loc, hp'⟩, stays_refl _, hs.upd (tk := s.toks) u hsb ⟨_, hl, us.eraseIdx n, m', by simp, Paired.erase e4 n⟩, ?_⟩
  exact T.release (T.pure (T.pure q))
end

section
variable {C : Cx} {σ : Sg}

noncomputable def rgS (a b c : Int) (t u v : Tok) : Obj := { cls := .type "range", data := .fields #[.int a t, .int b u, .int c v] }
theorem bc_range1 {b : Int} {Q : Av → Sg → Prop} (q : ∀ r hb' t u v, σ.hb.StaysIn hb' → σ.hb.get? r = none → Is hb' r (.any (rgS 0 b 1 t u v)) → Q (.ref r) ⟨hb', σ.loc, σ.hp⟩) : CC C (.type "range") [.int b] σ Q := by
  intro vs hvs
  obtain ⟨x, rfl, ⟨u, rfl⟩⟩ := Avs.one hvs
  refine ⟨fun s hs => call_range_1 ?_⟩
  have hn := hs.new (k := .any (rgS 0 b 1 s.toks u (s.toks + 1))) (tk := s.toks + 1 + 1) (a := s.heap.objs.size) (o := rgS 0 b 1 s.toks u (s.toks + 1)) (fresh_none _ (Nat.le_refl _)) (fun b o e => Heap.get?_push_of_some _ e) (Heap.get?_push_size _ rfl) ⟨rfl, rfl⟩
  obtain ⟨hb', f1, f2, f3, _, f5⟩ := hn.freeze (k := .any (rgS 0 b 1 s.toks u (s.toks + 1))) (hp' := σ.hp) .here
  exact ⟨_, f1, f2, .ref _, isR, q _ hb' s.toks u (s.toks + 1) f1 f5 f3⟩
theorem bc_range3 {a b c : Int} {Q : Av → Sg → Prop} (hc : c ≠ 0) (hc2 : c.natAbs < 1073741824) (q : ∀ r hb' t u v, σ.hb.StaysIn hb' → σ.hb.get? r = none → Is hb' r (.any (rgS a b c t u v)) → Q (.ref r) ⟨hb', σ.loc, σ.hp⟩) : CC C (.type "range") [.int a, .int b, .int c] σ Q := by
  intro vs hvs
  obtain ⟨x, y, z, rfl, ⟨t, rfl⟩, ⟨u, rfl⟩, v, rfl⟩ := Avs.three hvs
  refine ⟨fun s hs => call_range_3 hc ?_ (Or.inl (PyProof.noPylong_small hc2))⟩
  have hn := hs.new (k := .any (rgS a b c t u v)) (tk := s.toks) (a := s.heap.objs.size) (o := rgS a b c t u v) (fresh_none _ (Nat.le_refl _)) (fun b o e => Heap.get?_push_of_some _ e) (Heap.get?_push_size _ rfl) ⟨rfl, rfl⟩
  obtain ⟨hb', f1, f2, f3, _, f5⟩ := hn.freeze (k := .any (rgS a b c t u v)) (hp' := σ.hp) .here
  exact ⟨_, f1, f2, .ref _, isR, q _ hb' t u v f1 f5 f3⟩

theorem s1_range {r : Addr} {a b c : Int} {t u v : Tok} {n : Nat} (h : Is σ.hb r (.any (rgS a b c t u v))) (hh : C.A.handled = none) (hsm : Builtin.Range.small a b c = true) (hsz : Builtin.Range.rangeSize a b c = n) : Src1 C σ (.ref r) n (fun i => .int (a + i * c)) where
  iter := fun w s Q hv hs hQ => by
    have hv' : w = .ref r := hv
    subst hv'
    obtain ⟨o, gl, eo, _⟩ := h
    subst eo
    have hr : IsRange s.heap r a b c t u v := hs.hbget gl
    have W := Walks.range (prog := C.prog) (w := C.w) (A := C.A) hh s.heap.objs.size a c n
    refine wpAny_pyIter_range hr hsm ?_
    rw [hsz]
    refine hQ _ s.heap.objs.size _ (fun i o => o = { cls := .type "range_iterator", dict := none, data := .fields #[rawInt (a + (i : Nat) * c), rawInt ((n : Int) - (i : Nat)), rawInt c], slots := #[] }) (fresh_none _ (Nat.le_refl _)) rfl rfl (fun b o e => Heap.get?_push_of_some _ e) (Heap.get?_push_size _ rfl) ?_ ?_ ?_ ?_
    · simp
    · rintro i o rfl
      rfl
    · intro i s' hi hk ⟨o, ho, ho2⟩ Q E hQ
      subst ho2
      refine W.item i s' _ E hi ho fun v h' tk hv st hk' => ?_
      exact hQ v h' tk _ hv st rfl fun b o hb e => hk' b o (by simpa using hb) e
    · intro s' hk ⟨o, ho, ho2⟩ Q E hQ
      subst ho2
      exact W.done s' _ E ho fun h' tk hk' => hQ h' tk fun b o hb e => hk' b o (by simpa using hb) e
end

set_option maxHeartbeats 4000000
theorem TabNew.trans {lp : Pos} {lq : Str} {h0 h1 h2 : Heap} {p0 p1 p2 : Array Value} (x : TabNew lp lq h0 h1 p0 p1) (y : TabNew lp lq h1 h2 p1 p2) (k : h0.StaysIn h1) (k2 : h1.StaysIn h2) : TabNew lp lq h0 h2 p0 p2 :=
  ⟨y.tri, fun cv e => (y.code cv e).elim (fun e => (x.keeps k2).code cv e) fun ⟨c, o, vs, t, e1, e2, r⟩ => .inr ⟨c, o, vs, t, e1, get_none_of k e2, r⟩⟩
theorem TabNew.back {lp : Pos} {lq : Str} {h0 h1 h2 : Heap} {p0 p1 : Array Value} (x : TabNew lp lq h1 h2 p0 p1) (k : h0.StaysIn h1) : TabNew lp lq h0 h2 p0 p1 :=
  ⟨x.tri, fun cv e => (x.code cv e).imp id fun ⟨c, o, vs, t, e1, e2, r⟩ => ⟨c, o, vs, t, e1, get_none_of k e2, r⟩⟩
section
variable {C : Cx} {σ : Sg}
theorem o_snin1 {l : List Nat} {c : Nat} {Q : Av → Sg → Prop} (q : Q (.bool (!decide (c ∈ l))) σ) : O2 C (compareOp .NotIn) (.str (S [c])) (.str (S l)) σ Q := by
  rintro _ _ ⟨t, rfl⟩ ⟨u, rfl⟩
  refine ⟨fun s hs => ?_⟩
  refine P.notIn_str (give hs isB ?_)
  have := StrLaws.found_one (S l) c
  rw [S_cps] at this
  rw [show S [c] = ⟨#[c]⟩ from rfl, this]
  exact q
theorem t_strS {l : List Nat} {Q : Bool → Sg → Prop} (hl : l.length ≤ 1000000) (q : Q (!l.isEmpty) σ) : OB C truthy (.str (S l)) σ Q := by
  rintro _ ⟨t, rfl⟩
  refine ⟨fun s hs => ?_⟩
  refine PySem.P.truthy_str (by rw [S_len]; omega) ⟨σ, stays_refl _, hs.kept (tk := s.toks + 1 + 1) fun _ _ e => e, ?_⟩
  rw [S_len]
  cases l with
  | nil => exact q
  | cons c r =>
    have : (((c :: r).length : Int) != 0) = true := by simp; omega
    rw [this]; exact q
end
/-! ## the signs that translate puts behind a backslash within brackets -/
noncomputable def esc2 (l : List Nat) : List Nat := rep1 45 [92, 45] (rep1 92 [92, 92] l)
noncomputable abbrev gEsc (y : Str) : Str := Txt.replace (Txt.replace y (Str.ofString "\\") (Str.ofString "\\\\")) (Str.ofString "-") (Str.ofString "\\-")
theorem lit_bs2 : Str.ofString "\\\\" = S [92, 92] := by decide +kernel
theorem lit_hy : Str.ofString "-" = S [45] := by decide +kernel
theorem lit_bshy : Str.ofString "\\-" = S [92, 45] := by decide +kernel
theorem gEsc_S (l : List Nat) : gEsc (S l) = S (esc2 l) := by
  unfold gEsc
  rw [lit_bs, lit_bs2, lit_hy, lit_bshy, replace_S, replace_S]
  rfl
theorem rep1_len (c : Nat) (w : List Nat) (hw : w.length = 2) : ∀ l : List Nat, (rep1 c w l).length ≤ 2 * l.length
  | [] => Nat.le_refl _
  | k :: l => by
    have := rep1_len c w hw l
    show (((if k = c then w else [k]) ++ rep1 c w l : List Nat)).length ≤ _
    rw [List.length_append, List.length_cons]
    split
    · omega
    · simp only [List.length_cons, List.length_nil]; omega
noncomputable abbrev eltE (p1 p2 p3 p4 p5 p6 p7 p8 p9 : Pos) : Expr :=
  .Call (.Attribute (.Call (.Attribute (.Name "s" p1) "replace" p2) [.Constant (.str "\\") 0 p3, .Constant (.str "\\\\") 0 p4] [] p5) "replace" p6) [.Constant (.str "-") 0 p7, .Constant (.str "\\-") 0 p8] [] p9
theorem elt_esc {prog : Program} {w : World} {p1 p3 p4 p7 p8 : Pos} (A' : Around) (cenv : Env) (s₂ : Shared) (m₂ : Str → Option Value) (l : List Nat) (t : Tok) (Q' : Value → Shared → Prop) (E' : Value → Shared → Prop) (hl : l.length ≤ 100) (hk : cenv.kindOf "s" = some .local) (hf : cenv.scope.kind = .function) (h0 : 0 < s₂.toks)
    (hn : s₂.heap.Ns cenv.locals m₂) (hm : m₂ "s" = some (.str (S l) t)) (q : ∀ t' k, Q' (.str (gEsc (S l)) t') { s₂ with toks := k }) :
    wpAny (model prog w) A' (eval (eltE p1 ⟨62, 38, 62, 47⟩ p3 p4 ⟨62, 38, 62, 61⟩ ⟨62, 38, 62, 69⟩ p7 p8 ⟨62, 38, 62, 81⟩) cenv) Q' E' s₂ := by
  refine raw_replace (by decide +kernel) (raw_replace (by decide +kernel) (wpAny_Name (wpAny_loadName_local hf hk hn hm ⟨S l, t, rfl, h0, ?_, fun t' k hk => ⟨_, t', rfl, Nat.lt_of_lt_of_le h0 hk, ?_, fun t'' k' _ => q t'' k'⟩⟩) (by decide +kernel)))
  · rw [lit_bs2, S_len, S_len]
    show l.length + (l.length + 1) * 2 ≤ _
    omega
  · show (Txt.replace (S l) (Str.ofString "\\") (Str.ofString "\\\\")).length + ((Txt.replace (S l) (Str.ofString "\\") (Str.ofString "\\\\")).length + 1) * (Str.ofString "\\-").length ≤ _
    rw [lit_bs, lit_bs2, lit_bshy, replace_S, S_len, S_len]
    have := rep1_len 92 [92, 92] rfl l
    show (rep1 92 [92, 92] l).length + ((rep1 92 [92, 92] l).length + 1) * 2 ≤ _
    omega

set_option maxHeartbeats 4000000
/-! ## lists of plain things alike -/
inductive Sim : Av → Av → Bool → Prop
  | int (a b : Int) : Sim (.int a) (.int b) (a == b)
  | bool (a b : Bool) : Sim (.bool a) (.bool b) (a == b)
  | str (a b : Str) : Sim (.str a) (.str b) (a == b)
theorem Sim.eqAt {x y : Av} {b : Bool} (h : Sim x y b) {A : Around} {s : Shared} {v u : Value} (hv : Av.is x v) (hu : Av.is y u) : SeqAt.EqAt A s v u b := by
  cases h with
  | int a b => obtain ⟨t, rfl⟩ := hv; obtain ⟨r, rfl⟩ := hu; exact SeqAt.EqAt.int_int a t b r
  | bool a b => cases hv; cases hu; exact SeqAt.EqAt.bool_bool a b
  | str a b => obtain ⟨t, rfl⟩ := hv; obtain ⟨r, rfl⟩ := hu; exact SeqAt.EqAt.str_str a t b r
theorem sims_eqAt {l l' : List Av} {us vs : List Value} {e : Nat → Bool} (e2 : Avs l us) (f2 : Avs l' vs) (he : ∀ (j : Nat) x y, l[j]? = some x → l'[j]? = some y → Sim x y (e j)) {A : Around} {s : Shared} (j : Nat) (h1 : j < us.toArray.size) (h2 : j < vs.toArray.size) :
    SeqAt.EqAt A s us.toArray[j] vs.toArray[j] (e j) := by
  have g1 := Paired.len e2
  have g2 := Paired.len f2
  have l1 : j < l.length := by rw [← g1]; simpa using h1
  have l2 : j < l'.length := by rw [← g2]; simpa using h2
  obtain ⟨u, k1, k2⟩ := Paired.get e2 (List.getElem?_eq_getElem l1)
  obtain ⟨v, k3, k4⟩ := Paired.get f2 (List.getElem?_eq_getElem l2)
  have h3 := he j _ _ (List.getElem?_eq_getElem l1) (List.getElem?_eq_getElem l2)
  have z1 : us.toArray[j] = u := by
    have := List.getElem?_eq_some_iff.mp k1
    obtain ⟨_, e⟩ := this
    simpa using e
  have z2 : vs.toArray[j] = v := by
    have := List.getElem?_eq_some_iff.mp k3
    obtain ⟨_, e⟩ := this
    simpa using e
  rw [z1, z2]
  exact h3.eqAt k2 k4
section
variable {C : Cx} {σ : Sg}
theorem o_bne {a b : Bool} {Q : Av → Sg → Prop} (q : Q (.bool (a != b)) σ) : O2 C (compareOp .NotEq) (.bool a) (.bool b) σ Q := by
  rintro _ _ rfl rfl
  exact ⟨fun s hs => PyProof.Rows.ne_bool ⟨σ, stays_refl _, hs, _, isB, q⟩⟩
theorem o_eq_sim {a b : Addr} {l l' : List Av} (e : Nat → Bool) {Q : Av → Sg → Prop} (hu : C.A.units < cLine) (h : Here σ a (.list l)) (h' : Here σ b (.list l')) (hl : l.length = l'.length)
    (he : ∀ (j : Nat) x y, l[j]? = some x → l'[j]? = some y → Sim x y (e j)) (q : Q (.bool ((List.range l.length).all e)) σ) : O2 C (compareOp .Eq) (.ref a) (.ref b) σ Q := by
  rintro _ _ rfl rfl
  refine ⟨fun s hs => ?_⟩
  obtain ⟨us, e1, e2⟩ := h.list hs
  obtain ⟨vs, f1, f2⟩ := h'.list hs
  have g1 := Paired.len e2
  have g2 := Paired.len f2
  refine SeqAt.eq_listAt e1 f1 (by simp [g1, g2, hl]) hu (e := e) (fun j h1 h2 => sims_eqAt e2 f2 he j h1 h2) ⟨σ, stays_refl _, hs, _, isB, ?_⟩
  rw [show us.toArray.size = l.length by simp [g1]]
  exact q
/-- two lists of lists of truths, alike -/
theorem o_eq_lol {a b : Addr} {xs ys : List Addr} {bs : List (List Bool)} {Q : Av → Sg → Prop} (hA : Ok 2 C.A) (h : Here σ a (.list (xs.map .ref))) (h' : Here σ b (.list (ys.map .ref))) (hx : xs.length = bs.length) (hy : ys.length = bs.length)
    (hx2 : ∀ (j : Nat) x l, xs[j]? = some x → bs[j]? = some l → Is σ.hb x (.list (l.map .bool))) (hy2 : ∀ (j : Nat) x l, ys[j]? = some x → bs[j]? = some l → Is σ.hb x (.list (l.map .bool)))
    (q : Q (.bool true) σ) : O2 C (compareOp .Eq) (.ref a) (.ref b) σ Q := by
  rintro _ _ rfl rfl
  refine ⟨fun s hs => ?_⟩
  obtain ⟨us, e1, e2⟩ := h.list hs
  obtain ⟨vs, f1, f2⟩ := h'.list hs
  have g1 := Paired.len e2
  have g2 := Paired.len f2
  rw [List.length_map] at g1 g2
  refine SeqAt.eq_listAt e1 f1 (by simp [g1, g2, hx, hy]) hA.units (e := fun _ => true) (fun j h1 h2 => ?_) ⟨σ, stays_refl _, hs, _, isB, by rw [List.all_eq_true.mpr fun _ _ => rfl]; exact q⟩
  have l1 : j < xs.length := by rw [← g1]; simpa using h1
  have l2 : j < ys.length := by rw [← g2]; simpa using h2
  have l3 : j < bs.length := by omega
  obtain ⟨u, k1, k2⟩ := Paired.get e2 (i := j) (a := .ref xs[j]) (by rw [List.getElem?_map, List.getElem?_eq_getElem l1]; rfl)
  obtain ⟨v, k3, k4⟩ := Paired.get f2 (i := j) (a := .ref ys[j]) (by rw [List.getElem?_map, List.getElem?_eq_getElem l2]; rfl)
  have z1 : us.toArray[j] = u := by obtain ⟨_, e⟩ := List.getElem?_eq_some_iff.mp k1; simpa using e
  have z2 : vs.toArray[j] = v := by obtain ⟨_, e⟩ := List.getElem?_eq_some_iff.mp k3; simpa using e
  have k2' : u = .ref xs[j] := k2
  have k4' : v = .ref ys[j] := k4
  rw [z1, z2, k2', k4']
  have i1 := hx2 j _ _ (List.getElem?_eq_getElem l1) (List.getElem?_eq_getElem l3)
  have i2 := hy2 j _ _ (List.getElem?_eq_getElem l2) (List.getElem?_eq_getElem l3)
  by_cases hne : xs[j] = ys[j]
  · rw [hne]; exact SeqAt.EqAt.same _
  · obtain ⟨us', m1, m2⟩ := (Here.list (σ := σ) (.inr i1) hs)
    obtain ⟨vs', n1, n2⟩ := (Here.list (σ := σ) (.inr i2) hs)
    have t1 := Paired.len m2
    have t2 := Paired.len n2
    have := SeqAt.RcAt.lists (A := C.A.in1) m1 n1 (by simp [t1, t2]) (by have := (Ok.in1 hA).units; exact this) (e := fun _ => true) (fun i p1 p2 => sims_eqAt m2 n2 (e := fun _ => true) (fun i x y hx hy => by
      rw [hx] at hy
      have := Option.some.inj hy
      subst this
      rw [List.getElem?_map] at hx
      obtain ⟨c, _, rfl⟩ := Option.map_eq_some_iff.mp hx
      have := Sim.bool c c
      rwa [beq_self_eq_true] at this) i p1 p2)
    rw [List.all_eq_true.mpr fun _ _ => rfl] at this
    exact SeqAt.EqAt.of_refs hne this
/-- None is no one of these tuples -/
theorem o_none_in {a : Addr} {xs : List Addr} {Q : Av → Sg → Prop} (hA : Ok 2 C.A) (h : Here σ a (.list (xs.map .ref))) (hx : ∀ x ∈ xs, ∃ l, Is σ.hb x (.tup l)) (q : Q (.bool false) σ) : O2 C (compareOp .In) .none (.ref a) σ Q := by
  rintro _ _ rfl rfl
  refine ⟨fun s hs => ?_⟩
  obtain ⟨us, e1, e2⟩ := h.list hs
  refine SeqAt.in_listAt (fun _ => false) e1 (fun y hy => ?_) ⟨σ, stays_refl _, hs, _, isB, ?_⟩
  · obtain ⟨j, hj, rfl⟩ := List.getElem_of_mem (by simpa using hy : y ∈ us)
    have g1 := Paired.len e2
    rw [List.length_map] at g1
    have l1 : j < xs.length := by omega
    obtain ⟨u, k1, k2⟩ := Paired.get e2 (i := j) (a := .ref xs[j]) (by rw [List.getElem?_map, List.getElem?_eq_getElem l1]; rfl)
    have z1 : us[j] = u := by obtain ⟨_, e⟩ := List.getElem?_eq_some_iff.mp k1; exact e
    have k2' : u = .ref xs[j] := k2
    rw [z1, k2']
    obtain ⟨l, hl⟩ := hx _ (List.getElem_mem l1)
    obtain ⟨vs, m1, _⟩ := Here.tup (σ := σ) (.inr hl) hs
    exact SeqAt.EqAt.tuple_none m1 (by have := (Ok.in1 hA).units; exact this)
  · have : (us.toArray.any fun _ => false) = false := by simp
    rw [this]; exact q
end
/-! ## building data that is given back -/
theorem rds_nil {F : Addr → Prop} {h : Heap} : Rds F h [] [] := by rw [Rds]
theorem rds_cons {F : Addr → Prop} {h : Heap} {d : Dt} {l : List Dt} {a : Av} {as : List Av} (h1 : Rd F h d a) (h2 : Rds F h l as) : Rds F h (d :: l) (a :: as) := by rw [Rds]; exact ⟨_, _, rfl, h1, h2⟩
theorem rd_int {F : Addr → Prop} {h : Heap} {i : Int} : Rd F h (.int i) (.int i) := by rw [Rd]
theorem rd_bool {F : Addr → Prop} {h : Heap} {i : Bool} : Rd F h (.bool i) (.bool i) := by rw [Rd]
theorem rd_str {F : Addr → Prop} {h : Heap} {i : Str} : Rd F h (.str i) (.str i) := by rw [Rd]
theorem rd_list {F : Addr → Prop} {h : Heap} {l : List Dt} {as : List Av} {x : Addr} (hf : F x) (hi : Is h x (.list as)) (hr : Rds F h l as) : Rd F h (.list l) (.ref x) := by rw [Rd]; exact ⟨x, as, rfl, hf, hi, hr⟩
theorem rd_tup {F : Addr → Prop} {h : Heap} {l : List Dt} {as : List Av} {x : Addr} (hf : F x) (hi : Is h x (.tup as)) (hr : Rds F h l as) : Rd F h (.tup l) (.ref x) := by rw [Rd]; exact ⟨x, as, rfl, hf, hi, hr⟩
theorem rd_list_inv {F : Addr → Prop} {h : Heap} {l : List Dt} {a : Av} (r : Rd F h (.list l) a) : ∃ x as, a = .ref x ∧ F x ∧ Is h x (.list as) ∧ Rds F h l as := by rw [Rd] at r; exact r
theorem rd_tup_inv {F : Addr → Prop} {h : Heap} {l : List Dt} {a : Av} (r : Rd F h (.tup l) a) : ∃ x as, a = .ref x ∧ F x ∧ Is h x (.tup as) ∧ Rds F h l as := by rw [Rd] at r; exact r
theorem rds_nil_inv {F : Addr → Prop} {h : Heap} {as : List Av} (r : Rds F h [] as) : as = [] := by rw [Rds] at r; exact r
theorem rds_cons_inv {F : Addr → Prop} {h : Heap} {d : Dt} {l : List Dt} {as : List Av} (r : Rds F h (d :: l) as) : ∃ a q, as = a :: q ∧ Rd F h d a ∧ Rds F h l q := by rw [Rds] at r; exact r
theorem rd_int_inv {F : Addr → Prop} {h : Heap} {i : Int} {a : Av} (r : Rd F h (.int i) a) : a = .int i := by rw [Rd] at r; exact r
theorem rd_bool_inv {F : Addr → Prop} {h : Heap} {i : Bool} {a : Av} (r : Rd F h (.bool i) a) : a = .bool i := by rw [Rd] at r; exact r
theorem rd_str_inv {F : Addr → Prop} {h : Heap} {i : Str} {a : Av} (r : Rd F h (.str i) a) : a = .str i := by rw [Rd] at r; exact r

set_option maxHeartbeats 4000000
section
variable {C : Cx} {σ : Sg}
theorem Dr.of_walksU {I : Addr} {fp wr : List Addr} {n : Nat} {Pt : Nat → Array Value → Prop} {St : Nat → Heap → Prop} {Mid : Nat → Addr → Heap → Prop} {x y : Str} {px py tp : Pos} {tk : Nat} (i1 i2 : Nat → Av) (W : WalksU C.prog C.w C.A I fp wr n Pt St Mid) (hh : C.A.handled = none)
    (F : C.env.scope.kind = .function) (hx : C.env.kindOf x = some .local) (hy : C.env.kindOf y = some .local) (there : ∀ i h, St i h → ∀ b ∈ wr, ∃ o, h.get? b = some o) (hfpT : ∀ i T h, Mid i T h → T ∈ fp)
    (hP : ∀ i vals, i < n → Pt i vals → ∃ u v, vals = #[u, v] ∧ Av.is (i1 i) u ∧ Av.is (i2 i) v) :
    Dr C I (.Tuple [.Name x px, .Name y py] tk tp) fp wr n St (fun i l l' => ∃ l₁, Put x (i1 i) l l₁ ∧ Put y (i2 i) l₁ l') where
  sub := W.sub
  frame := W.frame
  there := there
  draw := fun i hb loc hp s Q E hi st hs hw hfp ⟨loc', l₁, hp1, hp2⟩ hQ => by
    refine W.item i s _ E hi st fun t vals h' tk' hv hT hm hk' => ?_
    have hs1 := hs.but (tk := tk') hw hk'
    refine W.go _ _ _ i t _ _ _ hm fun h'' st' hk2 => ?_
    have hs2 := hs1.but (h' := h'') (tk := tk') hw hk2
    obtain ⟨u, v, rfl, hu, hv'⟩ := hP i vals hi hv
    obtain ⟨ot, ho, hc, nn, hd⟩ := hT
    have hT2 := hk2 _ _ (W.apart _ _ _ hm) ho
    have htf := hfp t (hfpT _ _ _ hm)
    obtain ⟨hb', k1, k2, k3⟩ := hs2.rebase
    have ht : ∃ vs : List Value, hb'.IsTuple t vs.toArray ∧ Avs [i1 i, i2 i] vs :=
      ⟨[u, v], ⟨ot, k3 t ot hT2 htf.1 htf.2, hc, nn, hd⟩, .cons hu (.cons hv' .nil)⟩
    refine T.step (T.assignI (xs := [(x, px), (y, py)]) (loc' := loc') F hh ht (by simp [hx, hy]) rfl (.cons hp1 (.cons hp2 .nil)) (Q := fun _ σ' => σ' = ⟨hb', loc', hp⟩) rfl) k2 fun _ σ' s' k at' e => ?_
    subst e
    refine hQ s' loc' ⟨l₁, hp1, hp2⟩ (at'.shrink k1 hs.wd) ?_
    refine W.frame _ _ _ st' fun b hb o e => ?_
    exact at'.keep _ _ (k3 b o e (hfp b hb).1 (hfp b hb).2)
  done := fun hb loc hp s Q E st hs hw hQ => W.done s _ E st fun h' tk hk' => hQ _ (hs.but hw hk')
  self := W.self

/-- a list of pairs as the source of a comprehension -/
theorem src_pairs {a : Addr} {xs : List Addr} {i1 i2 : Nat → Av} {x y : Str} {px py tp : Pos} {tk : Nat} (h : Is σ.hb a (.list (xs.map .ref))) (ht : ∀ i t, xs[i]? = some t → Is σ.hb t (.tup [i1 i, i2 i])) (hsz : xs.length ≤ sizeLine) (hh : C.A.handled = none) :
    Source C σ σ (.ref a) (.Tuple [.Name x px, .Name y py] tk tp) xs.length (fun i l l' => ∃ l₁, Put x (i1 i) l l₁ ∧ Put y (i2 i) l₁ l') (fun C' => C'.env.scope.kind = .function ∧ C'.env.kindOf x = some .local ∧ C'.env.kindOf y = some .local) where
  hb := stays_refl _
  size := hsz
  iter := fun v s Q hv hs hQ => by
    have hv' : v = .ref a := hv
    subst hv'
    obtain ⟨vs, e1, e2⟩ := (Here.list (σ := σ) (.inr h)) hs
    have halt : a < s.heap.objs.size := by obtain ⟨o, ho, _⟩ := e1; exact Heap.lt_size ho
    have hne : a ≠ s.heap.objs.size := Nat.ne_of_lt halt
    have hlen0 := Paired.len e2
    rw [List.length_map] at hlen0
    have hlen : vs.toArray.size = xs.length := by simp [hlen0]
    have hex : ∀ i, ∃ w : Array Value, i < xs.length → s.heap.IsTuple (xs.getD i 0) w ∧ ∃ u v, w = #[u, v] ∧ Av.is (i1 i) u ∧ Av.is (i2 i) v := fun i => by
      by_cases hi : i < xs.length
      · obtain ⟨w, g1, g2⟩ := (Here.tup (σ := σ) (.inr (ht i xs[i] (List.getElem?_eq_getElem hi)))) hs
        obtain ⟨u, v, rfl, hu, hv⟩ := Avs.two g2
        refine ⟨#[u, v], fun _ => ⟨?_, u, v, rfl, hu, hv⟩⟩
        rw [List.getD_eq_getElem?_getD, List.getElem?_eq_getElem hi]
        exact g1
      · exact ⟨#[], fun h => absurd h hi⟩
    obtain ⟨vals, hvals⟩ := Classical.axiomOfChoice hex
    have hitem : ∀ j, j < vs.toArray.size → vs.toArray[j]? = some (.ref (xs.getD j 0)) := fun j hj => by
      rw [hlen] at hj
      obtain ⟨u, k1, k2⟩ := Paired.get e2 (i := j) (a := .ref xs[j]) (by rw [List.getElem?_map, List.getElem?_eq_getElem hj]; rfl)
      have k2' : u = .ref xs[j] := k2
      rw [List.getD_eq_getElem?_getD, List.getElem?_eq_getElem hj, List.getElem?_toArray, k1, k2']
      rfl
    have hlt : ∀ j, j < xs.length → xs.getD j 0 < s.heap.objs.size := fun j hj => by
      obtain ⟨⟨o, ho, _⟩, _⟩ := hvals j hj
      exact Heap.lt_size ho
    refine wpAny_pyIter_list e1 ?_
    refine hQ _ s.heap.objs.size (s.heap.objs.size :: a :: (List.range vs.toArray.size).map fun j => xs.getD j 0) [s.heap.objs.size]
      (fun j h => h.IsListIter s.heap.objs.size a j ∧ h.IsList a vs.toArray ∧ ∀ k, k < vs.toArray.size → h.IsTuple (xs.getD k 0) (vals k)) (hs.kept (tk := s.toks) fun _ _ e => Heap.get?_push_of_some _ e)
      ⟨⟨_, Heap.get?_push_size _ rfl, rfl, rfl⟩, e1.push _, fun k hk => ?_⟩ ?_ (fun b hb => by simp only [List.mem_singleton] at hb; subst hb; exact hs.fresh (Nat.le_refl _)) (fun C' e1' e2' e3' ok => ?_) ?_
    · rw [hlen] at hk
      obtain ⟨⟨o, g1, g2⟩, _⟩ := hvals k hk
      exact ⟨o, Heap.get?_push_of_some _ g1, g2⟩
    · intro b hb
      rw [Heap.size_push]
      simp only [List.mem_cons, List.mem_map, List.mem_range] at hb
      rcases hb with rfl | rfl | ⟨j, hj, rfl⟩
      · exact Nat.lt_succ_self _
      · exact Nat.lt_succ_of_lt halt
      · exact Nat.lt_succ_of_lt (hlt j (by rw [← hlen]; exact hj))
    · have W := WalksU.listOfTuples (prog := C'.prog) (w := C'.w) (A := C'.A) (by rw [e3']; exact hh) s.heap.objs.size a hne vs.toArray (fun j => xs.getD j 0) vals hitem (fun j hj => Nat.ne_of_lt (hlt j (by rw [← hlen]; exact hj)))
      have D := Dr.of_walksU (x := x) (y := y) (px := px) (py := py) (tp := tp) (tk := tk) i1 i2 W (by rw [e3']; exact hh) ok.1 ok.2.1 ok.2.2 (fun i h st b hb => ?_) (fun i T h hm => ?_) fun i w hi hw => ?_
      · rw [hlen] at D ⊢
        exact D
      · simp only [List.mem_singleton] at hb
        subst hb
        obtain ⟨⟨o, ho, _⟩, _⟩ := st
        exact ⟨o, ho⟩
      · obtain ⟨⟨h1, rfl⟩, _⟩ := hm
        exact List.mem_cons_of_mem _ (List.mem_cons_of_mem _ (List.mem_map.mpr ⟨i, List.mem_range.mpr h1, rfl⟩))
      · subst hw
        exact (hvals i (by rw [← hlen]; exact hi)).2
    · intro b hb
      simp only [List.mem_cons, List.mem_map, List.mem_range] at hb
      rcases hb with rfl | rfl | ⟨j, hj, rfl⟩
      · exact (hs.fresh (Nat.le_refl _)).2.1
      · exact (Here.ne_locals (σ := σ) (.inr h)) hs
      · rw [hlen] at hj
        have := ht j xs[j] (List.getElem?_eq_getElem hj)
        rw [List.getD_eq_getElem?_getD, List.getElem?_eq_getElem hj]
        exact (Here.ne_locals (σ := σ) (.inr this)) hs
end

set_option maxHeartbeats 4000000
/-- a function with cells of its own, below which a table of codes is written -/
theorem FunT.mkC {T : Addr} {lp : Pos} {lq : Str} {prog : Program} {w : World} {K : Frag} {f : Addr} {n : Nat} {P : Pre} {oc : Value} {od : Option Addr} {osl : Array (Option Value)} {name qual : Str} {params : Arguments} {body : List Stmt} {scope : Scope} {dV kV doc pm cdv ct : Value} {an : Option Addr}
    (hk : K.lookup f = some ⟨oc, od, .func (fnX name qual params body scope [] dV kV doc pm an cdv ct), osl⟩) (hcd : codeIn K cdv qual = true) (ps rest : List Str) (hnd : (ps ++ rest).Nodup)
    (hbind : ∀ vs : List Value, vs.length = ps.length → bindArgs (fnX name qual params body scope [] dV kV doc pm an cdv ct) ⟨vs, []⟩ = pure (ps.zip vs))
    (hkind0 : ∀ x ∈ ps, scope.names.lookup x = some .local ∨ (scope.names.lookup x = some .cell ∧ x ∈ (cellsFrom 0 scope.names []).map (·.1)))
    (hcs0 : ((cellsFrom 0 scope.names []).map (·.1)).Nodup) (hck0 : ∀ c ∈ (cellsFrom 0 scope.names []).map (·.1), scope.names.lookup c = some .cell)
    (hlen : ∀ h as d, P h as d → as.length = ps.length)
    (walk : ∀ (C : Cx) (L : Addr) (hb : Heap) (as : List Av) (d : Dt) (tb : Array Value), IsC C prog w K (envOfC qual scope L f cdv) → Ok n C.A → GrowOk C → Wd K hb → TabOk lp lq hb tb → P hb as d → hb.get? L = none → C.env.locals = L →
      TX C (execs body C.env) ⟨hb, ((ps.zip as).filter (fun p => scope.names.lookup p.1 == some .local)).map (fun p => (p.1, some p.2)) ++ rest.map (fun p => (p, none)), ((cellsFrom (L + 1) scope.names []).map fun c => (c.2, .cell ((ps.zip as).lookup c.1))) ++ [(T, .any (tabObj tb))]⟩
        { next := fun _ => False, ret := fun a σ' => Rd (New hb) σ'.hb d a ∧ ∃ tb', (T, .any (tabObj tb')) ∈ σ'.hp ∧ TabNew lp lq hb σ'.hb tb tb' })
    (hco : scope.isCoroutine = false := by rfl) (hgen : scope.isGenerator = false := by rfl) (hki : scope.kind = .function := by rfl) : FunT prog w K T lp lq f (n + 1) P := by
  intro A s as vs d tb hA hW hvs hgT hTok hp
  have ne : ∀ b, b ≠ T → b ∉ [T] := fun b h q => h (List.mem_singleton.mp q)
  have kS : (hideAll s.heap [T]).StaysIn s.heap := fun b o e => of_hideAll _ e
  have hTL : T < s.heap.objs.size := Heap.lt_size hgT
  have hoff : ∀ b, s.heap.objs.size ≤ b → (hideAll s.heap [T]).get? b = none := fun b hb => by
    cases q : (hideAll s.heap [T]).get? b with
    | none => rfl
    | some o => have := kS _ _ q; rw [fresh_none _ hb] at this; cases this
  have hnm : ∀ n, (cellsFrom n scope.names []).map (·.1) = (cellsFrom 0 scope.names []).map (·.1) := fun n => cellsFrom_names scope.names n 0 [] [] rfl
  have hcs : ∀ n, ((cellsFrom n scope.names []).map (·.1)).Nodup := fun n => by rw [hnm]; exact hcs0
  have hck : ∀ n, ∀ c ∈ cellsFrom n scope.names [], scope.names.lookup c.1 = some .cell := fun n c hc => hck0 _ (by rw [← hnm n]; exact List.mem_map.mpr ⟨c, hc, rfl⟩)
  have hkind : ∀ x ∈ ps, ∀ n, scope.names.lookup x = some .local ∨ (scope.names.lookup x = some .cell ∧ ((cellsFrom n scope.names []).lookup x).isSome = true) := fun x hx n => by
    rcases hkind0 x hx with h | ⟨h1, h2⟩
    · exact .inl h
    · refine .inr ⟨h1, ?_⟩
      rw [← hnm n] at h2
      cases q : (cellsFrom n scope.names []).lookup x with
      | some c => rfl
      | none => exact absurd h2 (lookup_out q)
  have hl := hlen _ _ _ hp
  have hvl : vs.length = ps.length := (Paired.len hvs).trans hl
  obtain ⟨X, p, lo, mg, mb, Tp⟩ := id hW
  have hzn : (ps.zip vs).map (·.1) = ps := List.map_fst_zip (by omega)
  have hza : (ps.zip as).map (·.1) = ps := List.map_fst_zip (by omega)
  have hnp : ps.Nodup := (List.nodup_append.mp hnd).1
  refine wpAny_call (codeAny_call_function (fd := fnX name qual params body scope [] dV kV doc pm an cdv ct) (body := body) hA.room (kS _ _ (X _ _ hk)) rfl hco hgen rfl (codeRec_of (X.keeps kS) hcd) ?_)
  refine wpAny_of_eq (hbind vs hvl) ?_
  refine wpAny_newFunctionEnv_cells hki (fun x hx => hkind x.1 (List.of_mem_zip hx).1 _) fun env' he s' x => ?_
  subst he
  refine ⟨(Tp.nolimit.keeps kS).keeps x.toInCall.keep, codeAny_func ?_⟩
  obtain ⟨h₁, tk, rfl, hk₁⟩ := x.done
  have hC := walk ⟨prog, w, A.deeper (envOfC qual scope s.heap.objs.size f cdv), envOfC qual scope s.heap.objs.size f cdv, K, Grown s.gens, s.os⟩ s.heap.objs.size (hideAll s.heap [T]) as d tb ⟨rfl, rfl, rfl, rfl⟩ hA.deeper (fun _ _ h k => h.trans k) hW hTok hp (hoff _ (Nat.le_refl _)) rfl
  have hat : At ⟨prog, w, A.deeper (envOfC qual scope s.heap.objs.size f cdv), envOfC qual scope s.heap.objs.size f cdv, K, Grown s.gens, s.os⟩
      ⟨hideAll s.heap [T], ((ps.zip as).filter (fun p => scope.names.lookup p.1 == some .local)).map (fun p => (p.1, some p.2)) ++ rest.map (fun p => (p, none)), ((cellsFrom (s.heap.objs.size + 1) scope.names []).map fun c => (c.2, .cell ((ps.zip as).lookup c.1))) ++ [(T, .any (tabObj tb))]⟩ { s with heap := h₁, toks := tk } := by
    refine ⟨⟨_, x.toInCall.ns, fun y a hm => ?_⟩, fun b o e => hk₁ _ _ (kS _ _ e), hoff _ (Nat.le_refl _), ?_, fun c k hm => ?_, ?_, hW, Grown.refl _, rfl⟩
    · rcases List.mem_append.mp hm with hm | hm
      · obtain ⟨⟨y', a'⟩, hm2, e⟩ := List.mem_map.mp hm
        cases e
        obtain ⟨hm3, hm4⟩ := List.mem_filter.mp hm2
        obtain ⟨v, h1, h2⟩ := zip_rel hvs hl _ _ hm3
        refine ⟨v, h1, bindL_mem ?_ _ _ (by rw [hzn]; exact hnp) h2⟩
        show scope.names.lookup y' = some .local
        simpa using hm4
      · obtain ⟨q, _, e⟩ := List.mem_map.mp hm
        cases e
    · have e1 : List.map (fun (x : Str × Option Av) => x.1) (((ps.zip as).filter (fun p => scope.names.lookup p.1 == some .local)).map (fun p => (p.1, some p.2)) ++ rest.map (fun p => (p, none))) = ((ps.zip as).filter (fun p => scope.names.lookup p.1 == some .local)).map (·.1) ++ rest := by
        rw [List.map_append, List.map_map, List.map_map]
        congr 1
        exact List.map_id' _
      rw [e1]
      refine List.Sublist.nodup (l₂ := ps ++ rest) (List.Sublist.append ?_ (List.Sublist.refl _)) hnd
      have := (List.filter_sublist (p := fun p : Str × Av => scope.names.lookup p.1 == some .local) (l := ps.zip as)).map (·.1)
      rw [hza] at this
      exact this
    · rcases List.mem_append.mp hm with hm | hm
      · obtain ⟨⟨y, c'⟩, hm2, e⟩ := List.mem_map.mp hm
        cases e
        have hlk : (cellsFrom (s.heap.objs.size + 1) scope.names []).lookup y = some c' := lookup_mem (hcs _) hm2
        obtain ⟨o, ho, hd⟩ := x.cell y c' hlk
        have habove : s.heap.objs.size < c' := x.above y c' hm2
        refine ⟨⟨o, ho, ?_⟩, Nat.ne_of_gt habove, hoff _ (Nat.le_of_lt habove)⟩
        have hyk : (envOfC qual scope s.heap.objs.size f cdv).kindOf y ≠ some .local := by
          show scope.names.lookup y ≠ some .local
          rw [hck _ _ hm2]; simp
        cases hz : (ps.zip as).lookup y with
        | some a =>
          obtain ⟨v, h1, h2⟩ := zip_rel hvs hl y a (lookup_in hz)
          refine ⟨v, ?_, h1⟩
          rw [hd]
          exact congrArg Data.cell (bindC_mem hyk _ _ (by rw [hzn]; exact hnp) h2)
        | none =>
          show o.data = .cell none
          rw [hd]
          refine congrArg Data.cell ((bindC_other _ _ ?_).trans rfl)
          rw [hzn, ← hza]
          exact lookup_out hz
      · obtain ⟨e1, e2⟩ := Prod.mk.inj (List.mem_singleton.mp hm)
        rw [e1, e2]
        exact ⟨⟨_, hk₁ _ _ hgT, rfl, rfl⟩, Nat.ne_of_lt hTL, hideAll_none _ (.head _)⟩
    · have hap := x.apart
      rw [List.map_append, List.map_map]
      show (((cellsFrom (s.heap.objs.size + 1) scope.names []).map fun c => c.2) ++ [T]).Nodup
      refine List.nodup_append.mpr ⟨?_, by simp, ?_⟩
      · unfold List.Nodup
        rw [List.pairwise_map]
        exact hap
      · intro a ha b hb e
        obtain ⟨⟨y, c'⟩, hm2, e2⟩ := List.mem_map.mp ha
        have habove : s.heap.objs.size < c' := x.above y c' hm2
        have e2' : c' = a := e2
        have e3 : b = T := List.mem_singleton.mp hb
        rw [e3, ← e2'] at e
        rw [e] at habove
        exact absurd hTL (Nat.not_lt.mpr (Nat.le_of_lt habove))
  refine wpAny_mono (hC.run _ hat) (fun fl s' H_ => ?_) fun _ _ x => x.elim
  obtain ⟨σ', k1, k2, k3⟩ := H_
  cases fl with
  | ret v =>
    obtain ⟨a, ha, hr, tb', hm, hn⟩ := k3
    obtain ⟨⟨oT, gT, eT, _⟩, _, bT⟩ := k2.hp T _ hm
    subst eT
    have kE : σ'.hb.StaysIn (hideAll s'.heap [T]) := fun b o e => hideAll_get _ (k2.keep _ _ e) (ne _ fun q => by rw [q, bT] at e; cases e)
    exact ⟨a, tb', ha, fun b o e => k2.keep _ _ (k1 _ _ e), gT, hn.keeps kE, hr.keeps kE, k2.gens, k2.os⟩
  | next => exact k3.elim
  | brk => exact k3.elim
  | cont => exact k3.elim

set_option maxHeartbeats 4000000
section
variable {C : Cx} {σ : Sg}
/-- two lists, one behind the other -/
theorem o_ladd {a b : Addr} {l l' : List Av} {Q : Av → Sg → Prop} (h : Here σ a (.list l)) (h' : Here σ b (.list l')) (hsz : l.length + l'.length ≤ sizeLine)
    (q : ∀ x hb', σ.hb.StaysIn hb' → σ.hb.get? x = none → Is hb' x (.list (l ++ l')) → Q (.ref x) ⟨hb', σ.loc, σ.hp⟩) : O2 C (binaryOp .Add) (.ref a) (.ref b) σ Q := by
  rintro _ _ rfl rfl
  refine ⟨fun s hs => ?_⟩
  obtain ⟨o, e, us, n, rfl, e2⟩ := h.at hs
  obtain ⟨o', f, vs, n', rfl, f2⟩ := h'.at hs
  have g1 := Paired.len e2
  have g2 := Paired.len f2
  refine P.add_list (l := a) (b := b) (items := us.toArray) (items2 := vs.toArray) (n := n) (n2 := n') e f ?_ (by simp [g1, g2]; exact hsz)
  have hn := fresh_none s.heap (Nat.le_refl _)
  have hs' := hs.new (tk := s.toks) (a := s.heap.objs.size) (k := .list (l ++ l')) (o := { cls := .type "list", data := .seq (us.toArray ++ vs.toArray) }) hn (fun b o e => Heap.get?_push_of_some _ e) (Heap.get?_push_size _ rfl) ⟨us ++ vs, 0, by simp, Paired.app e2 f2⟩
  obtain ⟨hb', f1, f2, f3, _, f5⟩ := hs'.freeze (a := s.heap.objs.size) (k := .list (l ++ l')) (hp' := σ.hp) .here
  exact ⟨_, f1, f2, .ref _, isR, q _ hb' f1 f5 f3⟩
theorem s1_tup {l : Addr} {as : List Av} (h : Is σ.hb l (.tup as)) (hh : C.A.handled = none) : Src1 C σ (.ref l) as.length (fun i => as.getD i .none) where
  iter := fun v s Q hv hs hQ => by
    have hv' : v = .ref l := hv
    subst hv'
    obtain ⟨ol, gl, us, nn, el, eus⟩ := h
    subst el
    have gl' := hs.hbget gl
    have e1 : s.heap.IsTuple l us.toArray := ⟨_, gl', rfl, _, rfl⟩
    have hne : l ≠ s.heap.objs.size := Nat.ne_of_lt (Heap.lt_size gl')
    have hlen : us.toArray.size = as.length := by simp [Paired.len eus]
    have W := Walks.tuple (prog := C.prog) (w := C.w) (A := C.A) hh s.heap.objs.size l hne us.toArray
    refine wpAny_pyIter_tuple e1 (hQ _ s.heap.objs.size _ (fun i o => o.cls = .type "tuple_iterator" ∧ o.data = .fields #[.ref l, .int i 0]) (fresh_none _ (Nat.le_refl _)) rfl rfl (fun b o e => Heap.get?_push_of_some _ e) (Heap.get?_push_size _ rfl) ⟨rfl, rfl⟩ ?_ ?_ ?_)
    · rintro i ⟨c, dd, dat, sl⟩ ⟨_, hd⟩
      simp only at hd
      subst hd
      rfl
    · intro i s' hi hk ⟨o, ho, ho2⟩ Q E hQ
      refine W.item i s' _ E (by rw [hlen]; exact hi) ⟨⟨o, ho, ho2⟩, ⟨_, hk _ _ gl, rfl, _, rfl⟩⟩ fun v h' tk hv st hk' => ?_
      obtain ⟨⟨o', ho', ho2'⟩, _⟩ := st
      refine hQ v h' tk o' ?_ ho' ho2' fun b o hb e => hk' b o (by simpa using hb) e
      have hg : as[i]? = some as[i] := List.getElem?_eq_getElem hi
      obtain ⟨u', hu', hau⟩ := Paired.get eus hg
      have : u' = v := by
        have hv' : us[i]? = some v := by simpa using hv
        rw [hu'] at hv'
        exact Option.some.inj hv'
      subst this
      rw [List.getD_eq_getElem?_getD, hg]
      exact hau
    · intro s' hk ⟨o, ho, ho2⟩ Q E hQ
      rw [← hlen] at ho2
      exact W.done s' _ E ⟨⟨o, ho, ho2⟩, ⟨_, hk _ _ gl, rfl, _, rfl⟩⟩ fun h' tk hk' => hQ h' tk fun b o hb e => hk' b o (by simpa using hb) e
inductive StoC (c : Addr) (P : Sg → Prop) (σ₁ : Sg) (a : Av) : Prop
  | mk (u : Option Av) (hp' : List (Addr × Mk)) (h : Upd c (.cell u) (.cell (some a)) σ₁.hp hp') (q : P ⟨σ₁.hb, σ₁.loc, hp'⟩) : StoC c P σ₁ a
/-- «x = value», x being a cell -/
theorem x_setC {x pos' value pos} {k : Kt} {c : Addr} (F : C.env.scope.kind = .function) (hk : C.env.kindOf x = some .cell) (hc : C.env.cells.lookup x = some c)
    (h : TV C (eval value C.env) σ (fun a σ₁ => StoC c k.next σ₁ a))
    (hs : swapsWith value (some (.Name x pos')) pos.line C.env = Pure.pure false := by rfl) : TX C (exec (.Assign [.Name x pos'] value pos) C.env) σ k :=
  x_assign (TV.mono h fun a σ₁ _ ⟨u, hp', p, q⟩ v hv => by obtain ⟨hb, loc, hp⟩ := σ₁; exact store_cell F hk hc p hv q) hs
inductive StoC2 (c d : Addr) (P : Sg → Prop) (σ₁ : Sg) (a : Av) : Prop
  | mk (t : Addr) (u v : Av) (e : a = .ref t) (h : Here σ₁ t (.tup [u, v])) (w1 w2 : Option Av) (hp1 hp2 : List (Addr × Mk)) (h1 : Upd c (.cell w1) (.cell (some u)) σ₁.hp hp1) (h2 : Upd d (.cell w2) (.cell (some v)) hp1 hp2) (q : P ⟨σ₁.hb, σ₁.loc, hp2⟩) : StoC2 c d P σ₁ a
/-- «x, y = value», both being cells -/
theorem x_unpack2C {x y : Str} {px py : Pos} {tk tpos value pos} {k : Kt} {env' : Env} {c d : Addr} (he : C.env = env') (F : C.env.scope.kind = .function) (hh : C.A.handled = none)
    (hw : swappedStores [.Tuple [.Name x px, .Name y py] tk tpos] value env' = pure none) (hs : swapsWithSole [.Tuple [.Name x px, .Name y py] tk tpos] value pos.line env' = pure false)
    (hx : env'.kindOf x = some .cell) (hy : env'.kindOf y = some .cell) (hcx : env'.cells.lookup x = some c) (hcy : env'.cells.lookup y = some d)
    (h : TV C (eval value C.env) σ (fun a σ₁ => StoC2 c d k.next σ₁ a)) :
    TX C (exec (.Assign [.Tuple [.Name x px, .Name y py] tk tpos] value pos) C.env) σ k := by
  subst he
  rw [exec_Assign]
  refine T.bind (T.standAt ?_)
  rw [hs]
  refine T.bind (T.pure ?_)
  rw [if_neg (by decide)]
  refine TV.bind (TV.mono h fun a σ₁ _ ⟨t, u, v, e, h1, w1, w2, hp1, hp2, h2, h3, h4⟩ w hw' => ?_)
  subst e
  have hv : w = .ref t := hw'
  subst hv
  rw [hw]
  refine T.bind (T.pure ?_)
  show T C (do assignAll (.ref t) [assign (.Tuple [.Name x px, .Name y py] tk tpos) C.env]; Pure.pure Flow.next) _ _
  show T C (do assign (.Tuple [.Name x px, .Name y py] tk tpos) C.env (.ref t); Pure.pure Flow.next) _ _
  obtain ⟨hb, loc, hp⟩ := σ₁
  refine T.bind ⟨fun s hs => ?_⟩
  obtain ⟨vs, e1, e2⟩ := h1.tup hs
  obtain ⟨a1, a2, rfl, g1, g2⟩ := Avs.two e2
  refine assign_Tuple_tuple hh e1 (by rfl) (by rfl) fun h' he => ?_
  have hs' := hs.kept (tk := s.toks) (h' := h') (fun b o e => he b o (Nat.ne_of_lt (Heap.lt_size e)) e)
  refine T.go (σ := ⟨hb, loc, hp⟩) ?_ (stays_refl _) hs'
  show T C (do PySem.holding _ (assign (.Name x px) C.env a1); assignInOrder [assign (.Name y py) C.env] [a2]) _ _
  refine T.bind (T.holding (T.assignC F hx hcx h2 g1 ?_))
  show T C (do PySem.holding _ (assign (.Name y py) C.env a2); assignInOrder [] []) _ _
  refine T.bind (T.holding (T.assignC F hy hcy h3 g2 ?_))
  exact ⟨fun s hs => assignInOrder_nil ⟨_, stays_refl _, hs, T.pure h4⟩⟩
end

local macro_rules | `(tactic| walk_at "mem") => `(tactic| with_reducible (first | exact List.mem_cons_self | (refine' List.mem_cons_of_mem _ ?b; (case b => walk_at "mem"))))
local macro_rules | `(tactic| walk_at "put") => `(tactic| with_reducible (first | exact Put.here | (refine' Put.there ?b; (case b => walk_at "put"))))
local macro_rules | `(tactic| walk_at "upd") => `(tactic| with_reducible (first | exact Upd.here | (refine' Upd.there ?b; (case b => walk_at "upd"))))
local macro_rules | `(tactic| walk_at "del") => `(tactic| with_reducible (first | exact Del.here | (refine' Del.there ?b; (case b => walk_at "del"))))
local macro_rules | `(tactic| walk_at "ev") => `(tactic| first
  | with_reducible refine' tl_cons ?_
  | with_reducible refine' tl_nil ?_
  | (((with_reducible refine' loc_name ?f_814 ?k_814 ?m_814 ?d_814 ?_); (case f_814 => (exact Fn.kind (by assumption))); (case m_814 => walk_at "mem"); (case k_814 => (exact IsC.kind (by assumption) rfl)); (case d_814 => decide +kernel)))
  | with_reducible refine' e_int ?_
  | with_reducible refine' e_str ?_
  | with_reducible refine' e_binop ?_
  | with_reducible refine' e_cmp1 ?_
  | with_reducible refine' e_bool ?_
  | with_reducible refine' e_none ?_
  | with_reducible refine' o_add ?_
  | with_reducible refine' o_sub ?_
  | ((with_reducible refine' o_mod ?hm ?_); (case hm => decide))
  | ((with_reducible refine' o_div ?hm ?hp ?_); (case hm => decide); (case hp => rfl))
  | with_reducible refine' o_eq ?_
  | with_reducible refine' o_lt ?_
  | with_reducible refine' o_le ?_
  | with_reducible refine' o_gt ?_
  | with_reducible refine' o_ge ?_
  | with_reducible refine' o_ne ?_
  | with_reducible refine' o_seq ?_
  | with_reducible refine' o_sne ?_
  | with_reducible refine' t_bool ?_
  | with_reducible refine' b_cmp1 ?_
  | with_reducible refine' b_not ?_
  | with_reducible refine' tp_none ?_
  | with_reducible refine' tp_some ?_)

/-! ## curses.ascii -/
noncomputable def Num (a : Av) (n : Int) : Prop := a = .int n ∨ ∃ c : Nat, n = c ∧ a = .str (S [c])

theorem f_ctoi (prog : Program) (w : World) : Fun prog w (Mine.hd0.heap_1 w.params) 76 1 (fun _ as d => ∃ a n, as = [a] ∧ Num a n ∧ d = .int n) := by
  refine Fun.mk (by k_is) (by k_is) ["c"] [] (by decide +kernel) (by ((intro vs h; match vs, h with | [v], _ => rfl))) (by decide +kernel) (by decide +kernel) ?_ ?_
  · rintro h as d ⟨a, n, rfl, _, rfl⟩; rfl
  · rintro C L hb as d hC hA hW ⟨a, n, rfl, ha, rfl⟩
    have hF := hC.isFn rfl
    (simp only [List.zipWith_cons_cons, List.zipWith_nil_left, List.zipWith_nil_right, List.map_nil, List.map_cons, List.append_nil, List.nil_append, List.cons_append])
    refine x_cons (x_if (b_plain ?_))
    ((refine e_call rfl ?_; (((with_reducible refine' built_name ?f_4 ?k_4 ?e_4 ?v_4 ?n_4 ?d_4 ?_); (case f_4 => assumption); (case k_4 => (exact IsC.kind (by assumption) rfl)); (case e_4 => (refine IsC.glob (by assumption) ?_; k_is)); (case v_4 => boot_fast); (case n_4 => decide +kernel); (case d_4 => decide +kernel))); refine ⟨_, rfl, kp_builtin, ?_⟩))
    rcases ha with rfl | ⟨c, rfl, rfl⟩
    · refine tl_cons ?_
      (((with_reducible refine' loc_name ?f_6 ?k_6 ?m_6 ?d_6 ?_); (case f_6 => (exact Fn.kind (by assumption))); (case m_6 => walk_at "mem"); (case k_6 => (exact IsC.kind (by assumption) rfl)); (case d_6 => decide +kernel)))
      refine tl_cons ?_
      (((with_reducible refine' built_name ?f_9 ?k_9 ?e_9 ?v_9 ?n_9 ?d_9 ?_); (case f_9 => assumption); (case k_9 => (exact IsC.kind (by assumption) rfl)); (case e_9 => (refine IsC.glob (by assumption) ?_; k_is)); (case v_9 => boot_fast); (case n_9 => decide +kernel); (case d_9 => decide +kernel)))
      refine tl_nil (bc_isStr_int (t_bool ⟨fun h => (by cases h), fun _ => ?_⟩))
      refine x_cons (x_return ?_)
      (((with_reducible refine' loc_name ?f_11 ?k_11 ?m_11 ?d_11 ?_); (case f_11 => (exact Fn.kind (by assumption))); (case m_11 => walk_at "mem"); (case k_11 => (exact IsC.kind (by assumption) rfl)); (case d_11 => decide +kernel)))
      rfl
    · refine tl_cons ?_
      (((with_reducible refine' loc_name ?f_14 ?k_14 ?m_14 ?d_14 ?_); (case f_14 => (exact Fn.kind (by assumption))); (case m_14 => walk_at "mem"); (case k_14 => (exact IsC.kind (by assumption) rfl)); (case d_14 => decide +kernel)))
      refine tl_cons ?_
      (((with_reducible refine' built_name ?f_17 ?k_17 ?e_17 ?v_17 ?n_17 ?d_17 ?_); (case f_17 => assumption); (case k_17 => (exact IsC.kind (by assumption) rfl)); (case e_17 => (refine IsC.glob (by assumption) ?_; k_is)); (case v_17 => boot_fast); (case n_17 => decide +kernel); (case d_17 => decide +kernel)))
      refine tl_nil (bc_isStr (t_bool ⟨fun _ => ?_, fun h => by cases h⟩))
      refine x_cons (x_return ?_)
      ((refine e_call rfl ?_; (((with_reducible refine' built_name ?f_20 ?k_20 ?e_20 ?v_20 ?n_20 ?d_20 ?_); (case f_20 => assumption); (case k_20 => (exact IsC.kind (by assumption) rfl)); (case e_20 => (refine IsC.glob (by assumption) ?_; k_is)); (case v_20 => boot_fast); (case n_20 => decide +kernel); (case d_20 => decide +kernel))); refine ⟨_, rfl, kp_builtin, ?_⟩))
      (repeat (walk_at "ev"))
      refine bc_ord ?_
      rfl

theorem f_isprint (prog : Program) (w : World) : Fun prog w (Mine.hd0.heap_1 w.params) 83 2 (fun _ as d => ∃ n, as = [.int n] ∧ d = .bool (decide (32 ≤ n ∧ n ≤ 126))) := by
  refine Fun.mk (by k_is) (by k_is) ["c"] [] (by decide +kernel) (by ((intro vs h; match vs, h with | [v], _ => rfl))) (by decide +kernel) (by decide +kernel) ?_ ?_
  · rintro h as d ⟨n, rfl, rfl⟩; rfl
  · rintro C L hb as d hC hA hW ⟨n, rfl, rfl⟩
    have hF := hC.isFn rfl
    (simp only [List.zipWith_cons_cons, List.zipWith_nil_left, List.zipWith_nil_right, List.map_nil, List.map_cons, List.append_nil, List.nil_append, List.cons_append])
    refine x_cons (x_return (e_cmp2 ?_))
    walk_at "ev"
    ((refine e_call rfl ?_; (((with_reducible refine' glob_fn ?f_26 ?k_26 ?e_26 ?d_26 ?_); (case f_26 => assumption); (case k_26 => (exact IsC.kind (by assumption) rfl)); (case e_26 => (refine IsC.glob (by assumption) ?_; k_is)); (case d_26 => decide +kernel))); refine ⟨_, rfl, kp_fn (IsC.keep (by assumption) (by k_is)), ?_⟩))
    (repeat (walk_at "ev"))
    refine c_funI (hC.fn (f_ctoi prog w)) (hA.le (by decide)) mono_const ⟨_, n, rfl, .inl rfl, rfl⟩ rfl ?_
    refine o_le (t_bool ⟨fun h => ?_, fun h => ?_⟩)
    · have h' : ¬ (32 : Int) ≤ n := by simpa using h
      have : ¬ (32 ≤ n ∧ n ≤ 126) := fun q => h' q.1
      show Av.bool (decide ((32 : Int) ≤ n)) = Av.bool _
      rw [decide_eq_false h', decide_eq_false this]
    · have h' : (32 : Int) ≤ n := by simpa using h
      (repeat (walk_at "ev"))
      show Av.bool _ = Av.bool _
      congr 1
      simp [h']

noncomputable def uctl (n : Int) : List Nat :=
  (if n / 128 % 2 = 1 then [33] else []) ++
  (if n = 127 then [94, 63] else if 32 ≤ n % 128 ∧ n % 128 ≤ 126 then [(n % 128).toNat] else if n % 128 < 32 then [94, (n % 128).toNat + 64] else [94, 159])

theorem bit128 (n : Int) : Builtin.bitAnd n 128 = if n / 128 % 2 = 1 then 128 else 0 := by
  have key : ∀ m : Nat, m &&& 128 = if m / 128 % 2 = 1 then 128 else 0 := fun m => by
    have small : ∀ k : Nat, k < 256 → k &&& 128 = if k / 128 % 2 = 1 then 128 else 0 := by decide +kernel
    have e : m &&& 128 = (m % 256) &&& 128 := by
      have e1 : m % 256 = m &&& 255 := (Nat.and_two_pow_sub_one_eq_mod m 8).symm
      rw [e1, Nat.and_assoc]; rfl
    rw [e, small _ (Nat.mod_lt _ (by decide))]
    have e2 : m % 256 / 128 % 2 = m / 128 % 2 := by omega
    rw [e2]
  unfold Builtin.bitAnd
  by_cases h0 : 0 ≤ n
  · have e : decide (0 ≤ n) = true := by simpa using h0
    have e2 : decide ((0 : Int) ≤ 128) = true := by decide
    rw [e, e2]
    obtain ⟨m, rfl⟩ := Int.eq_ofNat_of_zero_le h0
    show (((m : Int).toNat &&& 128 : Nat) : Int) = _
    rw [Int.toNat_natCast, key]
    by_cases h : m / 128 % 2 = 1
    · have h' : (m : Int) / 128 % 2 = 1 := by omega
      rw [if_pos h, if_pos h']; rfl
    · have h' : ¬ (m : Int) / 128 % 2 = 1 := by omega
      rw [if_neg h, if_neg h']; rfl
  · have e : decide (0 ≤ n) = false := by simpa using h0
    have e2 : decide ((0 : Int) ≤ 128) = true := by decide
    rw [e, e2]
    show 128 - (((128 : Nat) &&& (Builtin.bitNot n).toNat : Nat) : Int) = _
    have hn : Builtin.bitNot n = -n - 1 := by unfold Builtin.bitNot; omega
    rw [hn, Nat.and_comm, key]
    by_cases h : (-n - 1).toNat / 128 % 2 = 1
    · have h' : ¬ n / 128 % 2 = 1 := by omega
      rw [if_pos h, if_neg h']; rfl
    · have h' : n / 128 % 2 = 1 := by omega
      rw [if_neg h, if_pos h']; rfl

theorem bitOr32 (m : Int) (h0 : 0 ≤ m) (h1 : m < 128) (h : ¬ (32 ≤ m ∧ m ≤ 126)) : Builtin.bitOr m 32 + 32 = if m < 32 then m + 64 else 159 := by
  have key : ∀ k : Nat, k < 128 → ¬ (32 ≤ k ∧ k ≤ 126) → Builtin.bitOr (k : Int) 32 + 32 = if (k : Int) < 32 then (k : Int) + 64 else 159 := by decide +kernel
  obtain ⟨k, rfl⟩ := Int.eq_ofNat_of_zero_le h0
  exact key k (by omega) (by omega)

theorem f_unctrl (prog : Program) (w : World) : Fun prog w (Mine.hd0.heap_1 w.params) 90 3 (fun _ as d => ∃ a n, as = [a] ∧ Num a n ∧ d = .str (S (uctl n))) := by
  refine Fun.mk (by k_is) (by k_is) ["c"] ["bits", "rep"] (by decide +kernel) (by ((intro vs h; match vs, h with | [v], _ => rfl))) (by decide +kernel) (by decide +kernel) ?_ ?_
  · rintro h as d ⟨a, n, rfl, _, rfl⟩; rfl
  · rintro C L hb as d hC hA hW ⟨a, n, rfl, ha, rfl⟩
    have hF := hC.isFn rfl
    (simp only [List.zipWith_cons_cons, List.zipWith_nil_left, List.zipWith_nil_right, List.map_nil, List.map_cons, List.append_nil, List.nil_append, List.cons_append])
    have hm0 : 0 ≤ n % 128 := Int.emod_nonneg _ (by decide)
    have hm1 : n % 128 < 128 := Int.emod_lt_of_pos _ (by decide)
    refine x_cons ?_
    (((with_reducible refine' x_set ?f_32 ?k_32 ?_ ?s_32); (case f_32 => (exact Fn.kind (by assumption))); (case k_32 => (exact IsC.kind (by assumption) rfl)); (case s_32 => rfl)))
    ((refine e_call rfl ?_; (((with_reducible refine' glob_fn ?f_36 ?k_36 ?e_36 ?d_36 ?_); (case f_36 => assumption); (case k_36 => (exact IsC.kind (by assumption) rfl)); (case e_36 => (refine IsC.glob (by assumption) ?_; k_is)); (case d_36 => decide +kernel))); refine ⟨_, rfl, kp_fn (IsC.keep (by assumption) (by k_is)), ?_⟩))
    (repeat (walk_at "ev"))
    refine c_funI (hC.fn (f_ctoi prog w)) (hA.le (by decide)) mono_const ⟨_, n, rfl, ha, rfl⟩ rfl ?_
    ((refine' ⟨_, ?p_39, ?_⟩; (case p_39 => walk_at "put")))
    refine x_seq (fun σ' => ∃ rep : List Nat, rep.length ≤ 2 ∧ uctl n = (if n / 128 % 2 = 1 then [33] else []) ++ rep ∧ σ' = ⟨hb, [("c", some a), ("bits", some (.int n)), ("rep", some (.str (S rep)))], []⟩) ?_ ?_
    rotate_left
    · rintro _ _ ⟨rep, hr, hu, rfl⟩
      refine x_cons (x_if (b_plain ?_))
      (repeat (walk_at "ev"))
      refine o_and ?_
      rw [bit128]
      refine t_int ⟨fun h => ?_, fun h => ?_⟩
      · have h' : n / 128 % 2 = 1 := by
          by_cases q : n / 128 % 2 = 1
          · exact q
          · rw [if_neg q] at h; cases h
        refine x_cons (x_return ?_)
        (repeat (walk_at "ev"))
        refine o_sadd ?_ ?_
        · have e := S_len rep; rw [sizeLine_eq]; show 1 + (S rep).length ≤ _; omega
        · show Av.str _ = Av.str _
          rw [hu, if_pos h', ← S_app]; rfl
      · have h' : ¬ n / 128 % 2 = 1 := by
          by_cases q : n / 128 % 2 = 1
          · rw [if_pos q] at h; cases h
          · exact q
        refine x_nil (x_cons (x_return ?_))
        (repeat (walk_at "ev"))
        show Av.str _ = Av.str _
        rw [hu, if_neg h']; rfl
    refine x_if ?_
    (repeat (walk_at "ev"))
    refine ⟨fun h => ?_, fun h => ?_⟩
    · have h' : n = 127 := by simpa using h
      refine x_cons ?_
      (((with_reducible refine' x_set ?f_44 ?k_44 ?_ ?s_44); (case f_44 => (exact Fn.kind (by assumption))); (case k_44 => (exact IsC.kind (by assumption) rfl)); (case s_44 => rfl)))
      (repeat (walk_at "ev"))
      ((refine' ⟨_, ?p_48, ?_⟩; (case p_48 => walk_at "put")))
      refine x_nil ⟨[94, 63], by decide, ?_, rfl⟩
      subst h'; rfl
    · have h' : n ≠ 127 := by simpa using h
      refine x_cons (x_if (b_plain ?_))
      ((refine e_call rfl ?_; (((with_reducible refine' glob_fn ?f_50 ?k_50 ?e_50 ?d_50 ?_); (case f_50 => assumption); (case k_50 => (exact IsC.kind (by assumption) rfl)); (case e_50 => (refine IsC.glob (by assumption) ?_; k_is)); (case d_50 => decide +kernel))); refine ⟨_, rfl, kp_fn (IsC.keep (by assumption) (by k_is)), ?_⟩))
      (repeat (walk_at "ev"))
      refine o_and ?_
      rw [PyProof.Rows.bitAnd_m7]
      (repeat (walk_at "ev"))
      refine c_funI (hC.fn (f_isprint prog w)) (hA.le (by decide)) mono_const ⟨_, rfl, rfl⟩ rfl ?_
      refine t_bool ⟨fun h => ?_, fun h => ?_⟩
      · have h2 : 32 ≤ n % 128 ∧ n % 128 ≤ 126 := by simpa using h
        refine x_cons ?_
        (((with_reducible refine' x_set ?f_54 ?k_54 ?_ ?s_54); (case f_54 => (exact Fn.kind (by assumption))); (case k_54 => (exact IsC.kind (by assumption) rfl)); (case s_54 => rfl)))
        ((refine e_call rfl ?_; (((with_reducible refine' built_name ?f_58 ?k_58 ?e_58 ?v_58 ?n_58 ?d_58 ?_); (case f_58 => assumption); (case k_58 => (exact IsC.kind (by assumption) rfl)); (case e_58 => (refine IsC.glob (by assumption) ?_; k_is)); (case v_58 => boot_fast); (case n_58 => decide +kernel); (case d_58 => decide +kernel))); refine ⟨_, rfl, kp_builtin, ?_⟩))
        (repeat (walk_at "ev"))
        refine o_and ?_
        rw [PyProof.Rows.bitAnd_m7]
        (repeat (walk_at "ev"))
        refine bc_chr hm0 (by omega) ?_
        ((refine' ⟨_, ?p_62, ?_⟩; (case p_62 => walk_at "put")))
        refine x_nil (x_nil ⟨[(n % 128).toNat], by simp, ?_, rfl⟩)
        unfold uctl
        rw [if_neg h', if_pos h2]
      · have h2 : ¬ (32 ≤ n % 128 ∧ n % 128 ≤ 126) := by simpa using h
        refine x_cons ?_
        (((with_reducible refine' x_set ?f_63 ?k_63 ?_ ?s_63); (case f_63 => (exact Fn.kind (by assumption))); (case k_63 => (exact IsC.kind (by assumption) rfl)); (case s_63 => rfl)))
        (repeat (walk_at "ev"))
        ((refine e_call rfl ?_; (((with_reducible refine' built_name ?f_68 ?k_68 ?e_68 ?v_68 ?n_68 ?d_68 ?_); (case f_68 => assumption); (case k_68 => (exact IsC.kind (by assumption) rfl)); (case e_68 => (refine IsC.glob (by assumption) ?_; k_is)); (case v_68 => boot_fast); (case n_68 => decide +kernel); (case d_68 => decide +kernel))); refine ⟨_, rfl, kp_builtin, ?_⟩))
        (repeat (walk_at "ev"))
        refine o_and ?_
        rw [PyProof.Rows.bitAnd_m7]
        (repeat (walk_at "ev"))
        refine o_or ?_
        (repeat (walk_at "ev"))
        rw [bitOr32 _ hm0 hm1 h2]
        refine bc_chr (by split <;> omega) (by split <;> omega) ?_
        refine o_sadd ?_ ?_
        · rw [sizeLine_eq]; show 1 + 1 ≤ _; omega
        ((refine' ⟨_, ?p_73, ?_⟩; (case p_73 => walk_at "put")))
        by_cases h3 : n % 128 < 32
        · rw [if_pos h3]
          have e : (n % 128 + 64).toNat = (n % 128).toNat + 64 := by omega
          rw [e]
          refine x_nil (x_nil ⟨[94, (n % 128).toNat + 64], by simp, ?_, rfl⟩)
          unfold uctl
          rw [if_neg h', if_neg h2, if_pos h3]
        · rw [if_neg h3]
          refine x_nil (x_nil ⟨[94, 159], by simp, ?_, rfl⟩)
          unfold uctl
          rw [if_neg h', if_neg h2, if_neg h3]

/-! ## small functions of the law -/
noncomputable def specials : List Nat := [40, 41, 91, 93, 123, 125, 63, 42, 43, 45, 124, 94, 36, 92, 46, 38, 126, 35, 32, 9, 10, 13, 11, 12]
noncomputable def esc (c : Nat) : List Nat := if c ∈ specials then [92, c] else [c]

theorem f_escape (prog : Program) (w : World) : Fun prog w (Mine.hd0.heap_1 w.params) 55 2 (fun _ as d => ∃ c, as = [.str (S [c])] ∧ d = .str (S (esc c))) := by
  refine Fun.mk (by k_is) (by k_is) ["pattern"] [] (by decide +kernel) (by ((intro vs h; match vs, h with | [v], _ => rfl))) (by decide +kernel) (by decide +kernel) ?_ ?_
  · rintro h as d ⟨c, rfl, rfl⟩; rfl
  · rintro C L hb as d hC hA hW ⟨c, rfl, rfl⟩
    have hF := hC.isFn rfl
    (simp only [List.zipWith_cons_cons, List.zipWith_nil_left, List.zipWith_nil_right, List.map_nil, List.map_cons, List.append_nil, List.nil_append, List.cons_append])
    refine x_cons (x_if (b_plain ?_))
    ((refine e_call rfl ?_; (((with_reducible refine' built_name ?f_77 ?k_77 ?e_77 ?v_77 ?n_77 ?d_77 ?_); (case f_77 => assumption); (case k_77 => (exact IsC.kind (by assumption) rfl)); (case e_77 => (refine IsC.glob (by assumption) ?_; k_is)); (case v_77 => boot_fast); (case n_77 => decide +kernel); (case d_77 => decide +kernel))); refine ⟨_, rfl, kp_builtin, ?_⟩))
    (repeat (walk_at "ev"))
    (((with_reducible refine' built_name ?f_80 ?k_80 ?e_80 ?v_80 ?n_80 ?d_80 ?_); (case f_80 => assumption); (case k_80 => (exact IsC.kind (by assumption) rfl)); (case e_80 => (refine IsC.glob (by assumption) ?_; k_is)); (case v_80 => boot_fast); (case n_80 => decide +kernel); (case d_80 => decide +kernel)))
    refine tl_nil (bc_isStr (t_bool ⟨fun _ => ?_, fun h => by cases h⟩))
    refine x_cons (x_return (e_meth meth_translate rfl ?_))
    (((with_reducible refine' loc_name ?f_82 ?k_82 ?m_82 ?d_82 ?_); (case f_82 => (exact Fn.kind (by assumption))); (case m_82 => walk_at "mem"); (case k_82 => (exact IsC.kind (by assumption) rfl)); (case d_82 => decide +kernel)))
    refine ⟨of_str, ?_⟩
    refine tl_cons ?_
    (((with_reducible refine' glob_fn ?f_85 ?k_85 ?e_85 ?d_85 ?_); (case f_85 => assumption); (case k_85 => (exact IsC.kind (by assumption) rfl)); (case e_85 => (refine IsC.glob (by assumption) ?_; k_is)); (case d_85 => decide +kernel)))
    refine tl_nil ?_
    refine' bc_translate hA.1 (by rw [hC.K]; k_is) ?hr ?hd ?_
    case hr => decide +kernel
    case hd => decide +kernel
    show Av.str _ = Av.str _
    rfl

/-! ## fnmatch._join_translated_parts, where no part is a star -/
noncomputable abbrev frame2 (r0 : List (List Nat)) : List Nat := [40, 63, 115, 58] ++ r0.flatten ++ [41, 92, 90]
noncomputable def PJoin2 : Pre := fun h as d => ∃ x star r0, as = [.ref x, .ref star] ∧ Is h x (.list (r0.map fun y => .str (S y))) ∧ r0.length ≤ 1000 ∧ (frame2 r0).length ≤ 100000 ∧ d = .str (S (frame2 r0))
theorem PJoin2.mono : Mono PJoin2 := ⟨fun h h' as d k ⟨x, star, r0, e, i, r⟩ => ⟨x, star, r0, e, i.keeps k, r⟩⟩

theorem f_join2 (prog : Program) (w : World) : Fun prog w (Mine.hd0.heap_1 w.params) 69 1 PJoin2 := by
  refine Fun.mk (by k_is) (by k_is) ["inp", "STAR"] ["res", "add", "i", "n", "fixed"] (by decide +kernel) (by ((intro vs h; match vs, h with | [v, u], _ => rfl))) (by decide +kernel) (by decide +kernel) ?_ ?_
  · rintro h as d ⟨x, star, r0, rfl, _⟩; rfl
  · rintro C L hb as d hC hA hW ⟨x, star, r0, rfl, hx, hlen, htx, rfl⟩
    have hF := hC.isFn rfl
    (simp only [List.zipWith_cons_cons, List.zipWith_nil_left, List.zipWith_nil_right, List.map_nil, List.map_cons, List.append_nil, List.nil_append, List.cons_append])
    have hx' : ∀ {loc hp}, Here ⟨hb, loc, hp⟩ x (.list (r0.map fun y => Av.str (S y))) := .inr hx
    have hll : (r0.map fun y => Av.str (S y)).length = r0.length := List.length_map ..
    refine x_cons ?_
    (((with_reducible refine' x_set ?f_89 ?k_89 ?_ ?s_89); (case f_89 => (exact Fn.kind (by assumption))); (case k_89 => (exact IsC.kind (by assumption) rfl)); (case s_89 => rfl)))
    refine e_list rfl (tl_nil ⟨by ((rw [sizeLine_eq]; first | decide | (simp only [List.length_cons, List.length_nil]; omega) | omega)), fun r => ?_⟩)
    ((refine' ⟨_, ?p_93, ?_⟩; (case p_93 => walk_at "put")))
    refine x_cons ?_
    (((with_reducible refine' x_set ?f_94 ?k_94 ?_ ?s_94); (case f_94 => (exact Fn.kind (by assumption))); (case k_94 => (exact IsC.kind (by assumption) rfl)); (case s_94 => rfl)))
    refine e_append (l := []) ?_
    (((with_reducible refine' loc_name ?f_97 ?k_97 ?m_97 ?d_97 ?_); (case f_97 => (exact Fn.kind (by assumption))); (case m_97 => walk_at "mem"); (case k_97 => (exact IsC.kind (by assumption) rfl)); (case d_97 => decide +kernel)))
    refine ⟨r, rfl, [], List.mem_cons_self, fun b => ?_⟩
    ((refine' ⟨_, ?p_100, ?_⟩; (case p_100 => walk_at "put")))
    refine x_cons ?_
    ((refine x_tset2 (IsC.env (by assumption)) (Fn.kind (by assumption)) (And.left (by assumption)) rfl rfl rfl rfl rfl ?_))
    refine tl_cons ?_
    walk_at "ev"
    refine tl_cons ?_
    ((refine e_call rfl ?_; (((with_reducible refine' built_name ?f_103 ?k_103 ?e_103 ?v_103 ?n_103 ?d_103 ?_); (case f_103 => assumption); (case k_103 => (exact IsC.kind (by assumption) rfl)); (case e_103 => (refine IsC.glob (by assumption) ?_; k_is)); (case v_103 => boot_fast); (case n_103 => decide +kernel); (case d_103 => decide +kernel))); refine ⟨_, rfl, kp_builtin, ?_⟩))
    (repeat (walk_at "ev"))
    refine bc_len_list hx' (by ((rw [sizeLine_eq]; first | decide | (simp only [List.length_cons, List.length_nil]; omega) | omega))) ?_
    refine tl_nil ?_
    ((refine' ⟨_, _, rfl, _, _, ?p1_107, ?p2_107, ?_⟩; (case p1_107 => walk_at "put"); (case p2_107 => walk_at "put")))
    rw [hll]
    let st : Nat → List (List Nat) → Option Av → Sg := fun p ys vf => ⟨hb, [("inp", some (.ref x)), ("STAR", some (.ref star)), ("res", some (.ref r)), ("add", some (.ref b)), ("i", some (.int p)), ("n", some (.int r0.length)), ("fixed", vf)],
      [(b, .any (bmObj r)), (r, .list (ys.map fun y => .str (S y)))]⟩
    have item : ∀ {i : Nat} {o : List Nat} {loc hp} {Q : Av → Sg → Prop}, r0[i]? = some o → Q (.str (S o)) ⟨hb, loc, hp⟩ → ItemT C (.ref x) (.int (i : Int)) ⟨hb, loc, hp⟩ Q := fun ho q =>
      it_listI hx' (by rw [List.getElem?_map, ho]; rfl) (by omega) q
    -- the first loop
    refine x_seq (fun σ' => σ' = st r0.length r0 none) ?_ ?_
    · refine x_while (fun m σ' => ∃ i, i ≤ r0.length ∧ m = r0.length - i ∧ σ' = st i (r0.take i) none) r0.length ⟨0, Nat.zero_le _, rfl, rfl⟩ ?_
      rintro m _ _ ⟨i, hi, rfl, rfl⟩
      dsimp only [st]
      have atIn : ∀ (h : i < r0.length), r0[i]? = some r0[i] := fun h => List.getElem?_eq_getElem h
      refine T.mono (tt_and (b1 := decide ((i : Int) < r0.length)) (b2 := decide (i < r0.length)) (b_cmp1 ?_) (fun hj => b_cmp1 (e_item ?_))) ?_
      · (repeat (walk_at "ev"))
        exact ⟨rfl, rfl⟩
      · have hj' : i < r0.length := by have := of_decide_eq_true hj; omega
        (repeat (walk_at "ev"))
        refine item (atIn hj') ?_
        (repeat (walk_at "ev"))
        exact o_isnot_sr (t_bool ⟨rfl, by simp [hj']⟩)
      rintro _ _ _ ⟨rfl, rfl⟩
      refine ⟨fun h => ?_, fun h => ?_⟩
      · have hir : i < r0.length := of_decide_eq_true (Bool.and_eq_true_iff.mp h).2
        refine x_cons ?_
        ((refine x_add (Fn.kind (by assumption)) rfl rfl ?_; (((with_reducible refine' loc_name ?f_112 ?k_112 ?m_112 ?d_112 ?_); (case f_112 => (exact Fn.kind (by assumption))); (case m_112 => walk_at "mem"); (case k_112 => (exact IsC.kind (by assumption) rfl)); (case d_112 => decide +kernel))); refine' ⟨_, _, rfl, ?m_111, ?_⟩; (case m_111 => walk_at "mem")))
        refine e_item ?_
        (repeat (walk_at "ev"))
        refine item (atIn hir) ?_
        refine' ⟨by walk_at "mem", _, _, ?hl, ?u, ?_⟩
        case u => walk_at "upd"
        case hl => rw [sizeLine_eq, List.length_map, List.length_take]; omega
        refine x_cons ?_
        (((with_reducible refine' x_augl ?f_116 ?k_116 ?m_116 ?_); (case f_116 => (exact Fn.kind (by assumption))); (case k_116 => (exact IsC.kind (by assumption) rfl)); (case m_116 => walk_at "mem")))
        (repeat (walk_at "ev"))
        refine o_iadd ?_
        ((refine' ⟨_, ?p_120, ?_⟩; (case p_120 => walk_at "put")))
        (repeat (refine x_nil ?_))
        refine ⟨_, by omega, i + 1, by omega, rfl, ?_⟩
        have e2 : r0.take (i + 1) = r0.take i ++ [r0[i]] := by rw [List.take_add_one, List.getElem?_eq_getElem hir]; rfl
        rw [e2, List.map_append]
        rfl
      · have e : i = r0.length := by
          rcases Bool.and_eq_false_iff.mp h with h | h
          · have := of_decide_eq_false h; omega
          · have := of_decide_eq_false h; omega
        subst e
        (repeat (refine x_nil ?_))
        rw [List.take_length]
    rintro _ _ rfl
    refine x_seq (fun σ' => σ' = st r0.length r0 none) ?_ ?_
    · refine x_while (fun m σ' => σ' = st r0.length r0 none) 0 rfl ?_
      rintro m _ _ rfl
      dsimp only [st]
      (repeat (walk_at "ev"))
      refine ⟨fun h => ?_, fun h => ?_⟩
      · have h' : (r0.length : Int) < r0.length := of_decide_eq_true h
        omega
      · exact x_nil rfl
    rintro _ _ rfl
    dsimp only [st]
    have htx2 : r0.flatten.length ≤ 100000 := by
      have := htx
      simp only [List.length_append] at this ⊢
      omega
    refine x_cons (x_assert ?_)
    (repeat (walk_at "ev"))
    refine ⟨by simp, ?_⟩
    refine x_cons ?_
    (((with_reducible refine' x_set ?f_125 ?k_125 ?_ ?s_125); (case f_125 => (exact Fn.kind (by assumption))); (case k_125 => (exact IsC.kind (by assumption) rfl)); (case s_125 => rfl)))
    refine e_meth meth_join rfl ?_
    (repeat (walk_at "ev"))
    refine ⟨of_str, ?_⟩
    (repeat (walk_at "ev"))
    rw [lit_empty, strs_map]
    refine bc_join (ys := r0.map S) (.inl (by walk_at "mem")) rfl (by decide) ?_ ?_
    · rw [sum_len, List.length_map]; omega
    rw [txt_join, jn_nil]
    ((refine' ⟨_, ?p_130, ?_⟩; (case p_130 => walk_at "put")))
    have htx3 : r0.flatten.length ≤ 100000 := htx2
    refine x_cons (x_return (e_fstr (tj_cons ?_)))
    (repeat (walk_at "ev"))
    refine ⟨_, rfl, by rw [sizeLine_eq]; decide, ?_⟩
    refine tj_cons (e_fval ?_)
    (repeat (walk_at "ev"))
    have hz : (S r0.flatten).length = r0.flatten.length := S_len _
    refine ⟨_, rfl, by rw [sizeLine_eq]; omega, _, rfl, ?_, ?_⟩
    · rw [lit_head, sizeLine_eq, hz]
      show 4 + _ ≤ _
      omega
    refine tj_cons ?_
    (repeat (walk_at "ev"))
    have he : Str.empty = S [] := rfl
    rw [lit_head, lit_tail, he]
    simp only [S_app]
    refine ⟨_, rfl, ?_, ?_⟩
    · rw [S_len, S_len, sizeLine_eq]; simp only [List.length_append, List.length_cons, List.length_nil] at htx3 ⊢; omega
    refine tj_nil ?_ ?_
    · rw [S_app, S_len, sizeLine_eq]; simp only [List.length_append, List.length_cons, List.length_nil] at htx3 ⊢; omega
    show Av.str _ = Av.str _
    rw [S_app]
    rfl


/-! ## fnmatch._translate, for a pattern with one bracket that shows a range -/
noncomputable def turn (sf : List Nat) : List Nat := if sf.head? = some 33 then 94 :: sf.tail else if sf.head? = some 94 ∨ sf.head? = some 91 then 92 :: sf else sf
noncomputable def fin (sf : List Nat) : List Nat := if sf = [] then [40, 63, 33, 41] else if sf = [33] then [46] else 91 :: (turn sf ++ [93])
noncomputable def chunksOf (bar : List Nat) (a z : Nat) : List (List Nat) := if z < a then [bar] else [bar ++ [a], [z]]
noncomputable def stuffOf (bar : List Nat) (a z : Nat) : List Nat := (jn [45] ((chunksOf bar a z).map esc2)).flatMap eamp
noncomputable def piece (bar : List Nat) (a z : Nat) : List Nat := fin (stuffOf bar a z)
structure PatOk (pre bar : List Nat) (a z : Nat) : Prop where
  len : pre.length ≤ 2
  clean : ∀ c ∈ pre, c ≠ 42 ∧ c ≠ 63 ∧ c ≠ 91
  bar : bar = [] ∨ bar = [33]
  a : a ≠ 33
  z : z ≠ 93
noncomputable abbrev patOf (pre bar : List Nat) (a z : Nat) : List Nat := pre ++ 91 :: (bar ++ [a, 45, z, 93])
structure PatAt (pat pre bar : List Nat) (a z : Nat) : Prop where
  len : pat.length = pre.length + bar.length + 5
  inp : ∀ i, i < pre.length → ∃ c, pat[i]? = some c ∧ c ∈ pre ∧ (pre.take (i + 1)).map esc = (pre.take i).map esc ++ [esc c]
  op : pat[pre.length]? = some 91
  fst : ∃ c, pat[pre.length + 1]? = some c ∧ (c = 33 ↔ bar = [33])
  gA : pat[pre.length + bar.length + 1]? = some a
  gH : pat[pre.length + bar.length + 2]? = some 45
  gZ : pat[pre.length + bar.length + 3]? = some z
  gC : pat[pre.length + bar.length + 4]? = some 93
  s0 : (pat.drop (pre.length + 1)).take (bar.length + 3) = bar ++ [a, 45, z]
  s1 : (pat.drop (pre.length + 1)).take (bar.length + 1) = bar ++ [a]
  s2 : (pat.drop (pre.length + bar.length + 3)).take 1 = [z]
theorem get_past (pre l : List Nat) (i : Nat) : (pre ++ l)[pre.length + i]? = l[i]? := by
  rw [List.getElem?_append_right (by omega)]; congr 1; omega
theorem drop_past (pre l : List Nat) (i : Nat) : (pre ++ l).drop (pre.length + i) = l.drop i := by
  rw [List.drop_append, List.drop_eq_nil_of_le (by omega), List.nil_append]; congr 1; omega
theorem patAt (pre bar : List Nat) (a z : Nat) (h : PatOk pre bar a z) : PatAt (patOf pre bar a z) pre bar a z := by
  refine ⟨?_, fun i hi => ⟨pre[i], ?_, List.getElem_mem hi, ?_⟩, ?_, ?_, ?_, ?_, ?_, ?_, ?_, ?_, ?_⟩
  · simp only [List.length_append, List.length_cons, List.length_nil]; omega
  · rw [List.getElem?_append_left hi, List.getElem?_eq_getElem hi]
  · rw [List.take_add_one, List.getElem?_eq_getElem hi, Option.toList_some, List.map_append]; rfl
  · exact get_past pre _ 0
  · rcases h.bar with rfl | rfl
    · exact ⟨a, get_past pre _ 1, by simp [h.a]⟩
    · exact ⟨33, get_past pre _ 1, by simp⟩
  · rcases h.bar with rfl | rfl
    · exact get_past pre _ 1
    · exact get_past pre _ 2
  · rcases h.bar with rfl | rfl
    · exact get_past pre _ 2
    · exact get_past pre _ 3
  · rcases h.bar with rfl | rfl
    · exact get_past pre _ 3
    · exact get_past pre _ 4
  · rcases h.bar with rfl | rfl
    · exact get_past pre _ 4
    · exact get_past pre _ 5
  · rw [drop_past]; rcases h.bar with rfl | rfl <;> rfl
  · rw [drop_past]; rcases h.bar with rfl | rfl <;> rfl
  · rw [Nat.add_assoc, drop_past]; rcases h.bar with rfl | rfl <;> rfl
theorem esc2_len (l : List Nat) : (esc2 l).length ≤ 4 * l.length := by
  have h1 := rep1_len 92 [92, 92] rfl l
  have h2 := rep1_len 45 [92, 45] rfl (rep1 92 [92, 92] l)
  show (rep1 45 [92, 45] (rep1 92 [92, 92] l)).length ≤ _
  omega
theorem chunks_small (bar : List Nat) (a z : Nat) (h : bar.length ≤ 1) : (chunksOf bar a z).length ≤ 2 ∧ ∀ x ∈ chunksOf bar a z, x.length ≤ 2 := by
  unfold chunksOf
  split
  · exact ⟨by simp, fun x hx => by rw [List.mem_singleton.mp hx]; omega⟩
  · refine ⟨by simp, fun x hx => ?_⟩
    rcases List.mem_cons.mp hx with e | e
    · rw [e, List.length_append, List.length_cons, List.length_nil]; omega
    · rw [List.mem_singleton.mp e]; simp
theorem stuff_len (bar : List Nat) (a z : Nat) (h : bar.length ≤ 1) : (jn [45] ((chunksOf bar a z).map esc2)).length ≤ 20 := by
  unfold chunksOf
  have h1 := esc2_len bar
  have h2 := esc2_len (bar ++ [a])
  have h3 := esc2_len [z]
  rw [List.length_append, List.length_cons, List.length_nil] at h2
  rw [List.length_cons, List.length_nil] at h3
  split
  · show (esc2 bar).length ≤ _
    omega
  · simp only [List.map_cons, List.map_nil, jn, List.length_append, List.length_cons, List.length_nil]
    omega
theorem joinOk_two : ∀ l : List (List Nat), l.length ≤ 2 → (∀ x ∈ l, x.length ≤ 1000) → JoinOk (S [45]) (l.map S) = true
  | [], _, _ => rfl
  | [x], _, h => by
    have := h x (by simp)
    simp only [JoinOk, Builtin.Str.tooLong, List.map_cons, List.map_nil, List.foldl_toArray, List.foldl_cons, List.foldl_nil, S_len, sizeLine_eq, List.length_cons, List.length_nil]
    simp; omega
  | [x, y], _, h => by
    have := h x (by simp)
    have := h y (by simp)
    simp only [JoinOk, Builtin.Str.tooLong, List.map_cons, List.map_nil, List.foldl_toArray, List.foldl_cons, List.foldl_nil, S_len, sizeLine_eq, List.length_cons, List.length_nil]
    simp; omega
  | x :: y :: z :: l, h, _ => by simp at h
theorem lit_caret : Str.ofString "^" = S [94] := by decide +kernel
theorem lt_one (a z : Nat) : decide (([z] : List Nat) < [a]) = decide (z < a) := by
  refine decide_eq_decide.mpr ?_
  rw [List.cons_lt_cons_iff]
  simp
theorem rePat36 (w : World) (h : Heap) (W : Wd (Mine.hd0.heap_1 w.params) h) : RePat h 36 := by
  obtain ⟨X, -⟩ := W
  have e : ∃ o, (Mine.hd0.heap_1 w.params).lookup 36 = some o ∧ h.get? 36 = some o := ⟨_, by k_is, X _ _ (by k_is)⟩
  have e2 : ∃ o, (Mine.hd0.heap_1 w.params).lookup 35 = some o ∧ h.get? 35 = some o := ⟨_, by k_is, X _ _ (by k_is)⟩
  refine ⟨35, _, _, _, _, _, X _ _ (by k_is), rfl, rfl, rfl, ⟨_, X _ _ (by k_is), rfl⟩, ?_⟩
  decide +kernel
theorem codeHd61 (w : World) : codeHdIn (Mine.hd0.heap_1 w.params) 61 57 = true := by
  have e : ∃ o, (Mine.hd0.heap_1 w.params).lookup 61 = some o := ⟨_, by k_is⟩
  unfold codeHdIn
  rw [show (Mine.hd0.heap_1 w.params).lookup 61 = some _ by k_is]
  kernel_rfl
noncomputable def PTrans : Pre := fun _ as d => ∃ pre bar a z star, as = [.str (S (patOf pre bar a z)), .ref star, .str (S [46])] ∧ PatOk pre bar a z ∧ d = .list ((pre.map esc ++ [piece bar a z]).map fun l => .str (S l))
noncomputable abbrev lamPos : Pos := ⟨63, 39, 63, 76⟩
noncomputable abbrev lamQ : Str := Str.ofString "_translate.<locals>.<lambda>"

set_option maxHeartbeats 4000000 in
theorem f_transl (prog : Program) (w : World) : FunT prog w (Mine.hd0.heap_1 w.params) 57 lamPos lamQ 62 6 PTrans := by
  refine FunT.mk (by k_is) (by k_is) ["pat", "STAR", "QUESTION_MARK"] ["res", "add", "i", "n", "c", "j", "stuff", "chunks", "k", "chunk"] (by decide +kernel) (by ((intro vs h; match vs, h with | [v, u, w], _ => rfl))) (by decide +kernel) (by decide +kernel) ?_ ?_
  · rintro h as d ⟨pre, bar, a, z, star, rfl, _⟩; rfl
  · rintro C L hb as d tb hC hA hG hW hT ⟨pre, bar, a, z, star, rfl, hok, rfl⟩
    have hF := hC.isFn rfl
    have hat := patAt pre bar a z hok
    generalize patOf pre bar a z = pat at hat ⊢
    have hpl := hok.len
    have hbl : bar.length ≤ 1 := by rcases hok.bar with h | h <;> rw [h] <;> simp
    have hN := hat.len
    (simp only [List.zipWith_cons_cons, List.zipWith_nil_left, List.zipWith_nil_right, List.map_nil, List.map_cons, List.append_nil, List.nil_append, List.cons_append])
    refine x_cons ?_
    (((with_reducible refine' x_set ?f_136 ?k_136 ?_ ?s_136); (case f_136 => (exact Fn.kind (by assumption))); (case k_136 => (exact IsC.kind (by assumption) rfl)); (case s_136 => rfl)))
    refine e_list rfl (tl_nil ⟨by ((rw [sizeLine_eq]; first | decide | (simp only [List.length_cons, List.length_nil]; omega) | omega)), fun r => ?_⟩)
    ((refine' ⟨_, ?p_140, ?_⟩; (case p_140 => walk_at "put")))
    refine x_cons ?_
    (((with_reducible refine' x_set ?f_141 ?k_141 ?_ ?s_141); (case f_141 => (exact Fn.kind (by assumption))); (case k_141 => (exact IsC.kind (by assumption) rfl)); (case s_141 => rfl)))
    refine e_append (l := []) ?_
    (((with_reducible refine' loc_name ?f_144 ?k_144 ?m_144 ?d_144 ?_); (case f_144 => (exact Fn.kind (by assumption))); (case m_144 => walk_at "mem"); (case k_144 => (exact IsC.kind (by assumption) rfl)); (case d_144 => decide +kernel)))
    refine ⟨r, rfl, [], List.mem_cons_self, fun b => ?_⟩
    ((refine' ⟨_, ?p_147, ?_⟩; (case p_147 => walk_at "put")))
    refine x_cons ?_
    ((refine x_tset2 (IsC.env (by assumption)) (Fn.kind (by assumption)) (And.left (by assumption)) rfl rfl rfl rfl rfl ?_))
    refine tl_cons ?_
    walk_at "ev"
    refine tl_cons ?_
    ((refine e_call rfl ?_; (((with_reducible refine' built_name ?f_150 ?k_150 ?e_150 ?v_150 ?n_150 ?d_150 ?_); (case f_150 => assumption); (case k_150 => (exact IsC.kind (by assumption) rfl)); (case e_150 => (refine IsC.glob (by assumption) ?_; k_is)); (case v_150 => boot_fast); (case n_150 => decide +kernel); (case d_150 => decide +kernel))); refine ⟨_, rfl, kp_builtin, ?_⟩))
    (repeat (walk_at "ev"))
    refine bc_len_str (by rw [S_len]; ((rw [sizeLine_eq]; first | decide | (simp only [List.length_cons, List.length_nil]; omega) | omega))) ?_
    refine tl_nil ?_
    ((refine' ⟨_, _, rfl, _, _, ?p1_154, ?p2_154, ?_⟩; (case p1_154 => walk_at "put"); (case p2_154 => walk_at "put")))
    rw [S_len]
    let L13 : Option Av → Option Av → Option Av → Option Av → Option Av → Option Av → Option Av → List (Str × Option Av) := fun vi vc vj vs vch vk vcu =>
      [("pat", some (.str (S pat))), ("STAR", some (.ref star)), ("QUESTION_MARK", some (.str (S [46]))), ("res", some (.ref r)), ("add", some (.ref b)), ("i", vi), ("n", some (.int pat.length)), ("c", vc), ("j", vj), ("stuff", vs), ("chunks", vch), ("k", vk), ("chunk", vcu)]
    let avs : List (List Nat) → List Av := fun l => l.map fun x => Av.str (S x)
    let Fi : Sg → Prop := fun σ' => ∃ hb' tb' vc vj vs vch vk vcu, hb.StaysIn hb' ∧ TabNew lamPos lamQ hb hb' tb tb' ∧ σ' = ⟨hb', L13 (some (.int pat.length)) vc vj vs vch vk vcu, [(b, .any (bmObj r)), (r, .list (avs (pre.map esc ++ [piece bar a z]))), (57, .any (tabObj tb'))]⟩
    refine x_seq Fi ?_ ?_
    rotate_left
    · rintro _ _ ⟨hb', tb', vc, vj, vs, vch, vk, vcu, k1, k2, rfl⟩
      dsimp only [L13]
      refine x_cons (x_assert ?_)
      (repeat (walk_at "ev"))
      refine ⟨by simp, ?_⟩
      refine freeze (a := r) (by walk_at "del") fun hb2 q1 q2 q3 => ?_
      refine x_cons (x_return ?_)
      (((with_reducible refine' loc_name ?f_156 ?k_156 ?m_156 ?d_156 ?_); (case f_156 => (exact Fn.kind (by assumption))); (case m_156 => walk_at "mem"); (case k_156 => (exact IsC.kind (by assumption) rfl)); (case d_156 => decide +kernel)))
      refine ⟨?_, tb', by walk_at "mem", k2.keeps q1⟩
      show Rd _ _ _ _
      rw [Rd]
      exact ⟨r, _, rfl, get_none_of k1 q3, q2, by
        have e1 : ((pre.map esc ++ [piece bar a z]).map fun l => Dt.str (S l)) = ((pre.map esc ++ [piece bar a z]).map S).map Dt.str := by rw [List.map_map]; rfl
        show Rds _ _ _ ((pre.map esc ++ [piece bar a z]).map fun x => Av.str (S x))
        rw [e1, rds_strs, List.map_map]
        rfl⟩
    let st : Nat → Option Av → Sg := fun i vc => ⟨hb, L13 (some (.int i)) vc none none none none none, [(b, .any (bmObj r)), (r, .list (avs ((pre.take i).map esc))), (57, .any (tabObj tb))]⟩
    refine x_while (fun m σ' => (∃ i vc, i ≤ pre.length ∧ m = pre.length + 1 - i ∧ σ' = st i vc) ∨ (m = 0 ∧ Fi σ')) (pre.length + 1) (.inl ⟨0, none, Nat.zero_le _, rfl, rfl⟩) ?_
    rintro m _ _ (⟨i, vc, hi, rfl, rfl⟩ | ⟨rfl, hb', tb', vc, vj, vs, vch, vk, vcu, k1, k2, rfl⟩)
    rotate_left
    · dsimp only [L13]
      (repeat (walk_at "ev"))
      refine ⟨fun h => ?_, fun h => ?_⟩
      · have h' : (pat.length : Int) < pat.length := by simpa using h
        omega
      · exact x_nil ⟨hb', tb', vc, vj, vs, vch, vk, vcu, k1, k2, rfl⟩
    dsimp only [st, L13]
    (repeat (walk_at "ev"))
    refine ⟨fun _ => ?_, fun h => ?_⟩
    rotate_left
    · have h' : ¬ (i : Int) < pat.length := by simpa using h
      omega
    have hpl2 : ∀ j, (avs ((pre.take j).map esc)).length ≤ 2 := fun j => by
      show (((pre.take j).map esc).map _).length ≤ 2
      rw [List.length_map, List.length_map, List.length_take]; omega
    by_cases hip : i < pre.length
    · obtain ⟨c, hc, hcm, htk⟩ := hat.inp i hip
      obtain ⟨n42, n63, n91⟩ := hok.clean c hcm
      refine x_cons ?_
      (((with_reducible refine' x_set ?f_161 ?k_161 ?_ ?s_161); (case f_161 => (exact Fn.kind (by assumption))); (case k_161 => (exact IsC.kind (by assumption) rfl)); (case s_161 => rfl)))
      refine e_item ?_
      (repeat (walk_at "ev"))
      refine it_strN hc (by omega) ?_
      ((refine' ⟨_, ?p_165, ?_⟩; (case p_165 => walk_at "put")))
      refine x_cons ?_
      (((with_reducible refine' x_set ?f_166 ?k_166 ?_ ?s_166); (case f_166 => (exact Fn.kind (by assumption))); (case k_166 => (exact IsC.kind (by assumption) rfl)); (case s_166 => rfl)))
      (repeat (walk_at "ev"))
      ((refine' ⟨_, ?p_170, ?_⟩; (case p_170 => walk_at "put")))
      refine x_cons (x_if ?_)
      (repeat (walk_at "ev"))
      rw [lit_star, S1_beq]
      refine ⟨fun h => absurd (by simpa using h) n42, fun _ => ?_⟩
      refine x_cons (x_if ?_)
      (repeat (walk_at "ev"))
      rw [lit_q, S1_beq]
      refine ⟨fun h => absurd (by simpa using h) n63, fun _ => ?_⟩
      refine x_cons (x_if ?_)
      (repeat (walk_at "ev"))
      rw [lit_open, S1_beq]
      refine ⟨fun h => absurd (by simpa using h) n91, fun _ => ?_⟩
      refine x_cons ?_
      ((refine x_add (Fn.kind (by assumption)) rfl rfl ?_; (((with_reducible refine' loc_name ?f_175 ?k_175 ?m_175 ?d_175 ?_); (case f_175 => (exact Fn.kind (by assumption))); (case m_175 => walk_at "mem"); (case k_175 => (exact IsC.kind (by assumption) rfl)); (case d_175 => decide +kernel))); refine' ⟨_, _, rfl, ?m_174, ?_⟩; (case m_174 => walk_at "mem")))
      ((refine e_call rfl ?_; (((with_reducible refine' glob_fn ?f_179 ?k_179 ?e_179 ?d_179 ?_); (case f_179 => assumption); (case k_179 => (exact IsC.kind (by assumption) rfl)); (case e_179 => (refine IsC.glob (by assumption) ?_; k_is)); (case d_179 => decide +kernel))); refine ⟨_, rfl, kp_fn (IsC.keep (by assumption) (by k_is)), ?_⟩))
      (repeat (walk_at "ev"))
      refine c_funI (hC.fn (f_escape prog w)) (hA.le (by decide)) mono_const ⟨c, rfl, rfl⟩ rfl ?_
      refine' ⟨by walk_at "mem", _, _, ?hl, ?u, ?_⟩
      case u => walk_at "upd"
      case hl => have := hpl2 i; rw [sizeLine_eq]; omega
      (repeat (refine x_nil ?_))
      refine ⟨_, by omega, .inl ⟨i + 1, some (.str (S [c])), by omega, rfl, ?_⟩⟩
      dsimp only [st, L13, avs]
      rw [htk, List.map_append]
      rfl
    obtain rfl : i = pre.length := by omega
    rw [List.take_length]
    obtain ⟨_, _, hop, hfst, hgA, hgH, hgZ, hgC, hs0, hs1, hs2⟩ := hat
    generalize hP : pre.length = P at *
    generalize hB : bar.length = B at *
    refine x_cons ?_
    (((with_reducible refine' x_set ?f_183 ?k_183 ?_ ?s_183); (case f_183 => (exact Fn.kind (by assumption))); (case k_183 => (exact IsC.kind (by assumption) rfl)); (case s_183 => rfl)))
    refine e_item ?_
    (repeat (walk_at "ev"))
    refine it_strN hop (by omega) ?_
    ((refine' ⟨_, ?p_187, ?_⟩; (case p_187 => walk_at "put")))
    refine x_cons ?_
    (((with_reducible refine' x_set ?f_188 ?k_188 ?_ ?s_188); (case f_188 => (exact Fn.kind (by assumption))); (case k_188 => (exact IsC.kind (by assumption) rfl)); (case s_188 => rfl)))
    (repeat (walk_at "ev"))
    ((refine' ⟨_, ?p_192, ?_⟩; (case p_192 => walk_at "put")))
    refine x_cons (x_if ?_)
    (repeat (walk_at "ev"))
    rw [lit_star, S1_beq]
    refine ⟨fun h => absurd h (by decide), fun _ => ?_⟩
    refine x_cons (x_if ?_)
    (repeat (walk_at "ev"))
    rw [lit_q, S1_beq]
    refine ⟨fun h => absurd h (by decide), fun _ => ?_⟩
    refine x_cons (x_if ?_)
    (repeat (walk_at "ev"))
    rw [lit_open, S1_beq]
    refine ⟨fun _ => ?_, fun h => absurd h (by decide)⟩
    let hp0 : List (Addr × Mk) := [(b, .any (bmObj r)), (r, .list (avs (pre.map esc))), (57, .any (tabObj tb))]
    let st2 : Nat → Sg := fun j => ⟨hb, L13 (some (.int ((P + 1 : Nat) : Int))) (some (.str (S [91]))) (some (.int (j : Nat))) none none none none, hp0⟩
    refine x_cons ?_
    (((with_reducible refine' x_set ?f_196 ?k_196 ?_ ?s_196); (case f_196 => (exact Fn.kind (by assumption))); (case k_196 => (exact IsC.kind (by assumption) rfl)); (case s_196 => rfl)))
    (repeat (walk_at "ev"))
    ((refine' ⟨_, ?p_200, ?_⟩; (case p_200 => walk_at "put")))
    have cast1 : ∀ n : Nat, ((n : Int) + 1) = ((n + 1 : Nat) : Int) := fun _ => rfl
    obtain ⟨c1, hc1, hc1b⟩ := hfst
    refine x_seq (fun σ' => σ' = st2 (P + B + 1)) ?_ ?_
    · refine x_ifB (decide (c1 = 33)) (tt_of (by simp) (tt_and (b1 := true) (b2 := decide (c1 = 33)) (b_cmp1 ?_) (fun _ => b_cmp1 (e_item ?_)))) (fun h => ?_) (fun h => ?_)
      · (repeat (walk_at "ev"))
        exact ⟨rfl, by rw [decide_eq_true]; omega⟩
      · (repeat (walk_at "ev"))
        refine it_strN (i := P + 1) hc1 (by omega) ?_
        (repeat (walk_at "ev"))
        rw [lit_bang, S1_beq]
        exact ⟨rfl, by simp⟩
      · have hbar := hc1b.mp (of_decide_eq_true h)
        have hB1 : B = 1 := by rw [← hB, hbar]; rfl
        subst hB1
        refine x_cons ?_
        (((with_reducible refine' x_set ?f_204 ?k_204 ?_ ?s_204); (case f_204 => (exact Fn.kind (by assumption))); (case k_204 => (exact IsC.kind (by assumption) rfl)); (case s_204 => rfl)))
        (repeat (walk_at "ev"))
        ((refine' ⟨_, ?p_208, ?_⟩; (case p_208 => walk_at "put")))
        (repeat (refine x_nil ?_))
        rfl
      · have hnb : ¬ bar = [33] := fun e => (of_decide_eq_false h) (hc1b.mpr e)
        have hB0 : B = 0 := by rcases hok.bar with e | e; · rw [← hB, e]; rfl
                               · exact absurd e hnb
        subst hB0
        (repeat (refine x_nil ?_))
        rfl
    rintro _ _ rfl
    dsimp only [st2]
    have hat' : ∀ j, P + B + 1 ≤ j → j ≤ P + B + 4 → (j = P + B + 1 → a ≠ 93) → ∃ x, pat[j]? = some x ∧ (x = 93 ↔ j = P + B + 4) := fun j h1 h2 h3 => by
      rcases (by omega : j = P + B + 1 ∨ j = P + B + 2 ∨ j = P + B + 3 ∨ j = P + B + 4) with e | e | e | e
      · exact ⟨a, by rw [e]; exact hgA, ⟨fun q => absurd q (h3 e), fun q => by omega⟩⟩
      · exact ⟨45, by rw [e]; exact hgH, ⟨fun q => absurd q (by decide), fun q => by omega⟩⟩
      · exact ⟨z, by rw [e]; exact hgZ, ⟨fun q => absurd q hok.z, fun q => by omega⟩⟩
      · exact ⟨93, by rw [e]; exact hgC, ⟨fun _ => e, fun _ => rfl⟩⟩
    refine x_seq (fun σ' => ∃ j, P + B + 1 ≤ j ∧ j ≤ P + B + 4 ∧ (j = P + B + 1 → a ≠ 93) ∧ σ' = st2 j) ?_ ?_
    · refine x_ifB (decide (a = 93)) (tt_of (by simp) (tt_and (b1 := true) (b2 := decide (a = 93)) (b_cmp1 ?_) (fun _ => b_cmp1 (e_item ?_)))) (fun h => ?_) (fun h => ?_)
      · (repeat (walk_at "ev"))
        exact ⟨rfl, by rw [decide_eq_true]; omega⟩
      · (repeat (walk_at "ev"))
        refine it_strN hgA (by omega) ?_
        (repeat (walk_at "ev"))
        rw [lit_close, S1_beq]
        exact ⟨rfl, by simp⟩
      · refine x_cons ?_
        (((with_reducible refine' x_set ?f_214 ?k_214 ?_ ?s_214); (case f_214 => (exact Fn.kind (by assumption))); (case k_214 => (exact IsC.kind (by assumption) rfl)); (case s_214 => rfl)))
        (repeat (walk_at "ev"))
        ((refine' ⟨_, ?p_218, ?_⟩; (case p_218 => walk_at "put")))
        (repeat (refine x_nil ?_))
        exact ⟨P + B + 2, by omega, by omega, fun e => by omega, rfl⟩
      · (repeat (refine x_nil ?_))
        exact ⟨P + B + 1, by omega, by omega, fun _ => of_decide_eq_false h, rfl⟩
    rintro _ _ ⟨j0, hj1, hj2, hj3, rfl⟩
    refine x_seq (fun σ' => σ' = st2 (P + B + 4)) ?_ ?_
    · refine x_while (fun m σ' => ∃ j, P + B + 1 ≤ j ∧ j ≤ P + B + 4 ∧ (j = P + B + 1 → a ≠ 93) ∧ m = P + B + 4 - j ∧ σ' = st2 j) (P + B + 4 - j0) ⟨j0, hj1, hj2, hj3, rfl, rfl⟩ ?_
      clear hj1 hj2 hj3
      rintro m _ _ ⟨j, hj1, hj2, hj3, rfl, rfl⟩
      dsimp only [st2]
      obtain ⟨x, hx, hx2⟩ := hat' j hj1 hj2 hj3
      refine T.mono (tt_of (b := decide (¬ x = 93)) (by simp) (tt_and (b1 := true) (b2 := decide (¬ x = 93)) (b_cmp1 ?_) (fun _ => b_cmp1 (e_item ?_)))) ?_
      · (repeat (walk_at "ev"))
        exact ⟨rfl, by rw [decide_eq_true]; omega⟩
      · (repeat (walk_at "ev"))
        refine it_strN hx (by omega) ?_
        (repeat (walk_at "ev"))
        rw [lit_close, bne, S1_beq]
        exact ⟨rfl, by simp⟩
      rintro _ _ _ ⟨rfl, rfl⟩
      refine ⟨fun h => ?_, fun h => ?_⟩
      · have hn : ¬ j = P + B + 4 := fun e => (of_decide_eq_true h) (hx2.mpr e)
        refine x_cons ?_
        (((with_reducible refine' x_set ?f_224 ?k_224 ?_ ?s_224); (case f_224 => (exact Fn.kind (by assumption))); (case k_224 => (exact IsC.kind (by assumption) rfl)); (case s_224 => rfl)))
        (repeat (walk_at "ev"))
        ((refine' ⟨_, ?p_228, ?_⟩; (case p_228 => walk_at "put")))
        (repeat (refine x_nil ?_))
        exact ⟨_, by omega, j + 1, by omega, by omega, fun e => by omega, rfl, rfl⟩
      · have e : j = P + B + 4 := hx2.mp (by have := of_decide_eq_false h; exact Decidable.not_not.mp this)
        (repeat (refine x_nil ?_))
        rw [e]
    rintro _ _ rfl
    dsimp only [st2]
    refine x_cons (x_ifB false (b_cmp1 ?_) (fun h => by cases h) (fun _ => ?_))
    · (repeat (walk_at "ev"))
      exact ⟨rfl, by rw [decide_eq_false]; omega⟩
    -- the text within the brackets
    have p0 : List.take (cut (some (((P + B + 4 : Nat)) : Int)) pat.length pat.length - cut (some ((P + 1 : Nat) : Int)) 0 pat.length) (pat.drop (cut (some ((P + 1 : Nat) : Int)) 0 pat.length)) = bar ++ [a, 45, z] := by
      rw [show P + B + 4 = (P + 1) + (B + 3) by omega, part_len _ _ _ _ _ rfl]; exact hs0
    have p1 : List.take (cut (some (((P + B + 2 : Nat)) : Int)) pat.length pat.length - cut (some ((P + 1 : Nat) : Int)) 0 pat.length) (pat.drop (cut (some ((P + 1 : Nat) : Int)) 0 pat.length)) = bar ++ [a] := by
      rw [show P + B + 2 = (P + 1) + (B + 1) by omega, part_len _ _ _ _ _ rfl]; exact hs1
    have p2 : List.take (cut (some (((P + B + 4 : Nat)) : Int)) pat.length pat.length - cut (some ((P + B + 3 : Nat) : Int)) 0 pat.length) (pat.drop (cut (some ((P + B + 3 : Nat) : Int)) 0 pat.length)) = [z] := by
      rw [show P + B + 4 = (P + B + 3) + 1 by omega, part_len _ _ _ _ _ rfl]; exact hs2
    have hbl2 : (bar ++ [a, 45, z]).length = B + 3 := by simp [hB]
    refine x_cons ?_
    (((with_reducible refine' x_set ?f_232 ?k_232 ?_ ?s_232); (case f_232 => (exact Fn.kind (by assumption))); (case k_232 => (exact IsC.kind (by assumption) rfl)); (case s_232 => rfl)))
    refine e_slice ?_
    (repeat (walk_at "ev"))
    refine ⟨_, rfl, ?_⟩
    (repeat (walk_at "ev"))
    refine ⟨_, rfl, ?_⟩
    refine sl_strL (by ((rw [sizeLine_eq]; first | decide | (simp only [List.length_cons, List.length_nil]; omega) | omega))) ?_
    rw [p0]
    ((refine' ⟨_, ?p_238, ?_⟩; (case p_238 => walk_at "put")))
    let sj : List Nat := jn [45] ((chunksOf bar a z).map esc2)
    let M5 : Sg → Prop := fun σ' => ∃ hb' tb' vi vch vk vcu, hb.StaysIn hb' ∧ TabNew lamPos lamQ hb hb' tb tb' ∧ σ' = ⟨hb', L13 vi (some (.str (S [91]))) (some (.int ((P + B + 4 : Nat) : Int))) (some (.str (S sj))) vch vk vcu, [(b, .any (bmObj r)), (r, .list (avs (pre.map esc))), (57, .any (tabObj tb'))]⟩
    refine x_seq M5 ?_ ?_
    rotate_left
    · rintro _ _ ⟨hb3, tb3, vi, vch, vk, vcu, hk3, hn3, rfl⟩
      dsimp only [L13]
      have hsl : sj.length ≤ 20 := stuff_len bar a z (by omega)
      have hsf : sj.flatMap eamp = stuffOf bar a z := rfl
      have hfl := eamp_len sj
      refine x_cons ?_
      (((with_reducible refine' x_set ?f_239 ?k_239 ?_ ?s_239); (case f_239 => (exact Fn.kind (by assumption))); (case k_239 => (exact IsC.kind (by assumption) rfl)); (case s_239 => rfl)))
      refine e_meth ⟨attrs_re, slot_re_sub, type_re_sub⟩ rfl ?_
      (((with_reducible refine' glob_fn ?f_242 ?k_242 ?e_242 ?d_242 ?_); (case f_242 => assumption); (case k_242 => (exact IsC.kind (by assumption) rfl)); (case e_242 => (refine IsC.glob (by assumption) ?_; k_is)); (case d_242 => decide +kernel)))
      have hre := rePat36 w hb3 (hW.keeps hk3)
      refine ⟨fun v s hv hs => ?_, ?_⟩
      · obtain ⟨ca, vs', n, items, t2, t6, e1, _⟩ := (hre.keeps hs.keep).ex
        have hv' : v = .ref 36 := hv
        subst hv'
        exact ⟨⟨_, e1, rfl⟩, fun x e => by cases e; exact ⟨_, e1, rfl⟩⟩
      refine tl_cons (e_lambda (hpOf := fun ps => [(b, .any (bmObj r)), (r, .list (avs (pre.map esc))), (57, .any (tabObj ps))]) (T := 57) (c := 61) (lq := lamQ) hF hG rfl (closureFor_none (by decide +kernel)) (by rw [hC.env]; rfl) (by rw [hC.K]; exact codeHd61 w)
        (fun _ => by walk_at "upd") (hn3.ok hT hk3) (by rw [hC.env]; show Str.ofString "_translate.<locals>." ++ Str.ofString "<lambda>" = _; decide +kernel) fun f cv ctv pm hb4 tb4 k1 k2 k3 k4 k5 => ?_)
      (repeat (walk_at "ev"))
      refine bc_sub (hre.keeps k1) ⟨⟨_, _, _, _, _, _, _, _, _, _, _, _, _, k3, k4⟩⟩ (hA.le (by decide)) (by omega) ?_
      rw [hsf] at hfl ⊢
      have hpc : piece bar a z = fin (stuffOf bar a z) := rfl
      generalize stuffOf bar a z = sf at *
      have hk4 := stays_trans hk3 k1
      have hn4 := hn3.trans k5 hk3 k1
      have eapp : ∀ x, avs (pre.map esc ++ [x]) = avs (pre.map esc) ++ [.str (S x)] := fun x => List.map_append
      ((refine' ⟨_, ?p_245, ?_⟩; (case p_245 => walk_at "put")))
      have hi5 : ((P + B + 4 : Nat) : Int) + 1 = (pat.length : Int) := by rw [hN]; rfl
      refine x_cons ?_
      (((with_reducible refine' x_set ?f_246 ?k_246 ?_ ?s_246); (case f_246 => (exact Fn.kind (by assumption))); (case k_246 => (exact IsC.kind (by assumption) rfl)); (case s_246 => rfl)))
      (repeat (walk_at "ev"))
      rw [hi5]
      ((refine' ⟨_, ?p_250, ?_⟩; (case p_250 => walk_at "put")))
      refine x_cons (x_if (b_not (b_plain ?_)))
      (((with_reducible refine' loc_name ?f_251 ?k_251 ?m_251 ?d_251 ?_); (case f_251 => (exact Fn.kind (by assumption))); (case m_251 => walk_at "mem"); (case k_251 => (exact IsC.kind (by assumption) rfl)); (case d_251 => decide +kernel)))
      have hsf2 : sf.length ≤ 40 := by omega
      have hpn : (avs (pre.map esc)).length ≤ sizeLine := by
        have := hpl2 P
        show ((pre.map esc).map _).length ≤ _
        rw [List.length_map, List.length_map, hP, sizeLine_eq]; omega
      refine t_strS (by omega) ⟨fun h => ?_, fun h => ?_⟩
      · have e0 : sf = [] := by simpa using h
        subst e0
        refine x_cons ?_
        ((refine x_add (Fn.kind (by assumption)) rfl rfl ?_; (((with_reducible refine' loc_name ?f_255 ?k_255 ?m_255 ?d_255 ?_); (case f_255 => (exact Fn.kind (by assumption))); (case m_255 => walk_at "mem"); (case k_255 => (exact IsC.kind (by assumption) rfl)); (case d_255 => decide +kernel))); refine' ⟨_, _, rfl, ?m_254, ?_⟩; (case m_254 => walk_at "mem")))
        (repeat (walk_at "ev"))
        refine' ⟨by walk_at "mem", _, _, ?hl, ?u, ?_⟩
        case u => walk_at "upd"
        case hl => exact hpn
        (repeat (refine x_nil ?_))
        refine ⟨0, by omega, .inr ⟨rfl, ?_⟩⟩
        dsimp only [Fi]
        rw [hpc, eapp]
        exact ⟨hb4, tb4, _, _, _, _, _, _, hk4, hn4, rfl⟩
      have e0 : ¬ sf = [] := by simpa using h
      refine x_cons (x_if ?_)
      (repeat (walk_at "ev"))
      rw [lit_bang, S1_beq]
      refine ⟨fun h => ?_, fun h => ?_⟩
      · have e1 : sf = [33] := by simpa using h
        subst e1
        refine x_cons ?_
        ((refine x_add (Fn.kind (by assumption)) rfl rfl ?_; (((with_reducible refine' loc_name ?f_262 ?k_262 ?m_262 ?d_262 ?_); (case f_262 => (exact Fn.kind (by assumption))); (case m_262 => walk_at "mem"); (case k_262 => (exact IsC.kind (by assumption) rfl)); (case d_262 => decide +kernel))); refine' ⟨_, _, rfl, ?m_261, ?_⟩; (case m_261 => walk_at "mem")))
        (repeat (walk_at "ev"))
        refine' ⟨by walk_at "mem", _, _, ?hl, ?u, ?_⟩
        case u => walk_at "upd"
        case hl => exact hpn
        (repeat (refine x_nil ?_))
        refine ⟨0, by omega, .inr ⟨rfl, ?_⟩⟩
        dsimp only [Fi]
        rw [hpc, eapp]
        exact ⟨hb4, tb4, _, _, _, _, _, _, hk4, hn4, rfl⟩
      have e1 : ¬ sf = [33] := by simpa using h
      have hpf : piece bar a z = 91 :: (turn sf ++ [93]) := by rw [hpc]; unfold fin; rw [if_neg e0, if_neg e1]
      obtain ⟨c, rest, rfl⟩ : ∃ c rest, sf = c :: rest := by cases sf with
        | nil => exact absurd rfl e0
        | cons c r => exact ⟨c, r, rfl⟩
      refine x_seq (fun σ' => σ' = ⟨hb4, L13 (some (.int pat.length)) (some (.str (S [91]))) (some (.int ((P + B + 4 : Nat) : Int))) (some (.str (S (turn (c :: rest))))) vch vk vcu, [(b, .any (bmObj r)), (r, .list (avs (pre.map esc))), (57, .any (tabObj tb4))]⟩) ?_ ?_
      · refine x_if (b_cmp1 (e_item ?_))
        (repeat (walk_at "ev"))
        refine it_strN (i := 0) (c := c) rfl (by omega) ?_
        (repeat (walk_at "ev"))
        rw [S1_beq]
        refine ⟨fun h => ?_, fun h => ?_⟩
        · have ec : c = 33 := by simpa using h
          subst ec
          refine x_cons ?_
          (((with_reducible refine' x_set ?f_269 ?k_269 ?_ ?s_269); (case f_269 => (exact Fn.kind (by assumption))); (case k_269 => (exact IsC.kind (by assumption) rfl)); (case s_269 => rfl)))
          refine e_binop ?_
          (repeat (walk_at "ev"))
          refine e_slice ?_
          (repeat (walk_at "ev"))
          refine ⟨_, rfl, ?_⟩
          (repeat (walk_at "ev"))
          refine sl_strL (by rw [sizeLine_eq]; omega) ?_
          have eA : List.take (cut none (33 :: rest).length (33 :: rest).length - cut (some 1) 0 (33 :: rest).length) (List.drop (cut (some 1) 0 (33 :: rest).length) (33 :: rest)) = rest := by
            have := cut_nat 1 0 (33 :: rest).length
            rw [show (1 : Int) = ((1 : Nat) : Int) from rfl, this, Nat.min_eq_left (by simp)]
            show List.take ((33 :: rest).length - 1) rest = rest
            simp
          rw [eA, lit_caret]
          have hrl : rest.length ≤ 40 := by rw [List.length_cons] at hsf2; omega
          refine o_sadd (by rw [S_len, S_len, sizeLine_eq]; simp only [List.length_cons, List.length_nil]; omega) ?_
          rw [S_app]
          ((refine' ⟨_, ?p_275, ?_⟩; (case p_275 => walk_at "put")))
          (repeat (refine x_nil ?_))
          have : turn (33 :: rest) = [94] ++ rest := rfl
          rw [this]
        have n33 : ¬ c = 33 := by simpa using h
        refine x_cons (x_ifB (decide (c = 94 ∨ c = 91)) (T.weak (b_cmp1 (e_item ?_))) (fun h => ?_) (fun h => ?_))
        · (repeat (walk_at "ev"))
          refine it_strN (i := 0) (c := c) rfl (by omega) ?_
          refine e_tup rfl ?_
          (repeat (walk_at "ev"))
          refine ⟨by ((rw [sizeLine_eq]; first | decide | (simp only [List.length_cons, List.length_nil]; omega) | omega)), fun t => ?_⟩
          refine o_in_tupS (ys := [S [94], S [91]]) (.inl (by walk_at "mem")) (by first | rw [lit_caret, lit_open]; rfl | rw [lit_caret]; rfl | rw [lit_open]; rfl | rfl) (t_bool ⟨rfl, by simp⟩)
        · have ec := of_decide_eq_true h
          refine x_cons ?_
          (((with_reducible refine' x_set ?f_280 ?k_280 ?_ ?s_280); (case f_280 => (exact Fn.kind (by assumption))); (case k_280 => (exact IsC.kind (by assumption) rfl)); (case s_280 => rfl)))
          refine e_binop ?_
          (repeat (walk_at "ev"))
          rw [lit_bs]
          refine o_sadd (by rw [S_len, S_len, sizeLine_eq]; simp only [List.length_cons, List.length_nil] at hsf2 ⊢; omega) ?_
          rw [S_app]
          ((refine' ⟨_, ?p_284, ?_⟩; (case p_284 => walk_at "put")))
          (repeat (refine x_nil ?_))
          have : turn (c :: rest) = [92] ++ c :: rest := by
            unfold turn
            rw [if_neg (by simpa using n33), if_pos (by simpa using ec)]
            rfl
          rw [this]
        · have ec := of_decide_eq_false h
          (repeat (refine x_nil ?_))
          have : turn (c :: rest) = c :: rest := by
            unfold turn
            rw [if_neg (by simpa using n33), if_neg (by simpa using ec)]
          rw [this]
      rintro _ _ rfl
      dsimp only [L13]
      have htl : (turn (c :: rest)).length ≤ 50 := by
        rw [List.length_cons] at hsf2
        unfold turn
        split
        · simp; omega
        · split <;> simp <;> omega
      generalize turn (c :: rest) = tz at *
      refine x_cons ?_
      ((refine x_add (Fn.kind (by assumption)) rfl rfl ?_; (((with_reducible refine' loc_name ?f_288 ?k_288 ?m_288 ?d_288 ?_); (case f_288 => (exact Fn.kind (by assumption))); (case m_288 => walk_at "mem"); (case k_288 => (exact IsC.kind (by assumption) rfl)); (case d_288 => decide +kernel))); refine' ⟨_, _, rfl, ?m_287, ?_⟩; (case m_287 => walk_at "mem")))
      refine e_fstr (tj_cons ?_)
      (repeat (walk_at "ev"))
      refine ⟨_, rfl, by rw [sizeLine_eq]; decide, ?_⟩
      refine tj_cons (e_fval ?_)
      (((with_reducible refine' loc_name ?f_292 ?k_292 ?m_292 ?d_292 ?_); (case f_292 => (exact Fn.kind (by assumption))); (case m_292 => walk_at "mem"); (case k_292 => (exact IsC.kind (by assumption) rfl)); (case d_292 => decide +kernel)))
      refine ⟨_, rfl, by rw [sizeLine_eq, S_len]; omega, _, rfl, ?_, ?_⟩
      · have hz := S_len tz
        rw [sizeLine_eq, hz]
        show 1 + _ ≤ _
        omega
      refine tj_cons ?_
      (repeat (walk_at "ev"))
      have he : Str.empty = S [] := rfl
      rw [lit_close, he]
      simp only [S_app]
      refine ⟨_, rfl, ?_, ?_⟩
      · rw [S_len, S_len, sizeLine_eq]; simp only [List.length_append, List.length_cons, List.length_nil]; omega
      refine tj_nil ?_ ?_
      · rw [S_app, S_len, sizeLine_eq]; simp only [List.length_append, List.length_cons, List.length_nil]; omega
      rw [S_app]
      refine' ⟨by walk_at "mem", _, _, ?hl, ?u, ?_⟩
      case u => walk_at "upd"
      case hl => exact hpn
      (repeat (refine x_nil ?_))
      refine ⟨0, by omega, .inr ⟨rfl, ?_⟩⟩
      dsimp only [Fi]
      rw [hpf, eapp]
      exact ⟨hb4, tb4, _, _, _, _, _, _, hk4, hn4, rfl⟩
    refine x_ifB false (b_cmp1 ?_) (fun h => by cases h) (fun _ => ?_)
    · (repeat (walk_at "ev"))
      rw [lit_hy]
      refine o_snin1 (t_bool ⟨rfl, by simp⟩)
    refine x_cons ?_
    (((with_reducible refine' x_set ?f_298 ?k_298 ?_ ?s_298); (case f_298 => (exact Fn.kind (by assumption))); (case k_298 => (exact IsC.kind (by assumption) rfl)); (case s_298 => rfl)))
    refine e_list rfl (tl_nil ⟨by ((rw [sizeLine_eq]; first | decide | (simp only [List.length_cons, List.length_nil]; omega) | omega)), fun r2 => ?_⟩)
    ((refine' ⟨_, ?p_302, ?_⟩; (case p_302 => walk_at "put")))
    let st3 : Heap → Option Av → Option Av → List (List Nat) → Option Av → Sg := fun hb' vi vk cs vcu => ⟨hb', L13 vi (some (.str (S [91]))) (some (.int ((P + B + 4 : Nat) : Int))) (some (.str (S (bar ++ [a, 45, z])))) (some (.ref r2)) vk vcu, (r2, .list (avs cs)) :: hp0⟩
    refine x_seq (fun σ' => σ' = st3 hb (some (.int ((P + 1 : Nat) : Int))) (some (.int ((P + B + 2 : Nat) : Int))) [] none) ?_ ?_
    · (((with_reducible refine' x_set ?f_303 ?k_303 ?_ ?s_303); (case f_303 => (exact Fn.kind (by assumption))); (case k_303 => (exact IsC.kind (by assumption) rfl)); (case s_303 => rfl)))
      refine e_ifexp (b_cmp1 (e_item ?_))
      (repeat (walk_at "ev"))
      refine it_strN (i := P + 1) hc1 (by omega) ?_
      (repeat (walk_at "ev"))
      rw [lit_bang, S1_beq]
      refine ⟨fun h => ?_, fun h => ?_⟩
      · have hbar := hc1b.mp (by simpa using h)
        have hB1 : B = 1 := by rw [← hB, hbar]; rfl
        subst hB1
        (repeat (walk_at "ev"))
        ((refine' ⟨_, ?p_309, ?_⟩; (case p_309 => walk_at "put")))
        rfl
      · have hnb : ¬ bar = [33] := fun e => (by simpa using h : ¬ c1 = 33) (hc1b.mpr e)
        have hB0 : B = 0 := by rcases hok.bar with e | e; · rw [← hB, e]; rfl
                               · exact absurd e hnb
        subst hB0
        (repeat (walk_at "ev"))
        ((refine' ⟨_, ?p_311, ?_⟩; (case p_311 => walk_at "put")))
        rfl
    rintro _ _ rfl
    refine x_seq (fun σ' => σ' = st3 hb (some (.int ((P + B + 3 : Nat) : Int))) (some (.int (-1))) [bar ++ [a]] none) ?_ ?_
    · refine x_while (fun m σ' => (m = 1 ∧ σ' = st3 hb (some (.int ((P + 1 : Nat) : Int))) (some (.int ((P + B + 2 : Nat) : Int))) [] none) ∨ (m = 0 ∧ σ' = st3 hb (some (.int ((P + B + 3 : Nat) : Int))) (some (.int ((P + B + 5 : Nat) : Int))) [bar ++ [a]] none)) 1 (.inl ⟨rfl, rfl⟩) ?_
      rintro m _ _ (⟨rfl, rfl⟩ | ⟨rfl, rfl⟩)
      · dsimp only [st3, L13, hp0]
        refine b_plain (e_bool (t_bool ⟨fun _ => ?_, fun h => by cases h⟩))
        refine x_cons ?_
        (((with_reducible refine' x_set ?f_312 ?k_312 ?_ ?s_312); (case f_312 => (exact Fn.kind (by assumption))); (case k_312 => (exact IsC.kind (by assumption) rfl)); (case s_312 => rfl)))
        refine e_meth meth_find rfl ?_
        (((with_reducible refine' loc_name ?f_315 ?k_315 ?m_315 ?d_315 ?_); (case f_315 => (exact Fn.kind (by assumption))); (case m_315 => walk_at "mem"); (case k_315 => (exact IsC.kind (by assumption) rfl)); (case d_315 => decide +kernel)))
        refine ⟨of_str, ?_⟩
        (repeat (walk_at "ev"))
        rw [lit_hy]
        refine bc_find_here hgH (by omega) (by omega) ?_
        ((refine' ⟨_, ?p_319, ?_⟩; (case p_319 => walk_at "put")))
        refine x_cons (x_if ?_)
        (repeat (walk_at "ev"))
        refine ⟨fun h => ?_, fun _ => ?_⟩
        · have : ((P + B + 2 : Nat) : Int) < 0 := by simpa using h
          omega
        refine x_nil ?_
        refine x_cons (x_expr (e_meth meth_append rfl ?_) hF.kind)
        (((with_reducible refine' loc_name ?f_321 ?k_321 ?m_321 ?d_321 ?_); (case f_321 => (exact Fn.kind (by assumption))); (case m_321 => walk_at "mem"); (case k_321 => (exact IsC.kind (by assumption) rfl)); (case d_321 => decide +kernel)))
        refine ⟨of_list (.inl (by walk_at "mem")), ?_⟩
        refine tl_cons (e_slice ?_)
        (repeat (walk_at "ev"))
        refine ⟨_, rfl, ?_⟩
        (repeat (walk_at "ev"))
        refine ⟨_, rfl, ?_⟩
        refine sl_strL (by ((rw [sizeLine_eq]; first | decide | (simp only [List.length_cons, List.length_nil]; omega) | omega))) ?_
        rw [p1]
        refine tl_nil ?_
        refine' bc_append ?u ?hl ⟨rfl, ?_⟩
        case u => walk_at "upd"
        case hl => exact Nat.zero_le _
        refine x_cons ?_
        (((with_reducible refine' x_set ?f_327 ?k_327 ?_ ?s_327); (case f_327 => (exact Fn.kind (by assumption))); (case k_327 => (exact IsC.kind (by assumption) rfl)); (case s_327 => rfl)))
        (repeat (walk_at "ev"))
        ((refine' ⟨_, ?p_331, ?_⟩; (case p_331 => walk_at "put")))
        refine x_cons ?_
        (((with_reducible refine' x_set ?f_332 ?k_332 ?_ ?s_332); (case f_332 => (exact Fn.kind (by assumption))); (case k_332 => (exact IsC.kind (by assumption) rfl)); (case s_332 => rfl)))
        (repeat (walk_at "ev"))
        ((refine' ⟨_, ?p_336, ?_⟩; (case p_336 => walk_at "put")))
        (repeat (refine x_nil ?_))
        exact ⟨0, by omega, .inr ⟨rfl, rfl⟩⟩
      · dsimp only [st3, L13, hp0]
        refine b_plain (e_bool (t_bool ⟨fun _ => ?_, fun h => by cases h⟩))
        refine x_cons ?_
        (((with_reducible refine' x_set ?f_338 ?k_338 ?_ ?s_338); (case f_338 => (exact Fn.kind (by assumption))); (case k_338 => (exact IsC.kind (by assumption) rfl)); (case s_338 => rfl)))
        refine e_meth meth_find rfl ?_
        (((with_reducible refine' loc_name ?f_341 ?k_341 ?m_341 ?d_341 ?_); (case f_341 => (exact Fn.kind (by assumption))); (case m_341 => walk_at "mem"); (case k_341 => (exact IsC.kind (by assumption) rfl)); (case d_341 => decide +kernel)))
        refine ⟨of_str, ?_⟩
        (repeat (walk_at "ev"))
        rw [lit_hy]
        refine bc_find_past (by omega) ?_
        ((refine' ⟨_, ?p_345, ?_⟩; (case p_345 => walk_at "put")))
        refine x_cons (x_if ?_)
        (repeat (walk_at "ev"))
        refine ⟨fun h => ?_, fun h => absurd h (by decide)⟩
        exact x_cons (x_break rfl)
    rintro _ _ rfl
    dsimp only [st3, L13, hp0]
    refine x_cons ?_
    (((with_reducible refine' x_set ?f_347 ?k_347 ?_ ?s_347); (case f_347 => (exact Fn.kind (by assumption))); (case k_347 => (exact IsC.kind (by assumption) rfl)); (case s_347 => rfl)))
    refine e_slice ?_
    (repeat (walk_at "ev"))
    refine ⟨_, rfl, ?_⟩
    (repeat (walk_at "ev"))
    refine ⟨_, rfl, ?_⟩
    refine sl_strL (by ((rw [sizeLine_eq]; first | decide | (simp only [List.length_cons, List.length_nil]; omega) | omega))) ?_
    rw [p2]
    ((refine' ⟨_, ?p_353, ?_⟩; (case p_353 => walk_at "put")))
    refine x_cons (x_if (b_plain ?_))
    (((with_reducible refine' loc_name ?f_354 ?k_354 ?m_354 ?d_354 ?_); (case f_354 => (exact Fn.kind (by assumption))); (case m_354 => walk_at "mem"); (case k_354 => (exact IsC.kind (by assumption) rfl)); (case d_354 => decide +kernel)))
    refine t_strS (by simp) ⟨fun _ => ?_, fun h => by cases h⟩
    refine x_cons (x_expr (e_meth meth_append rfl ?_) hF.kind)
    (((with_reducible refine' loc_name ?f_357 ?k_357 ?m_357 ?d_357 ?_); (case f_357 => (exact Fn.kind (by assumption))); (case m_357 => walk_at "mem"); (case k_357 => (exact IsC.kind (by assumption) rfl)); (case d_357 => decide +kernel)))
    refine ⟨of_list (.inl (by walk_at "mem")), ?_⟩
    (repeat (walk_at "ev"))
    refine' bc_append ?u ?hl ⟨rfl, ?_⟩
    case u => walk_at "upd"
    case hl => show 1 ≤ _; rw [sizeLine_eq]; decide
    refine x_nil ?_
    refine x_seq (fun σ' => ∃ hb' vk, hb.StaysIn hb' ∧ σ' = st3 hb' (some (.int ((P + B + 3 : Nat) : Int))) vk (chunksOf bar a z) (some (.str (S [z])))) ?_ ?_
    · refine x_for hF.kind (hC.kind rfl) (fun _ => rfl) ?_
      ((refine e_call rfl ?_; (((with_reducible refine' built_name ?f_362 ?k_362 ?e_362 ?v_362 ?n_362 ?d_362 ?_); (case f_362 => assumption); (case k_362 => (exact IsC.kind (by assumption) rfl)); (case e_362 => (refine IsC.glob (by assumption) ?_; k_is)); (case v_362 => boot_fast); (case n_362 => decide +kernel); (case d_362 => decide +kernel))); refine ⟨_, rfl, kp_type, ?_⟩))
      refine tl_cons ?_
      (repeat (walk_at "ev"))
      ((refine e_call rfl ?_; (((with_reducible refine' built_name ?f_366 ?k_366 ?e_366 ?v_366 ?n_366 ?d_366 ?_); (case f_366 => assumption); (case k_366 => (exact IsC.kind (by assumption) rfl)); (case e_366 => (refine IsC.glob (by assumption) ?_; k_is)); (case v_366 => boot_fast); (case n_366 => decide +kernel); (case d_366 => decide +kernel))); refine ⟨_, rfl, kp_builtin, ?_⟩))
      (repeat (walk_at "ev"))
      refine bc_len_list (l := avs [bar ++ [a]] ++ [.str (S [z])]) (.inl (by walk_at "mem")) (by show 2 ≤ _; rw [sizeLine_eq]; decide) ?_
      (repeat (walk_at "ev"))
      refine e_unop ?_
      (repeat (walk_at "ev"))
      refine o_neg ?_
      refine tl_nil ?_
      refine bc_range3 (a := 1) (b := 0) (c := -1) (by decide) (by decide) fun r3 hb3 t u v k1 k2 k3 => ?_
      refine ForOn.mk 1 (fun i => .int (1 + i * -1)) (s1_range k3 hA.1 (by decide) (by decide)) (fun i σ' => if i = 0 then ∃ hb' vk, hb.StaysIn hb' ∧ σ' = st3 hb' (some (.int ((P + B + 3 : Nat) : Int))) vk [bar ++ [a], [z]] (some (.str (S [z]))) else ∃ hb' vk, hb.StaysIn hb' ∧ σ' = st3 hb' (some (.int ((P + B + 3 : Nat) : Int))) vk (chunksOf bar a z) (some (.str (S [z])))) ?_ ?_ ?_
      · rw [if_pos rfl]
        exact ⟨hb3, _, k1, rfl⟩
      · intro i it oi hb' loc hp hi hk hInv
        obtain rfl : i = 0 := by omega
        rw [if_pos rfl] at hInv
        obtain ⟨hb4, vk, q1, q2⟩ := hInv
        obtain ⟨rfl, rfl, rfl⟩ := Sg.mk.inj q2
        have e1 : ((1 : Int) + ((0 : Nat) : Int) * -1) = ((1 : Nat) : Int) := rfl
        dsimp only [L13, hp0]
        rw [e1]
        have hIn : ∀ {loc hp}, (r2, Mk.list (avs [bar ++ [a], [z]])) ∈ hp → Here ⟨hb', loc, hp⟩ r2 (.list (avs [bar ++ [a], [z]])) := fun h => .inl h
        have hb2 : (bar ++ [a]).length ≤ 2 := by rw [List.length_append]; show bar.length + 1 ≤ 2; omega
        ((refine' ⟨_, ?p_371, ?_⟩; (case p_371 => walk_at "put")))
        refine x_cons (x_if (b_cmp1 (e_item (e_item ?_))))
        (repeat (walk_at "ev"))
        refine it_listI (i := 0) (x := .str (S (bar ++ [a]))) (hIn (by walk_at "mem")) rfl (by show 2 ≤ 2 ^ 62; decide) ?_
        refine e_unop ?_
        (repeat (walk_at "ev"))
        refine o_neg ?_
        refine it_strLast (c := a) (by simp) (by omega) ?_
        refine e_item (e_item ?_)
        (repeat (walk_at "ev"))
        refine it_listI (i := 1) (x := .str (S [z])) (hIn (by walk_at "mem")) rfl (by show 2 ≤ 2 ^ 62; decide) ?_
        (repeat (walk_at "ev"))
        refine it_strN (i := 0) (c := z) rfl (by show 1 ≤ 2 ^ 62; decide) ?_
        refine o_sgt (t_bool ?_)
        rw [S_cps, S_cps, lt_one]
        refine ⟨fun h => ?_, fun h => ?_⟩
        · have ec : chunksOf bar a z = [bar] := if_pos (of_decide_eq_true h)
          refine x_cons (x_setitem (e_binop (e_slice (e_item ?_))))
          (repeat (walk_at "ev"))
          refine it_listI (i := 0) (x := .str (S (bar ++ [a]))) (hIn (by walk_at "mem")) rfl (by show 2 ≤ 2 ^ 62; decide) ?_
          (repeat (walk_at "ev"))
          refine e_unop ?_
          (repeat (walk_at "ev"))
          refine o_neg ?_
          refine ⟨_, rfl, ?_⟩
          refine sl_strL (by rw [sizeLine_eq]; omega) ?_
          refine e_slice (e_item ?_)
          (repeat (walk_at "ev"))
          refine it_listI (i := 1) (x := .str (S [z])) (hIn (by walk_at "mem")) rfl (by show 2 ≤ 2 ^ 62; decide) ?_
          (repeat (walk_at "ev"))
          refine ⟨_, rfl, ?_⟩
          (repeat (walk_at "ev"))
          refine sl_strL (by ((rw [sizeLine_eq]; first | decide | (simp only [List.length_cons, List.length_nil]; omega) | omega))) ?_
          have eA : List.take (cut (some (-1)) (bar ++ [a]).length (bar ++ [a]).length - cut none 0 (bar ++ [a]).length) (List.drop (cut none 0 (bar ++ [a]).length) (bar ++ [a])) = bar := by
            have := cut_neg 1 (bar ++ [a]).length (bar ++ [a]).length (by omega)
            rw [show (-1 : Int) = -((1 : Nat) : Int) from rfl, this]
            show List.take ((bar ++ [a]).length - 1 - 0) (List.drop 0 (bar ++ [a])) = bar
            simp
          rw [eA]
          refine o_sadd (by rw [S_len, S_len, sizeLine_eq]; simp only [List.length_take, List.length_drop, List.length_cons, List.length_nil]; omega) ?_
          have eB : S bar ++ S (List.take (cut none [z].length [z].length - cut (some 1) 0 [z].length) (List.drop (cut (some 1) 0 [z].length) [z])) = S bar := by
            rw [S_app]
            have : (List.take (cut none [z].length [z].length - cut (some 1) 0 [z].length) (List.drop (cut (some 1) 0 [z].length) [z])) = [] := rfl
            rw [this, List.append_nil]
          rw [eB]
          (repeat (walk_at "ev"))
          refine' ⟨r2, 0, avs [bar ++ [a], [z]], _, rfl, rfl, by show 0 < 2; decide, by show 2 ≤ 1000; decide, ?u, ?_⟩
          case u => walk_at "upd"
          refine x_cons (x_del ?_)
          (repeat (walk_at "ev"))
          refine' ⟨r2, 1, (avs [bar ++ [a], [z]]).set 0 (.str (S bar)), _, rfl, rfl, by show 1 < 2; decide, by show 2 ≤ 1000; decide, ?u, ?_⟩
          case u => walk_at "upd"
          (repeat (refine x_nil ?_))
          refine ⟨hb', _, _, rfl, ?_⟩
          rw [if_neg (by decide), ec]
          exact ⟨hb', _, q1, rfl⟩
        · have ec : chunksOf bar a z = [bar ++ [a], [z]] := if_neg (of_decide_eq_false h)
          (repeat (refine x_nil ?_))
          refine ⟨hb', _, _, rfl, ?_⟩
          rw [if_neg (by decide), ec]
          exact ⟨hb', _, q1, rfl⟩
      · intro hb' loc hp hk hInv
        rw [if_neg (by decide)] at hInv
        obtain ⟨hb4, vk, q1, q2⟩ := hInv
        exact x_nil ⟨hb4, vk, q1, q2⟩
    rintro _ _ ⟨hb3, vk, hk3, rfl⟩
    dsimp only [st3, L13, hp0]
    have ex : ((chunksOf bar a z).map S).map Av.str = avs (chunksOf bar a z) := (strs_map _).symm
    have eg : ((chunksOf bar a z).map S).map gEsc = ((chunksOf bar a z).map esc2).map S := by
      rw [List.map_map, List.map_map]
      exact List.map_congr_left fun l _ => gEsc_S l
    have hcs := chunks_small bar a z (by omega)
    refine x_cons ?_
    (((with_reducible refine' x_set ?f_387 ?k_387 ?_ ?s_387); (case f_387 => (exact Fn.kind (by assumption))); (case k_387 => (exact IsC.kind (by assumption) rfl)); (case s_387 => rfl)))
    refine e_joinGen (hpOf := fun ps => [(r2, .list (avs (chunksOf bar a z))), (b, .any (bmObj r)), (r, .list (avs (pre.map esc))), (57, .any (tabObj ps))]) (xs := (chunksOf bar a z).map S) (g := gEsc) (lp := lamPos) (lq := lamQ) (Tb := 57) (c := 61) (n := 5)
      hF hA hG rfl (closureFor_none (by decide +kernel)) (by decide +kernel) (by decide +kernel) (by decide +kernel) rfl (hC.kind rfl) (by walk_at "mem") (by decide +kernel) (by rw [hC.env]; rfl) (by rw [hC.K]; exact codeHd61 w) (fun _ => by walk_at "upd") (hT.keeps hk3) (by decide +kernel)
      (by rw [ex]; walk_at "mem") (fun A' cenv s₂ m₂ y t Q' E' hy hh hk hf h0 hn hm q => ?_) ?_ ?_ fun ps' hnew => ?_
    · obtain ⟨l, hl, rfl⟩ := List.mem_map.mp hy
      exact elt_esc A' cenv s₂ m₂ l t Q' E' (by have := hcs.2 l hl; omega) hk hf h0 hn hm q
    · rw [eg, lit_hy]
      refine joinOk_two _ (by rw [List.length_map]; exact hcs.1) fun x hx => ?_
      obtain ⟨l, hl, rfl⟩ := List.mem_map.mp hx
      have h1 := hcs.2 l hl
      have h2 := esc2_len l
      omega
    · rw [List.length_map, sizeLine_eq]; have := hcs.1; omega
    rw [eg, lit_hy, txt_join]
    ((refine' ⟨_, ?p_390, ?_⟩; (case p_390 => walk_at "put")))
    refine drop (by walk_at "del") ?_
    (repeat (refine x_nil ?_))
    exact ⟨hb3, ps', _, _, _, _, hk3, hnew.back hk3, rfl⟩

/-! ## fnmatch.translate -/
theorem piece_len (bar : List Nat) (a z : Nat) (h : bar.length ≤ 1) : (piece bar a z).length ≤ 60 := by
  have h1 := stuff_len bar a z h
  have h2 := eamp_len (jn [45] ((chunksOf bar a z).map esc2))
  have h3 : (stuffOf bar a z).length ≤ 40 := by unfold stuffOf; omega
  unfold piece
  generalize stuffOf bar a z = sf at h3
  unfold fin turn
  split
  · simp
  · split
    · simp
    · split
      · simp; omega
      · split <;> simp <;> omega
theorem esc_len (c : Nat) : (esc c).length ≤ 2 := by unfold esc; split <;> simp
noncomputable def tText (pre bar : List Nat) (a z : Nat) : List Nat := frame2 (pre.map esc ++ [piece bar a z])
theorem tText_len (pre bar : List Nat) (a z : Nat) (h : PatOk pre bar a z) : (tText pre bar a z).length ≤ 100 := by
  have h0 : bar.length ≤ 1 := by rcases h.bar with e | e <;> rw [e] <;> simp
  have h1 := piece_len bar a z h0
  have h2 := h.len
  unfold tText frame2
  rw [List.flatten_append, List.length_append, List.length_append, List.length_append, List.flatten_cons, List.flatten_nil, List.append_nil]
  have h3 : (pre.map esc).flatten.length ≤ 2 * pre.length := by
    clear h2
    induction pre with
    | nil => simp
    | cons c l ih =>
      have := esc_len c
      have := ih ⟨by have := h.len; simp at this; omega, fun c hc => h.clean c (List.mem_cons_of_mem _ hc), h.bar, h.a, h.z⟩
      simp only [List.map_cons, List.flatten_cons, List.length_append, List.length_cons]
      omega
  simp only [List.length_cons, List.length_nil]
  omega
noncomputable def PTr : Pre := fun _ as d => ∃ pre bar a z, as = [.str (S (patOf pre bar a z))] ∧ PatOk pre bar a z ∧ d = .str (S (tText pre bar a z))
theorem f_translate (prog : Program) (w : World) : FunT prog w (Mine.hd0.heap_1 w.params) 57 lamPos lamQ 43 8 PTr := by
  refine FunT.mk (by k_is) (by k_is) ["pat"] ["STAR", "parts"] (by decide +kernel) (by ((intro vs h; match vs, h with | [v], _ => rfl))) (by decide +kernel) (by decide +kernel) ?_ ?_
  · rintro h as d ⟨pre, bar, a, z, rfl, _⟩; rfl
  · rintro C L hb as d tb hC hA hG hW hT ⟨pre, bar, a, z, rfl, hok, rfl⟩
    have hF := hC.isFn rfl
    (simp only [List.zipWith_cons_cons, List.zipWith_nil_left, List.zipWith_nil_right, List.map_nil, List.map_cons, List.append_nil, List.nil_append, List.cons_append])
    refine x_cons ?_
    (((with_reducible refine' x_set ?f_394 ?k_394 ?_ ?s_394); (case f_394 => (exact Fn.kind (by assumption))); (case k_394 => (exact IsC.kind (by assumption) rfl)); (case s_394 => rfl)))
    ((refine e_call rfl ?_; (((with_reducible refine' built_name ?f_398 ?k_398 ?e_398 ?v_398 ?n_398 ?d_398 ?_); (case f_398 => assumption); (case k_398 => (exact IsC.kind (by assumption) rfl)); (case e_398 => (refine IsC.glob (by assumption) ?_; k_is)); (case v_398 => boot_fast); (case n_398 => decide +kernel); (case d_398 => decide +kernel))); refine ⟨_, rfl, kp_type, ?_⟩))
    refine tl_nil (bc_object fun star hb1 k1 n1 o1 => ?_)
    ((refine' ⟨_, ?p_400, ?_⟩; (case p_400 => walk_at "put")))
    refine x_cons ?_
    (((with_reducible refine' x_set ?f_401 ?k_401 ?_ ?s_401); (case f_401 => (exact Fn.kind (by assumption))); (case k_401 => (exact IsC.kind (by assumption) rfl)); (case s_401 => rfl)))
    ((refine e_call rfl ?_; (((with_reducible refine' glob_fn ?f_405 ?k_405 ?e_405 ?d_405 ?_); (case f_405 => assumption); (case k_405 => (exact IsC.kind (by assumption) rfl)); (case e_405 => (refine IsC.glob (by assumption) ?_; k_is)); (case d_405 => decide +kernel))); refine ⟨_, rfl, kp_fn (IsC.keep (by assumption) (by k_is)), ?_⟩))
    (repeat (walk_at "ev"))
    rw [lit_dot]
    refine c_funT (hpOf := fun ps => [(57, .any (tabObj ps))]) (hC.fnT (f_transl prog w)) (hA.le (by decide)) mono_const hG (fun _ => by walk_at "upd") (hT.keeps k1) ⟨pre, bar, a, z, star, rfl, hok, rfl⟩ fun v hb2 tb2 k2 hn2 hr => ?_
    obtain ⟨x, as, rfl, _, hx, has⟩ := rd_list_inv hr
    have e1 : ((pre.map esc ++ [piece bar a z]).map fun l => Dt.str (S l)) = ((pre.map esc ++ [piece bar a z]).map S).map Dt.str := by rw [List.map_map]; rfl
    rw [e1, rds_strs, ← strs_map] at has
    subst has
    ((refine' ⟨_, ?p_408, ?_⟩; (case p_408 => walk_at "put")))
    refine x_cons (x_return ?_)
    ((refine e_call rfl ?_; (((with_reducible refine' glob_fn ?f_410 ?k_410 ?e_410 ?d_410 ?_); (case f_410 => assumption); (case k_410 => (exact IsC.kind (by assumption) rfl)); (case e_410 => (refine IsC.glob (by assumption) ?_; k_is)); (case d_410 => decide +kernel))); refine ⟨_, rfl, kp_fn (IsC.keep (by assumption) (by k_is)), ?_⟩))
    (repeat (walk_at "ev"))
    have htl := tText_len pre bar a z hok
    refine c_funI (hC.fn (f_join2 prog w)) (hA.le (by decide)) PJoin2.mono ⟨x, star, _, rfl, hx, by have := hok.len; rw [List.length_append, List.length_map]; show _ + 1 ≤ _; omega, by unfold tText at htl; omega, rfl⟩ rfl ?_
    exact ⟨rd_str, tb2, by walk_at "mem", hn2.back k1⟩

/-! ## _law_shown -/
noncomputable def unctrls (l : List Int) : List (List Nat) := l.map uctl
theorem f_shown (prog : Program) (w : World) : Fun prog w (Mine.hd0.heap_1 w.params) 95 4 (fun h as d => ∃ r l, as = [.ref r] ∧ Is h r (.list (l.map .int)) ∧ l.length ≤ 1000 ∧ (∀ n ∈ l, n ≤ 1114111) ∧ d = .list ((unctrls l).map fun x => .str (S x))) := by
  refine Fun.mk (by k_is) (by k_is) ["numbers"] ["things"] (by decide +kernel) (by ((intro vs h; match vs, h with | [v], _ => rfl))) (by decide +kernel) (by decide +kernel) ?_ ?_
  · rintro h as d ⟨r, l, rfl, _⟩; rfl
  · rintro C L hb as d hC hA hW ⟨r, l, rfl, hr, hl, hn, rfl⟩
    have hF := hC.isFn rfl
    (simp only [List.zipWith_cons_cons, List.zipWith_nil_left, List.zipWith_nil_right, List.map_nil, List.map_cons, List.append_nil, List.nil_append, List.cons_append])
    have hml : (l.map Av.int).length = l.length := List.length_map ..
    have hget : ∀ i, i < l.length → (l.map Av.int).getD i .none = .int (l.getD i 0) := fun i hi => by
      rw [List.getD_eq_getElem?_getD, List.getElem?_map, List.getElem?_eq_getElem hi, List.getD_eq_getElem?_getD, List.getElem?_eq_getElem hi]; rfl
    refine x_cons ?_
    ((refine x_comp (IsC.env (by assumption)) (Fn.kind (by assumption)) rfl rfl (closureFor_none (by decide +kernel)) (by decide +kernel) rfl (by decide +kernel) (fun _ => rfl) ?_))
    ((refine e_call rfl ?_; (((with_reducible refine' built_name ?f_417 ?k_417 ?e_417 ?v_417 ?n_417 ?d_417 ?_); (case f_417 => assumption); (case k_417 => (exact IsC.kind (by assumption) rfl)); (case e_417 => (refine IsC.glob (by assumption) ?_; k_is)); (case v_417 => boot_fast); (case n_417 => decide +kernel); (case d_417 => decide +kernel))); refine ⟨_, rfl, kp_type, ?_⟩))
    (repeat (walk_at "ev"))
    refine bc_enum (.inr hr) fun e it oi hit => ?_
    refine ⟨_, _, _, _, ["k", "n"], _, fun _ => true, fun i => if i % 2 = 1 ∧ 0 ≤ l.getD i 0 then .str (S [(l.getD i 0).toNat]) else .int (l.getD i 0), src_enum hr (by ((rw [sizeLine_eq]; first | decide | (simp only [List.length_cons, List.length_nil]; omega) | omega))) hA.1 hit, names_two (by decide +kernel),
      ⟨by decide +kernel, fun C' Lc hin => ?_, fun C' Lc D i hb' acc hin hi k kp => ?_⟩, fun x hb' as k hn' hIs hrd => ?_⟩
    · have hC' := hin.is hC
      exact ⟨(hin.fn rfl hF).kind, hC'.kind rfl, hC'.kind rfl⟩
    · have hC' := hin.is hC
      have hF' := hin.fn rfl hF
      have hA' := hin.ok hA
      rw [hml] at hi
      rw [hget i hi]
      refine ct_nil ⟨rfl, rfl, fun _ => ?_⟩
      refine e_ifexp (T.mono (tt_and (b1 := decide (i % 2 = 1)) (b2 := decide (0 ≤ l.getD i 0)) (b_cmp1 ?_) (fun _ => b_cmp1 ?_)) ?_)
      · (repeat (walk_at "ev"))
        refine ⟨rfl, ?_⟩
        by_cases h : i % 2 = 1
        · have : (i : Int) % 2 = 1 := by omega
          simp [h, this]
        · have : ¬ (i : Int) % 2 = 1 := by omega
          simp [h, this]
      · (repeat (walk_at "ev"))
        exact ⟨rfl, rfl⟩
      rintro _ _ _ ⟨rfl, rfl⟩
      refine ⟨fun h => ?_, fun h => ?_⟩
      · obtain ⟨h1, h2⟩ := Bool.and_eq_true_iff.mp h
        have h1 := of_decide_eq_true h1
        have h2 := of_decide_eq_true h2
        ((refine e_call rfl ?_; (((with_reducible refine' built_name ?f_424 ?k_424 ?e_424 ?v_424 ?n_424 ?d_424 ?_); (case f_424 => assumption); (case k_424 => (exact IsC.kind (by assumption) rfl)); (case e_424 => (refine IsC.glob (by assumption) ?_; k_is)); (case v_424 => boot_fast); (case n_424 => decide +kernel); (case d_424 => decide +kernel))); refine ⟨_, rfl, kp_builtin, ?_⟩))
        (repeat (walk_at "ev"))
        have hm : l.getD i 0 ∈ l := by
          rw [List.getD_eq_getElem?_getD, List.getElem?_eq_getElem hi]; exact List.getElem_mem hi
        refine bc_chr h2 (hn _ hm) ⟨hb', stays_refl _, rfl, ?_⟩
        rw [if_pos ⟨h1, h2⟩, Rd]
      · have h' : ¬ (i % 2 = 1 ∧ 0 ≤ l.getD i 0) := by
          rintro ⟨h1, h2⟩
          rw [decide_eq_true h1, decide_eq_true h2] at h; cases h
        (repeat (walk_at "ev"))
        refine ⟨hb', stays_refl _, rfl, ?_⟩
        rw [if_neg h', Rd]
    · rw [hml] at hrd
      have hf : (List.range l.length).filter (fun _ => true) = List.range l.length := List.filter_eq_self.mpr fun _ _ => rfl
      rw [hf] at hrd
      have hal := Rds.len hrd
      rw [List.length_map, List.length_range] at hal
      have hth : ∀ i, i < l.length → ∃ a, as.getD i .none = a ∧ Num a (l.getD i 0) := fun i hi => by
        obtain ⟨a, h1, h2⟩ := Rds.get (i := i) hrd (by rw [List.getElem?_map, List.getElem?_range hi]; rfl)
        refine ⟨a, by rw [List.getD_eq_getElem?_getD, h1]; rfl, ?_⟩
        have h2' : Rd (New hb) hb' (if i % 2 = 1 ∧ 0 ≤ l.getD i 0 then Dt.str (S [(l.getD i 0).toNat]) else Dt.int (l.getD i 0)) a := h2
        by_cases hc : i % 2 = 1 ∧ 0 ≤ l.getD i 0
        · rw [if_pos hc, Rd] at h2'
          exact .inr ⟨(l.getD i 0).toNat, by omega, h2'⟩
        · rw [if_neg hc, Rd] at h2'
          exact .inl h2'
      ((refine' ⟨_, ?p_428, ?_⟩; (case p_428 => walk_at "put")))
      refine x_cons (x_return ?_)
      ((refine e_comp (IsC.env (by assumption)) (closureFor_none (by decide +kernel)) (by decide +kernel) rfl (by decide +kernel) (fun _ => rfl) ?_))
      (repeat (walk_at "ev"))
      refine ⟨_, _, _, _, ["thing"], _, fun _ => true, fun i => .str (S (uctl (l.getD i 0))), src_list (.inr hIs) (by ((rw [sizeLine_eq]; first | decide | (simp only [List.length_cons, List.length_nil]; omega) | omega))) hA.1, names_one,
        ⟨by decide +kernel, fun C' Lc hin => ?_, fun C' Lc D i hb2 acc hin hi k kp => ?_⟩, fun x2 hb2 as2 k2 hn2 hIs2 hrd2 => ?_⟩
      · have hC' := hin.is hC
        exact ⟨(hin.fn rfl hF).kind, hC'.kind rfl⟩
      · have hC' := hin.is hC
        have hF' := hin.fn rfl hF
        have hA' := hin.ok hA
        obtain ⟨a, e, hnum⟩ := hth i (by omega)
        rw [e]
        refine ct_nil ⟨rfl, rfl, fun _ => ?_⟩
        ((refine e_call rfl ?_; (((with_reducible refine' glob_fn ?f_433 ?k_433 ?e_433 ?d_433 ?_); (case f_433 => assumption); (case k_433 => (exact IsC.kind (by assumption) rfl)); (case e_433 => (refine IsC.glob (by assumption) ?_; k_is)); (case d_433 => decide +kernel))); refine ⟨_, rfl, kp_fn (IsC.keep (by assumption) (by k_is)), ?_⟩))
        (repeat (walk_at "ev"))
        refine c_funI (hC'.fn (f_unctrl prog w)) (hA'.le (by decide)) mono_const ⟨a, _, rfl, hnum, rfl⟩ rfl ⟨hb2, stays_refl _, rfl, by rw [Rd]⟩
      · rw [hal, hf] at hrd2
        have e3 : ((List.range l.length).map fun i => Dt.str (S (uctl (l.getD i 0)))) = (unctrls l).map fun x => Dt.str (S x) := by
          refine List.ext_getElem (by simp [unctrls]) fun i h1 h2 => ?_
          simp [unctrls] at h1 h2 ⊢
          rw [List.getElem?_eq_getElem h1]; rfl
        rw [e3] at hrd2
        exact rd_list (get_none_of k hn2) hIs2 (Rds.mono (fun x o f e => ⟨get_none_of k f, e⟩) _ _ hrd2)

/-! ## _law_place -/
noncomputable def isCtl (n : Int) : Bool := decide (n % 128 = 127 ∨ n % 128 < 32)
noncomputable def pval (n : Int) : Int := if n % 128 = 127 then (if n = 127 then 63 else 159) else if n % 128 < 32 then n % 128 + 64 else n % 128
theorem f_place (prog : Program) (w : World) : Fun prog w (Mine.hd0.heap_1 w.params) 102 1 (fun _ as d => ∃ n, as = [.int n] ∧ d = .list [.int (n / 128 % 2), .bool (isCtl n), .int (pval n)]) := by
  refine Fun.mk (by k_is) (by k_is) ["n"] [] (by decide +kernel) (by ((intro vs h; match vs, h with | [v], _ => rfl))) (by decide +kernel) (by decide +kernel) ?_ ?_
  · rintro h as d ⟨n, rfl, rfl⟩; rfl
  · rintro C L hb as d hC hA hW ⟨n, rfl, rfl⟩
    have hF := hC.isFn rfl
    (simp only [List.zipWith_cons_cons, List.zipWith_nil_left, List.zipWith_nil_right, List.map_nil, List.map_cons, List.append_nil, List.nil_append, List.cons_append])
    refine x_cons (x_if ?_)
    (repeat (walk_at "ev"))
    refine ⟨fun h => ?_, fun h => ?_⟩
    · have h' : n % 128 = 127 := by simpa using h
      have e1 : isCtl n = true := by unfold isCtl; rw [decide_eq_true (.inl h')]
      refine x_cons (x_return (e_listF rfl ?_))
      (repeat (walk_at "ev"))
      refine e_ifexp ?_
      (repeat (walk_at "ev"))
      refine ⟨fun h2 => ?_, fun h2 => ?_⟩
      · have h2' : n = 127 := by simpa using h2
        have e2 : pval n = 63 := by unfold pval; rw [if_pos h', if_pos h2']
        (repeat (walk_at "ev"))
        refine ⟨by ((rw [sizeLine_eq]; first | decide | (simp only [List.length_cons, List.length_nil]; omega) | omega)), fun x hb' k n0 i0 => rd_list n0 i0 ?_⟩
        rw [e1, e2]
        exact rds_cons rd_int (rds_cons rd_bool (rds_cons rd_int rds_nil))
      · have h2' : ¬ n = 127 := by simpa using h2
        have e2 : pval n = 159 := by unfold pval; rw [if_pos h', if_neg h2']
        (repeat (walk_at "ev"))
        refine ⟨by ((rw [sizeLine_eq]; first | decide | (simp only [List.length_cons, List.length_nil]; omega) | omega)), fun x hb' k n0 i0 => rd_list n0 i0 ?_⟩
        rw [e1, e2]
        exact rds_cons rd_int (rds_cons rd_bool (rds_cons rd_int rds_nil))
    · have h' : ¬ n % 128 = 127 := by simpa using h
      refine x_nil (x_cons (x_return (e_ifexp ?_)))
      (repeat (walk_at "ev"))
      refine ⟨fun h2 => ?_, fun h2 => ?_⟩
      · have h2' : n % 128 < 32 := by simpa using h2
        have e1 : isCtl n = true := by unfold isCtl; rw [decide_eq_true (.inr h2')]
        have e2 : pval n = n % 128 + 64 := by unfold pval; rw [if_neg h', if_pos h2']
        refine e_listF rfl ?_
        (repeat (walk_at "ev"))
        refine ⟨by ((rw [sizeLine_eq]; first | decide | (simp only [List.length_cons, List.length_nil]; omega) | omega)), fun x hb' k n0 i0 => rd_list n0 i0 ?_⟩
        rw [e1, e2]
        exact rds_cons rd_int (rds_cons rd_bool (rds_cons rd_int rds_nil))
      · have h2' : ¬ n % 128 < 32 := by simpa using h2
        have e1 : isCtl n = false := by unfold isCtl; rw [decide_eq_false (fun q => q.elim h' h2')]
        have e2 : pval n = n % 128 := by unfold pval; rw [if_neg h', if_neg h2']
        refine e_listF rfl ?_
        (repeat (walk_at "ev"))
        refine ⟨by ((rw [sizeLine_eq]; first | decide | (simp only [List.length_cons, List.length_nil]; omega) | omega)), fun x hb' k n0 i0 => rd_list n0 i0 ?_⟩
        rw [e1, e2]
        exact rds_cons rd_int (rds_cons rd_bool (rds_cons rd_int rds_nil))

/-! ## _law_between -/
noncomputable def between (l0 : Int) (l1 : Bool) (l2 : Int) (h2 : Int) (p0 : Int) (p1 : Bool) (p2 : Int) (barred : Bool) : Bool := (l0 == p0 && l1 == p1) && (decide (l2 ≤ p2 ∧ p2 ≤ h2) != barred)
noncomputable def PBet : Pre := fun h as d => ∃ rl rh rp l0 l1 l2 h0 h1 h2 p0 p1 p2 barred, as = [.ref rl, .ref rh, .ref rp, .bool barred] ∧ Is h rl (.list [.int l0, .bool l1, .int l2]) ∧ Is h rh (.list [.int h0, .bool h1, .int h2]) ∧ Is h rp (.list [.int p0, .bool p1, .int p2]) ∧ d = .bool (between l0 l1 l2 h2 p0 p1 p2 barred)
theorem PBet.mono : Mono PBet := ⟨fun h h' as d k ⟨rl, rh, rp, l0, l1, l2, h0, h1, h2, p0, p1, p2, br, e, i1, i2, i3, q⟩ => ⟨rl, rh, rp, l0, l1, l2, h0, h1, h2, p0, p1, p2, br, e, i1.keeps k, i2.keeps k, i3.keeps k, q⟩⟩
theorem f_between (prog : Program) (w : World) : Fun prog w (Mine.hd0.heap_1 w.params) 109 1 PBet := by
  refine Fun.mk (by k_is) (by k_is) ["low", "high", "place", "barred"] [] (by decide +kernel) (by intro vs h; match vs, h with | [v, u, w, z], _ => rfl) (by decide +kernel) (by decide +kernel) ?_ ?_
  · rintro h as d ⟨rl, rh, rp, l0, l1, l2, h0, h1, h2, p0, p1, p2, br, rfl, _⟩; rfl
  · rintro C L hb as d hC hA hW ⟨rl, rh, rp, l0, l1, l2, h0, h1, h2, p0, p1, p2, br, rfl, i1, i2, i3, rfl⟩
    have hF := hC.isFn rfl
    (simp only [List.zipWith_cons_cons, List.zipWith_nil_left, List.zipWith_nil_right, List.map_nil, List.map_cons, List.append_nil, List.nil_append, List.cons_append])
    refine x_cons (x_return (e_and2 (e_cmp1 (e_slice ?_))))
    (repeat (walk_at "ev"))
    refine ⟨_, rfl, ?_⟩
    refine sl_listL (.inr i1) (by ((rw [sizeLine_eq]; first | decide | (simp only [List.length_cons, List.length_nil]; omega) | omega))) fun y hb1 k1 n1 j1 => ?_
    refine e_slice ?_
    (repeat (walk_at "ev"))
    refine ⟨_, rfl, ?_⟩
    refine sl_listL (.inr (i3.keeps k1)) (by ((rw [sizeLine_eq]; first | decide | (simp only [List.length_cons, List.length_nil]; omega) | omega))) fun y2 hb2 k2 n2 j2 => ?_
    have e1 : ∀ (a b c : Av), List.take (cut (some 2) [a, b, c].length [a, b, c].length - cut none 0 [a, b, c].length) (List.drop (cut none 0 [a, b, c].length) [a, b, c]) = [a, b] := fun a b c => rfl
    rw [e1] at j1 j2
    refine o_eq_sim (fun j => if j = 0 then l0 == p0 else l1 == p1) hA.units (.inr (j1.keeps k2)) (.inr j2) rfl (fun j x y hx hy => ?_) ?_
    · match j, hx, hy with
      | 0, hx, hy =>
        simp only [List.getElem?_cons_zero, Option.some.injEq] at hx hy
        subst hx hy; exact Sim.int _ _
      | 1, hx, hy =>
        simp only [List.getElem?_cons_succ, List.getElem?_cons_zero, Option.some.injEq] at hx hy
        subst hx hy; exact Sim.bool _ _
      | j + 2, hx, hy => simp at hx
    have e2 : (List.range [Av.int l0, Av.bool l1].length).all (fun j => if j = 0 then l0 == p0 else l1 == p1) = (l0 == p0 && l1 == p1) := by
      show (List.range 2).all _ = _
      simp [List.range_succ]
    rw [e2]
    refine t_bool ⟨fun h => ?_, fun h => ?_⟩
    · show Av.bool _ = Av.bool _
      unfold between
      rw [h, Bool.false_and]
    · have hk := stays_trans k1 k2
      have fin : ∀ (c : Bool), c = decide (l2 ≤ p2 ∧ p2 ≤ h2) → Rd (New hb) hb2 (.bool (between l0 l1 l2 h2 p0 p1 p2 br)) (.bool (c != br)) := fun c e => by
        unfold between
        rw [h, Bool.true_and, ← e]; exact rd_bool
      refine e_cmp1 (e_cmp2 (e_item ?_))
      (repeat (walk_at "ev"))
      refine it_listI (i := 2) (.inr (i1.keeps hk)) rfl (by show 3 ≤ 2 ^ 62; decide) ?_
      refine e_item ?_
      (repeat (walk_at "ev"))
      refine it_listI (i := 2) (.inr (i3.keeps hk)) rfl (by show 3 ≤ 2 ^ 62; decide) ?_
      refine o_le (t_bool ⟨fun h => ?_, fun h => ?_⟩)
      · (repeat (walk_at "ev"))
        refine o_bne (fin _ ?_)
        have h' : ¬ l2 ≤ p2 := by simpa using h
        rw [decide_eq_false h', decide_eq_false fun q => h' q.1]
      · have h' : l2 ≤ p2 := by simpa using h
        refine e_item ?_
        (repeat (walk_at "ev"))
        refine it_listI (i := 2) (.inr (i2.keeps hk)) rfl (by show 3 ≤ 2 ^ 62; decide) ?_
        (repeat (walk_at "ev"))
        refine o_bne (fin _ ?_)
        simp [h']

/-! ## _law_sign -/
inductive SignAt (tx : List Nat) (k c k' : Nat) : Prop
  | esc (h : (tx.drop k).take 1 = [92]) (h2 : (tx.drop (k + 1)).take 1 = [c]) (e : k' = k + 2) : SignAt tx k c k'
  | plain (h : (tx.drop k).take 1 = [c]) (h2 : c ≠ 92) (e : k' = k + 1) : SignAt tx k c k'
noncomputable def PSign : Pre := fun _ as d => ∃ tx k c k', as = [.str (S tx), .int (k : Nat)] ∧ tx.length ≤ 1000 ∧ SignAt tx k c k' ∧ d = .tup [.str (S [c]), .int (k' : Nat)]
theorem f_sign (prog : Program) (w : World) : Fun prog w (Mine.hd0.heap_1 w.params) 116 1 PSign := by
  refine Fun.mk (by k_is) (by k_is) ["text", "k"] [] (by decide +kernel) (by ((intro vs h; match vs, h with | [v, u], _ => rfl))) (by decide +kernel) (by decide +kernel) ?_ ?_
  · rintro h as d ⟨tx, k, c, k', rfl, _⟩; rfl
  · rintro C L hb as d hC hA hW ⟨tx, k, c, k', rfl, hlen, hs, rfl⟩
    have hF := hC.isFn rfl
    (simp only [List.zipWith_cons_cons, List.zipWith_nil_left, List.zipWith_nil_right, List.map_nil, List.map_cons, List.append_nil, List.nil_append, List.cons_append])
    have p1 : List.take (cut (some ((k : Int) + 1)) tx.length tx.length - cut (some (k : Int)) 0 tx.length) (tx.drop (cut (some (k : Int)) 0 tx.length)) = (tx.drop k).take 1 := part_len tx k 1 tx.length tx.length rfl
    have p2 : List.take (cut (some ((k : Int) + 2)) tx.length tx.length - cut (some ((k : Int) + 1)) 0 tx.length) (tx.drop (cut (some ((k : Int) + 1)) 0 tx.length)) = (tx.drop (k + 1)).take 1 := part_len tx (k + 1) 1 tx.length tx.length rfl
    refine x_cons (x_return (e_ifexp (b_cmp1 (e_slice ?_))))
    (repeat (walk_at "ev"))
    refine ⟨_, rfl, ?_⟩
    (repeat (walk_at "ev"))
    refine ⟨_, rfl, ?_⟩
    refine sl_strL (by ((rw [sizeLine_eq]; first | decide | (simp only [List.length_cons, List.length_nil]; omega) | omega))) ?_
    (repeat (walk_at "ev"))
    rw [p1, lit_bs, S1_beq]
    refine ⟨fun h => ?_, fun h => ?_⟩
    · have h' : (tx.drop k).take 1 = [92] := by simpa using h
      obtain ⟨h2, rfl⟩ : (tx.drop (k + 1)).take 1 = [c] ∧ k' = k + 2 := by
        cases hs with
        | esc h h2 e => exact ⟨h2, e⟩
        | plain h h2 e => rw [h'] at h; exact absurd (List.cons.inj h).1.symm h2
      refine e_tupF rfl (tl_cons (e_slice ?_))
      (repeat (walk_at "ev"))
      refine ⟨_, rfl, ?_⟩
      (repeat (walk_at "ev"))
      refine ⟨_, rfl, ?_⟩
      refine sl_strL (by ((rw [sizeLine_eq]; first | decide | (simp only [List.length_cons, List.length_nil]; omega) | omega))) ?_
      rw [p2, h2]
      (repeat (walk_at "ev"))
      exact ⟨by ((rw [sizeLine_eq]; first | decide | (simp only [List.length_cons, List.length_nil]; omega) | omega)), fun x hb' k0 n0 i0 => rd_tup n0 i0 (rds_cons rd_str (rds_cons rd_int rds_nil))⟩
    · have h' : ¬ (tx.drop k).take 1 = [92] := by simpa using h
      obtain ⟨h2, rfl⟩ : (tx.drop k).take 1 = [c] ∧ k' = k + 1 := by
        cases hs with
        | esc h h2 e => exact absurd h h'
        | plain h h2 e => exact ⟨h, e⟩
      refine e_tupF rfl (tl_cons (e_slice ?_))
      (repeat (walk_at "ev"))
      refine ⟨_, rfl, ?_⟩
      (repeat (walk_at "ev"))
      refine ⟨_, rfl, ?_⟩
      refine sl_strL (by ((rw [sizeLine_eq]; first | decide | (simp only [List.length_cons, List.length_nil]; omega) | omega))) ?_
      rw [p1, h2]
      (repeat (walk_at "ev"))
      exact ⟨by ((rw [sizeLine_eq]; first | decide | (simp only [List.length_cons, List.length_nil]; omega) | omega)), fun x hb' k0 n0 i0 => rd_tup n0 i0 (rds_cons rd_str (rds_cons rd_int rds_nil))⟩

/-! ## _law_set -/
structure SetAt (tx : List Nat) (k : Nat) (turned : Bool) (a z k1 k2 k3 : Nat) : Prop where
  t : decide ((tx.drop k).take 1 = [94]) = turned
  e1 : k1 = if turned then k + 1 else k
  s1 : SignAt tx k1 a k2
  hy : (tx.drop k2).take 1 = [45]
  s2 : SignAt tx (k2 + 1) z k3
  cl : (tx.drop k3).take 1 = [93]
  le : a ≤ z
  len : tx.length ≤ 1000
theorem one_get {tx : List Nat} {k c : Nat} (h : (tx.drop k).take 1 = [c]) : tx[k]? = some c := by
  have : (tx.drop k).head? = some c := by
    cases e : tx.drop k with
    | nil => rw [e] at h; cases h
    | cons x r => rw [e] at h; exact congrArg some (List.cons.inj h).1
  rwa [List.head?_drop] at this
theorem SignAt.head {tx : List Nat} {k c k' : Nat} (h : SignAt tx k c k') : ∃ x, (tx.drop k).take 1 = [x] := by
  cases h with
  | esc h _ _ => exact ⟨_, h⟩
  | plain h _ _ => exact ⟨_, h⟩
noncomputable def PSet : Pre := fun _ as d => ∃ tx k turned a z k1 k2 k3, as = [.str (S tx), .int (k : Nat)] ∧ SetAt tx k turned a z k1 k2 k3 ∧ d = .tup [.tup [.bool turned, .list [.tup [.str (S [a]), .str (S [z])]]], .int (k3 + 1 : Nat)]

theorem f_set (prog : Program) (w : World) : Fun prog w (Mine.hd0.heap_1 w.params) 123 2 PSet := by
  refine Fun.mk (by k_is) (by k_is) ["text", "k"] ["turned", "ends", "low", "high"] (by decide +kernel) (by ((intro vs h; match vs, h with | [v, u], _ => rfl))) (by decide +kernel) (by decide +kernel) ?_ ?_
  · rintro h as d ⟨tx, k, turned, a, z, k1, k2, k3, rfl, _⟩; rfl
  · rintro C L hb as d hC hA hW ⟨tx, k, turned, a, z, k1, k2, k3, rfl, ⟨ht, hk1, hs1, hhy, hs2, hcl, hle, hlen⟩, rfl⟩
    have hF := hC.isFn rfl
    (simp only [List.zipWith_cons_cons, List.zipWith_nil_left, List.zipWith_nil_right, List.map_nil, List.map_cons, List.append_nil, List.nil_append, List.cons_append])
    have p1 : ∀ k : Nat, List.take (cut (some ((k : Int) + 1)) tx.length tx.length - cut (some (k : Int)) 0 tx.length) (tx.drop (cut (some (k : Int)) 0 tx.length)) = (tx.drop k).take 1 := fun k => part_len tx k 1 tx.length tx.length rfl
    refine x_cons ?_
    (((with_reducible refine' x_set ?f_478 ?k_478 ?_ ?s_478); (case f_478 => (exact Fn.kind (by assumption))); (case k_478 => (exact IsC.kind (by assumption) rfl)); (case s_478 => rfl)))
    refine e_cmp1 (e_slice ?_)
    (repeat (walk_at "ev"))
    refine ⟨_, rfl, ?_⟩
    (repeat (walk_at "ev"))
    refine ⟨_, rfl, ?_⟩
    refine sl_strL (by ((rw [sizeLine_eq]; first | decide | (simp only [List.length_cons, List.length_nil]; omega) | omega))) ?_
    (repeat (walk_at "ev"))
    rw [p1, lit_caret, S1_beq, ht]
    ((refine' ⟨_, ?p_485, ?_⟩; (case p_485 => walk_at "put")))
    refine x_seq (fun σ' => σ' = ⟨hb, [("text", some (.str (S tx))), ("k", some (.int (k1 : Nat))), ("turned", some (.bool turned)), ("ends", none), ("low", none), ("high", none)], []⟩) ?_ ?_
    · (((with_reducible refine' x_set ?f_486 ?k_486 ?_ ?s_486); (case f_486 => (exact Fn.kind (by assumption))); (case k_486 => (exact IsC.kind (by assumption) rfl)); (case s_486 => rfl)))
      refine e_ifexp (b_plain ?_)
      (((with_reducible refine' loc_name ?f_489 ?k_489 ?m_489 ?d_489 ?_); (case f_489 => (exact Fn.kind (by assumption))); (case m_489 => walk_at "mem"); (case k_489 => (exact IsC.kind (by assumption) rfl)); (case d_489 => decide +kernel)))
      refine t_bool ⟨fun h => ?_, fun h => ?_⟩
      · (repeat (walk_at "ev"))
        ((refine' ⟨_, ?p_493, ?_⟩; (case p_493 => walk_at "put")))
        rw [hk1, h]; rfl
      · (repeat (walk_at "ev"))
        ((refine' ⟨_, ?p_495, ?_⟩; (case p_495 => walk_at "put")))
        rw [hk1, h]; rfl
    rintro _ _ rfl
    refine x_cons ?_
    (((with_reducible refine' x_set ?f_496 ?k_496 ?_ ?s_496); (case f_496 => (exact Fn.kind (by assumption))); (case k_496 => (exact IsC.kind (by assumption) rfl)); (case s_496 => rfl)))
    refine e_list rfl (tl_nil ⟨by ((rw [sizeLine_eq]; first | decide | (simp only [List.length_cons, List.length_nil]; omega) | omega)), fun r => ?_⟩)
    ((refine' ⟨_, ?p_500, ?_⟩; (case p_500 => walk_at "put")))
    let Ac : Heap → Av → Prop := fun hb' v => ∃ t, v = .ref t ∧ hb.get? t = none ∧ Is hb' t (.tup [.str (S [a]), .str (S [z])])
    let s1 : Sg := ⟨hb, [("text", some (.str (S tx))), ("k", some (.int (k1 : Nat))), ("turned", some (.bool turned)), ("ends", some (.ref r)), ("low", none), ("high", none)], [(r, .list [])]⟩
    let s2 : Heap → Av → Sg := fun hb' v => ⟨hb', [("text", some (.str (S tx))), ("k", some (.int (k3 : Nat))), ("turned", some (.bool turned)), ("ends", some (.ref r)), ("low", some (.str (S [a]))), ("high", some (.str (S [z])))], [(r, .list [v])]⟩
    refine x_seq (fun σ' => ∃ hb' v, hb.StaysIn hb' ∧ Ac hb' v ∧ σ' = s2 hb' v) ?_ ?_
    · refine x_while (fun m σ' => (m = 1 ∧ σ' = s1) ∨ (m = 0 ∧ ∃ hb' v, hb.StaysIn hb' ∧ Ac hb' v ∧ σ' = s2 hb' v)) 1 (.inl ⟨rfl, rfl⟩) ?_
      rintro m _ _ (⟨rfl, rfl⟩ | ⟨rfl, hb', v, hk', ⟨t, rfl, ht0, hti⟩, rfl⟩)
      · dsimp only [s1]
        obtain ⟨x, hx⟩ := hs1.head
        have hx' := one_get hx
        refine T.mono (tt_of (b := true) (by simp) (tt_and (b1 := true) (b2 := true) (b_cmp1 (e_slice ?_)) (fun _ => tt_of (by simp) (tt_or (b1 := decide (¬ x = 93)) (b2 := true) (b_cmp1 (e_item ?_)) (fun _ => T.weak (b_cmp1 ?_)))))) ?_
        · (repeat (walk_at "ev"))
          refine ⟨_, rfl, ?_⟩
          (repeat (walk_at "ev"))
          refine ⟨_, rfl, ?_⟩
          refine sl_strL (by ((rw [sizeLine_eq]; first | decide | (simp only [List.length_cons, List.length_nil]; omega) | omega))) ?_
          (repeat (walk_at "ev"))
          rw [p1, hx, lit_empty, bne, S1_beq]
          exact ⟨rfl, by simp⟩
        · (repeat (walk_at "ev"))
          refine it_strN hx' (by omega) ?_
          (repeat (walk_at "ev"))
          rw [lit_close, bne, S1_beq]
          exact ⟨rfl, by simp⟩
        · (repeat (walk_at "ev"))
          refine e_list rfl (tl_nil ⟨by ((rw [sizeLine_eq]; first | decide | (simp only [List.length_cons, List.length_nil]; omega) | omega)), fun nl => ?_⟩)
          exact o_eq_len hA.units (.inl (by walk_at "mem")) (.inl (by walk_at "mem")) (.inl rfl) (t_bool ⟨rfl, rfl⟩)
        rintro _ _ _ ⟨rfl, rfl⟩
        refine ⟨fun _ => ?_, fun h => by cases h⟩
        refine x_cons (x_unpack2 (IsC.env (by assumption)) (Fn.kind (by assumption)) hA.1 rfl rfl rfl rfl ?_)
        ((refine e_call rfl ?_; (((with_reducible refine' glob_fn ?f_510 ?k_510 ?e_510 ?d_510 ?_); (case f_510 => assumption); (case k_510 => (exact IsC.kind (by assumption) rfl)); (case e_510 => (refine IsC.glob (by assumption) ?_; k_is)); (case d_510 => decide +kernel))); refine ⟨_, rfl, kp_fn (IsC.keep (by assumption) (by k_is)), ?_⟩))
        (repeat (walk_at "ev"))
        refine c_fun (hC.fn (f_sign prog w)) (hA.le (by decide)) mono_const ⟨tx, k1, a, k2, rfl, hlen, hs1, rfl⟩ fun y hb1 q1 hr => ?_
        obtain ⟨t1, as1, rfl, _, i1, r1⟩ := rd_tup_inv hr
        obtain ⟨u, _, rfl, ru, r1⟩ := rds_cons_inv r1
        obtain ⟨u', _, rfl, ru', r1⟩ := rds_cons_inv r1
        obtain rfl := rds_nil_inv r1
        obtain rfl := rd_str_inv ru
        obtain rfl := rd_int_inv ru'
        refine' ⟨t1, _, _, rfl, .inr i1, _, _, ?p1, ?p2, ?_⟩
        case p1 => walk_at "put"
        case p2 => walk_at "put"
        refine x_cons ?_
        (((with_reducible refine' x_set ?f_513 ?k_513 ?_ ?s_513); (case f_513 => (exact Fn.kind (by assumption))); (case k_513 => (exact IsC.kind (by assumption) rfl)); (case s_513 => rfl)))
        (repeat (walk_at "ev"))
        ((refine' ⟨_, ?p_517, ?_⟩; (case p_517 => walk_at "put")))
        refine x_cons (x_if (b_cmp1 (e_slice ?_)))
        (repeat (walk_at "ev"))
        refine ⟨_, rfl, ?_⟩
        (repeat (walk_at "ev"))
        refine ⟨_, rfl, ?_⟩
        refine sl_strL (by ((rw [sizeLine_eq]; first | decide | (simp only [List.length_cons, List.length_nil]; omega) | omega))) ?_
        (repeat (walk_at "ev"))
        rw [p1, hhy, lit_hy, S1_beq]
        refine ⟨fun _ => ?_, fun h => absurd h (by decide)⟩
        refine x_cons (x_unpack2 (IsC.env (by assumption)) (Fn.kind (by assumption)) hA.1 rfl rfl rfl rfl ?_)
        ((refine e_call rfl ?_; (((with_reducible refine' glob_fn ?f_523 ?k_523 ?e_523 ?d_523 ?_); (case f_523 => assumption); (case k_523 => (exact IsC.kind (by assumption) rfl)); (case e_523 => (refine IsC.glob (by assumption) ?_; k_is)); (case d_523 => decide +kernel))); refine ⟨_, rfl, kp_fn (IsC.keep (by assumption) (by k_is)), ?_⟩))
        (repeat (walk_at "ev"))
        refine c_fun (hC.fn (f_sign prog w)) (hA.le (by decide)) mono_const ⟨tx, k2 + 1, z, k3, rfl, hlen, hs2, rfl⟩ fun y hb2 q2 hr => ?_
        obtain ⟨t2, as2, rfl, _, i2, r2⟩ := rd_tup_inv hr
        obtain ⟨u, _, rfl, ru, r2⟩ := rds_cons_inv r2
        obtain ⟨u', _, rfl, ru', r2⟩ := rds_cons_inv r2
        obtain rfl := rds_nil_inv r2
        obtain rfl := rd_str_inv ru
        obtain rfl := rd_int_inv ru'
        refine' ⟨t2, _, _, rfl, .inr i2, _, _, ?p1, ?p2, ?_⟩
        case p1 => walk_at "put"
        case p2 => walk_at "put"
        refine x_nil (x_cons (x_if (b_cmp1 ?_)))
        (repeat (walk_at "ev"))
        refine o_sgt (t_bool ?_)
        rw [S_cps, S_cps, lt_one, decide_eq_false (show ¬ z < a by omega)]
        refine ⟨fun h => absurd h (by decide), fun _ => x_nil ?_⟩
        refine x_cons (x_expr (e_meth meth_append rfl ?_) hF.kind)
        (((with_reducible refine' loc_name ?f_527 ?k_527 ?m_527 ?d_527 ?_); (case f_527 => (exact Fn.kind (by assumption))); (case m_527 => walk_at "mem"); (case k_527 => (exact IsC.kind (by assumption) rfl)); (case d_527 => decide +kernel)))
        refine ⟨of_list (.inl (by walk_at "mem")), ?_⟩
        refine tl_cons (e_tupF rfl ?_)
        (repeat (walk_at "ev"))
        refine ⟨by ((rw [sizeLine_eq]; first | decide | (simp only [List.length_cons, List.length_nil]; omega) | omega)), fun t3 hb3 q3 n3 i3 => ?_⟩
        refine tl_nil ?_
        refine' bc_append ?u ?hl ⟨rfl, ?_⟩
        case u => walk_at "upd"
        case hl => exact Nat.zero_le _
        (repeat (refine x_nil ?_))
        have q12 := stays_trans q1 q2
        exact ⟨0, by omega, .inr ⟨rfl, hb3, _, stays_trans q12 q3, ⟨t3, rfl, get_none_of q12 n3, i3⟩, rfl⟩⟩
      · dsimp only [s2]
        have hx' := one_get hcl
        refine T.mono (tt_of (b := false) (by simp) (tt_and (b1 := true) (b2 := false) (b_cmp1 (e_slice ?_)) (fun _ => tt_of (by simp) (tt_or (b1 := false) (b2 := false) (b_cmp1 (e_item ?_)) (fun _ => T.weak (b_cmp1 ?_)))))) ?_
        · (repeat (walk_at "ev"))
          refine ⟨_, rfl, ?_⟩
          (repeat (walk_at "ev"))
          refine ⟨_, rfl, ?_⟩
          refine sl_strL (by ((rw [sizeLine_eq]; first | decide | (simp only [List.length_cons, List.length_nil]; omega) | omega))) ?_
          (repeat (walk_at "ev"))
          rw [p1, hcl, lit_empty, bne, S1_beq]
          exact ⟨rfl, by simp⟩
        · (repeat (walk_at "ev"))
          refine it_strN hx' (by omega) ?_
          (repeat (walk_at "ev"))
          rw [lit_close, bne, S1_beq]
          exact ⟨rfl, by simp⟩
        · (repeat (walk_at "ev"))
          refine e_list rfl (tl_nil ⟨by ((rw [sizeLine_eq]; first | decide | (simp only [List.length_cons, List.length_nil]; omega) | omega)), fun nl => ?_⟩)
          exact o_eq_len hA.units (.inl (by walk_at "mem")) (.inl (by walk_at "mem")) (.inr rfl) (t_bool ⟨rfl, rfl⟩)
        rintro _ _ _ ⟨rfl, rfl⟩
        refine ⟨fun h => (by cases h), fun _ => ?_⟩
        (repeat (refine x_nil ?_))
        exact ⟨hb', _, hk', ⟨t, rfl, ht0, hti⟩, rfl⟩
    rintro _ _ ⟨hb', v, hk', ⟨t, rfl, ht0, hti⟩, rfl⟩
    dsimp only [s2]
    refine freeze (a := r) (by walk_at "del") fun hb2 q1 q2 q3 => ?_
    refine x_cons (x_return (e_tupF rfl (tl_cons (e_tupF rfl ?_))))
    (repeat (walk_at "ev"))
    refine ⟨by ((rw [sizeLine_eq]; first | decide | (simp only [List.length_cons, List.length_nil]; omega) | omega)), fun x1 hb3 g1 n1 i1 => ?_⟩
    (repeat (walk_at "ev"))
    refine ⟨by ((rw [sizeLine_eq]; first | decide | (simp only [List.length_cons, List.length_nil]; omega) | omega)), fun x2 hb4 g2 n2 i2 => ?_⟩
    have k03 := stays_trans hk' q1
    have k04 := stays_trans k03 g1
    refine rd_tup (get_none_of k04 n2) i2 (rds_cons (rd_tup (get_none_of k03 n1) (i1.keeps g2) (rds_cons rd_bool (rds_cons (rd_list (get_none_of hk' q3) (q2.keeps (stays_trans g1 g2)) (rds_cons (rd_tup ht0 (hti.keeps (stays_trans q1 (stays_trans g1 g2))) (rds_cons rd_str (rds_cons rd_str rds_nil))) rds_nil)) rds_nil))) (rds_cons rd_int rds_nil))

/-! ## _law_fits, _law_takes -/
noncomputable abbrev Pc := Bool × List (Nat × Nat)
noncomputable abbrev enD (e : Nat × Nat) : Dt := .tup [.str (S [e.1]), .str (S [e.2])]
noncomputable abbrev pcD (p : Pc) : Dt := .tup [.bool p.1, .list (p.2.map enD)]
noncomputable def fits (p : Pc) (s : Nat) : Bool := (p.2.any fun e => decide (e.1 ≤ s) && decide (s ≤ e.2)) != p.1
noncomputable def dEnd : Nat × Nat := (0, 0)
noncomputable def dPc : Pc := (false, [])
theorem rds_ends {F : Addr → Prop} {h : Heap} : ∀ {l : List (Nat × Nat)} {as : List Av}, Rds F h (l.map enD) as → ∃ xs : List Addr, as = xs.map .ref ∧ xs.length = l.length ∧ ∀ i t, xs[i]? = some t → Is h t (.tup [.str (S [(l.getD i dEnd).1]), .str (S [(l.getD i dEnd).2])])
  | [], as, e => by
    rw [List.map_nil] at e
    exact ⟨[], rds_nil_inv e, rfl, fun i t h => by simp at h⟩
  | r :: rr, as, e => by
    rw [List.map_cons] at e
    obtain ⟨a, q, rfl, h1, h2⟩ := rds_cons_inv e
    obtain ⟨xs, rfl, hl, hx⟩ := rds_ends h2
    obtain ⟨x, as', rfl, _, hIs, hr⟩ := rd_tup_inv h1
    obtain ⟨u, _, rfl, r1, hr⟩ := rds_cons_inv hr
    obtain ⟨v, _, rfl, r2, hr⟩ := rds_cons_inv hr
    obtain rfl := rds_nil_inv hr
    obtain rfl := rd_str_inv r1
    obtain rfl := rd_str_inv r2
    refine ⟨x :: xs, rfl, by simp [hl], fun i t h => ?_⟩
    cases i with
    | zero => simp at h; subst h; exact hIs
    | succ i => simpa using hx i t (by simpa using h)
theorem rds_pcs {F : Addr → Prop} {h : Heap} : ∀ {l : List Pc} {as : List Av}, Rds F h (l.map pcD) as → ∃ xs : List Addr, as = xs.map .ref ∧ xs.length = l.length ∧ ∀ i t, xs[i]? = some t → Rd F h (pcD (l.getD i dPc)) (.ref t)
  | [], as, e => by
    rw [List.map_nil] at e
    exact ⟨[], rds_nil_inv e, rfl, fun i t h => by simp at h⟩
  | r :: rr, as, e => by
    rw [List.map_cons] at e
    obtain ⟨a, q, rfl, h1, h2⟩ := rds_cons_inv e
    obtain ⟨xs, rfl, hl, hx⟩ := rds_pcs h2
    obtain ⟨x, as', rfl, _, _, _⟩ := rd_tup_inv h1
    refine ⟨x :: xs, rfl, by simp [hl], fun i t h => ?_⟩
    cases i with
    | zero => simp at h; subst h; exact h1
    | succ i => simpa using hx i t (by simpa using h)
noncomputable def PFits : Pre := fun h as d => ∃ t p s, as = [.ref t, .str (S [s])] ∧ Rd Any h (pcD p) (.ref t) ∧ p.2.length ≤ 100 ∧ d = .bool (fits p s)
theorem PFits.mono : Mono PFits := ⟨fun h h' as d k ⟨t, p, s, e, i, q⟩ => ⟨t, p, s, e, i.keeps k, q⟩⟩

theorem f_fits (prog : Program) (w : World) : Fun prog w (Mine.hd0.heap_1 w.params) 135 1 PFits := by
  refine Fun.mkC (by k_is) (by k_is) ["piece", "sign"] ["turned", "ends"] (by decide +kernel) (by ((intro vs h; match vs, h with | [v, u], _ => rfl))) (by decide +kernel) (by decide +kernel) (by decide +kernel) ?_ ?_
  · rintro h as d ⟨t, p, s, rfl, _⟩; rfl
  · rintro C L hb as d hC hA hW ⟨t, p, s, rfl, hp, hpl, rfl⟩ hL0 hL
    have hF := hC.isFnC rfl
    show TX C _ (⟨hb, [("piece", some (.ref t)), ("turned", none), ("ends", none)], [(L + 1, .cell (some (.str (S [s]))))]⟩ : Sg) _
    obtain ⟨x, as, e, _, hIs, hr⟩ := rd_tup_inv hp
    cases e
    obtain ⟨u, _, rfl, r1, hr⟩ := rds_cons_inv hr
    obtain ⟨v, _, rfl, r2, hr⟩ := rds_cons_inv hr
    obtain rfl := rds_nil_inv hr
    obtain rfl := rd_bool_inv r1
    obtain ⟨E, as, rfl, _, hE, hrs⟩ := rd_list_inv r2
    obtain ⟨xs, rfl, hxl, hx⟩ := rds_ends hrs
    refine x_cons (x_unpack2 (IsC.env (by assumption)) (Fn.kind (by assumption)) hA.1 rfl rfl rfl rfl ?_)
    (((with_reducible refine' loc_name ?f_547 ?k_547 ?m_547 ?d_547 ?_); (case f_547 => (exact Fn.kind (by assumption))); (case m_547 => walk_at "mem"); (case k_547 => (exact IsC.kind (by assumption) rfl)); (case d_547 => decide +kernel)))
    refine' ⟨t, _, _, rfl, .inr hIs, _, _, ?p1, ?p2, ?_⟩
    case p1 => walk_at "put"
    case p2 => walk_at "put"
    refine x_cons (x_return (e_cmp1 (e_cmp1 ?_)))
    refine e_comp (IsC.env (by assumption)) rfl (by decide +kernel) rfl (by decide +kernel) (fun _ => rfl) ?_
    (((with_reducible refine' loc_name ?f_550 ?k_550 ?m_550 ?d_550 ?_); (case f_550 => (exact Fn.kind (by assumption))); (case m_550 => walk_at "mem"); (case k_550 => (exact IsC.kind (by assumption) rfl)); (case d_550 => decide +kernel)))
    refine ⟨_, _, _, _, ["low", "high"], _, fun i => decide ((p.2.getD i dEnd).1 ≤ s) && decide (s ≤ (p.2.getD i dEnd).2), fun i => .str (S [(p.2.getD i dEnd).1]), src_pairs hE hx (by ((rw [sizeLine_eq]; first | decide | (simp only [List.length_cons, List.length_nil]; omega) | omega))) hA.1, names_two (by decide +kernel),
      ⟨by decide +kernel, fun C' Lc hin => ?_, fun C' Lc D i hb' acc hin hi k kp => ?_⟩, fun y hb' as k hn hIs2 hrd => ?_⟩
    · have hC' := hin.is hC
      exact ⟨(hin.fn rfl hF).kind, hC'.kind rfl, hC'.kind rfl⟩
    · have hC' := hin.is hC
      have hF' := hin.fn rfl hF
      have hA' := hin.ok hA
      have hcS : CellIn hb' (L + 1) (.str (S [s])) := cellin_of (kp (L + 1) _ (by walk_at "mem"))
      refine ct_one (b_cmp2 ?_) ⟨rfl, rfl, fun _ => ?_⟩
      · (((with_reducible refine' loc_name ?f_554 ?k_554 ?m_554 ?d_554 ?_); (case f_554 => (exact Fn.kind (by assumption))); (case m_554 => walk_at "mem"); (case k_554 => (exact IsC.kind (by assumption) rfl)); (case d_554 => decide +kernel)))
        (((with_reducible refine' free_name ?f_557 ?k_557 ?c_557 ?m_557 ?d_557 ?e_557 ?_); (case f_557 => (exact Fn.kind (by assumption))); (case k_557 => exact Or.inr (IsC.kind (by assumption) rfl)); (case c_557 => (rw [IsC.env (by assumption)]; rfl)); (case m_557 => assumption); (case d_557 => decide +kernel); (case e_557 => decide +kernel)))
        refine o_sle (t_bool ?_)
        rw [S_cps, S_cps, lt_one]
        refine ⟨fun h => ⟨rfl, ?_⟩, fun h => ?_⟩
        · have : s < (p.2.getD i dEnd).1 := by simpa using h
          rw [decide_eq_false (show ¬ (p.2.getD i dEnd).1 ≤ s by omega)]; rfl
        · have h1 : ¬ s < (p.2.getD i dEnd).1 := by simpa using h
          (((with_reducible refine' loc_name ?f_559 ?k_559 ?m_559 ?d_559 ?_); (case f_559 => (exact Fn.kind (by assumption))); (case m_559 => walk_at "mem"); (case k_559 => (exact IsC.kind (by assumption) rfl)); (case d_559 => decide +kernel)))
          refine o_sle (t_bool ⟨rfl, ?_⟩)
          rw [S_cps, S_cps, lt_one, decide_eq_true (show (p.2.getD i dEnd).1 ≤ s by omega), Bool.true_and, Bool.eq_iff_iff]
          simp
      · (repeat (walk_at "ev"))
        exact ⟨hb', stays_refl _, rfl, rd_str⟩
    · refine e_listF rfl (tl_nil ⟨by ((rw [sizeLine_eq]; first | decide | (simp only [List.length_cons, List.length_nil]; omega) | omega)), fun x2 hb2 k2 n2 j2 => ?_⟩)
      refine o_ne_len hA.units (.inr (hIs2.keeps k2)) (.inr j2) (.inr rfl) ?_
      (repeat (walk_at "ev"))
      refine o_bne ?_
      have hl := Rds.len hrd
      rw [List.length_map, hxl] at hl
      have e1 : as.isEmpty = decide (as.length = 0) := by cases as <;> simp
      have e2 : (!(as.isEmpty && ([] : List Av).isEmpty)) = p.2.any fun e => decide (e.1 ≤ s) && decide (s ≤ e.2) := by
        rw [show ([] : List Av).isEmpty = true from rfl, Bool.and_true, e1, hl, Bool.eq_iff_iff]
        simp only [Bool.not_eq_true', decide_eq_false_iff_not, List.length_eq_zero_iff, List.filter_eq_nil_iff, List.any_eq_true]
        refine ⟨fun H => ?_, fun ⟨e, he, h⟩ H => ?_⟩
        · have H' : ∃ a, a ∈ List.range p.2.length ∧ (decide ((p.2.getD a dEnd).1 ≤ s) && decide (s ≤ (p.2.getD a dEnd).2)) = true :=
            Classical.byContradiction fun hc => H fun a ha hb => hc ⟨a, ha, hb⟩
          obtain ⟨a, ha, h⟩ := H'
          have ha := List.mem_range.mp ha
          refine ⟨p.2[a], List.getElem_mem ha, ?_⟩
          rw [List.getD_eq_getElem?_getD, List.getElem?_eq_getElem ha] at h
          exact h
        · obtain ⟨a, ha, rfl⟩ := List.getElem_of_mem he
          refine H a (List.mem_range.mpr ha) ?_
          rw [List.getD_eq_getElem?_getD, List.getElem?_eq_getElem ha]
          exact h
      rw [e2]
      show Av.bool _ = Av.bool _
      rfl

noncomputable def takes (pcs : List Pc) (name : List Nat) : Bool := decide (((List.range (min pcs.length name.length)).filter fun i => fits (pcs.getD i dPc) (name.getD i 0)).length = pcs.length) && decide (pcs.length = name.length)
noncomputable def PTakes : Pre := fun h as d => ∃ R pcs name, as = [.ref R, .str (S name)] ∧ Rd Any h (.list (pcs.map pcD)) (.ref R) ∧ (∀ p ∈ pcs, p.2.length ≤ 100) ∧ pcs.length ≤ 100 ∧ name.length ≤ 100 ∧ d = .bool (takes pcs name)
theorem PTakes.mono : Mono PTakes := ⟨fun h h' as d k ⟨R, pcs, name, e, i, q⟩ => ⟨R, pcs, name, e, i.keeps k, q⟩⟩

theorem f_takes (prog : Program) (w : World) : Fun prog w (Mine.hd0.heap_1 w.params) 140 3 PTakes := by
  refine Fun.mk (by k_is) (by k_is) ["pieces", "name"] ["good"] (by decide +kernel) (by ((intro vs h; match vs, h with | [v, u], _ => rfl))) (by decide +kernel) (by decide +kernel) ?_ ?_
  · rintro h as d ⟨R, pcs, name, rfl, _⟩; rfl
  · rintro C L hb as d hC hA hW ⟨R, pcs, name, rfl, hR, hps, hpl, hnl, rfl⟩
    have hF := hC.isFn rfl
    (simp only [List.zipWith_cons_cons, List.zipWith_nil_left, List.zipWith_nil_right, List.map_nil, List.map_cons, List.append_nil, List.nil_append, List.cons_append])
    obtain ⟨x, as, e, _, hIs, hr⟩ := rd_list_inv hR
    cases e
    obtain ⟨xs, rfl, hxl, hx⟩ := rds_pcs hr
    have hml : (xs.map Av.ref).length = pcs.length := by rw [List.length_map, hxl]
    refine x_cons (x_ifB false (b_cmp1 ?_) (fun h => by cases h) (fun _ => x_nil ?_))
    · (repeat (walk_at "ev"))
      refine o_none_in hA (.inr hIs) (fun t ht => ?_) (t_bool ⟨rfl, rfl⟩)
      obtain ⟨i, hi, rfl⟩ := List.getElem_of_mem ht
      obtain ⟨y, as, e, _, hI, _⟩ := rd_tup_inv (hx i _ (List.getElem?_eq_getElem hi))
      cases e
      exact ⟨_, hI⟩
    refine x_cons ?_
    ((refine x_comp (IsC.env (by assumption)) (Fn.kind (by assumption)) rfl rfl (closureFor_none (by decide +kernel)) (by decide +kernel) rfl (by decide +kernel) (fun _ => rfl) ?_))
    ((refine e_call rfl ?_; (((with_reducible refine' built_name ?f_570 ?k_570 ?e_570 ?v_570 ?n_570 ?d_570 ?_); (case f_570 => assumption); (case k_570 => (exact IsC.kind (by assumption) rfl)); (case e_570 => (refine IsC.glob (by assumption) ?_; k_is)); (case v_570 => boot_fast); (case n_570 => decide +kernel); (case d_570 => decide +kernel))); refine ⟨_, rfl, kp_type, ?_⟩))
    (repeat (walk_at "ev"))
    refine bc_zip (.inr hIs) fun z TO TI i2 i1 t => ?_
    refine ⟨_, _, _, _, ["piece", "sign"], _, fun i => fits (pcs.getD i dPc) (name.getD i 0), fun i => .str (S [name.getD i 0]), src_zip hIs (by rw [hml]; ((rw [sizeLine_eq]; first | decide | (simp only [List.length_cons, List.length_nil]; omega) | omega))) hA.1, names_two (by decide +kernel),
      ⟨by decide +kernel, fun C' Lc hin => ?_, fun C' Lc D i hb' acc hin hi k kp => ?_⟩, fun x hb' as k hn hIs2 hrd => ?_⟩
    · have hC' := hin.is hC
      exact ⟨(hin.fn rfl hF).kind, hC'.kind rfl, hC'.kind rfl⟩
    · have hC' := hin.is hC
      have hF' := hin.fn rfl hF
      have hA' := hin.ok hA
      rw [hml] at hi
      have hi' : i < xs.length := by omega
      have hip : i < pcs.length := by omega
      have e : (xs.map Av.ref).getD i .none = .ref xs[i] := by
        rw [List.getD_eq_getElem?_getD, List.getElem?_map, List.getElem?_eq_getElem hi']; rfl
      rw [e]
      refine ct_one (b_plain ?_) ⟨rfl, rfl, fun _ => ?_⟩
      · ((refine e_call rfl ?_; (((with_reducible refine' glob_fn ?f_575 ?k_575 ?e_575 ?d_575 ?_); (case f_575 => assumption); (case k_575 => (exact IsC.kind (by assumption) rfl)); (case e_575 => (refine IsC.glob (by assumption) ?_; k_is)); (case d_575 => decide +kernel))); refine ⟨_, rfl, kp_fn (IsC.keep (by assumption) (by k_is)), ?_⟩))
        (repeat (walk_at "ev"))
        refine c_funI (hC'.fn (f_fits prog w)) (hA'.le (by decide)) PFits.mono ⟨xs[i], pcs.getD i dPc, name.getD i 0, rfl, (hx i _ (List.getElem?_eq_getElem hi')).any.keeps k, ?_, rfl⟩ rfl (t_bool ⟨rfl, rfl⟩)
        rw [List.getD_eq_getElem?_getD, List.getElem?_eq_getElem hip]
        exact hps _ (List.getElem_mem hip)
      · (repeat (walk_at "ev"))
        exact ⟨hb', stays_refl _, rfl, rd_str⟩
    · have hl := Rds.len hrd
      rw [List.length_map, hml] at hl
      have hlm : as.length ≤ 100 := by
        rw [hl]
        refine Nat.le_trans (List.length_filter_le ..) ?_
        rw [List.length_range]; omega
      ((refine' ⟨_, ?p_579, ?_⟩; (case p_579 => walk_at "put")))
      refine x_cons (x_return (e_cmp2 ?_))
      ((refine e_call rfl ?_; (((with_reducible refine' built_name ?f_581 ?k_581 ?e_581 ?v_581 ?n_581 ?d_581 ?_); (case f_581 => assumption); (case k_581 => (exact IsC.kind (by assumption) rfl)); (case e_581 => (refine IsC.glob (by assumption) ?_; k_is)); (case v_581 => boot_fast); (case n_581 => decide +kernel); (case d_581 => decide +kernel))); refine ⟨_, rfl, kp_builtin, ?_⟩))
      (repeat (walk_at "ev"))
      refine bc_len_list (.inr hIs2) (by ((rw [sizeLine_eq]; first | decide | (simp only [List.length_cons, List.length_nil]; omega) | omega))) ?_
      ((refine e_call rfl ?_; (((with_reducible refine' built_name ?f_586 ?k_586 ?e_586 ?v_586 ?n_586 ?d_586 ?_); (case f_586 => assumption); (case k_586 => (exact IsC.kind (by assumption) rfl)); (case e_586 => (refine IsC.glob (by assumption) ?_; k_is)); (case v_586 => boot_fast); (case n_586 => decide +kernel); (case d_586 => decide +kernel))); refine ⟨_, rfl, kp_builtin, ?_⟩))
      (repeat (walk_at "ev"))
      refine bc_len_list (.inr (hIs.keeps k)) (by rw [hml]; ((rw [sizeLine_eq]; first | decide | (simp only [List.length_cons, List.length_nil]; omega) | omega))) ?_
      (repeat (walk_at "ev"))
      rw [hml, hl]
      refine ⟨fun h => ?_, fun h => ?_⟩
      · have h' : ¬ (((List.range (min pcs.length name.length)).filter fun i => fits (pcs.getD i dPc) (name.getD i 0)).length = pcs.length) := fun e => by
          rw [e] at h; simp at h
        rw [h]
        unfold takes
        rw [decide_eq_false h', Bool.false_and]
        show Av.bool _ = Av.bool _
        rfl
      · have h' : ((List.range (min pcs.length name.length)).filter fun i => fits (pcs.getD i dPc) (name.getD i 0)).length = pcs.length := by
          have := (beq_iff_eq.mp h)
          omega
        ((refine e_call rfl ?_; (((with_reducible refine' built_name ?f_592 ?k_592 ?e_592 ?v_592 ?n_592 ?d_592 ?_); (case f_592 => assumption); (case k_592 => (exact IsC.kind (by assumption) rfl)); (case e_592 => (refine IsC.glob (by assumption) ?_; k_is)); (case v_592 => boot_fast); (case n_592 => decide +kernel); (case d_592 => decide +kernel))); refine ⟨_, rfl, kp_builtin, ?_⟩))
        (repeat (walk_at "ev"))
        refine bc_len_str (by rw [S_len]; ((rw [sizeLine_eq]; first | decide | (simp only [List.length_cons, List.length_nil]; omega) | omega))) ?_
        (repeat (walk_at "ev"))
        rw [S_len]
        unfold takes
        rw [decide_eq_true h', Bool.true_and]
        have : ((pcs.length : Int) == (name.length : Int)) = decide (pcs.length = name.length) := by
          by_cases e : pcs.length = name.length
          · rw [e]; simp
          · rw [decide_eq_false e, beq_eq_false_iff_ne]; omega
        rw [this]
        show Av.bool _ = Av.bool _
        rfl

/-! ## _law_read -/
noncomputable def Sg1 (s : List Nat) (c : Nat) : Prop := s = [92, c] ∨ (s = [c] ∧ c ≠ 92)
inductive Seg : List Nat → Pc → Prop
  | sign (s : List Nat) (c : Nat) (h : Sg1 s c) (hd : ∀ x, s.head? = some x → x ≠ 40 ∧ x ≠ 46 ∧ x ≠ 91) : Seg s (false, [(c, c)])
  | none : Seg [40, 63, 33, 41] (false, [])
  | any : Seg [46] (true, [])
  | set (turned : Bool) (sa sz : List Nat) (a z : Nat) (ha : Sg1 sa a) (hz : Sg1 sz z) (hd : turned = false → sa.head? ≠ some 94) (hle : a ≤ z) : Seg (91 :: ((if turned then [94] else []) ++ (sa ++ (45 :: (sz ++ [93]))))) (turned, [(a, z)])
theorem Seg.ne {s : List Nat} {p : Pc} (h : Seg s p) : s ≠ [] := by
  cases h with
  | sign s c h _ => rcases h with rfl | ⟨rfl, _⟩ <;> simp
  | none => simp
  | any => simp
  | set => simp
theorem drop_next {tx s r : List Nat} {k : Nat} (h : tx.drop k = s ++ r) : tx.drop (k + s.length) = r := by
  rw [← List.drop_drop, h, List.drop_left]
theorem drop_one {tx r : List Nat} {k c : Nat} (h : tx.drop k = c :: r) : (tx.drop k).take 1 = [c] := by rw [h]; rfl
theorem drop_len {tx r : List Nat} {k : Nat} (h : tx.drop k = r) (hne : r ≠ []) : k + r.length = tx.length := by
  have h1 : r.length = tx.length - k := by rw [← h, List.length_drop]
  have h2 : 0 < r.length := List.length_pos_iff.mpr hne
  omega
theorem Sg1.at {tx s r : List Nat} {k c : Nat} (hs : Sg1 s c) (h : tx.drop k = s ++ r) : SignAt tx k c (k + s.length) := by
  rcases hs with rfl | ⟨rfl, hc⟩
  · exact .esc (drop_one h) (drop_one (drop_next (s := [92]) h)) rfl
  · exact .plain (drop_one h) hc rfl
theorem set_at {tx r : List Nat} {k a z : Nat} {turned : Bool} {sa sz : List Nat} (ha : Sg1 sa a) (hz : Sg1 sz z) (hd : turned = false → sa.head? ≠ some 94) (hle : a ≤ z) (hlen : tx.length ≤ 1000)
    (h : tx.drop k = (if turned then [94] else []) ++ (sa ++ (45 :: (sz ++ 93 :: r)))) : ∃ k1 k2 k3, SetAt tx k turned a z k1 k2 k3 ∧ k3 + 1 = k + ((if turned then [94] else []) ++ (sa ++ (45 :: (sz ++ [93])))).length := by
  have h1 := drop_next h
  have h2 := drop_next h1
  have h3 := drop_next (s := [45]) h2
  have h4 := drop_next h3
  refine ⟨_, _, _, ⟨?_, ?_, ha.at h1, drop_one h2, hz.at h3, drop_one h4, hle, hlen⟩, ?_⟩
  · cases turned with
    | true => rw [h]; rfl
    | false =>
      rw [decide_eq_false]
      have hd' := hd rfl
      rw [h]
      rcases ha with rfl | ⟨rfl, _⟩
      · intro e; exact absurd (List.cons.inj e).1 (by decide)
      · intro e
        have e' : a = 94 := (List.cons.inj e).1
        exact hd' (by rw [e']; rfl)
  · cases turned <;> rfl
  · simp only [List.length_append, List.length_cons, List.length_nil]; omega
noncomputable def segText (segs : List (List Nat × Pc)) : List Nat := (segs.map (·.1)).flatten ++ [41, 92, 90]
noncomputable def PRead : Pre := fun _ as d => ∃ tx segs, as = [.str (S tx)] ∧ tx = [40, 63, 115, 58] ++ segText segs ∧ (∀ s ∈ segs, Seg s.1 s.2) ∧ segs.length ≤ 100 ∧ tx.length ≤ 1000 ∧ d = .list ((segs.map (·.2)).map pcD)

theorem f_read (prog : Program) (w : World) : Fun prog w (Mine.hd0.heap_1 w.params) 130 4 PRead := by
  refine Fun.mk (by k_is) (by k_is) ["text"] ["pieces", "k", "piece", "sign"] (by decide +kernel) (by ((intro vs h; match vs, h with | [v], _ => rfl))) (by decide +kernel) (by decide +kernel) ?_ ?_
  · rintro h as d ⟨tx, segs, rfl, _⟩; rfl
  · rintro C L hb as d hC hA hW ⟨tx, segs, rfl, htx, hsegs, hsl, hlen, rfl⟩
    have hF := hC.isFn rfl
    (simp only [List.zipWith_cons_cons, List.zipWith_nil_left, List.zipWith_nil_right, List.map_nil, List.map_cons, List.append_nil, List.nil_append, List.cons_append])
    refine x_cons ?_
    ((refine x_tset2 (IsC.env (by assumption)) (Fn.kind (by assumption)) (And.left (by assumption)) rfl rfl rfl rfl rfl ?_))
    refine tl_cons (e_list rfl (tl_nil ⟨by ((rw [sizeLine_eq]; first | decide | (simp only [List.length_cons, List.length_nil]; omega) | omega)), fun r => ?_⟩))
    (repeat (walk_at "ev"))
    ((refine' ⟨_, _, rfl, _, _, ?p1_602, ?p2_602, ?_⟩; (case p1_602 => walk_at "put"); (case p2_602 => walk_at "put")))
    have hd0 : tx.drop 4 = segText segs := by rw [htx]; rfl
    have hd4 : tx.take 4 = [40, 63, 115, 58] := by rw [htx]; rfl
    have hne : segText segs ≠ [] := by unfold segText; simp
    have hl0 := drop_len hd0 hne
    have hl1 : 7 ≤ tx.length := by unfold segText at hl0; rw [List.length_append] at hl0; simp only [List.length_cons, List.length_nil] at hl0; omega
    have hd3 : tx.drop (tx.length - 3) = [41, 92, 90] := by
      have := drop_next (show tx.drop 4 = (segs.map (·.1)).flatten ++ [41, 92, 90] from hd0)
      have h2 := drop_len this (by simp)
      rw [show tx.length - 3 = 4 + (segs.map (·.1)).flatten.length by simp only [List.length_cons, List.length_nil] at h2; omega]
      exact this
    have eA : List.take (cut (some 4) tx.length tx.length - cut none 0 tx.length) (tx.drop (cut none 0 tx.length)) = [40, 63, 115, 58] := by
      rw [show (some (4 : Int)) = some ((4 : Nat) : Int) from rfl, cut_nat, Nat.min_eq_left (by omega)]
      exact hd4
    have eB : List.take (cut none tx.length tx.length - cut (some (-3)) 0 tx.length) (tx.drop (cut (some (-3)) 0 tx.length)) = [41, 92, 90] := by
      rw [show (some (-3 : Int)) = some (-((3 : Nat) : Int)) from rfl, cut_neg 3 _ _ (by omega), hd3]
      show List.take (tx.length - (tx.length - 3)) _ = _
      rw [show tx.length - (tx.length - 3) = 3 by omega]
      rfl
    have p4 : ∀ k : Nat, List.take (cut (some ((k : Int) + 4)) tx.length tx.length - cut (some (k : Int)) 0 tx.length) (tx.drop (cut (some (k : Int)) 0 tx.length)) = (tx.drop k).take 4 := fun k => part_len tx k 4 tx.length tx.length rfl
    let st : Heap → Nat → List Av → Option Av → Option Av → Sg := fun hb' k as vp vs => ⟨hb', [("text", some (.str (S tx))), ("pieces", some (.ref r)), ("k", some (.int (k : Nat))), ("piece", vp), ("sign", vs)], [(r, .list as)]⟩
    refine x_seq (fun σ' => ∃ hb' k as vp vs, hb.StaysIn hb' ∧ Rds (New hb) hb' ((segs.map (·.2)).map pcD) as ∧ σ' = st hb' k as vp vs) ?_ ?_
    rotate_left
    · rintro _ _ ⟨hb', k, as, vp, vs, hk, hr, rfl⟩
      dsimp only [st]
      refine freeze (a := r) (by walk_at "del") fun hb2 q1 q2 q3 => ?_
      refine x_cons (x_return ?_)
      (((with_reducible refine' loc_name ?f_603 ?k_603 ?m_603 ?d_603 ?_); (case f_603 => (exact Fn.kind (by assumption))); (case m_603 => walk_at "mem"); (case k_603 => (exact IsC.kind (by assumption) rfl)); (case d_603 => decide +kernel)))
      exact rd_list (get_none_of hk q3) q2 (hr.keeps q1)
    refine x_while (fun m σ' => ∃ i hb' k as vp vs, i ≤ segs.length ∧ m = segs.length - i ∧ tx.drop k = segText (segs.drop i) ∧ hb.StaysIn hb' ∧ Rds (New hb) hb' (((segs.take i).map (·.2)).map pcD) as ∧ σ' = st hb' k as vp vs) segs.length ⟨0, hb, 4, [], none, none, Nat.zero_le _, rfl, hd0, stays_refl _, rds_nil, rfl⟩ ?_
    rintro m _ _ ⟨i, hb', k, as, vp, vs, hi, rfl, hdk, hk, hr, rfl⟩
    dsimp only [st]
    have hkl := drop_len hdk (by unfold segText; simp)
    refine T.mono (tt_of (b := decide (i < segs.length)) (by simp) (tt_and3 (b1 := true) (b2 := true) (b3 := decide (i < segs.length)) (b_cmp1 (e_slice ?_)) (fun _ => b_cmp1 (e_slice ?_)) (fun _ _ => b_cmp1 ?_))) ?_
    · (repeat (walk_at "ev"))
      refine ⟨_, rfl, ?_⟩
      refine sl_strL (by ((rw [sizeLine_eq]; first | decide | (simp only [List.length_cons, List.length_nil]; omega) | omega))) ?_
      (repeat (walk_at "ev"))
      rw [eA, lit_head]
      exact ⟨rfl, by simp⟩
    · (repeat (walk_at "ev"))
      refine e_unop ?_
      (repeat (walk_at "ev"))
      refine o_neg ⟨_, rfl, ?_⟩
      (repeat (walk_at "ev"))
      refine sl_strL (by ((rw [sizeLine_eq]; first | decide | (simp only [List.length_cons, List.length_nil]; omega) | omega))) ?_
      (repeat (walk_at "ev"))
      rw [eB, lit_tail]
      exact ⟨rfl, by simp⟩
    · (repeat (walk_at "ev"))
      ((refine e_call rfl ?_; (((with_reducible refine' built_name ?f_616 ?k_616 ?e_616 ?v_616 ?n_616 ?d_616 ?_); (case f_616 => assumption); (case k_616 => (exact IsC.kind (by assumption) rfl)); (case e_616 => (refine IsC.glob (by assumption) ?_; k_is)); (case v_616 => boot_fast); (case n_616 => decide +kernel); (case d_616 => decide +kernel))); refine ⟨_, rfl, kp_builtin, ?_⟩))
      (repeat (walk_at "ev"))
      refine bc_len_str (by rw [S_len]; ((rw [sizeLine_eq]; first | decide | (simp only [List.length_cons, List.length_nil]; omega) | omega))) ?_
      (repeat (walk_at "ev"))
      rw [S_len]
      refine ⟨rfl, ?_⟩
      unfold segText at hkl
      rw [List.length_append] at hkl
      simp only [List.length_cons, List.length_nil] at hkl
      by_cases hlt : i < segs.length
      · have : 0 < ((segs.drop i).map (·.1)).flatten.length := by
          rw [List.drop_eq_getElem_cons hlt, List.map_cons, List.flatten_cons, List.length_append]
          have := List.length_pos_iff.mpr (hsegs _ (List.getElem_mem hlt)).ne
          omega
        rw [decide_eq_true hlt, decide_eq_true]
        omega
      · have e : i = segs.length := by omega
        have : ((segs.drop i).map (·.1)).flatten.length = 0 := by rw [e, List.drop_length]; rfl
        rw [decide_eq_false hlt, decide_eq_false]
        omega
    rintro _ _ _ ⟨rfl, rfl⟩
    refine ⟨fun h => ?_, fun h => ?_⟩
    rotate_left
    · have e : i = segs.length := by have := of_decide_eq_false h; omega
      subst e
      rw [List.take_length] at hr
      (repeat (refine x_nil ?_))
      exact ⟨hb', k, as, vp, vs, hk, hr, rfl⟩
    have hlt : i < segs.length := of_decide_eq_true h
    have hseg := hsegs _ (List.getElem_mem hlt)
    have hdk2 : tx.drop k = segs[i].1 ++ segText (segs.drop (i + 1)) := by
      rw [hdk]
      unfold segText
      rw [List.drop_eq_getElem_cons hlt, List.map_cons, List.flatten_cons, List.append_assoc]
    have hnext := drop_next hdk2
    have htk : ((segs.take (i + 1)).map (·.2)).map pcD = ((segs.take i).map (·.2)).map pcD ++ [pcD segs[i].2] := by
      rw [List.take_add_one, List.getElem?_eq_getElem hlt, Option.toList_some, List.map_append, List.map_append]; rfl
    have hasl : as.length ≤ 100 := by rw [Rds.len hr, List.length_map, List.length_map, List.length_take]; omega
    refine x_seq (fun σ' => ∃ hb2 v vs2, hb'.StaysIn hb2 ∧ Rd (New hb) hb2 (pcD segs[i].2) v ∧ σ' = st hb2 (k + segs[i].1.length) as (some v) vs2) ?_ ?_
    rotate_left
    · rintro _ _ ⟨hb2, v, vs2, hk2, hv, rfl⟩
      dsimp only [st]
      refine x_cons (x_expr (e_meth meth_append rfl ?_) hF.kind)
      (((with_reducible refine' loc_name ?f_622 ?k_622 ?m_622 ?d_622 ?_); (case f_622 => (exact Fn.kind (by assumption))); (case m_622 => walk_at "mem"); (case k_622 => (exact IsC.kind (by assumption) rfl)); (case d_622 => decide +kernel)))
      refine ⟨of_list (.inl (by walk_at "mem")), ?_⟩
      (repeat (walk_at "ev"))
      refine' bc_append ?u ?hl ⟨rfl, ?_⟩
      case u => walk_at "upd"
      case hl => rw [sizeLine_eq]; omega
      (repeat (refine x_nil ?_))
      exact ⟨_, by omega, i + 1, hb2, _, _, _, _, by omega, rfl, hnext, stays_trans hk hk2, by rw [htk]; exact Rds.app (hr.keeps hk2) (rds_cons hv rds_nil), rfl⟩
    have hsegl : k + segs[i].1.length ≤ tx.length := by
      rw [hdk2] at hdk
      have := drop_len hdk2 (fun e => hseg.ne (List.append_eq_nil_iff.mp e).1)
      rw [List.length_append] at this
      omega
    generalize segs[i] = sg at *
    obtain ⟨s, pc⟩ := sg
    dsimp only at hseg hdk2 hnext htk hsegl ⊢
    obtain ⟨x, hx⟩ : ∃ x, s.head? = some x := by
      cases s with
      | nil => exact absurd rfl hseg.ne
      | cons x t => exact ⟨x, rfl⟩
    have hgx : tx[k]? = some x := by
      rw [← List.head?_drop, hdk2, List.head?_append, hx]; rfl
    have hkn : k ≤ 1000 := by omega
    refine x_if (b_cmp1 (e_slice ?_))
    (repeat (walk_at "ev"))
    refine ⟨_, rfl, ?_⟩
    (repeat (walk_at "ev"))
    refine ⟨_, rfl, ?_⟩
    refine sl_strL (by ((rw [sizeLine_eq]; first | decide | (simp only [List.length_cons, List.length_nil]; omega) | omega))) ?_
    (repeat (walk_at "ev"))
    have lit_no : Str.ofString "(?!)" = S [40, 63, 33, 41] := by decide +kernel
    rw [p4, lit_no, S1_beq]
    refine ⟨fun h => ?_, fun h => ?_⟩
    · have h' : (tx.drop k).take 4 = [40, 63, 33, 41] := by simpa using h
      have hx40 : x = 40 := by
        rw [hdk2] at h'
        cases s with
        | nil => cases hx
        | cons y t =>
          have e1 : y = x := Option.some.inj hx
          rw [← e1]; exact (List.cons.inj h').1
      cases hseg with
      | sign s c hs hd => exact absurd hx40 (hd x hx).1
      | any => exact absurd hx (by rw [hx40]; decide)
      | set => exact absurd hx (by rw [hx40]; simp)
      | none =>
        refine x_cons ?_
        ((refine x_tset2 (IsC.env (by assumption)) (Fn.kind (by assumption)) (And.left (by assumption)) rfl rfl rfl rfl rfl ?_))
        refine tl_cons (e_tupF rfl ?_)
        refine tl_cons (e_bool ?_)
        refine tl_cons (e_listF rfl (tl_nil ⟨by ((rw [sizeLine_eq]; first | decide | (simp only [List.length_cons, List.length_nil]; omega) | omega)), fun x1 hb1 k1 n1 i1 => ?_⟩))
        refine tl_nil ⟨by ((rw [sizeLine_eq]; first | decide | (simp only [List.length_cons, List.length_nil]; omega) | omega)), fun x2 hb2 k2 n2 i2 => ?_⟩
        (repeat (walk_at "ev"))
        ((refine' ⟨_, _, rfl, _, _, ?p1_635, ?p2_635, ?_⟩; (case p1_635 => walk_at "put"); (case p2_635 => walk_at "put")))
        (repeat (refine x_nil ?_))
        have k12 := stays_trans k1 k2
        exact ⟨hb2, _, _, k12, rd_tup (get_none_of hk (get_none_of k1 n2)) i2 (rds_cons rd_bool (rds_cons (rd_list (get_none_of hk n1) (i1.keeps k2) rds_nil) rds_nil)), rfl⟩
    have h4 : ¬ (tx.drop k).take 4 = [40, 63, 33, 41] := by simpa using h
    refine x_cons (x_if (b_cmp1 (e_item ?_)))
    (repeat (walk_at "ev"))
    refine it_strN hgx (by omega) ?_
    (repeat (walk_at "ev"))
    rw [lit_dot, S1_beq]
    refine ⟨fun h => ?_, fun h => ?_⟩
    · have hx46 : x = 46 := by simpa using h
      cases hseg with
      | sign s c hs hd => exact absurd hx46 (hd x hx).2.1
      | none => exact absurd hx (by rw [hx46]; decide)
      | set => exact absurd hx (by rw [hx46]; simp)
      | any =>
        refine x_cons ?_
        ((refine x_tset2 (IsC.env (by assumption)) (Fn.kind (by assumption)) (And.left (by assumption)) rfl rfl rfl rfl rfl ?_))
        refine tl_cons (e_tupF rfl ?_)
        refine tl_cons (e_bool ?_)
        refine tl_cons (e_listF rfl (tl_nil ⟨by ((rw [sizeLine_eq]; first | decide | (simp only [List.length_cons, List.length_nil]; omega) | omega)), fun x1 hb1 k1 n1 i1 => ?_⟩))
        refine tl_nil ⟨by ((rw [sizeLine_eq]; first | decide | (simp only [List.length_cons, List.length_nil]; omega) | omega)), fun x2 hb2 k2 n2 i2 => ?_⟩
        (repeat (walk_at "ev"))
        ((refine' ⟨_, _, rfl, _, _, ?p1_643, ?p2_643, ?_⟩; (case p1_643 => walk_at "put"); (case p2_643 => walk_at "put")))
        (repeat (refine x_nil ?_))
        have k12 := stays_trans k1 k2
        exact ⟨hb2, _, _, k12, rd_tup (get_none_of hk (get_none_of k1 n2)) i2 (rds_cons rd_bool (rds_cons (rd_list (get_none_of hk n1) (i1.keeps k2) rds_nil) rds_nil)), rfl⟩
    have hx46 : ¬ x = 46 := by simpa using h
    refine x_cons (x_if (b_cmp1 (e_item ?_)))
    (repeat (walk_at "ev"))
    refine it_strN hgx (by omega) ?_
    (repeat (walk_at "ev"))
    rw [lit_open, S1_beq]
    refine ⟨fun h => ?_, fun h => ?_⟩
    · have hx91 : x = 91 := by simpa using h
      cases hseg with
      | sign s c hs hd => exact absurd hx91 (hd x hx).2.2
      | none => exact absurd hx (by rw [hx91]; decide)
      | any => exact absurd hx (by rw [hx91]; decide)
      | set turned sa sz a z ha hz hd hle =>
        have hd1 : tx.drop (k + 1) = (if turned then [94] else []) ++ (sa ++ (45 :: (sz ++ 93 :: segText (segs.drop (i + 1))))) := by
          have := drop_next (s := [91]) (show tx.drop k = [91] ++ _ from hdk2)
          rw [show [91].length = 1 from rfl] at this
          rw [this]
          simp
        obtain ⟨q1, q2, q3, hset, hq⟩ := set_at ha hz hd hle hlen hd1
        refine x_cons (x_unpack2 (IsC.env (by assumption)) (Fn.kind (by assumption)) hA.1 rfl rfl rfl rfl ?_)
        ((refine e_call rfl ?_; (((with_reducible refine' glob_fn ?f_648 ?k_648 ?e_648 ?d_648 ?_); (case f_648 => assumption); (case k_648 => (exact IsC.kind (by assumption) rfl)); (case e_648 => (refine IsC.glob (by assumption) ?_; k_is)); (case d_648 => decide +kernel))); refine ⟨_, rfl, kp_fn (IsC.keep (by assumption) (by k_is)), ?_⟩))
        (repeat (walk_at "ev"))
        refine c_fun (hC.fn (f_set prog w)) (hA.le (by decide)) mono_const ⟨tx, k + 1, turned, a, z, q1, q2, q3, rfl, hset, rfl⟩ fun y hb2 g1 hr2 => ?_
        obtain ⟨t1, as1, rfl, _, i1, r1⟩ := rd_tup_inv hr2
        obtain ⟨u, _, rfl, ru, r1⟩ := rds_cons_inv r1
        obtain ⟨u', _, rfl, ru', r1⟩ := rds_cons_inv r1
        obtain rfl := rds_nil_inv r1
        obtain rfl := rd_int_inv ru'
        refine' ⟨t1, _, _, rfl, .inr i1, _, _, ?p1, ?p2, ?_⟩
        case p1 => walk_at "put"
        case p2 => walk_at "put"
        (repeat (refine x_nil ?_))
        refine ⟨hb2, u, vs, g1, ru.newer hk, ?_⟩
        dsimp only [st]
        have eq1 : q3 + 1 = k + (91 :: ((if turned = true then [94] else []) ++ (sa ++ 45 :: (sz ++ [93])))).length := by
          rw [hq, List.length_cons]; omega
        rw [eq1]
    have hx91 : ¬ x = 91 := by simpa using h
    cases hseg with
    | none => exact absurd (show (tx.drop k).take 4 = [40, 63, 33, 41] by rw [hdk2]; rfl) h4
    | any => exact absurd (Option.some.inj hx).symm hx46
    | set => exact absurd (Option.some.inj hx).symm hx91
    | sign s c hs hd =>
      refine x_cons (x_unpack2 (IsC.env (by assumption)) (Fn.kind (by assumption)) hA.1 rfl rfl rfl rfl ?_)
      ((refine e_call rfl ?_; (((with_reducible refine' glob_fn ?f_653 ?k_653 ?e_653 ?d_653 ?_); (case f_653 => assumption); (case k_653 => (exact IsC.kind (by assumption) rfl)); (case e_653 => (refine IsC.glob (by assumption) ?_; k_is)); (case d_653 => decide +kernel))); refine ⟨_, rfl, kp_fn (IsC.keep (by assumption) (by k_is)), ?_⟩))
      (repeat (walk_at "ev"))
      refine c_fun (hC.fn (f_sign prog w)) (hA.le (by decide)) mono_const ⟨tx, k, c, _, rfl, hlen, hs.at hdk2, rfl⟩ fun y hb2 g1 hr2 => ?_
      obtain ⟨t1, as1, rfl, _, i1, r1⟩ := rd_tup_inv hr2
      obtain ⟨u, _, rfl, ru, r1⟩ := rds_cons_inv r1
      obtain ⟨u', _, rfl, ru', r1⟩ := rds_cons_inv r1
      obtain rfl := rds_nil_inv r1
      obtain rfl := rd_str_inv ru
      obtain rfl := rd_int_inv ru'
      refine' ⟨t1, _, _, rfl, .inr i1, _, _, ?p1, ?p2, ?_⟩
      case p1 => walk_at "put"
      case p2 => walk_at "put"
      refine x_cons ?_
      (((with_reducible refine' x_set ?f_656 ?k_656 ?_ ?s_656); (case f_656 => (exact Fn.kind (by assumption))); (case k_656 => (exact IsC.kind (by assumption) rfl)); (case s_656 => rfl)))
      refine e_tupF rfl (tl_cons (e_bool (tl_cons (e_listF rfl (tl_cons (e_tupF rfl ?_))))))
      (repeat (walk_at "ev"))
      refine ⟨by ((rw [sizeLine_eq]; first | decide | (simp only [List.length_cons, List.length_nil]; omega) | omega)), fun x1 hb3 k1 n1 j1 => ?_⟩
      refine tl_nil ⟨by ((rw [sizeLine_eq]; first | decide | (simp only [List.length_cons, List.length_nil]; omega) | omega)), fun x2 hb4 k2 n2 j2 => ?_⟩
      refine tl_nil ⟨by ((rw [sizeLine_eq]; first | decide | (simp only [List.length_cons, List.length_nil]; omega) | omega)), fun x3 hb5 k3 n3 j3 => ?_⟩
      ((refine' ⟨_, ?p_663, ?_⟩; (case p_663 => walk_at "put")))
      (repeat (refine x_nil ?_))
      have h02 := stays_trans hk g1
      have h03 := stays_trans h02 k1
      have h04 := stays_trans h03 k2
      refine ⟨hb5, _, _, stays_trans g1 (stays_trans k1 (stays_trans k2 k3)), ?_, rfl⟩
      exact rd_tup (get_none_of h04 n3) j3 (rds_cons rd_bool (rds_cons (rd_list (get_none_of h03 n2) (j2.keeps k3) (rds_cons (rd_tup (get_none_of h02 n1) (j1.keeps (stays_trans k2 k3)) (rds_cons rd_str (rds_cons rd_str rds_nil))) rds_nil)) rds_nil))

/-! ## the text that translate gives, as the reader's segments -/
noncomputable def pcOf (bar : List Nat) (a z : Nat) : Pc := if z < a then (if bar = [] then (false, []) else (true, [])) else (decide (bar = [33]), [(a, z)])
noncomputable def segsOf (pre bar : List Nat) (a z : Nat) : List (List Nat × Pc) := pre.map (fun c => (esc c, ((false, [(c, c)]) : Pc))) ++ [(piece bar a z, pcOf bar a z)]
theorem tText_segs (pre bar : List Nat) (a z : Nat) : tText pre bar a z = [40, 63, 115, 58] ++ segText (segsOf pre bar a z) := by
  unfold tText segText segsOf frame2
  rw [List.map_append, List.map_map]
  simp only [List.append_assoc, List.map_cons, List.map_nil]
  rfl
noncomputable def E1 (c : Nat) : List Nat := (esc2 [c]).flatMap eamp
theorem E1_form (c : Nat) : E1 c = [92, c] ∨ (E1 c = [c] ∧ c ≠ 92) := by
  by_cases h : c = 92
  · subst h; left; decide
  by_cases h2 : c = 45
  · subst h2; left; decide
  have e : esc2 [c] = [c] := by simp [esc2, rep1, h, h2]
  unfold E1
  rw [e]
  show (eamp c ++ [] = [92, c]) ∨ (eamp c ++ [] = [c] ∧ c ≠ 92)
  rw [List.append_nil]
  unfold eamp
  split
  · exact .inl rfl
  · exact .inr ⟨rfl, h⟩
theorem E1_sg (c : Nat) : Sg1 (E1 c) c := E1_form c
theorem flat_bar (bar l : List Nat) (h : bar = [] ∨ bar = [33]) : (esc2 (bar ++ l)).flatMap eamp = bar ++ (esc2 l).flatMap eamp := by
  rcases h with rfl | rfl
  · rfl
  · have : esc2 ([33] ++ l) = [33] ++ esc2 l := by
      unfold esc2
      rw [rep1_app, rep1_app]
      rfl
    rw [this, List.flatMap_append]
    rfl
theorem stuff_range (bar : List Nat) (a z : Nat) (h : bar = [] ∨ bar = [33]) (hz : ¬ z < a) : stuffOf bar a z = bar ++ (E1 a ++ (45 :: E1 z)) := by
  unfold stuffOf chunksOf
  rw [if_neg hz]
  show (esc2 (bar ++ [a]) ++ [45] ++ esc2 [z]).flatMap eamp = _
  rw [List.flatMap_append, List.flatMap_append, flat_bar bar [a] h]
  show _ ++ [45] ++ E1 z = _
  simp only [List.append_assoc]
  rfl
theorem seg_piece (bar : List Nat) (a z : Nat) (h : bar = [] ∨ bar = [33]) (ha : a ≠ 33) : Seg (piece bar a z) (pcOf bar a z) := by
  by_cases hz : z < a
  · have e1 : stuffOf bar a z = bar := by
      unfold stuffOf chunksOf
      rw [if_pos hz]
      have := flat_bar bar [] h
      rw [List.append_nil] at this
      show (esc2 bar).flatMap eamp = bar
      rw [this]
      show bar ++ [] = bar
      rw [List.append_nil]
    unfold piece pcOf
    rw [e1, if_pos hz]
    rcases h with rfl | rfl
    · exact Seg.none
    · exact Seg.any
  · have hle : a ≤ z := by omega
    have e1 := stuff_range bar a z h hz
    unfold piece pcOf
    rw [e1, if_neg hz]
    rcases h with rfl | rfl
    · have et : decide (([] : List Nat) = [33]) = false := by decide
      rw [et]
      show Seg (fin (E1 a ++ 45 :: E1 z)) _
      have key : ∀ sa, Sg1 sa a → sa.head? ≠ some 94 → Seg (91 :: (sa ++ 45 :: E1 z ++ [93])) (false, [(a, z)]) := fun sa h1 h2 => by
        have := Seg.set false sa (E1 z) a z h1 (E1_sg z) (fun _ => h2) hle
        simpa using this
      rcases E1_form a with e | ⟨e, hn⟩
      · rw [e]
        have : fin ([92, a] ++ 45 :: E1 z) = 91 :: ([92, a] ++ 45 :: E1 z ++ [93]) := rfl
        rw [this]
        exact key [92, a] (.inl rfl) (by simp)
      · rw [e]
        by_cases h9 : a = 94 ∨ a = 91
        · have : fin ([a] ++ 45 :: E1 z) = 91 :: ([92, a] ++ 45 :: E1 z ++ [93]) := by
            unfold fin
            rw [if_neg (by simp), if_neg (by simp)]
            unfold turn
            rw [if_neg (by simpa using ha), if_pos (by simpa using h9)]
            rfl
          rw [this]
          exact key [92, a] (.inl rfl) (by simp)
        · have : fin ([a] ++ 45 :: E1 z) = 91 :: ([a] ++ 45 :: E1 z ++ [93]) := by
            unfold fin
            rw [if_neg (by simp), if_neg (by simp)]
            unfold turn
            rw [if_neg (by simpa using ha), if_neg (by simpa using h9)]
          rw [this]
          exact key [a] (.inr ⟨rfl, hn⟩) (by simpa using fun e => h9 (.inl e))
    · have et : decide (([33] : List Nat) = [33]) = true := by decide
      rw [et]
      have hne : (E1 a ++ 45 :: E1 z) ≠ [] := by simp
      have : fin ([33] ++ (E1 a ++ 45 :: E1 z)) = 91 :: (94 :: (E1 a ++ 45 :: E1 z) ++ [93]) := by
        unfold fin
        rw [if_neg (by simp), if_neg (by simp)]
        rfl
      rw [this]
      have := Seg.set true (E1 a) (E1 z) a z (E1_sg a) (E1_sg z) (fun h => by cases h) hle
      simpa using this
theorem seg_esc (c : Nat) : Seg (esc c) (false, [(c, c)]) := by
  unfold esc
  split
  · exact Seg.sign _ c (.inl rfl) (fun x hx => by cases hx; decide)
  · rename_i h
    refine Seg.sign _ c (.inr ⟨rfl, fun e => h (by subst e; decide)⟩) (fun x hx => ?_)
    have hx' : c = x := Option.some.inj hx
    subst hx'
    exact ⟨fun e => h (by subst e; decide), fun e => h (by subst e; decide), fun e => h (by subst e; decide)⟩
theorem segs_ok (pre bar : List Nat) (a z : Nat) (h : PatOk pre bar a z) : ∀ s ∈ segsOf pre bar a z, Seg s.1 s.2 := fun s hs => by
  unfold segsOf at hs
  rcases List.mem_append.mp hs with hs | hs
  · obtain ⟨c, _, rfl⟩ := List.mem_map.mp hs
    exact seg_esc c
  · rw [List.mem_singleton.mp hs]
    exact seg_piece bar a z h.bar h.a
noncomputable def pcsOf (pre bar : List Nat) (a z : Nat) : List Pc := pre.map (fun c => ((false, [(c, c)]) : Pc)) ++ [pcOf bar a z]
theorem segs_pcs (pre bar : List Nat) (a z : Nat) : (segsOf pre bar a z).map (·.2) = pcsOf pre bar a z := by
  unfold segsOf pcsOf
  rw [List.map_append, List.map_map]
  rfl
theorem read_ok (hp : Heap) (pre bar : List Nat) (a z : Nat) (h : PatOk pre bar a z) : PRead hp [.str (S (tText pre bar a z))] (.list ((pcsOf pre bar a z).map pcD)) := by
  refine ⟨_, segsOf pre bar a z, rfl, tText_segs pre bar a z, segs_ok pre bar a z h, ?_, ?_, by rw [segs_pcs]⟩
  · unfold segsOf
    have := h.len
    rw [List.length_append, List.length_map]
    show _ + 1 ≤ _
    omega
  · have := tText_len pre bar a z h
    omega
/-! ## a single sign set: what a text of signs is taken by -/
theorem fits_sign (c s : Nat) : fits (false, [(c, c)]) s = decide (c = s) := by
  unfold fits
  simp only [List.any_cons, List.any_nil, Bool.or_false, Bool.bne_false]
  rw [Bool.eq_iff_iff]
  simp only [Bool.and_eq_true, decide_eq_true_eq]
  omega
theorem fits_pc (bar : List Nat) (a z s : Nat) (h : bar = [] ∨ bar = [33]) : fits (pcOf bar a z) s = (decide (a ≤ s ∧ s ≤ z) != decide (bar = [33])) := by
  unfold pcOf fits
  by_cases hz : z < a
  · rw [if_pos hz]
    have : ¬ (a ≤ s ∧ s ≤ z) := by omega
    rw [decide_eq_false this]
    rcases h with rfl | rfl <;> rfl
  · rw [if_neg hz]
    simp only [List.any_cons, List.any_nil, Bool.or_false]
    rw [← Bool.decide_and]

/-! ## the plain law -/
noncomputable def preOf (n : Int) : List Nat := (if n / 128 % 2 = 1 then [33] else []) ++ (if isCtl n then [94] else [])
noncomputable def lastOf (n : Int) : Nat := (pval n).toNat
theorem pval_nonneg (n : Int) : 0 ≤ pval n := by
  unfold pval
  have := Int.emod_nonneg n (show (128 : Int) ≠ 0 by decide)
  split
  · split <;> decide
  · split <;> omega
theorem uctl_split (n : Int) : uctl n = preOf n ++ [lastOf n] := by
  have h0 := Int.emod_nonneg n (show (128 : Int) ≠ 0 by decide)
  have h1 := Int.emod_lt_of_pos n (show (0 : Int) < 128 by decide)
  unfold uctl preOf lastOf isCtl pval
  rw [List.append_assoc]
  congr 1
  by_cases e : n = 127
  · subst e; rfl
  rw [if_neg e]
  by_cases a : n % 128 = 127
  · rw [if_neg (by omega), if_neg (by omega), if_pos (decide_eq_true (Or.inl a)), if_pos a, if_neg e]; rfl
  · by_cases b : n % 128 < 32
    · rw [if_neg (by omega), if_pos b, if_pos (decide_eq_true (Or.inr b)), if_neg a, if_pos b]
      have : (n % 128 + 64).toNat = (n % 128).toNat + 64 := by omega
      rw [this]; rfl
    · rw [if_pos (by omega), if_neg (by simp [a, b]), if_neg a, if_neg b]; rfl
theorem uctl_len (n : Int) : (uctl n).length ≤ 3 := by
  rw [uctl_split]
  unfold preOf
  split <;> split <;> simp
theorem pre_len (n : Int) : (preOf n).length ≤ 2 := by
  unfold preOf
  split <;> split <;> simp
theorem pre_mem (n : Int) (c : Nat) (h : c ∈ preOf n) : c = 33 ∨ c = 94 := by
  unfold preOf at h
  split at h <;> split at h <;> simp at h
  · exact h
  · exact .inl h
  · exact .inr h
theorem pre_eq (b m : Int) : decide (preOf b = preOf m) = (b / 128 % 2 == m / 128 % 2 && isCtl b == isCtl m) := by
  have h1 := Int.emod_two_eq (b / 128)
  have h2 := Int.emod_two_eq (m / 128)
  unfold preOf
  rcases h1 with h1 | h1 <;> rcases h2 with h2 | h2 <;> rw [h1, h2] <;> cases isCtl b <;> cases isCtl m <;> decide
noncomputable def spc (c : Nat) : Pc := (false, [(c, c)])
theorem takes_app (p q : List Nat) (pc : Pc) (l : Nat) : takes (p.map spc ++ [pc]) (q ++ [l]) = (decide (p = q) && fits pc l) := by
  unfold takes
  have hl1 : (p.map spc ++ [pc]).length = p.length + 1 := by simp
  have hl2 : (q ++ [l]).length = q.length + 1 := by simp
  rw [hl1, hl2]
  by_cases h : p.length = q.length
  · rw [h, Nat.min_self, decide_eq_true (rfl : q.length + 1 = q.length + 1), Bool.and_true, Bool.eq_iff_iff, decide_eq_true_eq, Bool.and_eq_true, decide_eq_true_eq]
    have hr : (List.range (q.length + 1)).length = q.length + 1 := List.length_range
    have key := List.length_filter_eq_length_iff (l := List.range (q.length + 1)) (p := fun i => fits ((p.map spc ++ [pc]).getD i dPc) ((q ++ [l]).getD i 0))
    rw [hr] at key
    rw [key]
    have e1 : ∀ i, i < q.length → fits ((p.map spc ++ [pc]).getD i dPc) ((q ++ [l]).getD i 0) = decide (p[i]? = q[i]?) := fun i hi => by
      have hp : i < p.length := by omega
      rw [List.getD_eq_getElem?_getD, List.getElem?_append_left (by rw [List.length_map]; exact hp), List.getElem?_map, List.getElem?_eq_getElem hp, List.getD_eq_getElem?_getD, List.getElem?_append_left hi, List.getElem?_eq_getElem hi]
      show fits (spc p[i]) q[i] = _
      unfold spc
      rw [fits_sign]
      simp
    have e2 : fits ((p.map spc ++ [pc]).getD q.length dPc) ((q ++ [l]).getD q.length 0) = fits pc l := by
      rw [List.getD_eq_getElem?_getD, List.getElem?_append_right (by rw [List.length_map]; omega), List.getD_eq_getElem?_getD, List.getElem?_append_right (Nat.le_refl _), List.length_map, h, Nat.sub_self]
      rfl
    refine ⟨fun H => ⟨List.ext_getElem? fun i => ?_, ?_⟩, fun ⟨H1, H2⟩ i hi => ?_⟩
    · by_cases hi : i < q.length
      · have := H i (List.mem_range.mpr (by omega))
        rw [e1 i hi] at this
        exact of_decide_eq_true this
      · rw [List.getElem?_eq_none (by omega), List.getElem?_eq_none (by omega)]
    · have := H q.length (List.mem_range.mpr (by omega))
      rwa [e2] at this
    · have hi := List.mem_range.mp hi
      by_cases hq : i < q.length
      · rw [e1 i hq, H1]; exact decide_eq_true rfl
      · have : i = q.length := by omega
        rw [this, e2]; exact H2
  · have hn : ¬ p = q := fun e => h (by rw [e])
    rw [decide_eq_false (show ¬ p.length + 1 = q.length + 1 by omega), Bool.and_false, decide_eq_false hn, Bool.false_and]
theorem pcs_spc (pre bar : List Nat) (a z : Nat) : pcsOf pre bar a z = pre.map spc ++ [pcOf bar a z] := rfl
theorem plain_one (b s m : Int) (bar : List Nat) (hbar : bar = [] ∨ bar = [33]) : takes (pcsOf (preOf b) bar (lastOf b) (lastOf s)) (uctl m) = between (b / 128 % 2) (isCtl b) (pval b) (pval s) (m / 128 % 2) (isCtl m) (pval m) (decide (bar = [33])) := by
  rw [uctl_split, pcs_spc, takes_app, pre_eq, fits_pc _ _ _ _ hbar]
  unfold between
  have h1 := pval_nonneg b
  have h2 := pval_nonneg s
  have h3 := pval_nonneg m
  have : decide (lastOf b ≤ lastOf m ∧ lastOf m ≤ lastOf s) = decide (pval b ≤ pval m ∧ pval m ≤ pval s) := by
    unfold lastOf
    refine decide_eq_decide.mpr ?_
    omega
  rw [this]
noncomputable def clip (x : Int) : Int := if -2048 < x ∧ x < 2048 then x else x % 2048
noncomputable def rowOf (script : List Int) : List Int := (script.take 5).map clip ++ [48, 57, 127]
noncomputable def bg (n : Int) : Int := if n % 128 = 33 then n + 1 else n
noncomputable def st93 (n : Int) : Int := if n % 128 = 29 ∨ n % 128 = 93 then n + 1 else n
noncomputable def begOf (row : List Int) : List Int := (row.drop (row.length - 1) ++ row.take (row.length - 1)).map bg
theorem last_bg (n : Int) : lastOf (bg n) ≠ 33 := by
  have h1 : bg n % 128 ≠ 33 := by
    unfold bg
    split <;> omega
  have h0 := Int.emod_nonneg (bg n) (show (128 : Int) ≠ 0 by decide)
  unfold lastOf pval
  split
  · split <;> decide
  · split <;> omega
theorem last_st (n : Int) : lastOf (st93 n) ≠ 93 := by
  have h1 : st93 n % 128 ≠ 29 ∧ st93 n % 128 ≠ 93 := by
    unfold st93
    split <;> omega
  have h0 := Int.emod_nonneg (st93 n) (show (128 : Int) ≠ 0 by decide)
  unfold lastOf pval
  split
  · split <;> decide
  · split <;> omega
theorem pat_ok (b s : Int) (bar : List Nat) (hbar : bar = [] ∨ bar = [33]) : PatOk (preOf (bg b)) bar (lastOf (bg b)) (lastOf (st93 s)) :=
  ⟨pre_len _, fun c hc => by rcases pre_mem _ c hc with rfl | rfl <;> decide, hbar, last_bg b, last_st s⟩
theorem clip_small (x : Int) : clip x ≤ 2048 := by
  unfold clip
  split <;> omega
theorem row_small (script : List Int) : (∀ n ∈ rowOf script, n ≤ 2048) ∧ 3 ≤ (rowOf script).length ∧ (rowOf script).length ≤ 8 := by
  unfold rowOf
  refine ⟨fun n hn => ?_, by simp, ?_⟩
  · rcases List.mem_append.mp hn with h | h
    · obtain ⟨x, _, rfl⟩ := List.mem_map.mp h
      exact clip_small x
    · simp at h; omega
  · rw [List.length_append, List.length_map, List.length_take]
    show _ + 3 ≤ 8
    omega

/-! ## law -/
structure TD (h : Heap) (ts ds : List Addr) (bs : List (List Bool)) : Prop where
  lt : ts.length = bs.length
  ld : ds.length = bs.length
  it : ∀ (j : Nat) x l, ts[j]? = some x → bs[j]? = some l → Is h x (.list (l.map .bool))
  id : ∀ (j : Nat) x l, ds[j]? = some x → bs[j]? = some l → Is h x (.list (l.map .bool))
theorem TD.nil {h : Heap} : TD h [] [] [] := ⟨rfl, rfl, fun j x l e => by simp at e, fun j x l e => by simp at e⟩
theorem TD.keeps {h h' : Heap} {ts ds bs} (x : TD h ts ds bs) (k : h.StaysIn h') : TD h' ts ds bs := ⟨x.lt, x.ld, fun j a l e1 e2 => (x.it j a l e1 e2).keeps k, fun j a l e1 e2 => (x.id j a l e1 e2).keeps k⟩
theorem snoc_get {α β : Type} {R : α → β → Prop} {xs : List α} {ys : List β} (hl : xs.length = ys.length) (h : ∀ (j : Nat) x y, xs[j]? = some x → ys[j]? = some y → R x y) {a : α} {b : β} (hab : R a b) : ∀ (j : Nat) x y, (xs ++ [a])[j]? = some x → (ys ++ [b])[j]? = some y → R x y := fun j x y e1 e2 => by
  by_cases hj : j < xs.length
  · rw [List.getElem?_append_left hj] at e1
    rw [List.getElem?_append_left (by omega)] at e2
    exact h j x y e1 e2
  · rw [List.getElem?_append_right (by omega)] at e1
    rw [List.getElem?_append_right (by omega), ← hl] at e2
    have e0 : j - xs.length = 0 := by
      cases q : j - xs.length with
      | zero => rfl
      | succ n => rw [q] at e1; simp at e1
    rw [e0] at e1 e2
    cases e1
    cases e2
    exact hab
theorem TD.snoc {h : Heap} {ts ds bs} (x : TD h ts ds bs) {a b : Addr} {l : List Bool} (ha : Is h a (.list (l.map .bool))) (hb : Is h b (.list (l.map .bool))) : TD h (ts ++ [a]) (ds ++ [b]) (bs ++ [l]) :=
  ⟨by simp [x.lt], by simp [x.ld], snoc_get x.lt x.it ha, snoc_get x.ld x.id hb⟩
theorem rds_bools {F : Addr → Prop} {h : Heap} : ∀ {l : List Bool} {as : List Av}, Rds F h (l.map .bool) as → as = l.map .bool
  | [], as, e => rds_nil_inv e
  | b :: l, as, e => by
    obtain ⟨a, q, rfl, h1, h2⟩ := rds_cons_inv e
    rw [rd_bool_inv h1, rds_bools h2]; rfl
noncomputable abbrev plA (n : Int) : List Av := [.int (n / 128 % 2), .bool (isCtl n), .int (pval n)]
noncomputable abbrev plD (n : Int) : Dt := .list [.int (n / 128 % 2), .bool (isCtl n), .int (pval n)]
theorem rd_place {F : Addr → Prop} {h : Heap} {n : Int} {a : Av} (r : Rd F h (plD n) a) : ∃ x, a = .ref x ∧ Is h x (.list (plA n)) := by
  obtain ⟨x, as, rfl, _, i, r⟩ := rd_list_inv r
  obtain ⟨u, _, rfl, r1, r⟩ := rds_cons_inv r
  obtain ⟨v, _, rfl, r2, r⟩ := rds_cons_inv r
  obtain ⟨w, _, rfl, r3, r⟩ := rds_cons_inv r
  obtain rfl := rds_nil_inv r
  obtain rfl := rd_int_inv r1
  obtain rfl := rd_bool_inv r2
  obtain rfl := rd_int_inv r3
  exact ⟨x, rfl, i⟩
theorem rds_places {F : Addr → Prop} {h : Heap} : ∀ {l : List Int} {as : List Av}, Rds F h (l.map plD) as → ∃ xs : List Addr, as = xs.map .ref ∧ xs.length = l.length ∧ ∀ i t, xs[i]? = some t → Is h t (.list (plA (l.getD i 0)))
  | [], as, e => by
    rw [List.map_nil] at e
    exact ⟨[], rds_nil_inv e, rfl, fun i t h => by simp at h⟩
  | r :: rr, as, e => by
    rw [List.map_cons] at e
    obtain ⟨a, q, rfl, h1, h2⟩ := rds_cons_inv e
    obtain ⟨xs, rfl, hl, hx⟩ := rds_places h2
    obtain ⟨x, rfl, hIs⟩ := rd_place h1
    refine ⟨x :: xs, rfl, by simp [hl], fun i t h => ?_⟩
    cases i with
    | zero => simp at h; subst h; exact hIs
    | succ i => simpa using hx i t (by simpa using h)
theorem rng_map {α β : Type} (l : List α) (d : α) (g : α → β) (e : Nat → β) (he : ∀ i, i < l.length → e i = g (l.getD i d)) : ((List.range l.length).filter fun _ => true).map e = l.map g := by
  rw [List.filter_eq_self.mpr fun _ _ => rfl]
  refine List.ext_getElem (by simp) fun i h1 h2 => ?_
  simp only [List.length_map, List.length_range] at h1
  rw [List.getElem_map, List.getElem_range, he i h1, List.getElem_map, List.getD_eq_getElem?_getD, List.getElem?_eq_getElem h1]
  rfl
noncomputable def PLaw : Pre := fun h as d => ∃ (S0 : Addr) (script : List Int), as = [.ref S0] ∧ Is h S0 (.list (script.map .int)) ∧ script.length ≤ 63 ∧ d = .bool true
theorem f_shown' : Mono (fun h as d => ∃ r l, as = [.ref r] ∧ Is h r (.list (l.map .int)) ∧ l.length ≤ 1000 ∧ (∀ n ∈ l, n ≤ 1114111) ∧ d = .list ((unctrls l).map fun x => .str (S x))) :=
  ⟨fun h h' as d k ⟨r, l, e, i, q⟩ => ⟨r, l, e, i.keeps k, q⟩⟩

/-- what law's loops hold -/
noncomputable abbrev lawLoc (S0 R Bg St Nm Fi La Pl td du : Addr) (kv pv : Option Av) : List (Str × Option Av) :=
  [("script", some (.ref S0)), ("row", some (.ref R)), ("begins", some (.ref Bg)), ("stops", some (.ref St)), ("names", some (.ref Nm)), ("firsts", some (.ref Fi)), ("lasts", some (.ref La)), ("places", some (.ref Pl)), ("told", some (.ref td)), ("due", some (.ref du)), ("k", kv), ("pattern", pv)]
noncomputable abbrev lawHp (L td du : Addr) (pre : List (Addr × Mk)) (ts ds : List Addr) (ch cl cp cb : Option Av) (tb : Array Value) : List (Addr × Mk) :=
  pre ++ [(du, .list (ds.map .ref)), (td, .list (ts.map .ref)), (L + 1 + 1 + 1 + 1, .cell ch), (L + 1 + 1 + 1, .cell cl), (L + 1 + 1, .cell cp), (L + 1, .cell cb), (57, .any (tabObj tb))]
inductive LawI (L S0 R Bg St Nm Fi La Pl td du : Addr) (pre : List (Addr × Mk)) (h0 h1 : Heap) (tb0 : Array Value) (cb : Option Av) (n : Nat) (σ : Sg) : Prop
  | mk (hb : Heap) (kv pv : Option Av) (ts ds : List Addr) (bs : List (List Bool)) (ch cl cp : Option Av) (tb : Array Value) (k1 : h1.StaysIn hb) (tn : TabNew lamPos lamQ h0 hb tb0 tb) (htd : TD hb ts ds bs) (hn : bs.length = n)
    (eq : σ = ⟨hb, lawLoc S0 R Bg St Nm Fi La Pl td du kv pv, lawHp L td du pre ts ds ch cl cp cb tb⟩) : LawI L S0 R Bg St Nm Fi La Pl td du pre h0 h1 tb0 cb n σ
theorem init_of (p : List Nat) (c : Nat) : List.take (cut (some (-1)) (p ++ [c]).length (p ++ [c]).length - cut none 0 (p ++ [c]).length) (List.drop (cut none 0 (p ++ [c]).length) (p ++ [c])) = p := by
  rw [show cut none 0 (p ++ [c]).length = 0 from rfl, show (some (-1 : Int)) = some (-((1 : Nat) : Int)) from rfl, cut_neg 1 _ _ (by omega), Nat.sub_zero, List.drop_zero, List.length_append, List.length_singleton, Nat.add_sub_cancel, List.take_left]
theorem shown_len (l : List Int) : ((unctrls l).map fun y => Av.str (S y)).length = l.length := by simp [unctrls]
theorem shown_get (l : List Int) (i : Nat) (h : i < l.length) : ((unctrls l).map fun y => Av.str (S y))[i]? = some (.str (S (uctl (l.getD i 0)))) := by
  unfold unctrls
  rw [List.map_map, List.getElem?_map, List.getElem?_eq_getElem h, List.getD_eq_getElem?_getD, List.getElem?_eq_getElem h]; rfl
theorem pcs_small (pre bar : List Nat) (a z : Nat) (h : pre.length ≤ 2) : (pcsOf pre bar a z).length ≤ 100 ∧ ∀ p ∈ pcsOf pre bar a z, p.2.length ≤ 100 := by
  unfold pcsOf
  refine ⟨by rw [List.length_append, List.length_map]; show _ + 1 ≤ _; omega, fun p hp => ?_⟩
  rcases List.mem_append.mp hp with hp | hp
  · obtain ⟨c, _, rfl⟩ := List.mem_map.mp hp
    show 1 ≤ 100
    decide
  · rw [List.mem_singleton.mp hp]
    unfold pcOf
    split
    · split <;> decide
    · show 1 ≤ 100
      decide
set_option maxHeartbeats 8000000 in
theorem f_law (prog : Program) (w : World) : FunT prog w (Mine.hd0.heap_1 w.params) 57 lamPos lamQ 145 9 PLaw := by
  refine FunT.mkC (by k_is) (by k_is) ["script"] ["row", "begins", "stops", "names", "firsts", "lasts", "places", "told", "due", "k", "pattern"] (by decide +kernel) (by ((intro vs h; match vs, h with | [v], _ => rfl))) (by decide +kernel) (by decide +kernel) (by decide +kernel) ?_ ?_
  · rintro h as d ⟨S0, script, rfl, _⟩; rfl
  · rintro C L hb as d tb hC hA hG hW hT ⟨S0, script, rfl, hS, hlen, rfl⟩ hL0 hL
    have hF := hC.isFnC rfl
    let cs0 : List (Addr × Mk) := [(L + 1 + 1 + 1 + 1, .cell none), (L + 1 + 1 + 1, .cell none), (L + 1 + 1, .cell none), (L + 1, .cell none), (57, .any (tabObj tb))]
    show TX C _ (⟨hb, [("script", some (.ref S0)), ("row", none), ("begins", none), ("stops", none), ("names", none), ("firsts", none), ("lasts", none), ("places", none), ("told", none), ("due", none), ("k", none), ("pattern", none)], cs0⟩ : Sg) _
    have hml : ∀ l : List Int, (l.map Av.int).length = l.length := fun l => List.length_map ..
    have iget : ∀ (l : List Int) i, i < l.length → (l.map Av.int).getD i .none = .int (l.getD i 0) := fun l i hi => by
      rw [List.getD_eq_getElem?_getD, List.getElem?_map, List.getElem?_eq_getElem hi, List.getD_eq_getElem?_getD, List.getElem?_eq_getElem hi]; rfl
    have rdm : ∀ {F : Addr → Prop} {h : Heap} (l : List Int) (g : Int → Int) (e : Nat → Dt) (as : List Av), (∀ i, i < l.length → e i = .int (g (l.getD i 0))) → Rds F h (((List.range l.length).filter fun _ => true).map e) as → as = (l.map g).map Av.int := by
      intro F h l g e as he hr
      rw [rng_map l 0 (fun x => Dt.int (g x)) e he] at hr
      have e1 : (l.map fun x => Dt.int (g x)) = (l.map g).map Dt.int := by rw [List.map_map]; rfl
      rw [e1] at hr
      exact rds_ints.mp hr
    -- row
    refine x_cons ?_
    (((with_reducible refine' x_set ?f_666 ?k_666 ?_ ?s_666); (case f_666 => (exact Fn.kind (by assumption))); (case k_666 => (exact IsC.kind (by assumption) rfl)); (case s_666 => rfl)))
    refine e_binop ?_
    ((refine e_comp (IsC.env (by assumption)) (closureFor_none (by decide +kernel)) (by decide +kernel) rfl (by decide +kernel) (fun _ => rfl) ?_))
    refine e_slice ?_
    (repeat (walk_at "ev"))
    refine ⟨_, rfl, ?_⟩
    refine sl_listL (.inr hS) (by rw [hml]; ((rw [sizeLine_eq]; first | decide | (simp only [List.length_cons, List.length_nil]; omega) | omega))) fun y hb0 k0 n0 i0 => ?_
    have e5 : ((script.map Av.int).drop (cut none 0 (script.map Av.int).length)).take (cut (some 5) (script.map Av.int).length (script.map Av.int).length - cut none 0 (script.map Av.int).length) = (script.take 5).map Av.int := by
      rw [show cut none 0 (script.map Av.int).length = 0 from rfl, List.drop_zero, Nat.sub_zero, show (some (5 : Int)) = some ((5 : Nat) : Int) from rfl, cut_nat, ← List.map_take, hml]
      congr 1
      by_cases h : 5 ≤ script.length
      · rw [Nat.min_eq_left h]
      · rw [Nat.min_eq_right (by omega), List.take_of_length_le (Nat.le_refl _), List.take_of_length_le (by omega)]
    rw [e5] at i0
    have ht5 : (script.take 5).length ≤ 5 := by rw [List.length_take]; omega
    refine ⟨_, _, _, _, ["x"], _, fun _ => true, fun i => .int (clip ((script.take 5).getD i 0)), src_list (.inr i0) (by rw [hml]; ((rw [sizeLine_eq]; first | decide | (simp only [List.length_cons, List.length_nil]; omega) | omega))) hA.1, names_one,
      ⟨by decide +kernel, fun C' Lc hin => ?_, fun C' Lc D j hb1 acc hin hj k kp => ?_⟩, fun D hb1 as k1 n1 i1 hr1 => ?_⟩
    · exact ⟨(hin.fn rfl hF).kind, (hin.is hC).kind rfl⟩
    · have hC' := hin.is hC
      have hF' := hin.fn rfl hF
      have hA' := hin.ok hA
      rw [hml] at hj
      rw [iget _ _ hj]
      generalize (script.take 5).getD j 0 = x
      refine ct_nil ⟨rfl, rfl, fun _ => ?_⟩
      have yes1 : ∀ {loc hp}, clip x = x → EltOk hb1 loc hp (.int (clip x)) ⟨hb1, loc, hp⟩ (.int x) := fun e => ⟨hb1, stays_refl _, rfl, by rw [e]; exact rd_int⟩
      have no1 : ∀ {loc hp}, clip x = x % 2048 → EltOk hb1 loc hp (.int (clip x)) ⟨hb1, loc, hp⟩ (.int (x % 2048)) := fun e => ⟨hb1, stays_refl _, rfl, by rw [e]; exact rd_int⟩
      refine e_ifexp (b_cmp2 ?_)
      refine e_unop ?_
      (repeat (walk_at "ev"))
      refine o_neg ?_
      (repeat (walk_at "ev"))
      refine ⟨fun h => ⟨fun h2 => (by cases h2), fun _ => ?_⟩, fun h => ?_⟩
      · have h' : ¬ (-2048 < x) := by simpa using h
        (repeat (walk_at "ev"))
        exact no1 (by unfold clip; rw [if_neg (by omega)])
      · have h' : -2048 < x := by simpa using h
        (repeat (walk_at "ev"))
        refine ⟨fun h2 => ?_, fun h2 => ?_⟩
        · have h2' : x < 2048 := by simpa using h2
          (repeat (walk_at "ev"))
          exact yes1 (by unfold clip; rw [if_pos ⟨h', h2'⟩])
        · have h2' : ¬ x < 2048 := by simpa using h2
          (repeat (walk_at "ev"))
          exact no1 (by unfold clip; rw [if_neg (by omega)])
    rw [hml] at hr1
    have eas := rdm (script.take 5) clip _ _ (fun _ _ => rfl) hr1
    subst eas
    refine e_listF rfl ?_
    (repeat (walk_at "ev"))
    refine ⟨by ((rw [sizeLine_eq]; first | decide | (simp only [List.length_cons, List.length_nil]; omega) | omega)), fun z3 hb2 k2 n2 i2 => ?_⟩
    refine o_ladd (.inr (i1.keeps k2)) (.inr i2) (by rw [hml, List.length_map, sizeLine_eq]; show _ + 3 ≤ _; omega) fun R hb3 k3 n3 i3 => ?_
    have erow : (((script.take 5).map clip).map Av.int ++ [Av.int 48, Av.int 57, Av.int 127]) = (rowOf script).map Av.int := by
      unfold rowOf; rw [List.map_append]; rfl
    rw [erow] at i3
    ((refine' ⟨_, ?p_681, ?_⟩; (case p_681 => walk_at "put")))
    obtain ⟨hr1, hr2, hr3⟩ := row_small script
    have hk3 := stays_trans k0 (stays_trans k1 (stays_trans k2 k3))
    clear i0 i1 i2 e5 ht5
    generalize rowOf script = row at i3 hr1 hr2 hr3
    have hcutn : ∀ d, cut (some (-1)) d row.length = row.length - 1 := fun d => cut_neg 1 d row.length (by omega)
    -- begins
    refine x_cons ?_
    ((refine x_comp (IsC.env (by assumption)) (Fn.kind (by assumption)) rfl rfl (closureFor_none (by decide +kernel)) (by decide +kernel) rfl (by decide +kernel) (fun _ => rfl) ?_))
    refine e_binop (e_slice ?_)
    (repeat (walk_at "ev"))
    refine e_unop ?_
    (repeat (walk_at "ev"))
    refine o_neg ⟨_, rfl, ?_⟩
    (repeat (walk_at "ev"))
    refine sl_listL (.inr i3) (by rw [hml]; ((rw [sizeLine_eq]; first | decide | (simp only [List.length_cons, List.length_nil]; omega) | omega))) fun y1 hb4 k4 n4 i4 => ?_
    refine e_slice ?_
    (repeat (walk_at "ev"))
    refine e_unop ?_
    (repeat (walk_at "ev"))
    refine o_neg ⟨_, rfl, ?_⟩
    refine sl_listL (.inr (i3.keeps k4)) (by rw [hml]; ((rw [sizeLine_eq]; first | decide | (simp only [List.length_cons, List.length_nil]; omega) | omega))) fun y2 hb5 k5 n5 i5 => ?_
    have eL : List.take (cut none (row.map Av.int).length (row.map Av.int).length - cut (some (-1)) 0 (row.map Av.int).length) ((row.map Av.int).drop (cut (some (-1)) 0 (row.map Av.int).length)) = (row.drop (row.length - 1)).map Av.int := by
      rw [hml, hcutn, ← List.map_drop, ← List.map_take]
      congr 1
      refine List.take_of_length_le ?_
      rw [List.length_drop]
      show _ ≤ row.length - _
      omega
    have eR : List.take (cut (some (-1)) (row.map Av.int).length (row.map Av.int).length - cut none 0 (row.map Av.int).length) ((row.map Av.int).drop (cut none 0 (row.map Av.int).length)) = (row.take (row.length - 1)).map Av.int := by
      rw [hml, hcutn]
      show List.take (row.length - 1 - 0) (List.drop 0 _) = _
      rw [Nat.sub_zero, List.drop_zero, List.map_take]
    rw [eL] at i4
    rw [eR] at i5
    refine o_ladd (.inr (i4.keeps k5)) (.inr i5) (by rw [hml, hml, List.length_drop, List.length_take, sizeLine_eq]; omega) fun y3 hb6 k6 n6 i6 => ?_
    rw [← List.map_append] at i6
    have hrot : (row.drop (row.length - 1) ++ row.take (row.length - 1)).length = row.length := by rw [List.length_append, List.length_drop, List.length_take]; omega
    have hrm : ∀ n ∈ row.drop (row.length - 1) ++ row.take (row.length - 1), n ≤ 2048 := fun n hn => by
      rcases List.mem_append.mp hn with h | h
      · exact hr1 n (List.mem_of_mem_drop h)
      · exact hr1 n (List.mem_of_mem_take h)
    have hbeg : begOf row = (row.drop (row.length - 1) ++ row.take (row.length - 1)).map bg := rfl
    generalize row.drop (row.length - 1) ++ row.take (row.length - 1) = rot at i6 hrot hrm hbeg
    refine ⟨_, _, _, _, ["n"], _, fun _ => true, fun i => .int (bg (rot.getD i 0)), src_list (.inr i6) (by rw [hml]; ((rw [sizeLine_eq]; first | decide | (simp only [List.length_cons, List.length_nil]; omega) | omega))) hA.1, names_one,
      ⟨by decide +kernel, fun C' Lc hin => ?_, fun C' Lc D' j hb7 acc hin hj k kp => ?_⟩, fun Bg hb7 as k7 n7 i7 hr7 => ?_⟩
    · exact ⟨(hin.fn rfl hF).kind, (hin.is hC).kind rfl⟩
    · have hC' := hin.is hC
      have hF' := hin.fn rfl hF
      have hA' := hin.ok hA
      rw [hml] at hj
      rw [iget _ _ hj]
      generalize rot.getD j 0 = x
      refine ct_nil ⟨rfl, rfl, fun _ => ?_⟩
      refine e_ifexp ?_
      (repeat (walk_at "ev"))
      refine ⟨fun h => ?_, fun h => ?_⟩
      · have h' : x % 128 = 33 := by simpa using h
        (repeat (walk_at "ev"))
        exact ⟨hb7, stays_refl _, rfl, by unfold bg; rw [if_pos h']; exact rd_int⟩
      · have h' : ¬ x % 128 = 33 := by simpa using h
        (repeat (walk_at "ev"))
        exact ⟨hb7, stays_refl _, rfl, by unfold bg; rw [if_neg h']; exact rd_int⟩
    rw [hml] at hr7
    have eas := rdm rot bg _ _ (fun _ _ => rfl) hr7
    subst eas
    ((refine' ⟨_, ?p_694, ?_⟩; (case p_694 => walk_at "put")))
    rw [← hbeg] at i7
    have hbl : (begOf row).length = row.length := by rw [hbeg, List.length_map, hrot]
    have hbm : ∀ n ∈ begOf row, n ≤ 3000 := fun n hn => by
      rw [hbeg] at hn
      obtain ⟨x, hx, rfl⟩ := List.mem_map.mp hn
      have := hrm x hx
      unfold bg
      split <;> omega
    have hbg : ∀ i, i < row.length → ∃ x, (begOf row).getD i 0 = bg x := fun i hi => ⟨rot.getD i 0, by
      rw [hbeg, List.getD_eq_getElem?_getD, List.getElem?_map, List.getElem?_eq_getElem (by omega), List.getD_eq_getElem?_getD, List.getElem?_eq_getElem (by omega)]; rfl⟩
    -- stops
    refine x_cons ?_
    ((refine x_comp (IsC.env (by assumption)) (Fn.kind (by assumption)) rfl rfl (closureFor_none (by decide +kernel)) (by decide +kernel) rfl (by decide +kernel) (fun _ => rfl) ?_))
    (((with_reducible refine' loc_name ?f_696 ?k_696 ?m_696 ?d_696 ?_); (case f_696 => (exact Fn.kind (by assumption))); (case m_696 => walk_at "mem"); (case k_696 => (exact IsC.kind (by assumption) rfl)); (case d_696 => decide +kernel)))
    have k37 := stays_trans k4 (stays_trans k5 (stays_trans k6 k7))
    have i3a := i3.keeps k37
    refine ⟨_, _, _, _, ["n"], _, fun _ => true, fun i => .int (st93 (row.getD i 0)), src_list (.inr i3a) (by rw [hml]; ((rw [sizeLine_eq]; first | decide | (simp only [List.length_cons, List.length_nil]; omega) | omega))) hA.1, names_one,
      ⟨by decide +kernel, fun C' Lc hin => ?_, fun C' Lc D' j hb8 acc hin hj k kp => ?_⟩, fun St hb8 as k8 n8 i8 hr8 => ?_⟩
    · exact ⟨(hin.fn rfl hF).kind, (hin.is hC).kind rfl⟩
    · have hC' := hin.is hC
      have hF' := hin.fn rfl hF
      have hA' := hin.ok hA
      rw [hml] at hj
      rw [iget _ _ hj]
      generalize row.getD j 0 = x
      refine ct_nil ⟨rfl, rfl, fun _ => ?_⟩
      refine e_ifexp (b_cmp1 (e_binop ?_))
      (repeat (walk_at "ev"))
      refine e_tupF rfl ?_
      (repeat (walk_at "ev"))
      refine ⟨by ((rw [sizeLine_eq]; first | decide | (simp only [List.length_cons, List.length_nil]; omega) | omega)), fun t hb9 k9 n9 i9 => ?_⟩
      refine o_in_tupI (ys := [29, 93]) (.inr i9) rfl (t_bool ⟨fun h => ?_, fun h => ?_⟩)
      · have h' : x % 128 = 29 ∨ x % 128 = 93 := by simpa using h
        (repeat (walk_at "ev"))
        exact ⟨hb9, k9, rfl, by unfold st93; rw [if_pos h']; exact rd_int⟩
      · have h' : ¬ (x % 128 = 29 ∨ x % 128 = 93) := by simpa using h
        (repeat (walk_at "ev"))
        exact ⟨hb9, k9, rfl, by unfold st93; rw [if_neg h']; exact rd_int⟩
    rw [hml] at hr8
    have eas := rdm row st93 _ _ (fun _ _ => rfl) hr8
    subst eas
    ((refine' ⟨_, ?p_705, ?_⟩; (case p_705 => walk_at "put")))
    have hsl : (row.map st93).length = row.length := List.length_map ..
    have hsm : ∀ n ∈ row.map st93, n ≤ 3000 := fun n hn => by
      obtain ⟨x, hx, rfl⟩ := List.mem_map.mp hn
      have := hr1 x hx
      unfold st93
      split <;> omega
    have hst : ∀ i, i < row.length → (row.map st93).getD i 0 = st93 (row.getD i 0) := fun i hi => by
      rw [List.getD_eq_getElem?_getD, List.getElem?_map, List.getElem?_eq_getElem hi, List.getD_eq_getElem?_getD, List.getElem?_eq_getElem hi]; rfl
    generalize row.map st93 = stp at i8 hsl hsm hst
    generalize begOf row = bgs at i7 hbl hbm hbg
    -- names, firsts, lasts
    have hstr : ∀ {F : Addr → Prop} {h : Heap} (l : List Int) (a : Av), Rd F h (.list ((unctrls l).map fun x => .str (S x))) a → ∃ x, a = .ref x ∧ Is h x (.list ((unctrls l).map fun y => Av.str (S y))) := fun l a r => by
      obtain ⟨x, as, rfl, _, i, r⟩ := rd_list_inv r
      have e1 : ((unctrls l).map fun x => Dt.str (S x)) = ((unctrls l).map S).map Dt.str := by rw [List.map_map]; rfl
      rw [e1, rds_strs, ← strs_map] at r
      subst r
      exact ⟨x, rfl, i⟩
    refine x_cons ?_
    ((refine x_tset3 (IsC.env (by assumption)) (Fn.kind (by assumption)) (And.left (by assumption)) rfl rfl rfl rfl rfl rfl ?_))
    refine tl_cons ?_
    ((refine e_call rfl ?_; (((with_reducible refine' glob_fn ?f_708 ?k_708 ?e_708 ?d_708 ?_); (case f_708 => assumption); (case k_708 => (exact IsC.kind (by assumption) rfl)); (case e_708 => (refine IsC.glob (by assumption) ?_; k_is)); (case d_708 => decide +kernel))); refine ⟨_, rfl, kp_fn (IsC.keep (by assumption) (by k_is)), ?_⟩))
    (repeat (walk_at "ev"))
    refine c_fun (hC.fn (f_shown prog w)) (hA.le (by decide)) f_shown' ⟨R, row, rfl, i3a.keeps k8, by omega, fun n hn => by have := hr1 n hn; omega, rfl⟩ fun a9 hb9 k9 r9 => ?_
    obtain ⟨Nm, rfl, i9⟩ := hstr _ _ r9
    refine tl_cons ?_
    ((refine e_call rfl ?_; (((with_reducible refine' glob_fn ?f_712 ?k_712 ?e_712 ?d_712 ?_); (case f_712 => assumption); (case k_712 => (exact IsC.kind (by assumption) rfl)); (case e_712 => (refine IsC.glob (by assumption) ?_; k_is)); (case d_712 => decide +kernel))); refine ⟨_, rfl, kp_fn (IsC.keep (by assumption) (by k_is)), ?_⟩))
    (repeat (walk_at "ev"))
    refine c_fun (hC.fn (f_shown prog w)) (hA.le (by decide)) f_shown' ⟨_, bgs, rfl, (i7.keeps k8).keeps k9, by omega, fun n hn => by have := hbm n hn; omega, rfl⟩ fun a10 hb10 k10 r10 => ?_
    obtain ⟨Fi, rfl, i10⟩ := hstr _ _ r10
    refine tl_cons ?_
    ((refine e_call rfl ?_; (((with_reducible refine' glob_fn ?f_716 ?k_716 ?e_716 ?d_716 ?_); (case f_716 => assumption); (case k_716 => (exact IsC.kind (by assumption) rfl)); (case e_716 => (refine IsC.glob (by assumption) ?_; k_is)); (case d_716 => decide +kernel))); refine ⟨_, rfl, kp_fn (IsC.keep (by assumption) (by k_is)), ?_⟩))
    (repeat (walk_at "ev"))
    refine c_fun (hC.fn (f_shown prog w)) (hA.le (by decide)) f_shown' ⟨_, stp, rfl, (i8.keeps k9).keeps k10, by omega, fun n hn => by have := hsm n hn; omega, rfl⟩ fun a11 hb11 k11 r11 => ?_
    obtain ⟨La, rfl, i11⟩ := hstr _ _ r11
    refine tl_nil ?_
    ((refine' ⟨_, _, _, rfl, _, _, _, ?p1_719, ?p2_719, ?p3_719, ?_⟩; (case p1_719 => walk_at "put"); (case p2_719 => walk_at "put"); (case p3_719 => walk_at "put")))
    clear r9 r10 r11
    -- places
    have k811 := stays_trans k9 (stays_trans k10 k11)
    refine x_cons ?_
    ((refine x_comp (IsC.env (by assumption)) (Fn.kind (by assumption)) rfl rfl (closureFor_none (by decide +kernel)) (by decide +kernel) rfl (by decide +kernel) (fun _ => rfl) ?_))
    (((with_reducible refine' loc_name ?f_721 ?k_721 ?m_721 ?d_721 ?_); (case f_721 => (exact Fn.kind (by assumption))); (case m_721 => walk_at "mem"); (case k_721 => (exact IsC.kind (by assumption) rfl)); (case d_721 => decide +kernel)))
    refine ⟨_, _, _, _, ["n"], _, fun _ => true, fun i => plD (row.getD i 0), src_list (.inr ((i3a.keeps k8).keeps k811)) (by rw [hml]; ((rw [sizeLine_eq]; first | decide | (simp only [List.length_cons, List.length_nil]; omega) | omega))) hA.1, names_one,
      ⟨by decide +kernel, fun C' Lc hin => ?_, fun C' Lc D' j hb12 acc hin hj k kp => ?_⟩, fun Pl hb12 as k12 n12 i12 hr12 => ?_⟩
    · exact ⟨(hin.fn rfl hF).kind, (hin.is hC).kind rfl⟩
    · have hC' := hin.is hC
      have hF' := hin.fn rfl hF
      have hA' := hin.ok hA
      rw [hml] at hj
      rw [iget _ _ hj]
      refine ct_nil ⟨rfl, rfl, fun _ => ?_⟩
      ((refine e_call rfl ?_; (((with_reducible refine' glob_fn ?f_726 ?k_726 ?e_726 ?d_726 ?_); (case f_726 => assumption); (case k_726 => (exact IsC.kind (by assumption) rfl)); (case e_726 => (refine IsC.glob (by assumption) ?_; k_is)); (case d_726 => decide +kernel))); refine ⟨_, rfl, kp_fn (IsC.keep (by assumption) (by k_is)), ?_⟩))
      (repeat (walk_at "ev"))
      exact c_fun (hC'.fn (f_place prog w)) (hA'.le (by decide)) mono_const ⟨row.getD j 0, rfl, rfl⟩ fun a hb13 k13 r13 => ⟨hb13, k13, rfl, r13⟩
    rw [hml, rng_map row 0 plD _ (fun _ _ => rfl)] at hr12
    obtain ⟨pls, rfl, hpl, hpg⟩ := rds_places hr12
    ((refine' ⟨_, ?p_729, ?_⟩; (case p_729 => walk_at "put")))
    clear hr12 hr7 hr8 hr1
    have iR := ((i3a.keeps k8).keeps k811).keeps k12
    have iBg := ((i7.keeps k8).keeps k811).keeps k12
    have iSt := (i8.keeps k811).keeps k12
    have iNm := ((i9.keeps k10).keeps k11).keeps k12
    have iFi := (i10.keeps k11).keeps k12
    have iLa := i11.keeps k12
    have k0z := stays_trans hk3 (stays_trans k37 (stays_trans k8 (stays_trans k811 k12)))
    clear i3 i4 i5 i6 i7 i8 i9 i10 i11 i3a k37 k811 hk3
    -- told, due
    refine x_cons ?_
    ((refine x_tset2 (IsC.env (by assumption)) (Fn.kind (by assumption)) (And.left (by assumption)) rfl rfl rfl rfl rfl ?_))
    refine tl_cons (e_list rfl (tl_nil ⟨by ((rw [sizeLine_eq]; first | decide | (simp only [List.length_cons, List.length_nil]; omega) | omega)), fun td => tl_cons (e_list rfl (tl_nil ⟨by ((rw [sizeLine_eq]; first | decide | (simp only [List.length_cons, List.length_nil]; omega) | omega)), fun du => tl_nil ?_⟩))⟩))
    ((refine' ⟨_, _, rfl, _, _, ?p1_733, ?p2_733, ?_⟩; (case p1_733 => walk_at "put"); (case p2_733 => walk_at "put")))
    refine x_seq (fun σ' => ∃ cb n, LawI L S0 R Bg St Nm Fi La Pl td du [] hb hb12 tb cb n σ') ?_ ?_
    rotate_left
    · rintro _ _ ⟨cb, n, hbm, kv, pv, ts, ds, bs, ch, cl, cp, tb1, k1, tn1, htd, hn, rfl⟩
      dsimp only [lawLoc, lawHp, List.nil_append]
      refine x_cons (x_return (e_cmp1 ?_))
      (repeat (walk_at "ev"))
      refine o_eq_lol (hA.le (by decide)) (.inl (by walk_at "mem")) (.inl (by walk_at "mem")) htd.lt htd.ld htd.it htd.id ?_
      exact ⟨rd_bool, tb1, by walk_at "mem", tn1⟩
    refine x_forC hF.kind (hC.kind rfl) (by rw [hC.env]; rfl) (fun _ => rfl) ?_
    refine e_tupF rfl ?_
    (repeat (walk_at "ev"))
    refine ⟨by ((rw [sizeLine_eq]; first | decide | (simp only [List.length_cons, List.length_nil]; omega) | omega)), fun tt hbK kK nK iK => ?_⟩
    refine ForOnC.mk _ _ (s1_tup iK hA.1) (fun i σ' => ∃ cb, LawI L S0 R Bg St Nm Fi La Pl td du [] hb hb12 tb cb (i * row.length) σ') ⟨none, .mk hbK none none [] [] [] none none none tb kK ⟨hT.tri, fun _ e => .inl e⟩ .nil (by simp) rfl⟩ ?_ ?_
    rotate_left
    · rintro hbx loc hp hk ⟨cb, hI⟩
      (repeat (refine x_nil ?_))
      exact ⟨_, _, hI⟩
    rintro i it oi hbx loc hp hi hk ⟨cb0, hbm, kv, pv, ts, ds, bs, ch, cl, cp, tb1, k1, tn1, htd, hn, e⟩
    obtain ⟨rfl, rfl, rfl⟩ : hbx = hbm ∧ loc = _ ∧ hp = _ := Sg.mk.inj e
    dsimp only [lawLoc, lawHp, List.nil_append]
    obtain ⟨bar, hitm, hbar⟩ : ∃ bar : List Nat, ([Av.str (Str.ofString ""), Av.str (Str.ofString "!")] : List Av).getD i .none = .str (S bar) ∧ (bar = [] ∨ bar = [33]) := by
      match i, hi with
      | 0, _ => exact ⟨[], by rw [lit_empty]; rfl, .inl rfl⟩
      | 1, _ => exact ⟨[33], by rw [lit_bang]; rfl, .inr rfl⟩
      | i + 2, h => exact absurd h (by simp)
    rw [hitm]
    refine' ⟨_, _, ?u, ?_⟩
    case u => walk_at "upd"
    have hil : i * row.length ≤ 8 := by
      have h1 : i ≤ 1 := by have : i < 2 := hi; omega
      have := Nat.mul_le_mul h1 hr3
      omega
    refine x_seq (fun σ' => LawI L S0 R Bg St Nm Fi La Pl td du [(it, .any oi)] hb hb12 tb (some (.str (S bar))) (i * row.length + row.length) σ') ?_ ?_
    rotate_left
    · rintro _ _ ⟨hbm, kv, pv, ts, ds, bs, ch, cl, cp, tb1, k1, tn1, htd, hn, rfl⟩
      dsimp only [lawLoc, lawHp, List.cons_append, List.nil_append]
      (repeat (refine x_nil ?_))
      exact ⟨_, _, _, rfl, _, hbm, kv, pv, ts, ds, bs, ch, cl, cp, tb1, k1, tn1, htd, by rw [hn, Nat.succ_mul], rfl⟩
    have kx := k1
    refine x_for hF.kind (hC.kind rfl) (fun _ => rfl) ?_
    ((refine e_call rfl ?_; (((with_reducible refine' built_name ?f_740 ?k_740 ?e_740 ?v_740 ?n_740 ?d_740 ?_); (case f_740 => assumption); (case k_740 => (exact IsC.kind (by assumption) rfl)); (case e_740 => (refine IsC.glob (by assumption) ?_; k_is)); (case v_740 => boot_fast); (case n_740 => decide +kernel); (case d_740 => decide +kernel))); refine ⟨_, rfl, kp_type, ?_⟩))
    refine tl_cons ?_
    ((refine e_call rfl ?_; (((with_reducible refine' built_name ?f_743 ?k_743 ?e_743 ?v_743 ?n_743 ?d_743 ?_); (case f_743 => assumption); (case k_743 => (exact IsC.kind (by assumption) rfl)); (case e_743 => (refine IsC.glob (by assumption) ?_; k_is)); (case v_743 => boot_fast); (case n_743 => decide +kernel); (case d_743 => decide +kernel))); refine ⟨_, rfl, kp_builtin, ?_⟩))
    (repeat (walk_at "ev"))
    refine bc_len_list (.inr (iR.keeps k1)) (by rw [hml]; ((rw [sizeLine_eq]; first | decide | (simp only [List.length_cons, List.length_nil]; omega) | omega))) ?_
    rw [hml]
    refine tl_nil (bc_range1 fun rg hbR t u v kR nR iRg => ?_)
    refine ForOn.mk row.length _ (s1_range iRg hA.1 (small_one (by omega) (by omega) (by omega) (by omega)) (by rw [rangeSize_one]; split <;> omega)) (fun j σ' => LawI L S0 R Bg St Nm Fi La Pl td du [(it, .any oi)] hb hb12 tb (some (.str (S bar))) (i * row.length + j) σ')
      (.mk hbR kv pv ts ds bs ch cl cp tb1 (stays_trans k1 kR) (tn1.keeps kR) (htd.keeps kR) hn rfl) ?_ ?_
    rotate_left
    · rintro hbx loc hp hk hI
      (repeat (refine x_nil ?_))
      exact hI
    clear htd hn tn1
    clear k1 kR iRg nR
    rintro j it2 oi2 hbx loc hp hj hk2 ⟨hbm2, kv, pv, ts, ds, bs, ch, cl, cp, tb1, k1, tn1, htd, hn, e⟩
    obtain ⟨rfl, rfl, rfl⟩ : hbx = hbm2 ∧ loc = _ ∧ hp = _ := Sg.mk.inj e
    dsimp only [lawLoc, lawHp, List.cons_append, List.nil_append]
    rw [show (0 : Int) + (j : Int) * 1 = (j : Int) by omega]
    refine' ⟨_, ?pk, ?_⟩
    case pk => walk_at "put"
    obtain ⟨bx, hbx⟩ := hbg j hj
    have hsx := hst j hj
    have hok := pat_ok bx (row.getD j 0) bar hbar
    have hbarl : bar.length ≤ 1 := by rcases hbar with rfl | rfl <;> decide
    have gFi := shown_get bgs j (by omega)
    have gLa := shown_get stp j (by omega)
    have lFi := shown_len bgs
    have lLa := shown_len stp
    have hbsl : bs.length ≤ 16 := by omega
    have htsl : (ts.map Av.ref).length ≤ 16 := by rw [List.length_map, htd.lt]; omega
    have hdsl : (ds.map Av.ref).length ≤ 16 := by rw [List.length_map, htd.ld]; omega
    rw [hbx, uctl_split] at gFi
    rw [hsx, uctl_split] at gLa
    have iB := iBg.keeps k1
    have iS := iSt.keeps k1
    have gB : (bgs.map Av.int)[j]? = some (.int (bg bx)) := by
      rw [List.getElem?_map, List.getElem?_eq_getElem (by omega)]
      rw [List.getD_eq_getElem?_getD, List.getElem?_eq_getElem (by omega)] at hbx
      rw [← hbx]; rfl
    have gS : (stp.map Av.int)[j]? = some (.int (st93 (row.getD j 0))) := by
      rw [List.getElem?_map, List.getElem?_eq_getElem (by omega), ← hsx, List.getD_eq_getElem?_getD, List.getElem?_eq_getElem (by omega)]; rfl
    generalize row.getD j 0 = sx at hok gLa gS
    have lp1 := pre_len (bg bx)
    have lp2 := pre_len (st93 sx)
    -- pattern
    refine x_cons ?_
    (((with_reducible refine' x_set ?f_748 ?k_748 ?_ ?s_748); (case f_748 => (exact Fn.kind (by assumption))); (case k_748 => (exact IsC.kind (by assumption) rfl)); (case s_748 => rfl)))
    (repeat (walk_at "ev"))
    refine e_slice (e_item ?_)
    (repeat (walk_at "ev"))
    refine it_listI (.inr (iFi.keeps k1)) gFi (by omega) ?_
    (repeat (walk_at "ev"))
    refine e_unop ?_
    (repeat (walk_at "ev"))
    refine o_neg ⟨_, rfl, ?_⟩
    refine sl_strL (by rw [List.length_append, sizeLine_eq]; show _ + 1 ≤ _; omega) ?_
    rw [init_of]
    (repeat (walk_at "ev"))
    rw [lit_open]
    refine o_sadd (by rw [S_len, S_len, sizeLine_eq]; show _ + 1 ≤ _; omega) ?_
    rw [S_app]
    (((with_reducible refine' cell_name ?f_756 ?k_756 ?c_756 ?m_756 ?d_756 ?_); (case f_756 => (exact Fn.kind (by assumption))); (case k_756 => (exact IsC.kind (by assumption) rfl)); (case c_756 => (rw [IsC.env (by assumption)]; rfl)); (case m_756 => walk_at "mem"); (case d_756 => decide +kernel)))
    have lcat : ∀ (a b : List Nat), a.length ≤ 20 → b.length ≤ 20 → (S a).length + (S b).length ≤ sizeLine := fun a b ha hb => by rw [S_len, S_len, sizeLine_eq]; omega
    refine o_sadd (lcat _ _ (by rw [List.length_append]; show _ + 1 ≤ _; omega) (by omega)) ?_
    rw [S_app]
    refine e_item (e_item ?_)
    (repeat (walk_at "ev"))
    refine it_listI (.inr (iFi.keeps k1)) gFi (by omega) ?_
    refine e_unop ?_
    (repeat (walk_at "ev"))
    refine o_neg (it_strLast (c := lastOf (bg bx)) (by simp) (by rw [List.length_append]; show _ + 1 ≤ _; omega) ?_)
    refine o_sadd (lcat _ _ (by rw [List.length_append, List.length_append]; show _ + 1 + _ ≤ _; omega) (by show 1 ≤ _; decide)) ?_
    rw [S_app]
    (repeat (walk_at "ev"))
    rw [lit_hy]
    refine o_sadd (lcat _ _ (by rw [List.length_append, List.length_append, List.length_append]; show _ + 1 + _ + 1 ≤ _; omega) (by show 1 ≤ _; decide)) ?_
    rw [S_app]
    refine e_item (e_item ?_)
    (repeat (walk_at "ev"))
    refine it_listI (.inr (iLa.keeps k1)) gLa (by omega) ?_
    refine e_unop ?_
    (repeat (walk_at "ev"))
    refine o_neg (it_strLast (c := lastOf (st93 sx)) (by simp) (by rw [List.length_append]; show _ + 1 ≤ _; omega) ?_)
    refine o_sadd (lcat _ _ (by rw [List.length_append, List.length_append, List.length_append, List.length_append]; show _ + 1 + _ + 1 + 1 ≤ _; omega) (by show 1 ≤ _; decide)) ?_
    rw [S_app]
    (repeat (walk_at "ev"))
    rw [lit_close]
    refine o_sadd (lcat _ _ (by rw [List.length_append, List.length_append, List.length_append, List.length_append, List.length_append]; show _ + 1 + _ + 1 + 1 + 1 ≤ _; omega) (by show 1 ≤ _; decide)) ?_
    rw [S_app]
    have epat : preOf (bg bx) ++ [91] ++ bar ++ [lastOf (bg bx)] ++ [45] ++ [lastOf (st93 sx)] ++ [93] = patOf (preOf (bg bx)) bar (lastOf (bg bx)) (lastOf (st93 sx)) := by simp
    rw [epat]
    ((refine' ⟨_, ?p_765, ?_⟩; (case p_765 => walk_at "put")))
    -- pieces
    refine x_cons (x_setC hF.kind (hC.kind rfl) (by rw [hC.env]; rfl) ?_)
    ((refine e_call rfl ?_; (((with_reducible refine' glob_fn ?f_767 ?k_767 ?e_767 ?d_767 ?_); (case f_767 => assumption); (case k_767 => (exact IsC.kind (by assumption) rfl)); (case e_767 => (refine IsC.glob (by assumption) ?_; k_is)); (case d_767 => decide +kernel))); refine ⟨_, rfl, kp_fn (IsC.keep (by assumption) (by k_is)), ?_⟩))
    refine tl_cons ?_
    ((refine e_call rfl ?_; (((with_reducible refine' glob_fn ?f_770 ?k_770 ?e_770 ?d_770 ?_); (case f_770 => assumption); (case k_770 => (exact IsC.kind (by assumption) rfl)); (case e_770 => (refine IsC.glob (by assumption) ?_; k_is)); (case d_770 => decide +kernel))); refine ⟨_, rfl, kp_fn (IsC.keep (by assumption) (by k_is)), ?_⟩))
    (repeat (walk_at "ev"))
    have k0x := stays_trans k0z k1
    refine c_funT (hpOf := fun ps => [(it2, .any oi2), (it, .any oi), (du, .list (ds.map .ref)), (td, .list (ts.map .ref)), (L + 1 + 1 + 1 + 1, .cell ch), (L + 1 + 1 + 1, .cell cl), (L + 1 + 1, .cell cp), (L + 1, .cell (some (.str (S bar)))), (57, .any (tabObj ps))]) (hC.fnT (f_translate prog w)) (hA.le (by decide)) mono_const hG (fun _ => by walk_at "upd") (tn1.ok hT k0x) ⟨_, _, _, _, rfl, hok, rfl⟩ fun v2 hbA tb2 kA tnA rA => ?_
    obtain rfl := rd_str_inv rA
    have tn2 := tn1.trans tnA k0x kA
    refine tl_nil ?_
    refine c_fun (hC.fn (f_read prog w)) (hA.le (by decide)) mono_const (read_ok _ _ _ _ _ hok) fun a hbB kB rB => ?_
    obtain ⟨Pc, eP⟩ : ∃ x, a = .ref x := by obtain ⟨x, _, e, _⟩ := rd_list_inv rB; exact ⟨x, e⟩
    subst eP
    have rP := rB.any
    obtain ⟨pcl, pcs2⟩ := pcs_small (preOf (bg bx)) bar (lastOf (bg bx)) (lastOf (st93 sx)) lp1
    have hplain := fun m => plain_one (bg bx) (st93 sx) m bar hbar
    generalize pcsOf (preOf (bg bx)) bar (lastOf (bg bx)) (lastOf (st93 sx)) = pcs at rP pcl pcs2 hplain
    clear rB tnA gFi gLa epat lFi lLa
    refine StoC.mk _ _ (by walk_at "upd") ?_
    dsimp only
    -- told.append
    have lNm := shown_len row
    have gNm : ∀ q, q < row.length → ((unctrls row).map fun y => Av.str (S y)).getD q .none = .str (S (uctl (row.getD q 0))) := fun q hq => by
      rw [List.getD_eq_getElem?_getD, shown_get row q hq]; rfl
    have k2 := stays_trans k1 (stays_trans kA kB)
    refine x_cons (x_expr (e_meth meth_append rfl ?_) hF.kind)
    (((with_reducible refine' loc_name ?f_773 ?k_773 ?m_773 ?d_773 ?_); (case f_773 => (exact Fn.kind (by assumption))); (case m_773 => walk_at "mem"); (case k_773 => (exact IsC.kind (by assumption) rfl)); (case d_773 => decide +kernel)))
    refine ⟨of_list (.inl (by walk_at "mem")), ?_⟩
    refine tl_cons ?_
    refine e_comp (IsC.env (by assumption)) rfl (by decide +kernel) rfl (by decide +kernel) (fun _ => rfl) ?_
    (((with_reducible refine' loc_name ?f_776 ?k_776 ?m_776 ?d_776 ?_); (case f_776 => (exact Fn.kind (by assumption))); (case m_776 => walk_at "mem"); (case k_776 => (exact IsC.kind (by assumption) rfl)); (case d_776 => decide +kernel)))
    refine ⟨_, _, _, _, ["name"], _, fun _ => true, fun q => .bool (takes pcs (uctl (row.getD q 0))), src_list (.inr (iNm.keeps k2)) (by rw [lNm]; ((rw [sizeLine_eq]; first | decide | (simp only [List.length_cons, List.length_nil]; omega) | omega))) hA.1, names_one,
      ⟨by decide +kernel, fun C' Lc hin => ?_, fun C' Lc D' q hb' acc hin hq k kp => ?_⟩, fun D1 hbD as1 kD nD iD rD => ?_⟩
    · exact ⟨(hin.fn rfl hF).kind, (hin.is hC).kind rfl⟩
    · have hC' := hin.is hC
      have hF' := hin.fn rfl hF
      have hA' := hin.ok hA
      rw [lNm] at hq
      rw [gNm q hq]
      have hcP : CellIn hb' (L + 1 + 1) (.ref Pc) := cellin_of (kp (L + 1 + 1) _ (by walk_at "mem"))
      refine ct_nil ⟨rfl, rfl, fun _ => ?_⟩
      ((refine e_call rfl ?_; (((with_reducible refine' glob_fn ?f_781 ?k_781 ?e_781 ?d_781 ?_); (case f_781 => assumption); (case k_781 => (exact IsC.kind (by assumption) rfl)); (case e_781 => (refine IsC.glob (by assumption) ?_; k_is)); (case d_781 => decide +kernel))); refine ⟨_, rfl, kp_fn (IsC.keep (by assumption) (by k_is)), ?_⟩))
      refine tl_cons ?_
      (((with_reducible refine' free_name ?f_783 ?k_783 ?c_783 ?m_783 ?d_783 ?e_783 ?_); (case f_783 => (exact Fn.kind (by assumption))); (case k_783 => exact Or.inr (IsC.kind (by assumption) rfl)); (case c_783 => (rw [IsC.env (by assumption)]; rfl)); (case m_783 => assumption); (case d_783 => decide +kernel); (case e_783 => decide +kernel)))
      (repeat (walk_at "ev"))
      exact c_funI (hC'.fn (f_takes prog w)) (hA'.le (by decide)) PTakes.mono ⟨Pc, pcs, _, rfl, rP.keeps k, pcs2, pcl, by have := uctl_len (row.getD q 0); omega, rfl⟩ rfl ⟨hb', stays_refl _, rfl, rd_bool⟩
    rw [lNm, rng_map row 0 (fun m => Dt.bool (takes pcs (uctl m))) _ (fun _ _ => rfl)] at rD
    have e1 : (row.map fun m => Dt.bool (takes pcs (uctl m))) = (row.map fun m => takes pcs (uctl m)).map Dt.bool := by rw [List.map_map]; rfl
    rw [e1] at rD
    have e2 := rds_bools rD
    subst e2
    refine tl_nil ?_
    refine' bc_append ?u ?hl ⟨rfl, ?_⟩
    case u => walk_at "upd"
    case hl => rw [sizeLine_eq]; omega
    -- low, high
    have k3 := stays_trans k2 kD
    refine x_cons (x_unpack2C (IsC.env (by assumption)) (Fn.kind (by assumption)) hA.1 rfl rfl rfl rfl rfl rfl ?_)
    refine e_tupF rfl ?_
    refine tl_cons ?_
    ((refine e_call rfl ?_; (((with_reducible refine' glob_fn ?f_787 ?k_787 ?e_787 ?d_787 ?_); (case f_787 => assumption); (case k_787 => (exact IsC.kind (by assumption) rfl)); (case e_787 => (refine IsC.glob (by assumption) ?_; k_is)); (case d_787 => decide +kernel))); refine ⟨_, rfl, kp_fn (IsC.keep (by assumption) (by k_is)), ?_⟩))
    refine tl_cons (e_item ?_)
    (repeat (walk_at "ev"))
    refine it_listI (.inr (iBg.keeps k3)) gB (by rw [hml]; omega) ?_
    refine tl_nil ?_
    refine c_fun (hC.fn (f_place prog w)) (hA.le (by decide)) mono_const ⟨_, rfl, rfl⟩ fun a1 hbE kE rE => ?_
    obtain ⟨Lo, eLo, iLo⟩ := rd_place rE
    subst eLo
    refine tl_cons ?_
    ((refine e_call rfl ?_; (((with_reducible refine' glob_fn ?f_791 ?k_791 ?e_791 ?d_791 ?_); (case f_791 => assumption); (case k_791 => (exact IsC.kind (by assumption) rfl)); (case e_791 => (refine IsC.glob (by assumption) ?_; k_is)); (case d_791 => decide +kernel))); refine ⟨_, rfl, kp_fn (IsC.keep (by assumption) (by k_is)), ?_⟩))
    refine tl_cons (e_item ?_)
    (repeat (walk_at "ev"))
    refine it_listI (.inr ((iSt.keeps k3).keeps kE)) gS (by rw [hml]; omega) ?_
    refine tl_nil ?_
    refine c_fun (hC.fn (f_place prog w)) (hA.le (by decide)) mono_const ⟨_, rfl, rfl⟩ fun a2 hbF kF rF => ?_
    obtain ⟨Hi, eHi, iHi⟩ := rd_place rF
    subst eHi
    refine tl_nil ⟨by ((rw [sizeLine_eq]; first | decide | (simp only [List.length_cons, List.length_nil]; omega) | omega)), fun tp hbG kG nG iG => ?_⟩
    refine StoC2.mk tp _ _ rfl (.inr iG) _ _ _ _ (by walk_at "upd") (by walk_at "upd") ?_
    dsimp only
    have iLo' := (iLo.keeps kF).keeps kG
    have iHi' := iHi.keeps kG
    clear rE rF iLo iHi iG nG rD
    have k4 := stays_trans k3 (stays_trans kE (stays_trans kF kG))
    -- due.append
    have lPl : (pls.map Av.ref).length = row.length := by rw [List.length_map, hpl]
    refine x_cons (x_expr (e_meth meth_append rfl ?_) hF.kind)
    (((with_reducible refine' loc_name ?f_795 ?k_795 ?m_795 ?d_795 ?_); (case f_795 => (exact Fn.kind (by assumption))); (case m_795 => walk_at "mem"); (case k_795 => (exact IsC.kind (by assumption) rfl)); (case d_795 => decide +kernel)))
    refine ⟨of_list (.inl (by walk_at "mem")), ?_⟩
    refine tl_cons ?_
    refine e_comp (IsC.env (by assumption)) rfl (by decide +kernel) rfl (by decide +kernel) (fun _ => rfl) ?_
    (((with_reducible refine' loc_name ?f_798 ?k_798 ?m_798 ?d_798 ?_); (case f_798 => (exact Fn.kind (by assumption))); (case m_798 => walk_at "mem"); (case k_798 => (exact IsC.kind (by assumption) rfl)); (case d_798 => decide +kernel)))
    refine ⟨_, _, _, _, ["place"], _, fun _ => true, fun q => .bool (between (bg bx / 128 % 2) (isCtl (bg bx)) (pval (bg bx)) (pval (st93 sx)) (row.getD q 0 / 128 % 2) (isCtl (row.getD q 0)) (pval (row.getD q 0)) (decide (bar = [33]))), src_list (.inr (i12.keeps k4)) (by rw [lPl]; ((rw [sizeLine_eq]; first | decide | (simp only [List.length_cons, List.length_nil]; omega) | omega))) hA.1, names_one,
      ⟨by decide +kernel, fun C' Lc hin => ?_, fun C' Lc D' q hb' acc hin hq k kp => ?_⟩, fun D2 hbH as2 kH nH iH rH => ?_⟩
    · exact ⟨(hin.fn rfl hF).kind, (hin.is hC).kind rfl⟩
    · have hC' := hin.is hC
      have hF' := hin.fn rfl hF
      have hA' := hin.ok hA
      rw [lPl] at hq
      have hq' : q < pls.length := by omega
      have e3 : (pls.map Av.ref).getD q .none = .ref pls[q] := by
        rw [List.getD_eq_getElem?_getD, List.getElem?_map, List.getElem?_eq_getElem hq']; rfl
      rw [e3]
      have iX := ((hpg q _ (List.getElem?_eq_getElem hq')).keeps k4).keeps k
      have hcH : CellIn hb' (L + 1 + 1 + 1 + 1) (.ref Hi) := cellin_of (kp (L + 1 + 1 + 1 + 1) _ (by walk_at "mem"))
      have hcL : CellIn hb' (L + 1 + 1 + 1) (.ref Lo) := cellin_of (kp (L + 1 + 1 + 1) _ (by walk_at "mem"))
      have hcB : CellIn hb' (L + 1) (.str (S bar)) := cellin_of (kp (L + 1) _ (by walk_at "mem"))
      refine ct_nil ⟨rfl, rfl, fun _ => ?_⟩
      ((refine e_call rfl ?_; (((with_reducible refine' glob_fn ?f_803 ?k_803 ?e_803 ?d_803 ?_); (case f_803 => assumption); (case k_803 => (exact IsC.kind (by assumption) rfl)); (case e_803 => (refine IsC.glob (by assumption) ?_; k_is)); (case d_803 => decide +kernel))); refine ⟨_, rfl, kp_fn (IsC.keep (by assumption) (by k_is)), ?_⟩))
      refine tl_cons ?_
      (((with_reducible refine' free_name ?f_805 ?k_805 ?c_805 ?m_805 ?d_805 ?e_805 ?_); (case f_805 => (exact Fn.kind (by assumption))); (case k_805 => exact Or.inr (IsC.kind (by assumption) rfl)); (case c_805 => (rw [IsC.env (by assumption)]; rfl)); (case m_805 => assumption); (case d_805 => decide +kernel); (case e_805 => decide +kernel)))
      refine tl_cons ?_
      (((with_reducible refine' free_name ?f_807 ?k_807 ?c_807 ?m_807 ?d_807 ?e_807 ?_); (case f_807 => (exact Fn.kind (by assumption))); (case k_807 => exact Or.inr (IsC.kind (by assumption) rfl)); (case c_807 => (rw [IsC.env (by assumption)]; rfl)); (case m_807 => assumption); (case d_807 => decide +kernel); (case e_807 => decide +kernel)))
      (repeat (walk_at "ev"))
      (((with_reducible refine' free_name ?f_810 ?k_810 ?c_810 ?m_810 ?d_810 ?e_810 ?_); (case f_810 => (exact Fn.kind (by assumption))); (case k_810 => exact Or.inr (IsC.kind (by assumption) rfl)); (case c_810 => (rw [IsC.env (by assumption)]; rfl)); (case m_810 => assumption); (case d_810 => decide +kernel); (case e_810 => decide +kernel)))
      (repeat (walk_at "ev"))
      rw [lit_bang, S1_beq]
      exact c_funI (hC'.fn (f_between prog w)) (hA'.le (by decide)) PBet.mono ⟨Lo, Hi, pls[q], _, _, _, _, _, _, _, _, _, _, rfl, iLo'.keeps k, iHi'.keeps k, iX, rfl⟩ rfl ⟨hb', stays_refl _, rfl, rd_bool⟩
    rw [lPl, rng_map row 0 (fun m => Dt.bool (between (bg bx / 128 % 2) (isCtl (bg bx)) (pval (bg bx)) (pval (st93 sx)) (m / 128 % 2) (isCtl m) (pval m) (decide (bar = [33])))) _ (fun _ _ => rfl)] at rH
    have e3 : (row.map fun m => Dt.bool (between (bg bx / 128 % 2) (isCtl (bg bx)) (pval (bg bx)) (pval (st93 sx)) (m / 128 % 2) (isCtl m) (pval m) (decide (bar = [33])))) = (row.map fun m => takes pcs (uctl m)).map Dt.bool := by
      rw [List.map_map]
      exact List.map_congr_left fun m _ => by rw [Function.comp_apply, hplain m]
    rw [e3] at rH
    have e4 := rds_bools rH
    subst e4
    refine tl_nil ?_
    refine' bc_append ?u ?hl ⟨rfl, ?_⟩
    case u => walk_at "upd"
    case hl => rw [sizeLine_eq]; omega
    (repeat (refine x_nil ?_))
    have kend := stays_trans kA (stays_trans kB (stays_trans kD (stays_trans kE (stays_trans kF (stays_trans kG kH)))))
    refine ⟨_, _, _, rfl, ?_⟩
    refine .mk _ _ _ (ts ++ [D1]) (ds ++ [D2]) (bs ++ [row.map fun m => takes pcs (uctl m)]) _ _ _ tb2 (stays_trans k1 kend) ?_ ((htd.keeps kend).snoc ?_ iH) (by rw [List.length_append, hn]; rfl) (by dsimp only [lawHp]; rw [List.map_append, List.map_append]; rfl)
    · exact tn2.keeps (stays_trans kB (stays_trans kD (stays_trans kE (stays_trans kF (stays_trans kG kH)))))
    · exact (((iD.keeps kE).keeps kF).keeps kG).keeps kH

theorem plain_g {P : Params} {h : Heap} {tabs : List (Addr × Addr)} {a : Addr} {vs : List Value} {ns : List Int} {l : List PyData} (w1 : Well P h (.ref a) (ofPy (PyData.list l))) (lifted : (ghostOf h tabs).IsList a vs.toArray) (hI : IntsAre vs ns) :
    ∃ (vs : List Value) (n : Nat), (ghostOf h tabs).get? a = some { cls := .type "list", data := .seq vs.toArray n } ∧ IntsAre vs ns := by
  obtain ⟨o, ho, _, n, hd⟩ := lifted
  have hh := of_hideAll _ ho
  have e : ofPy (PyData.list l) = .list (ofPys l) := rfl
  rw [e] at w1
  cases w1 with
  | list g _ =>
    rw [hh] at g
    cases g
    cases hd
    exact ⟨vs, _, ho, hI⟩
theorem avs_of_ints : ∀ {vs : List Value} {ns : List Int}, IntsAre vs ns → Avs (ns.map .int) vs := by
  intro vs ns h
  induction h with
  | nil => exact .nil
  | cons _ t _ ih => exact .cons ⟨_, rfl⟩ ih
/-- the law's contract answers the claim -/
theorem end_law {cw : ClaimW} {cl : Str → Option Addr} {mean : ExcName → Option Value} {args : List WData} {s₁ : Shared} {w : World} {prog p : Program} {K : Frag} {lo : List Str} {mn : ExcName → Option Value} {mg mb : Str → Option Value} {c a : Addr} {vs : List Value} {ns : List Int} {l : List PyData} {P : Params}
    (F : FunT prog w K 57 lamPos lamQ 145 9 PLaw) (X : K.In s₁.heap) (hK : noTabs K = true) (T : Top p lo mn mg mb s₁.heap) (hT : TabsAt [(c, 57)] s₁.heap) (hl : s₁.heap.IsList a vs.toArray) (w1 : Well P s₁.heap (.ref a) (ofPy (PyData.list l))) (hI : IntsAre vs ns) (hlen : ns.length ≤ 63)
    (hg : s₁.gens = #[]) (hr : ∀ cls, cw.raises args cls = false) (hpost : cw.post args (.bool true) args = true) :
    wpAny (model prog w) callerA (call (.ref 145) [.ref a] []) (fun v s' => GoodWG cw cl mean args s₁ (.ok (.ret v)) s') (fun e s' => GoodWG cw cl mean args s₁ (.error e) s') s₁ := by
  have X' : K.In (hideAll s₁.heap [57]) := ghost_K hT X hK
  have T' := ghost_top hT T
  obtain ⟨us, n, e1, e2⟩ := plain_g (tabs := [(c, 57)]) w1 (ghost_list hT hl) hI
  have gT : s₁.heap.get? 57 = some (tabObj #[]) := (hT _ (.head _)).2
  refine wpAny_mono (F callerA s₁ [.ref a] [.ref a] (.bool true) #[] ⟨rfl, by show callerA.depth + 9 ≤ 900; decide, by show callerA.units + 10 * 9 ≤ 9000; decide⟩ ⟨X', _, _, _, _, topRead_of T', T'.bmain⟩ (.cons rfl .nil) gT ⟨trivial, fun cv e => by cases e⟩ ⟨a, ns, rfl, ⟨_, e1, us, n, rfl, avs_of_ints e2⟩, hlen, rfl⟩) (fun v s' H_ => ?_) fun _ _ x => x.elim
  obtain ⟨b, ps', hb, k, gT', _, r, g, o⟩ := H_
  obtain rfl := rd_bool_inv r
  have hv : v = .bool true := hb
  subst hv
  have ne : ∀ b, b ≠ 57 → b ∉ [57] := fun b h q => h (List.mem_singleton.mp q)
  refine ⟨.inl ⟨.bool true, .bool true, [], rfl, hr, .bool true, hpost, fun _ => ⟨List.nodup_nil, fun a h => by cases h⟩⟩, ⟨fun b ob e => ?_, fun b ob e => ?_⟩, o, g (by rw [hg]; exact .empty)⟩
  · by_cases hb : b = 57
    · subst hb
      rw [gT] at e
      cases e
      exact .inr (.inl ⟨((hT _ (.head _)).1.tab gT).isCodeTable, rfl, #[], ps', rfl, by rw [Array.empty_append]; exact gT'⟩)
    · exact .inl (k b ob (hideAll_get _ e (ne b hb)))
  · by_cases hb : b = 57
    · subst hb
      exact ⟨_, gT'⟩
    · exact ⟨_, k b ob (hideAll_get _ e (ne b hb))⟩
theorem law_at {K : Frag} {h : Heap} {mg : Str → Option Value} {fa : Addr} {n : Str} (X : K.In h) (G : h.Ns mainGlobals mg) (e : nsIn K mainGlobals n = some (some (.ref 145))) (hmg : mg n = some (.ref fa)) : fa = 145 := by
  have := mg_of X G e
  rw [hmg] at this
  cases this
  rfl
theorem last : PySem.Challenge.rw_ij0091_02.Holds := Mine.hd (by
  k_fill
  intro w s₀ s₁ mg mb G Y fa o pm cd doc dV kV ho hd hcd hD hmg hg args vals as hpre hlay hrd hwl hlo
  have KX := km_in_of Y
  km_tabs Y
  refine Ground.open G ?_
  intro T B D TE TW
  have hfa : fa = 145 := law_at (n := Str.ofString "law") KX (Top.g T) (by k_is) hmg
  subst hfa
  km_lay T hmg ho hd cd
  clear hd hmg ho hcd hD B D TE TW
  wrow_args hpre hlay hrd hwl hlo
  refine end_law (f_law _ _) KX (by kernel_rfl) T hT9 (by assumption) (by assumption) (by assumption) (by omega) hg (fun _ => rfl) ?_
  first | rfl | with_unfolding_all rfl | kernel_rfl)

end Mine
theorem PySem.Challenge.cw_ij0091_02_holds : PySem.Challenge.rw_ij0091_02.Holds :=
  Mine.last
