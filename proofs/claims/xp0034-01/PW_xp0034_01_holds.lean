import PyProof.Rows.All
import Wide.All
import OpenK.AllK
import Wide.FinOn
import PySem.Challenge.RW_xp0034_01
open PySem PySem.W PyProof.Rows
set_option Elab.async false

section
open PySem PySem.Calls PyProof.Rows PySem.W
set_option Elab.async false
set_option maxRecDepth 100000
namespace Mine
local macro_rules | `(tactic| o_head $h) => `(tactic| exact False.elim (by assumption))
set_option maxHeartbeats 8000000
/-- not a step of the proof, and used for nothing but its by-product: the kit's own tactic lays the objects that the text's top makes as one constant, `d.heap_1` (what they are is proved in `left`, out of the model's run) -/
theorem d (hf : False) : PySem.Challenge.rw_xp0034_01.row.Holds := by
  x_head
end Mine
end

section
open PySem PySem.Calls PyProof.Rows PySem.W
set_option Elab.async false
set_option maxRecDepth 100000
namespace Mine
/-- the view of the text that the head takes: its statements but the four that read an attribute at the top -/
noncomputable def qv : Program := view PySem.Challenge.pw_xp0034_01 [0, 2, 3, 4, 5, 7, 8, 9, 10, 12, 13, 14, 15, 17, 18, 19, 20, 21, 22, 23, 24]
noncomputable def lo : List PySem.Str := [PySem.Str.ofString "_Accumulator"]
/-- the addresses of the fragment's objects -/
noncomputable def KA : List Addr := [0, 1, 2, 3, 4, 5, 6, 7, 8, 9, 10, 11, 12, 13, 14, 15, 16, 17, 18, 19, 20, 21, 29, 30, 31, 32, 33, 34, 35, 36, 37, 38, 39, 40, 41, 42, 43, 44, 45, 46, 47, 48, 49, 50, 51, 52, 53, 54, 55, 56, 57, 58, 59, 60, 61, 62, 63, 64, 65, 66, 67, 68, 69, 70, 71, 72, 73, 74, 75, 76, 77, 78, 79, 80, 81, 82, 83, 84, 85, 86, 87, 88, 89, 90, 91, 92, 93, 94, 95, 96, 99, 102, 107, 108, 109, 110, 111, 112, 113, 114, 115, 116, 117, 118, 119, 120, 121, 122, 123, 124, 125, 126, 127, 128, 129, 130, 131, 132, 133, 134, 135, 136, 137, 138, 139, 140, 141, 142, 143, 144, 145, 146, 147, 148, 149, 150, 151, 152, 153, 154, 155, 156, 157, 158, 159, 160, 161, 162, 163, 164, 165, 166, 167, 168, 169, 170, 171, 172, 173, 174, 175, 176, 177, 178, 179, 180, 183, 184, 185, 186, 187, 188, 189, 190, 191, 192, 193, 194, 195, 196, 197, 198, 199, 200, 201, 202, 203, 204, 205, 206, 207, 208, 209, 210, 211, 212, 213, 214, 215, 216, 217, 218, 219, 220, 221, 222, 223, 224, 225, 226, 227, 228, 229, 230, 231, 232, 233, 234, 235, 236, 237, 238, 239, 240, 241, 242, 243, 244, 245, 246, 247, 248, 249, 250, 251, 252, 253, 254, 255, 256, 257, 258, 259, 260, 261, 262, 263, 264, 265, 266, 267, 268, 269, 270, 271, 272, 273, 274, 275, 276, 277, 278, 279, 280, 281, 282, 283, 284, 285, 286, 287, 288]
theorem KA_ok : ∀ P, KA = (d.heap_1 P).map (·.1) := fun P => by kernel_rfl
noncomputable abbrev KH : Hook := kHook d.heap_1 KA KA_ok
noncomputable abbrev xt (s : Shared) : Bool := xlAt qv [] s && recOk (RowW.records (PySem.Challenge.rw_xp0034_01.row.toRowW)) s
set_option maxHeartbeats 8000000 in
/-- the run of the text's top, whole: the kernel evaluates it -/
theorem left : LeftO PySem.Challenge.pw_xp0034_01 qv lo xt KH.obs KH.val 3262 := fun w => by
  unfold openEnds fencedOpening topFrom
  rw [PySem.W.Fast.te10274390034422433532, PySem.W.Fast.te1435165496053646825, PySem.W.Fast.te14082659384304107361, PySem.W.Fast.te4187177175401517315, PySem.W.Fast.te14364793385576792824]
  kernel_rfl
set_option maxHeartbeats 8000000 in
theorem said_ok : PySem.Challenge.rw_xp0034_01.wellSaid = true := by
  unfold OpenLaw.wellSaid
  rw [Fast.te17960256430627541270, Fast.te2368527892694137696, Fast.te10501279942588096481, Fast.te8179353310426384613, Fast.te8326940854005059898, Fast.te797321630700447069, Fast.te9572597257264208301, Fast.te9558739934217749035, Fast.te16286561074155671207, Fast.named_eq, Fast.te6984425678791042302, Fast.te12879404354523853263, Fast.te482687673346738481, Fast.te17119622794617984870, Fast.te10792542408131684335]
  kernel_rfl
theorem opens_ok : (chainsOk qv && opensWell PySem.Challenge.rw_xp0034_01.row.prog && (frees PySem.Challenge.rw_xp0034_01.row.toRowW && PySem.Challenge.rw_xp0034_01.row.within.isEmpty)) = true := by
  decide +kernel
theorem bare_ok : PySem.Challenge.rw_xp0034_01.row.prog.bare := ⟨rfl, rfl, rfl, rfl, rfl, by decide +kernel⟩
end Mine
end

section
open PySem PySem.Calls PyProof.Rows PySem.W
set_option Elab.async false
set_option maxRecDepth 100000
set_option linter.unusedVariables false
namespace Mine
noncomputable abbrev PG : Program := PySem.Challenge.pw_xp0034_01
noncomputable section
noncomputable abbrev KK : Params → Frag := d.heap_1
/-- the two code tables that a first call fills (of _Accumulator.__len__ and of its __str__) -/
noncomputable abbrev T1 : Addr := 140
noncomputable abbrev T2 : Addr := 147
noncomputable def KO (P : Params) (a : Addr) : Option Obj := (KK P).lookup a

/-- the tables' states -/
noncomputable def TabAt (h : Heap) (t c : Addr) (ln cl : Int) : Prop :=
  ∃ ps, h.TableAt c t ps ∧ h.IsCode c t ps ∧ (ps = #[] ∨ ∃ c', ps = #[rawInt ln, rawInt cl, .ref c'])

structure Inv (w : World) (s : Shared) : Prop where
  K : ∀ a o, a ≠ T1 → a ≠ T2 → KO w.params a = some o → s.heap.get? a = some o
  t1 : TabAt s.heap T1 144 95 19
  t2 : TabAt s.heap T2 151 98 32
  bare : AllBare s.gens

structure Gr (s s' : Shared) : Prop where
  keep : ∀ b o, s.heap.get? b = some o → b ≠ T1 → b ≠ T2 → s'.heap.get? b = some o
  gens : ∀ (i : Nat) x, s.gens[i]? = some x → s'.gens[i]? = some x
  os : s'.os = s.os

theorem Gr.refl (s : Shared) : Gr s s := ⟨fun _ _ e _ _ => e, fun _ _ e => e, rfl⟩
theorem Gr.trans {a b c : Shared} (x : Gr a b) (y : Gr b c) : Gr a c :=
  ⟨fun k o e h1 h2 => y.keep k o (x.keep k o e h1 h2) h1 h2, fun i z e => y.gens i z (x.gens i z e), y.os.trans x.os⟩

/-- a heap above another -/
noncomputable def Sub (g h : Heap) : Prop := ∀ b o, g.get? b = some o → h.get? b = some o
theorem Sub.refl (g : Heap) : Sub g g := fun _ _ e => e
theorem Sub.trans {a b c : Heap} (x : Sub a b) (y : Sub b c) : Sub a c := fun k o e => y k o (x k o e)

structure VP where
  p : Heap → Value → Prop
  st : ∀ g g' v, Sub g g' → p g v → p g' v

noncomputable def vInt (i : Int) : VP := ⟨fun _ v => ∃ t, v = .int i t, fun _ _ _ _ h => h⟩
noncomputable def vStr (x : Str) : VP := ⟨fun _ v => ∃ t, v = .str x t, fun _ _ _ _ h => h⟩
noncomputable def vBool (b : Bool) : VP := ⟨fun _ v => v = .bool b, fun _ _ _ _ h => h⟩
noncomputable def vNone : VP := ⟨fun _ v => v = .none, fun _ _ _ _ h => h⟩
noncomputable def vIs (u : Value) : VP := ⟨fun _ v => v = u, fun _ _ _ _ h => h⟩

noncomputable def All2 (g : Heap) : List VP → List Value → Prop
  | [], [] => True
  | p :: ps, v :: vs => p.p g v ∧ All2 g ps vs
  | _, _ => False
theorem All2.st {g g' : Heap} (hs : Sub g g') : ∀ {ps : List VP} {vs : List Value}, All2 g ps vs → All2 g' ps vs
  | [], [], _ => trivial
  | p :: _, v :: _, ⟨a, b⟩ => ⟨p.st g g' v hs a, All2.st hs b⟩
  | [], _ :: _, h => h.elim
  | _ :: _, [], h => h.elim
theorem All2.length {g : Heap} : ∀ {ps : List VP} {vs : List Value}, All2 g ps vs → vs.length = ps.length
  | [], [], _ => rfl
  | _ :: _, _ :: _, ⟨_, b⟩ => by simp [All2.length b]
  | [], _ :: _, h => h.elim
  | _ :: _, [], h => h.elim
theorem All2.get {g : Heap} : ∀ {ps : List VP} {vs : List Value}, All2 g ps vs → ∀ {i : Nat} {p : VP}, ps[i]? = some p → ∃ v, vs[i]? = some v ∧ p.p g v
  | p :: _, v :: _, ⟨a, _⟩, 0, _, h => by cases h; exact ⟨v, rfl, a⟩
  | _ :: _, _ :: _, ⟨_, b⟩, i + 1, _, h => b.get (by simpa using h)
  | [], [], _, _, _, h => by simp at h
  | [], _ :: _, h, _, _, _ => h.elim
  | _ :: _, [], h, _, _, _ => h.elim
theorem All2.append {g : Heap} : ∀ {ps qs : List VP} {vs us : List Value}, All2 g ps vs → All2 g qs us → All2 g (ps ++ qs) (vs ++ us)
  | [], _, [], _, _, h => h
  | _ :: _, _, _ :: _, _, ⟨a, b⟩, h => ⟨a, All2.append b h⟩
  | [], _, _ :: _, _, h, _ => h.elim
  | _ :: _, _, [], _, h, _ => h.elim

noncomputable def vSeq (T : String) (ps : List VP) : VP :=
  ⟨fun g v => ∃ a o n vs, v = .ref a ∧ g.get? a = some o ∧ o.cls = .type T ∧ o.data = .seq vs n ∧ All2 g ps vs.toList,
   fun _ _ _ hs ⟨a, o, n, vs, e, ho, hc, hd, hA⟩ => ⟨a, o, n, vs, e, hs _ _ ho, hc, hd, hA.st hs⟩⟩
noncomputable def vList (ps : List VP) : VP := vSeq "list" ps
noncomputable def vTup (ps : List VP) : VP := vSeq "tuple" ps

/-- the names' kinds and what they hold -/
structure EnvAt (env : Env) (h : Heap) (lm cm : Str → Option Value) : Prop where
  ns : h.Ns env.locals lm
  cell : ∀ n c, env.cells.lookup n = some c → h.IsCell c (cm n)
  off : ∀ n c, (n, c) ∈ env.cells → c ≠ env.locals
  apart : ∀ n c n' c', (n, c) ∈ env.cells → (n', c') ∈ env.cells → c = c' → n = n'

noncomputable def valOf (env : Env) (lm cm : Str → Option Value) (x : Str) : Option Value := match env.kindOf x with
  | some .local => lm x
  | some .cell => if (env.cells.lookup x).isSome then cm x else none
  | some .free => if (env.cells.lookup x).isSome then cm x else none
  | _ => none

noncomputable abbrev Ctxt := List (Str × VP)
noncomputable def Has (env : Env) (Γ : Ctxt) (lm cm : Str → Option Value) (g : Heap) : Prop := ∀ x p, (x, p) ∈ Γ → ∃ v, valOf env lm cm x = some v ∧ p.p g v
theorem Has.st {env : Env} {Γ : Ctxt} {lm cm : Str → Option Value} {g g' : Heap} (H : Has env Γ lm cm g) (hs : Sub g g') : Has env Γ lm cm g' := fun x p m => by
  obtain ⟨v, e, h⟩ := H x p m
  exact ⟨v, e, p.st _ _ _ hs h⟩

structure Bel (X : List Addr) (s : Shared) : Prop where
  ex : ∀ x ∈ X, ∃ o, s.heap.get? x = some o
  a : T1 ∈ X
  b : T2 ∈ X
theorem TabAt.ex {h : Heap} {t c : Addr} {a b : Int} (x : TabAt h t c a b) : (∃ o, h.get? c = some o) ∧ ∃ o, h.get? t = some o := by
  obtain ⟨ps, h1, h2, h3⟩ := x
  obtain ⟨o, vs, file, tf, flags, tg, inF, text, tt, op, a, r1, r2, r3, r4, r5, r6, b, r⟩ := h2
  exact ⟨⟨_, a⟩, ⟨_, b⟩⟩
theorem Bel.gr {w : World} {X : List Addr} {s s' : Shared} (B : Bel X s) (I : Inv w s') (G : Gr s s') : Bel X s' := by
  refine ⟨fun x hx => ?_, B.a, B.b⟩
  by_cases h1 : x = T1
  · subst h1; exact I.t1.ex.2
  · by_cases h2 : x = T2
    · subst h2; exact I.t2.ex.2
    · obtain ⟨o, ho⟩ := B.ex x hx
      exact ⟨o, G.keep _ _ ho h1 h2⟩
theorem Bel.ne {X : List Addr} {s : Shared} (B : Bel X s) {a : Addr} (h : s.heap.get? a = none) : a ∉ X := fun m => by
  obtain ⟨o, ho⟩ := B.ex a m
  rw [h] at ho; cases ho
theorem new_none (h : Heap) : h.get? h.objs.size = none := Heap.get?_none_of_le (Nat.le_refl _)
theorem Gr.absent {w : World} {s s' : Shared} (G : Gr s s') (I' : Inv w s') {a : Addr} (h : s'.heap.get? a = none) : s.heap.get? a = none := by
  cases q : s.heap.get? a with
  | none => rfl
  | some o =>
    exfalso
    by_cases h1 : a = T1
    · subst h1; obtain ⟨o', ho⟩ := I'.t1.ex.2; rw [h] at ho; cases ho
    · by_cases h2 : a = T2
      · subst h2; obtain ⟨o', ho⟩ := I'.t2.ex.2; rw [h] at ho; cases ho
      · have := G.keep _ _ q h1 h2; rw [h] at this; cases this
theorem hid_sub {X : List Addr} {s s' : Shared} (B : Bel X s) (G : Gr s s') : Sub (hideAll s.heap X) (hideAll s'.heap X) := fun b o e => by
  have nb : b ∉ X := fun m => by rw [hideAll_none X m] at e; cases e
  exact hideAll_get X (G.keep b o (of_hideAll X e) (fun q => nb (q ▸ B.a)) (fun q => nb (q ▸ B.b))) nb
theorem hid_mono {X Y : List Addr} {h : Heap} (hs : ∀ x ∈ X, x ∈ Y) : Sub (hideAll h Y) (hideAll h X) := fun b o e => by
  have nb : b ∉ Y := fun m => by rw [hideAll_none Y m] at e; cases e
  exact hideAll_get X (of_hideAll Y e) fun m => nb (hs b m)
/-- new addresses hidden besides: nothing old is lost -/
theorem hid_new {X Y : List Addr} {h h' : Heap} (hk : ∀ b o, h.get? b = some o → b ∉ X → h'.get? b = some o) (hs : ∀ y ∈ Y, y ∈ X ∨ h.get? y = none) : Sub (hideAll h X) (hideAll h' Y) := fun b o e => by
  have nb : b ∉ X := fun m => by rw [hideAll_none X m] at e; cases e
  have e' := of_hideAll X e
  refine hideAll_get Y (hk b o e' nb) fun m => ?_
  rcases hs b m with q | q
  · exact nb q
  · rw [q] at e'; cases e'

/-- room for n calls, one within another -/
structure Rm (A : Around) (n : Nat) : Prop where
  h : A.handled = none
  d : A.depth + n < recursionLimit
  u : A.units + 10 * n < cLine

theorem Rm.mono {A : Around} {n m : Nat} (x : Rm A n) (h : m ≤ n) : Rm A m := ⟨x.h, by have := x.d; omega, by have := x.u; omega⟩
theorem Rm.in1 {A : Around} {n : Nat} (x : Rm A (n + 1)) : Rm A.in1 n := ⟨x.h, by have := x.d; show A.depth + n < _; omega, by have := x.u; show A.units + 1 + 10 * n < _; omega⟩
theorem Rm.deeper {A : Around} {n : Nat} {env : Env} (x : Rm A (n + 1)) : Rm (A.deeper env) n := ⟨x.h, by have := x.d; show A.depth + 1 + n < _; omega, by have := x.u; show A.units + 3 + 10 * n < _; omega⟩

noncomputable def Ev (w : World) (A : Around) (X : List Addr) (env : Env) (Γ : Ctxt) (e : Expr) (p : VP) : Prop :=
  ∀ (s : Shared) (lm cm : Str → Option Value) (E : Value → Shared → Prop) (Q : Value → Shared → Prop), Inv w s → Bel X s → EnvAt env s.heap lm cm → Has env Γ lm cm (hideAll s.heap X) →
    (∀ v s', Inv w s' → Gr s s' → p.p (hideAll s'.heap X) v → Q v s') → wpAny (model PG w) A (eval e env) Q E s

theorem ns_ne {h : Heap} {L t c : Addr} {lm : Str → Option Value} {a b : Int} (N : h.Ns L lm) (T : TabAt h t c a b) : L ≠ t := by
  rintro rfl
  obtain ⟨o, es, ep, ho, hd, _⟩ := N
  obtain ⟨ps, ht, _⟩ := T
  have := ht.2
  rw [ho] at this
  cases this
  cases hd
theorem cell_ne {h : Heap} {L t c : Addr} {v : Option Value} {a b : Int} (N : h.IsCell L v) (T : TabAt h t c a b) : L ≠ t := by
  rintro rfl
  obtain ⟨o, ho, hd⟩ := N
  obtain ⟨ps, ht, _⟩ := T
  have := ht.2
  rw [ho] at this
  cases this
  cases hd
theorem EnvAt.gr {w : World} {env : Env} {s s' : Shared} {lm cm : Str → Option Value} (V : EnvAt env s.heap lm cm) (I : Inv w s) (G : Gr s s') : EnvAt env s'.heap lm cm := by
  refine ⟨?_, fun n c e => ?_, V.off, V.apart⟩
  · have h1 := ns_ne V.ns I.t1
    have h2 := ns_ne V.ns I.t2
    obtain ⟨o, es, ep, ho, r⟩ := V.ns
    exact ⟨o, es, ep, G.keep _ _ ho h1 h2, r⟩
  · have x := V.cell n c e
    have h1 := cell_ne x I.t1
    have h2 := cell_ne x I.t2
    obtain ⟨o, ho, r⟩ := x
    exact ⟨o, G.keep _ _ ho h1 h2, r⟩

theorem Has.gr {env : Env} {Γ : Ctxt} {lm cm : Str → Option Value} {X : List Addr} {s s' : Shared} (H : Has env Γ lm cm (hideAll s.heap X)) (B : Bel X s) (G : Gr s s') : Has env Γ lm cm (hideAll s'.heap X) := H.st (hid_sub B G)

/-- tokens alone -/
theorem Inv.tok {w : World} {s : Shared} (I : Inv w s) (t : Nat) : Inv w { s with toks := t } := ⟨I.K, I.t1, I.t2, I.bare⟩
theorem Gr.tok (s : Shared) (t : Nat) : Gr s { s with toks := t } := ⟨fun _ _ e _ _ => e, fun _ _ e => e, rfl⟩

/-- a step that keeps every object (and the generators) -/
theorem TabAt.keeps {h h' : Heap} {t c : Addr} {a b : Int} (x : TabAt h t c a b) (hk : ∀ b o, h.get? b = some o → h'.get? b = some o) : TabAt h' t c a b := by
  obtain ⟨ps, h1, h2, h3⟩ := x
  exact ⟨ps, h1.keeps hk, h2.keeps hk, h3⟩
theorem Inv.keeps {w : World} {s : Shared} {h' : Heap} (I : Inv w s) (t : Nat) (hk : ∀ b o, s.heap.get? b = some o → h'.get? b = some o) : Inv w { s with heap := h', toks := t } :=
  ⟨fun a o h1 h2 e => hk _ _ (I.K a o h1 h2 e), I.t1.keeps hk, I.t2.keeps hk, I.bare⟩
theorem Gr.keeps {s : Shared} {h' : Heap} (t : Nat) (hk : ∀ b o, s.heap.get? b = some o → h'.get? b = some o) : Gr s { s with heap := h', toks := t } :=
  ⟨fun b o e _ _ => hk b o e, fun _ _ e => e, rfl⟩
end
end Mine
end

section
open PySem PySem.Calls PyProof.Rows PySem.W
set_option Elab.async false
set_option maxRecDepth 100000
set_option linter.unusedVariables false
namespace Mine
noncomputable section
variable {w : World} {A : Around} {X : List Addr} {env : Env} {Γ : Ctxt}

/-! ### constants -/
theorem ev_int {i : Int} {k : Nat} {pos : Pos} : Ev w A X env Γ (.Constant (.int i) k pos) (vInt i) :=
  fun s _ _ _ _ I _ _ _ h => wpAny_Constant_int (h _ _ (I.tok _) (Gr.tok s _) ⟨_, rfl⟩)
theorem ev_str {x : Str} {k : Nat} {pos : Pos} : Ev w A X env Γ (.Constant (.str x) k pos) (vStr x) :=
  fun s _ _ _ _ I _ _ _ h => wpAny_Constant_str (h _ _ (I.tok _) (Gr.tok s _) ⟨_, rfl⟩)
theorem ev_bool {b : Bool} {k : Nat} {pos : Pos} : Ev w A X env Γ (.Constant (.bool b) k pos) (vBool b) :=
  fun s _ _ _ _ I _ _ _ h => wpAny_Constant_bool (h _ _ I (Gr.refl s) rfl)
theorem ev_none {k : Nat} {pos : Pos} : Ev w A X env Γ (.Constant .none k pos) vNone :=
  fun s _ _ _ _ I _ _ _ h => wpAny_Constant_none (h _ _ I (Gr.refl s) rfl)

/-! ### names -/
/-- an env of a def of the text's (or of a comprehension in it) -/
structure EnvOk (env : Env) : Prop where
  k : env.scope.kind = .function
  g : env.globals = mainGlobals
  b : env.builtins = builtinsNs

theorem load_val {M : Model} {lm cm : Str → Option Value} {x : Str} {v : Value} {s : Shared} {E : Value → Shared → Prop} {Q : Value → Shared → Prop} (hE : EnvOk env) (V : EnvAt env s.heap lm cm) (hv : valOf env lm cm x = some v)
    (hc : (x == ("__classdict__" : Str)) = false) (h : Q v s) : wpAny M A (loadName env x) Q E s := by
  unfold valOf at hv
  split at hv
  · rename_i e; exact wpAny_loadName_local hE.k e V.ns hv h
  · rename_i e
    split at hv
    · rename_i q
      obtain ⟨c, hc⟩ := Option.isSome_iff_exists.mp q
      exact wpAny_loadName_cell hE.k e hc (hv ▸ V.cell x c hc) h
    · cases hv
  · rename_i e
    split at hv
    · rename_i q
      obtain ⟨c, hcc⟩ := Option.isSome_iff_exists.mp q
      exact wpAny_loadName_free hE.k e hcc (hv ▸ V.cell x c hcc) h hc
    · cases hv
  · cases hv

theorem ev_name {x : Str} {p : VP} {pos : Pos} (hE : EnvOk env) (hx : (x, p) ∈ Γ) (hc : (x == ("__classdict__" : Str)) = false := by rfl) (hd : (x == ("__debug__" : Str)) = false := by rfl) :
    Ev w A X env Γ (.Name x pos) p := fun s lm cm E Q I B V H h => by
  obtain ⟨v, e, hp⟩ := H x p hx
  exact wpAny_Name (load_val hE V e hc (h v s I (Gr.refl s) hp)) hd

noncomputable def dictAt (P : Params) (a : Addr) : Option (Array DictEntry) := match KO P a with | some ⟨_, _, .dict es _, _⟩ => some es | _ => none
noncomputable def strKeysB (es : Array DictEntry) : Bool := es.toList.all fun e => match e.key with | .str .. => true | _ => false
noncomputable def nsK (P : Params) (a : Addr) (x : Str) : Option (Option Value) := match dictAt P a with
  | some es => if strKeysB es then some (nsFind es x) else none
  | none => none
theorem strKeys_of {es : Array DictEntry} (h : strKeysB es = true) : StrKeys es := fun e he => by
  have := List.all_eq_true.mp h e (Array.mem_toList_iff.mpr he)
  cases q : e.key <;> rw [q] at this <;> first | exact ⟨_, _, rfl⟩ | cases this
theorem nsGet_K {M : Model} {a : Addr} {x : Str} {r : Option Value} {s : Shared} {E : Value → Shared → Prop} {Q : Option Value → Shared → Prop} (I : Inv w s) (h1 : a ≠ T1) (h2 : a ≠ T2) (e : nsK w.params a x = some r) (h : Q r s) : wpAny M A (nsGet a x) Q E s := by
  unfold nsK dictAt at e
  split at e
  · rename_i es q
    split at q
    · rename_i c d es' n sl q'
      cases q
      split at e
      · rename_i hk
        cases e
        exact wpAny_nsGet (m := fun y => nsFind es y) ⟨_, es, n, I.K _ _ h1 h2 q', rfl, strKeys_of hk, fun _ => rfl⟩ h
      · cases e
    · cases q
  · cases e
theorem loadGlob_K {M : Model} {x : Str} {v : Value} {s : Shared} {E : Value → Shared → Prop} {Q : Value → Shared → Prop} (hE : EnvOk env) (I : Inv w s) (e : nsK w.params mainGlobals x = some (some v)) (h : Q v s) : wpAny M A (loadGlobal env x) Q E s := by
  unfold loadGlobal
  rw [hE.g]
  refine wpAny_bind (nsGet_K I (by decide) (by decide) e ?_)
  exact wpAny_pure h
theorem loadBi_K {M : Model} {x : Str} {v : Value} {s : Shared} {E : Value → Shared → Prop} {Q : Value → Shared → Prop} (hE : EnvOk env) (I : Inv w s) (e : nsK w.params mainGlobals x = some none) (e' : nsK w.params builtinsNs x = some (some v)) (h : Q v s) : wpAny M A (loadGlobal env x) Q E s := by
  unfold loadGlobal
  rw [hE.g, hE.b]
  refine wpAny_bind (nsGet_K I (by decide) (by decide) e ?_)
  refine wpAny_bind (nsGet_K I (by decide) (by decide) e' ?_)
  exact wpAny_pure h
theorem ev_glob {x : Str} {v : Value} {pos : Pos} (hE : EnvOk env) (hk : env.kindOf x = some .globalImplicit) (e : nsK w.params mainGlobals x = some (some v)) (hd : (x == ("__debug__" : Str)) = false := by rfl) :
    Ev w A X env Γ (.Name x pos) (vIs v) := fun s _ _ _ _ I _ _ _ h => Name_function_global hE.k hk (loadGlob_K hE I e (h v s I (Gr.refl s) rfl)) hd
theorem ev_bi {x : Str} {v : Value} {pos : Pos} (hE : EnvOk env) (hk : env.kindOf x = some .globalImplicit) (e : nsK w.params mainGlobals x = some none) (e' : nsK w.params builtinsNs x = some (some v)) (hd : (x == ("__debug__" : Str)) = false := by rfl) :
    Ev w A X env Γ (.Name x pos) (vIs v) := fun s _ _ _ _ I _ _ _ h => Name_function_global hE.k hk (loadBi_K hE I e e' (h v s I (Gr.refl s) rfl)) hd

/-! ### one expression behind another -/
/-- p's value, with what it was shown of -/
theorem ev_use {e : Expr} {p : VP} (h : Ev w A X env Γ e p) {s : Shared} {lm cm : Str → Option Value} {E : Value → Shared → Prop} {Q : Value → Shared → Prop} (I : Inv w s) (B : Bel X s) (V : EnvAt env s.heap lm cm) (H : Has env Γ lm cm (hideAll s.heap X))
    (k : ∀ v s', Inv w s' → Bel X s' → EnvAt env s'.heap lm cm → Has env Γ lm cm (hideAll s'.heap X) → Gr s s' → p.p (hideAll s'.heap X) v → Q v s') : wpAny (model PG w) A (eval e env) Q E s :=
  h s lm cm E Q I B V H fun v s' I' G hp => k v s' I' (B.gr I' G) (V.gr I G) (H.gr B G) G hp

/-- a list of expressions -/
noncomputable def EvL (w : World) (A : Around) (X : List Addr) (env : Env) (Γ : Ctxt) (es : List Expr) (ps : List VP) : Prop :=
  ∀ (pos : Pos) (s : Shared) (lm cm : Str → Option Value) (E : Value → Shared → Prop) (Q : List Value → Shared → Prop), Inv w s → Bel X s → EnvAt env s.heap lm cm → Has env Γ lm cm (hideAll s.heap X) →
    (∀ vs s', Inv w s' → Gr s s' → All2 (hideAll s'.heap X) ps vs → Q vs s') → wpAny (model PG w) A (spliced (backTo pos (starEach es env))) Q E s
theorem evl_nil : EvL w A X env Γ [] [] := fun _ s _ _ _ _ I _ _ _ h => wpAny_items_nil (h [] s I (Gr.refl s) trivial)
theorem evl_cons {e : Expr} {es : List Expr} {p : VP} {ps : List VP} (h1 : Ev w A X env Γ e p) (h2 : EvL w A X env Γ es ps) (he : ∀ env, starEach (e :: es) env = (false, eval e env) :: starEach es env := by intro _; rfl) :
    EvL w A X env Γ (e :: es) (p :: ps) := fun pos s lm cm E Q I B V H h =>
  wpAny_items_cons (ev_use h1 I B V H fun v s1 I1 B1 V1 H1 G1 hp => h2 pos s1 lm cm E _ I1 B1 V1 H1 fun vs s2 I2 G2 hA =>
    h (v :: vs) s2 I2 (G1.trans G2) ⟨p.st _ _ _ (hid_sub B1 G2) hp, hA⟩) (he env)

/-! ### calls -/
noncomputable def FnOK (w : World) (n : Nat) (f : Addr) (ps : List VP) (r : VP) : Prop :=
  ∀ (X : List Addr) (A : Around) (s : Shared) (R : Result → Shared → Prop) (vs : List Value), Rm A n → Inv w s → Bel X s → All2 (hideAll s.heap X) ps vs →
    (∀ v s', Inv w s' → Gr s s' → r.p (hideAll s'.heap X) v → R (.ok (.ret v)) s') → codeAny (model PG w) A (.call (.ref f) ⟨vs, []⟩) R s

noncomputable def isFnK (P : Params) (f : Addr) : Bool := match KO P f with | some ⟨_, _, .func _, _⟩ => true | _ => false
theorem looks_frame {M : Model} {s : Shared} {f : Addr} (I : Inv w s) (h1 : f ≠ T1) (h2 : f ≠ T2) (e : isFnK w.params f = true) {E : Value → Shared → Prop} {Q : Keeper → Shared → Prop} (h : Q .frame s) : wpAny M A (keeperOf (.ref f)) Q E s := by
  unfold isFnK at e
  split at e
  · rename_i q
    exact wpAny_bind (wpAny_load (I.K _ _ h1 h2 q) (wpAny_pure h))
  · cases e

/-- a call of a def, its arguments told one by one -/
theorem callWith_fn {pos : Pos} {f : Addr} {a : List Expr} {Q : Value → Shared → Prop} {E : Value → Shared → Prop} {s : Shared} {first : List Value} (hf : isFnK w.params f = true) (h1 : f ≠ T1) (h2 : f ≠ T2)
    (h : wpAny (model PG w) A (evalArgs (.ref f) true (backTo pos (starEach a env)) []) (fun v s₁ => Inv w s₁ ∧ wpAny (model PG w) A (call (.ref f) (first ++ v.pos) v.kw) Q E s₁) E s) (hplain : (backTo pos (starEach a env)).any (·.1) = false) :
    wpAny (model PG w) A (callWith pos (.ref f) first (backTo pos (starEach a env)) []) Q E s := by
  unfold callWith
  refine wpAny_bind (wpAny_holding (wpAny_mono h (fun av s₁ h₁ => wpAny_bind (wpAny_standAt ?_)) fun _ _ x => x))
  obtain ⟨I, hc⟩ := h₁
  have hp2 : ((backTo pos (starEach a env)).any (·.1) || ([] : List (Option Str × Sem Value)).any (·.1.isNone)) = false := by rw [hplain]; rfl
  simp only [hp2]
  refine wpAny_bind (looks_frame I h1 h2 hf ?_)
  have tail : ∀ {t : Sem Value}, wpAny (model PG w) A t Q E s₁ → wpAny (model PG w) A (t >>= fun r => holding [r] point >>= fun _ => pure r) Q E s₁ :=
    fun ht => wpAny_bind (wpAny_mono ht (fun r s₂ hr => wpAny_bind (wpAny_holding (wpAny_point (wpAny_pure hr)))) fun _ _ x => x)
  have marked (mk : Value) : wpAny (model PG w) A (callMarked mk (.ref f) (first ++ av.pos) av.kw) Q E s₁ := by unfold callMarked; exact Calls.wpAny_keep hc
  dsimp only
  split
  · exact tail hc
  · exact tail (marked _)

theorem evalArgs_of {f : Value} {pos : Pos} {a : List Expr} {ps : List VP} {s : Shared} {lm cm : Str → Option Value} {E : Value → Shared → Prop} {Q : Args → Shared → Prop} (ha : EvL w A X env Γ a ps) (hplain : (backTo pos (starEach a env)).any (·.1) = false)
    (I : Inv w s) (B : Bel X s) (V : EnvAt env s.heap lm cm) (H : Has env Γ lm cm (hideAll s.heap X))
    (k : ∀ vs s', Inv w s' → Gr s s' → All2 (hideAll s'.heap X) ps vs → Q ⟨vs, []⟩ s') : wpAny (model PG w) A (evalArgs f true (backTo pos (starEach a env)) []) Q E s := by
  have h := ha pos s lm cm E (fun vs s' => Q ⟨vs, []⟩ s') I B V H k
  cases q : backTo pos (starEach a env) with
  | nil =>
    rw [q] at h
    unfold evalArgs
    show wpAny _ A (spliced [] >>= _) Q E s
    refine wpAny_bind (wpAny_mono h (fun vs s' h' => ?_) fun _ _ x => x)
    refine wpAny_bind (wpAny_pure ?_)
    refine wpAny_holding ?_
    exact wpAny_bind (wpAny_pure (wpAny_bind (wpAny_pure (wpAny_pure h'))))
  | cons x r =>
    rw [q] at h hplain
    obtain ⟨b, x⟩ := x
    simp only [List.any_cons, Bool.or_eq_false_iff] at hplain
    obtain ⟨hb, _⟩ := hplain
    subst hb
    exact evalArgs_plain h

theorem call_fn {n : Nat} {f : Addr} {ps : List VP} {r : VP} (C : FnOK w n f ps r) {vs : List Value} {s : Shared} {E : Value → Shared → Prop} {Q : Value → Shared → Prop} (hA : Rm A n) (I : Inv w s) (B : Bel X s) (hv : All2 (hideAll s.heap X) ps vs)
    (k : ∀ v s', Inv w s' → Gr s s' → r.p (hideAll s'.heap X) v → Q v s') : wpAny (model PG w) A (call (.ref f) vs) Q E s :=
  wpAny_call (C X A s _ vs hA I B hv fun v s' I' G hp => k v s' I' G hp)

theorem ev_call {x : Str} {np pos : Pos} {f : Addr} {a : List Expr} {n : Nat} {ps : List VP} {r : VP} (hE : EnvOk env) (hA : Rm A n) (C : FnOK w n f ps r) (ha : EvL w A X env Γ a ps)
    (hk : env.kindOf x = some .globalImplicit) (e : nsK w.params mainGlobals x = some (some (.ref f))) (hf : isFnK w.params f = true) (h1 : f ≠ T1 := by decide) (h2 : f ≠ T2 := by decide)
    (hplain : (backTo pos (starEach a env)).any (·.1) = false := by rfl) (hd : (x == ("__debug__" : Str)) = false := by rfl) :
    Ev w A X env Γ (.Call (.Name x np) a [] pos) r := fun s lm cm E Q I B V H h =>
  wpAny_Call_NameR (Name_function_global hE.k hk (loadGlob_K hE I e (callWith_fn hf h1 h2 (evalArgs_of ha hplain I B V H fun vs s1 I1 G1 hA1 =>
    ⟨I1, call_fn C hA I1 (B.gr I1 G1) hA1 fun v s2 I2 G2 hr => h v s2 I2 (G1.trans G2) hr⟩) hplain)) hd)
end
end Mine
end

section
open PySem PySem.Calls PyProof.Rows PySem.W
set_option Elab.async false
set_option maxRecDepth 100000
set_option linter.unusedVariables false
namespace Mine
noncomputable section
variable {w : World} {A : Around} {X : List Addr} {env : Env} {Γ : Ctxt}

noncomputable def Op2 (w : World) (A : Around) (f : Value → Value → Sem Value) (p q r : VP) : Prop :=
  ∀ (X : List Addr) (s : Shared) (E Q : Value → Shared → Prop) (a b : Value), Inv w s → Bel X s → p.p (hideAll s.heap X) a → q.p (hideAll s.heap X) b →
    (∀ v s', Inv w s' → Gr s s' → r.p (hideAll s'.heap X) v → Q v s') → wpAny (model PG w) A (f a b) Q E s

theorem ev_bin {op : Operator} {l r : Expr} {p q t : VP} {pos : Pos} (hl : Ev w A X env Γ l p) (hr : Ev w A X env Γ r q) (ho : Op2 w A (binaryOp op) p q t) : Ev w A X env Γ (.BinOp l op r pos) t :=
  fun s lm cm E Q I B V H h => wpAny_BinOp (ev_use hl I B V H fun a s1 I1 B1 V1 H1 G1 h1 => ev_use hr I1 B1 V1 H1 fun b s2 I2 B2 V2 H2 G2 h2 =>
    ho X s2 E Q a b I2 B2 (p.st _ _ _ (hid_sub B1 G2) h1) h2 fun v s3 I3 G3 h3 => h v s3 I3 ((G1.trans G2).trans G3) h3)
theorem ev_cmp {op : CmpOp} {l r : Expr} {p q t : VP} {pos : Pos} (hl : Ev w A X env Γ l p) (hr : Ev w A X env Γ r q) (ho : Op2 w A (compareOp op) p q t) (hm : behindInMarks op r = false := by with_unfolding_all rfl) : Ev w A X env Γ (.Compare l [op] [r] pos) t :=
  fun s lm cm E Q I B V H h => wpAny_Compare1 (ev_use hl I B V H fun a s1 I1 B1 V1 H1 G1 h1 => ev_use hr I1 B1 V1 H1 fun b s2 I2 B2 V2 H2 G2 h2 =>
    ho X s2 E Q a b I2 B2 (p.st _ _ _ (hid_sub B1 G2) h1) h2 fun v s3 I3 G3 h3 => h v s3 I3 ((G1.trans G2).trans G3) h3) hm

section ops
theorem op_addI {a b : Int} : Op2 w A (binaryOp .Add) (vInt a) (vInt b) (vInt (a + b)) := by
  rintro X s E Q _ _ I B ⟨t, rfl⟩ ⟨u, rfl⟩ h
  exact add_int (h _ _ (I.tok _) (Gr.tok _ _) ⟨_, rfl⟩)
theorem op_subI {a b : Int} : Op2 w A (binaryOp .Sub) (vInt a) (vInt b) (vInt (a - b)) := by
  rintro X s E Q _ _ I B ⟨t, rfl⟩ ⟨u, rfl⟩ h
  exact sub_int' (h _ _ (I.tok _) (Gr.tok _ _) ⟨_, rfl⟩)
theorem op_modI {a b : Int} (hb : b ≠ 0) : Op2 w A (binaryOp .Mod) (vInt a) (vInt b) (vInt (a.fmod b)) := by
  rintro X s E Q _ _ I B ⟨t, rfl⟩ ⟨u, rfl⟩ h
  exact mod_int' hb (h _ _ (I.tok _) (Gr.tok _ _) ⟨_, rfl⟩)
theorem op_iaddI {a b : Int} : Op2 w A (inplaceOp .Add) (vInt a) (vInt b) (vInt (a + b)) := by
  rintro X s E Q _ _ I B ⟨t, rfl⟩ ⟨u, rfl⟩ h
  exact wpAny_iadd_int (h _ _ (I.tok _) (Gr.tok _ _) ⟨_, rfl⟩)
theorem op_isubI {a b : Int} : Op2 w A (inplaceOp .Sub) (vInt a) (vInt b) (vInt (a - b)) := by
  rintro X s E Q _ _ I B ⟨t, rfl⟩ ⟨u, rfl⟩ h
  exact isub_int (h _ _ (I.tok _) (Gr.tok _ _) ⟨_, rfl⟩)
theorem op_ltI {a b : Int} : Op2 w A (compareOp .Lt) (vInt a) (vInt b) (vBool (decide (a < b))) := by
  rintro X s E Q _ _ I B ⟨t, rfl⟩ ⟨u, rfl⟩ h
  exact wpAny_lt_int (h _ _ I (Gr.refl _) rfl)
theorem op_gtI {a b : Int} : Op2 w A (compareOp .Gt) (vInt a) (vInt b) (vBool (decide (b < a))) := by
  rintro X s E Q _ _ I B ⟨t, rfl⟩ ⟨u, rfl⟩ h
  exact gt_int (h _ _ I (Gr.refl _) rfl)
theorem op_leI {a b : Int} : Op2 w A (compareOp .LtE) (vInt a) (vInt b) (vBool (decide (a ≤ b))) := by
  rintro X s E Q _ _ I B ⟨t, rfl⟩ ⟨u, rfl⟩ h
  exact le_int (h _ _ I (Gr.refl _) rfl)
theorem op_eqI {a b : Int} : Op2 w A (compareOp .Eq) (vInt a) (vInt b) (vBool (a == b)) := by
  rintro X s E Q _ _ I B ⟨t, rfl⟩ ⟨u, rfl⟩ h
  exact eq_int (h _ _ I (Gr.refl _) rfl)
theorem op_neI {a b : Int} : Op2 w A (compareOp .NotEq) (vInt a) (vInt b) (vBool (a != b)) := by
  rintro X s E Q _ _ I B ⟨t, rfl⟩ ⟨u, rfl⟩ h
  exact ne_int (h _ _ I (Gr.refl _) rfl)
theorem op_eqS {x y : Str} : Op2 w A (compareOp .Eq) (vStr x) (vStr y) (vBool (x.cps.toList == y.cps.toList)) := by
  rintro X s E Q _ _ I B ⟨t, rfl⟩ ⟨u, rfl⟩ h
  exact P.eq_str (h _ _ I (Gr.refl _) rfl)
theorem op_neS {x y : Str} : Op2 w A (compareOp .NotEq) (vStr x) (vStr y) (vBool (x.cps.toList != y.cps.toList)) := by
  rintro X s E Q _ _ I B ⟨t, rfl⟩ ⟨u, rfl⟩ h
  exact P.ne_str (h _ _ I (Gr.refl _) rfl)
theorem op_inS {x y : Str} : Op2 w A (compareOp .In) (vStr y) (vStr x) (vBool (Txt.contains x y)) := by
  rintro X s E Q _ _ I B ⟨t, rfl⟩ ⟨u, rfl⟩ h
  exact SB.contains (h _ _ I (Gr.refl _) rfl)

theorem op_addS {x y : Str} (hz : x.length + y.length ≤ sizeLine) : Op2 w A (binaryOp .Add) (vStr x) (vStr y) (vStr (x ++ y)) := by
  rintro X s E Q _ _ I B ⟨t, rfl⟩ ⟨u, rfl⟩ h
  exact SB.add (fun t' k => h _ _ (I.tok _) (Gr.tok _ _) ⟨_, rfl⟩) hz
theorem op_iaddS {x y : Str} (hz : x.length + y.length ≤ sizeLine) : Op2 w A (inplaceOp .Add) (vStr x) (vStr y) (vStr (x ++ y)) := by
  rintro X s E Q _ _ I B ⟨t, rfl⟩ ⟨u, rfl⟩ h
  exact SB.iadd (fun t' k => h _ _ (I.tok _) (Gr.tok _ _) ⟨_, rfl⟩) hz
theorem op_mulS {x : Str} {n : Int} (hok : MulOk x n) : Op2 w A (binaryOp .Mult) (vStr x) (vInt n) (vStr (Txt.mul x n)) := by
  rintro X s E Q _ _ I B ⟨t, rfl⟩ ⟨u, rfl⟩ h
  exact SB.mul hok (fun t' k => h _ _ (I.tok _) (Gr.tok _ _) ⟨_, rfl⟩)
theorem op_isB {a b : Bool} : Op2 w A (compareOp .Is) (vBool a) (vBool b) (vBool (a == b)) := by
  rintro X s E Q _ _ I B rfl rfl h
  refine wpAny_is_plain (by rfl) (h _ _ I (Gr.refl _) ?_)
  show Value.bool _ = _
  cases a <;> cases b <;> rfl
theorem op_isNotB {a b : Bool} : Op2 w A (compareOp .IsNot) (vBool a) (vBool b) (vBool (a != b)) := by
  rintro X s E Q _ _ I B rfl rfl h
  refine wpAny_isNot_plain (by rfl) (h _ _ I (Gr.refl _) ?_)
  show Value.bool _ = _
  cases a <;> cases b <;> rfl
end ops

/-! ### tests -/
noncomputable def Te (w : World) (A : Around) (X : List Addr) (env : Env) (Γ : Ctxt) (e : Expr) (b : Bool) : Prop :=
  ∀ (s : Shared) (lm cm : Str → Option Value) (E : Value → Shared → Prop) (Q : Bool → Shared → Prop), Inv w s → Bel X s → EnvAt env s.heap lm cm → Has env Γ lm cm (hideAll s.heap X) →
    (∀ s', Inv w s' → Gr s s' → Q b s') → wpAny (model PG w) A (isTrue e env (eval e env)) Q E s
theorem te_use {e : Expr} {b : Bool} (h : Te w A X env Γ e b) {s : Shared} {lm cm : Str → Option Value} {E : Value → Shared → Prop} {Q : Bool → Shared → Prop} (I : Inv w s) (B : Bel X s) (V : EnvAt env s.heap lm cm) (H : Has env Γ lm cm (hideAll s.heap X))
    (k : ∀ s', Inv w s' → Bel X s' → EnvAt env s'.heap lm cm → Has env Γ lm cm (hideAll s'.heap X) → Gr s s' → Q b s') : wpAny (model PG w) A (isTrue e env (eval e env)) Q E s :=
  h s lm cm E Q I B V H fun s' I' G => k s' I' (B.gr I' G) (V.gr I G) (H.gr B G) G
theorem te_cmp {op : CmpOp} {l r : Expr} {p q : VP} {b : Bool} {pos : Pos} (hl : Ev w A X env Γ l p) (hr : Ev w A X env Γ r q) (ho : Op2 w A (compareOp op) p q (vBool b)) (hm : behindInMarks op r = false := by with_unfolding_all rfl) : Te w A X env Γ (.Compare l [op] [r] pos) b :=
  fun s lm cm E Q I B V H h => wpAny_isTrue_Compare1 (ev_use hl I B V H fun a s1 I1 B1 V1 H1 G1 h1 => ev_use hr I1 B1 V1 H1 fun c s2 I2 B2 V2 H2 G2 h2 =>
    ho X s2 E _ a c I2 B2 (p.st _ _ _ (hid_sub B1 G2) h1) h2 fun v s3 I3 G3 h3 => by
      have h3' : v = .bool b := h3
      subst h3'
      exact wpAny_truthy_bool (h s3 I3 ((G1.trans G2).trans G3))) hm
theorem te_not {x : Expr} {b : Bool} {pos : Pos} (h : Te w A X env Γ x b) : Te w A X env Γ (.UnaryOp .Not x pos) (!b) :=
  fun s lm cm E Q I B V H k => wpAny_isTrue_Not (te_use h I B V H fun s1 I1 _ _ _ G1 => k s1 I1 G1)
theorem te_or {x y : Expr} {a b : Bool} {pos : Pos} (h1 : Te w A X env Γ x a) (h2 : a = false → Te w A X env Γ y b) : Te w A X env Γ (.BoolOp .Or [x, y] pos) (a || b) :=
  fun s lm cm E Q I B V H k => wpAny_isTrue_BoolOp (wpAny_allTrue_Or_cons (te_use h1 I B V H fun s1 I1 B1 V1 H1 G1 => by
    cases a with
    | true => exact k s1 I1 G1
    | false =>
      refine wpAny_allTrue_Or_cons (te_use (h2 rfl) I1 B1 V1 H1 fun s2 I2 _ _ _ G2 => ?_)
      cases b with
      | true => exact k s2 I2 (G1.trans G2)
      | false => exact wpAny_allTrue_Or_nil (k s2 I2 (G1.trans G2))))
theorem te_and {x y : Expr} {a b : Bool} {pos : Pos} (h1 : Te w A X env Γ x a) (h2 : a = true → Te w A X env Γ y b) : Te w A X env Γ (.BoolOp .And [x, y] pos) (a && b) :=
  fun s lm cm E Q I B V H k => wpAny_isTrue_BoolOp (wpAny_allTrue_And_cons (te_use h1 I B V H fun s1 I1 B1 V1 H1 G1 => by
    cases a with
    | false => exact k s1 I1 G1
    | true =>
      refine wpAny_allTrue_And_cons (te_use (h2 rfl) I1 B1 V1 H1 fun s2 I2 _ _ _ G2 => ?_)
      cases b with
      | false => exact k s2 I2 (G1.trans G2)
      | true => exact wpAny_allTrue_And_nil (k s2 I2 (G1.trans G2))))
theorem ev_if {t a b : Expr} {c : Bool} {p : VP} {pos : Pos} (ht : Te w A X env Γ t c) (ha : c = true → Ev w A X env Γ a p) (hb : c = false → Ev w A X env Γ b p) : Ev w A X env Γ (.IfExp t a b pos) p :=
  fun s lm cm E Q I B V H h => wpAny_IfExp (te_use ht I B V H fun s1 I1 B1 V1 H1 G1 => by
    cases c with
    | true => exact ev_use (ha rfl) I1 B1 V1 H1 fun v s2 I2 _ _ _ G2 hp => h v s2 I2 (G1.trans G2) hp
    | false => exact ev_use (hb rfl) I1 B1 V1 H1 fun v s2 I2 _ _ _ G2 hp => h v s2 I2 (G1.trans G2) hp)
theorem ev_of {e : Expr} {p q : VP} (h : Ev w A X env Γ e p) (hpq : ∀ g v, p.p g v → q.p g v) : Ev w A X env Γ e q :=
  fun s lm cm E Q I B V H k => h s lm cm E Q I B V H fun v s' I' G hp => k v s' I' G (hpq _ _ hp)
theorem ev_sub {Δ : Ctxt} {e : Expr} {p : VP} (h : Ev w A X env Δ e p) (hs : ∀ z ∈ Δ, z ∈ Γ) : Ev w A X env Γ e p :=
  fun s lm cm E Q I B V H k => h s lm cm E Q I B V (fun x p m => H x p (hs _ m)) k

/-! ### displays -/
theorem push_K {s : Shared} (o : Obj) : ∀ b o', s.heap.get? b = some o' → (s.heap.push o).get? b = some o' := fun b o' e => Heap.get?_push_of_some _ e
theorem new_seq {T : String} {ps : List VP} {vs : List Value} {s : Shared} {n : Nat} {d : Option Addr} {sl} (B : Bel X s) (h : All2 (hideAll s.heap X) ps vs) :
    (vSeq T ps).p (hideAll (s.heap.push { cls := .type T, dict := d, data := .seq vs.toArray n, slots := sl }) X) (.ref s.heap.objs.size) := by
  have nb : s.heap.objs.size ∉ X := B.ne (new_none _)
  refine ⟨_, _, n, vs.toArray, rfl, hideAll_get X (Heap.get?_push_size _ rfl) nb, rfl, rfl, ?_⟩
  exact h.st (hid_new (fun b o e _ => Heap.get?_push_of_some _ e) fun y hy => .inl hy)
theorem ev_list {es : List Expr} {ps : List VP} {pos : Pos} (h : EvL w A X env Γ es ps) (hz : ps.length ≤ sizeLine := by (first | decide | size_fits)) : Ev w A X env Γ (.List es pos) (vList ps) :=
  fun s lm cm E Q I B V H k => wpAny_List (h pos s lm cm E _ I B V H fun vs s1 I1 G1 hA => ⟨by rw [hA.length]; exact hz,
    k _ _ (I1.keeps _ (push_K _)) (G1.trans (Gr.keeps _ (push_K _))) (new_seq (B.gr I1 G1) hA)⟩)
theorem ev_tup {es : List Expr} {ps : List VP} {c : Nat} {pos : Pos} (h : EvL w A X env Γ es ps) (hz : ps.length ≤ sizeLine := by (first | decide | size_fits)) : Ev w A X env Γ (.Tuple es c pos) (vTup ps) :=
  fun s lm cm E Q I B V H k => wpAny_Tuple (h pos s lm cm E _ I B V H fun vs s1 I1 G1 hA => ⟨by rw [hA.length]; exact hz,
    k _ _ (I1.keeps _ (push_K _)) (G1.trans (Gr.keeps _ (push_K _))) (new_seq (B.gr I1 G1) hA)⟩)
end
end Mine
end

section
open PySem PySem.Calls PyProof.Rows PySem.W
set_option Elab.async false
set_option maxRecDepth 100000
set_option linter.unusedVariables false
namespace Mine
noncomputable section
/-- objects that may be turned, and what they hold (g: the heap that is seen) -/
structure Mu where
  O : List Addr
  Φ : Heap → Heap → Prop
  fr : ∀ g g' h h', Sub g g' → (∀ b ∈ O, ∀ o, h.get? b = some o → h'.get? b = some o) → Φ g h → Φ g' h'
noncomputable def Mu.no : Mu := ⟨[], fun _ _ => True, fun _ _ _ _ _ _ x => x⟩
variable {w : World} {A : Around} {X : List Addr} {env : Env} {Γ : Ctxt} {s₀ : Shared} {μ : Mu}

/-! ### owned objects, that alone are turned -/
structure GrO (O : List Addr) (s s' : Shared) : Prop where
  keep : ∀ b o, s.heap.get? b = some o → b ∉ O → b ≠ T1 → b ≠ T2 → s'.heap.get? b = some o
  gens : ∀ (i : Nat) x, s.gens[i]? = some x → s'.gens[i]? = some x
  os : s'.os = s.os
theorem Gr.o {s s' : Shared} {O : List Addr} (G : Gr s s') : GrO O s s' := ⟨fun b o e _ h1 h2 => G.keep b o e h1 h2, G.gens, G.os⟩
theorem GrO.refl (O : List Addr) (s : Shared) : GrO O s s := ⟨fun _ _ e _ _ _ => e, fun _ _ e => e, rfl⟩
theorem GrO.trans {O : List Addr} {a b c : Shared} (x : GrO O a b) (y : GrO O b c) : GrO O a c :=
  ⟨fun k o e hn h1 h2 => y.keep k o (x.keep k o e hn h1 h2) hn h1 h2, fun i z e => y.gens i z (x.gens i z e), y.os.trans x.os⟩
theorem GrO.mono {O O' : List Addr} {a b : Shared} (x : GrO O a b) (h : ∀ z ∈ O, z ∈ O') : GrO O' a b := ⟨fun k o e hn h1 h2 => x.keep k o e (fun m => hn (h k m)) h1 h2, x.gens, x.os⟩
theorem GrO.gr {O : List Addr} {s s' : Shared} (x : GrO O s s') (h : ∀ z ∈ O, s.heap.get? z = none) : Gr s s' :=
  ⟨fun b o e h1 h2 => x.keep b o e (fun m => by rw [h b m] at e; cases e) h1 h2, x.gens, x.os⟩
/-- no address of the top's -/
structure Off (w : World) (x : Addr) : Prop where
  a : x ≠ T1
  b : x ≠ T2
  c : x ≠ 144
  d : x ≠ 151
  k : KO w.params x = none
theorem off_new {s : Shared} {a : Addr} (I : Inv w s) (h : s.heap.get? a = none) : Off w a := by
  have q1 := I.t1.ex
  have q2 := I.t2.ex
  have ne : ∀ b, (∃ o, s.heap.get? b = some o) → a ≠ b := fun b ⟨o, ho⟩ q => by rw [q] at h; rw [h] at ho; cases ho
  refine ⟨ne _ q1.2, ne _ q2.2, ne _ q1.1, ne _ q2.1, ?_⟩
  cases q : KO w.params a with
  | none => rfl
  | some o => exact absurd rfl (ne a ⟨o, I.K a o (ne _ q1.2) (ne _ q2.2) q⟩)
theorem TabAt.at2 {h h' : Heap} {t c : Addr} {a b : Int} (x : TabAt h t c a b) (h1 : ∀ o, h.get? t = some o → h'.get? t = some o) (h2 : ∀ o, h.get? c = some o → h'.get? c = some o) : TabAt h' t c a b := by
  obtain ⟨ps, ⟨⟨o, vs, a1, a2⟩, a3⟩, ⟨o', vs', file, tf, flags, tg, inF, text, tt, op, b1, r1, r2, r3, r4, r5, r6, b2, r⟩, g3⟩ := x
  exact ⟨ps, ⟨⟨o, vs, h2 _ a1, a2⟩, h1 _ a3⟩, ⟨o', vs', file, tf, flags, tg, inF, text, tt, op, h2 _ b1, r1, r2, r3, r4, r5, r6, h1 _ b2, r⟩, g3⟩
/-- all but the wr are kept -/
noncomputable def KeepBut (wr : List Addr) (h h' : Heap) : Prop := ∀ b o, b ∉ wr → h.get? b = some o → h'.get? b = some o
theorem KeepBut.same {h h' : Heap} {L : Addr} (hs : Heap.SameBut L h h') : KeepBut [L] h h' := fun b o nb e => (hs.2 b fun q => nb (List.mem_singleton.mpr q)).trans e
theorem KeepBut.mono {wr wr' : List Addr} {h h' : Heap} (k : KeepBut wr h h') (hs : ∀ z ∈ wr, z ∈ wr') : KeepBut wr' h h' := fun b o nb e => k b o (fun m => nb (hs b m)) e
theorem Inv.but {s : Shared} {h' : Heap} {wr : List Addr} (I : Inv w s) (hw : ∀ b ∈ wr, Off w b) (hk : KeepBut wr s.heap h') (t : Nat) : Inv w { s with heap := h', toks := t } := by
  refine ⟨fun a o h1 h2 e => hk _ _ (fun m => by rw [(hw a m).k] at e; cases e) (I.K a o h1 h2 e), I.t1.at2 (fun o => hk _ _ ?_) (fun o => hk _ _ ?_), I.t2.at2 (fun o => hk _ _ ?_) (fun o => hk _ _ ?_), I.bare⟩
  · exact fun m => (hw _ m).a rfl
  · exact fun m => (hw _ m).c rfl
  · exact fun m => (hw _ m).b rfl
  · exact fun m => (hw _ m).d rfl
theorem GrO.but {s : Shared} {h' : Heap} {O wr : List Addr} (hw : ∀ b ∈ wr, b ∈ O) (hk : KeepBut wr s.heap h') (t : Nat) : GrO O s { s with heap := h', toks := t } :=
  ⟨fun b o e hn _ _ => hk b o (fun m => hn (hw b m)) e, fun _ _ e => e, rfl⟩
theorem Bel.but {s : Shared} {h' : Heap} {wr : List Addr} (B : Bel X s) (hk : KeepBut wr s.heap h') (hL : ∀ b ∈ wr, ∃ o, h'.get? b = some o) (t : Nat) : Bel X { s with heap := h', toks := t } :=
  ⟨fun x hx => by
    by_cases q : x ∈ wr
    · exact hL x q
    · obtain ⟨o, ho⟩ := B.ex x hx
      exact ⟨o, hk x o q ho⟩, B.a, B.b⟩
theorem hid_but {h h' : Heap} {wr : List Addr} (hX : ∀ b ∈ wr, b ∈ X) (hk : KeepBut wr h h') : Sub (hideAll h X) (hideAll h' X) :=
  hid_new (fun b o e nb => hk b o (fun m => nb (hX b m)) e) fun y hy => .inl hy
theorem hid_same {h h' : Heap} {L : Addr} (hL : L ∈ X) (hs : Heap.SameBut L h h') : Sub (hideAll h X) (hideAll h' X) :=
  hid_new (fun b o e nb => (hs.2 b fun q => nb (q ▸ hL)).trans e) fun y hy => .inl hy

/-! ### a def's frame -/
noncomputable def own (env : Env) : List Addr := env.locals :: (env.cells.filter fun z => env.kindOf z.1 == some .cell).map (·.2)
theorem own_cell {x : Str} {c : Addr} (hk : env.kindOf x = some .cell) (hc : env.cells.lookup x = some c) : c ∈ own env :=
  List.mem_cons_of_mem _ (List.mem_map.mpr ⟨(x, c), List.mem_filter.mpr ⟨mem_of_lookup hc, by simp [hk]⟩, rfl⟩)
/-- a frame's own objects -/
structure Fn (w : World) (env : Env) (X : List Addr) : Prop where
  ok : EnvOk env
  off : ∀ a ∈ own env, Off w a
  sub : ∀ a ∈ own env, a ∈ X
theorem Fn.mono {Y : List Addr} (F : Fn w env X) (h : ∀ z ∈ X, z ∈ Y) : Fn w env Y := ⟨F.ok, F.off, fun a m => h a (F.sub a m)⟩

/-- what stands while a body runs; s₀: a state that it is held against -/
structure St (w : World) (env : Env) (X : List Addr) (s₀ : Shared) (μ : Mu) (Γ : Ctxt) (s : Shared) : Prop where
  inv : Inv w s
  gr : GrO (own env ++ μ.O) s₀ s
  bel : Bel X s
  mu : μ.Φ (hideAll s.heap X) s.heap
  mo : ∀ a ∈ μ.O, a ∈ X ∧ Off w a ∧ a ∉ own env ∧ ∀ n c, (n, c) ∈ env.cells → c ≠ a
  ex : ∃ lm cm, EnvAt env s.heap lm cm ∧ Has env Γ lm cm (hideAll s.heap X)

theorem St.sub {Δ : Ctxt} {s : Shared} (S : St w env X s₀ μ Γ s) (h : ∀ z ∈ Δ, z ∈ Γ) : St w env X s₀ μ Δ s :=
  ⟨S.inv, S.gr, S.bel, S.mu, S.mo, let ⟨lm, cm, V, H⟩ := S.ex; ⟨lm, cm, V, fun x p m => H x p (h _ m)⟩⟩
theorem St.step {s s' : Shared} (S : St w env X s₀ μ Γ s) (I : Inv w s') (G : Gr s s') : St w env X s₀ μ Γ s' :=
  ⟨I, S.gr.trans G.o, S.bel.gr I G, μ.fr _ _ _ _ (hid_sub S.bel G) (fun b hb o e => G.keep b o e (S.mo b hb).2.1.a (S.mo b hb).2.1.b) S.mu, S.mo, let ⟨lm, cm, V, H⟩ := S.ex; ⟨lm, cm, V.gr S.inv G, H.gr S.bel G⟩⟩

/-- an expression behind a state -/
theorem st_ev {e : Expr} {p : VP} (h : Ev w A X env Γ e p) {s : Shared} {E Q : Value → Shared → Prop} (S : St w env X s₀ μ Γ s) (k : ∀ v s', St w env X s₀ μ Γ s' → Gr s s' → p.p (hideAll s'.heap X) v → Q v s') : wpAny (model PG w) A (eval e env) Q E s := by
  obtain ⟨lm, cm, V, H⟩ := S.ex
  exact h s lm cm E Q S.inv S.bel V H fun v s' I G hp => k v s' (S.step I G) G hp
theorem st_te {e : Expr} {b : Bool} (h : Te w A X env Γ e b) {s : Shared} {E : Value → Shared → Prop} {Q : Bool → Shared → Prop} (S : St w env X s₀ μ Γ s) (k : ∀ s', St w env X s₀ μ Γ s' → Gr s s' → Q b s') : wpAny (model PG w) A (isTrue e env (eval e env)) Q E s := by
  obtain ⟨lm, cm, V, H⟩ := S.ex
  exact h s lm cm E Q S.inv S.bel V H fun s' I G => k s' (S.step I G) G

noncomputable def dropN (x : Str) (Γ : Ctxt) : Ctxt := Γ.filter fun z => !(z.1 == x)
theorem mem_dropN {x y : Str} {p : VP} (h : (y, p) ∈ dropN x Γ) : (y, p) ∈ Γ ∧ y ≠ x := by
  unfold dropN at h
  rw [List.mem_filter] at h
  refine ⟨h.1, fun q => ?_⟩
  subst q
  simp at h

noncomputable def stB (env : Env) (x : Str) : Bool := env.kindOf x == some .local || (env.kindOf x == some .cell && (env.cells.lookup x).isSome)
theorem off1 {a : Addr} (h : Off w a) : ∀ b ∈ [a], Off w b := fun b hb => by rw [List.mem_singleton.mp hb]; exact h
theorem in1 {a : Addr} {O : List Addr} (h : a ∈ O) : ∀ b ∈ [a], b ∈ O := fun b hb => by rw [List.mem_singleton.mp hb]; exact h
theorem ex1 {a : Addr} {h : Heap} (e : ∃ o, h.get? a = some o) : ∀ b ∈ [a], ∃ o, h.get? b = some o := fun b hb => by rw [List.mem_singleton.mp hb]; exact e
/-- a name stored -/
theorem st_store {M : Model} {x : Str} {p : VP} {v : Value} {s : Shared} {E : Value → Shared → Prop} {Q : Unit → Shared → Prop} (F : Fn w env X) (S : St w env X s₀ μ Γ s) (hp : p.p (hideAll s.heap X) v)
    (hk : stB env x = true) (k : ∀ s', St w env X s₀ μ ((x, p) :: dropN x Γ) s' → Q () s') : wpAny M A (storeName env x v) Q E s := by
  obtain ⟨lm, cm, V, H⟩ := S.ex
  unfold stB at hk
  simp only [Bool.or_eq_true, Bool.and_eq_true, beq_iff_eq] at hk
  rcases hk with hk | ⟨hk, hc⟩
  · have hpq : (env.scope.kind == .class || (env.scope.kind == .module && env.locals != env.globals)) = false := by rw [F.ok.k]; rfl
    refine wpAny_storeName_local hk V.ns (fun h' hn hs => k _ ⟨S.inv.but (off1 (F.off _ List.mem_cons_self)) (.same hs) _, S.gr.trans (.but (in1 (List.mem_append_left _ List.mem_cons_self)) (.same hs) _), S.bel.but (.same hs) (ex1 (let ⟨o, _, _, ho, _⟩ := hn; ⟨o, ho⟩)) _, μ.fr _ _ _ _ (hid_same (F.sub _ List.mem_cons_self) hs) (fun b hb o e => (hs.2 b fun q => (S.mo b hb).2.2.1 (q ▸ List.mem_cons_self)).trans e) S.mu, S.mo, fun y => if y = x then some v else lm y, cm, ⟨hn, fun n c e => ?_, V.off, V.apart⟩, fun y q hy => ?_⟩) hpq
    · exact (V.cell n c e).sameBut hs (V.off n c (mem_of_lookup e))
    · rcases List.mem_cons.mp hy with e | hy
      · cases e
        exact ⟨v, by unfold valOf; rw [hk]; simp, p.st _ _ _ (hid_same (F.sub _ List.mem_cons_self) hs) hp⟩
      · obtain ⟨hy, ne⟩ := mem_dropN hy
        obtain ⟨u, hu, hq⟩ := H y q hy
        refine ⟨u, ?_, q.st _ _ _ (hid_same (F.sub _ List.mem_cons_self) hs) hq⟩
        rw [← hu]
        unfold valOf
        split <;> simp [ne]
  · obtain ⟨c, hcc⟩ := Option.isSome_iff_exists.mp hc
    have hcO := own_cell hk hcc
    have hcX := F.sub c hcO
    refine wpAny_storeName_cell F.ok.k hk hcc (V.cell x c hcc) fun h' hv hs => k _ ⟨S.inv.but (off1 (F.off _ hcO)) (.same hs) _, S.gr.trans (.but (in1 (List.mem_append_left _ hcO)) (.same hs) _), S.bel.but (.same hs) (ex1 (let ⟨o, ho, _⟩ := hv; ⟨o, ho⟩)) _, μ.fr _ _ _ _ (hid_same hcX hs) (fun b hb o e => (hs.2 b fun q => (S.mo b hb).2.2.1 (q ▸ hcO)).trans e) S.mu, S.mo, lm, fun y => if y = x then some v else cm y, ⟨?_, fun n c' e => ?_, V.off, V.apart⟩, fun y q hy => ?_⟩
    · exact V.ns.sameBut hs (Ne.symm (V.off x c (mem_of_lookup hcc)))
    · by_cases hn : n = x
      · subst hn
        rw [hcc] at e
        cases e
        simpa using hv
      · have hne : c' ≠ c := fun q => hn (V.apart _ _ _ _ (mem_of_lookup e) (mem_of_lookup hcc) q)
        simpa [hn] using (V.cell n c' e).sameBut hs hne
    · rcases List.mem_cons.mp hy with e | hy
      · cases e
        exact ⟨v, by unfold valOf; rw [hk]; simp [hcc], p.st _ _ _ (hid_same hcX hs) hp⟩
      · obtain ⟨hy, ne⟩ := mem_dropN hy
        obtain ⟨u, hu, hq⟩ := H y q hy
        refine ⟨u, ?_, q.st _ _ _ (hid_same hcX hs) hq⟩
        rw [← hu]
        unfold valOf
        split <;> simp [ne]

/-! ### statements -/
noncomputable def Bd (w : World) (A : Around) (X : List Addr) (env : Env) (s₀ : Shared) (μ : Mu) (Γ : Ctxt) (c : List Stmt) (R : Flow → Shared → Prop) : Prop :=
  ∀ (s : Shared) (E : Value → Shared → Prop), St w env X s₀ μ Γ s → wpAny (model PG w) A (execs c env) R E s

theorem bd_nil {R : Flow → Shared → Prop} (h : ∀ s, St w env X s₀ μ Γ s → R .next s) : Bd w A X env s₀ μ Γ [] R := fun s E S => wpAny_execs_nil (h s S)
theorem bd_sub {Δ : Ctxt} {c : List Stmt} {R : Flow → Shared → Prop} (h : Bd w A X env s₀ μ Δ c R) (hs : ∀ z ∈ Δ, z ∈ Γ) : Bd w A X env s₀ μ Γ c R := fun s E S => h s E (S.sub hs)
theorem bd_assign {x : Str} {px pos : Pos} {e : Expr} {p : VP} {rest : List Stmt} {R : Flow → Shared → Prop} (F : Fn w env X) (he : Ev w A X env Γ e p) (k : Bd w A X env s₀ μ ((x, p) :: dropN x Γ) rest R)
    (hk : stB env x = true := by kernel_rfl)
    (hs : swapsWith e (some (.Name x px)) pos.line env = pure false := by rfl) : Bd w A X env s₀ μ Γ (.Assign [.Name x px] e pos :: rest) R :=
  fun s E S => wpAny_execs_cons (wpAny_Assign_Name (st_ev he S fun v s1 S1 _ hp => st_store F S1 hp hk fun s2 S2 => k s2 E S2) hs)
/-- what a return is owed -/
noncomputable def RetOK (w : World) (X : List Addr) (env : Env) (s₀ : Shared) (O : List Addr) (Φ : Heap → Heap → Prop) (r : VP) (f : Value → Flow) (R : Flow → Shared → Prop) : Prop :=
  ∀ v s', Inv w s' → GrO (own env ++ O) s₀ s' → Φ (hideAll s'.heap X) s'.heap → Bel X s' → r.p (hideAll s'.heap X) v → R (f v) s'
theorem bd_ret {e : Expr} {p : VP} {pos : Pos} {rest : List Stmt} {R : Flow → Shared → Prop} (he : Ev w A X env Γ e p) (k : RetOK w X env s₀ μ.O μ.Φ p .ret R) : Bd w A X env s₀ μ Γ (.Return (some e) pos :: rest) R :=
  fun s E S => wpAny_execs_cons (wpAny_Return_some (st_ev he S fun v s1 S1 _ hp => k v s1 S1.inv S1.gr S1.mu S1.bel hp))
/-- an if whose chosen arm hands on to Δ -/
theorem bd_ifT {t : Expr} {a c : List Stmt} {pos : Pos} {rest : List Stmt} {R : Flow → Shared → Prop} (ht : Te w A X env Γ t true) (h : ∀ E : Value → Shared → Prop, Bd w A X env s₀ μ Γ a fun f s' => match f with | .next => wpAny (model PG w) A (execs rest env) R E s' | f => R f s') :
    Bd w A X env s₀ μ Γ (.If t a c pos :: rest) R :=
  fun s E S => wpAny_execs_cons (wpAny_If (st_te ht S fun s1 S1 _ => h E s1 E S1))
theorem bd_ifF {t : Expr} {a c : List Stmt} {pos : Pos} {rest : List Stmt} {R : Flow → Shared → Prop} (ht : Te w A X env Γ t false) (h : ∀ E : Value → Shared → Prop, Bd w A X env s₀ μ Γ c fun f s' => match f with | .next => wpAny (model PG w) A (execs rest env) R E s' | f => R f s') :
    Bd w A X env s₀ μ Γ (.If t a c pos :: rest) R :=
  fun s E S => wpAny_execs_cons (wpAny_If (st_te ht S fun s1 S1 _ => h E s1 E S1))
theorem bd_aug {x : Str} {px pos : Pos} {op : Operator} {e : Expr} {p q r : VP} {rest : List Stmt} {R : Flow → Shared → Prop} (F : Fn w env X) (hx : (x, p) ∈ Γ) (he : Ev w A X env Γ e q) (ho : Op2 w A (inplaceOp op) p q r)
    (k : Bd w A X env s₀ μ ((x, r) :: dropN x Γ) rest R) (hk : stB env x = true := by kernel_rfl)
    (hcd : (x == ("__classdict__" : Str)) = false := by rfl) : Bd w A X env s₀ μ Γ (.AugAssign (.Name x px) op e pos :: rest) R :=
  fun s E S => wpAny_execs_cons (wpAny_AugAssign_Name (by
    obtain ⟨lm, cm, V, H⟩ := S.ex
    obtain ⟨v, hv, hp⟩ := H x p hx
    refine load_val F.ok V hv hcd (st_ev he S fun u s1 S1 G1 hq => ?_)
    refine ho X s1 E _ v u S1.inv S1.bel (p.st _ _ _ (hid_sub S.bel G1) hp) hq fun r' s2 I2 G2 hr => ?_
    exact st_store F (S1.step I2 G2) hr hk fun s3 S3 => k s3 E S3))

/-! ### a def entered -/
noncomputable def fdK (P : Params) (f : Addr) : FuncData := match KO P f with | some ⟨_, _, .func fd, _⟩ => fd | _ => default
noncomputable def fnOkB (P : Params) (f : Addr) : Bool := f != T1 && f != T2 && (match KO P f with | some ⟨_, _, .func fd, _⟩ => (match fd.code with | .ref c => c != T1 && c != T2 && (match KO P c with | some ⟨_, _, .fields vs, _⟩ => (match vs.toList with | _ :: .str n _ :: _ => n == fd.qualname | _ => false) | _ => false) | _ => false) && !fd.scope.isCoroutine && fd.scope.kind == .function | _ => false)

theorem noLimit_of {s : Shared} (I : Inv w s) (h : nsK w.params cStatics "sys.recursionlimit" = some none) : s.heap.NoLimit := by
  unfold nsK dictAt at h
  split at h
  · rename_i es q
    split at q
    · rename_i c d es' n sl q'
      cases q
      split at h
      · rename_i hk
        have e : nsFind es "sys.recursionlimit" = none := Option.some.inj h
        exact ⟨fun y => nsFind es y, ⟨_, es, n, I.K _ _ (by decide) (by decide) q', rfl, strKeys_of hk, fun _ => rfl⟩, e⟩
      · cases h
    · cases q
  · cases h

theorem fn_facts {f : Addr} {s : Shared} (I : Inv w s) (h : fnOkB w.params f = true) : ∃ o, s.heap.get? f = some o ∧ o.data = .func (fdK w.params f) ∧ s.heap.CodeRec (fdK w.params f).code (fdK w.params f).qualname ∧ (fdK w.params f).scope.isCoroutine = false ∧ (fdK w.params f).scope.kind = .function := by
  unfold fnOkB at h
  simp only [Bool.and_eq_true, bne_iff_ne, ne_eq] at h
  obtain ⟨⟨h1, h2⟩, h⟩ := h
  split at h
  · rename_i c d fd sl q
    have e : fdK w.params f = fd := by unfold fdK; rw [q]
    rw [e]
    refine ⟨_, I.K _ _ h1 h2 q, rfl, ?_, ?_, ?_⟩
    · simp only [Bool.and_eq_true] at h
      obtain ⟨⟨h, _⟩, _⟩ := h
      split at h
      · rename_i c' hc'
        simp only [Bool.and_eq_true, bne_iff_ne, ne_eq] at h
        obtain ⟨⟨h3, h4⟩, h⟩ := h
        split at h
        · rename_i vs sl' q'
          split at h
          · rename_i a n t r hv
            refine ⟨c', _, vs, t, hc', I.K _ _ h3 h4 q', rfl, ?_⟩
            rw [← Array.getElem?_toList, hv, ← beq_iff_eq.mp h]
            rfl
          · cases h
        · cases h
      · cases h
    · simp only [Bool.and_eq_true, Bool.not_eq_true'] at h
      exact h.1.2
    · simp only [Bool.and_eq_true, beq_iff_eq] at h
      exact h.2
  · simp at h
end
end Mine
end

section
open PySem PySem.Calls PyProof.Rows PySem.W
set_option Elab.async false
set_option maxRecDepth 100000
set_option linter.unusedVariables false
namespace Mine
noncomputable section
variable {w : World} {A : Around} {X : List Addr} {env : Env} {Γ : Ctxt} {s₀ : Shared} {μ : Mu}

theorem val_upd_ne {lm cm : Str → Option Value} {n x : Str} {v : Value} (h : x ≠ n) :
    valOf env (if env.kindOf n = some .local then fun y => if y = n then some v else lm y else lm) (if env.kindOf n = some .local then cm else fun y => if y = n then some v else cm y) x = valOf env lm cm x := by
  by_cases q : env.kindOf n = some .local
  · rw [if_pos q, if_pos q]
    unfold valOf
    split <;> simp [h]
  · rw [if_neg q, if_neg q]
    unfold valOf
    split <;> simp [h]
theorem bind_keep : ∀ (binds : List (Str × Value)) (lm cm : Str → Option Value) (x : Str), x ∉ binds.map (·.1) → valOf env (bindL env.kindOf binds lm) (bindC env.kindOf binds cm) x = valOf env lm cm x
  | [], _, _, _, _ => rfl
  | (n, v) :: r, lm, cm, x, h => by
    rw [List.map_cons, List.mem_cons, not_or] at h
    rw [bindL, bindC, bind_keep r _ _ x h.2]
    exact val_upd_ne h.1
theorem bind_val : ∀ (binds : List (Str × Value)) (lm cm : Str → Option Value), (binds.map (·.1)).Nodup → (∀ x ∈ binds, env.kindOf x.1 = some .local ∨ (env.kindOf x.1 = some .cell ∧ (env.cells.lookup x.1).isSome = true)) →
    ∀ x v, (x, v) ∈ binds → valOf env (bindL env.kindOf binds lm) (bindC env.kindOf binds cm) x = some v
  | (n, u) :: r, lm, cm, hn, hk, x, v, hm => by
    rw [List.map_cons, List.nodup_cons] at hn
    rw [bindL, bindC]
    rcases List.mem_cons.mp hm with e | hm
    · cases e
      rw [bind_keep r _ _ _ hn.1]
      rcases hk (n, u) List.mem_cons_self with q | ⟨q, q'⟩
      · have q : env.kindOf n = some .local := q
        unfold valOf
        rw [q]; simp
      · have q : env.kindOf n = some .cell := q
        have q' : (env.cells.lookup n).isSome = true := q'
        unfold valOf
        rw [q, if_neg (by decide)]; simp [q']
    · exact bind_val r _ _ hn.2 (fun y hy => hk y (List.mem_cons_of_mem _ hy)) x v hm

theorem zip_mem {g : Heap} : ∀ {ns : List Str} {ps : List VP} {vs : List Value}, All2 g ps vs → ∀ {x : Str} {p : VP}, (x, p) ∈ ns.zip ps → ∃ v, (x, v) ∈ ns.zip vs ∧ p.p g v
  | n :: ns, p :: ps, v :: vs, ⟨a, b⟩, x, q, h => by
    rw [List.zip_cons_cons] at h ⊢
    rcases List.mem_cons.mp h with e | h
    · cases e; exact ⟨v, List.mem_cons_self, a⟩
    · obtain ⟨u, h1, h2⟩ := zip_mem b h
      exact ⟨u, List.mem_cons_of_mem _ h1, h2⟩
  | [], _, _, _, _, _, h => by simp at h
  | _ :: _, [], _, _, _, _, h => by simp at h

noncomputable def bodyK (P : Params) (f : Addr) : List Stmt := match (fdK P f).body with | .stmts b => b | _ => []
noncomputable def kindB (P : Params) (f : Addr) (ns : List Str) : Bool := ns.all fun x => (fdK P f).scope.names.lookup x == some .local || ((fdK P f).scope.names.lookup x == some .cell && ((cellsFrom 0 (fdK P f).scope.names []).lookup x).isSome)
noncomputable def defB (P : Params) (f : Addr) (ns : List Str) : Bool := fnOkB P f && !(fdK P f).scope.isGenerator && (match (fdK P f).body with | .stmts _ => true | _ => false) && (fdK P f).closure.isEmpty && (fdK P f).globals == mainGlobals && (fdK P f).builtins == builtinsNs && kindB P f ns && decide ns.Nodup && decide ((cellsFrom 0 (fdK P f).scope.names []).map (·.1)).Nodup

theorem cells_some : ∀ (names : List (Str × NameKind)) (n n' : Nat) (acc acc' : List (Str × Addr)), acc.map (·.1) = acc'.map (·.1) → ∀ x, ((cellsFrom n names acc).lookup x).isSome = ((cellsFrom n' names acc').lookup x).isSome := by
  intro names n n' acc acc' h x
  have e := cellsFrom_names names n n' acc acc' h
  have key : ∀ (l l' : List (Str × Addr)), l.map (·.1) = l'.map (·.1) → (l.lookup x).isSome = (l'.lookup x).isSome := by
    intro l
    induction l with
    | nil => intro l' h'; cases l' with
      | nil => rfl
      | cons a b => simp at h'
    | cons a l ih => intro l' h'; cases l' with
      | nil => simp at h'
      | cons b l' =>
        obtain ⟨a1, a2⟩ := a
        obtain ⟨b1, b2⟩ := b
        simp only [List.map_cons, List.cons.injEq] at h'
        obtain ⟨rfl, h'⟩ := h'
        rw [List.lookup_cons, List.lookup_cons]
        cases x == a1 <;> simp [ih l' h']
  exact key _ _ e

/-- a def's contract: the objects of O may be turned, from Φ to Φ' -/
noncomputable def MOK (w : World) (n : Nat) (f : Addr) (μ : Mu) (Φ' : Heap → Heap → Prop) (ps : List VP) (r : VP) : Prop :=
  ∀ (X : List Addr) (A : Around) (s : Shared) (R : Result → Shared → Prop) (vs : List Value), Rm A n → Inv w s → Bel X s → (∀ a ∈ μ.O, a ∈ X ∧ Off w a) → μ.Φ (hideAll s.heap X) s.heap → All2 (hideAll s.heap X) ps vs →
    (∀ v s', Inv w s' → GrO μ.O s s' → Bel X s' → Φ' (hideAll s'.heap X) s'.heap → r.p (hideAll s'.heap X) v → R (.ok (.ret v)) s') → codeAny (model PG w) A (.call (.ref f) ⟨vs, []⟩) R s
/-- what a def's end is owed: N new, O turned -/
structure RetM (w : World) (X : List Addr) (env : Env) (s₀ : Shared) (O : List Addr) (Φ : Heap → Heap → Prop) (r : VP) (R : Flow → Shared → Prop) : Prop where
  ret : ∀ N, (∀ a ∈ N, s₀.heap.get? a = none) → RetOK w X env s₀ (N ++ O) Φ r .ret R
  next : ∀ N, (∀ a ∈ N, s₀.heap.get? a = none) → RetOK w X env s₀ (N ++ O) Φ r (fun _ => .next) (fun f s' => r.p (hideAll s'.heap X) .none → R f s')
/-- Φ at a state is kept when more is hidden that is new, and when less is -/
theorem Mu.sub {μ : Mu} {g g' h h' : Heap} (x : μ.Φ g h) (hs : Sub g g') (hk : ∀ b o, h.get? b = some o → h'.get? b = some o) : μ.Φ g' h' := μ.fr _ _ _ _ hs (fun b _ o e => hk b o e) x

theorem mfn_intro {f : Addr} {n : Nat} {Φ' : Heap → Heap → Prop} {ns : List Str} {ps : List VP} {r : VP} (hd : defB w.params f ns = true) (hlen : ns.length = ps.length) (hlim : nsK w.params cStatics "sys.recursionlimit" = some none) (hΦ : ∀ g g' h, Sub g g' → Φ' g h → Φ' g' h)
    (hb : ∀ vs : List Value, vs.length = ns.length → bindArgs (fdK w.params f) ⟨vs, []⟩ = pure (ns.zip vs))
    (body : ∀ (X : List Addr) (A : Around) (L : Addr) (s₀ : Shared) (R : Flow → Shared → Prop), Rm A n → Fn w (callEnvC (fdK w.params f) L f) X → RetM w X (callEnvC (fdK w.params f) L f) s₀ μ.O Φ' r R →
      Bd w A X (callEnvC (fdK w.params f) L f) s₀ μ (ns.zip ps) (bodyK w.params f) R) : MOK w (n + 1) f μ Φ' ps r := by
  intro X A s R vs hA I B hO hΦ0 hv k
  unfold defB at hd
  simp only [Bool.and_eq_true, Bool.not_eq_true', beq_iff_eq, decide_eq_true_eq, List.isEmpty_iff] at hd
  obtain ⟨⟨⟨⟨⟨⟨⟨⟨h1, hgen⟩, hbody⟩, hclo⟩, hg⟩, hbi⟩, hkind⟩, hnd⟩, hcd⟩ := hd
  obtain ⟨o, ho, hdata, hrec, hco, hkd⟩ := fn_facts I h1
  have hbody' : (fdK w.params f).body = .stmts (bodyK w.params f) := by
    unfold bodyK
    split at hbody
    · rename_i e; rw [e]
    · cases hbody
  have hvl : vs.length = ns.length := hv.length.trans hlen.symm
  have hks : ∀ x ∈ ns.zip vs, (fdK w.params f).scope.names.lookup x.1 = some .local ∨ ((fdK w.params f).scope.names.lookup x.1 = some .cell ∧ ((cellsFrom (s.heap.objs.size + 1) (fdK w.params f).scope.names []).lookup x.1).isSome = true) := by
    intro x hx
    have := List.all_eq_true.mp hkind x.1 (List.of_mem_zip (a := x.1) (b := x.2) hx).1
    simp only [Bool.or_eq_true, beq_iff_eq, Bool.and_eq_true] at this
    rcases this with q | ⟨q, q'⟩
    · exact .inl q
    · exact .inr ⟨q, (cells_some _ _ _ _ _ rfl x.1).trans q'⟩
  have hks2 := hks
  refine codeAny_call_cells (fd := fdK w.params f) (Nat.lt_of_le_of_lt (Nat.le_add_right _ _) hA.d) ho hdata (noLimit_of I hlim) hrec hbody' (hb vs hvl) hclo hks (fun s₁ C => ?_) hco hgen hkd
  generalize hE : callEnvC (fdK w.params f) s.heap.objs.size f = env at C ⊢
  have hL : env.locals = s.heap.objs.size := by rw [← hE]; rfl
  have hC : env.cells = cellsFrom (s.heap.objs.size + 1) (fdK w.params f).scope.names [] := by rw [← hE]; rfl
  have hK : ∀ x, env.kindOf x = (fdK w.params f).scope.names.lookup x := by intro x; rw [← hE]; rfl
  obtain ⟨h₁, tk, rfl, keep⟩ := C.done
  have G : Gr s { s with heap := h₁, toks := tk } := Gr.keeps _ keep
  have I₁ : Inv w { s with heap := h₁, toks := tk } := I.keeps _ keep
  have cellMem : ∀ n c, (n, c) ∈ env.cells → env.cells.lookup n = some c := fun n c hm => by
    refine lookup_of_mem_nodup ?_ hm
    rw [hC, cellsFrom_names (fdK w.params f).scope.names (s.heap.objs.size + 1) 0 [] [] rfl]
    exact hcd
  let X' := env.locals :: (env.cells.map (·.2) ++ X)
  have B₁ : Bel X' { s with heap := h₁, toks := tk } := by
    refine ⟨fun x hx => ?_, List.mem_cons_of_mem _ (List.mem_append_right _ B.a), List.mem_cons_of_mem _ (List.mem_append_right _ B.b)⟩
    rcases List.mem_cons.mp hx with q | hx
    · rw [q]; obtain ⟨o, _, _, ho, _⟩ := C.toInCall.ns; exact ⟨o, ho⟩
    · rcases List.mem_append.mp hx with hx | hx
      · obtain ⟨⟨n, c⟩, hm, rfl⟩ := List.mem_map.mp hx
        obtain ⟨o, ho, _⟩ := C.cell n c (cellMem n c hm); exact ⟨o, ho⟩
      · obtain ⟨o, ho⟩ := B.ex x hx; exact ⟨o, keep _ _ ho⟩
  have new : ∀ y ∈ X', y ∈ X ∨ s.heap.get? y = none := fun y hy => by
    rcases List.mem_cons.mp hy with q | hy
    · right; rw [q, hL]; exact new_none _
    · rcases List.mem_append.mp hy with hy | hy
      · obtain ⟨⟨n, c⟩, hm, rfl⟩ := List.mem_map.mp hy
        right
        have := C.above n c hm
        rw [hL] at this
        exact Heap.get?_none_of_le (Nat.le_of_lt this)
      · exact .inl hy
  have hsub : Sub (hideAll s.heap X) (hideAll h₁ X') := hid_new (fun b o e _ => keep b o e) new
  have abs : ∀ a ∈ own env, s.heap.get? a = none := fun a ha => by
    rcases List.mem_cons.mp ha with q | ha
    · rw [q, hL]; exact new_none _
    · obtain ⟨⟨n, c⟩, hm, rfl⟩ := List.mem_map.mp ha
      have := C.above n c (List.mem_filter.mp hm).1
      rw [hL] at this
      exact Heap.get?_none_of_le (Nat.le_of_lt this)
  have F : Fn w env X' := by
    refine ⟨⟨by rw [← hE]; exact hkd, by rw [← hE]; exact hg, by rw [← hE]; exact hbi⟩, fun a ha => off_new I (abs a ha), fun a ha => ?_⟩
    rcases List.mem_cons.mp ha with q | ha
    · rw [q]; exact List.mem_cons_self
    · obtain ⟨z, hm, rfl⟩ := List.mem_map.mp ha
      exact List.mem_cons_of_mem _ (List.mem_append_left _ (List.mem_map.mpr ⟨z, (List.mem_filter.mp hm).1, rfl⟩))
  have S : St w env X' s μ (ns.zip ps) { s with heap := h₁, toks := tk } := by
    refine ⟨I₁, G.o, B₁, μ.sub hΦ0 hsub keep, fun a ha => ⟨List.mem_cons_of_mem _ (List.mem_append_right _ (hO a ha).1), (hO a ha).2, fun m => ?_, fun n c hm e => ?_⟩, _, _, ⟨C.toInCall.ns, C.cell, fun n c hm => Nat.ne_of_gt (C.above n c hm), fun n c n' c' hm hm' e => name_of_addr C.apart hm (e ▸ hm')⟩, fun x p hx => ?_⟩
    · obtain ⟨o, ho⟩ := B.ex a (hO a ha).1
      rw [abs a m] at ho; cases ho
    · obtain ⟨o, ho⟩ := B.ex a (hO a ha).1
      have h1 := C.above n c hm
      rw [hL] at h1
      rw [← e, Heap.get?_none_of_le (Nat.le_of_lt h1)] at ho; cases ho
    obtain ⟨v, hm, hp⟩ := zip_mem (hv.st hsub) hx
    refine ⟨v, ?_, hp⟩
    refine bind_val (ns.zip vs) _ _ ?_ (fun y hy => ?_) x v hm
    · have : (ns.zip vs).map (·.1) = ns := by rw [List.map_fst_zip]; exact Nat.le_of_eq hvl.symm
      rw [this]; exact hnd
    · rcases hks2 y hy with q | ⟨q, q'⟩
      · exact .inl ((hK _).trans q)
      · exact .inr ⟨(hK _).trans q, by rw [hC]; exact q'⟩
  have final : ∀ (N : List Addr) (v : Value) (s' : Shared), (∀ a ∈ N, s.heap.get? a = none) → Inv w s' → GrO (own env ++ (N ++ μ.O)) s s' → Φ' (hideAll s'.heap X') s'.heap → Bel X' s' → r.p (hideAll s'.heap X') v → R (.ok (.ret v)) s' := fun N v s' hN I' G' hΦ1 B' hp => by
    have hXX : ∀ z ∈ X, z ∈ X' := fun z hz => List.mem_cons_of_mem _ (List.mem_append_right _ hz)
    refine k v s' I' ⟨fun b o e hn h1 h2 => G'.keep b o e (fun m => ?_) h1 h2, G'.gens, G'.os⟩ ⟨fun y hy => B'.ex y (hXX y hy), B.a, B.b⟩ (hΦ _ _ _ (hid_mono hXX) hΦ1) (r.st _ _ _ (hid_mono hXX) hp)
    rcases List.mem_append.mp m with m | m
    · rw [abs b m] at e; cases e
    rcases List.mem_append.mp m with m | m
    · rw [hN b m] at e; cases e
    · exact hn m
  have key := body X' (A.deeper env) s.heap.objs.size s (fun fl s' => R (.ok (.ret (match fl with | .ret v => v | _ => .none))) s') hA.deeper (by rw [hE]; exact F)
    ⟨fun N hN v s' I' G' hΦ1 B' hp => final N v s' hN I' (hE ▸ G') hΦ1 B' hp, fun N hN v s' I' G' hΦ1 B' _ hp => final N .none s' hN I' (hE ▸ G') hΦ1 B' hp⟩
  rw [hE] at key
  exact key _ _ S

theorem fn_intro {f : Addr} {n : Nat} {ns : List Str} {ps : List VP} {r : VP} (hd : defB w.params f ns = true) (hlen : ns.length = ps.length) (hlim : nsK w.params cStatics "sys.recursionlimit" = some none)
    (hb : ∀ vs : List Value, vs.length = ns.length → bindArgs (fdK w.params f) ⟨vs, []⟩ = pure (ns.zip vs))
    (body : ∀ (X : List Addr) (A : Around) (L : Addr) (s₀ : Shared) (R : Flow → Shared → Prop), Rm A n → Fn w (callEnvC (fdK w.params f) L f) X → RetM w X (callEnvC (fdK w.params f) L f) s₀ [] (fun _ _ => True) r R →
      Bd w A X (callEnvC (fdK w.params f) L f) s₀ .no (ns.zip ps) (bodyK w.params f) R) : FnOK w (n + 1) f ps r := fun X A s R vs hA I B hv k =>
  mfn_intro (μ := .no) (Φ' := fun _ _ => True) hd hlen hlim (fun _ _ _ _ x => x) hb body X A s R vs hA I B (fun a h => by cases h) trivial hv fun v s' I' G' _ _ hp => k v s' I' (G'.gr fun z h => by cases h) hp
theorem RetM.r0 {w : World} {X : List Addr} {env : Env} {s₀ : Shared} {r : VP} {Φ : Heap → Heap → Prop} {O : List Addr} {R : Flow → Shared → Prop} (h : RetM w X env s₀ O Φ r R) : RetOK w X env s₀ O Φ r .ret R := h.ret [] fun a h => by cases h
end
end Mine
end

section
open PySem PySem.Calls PyProof.Rows PySem.W
set_option Elab.async false
set_option maxRecDepth 100000
set_option linter.unusedVariables false
namespace Mine
noncomputable section
variable {w : World}
theorem lim_K : nsK w.params cStatics "sys.recursionlimit" = some none := by kernel_rfl
theorem isub_B : defB w.params 238 ["a", "b"] = true := by kernel_rfl
theorem isub_bind (vs : List Value) (h : vs.length = 2) : bindArgs (fdK w.params 238) ⟨vs, []⟩ = pure ((["a", "b"] : List Str).zip vs) := by
  match vs, h with
  | [a, b], _ => kernel_rfl
theorem isub_ok {a b : Int} : FnOK w 1 238 [vInt a, vInt b] (vInt (a - b)) := by
  refine fn_intro (ns := ["a", "b"]) isub_B rfl lim_K isub_bind fun X A L s₀ R hA F hR => ?_
  exact bd_aug F (x := "a") (p := vInt a) (.head _) (ev_name F.ok (x := "b") (p := vInt b) (.tail _ (.head _))) op_isubI (bd_ret (ev_name F.ok (x := "a") (.head _)) hR.r0)
theorem iadd_B : defB w.params 224 ["a", "b"] = true := by kernel_rfl
theorem iadd_bind (vs : List Value) (h : vs.length = 2) : bindArgs (fdK w.params 224) ⟨vs, []⟩ = pure ((["a", "b"] : List Str).zip vs) := by
  match vs, h with
  | [a, b], _ => kernel_rfl
theorem iaddI_ok {a b : Int} : FnOK w 1 224 [vInt a, vInt b] (vInt (a + b)) := by
  refine fn_intro (ns := ["a", "b"]) iadd_B rfl lim_K iadd_bind fun X A L s₀ R hA F hR => ?_
  exact bd_aug F (x := "a") (p := vInt a) (.head _) (ev_name F.ok (x := "b") (p := vInt b) (.tail _ (.head _))) op_iaddI (bd_ret (ev_name F.ok (x := "a") (.head _)) hR.r0)
theorem iaddS_ok {a b : Str} (hz : a.length + b.length ≤ sizeLine) : FnOK w 1 224 [vStr a, vStr b] (vStr (a ++ b)) := by
  refine fn_intro (ns := ["a", "b"]) iadd_B rfl lim_K iadd_bind fun X A L s₀ R hA F hR => ?_
  exact bd_aug F (x := "a") (p := vStr a) (.head _) (ev_name F.ok (x := "b") (p := vStr b) (.tail _ (.head _))) (op_iaddS hz) (bd_ret (ev_name F.ok (x := "a") (.head _)) hR.r0)
end
end Mine
end

section
open PySem PySem.Calls PyProof.Rows PySem.W
set_option Elab.async false
set_option maxRecDepth 100000
set_option linter.unusedVariables false
namespace Mine
noncomputable section
variable {w : World} {A : Around} {X : List Addr} {env : Env} {Γ : Ctxt} {s₀ : Shared}

/-! ### what a for goes over -/
structure Going (w : World) (A : Around) (X : List Addr) (I : Addr) (ps : List VP) (wr fp : List Addr) (P : Nat → Value → Prop) (Z : Nat → Heap → Prop) (s : Shared) : Prop where
  W : ∀ A' : Around, A'.handled = none → Walks PG w A' I fp wr ps.length P Z
  z : Z 0 s.heap
  ex : ∀ i h, Z i h → ∀ b ∈ wr, ∃ o, h.get? b = some o
  wX : ∀ b ∈ wr, b ∈ X
  fx : ∀ b ∈ fp, b ∈ wr ∨ (b ∉ X ∧ ∃ o, s.heap.get? b = some o)
  it : ∀ i p v, ps[i]? = some p → P i v → p.p (hideAll s.heap X) v
  cl : ∃ o, s.heap.get? I = some o ∧ ["enumerate", "zip", "dict_itemiterator", "dict_reverseitemiterator", "odict_iterator", "itertools.zip_longest", "itertools.pairwise"].all (fun n => o.cls != .type n) = true ∧ ∀ i h, Z i h → ∃ o', h.get? I = some o' ∧ o'.cls = o.cls

noncomputable def Src (w : World) (A : Around) (X : List Addr) (env : Env) (Γ : Ctxt) (iter : Expr) (ps : List VP) : Prop :=
  ∀ (s : Shared) (lm cm : Str → Option Value) (E Q : Value → Shared → Prop), Inv w s → Bel X s → EnvAt env s.heap lm cm → Has env Γ lm cm (hideAll s.heap X) →
    (∀ I wr fp P Z s', Inv w s' → Gr s s' → (∀ b ∈ wr, s.heap.get? b = none) → Going w A (wr ++ X) I ps wr fp P Z s' → Q (.ref I) s') →
    wpAny (model PG w) A (eval iter env) (fun x s₁ => wpAny (model PG w) A (pyIter x) Q E s₁) E s

theorem hid_push {h : Heap} (o : Obj) : Sub (hideAll h X) (hideAll (h.push o) (h.objs.size :: X)) :=
  hid_new (fun b o' e _ => Heap.get?_push_of_some _ e) fun y hy => by
    rcases List.mem_cons.mp hy with q | q
    · right; rw [q]; exact new_none h
    · exact .inl q

theorem src_list {iter : Expr} {ps : List VP} (h : Ev w A X env Γ iter (vList ps)) : Src w A X env Γ iter ps := by
  intro s lm cm E Q I B V H k
  refine ev_use h I B V H fun v s1 I1 B1 V1 H1 G1 hp => ?_
  · obtain ⟨a, o, n, vs, rfl, ho, hc, hd, hA⟩ := hp
    have ho' := of_hideAll X ho
    have na : a ∉ X := fun m => by rw [hideAll_none X m] at ho; cases ho
    have hl : s1.heap.IsList a vs := ⟨o, ho', hc, n, hd⟩
    refine wpAny_pyIter_list hl ?_
    have hne : a ≠ s1.heap.objs.size := Nat.ne_of_lt (Heap.lt_size ho')
    have hsz : vs.size = ps.length := by rw [← hA.length]; simp
    refine k _ [s1.heap.objs.size] [s1.heap.objs.size, a] (fun i v => vs[i]? = some v) (fun i h => h.IsListIter s1.heap.objs.size a i ∧ h.IsList a vs) _ (I1.keeps _ (push_K _)) (G1.trans (Gr.keeps _ (push_K _))) (fun b hb => ?_) ⟨fun A' hA' => ?_, ?_, fun i h z b hb => ?_, fun b hb => ?_, fun b hb => ?_, fun i p v hp hv => ?_, ?_⟩
    · rw [List.mem_singleton.mp hb]; exact G1.absent I1 (new_none _)
    · rw [← hsz]; exact Walks.list hA' _ _ hne vs
    · exact ⟨⟨_, Heap.get?_push_size _ rfl, rfl, rfl⟩, hl.push _⟩
    · rw [List.mem_singleton.mp hb]; obtain ⟨o, ho, _⟩ := z.1; exact ⟨o, ho⟩
    · exact List.mem_append_left _ hb
    · rcases List.mem_cons.mp hb with q | hb
      · exact .inl (by rw [q]; exact List.mem_singleton.mpr rfl)
      · rw [List.mem_singleton.mp hb]
        refine .inr ⟨fun m => ?_, ⟨o, push_K _ _ _ ho'⟩⟩
        rcases List.mem_append.mp m with m | m
        · exact hne (List.mem_singleton.mp m)
        · exact na m
    · obtain ⟨u, hu, hpu⟩ := (hA.st (hid_push _)).get hp
      have : u = v := by
        have e : vs.toList[i]? = some v := by rw [Array.getElem?_toList]; exact hv
        rw [e] at hu; exact (Option.some.inj hu).symm
      exact this ▸ hpu
    · exact ⟨_, Heap.get?_push_size _ rfl, rfl, fun i h z => by obtain ⟨o', ho', hc', _⟩ := z.1; exact ⟨o', ho', hc'⟩⟩
theorem src_range1 {x : Str} {np pos : Pos} {a : Expr} {n : Int} (hE : EnvOk env) (h : EvL w A X env Γ [a] [vInt n]) (hn : n < 2 ^ 62)
    (hk : env.kindOf x = some .globalImplicit) (e : nsK w.params mainGlobals x = some none) (e' : nsK w.params builtinsNs x = some (some (.type "range"))) (hplain : (backTo pos (starEach [a] env)).any (·.1) = false := by rfl) (hd : (x == ("__debug__" : Str)) = false := by rfl)
    (hlo : -(2 ^ 62) ≤ n := by omega) :
    Src w A X env Γ (.Call (.Name x np) [a] [] pos) ((List.range n.toNat).map fun (i : Nat) => vInt (i : Int)) := by
  intro s lm cm E Q I B V H k
  refine wpAny_Call_NameR (Name_function_global hE.k hk (loadBi_K hE I e e' (PySem.callWith_type hplain (evalArgs_of h hplain I B V H fun vs s1 I1 G1 hA => ?_))) hd)
  obtain ⟨v, rfl⟩ : ∃ v, vs = [v] := by
    have := hA.length
    match vs, this with
    | [v], _ => exact ⟨v, rfl⟩
  obtain ⟨⟨t, rfl⟩, _⟩ := hA
  · refine call_range_1 ?_
    refine wpAny_pyIter_range (IsRange.new _ 0 n 1 _ _ _) ?_ ?_
    · exact small_one (by decide) (by decide) (by omega) (by omega)
    have hz : ((List.range n.toNat).map fun i : Nat => vInt (i : Int)).length = n.toNat := by simp
    refine k _ [(s1.heap.push { cls := .type "range", data := .fields #[.int 0 s1.toks, .int n t, .int 1 (s1.toks + 1)] }).objs.size] [(s1.heap.push { cls := .type "range", data := .fields #[.int 0 s1.toks, .int n t, .int 1 (s1.toks + 1)] }).objs.size] (fun i v => i < n.toNat ∧ ∃ t, v = .int (0 + (i : Int) * 1) t) (fun i h => IsRangeIter h (s1.heap.push { cls := .type "range", data := .fields #[.int 0 s1.toks, .int n t, .int 1 (s1.toks + 1)] }).objs.size (0 + (i : Nat) * 1) ((n.toNat : Int) - (i : Nat)) 1) _
      ((I1.keeps _ (push_K _)).keeps (s := { s1 with heap := _, toks := _ }) _ (push_K (s := { s1 with heap := _, toks := _ }) _)) (G1.trans ((Gr.keeps _ (push_K _)).trans (Gr.keeps (s := { s1 with heap := _, toks := _ }) _ (push_K (s := { s1 with heap := _, toks := _ }) _))))
      (fun b hb => ?_) ⟨fun A' hA' => ?_, ?_, fun i h z b hb => ?_, fun b hb => ?_, fun b hb => .inl hb, fun i p v hp hv => ?_, ?_⟩
    · rw [List.mem_singleton.mp hb]; exact G1.absent I1 (Heap.get?_none_of_le (by rw [Heap.size_push]; exact Nat.le_succ _))
    · rw [hz]; exact (Walks.range hA' _ 0 1 n.toNat).bound
    · show Heap.get? _ _ = some _
      rw [show (0 + ((0 : Nat) : Int) * 1) = 0 by simp, show ((n.toNat : Int) - ((0 : Nat) : Int)) = Builtin.Range.rangeSize 0 n 1 by rw [rangeSize_one]; split <;> omega]
      exact Heap.get?_push_size _ rfl
    · rw [List.mem_singleton.mp hb]; exact ⟨_, z⟩
    · exact List.mem_append_left _ hb
    · obtain ⟨hi, t', rfl⟩ := hv
      rw [List.getElem?_map, List.getElem?_range hi] at hp
      cases hp
      exact ⟨t', by simp⟩
    · exact ⟨_, Heap.get?_push_size _ rfl, rfl, fun i h z => ⟨_, z, rfl⟩⟩
theorem src_range2 {x : Str} {np pos : Pos} {a b : Expr} {m n : Int} (hE : EnvOk env) (h : EvL w A X env Γ [a, b] [vInt m, vInt n]) (hn : n < 2 ^ 62)
    (hk : env.kindOf x = some .globalImplicit) (e : nsK w.params mainGlobals x = some none) (e' : nsK w.params builtinsNs x = some (some (.type "range"))) (hplain : (backTo pos (starEach [a, b] env)).any (·.1) = false := by rfl) (hd : (x == ("__debug__" : Str)) = false := by rfl)
    (hlo : -(2 ^ 62) ≤ n := by omega) (hm : m < 2 ^ 62 := by omega) (hm' : -(2 ^ 62) ≤ m := by omega) :
    Src w A X env Γ (.Call (.Name x np) [a, b] [] pos) ((List.range (n - m).toNat).map fun (i : Nat) => vInt (m + (i : Int))) := by
  intro s lm cm E Q I B V H k
  refine wpAny_Call_NameR (Name_function_global hE.k hk (loadBi_K hE I e e' (PySem.callWith_type hplain (evalArgs_of h hplain I B V H fun vs s1 I1 G1 hA => ?_))) hd)
  obtain ⟨v, u, rfl⟩ : ∃ v u, vs = [v, u] := by
    have := hA.length
    match vs, this with
    | [v, u], _ => exact ⟨v, u, rfl⟩
  obtain ⟨⟨t', rfl⟩, ⟨t, rfl⟩, _⟩ := hA
  · refine call_range_2 ?_
    refine wpAny_pyIter_range (IsRange.new _ m n 1 _ _ _) ?_ ?_
    · exact small_one hm' hm hlo hn
    have hz : ((List.range (n - m).toNat).map fun i : Nat => vInt (m + (i : Int))).length = (n - m).toNat := by simp
    refine k _ [(s1.heap.push { cls := .type "range", data := .fields #[.int m t', .int n t, .int 1 s1.toks] }).objs.size] [(s1.heap.push { cls := .type "range", data := .fields #[.int m t', .int n t, .int 1 s1.toks] }).objs.size] (fun i v => i < (n - m).toNat ∧ ∃ t, v = .int (m + (i : Int) * 1) t) (fun i h => IsRangeIter h (s1.heap.push { cls := .type "range", data := .fields #[.int m t', .int n t, .int 1 s1.toks] }).objs.size (m + (i : Nat) * 1) (((n - m).toNat : Int) - (i : Nat)) 1) _
      ((I1.keeps _ (push_K _)).keeps (s := { s1 with heap := _, toks := _ }) _ (push_K (s := { s1 with heap := _, toks := _ }) _)) (G1.trans ((Gr.keeps _ (push_K _)).trans (Gr.keeps (s := { s1 with heap := _, toks := _ }) _ (push_K (s := { s1 with heap := _, toks := _ }) _))))
      (fun b hb => ?_) ⟨fun A' hA' => ?_, ?_, fun i h z b hb => ?_, fun b hb => ?_, fun b hb => .inl hb, fun i p v hp hv => ?_, ?_⟩
    · rw [List.mem_singleton.mp hb]; exact G1.absent I1 (Heap.get?_none_of_le (by rw [Heap.size_push]; exact Nat.le_succ _))
    · rw [hz]; exact (Walks.range hA' _ m 1 (n - m).toNat).bound
    · show Heap.get? _ _ = some _
      rw [show (m + ((0 : Nat) : Int) * 1) = m by simp, show (((n - m).toNat : Int) - ((0 : Nat) : Int)) = Builtin.Range.rangeSize m n 1 by rw [rangeSize_one]; split <;> omega]
      exact Heap.get?_push_size _ rfl
    · rw [List.mem_singleton.mp hb]; exact ⟨_, z⟩
    · exact List.mem_append_left _ hb
    · obtain ⟨hi, t', rfl⟩ := hv
      rw [List.getElem?_map, List.getElem?_range hi] at hp
      cases hp
      exact ⟨t', by simp⟩
    · exact ⟨_, Heap.get?_push_size _ rfl, rfl, fun i h z => ⟨_, z, rfl⟩⟩
theorem src_str {iter : Expr} {x : Str} (h : Ev w A X env Γ iter (vStr x)) : Src w A X env Γ iter (x.cps.toList.map fun c => vStr ⟨#[c]⟩) := by
  intro s lm cm E Q I B V H k
  refine ev_use h I B V H fun v s1 I1 B1 V1 H1 G1 hp => ?_
  · obtain ⟨t, rfl⟩ := hp
    have hz : (x.cps.toList.map fun c => vStr ⟨#[c]⟩).length = x.cps.size := by simp
    have go : ∀ (T : String) (hT : ["enumerate", "zip", "dict_itemiterator", "dict_reverseitemiterator", "odict_iterator", "itertools.zip_longest", "itertools.pairwise"].all (fun n => (Value.type T) != .type n) = true) (o : Obj) (hc : o.cls = .type T) (hf : o.isFreed = false) (hz0 : (s1.heap.push o).IsStrIter s1.heap.objs.size T x t 0),
        (∀ A' : Around, A'.handled = none → Walks PG w A' s1.heap.objs.size [s1.heap.objs.size] [s1.heap.objs.size] x.cps.size (SignAt x) (fun i h => h.IsStrIter s1.heap.objs.size T x t i)) → Q (.ref s1.heap.objs.size) { s1 with heap := s1.heap.push o } := by
      intro T hT o hc hf hz0 hW
      refine k _ [s1.heap.objs.size] [s1.heap.objs.size] (SignAt x) (fun i h => h.IsStrIter s1.heap.objs.size T x t i) _ (I1.keeps _ (push_K _)) (G1.trans (Gr.keeps _ (push_K _))) (fun b hb => ?_) ⟨fun A' hA' => ?_, hz0, fun i h z b hb => ?_, fun b hb => ?_, fun b hb => .inl hb, fun i p v hp hv => ?_, ?_⟩
      · rw [List.mem_singleton.mp hb]; exact G1.absent I1 (new_none _)
      · rw [hz]; exact hW A' hA'
      · rw [List.mem_singleton.mp hb]; obtain ⟨o, ho, _⟩ := z; exact ⟨o, ho⟩
      · exact List.mem_append_left _ hb
      · obtain ⟨c, u, hc, rfl⟩ := hv
        rw [List.getElem?_map, Array.getElem?_toList, hc] at hp
        cases hp
        exact ⟨u, rfl⟩
      · exact ⟨o, Heap.get?_push_size _ hf, by rw [hc]; exact hT, fun i h z => by obtain ⟨o', ho', hc', _⟩ := z; exact ⟨o', ho', hc'.trans hc.symm⟩⟩
    cases ha : x.cps.all (· < 128)
    · exact wpAny_pyIter_wide ha (go "str_iterator" (by decide) _ rfl rfl ⟨_, Heap.get?_push_size _ rfl, rfl, rfl⟩ fun A' hA => Walks.strWide hA _ x t)
    · exact wpAny_pyIter_ascii ha (go "str_ascii_iterator" (by decide) _ rfl rfl ⟨_, Heap.get?_push_size _ rfl, rfl, rfl⟩ fun A' hA => Walks.strAscii hA _ x t)
end
end Mine
end

section
open PySem PySem.Calls PyProof.Rows PySem.W
set_option Elab.async false
set_option maxRecDepth 100000
set_option linter.unusedVariables false
namespace Mine
noncomputable section
variable {w : World} {A : Around} {X : List Addr} {env : Env} {Γ : Ctxt} {s₀ : Shared} {μ : Mu}

theorem GrO.absent {O : List Addr} {s s' : Shared} (G : GrO O s s') (I' : Inv w s') (hO : ∀ a ∈ O, ∃ o, s'.heap.get? a = some o) {a : Addr} (h : s'.heap.get? a = none) : s.heap.get? a = none := by
  cases q : s.heap.get? a with
  | none => rfl
  | some o =>
    exfalso
    have no : ∀ b, (∃ o, s'.heap.get? b = some o) → a ≠ b := fun b ⟨o', ho⟩ e => by subst e; rw [h] at ho; cases ho
    have := G.keep a o q (fun m => no a (hO a m) rfl) (no _ I'.t1.ex.2) (no _ I'.t2.ex.2)
    rw [h] at this; cases this
theorem GrO.thenBut {s s' : Shared} {h' : Heap} {O wr : List Addr} (G : GrO O s s') (hw : ∀ b ∈ wr, s.heap.get? b = none) (hk : KeepBut wr s'.heap h') (t : Nat) : GrO O s { s' with heap := h', toks := t } :=
  ⟨fun b o e hn h1 h2 => hk b o (fun m => by rw [hw b m] at e; cases e) (G.keep b o e hn h1 h2), G.gens, G.os⟩
theorem GrO.hid {O : List Addr} {s s' : Shared} (G : GrO O s s') (hO : ∀ z ∈ O, z ∈ X) (h1 : T1 ∈ X) (h2 : T2 ∈ X) : Sub (hideAll s.heap X) (hideAll s'.heap X) :=
  hid_new (fun b o e nb => G.keep b o e (fun m => nb (hO b m)) (fun q => nb (q ▸ h1)) (fun q => nb (q ▸ h2))) fun y hy => .inl hy
theorem EnvAt.ownEx {h : Heap} {lm cm : Str → Option Value} (V : EnvAt env h lm cm) (hl : ∀ n c, (n, c) ∈ env.cells → env.kindOf n = some .cell → env.cells.lookup n = some c) : ∀ a ∈ own env, ∃ o, h.get? a = some o := fun a ha => by
  rcases List.mem_cons.mp ha with q | ha
  · rw [q]; obtain ⟨o, _, _, ho, _⟩ := V.ns; exact ⟨o, ho⟩
  · obtain ⟨⟨n, c⟩, hm, rfl⟩ := List.mem_map.mp ha
    have hm' := List.mem_filter.mp hm
    obtain ⟨o, ho, _⟩ := V.cell n c (hl n c hm'.1 (by simpa using hm'.2))
    exact ⟨o, ho⟩
theorem St.ownEx {s : Shared} (F : Fn w env X) (S : St w env X s₀ μ Γ s) : ∀ a ∈ own env, ∃ o, s.heap.get? a = some o := fun a ha => S.bel.ex a (F.sub a ha)
theorem EnvAt.but {h h' : Heap} {lm cm : Str → Option Value} {wr : List Addr} (V : EnvAt env h lm cm) (hL : env.locals ∉ wr) (hc : ∀ n c, (n, c) ∈ env.cells → c ∉ wr) (hk : KeepBut wr h h') : EnvAt env h' lm cm := by
  refine ⟨?_, fun n c e => ?_, V.off, V.apart⟩
  · obtain ⟨o, es, ep, ho, r⟩ := V.ns; exact ⟨o, es, ep, hk _ _ hL ho, r⟩
  · obtain ⟨o, ho, r⟩ := V.cell n c e; exact ⟨o, hk _ _ (hc n c (mem_of_lookup e)) ho, r⟩
theorem EnvAt.grO {s s' : Shared} {lm cm : Str → Option Value} {O : List Addr} (V : EnvAt env s.heap lm cm) (I : Inv w s) (G : GrO O s s') (hL : env.locals ∉ O) (hc : ∀ n c, (n, c) ∈ env.cells → c ∉ O) : EnvAt env s'.heap lm cm := by
  refine ⟨?_, fun n c e => ?_, V.off, V.apart⟩
  · have h1 := ns_ne V.ns I.t1
    have h2 := ns_ne V.ns I.t2
    obtain ⟨o, es, ep, ho, r⟩ := V.ns
    exact ⟨o, es, ep, G.keep _ _ ho hL h1 h2, r⟩
  · have x := V.cell n c e
    have h1 := cell_ne x I.t1
    have h2 := cell_ne x I.t2
    obtain ⟨o, ho, r⟩ := x
    exact ⟨o, G.keep _ _ ho (hc n c (mem_of_lookup e)) h1 h2, r⟩

theorem St.hiddenEx {s : Shared} (F : Fn w env X) (S : St w env X s₀ μ Γ s) : ∀ a ∈ own env ++ μ.O, ∃ o, s.heap.get? a = some o := fun a ha => by
  rcases List.mem_append.mp ha with ha | ha
  · exact S.bel.ex a (F.sub a ha)
  · exact S.bel.ex a (S.mo a ha).1
theorem bd_for {x : Str} {px pos : Pos} {iter : Expr} {body rest : List Stmt} {ps : List VP} {Γs : Nat → Ctxt} {Γb : Ctxt} {O : List Addr} {μs : Nat → Mu} {μb : Mu} {Φr : Heap → Heap → Prop} {rp : VP} {R : Flow → Shared → Prop} (F : Fn w env X) (hA : A.handled = none) (hs : Src w A X env Γ iter ps) (h0 : ∀ z ∈ Γs 0, z ∈ Γ)
    (hO : ∀ i, (μs i).O = O) (hOb : μb.O = O) (hΦr : ∀ g g' h, Sub g g' → Φr g h → Φr g' h) (hR : RetOK w X env s₀ O Φr rp .ret R)
    (turn : ∀ (X' : List Addr) (i : Nat) (p : VP) (b : Shared) (R' : Flow → Shared → Prop), ps[i]? = some p → (∀ z ∈ X, z ∈ X') → Fn w env X' → (∀ s', St w env X' b (μs (i + 1)) (Γs (i + 1)) s' → R' .next s') → (∀ s', St w env X' b (μs (i + 1)) (Γs (i + 1)) s' → R' .cont s') →
      RetOK w X' env b O Φr rp .ret R' → (∀ s', St w env X' b μb Γb s' → R' .brk s') → Bd w A X' env b (μs i) ((x, p) :: dropN x (Γs i)) body R')
    (k : Bd w A X env s₀ (μs ps.length) (Γs ps.length) rest R) (kb : Bd w A X env s₀ μb Γb rest R) (hk : stB env x = true := by kernel_rfl)
    (hcl : ∀ n c, (n, c) ∈ env.cells → ∃ n', env.cells.lookup n' = some c)
    (hfs : ∀ x, foldedSetIterable iter env x = pure x := by intro _; rfl) : Bd w A X env s₀ (μs 0) Γ (.For (.Name x px) iter body [] pos :: rest) R := by
  intro s E S
  obtain ⟨lm, cm, V, H⟩ := S.ex
  refine wpAny_execs_cons (wpAny_For ?_ hfs)
  refine hs s lm cm E _ S.inv S.bel V H fun I wr fp P Z s1 I1 G1 hnew hG => ?_
  have ownS := S.hiddenEx F
  rw [hO 0] at ownS
  have T : ∀ b ∈ wr, b ∉ own env ++ O := fun b hb m => by obtain ⟨o, ho⟩ := ownS b m; rw [hnew b hb] at ho; cases ho
  have V1 := V.gr S.inv G1
  have cellsEx : ∀ n c, (n, c) ∈ env.cells → ∃ o, s.heap.get? c = some o := fun n c hm => by
    obtain ⟨n', hn'⟩ := hcl n c hm
    obtain ⟨o, ho, _⟩ := V.cell n' c hn'
    exact ⟨o, ho⟩
  have hLw : env.locals ∉ wr := fun m => T _ m (List.mem_append_left _ List.mem_cons_self)
  have hOw : ∀ a ∈ O, a ∉ wr := fun a ha m => T _ m (List.mem_append_right _ ha)
  have mo := S.mo
  rw [hO 0] at mo
  have gr0 : GrO (own env ++ O) s₀ s := hO 0 ▸ S.gr
  have hCw : ∀ n c, (n, c) ∈ env.cells → c ∉ wr := fun n c hm m => by obtain ⟨o, ho⟩ := cellsEx n c hm; rw [hnew c m] at ho; cases ho
  have hw0 : ∀ b ∈ wr, s₀.heap.get? b = none := fun b hb => gr0.absent S.inv ownS (hnew b hb)
  have hOff : ∀ b ∈ wr, Off w b := fun b hb => off_new S.inv (hnew b hb)
  have hXX : ∀ z ∈ X, z ∈ wr ++ X := fun z hz => List.mem_append_right _ hz
  have F' : Fn w env (wr ++ X) := F.mono hXX
  have B1 : Bel (wr ++ X) s1 := ⟨fun y hy => by
    rcases List.mem_append.mp hy with hy | hy
    · exact hG.ex 0 _ hG.z y hy
    · exact (S.bel.gr I1 G1).ex y hy, hXX _ S.bel.a, hXX _ S.bel.b⟩
  have fpOwn : ∀ b ∈ fp, b ∉ own env ++ O ∧ b ≠ T1 ∧ b ≠ T2 := fun b hb => by
    rcases hG.fx b hb with hb | ⟨hb, _⟩
    · exact ⟨T b hb, (hOff b hb).a, (hOff b hb).b⟩
    · exact ⟨fun m => hb ((List.mem_append.mp m).elim (F'.sub b) fun m => hXX _ (mo b m).1), fun q => hb (q ▸ B1.a), fun q => hb (q ▸ B1.b)⟩
  refine codeAny_forLoop (fun m s' => ∃ i, i ≤ ps.length ∧ m = ps.length - i ∧ St w env (wr ++ X) s₀ (μs i) (Γs i) s' ∧ Z i s'.heap ∧ Sub (hideAll s1.heap (wr ++ X)) (hideAll s'.heap (wr ++ X))) (fun m s' hI => ?_) ps.length
    ⟨0, Nat.zero_le _, rfl, ⟨I1, S.gr.trans G1.o, B1, (μs 0).fr _ _ _ _ (hid_new (fun b o e nb => G1.keep b o e (fun z => nb (z ▸ S.bel.a)) (fun z => nb (z ▸ S.bel.b))) fun z hz => (List.mem_append.mp hz).elim (fun hz => .inr (hnew z hz)) .inl) (fun b hb o e => G1.keep b o e (S.mo b hb).2.1.a (S.mo b hb).2.1.b) S.mu, fun a ha => ⟨hXX a (S.mo a ha).1, (S.mo a ha).2⟩, lm, cm, V1, fun y q hy => ?_⟩, hG.z, Sub.refl _⟩
  · obtain ⟨i, hi, rfl, S', hZ, hsub⟩ := hI
    obtain ⟨lm', cm', V', H'⟩ := S'.ex
    by_cases hlt : i < ps.length
    · refine (hG.W A hA).item i s' _ _ hlt hZ fun v h' tk hP hZ' hk' => ?_
      have hk'' : KeepBut wr s'.heap h' := hk'
      obtain ⟨p, hp⟩ : ∃ p, ps[i]? = some p := ⟨_, List.getElem?_eq_getElem hlt⟩
      have hv : p.p (hideAll h' (wr ++ X)) v := p.st _ _ _ (hsub.trans (hid_but hG.wX hk'')) (hG.it i p v hp hP)
      have Sa : St w env (wr ++ X) { s' with heap := h', toks := tk } (μs i) (Γs i) { s' with heap := h', toks := tk } :=
        ⟨S'.inv.but hOff hk'' _, GrO.refl _ _, S'.bel.but hk'' (hG.ex _ _ hZ') _, (μs i).fr _ _ _ _ (hid_but hG.wX hk'') (fun b hb o e => hk'' b o (hOw b (hO i ▸ hb)) e) S'.mu, S'.mo, lm', cm', V'.but hLw hCw hk'', H'.st (hid_but hG.wX hk'')⟩
      have Ga : GrO (own env ++ O) s₀ { s' with heap := h', toks := tk } := (hO i ▸ S'.gr).thenBut hw0 hk'' tk
      refine wpAny_assign_Name (st_store F' Sa hv hk fun s2 S2 => ?_)
      refine wpAny_mono (turn (wr ++ X) i p _ (fun f s3 => match f with
        | .next => ∃ m, m < ps.length - i ∧ ∃ i', i' ≤ ps.length ∧ m = ps.length - i' ∧ St w env (wr ++ X) s₀ (μs i') (Γs i') s3 ∧ Z i' s3.heap ∧ Sub (hideAll s1.heap (wr ++ X)) (hideAll s3.heap (wr ++ X))
        | .cont => ∃ m, m < ps.length - i ∧ ∃ i', i' ≤ ps.length ∧ m = ps.length - i' ∧ St w env (wr ++ X) s₀ (μs i') (Γs i') s3 ∧ Z i' s3.heap ∧ Sub (hideAll s1.heap (wr ++ X)) (hideAll s3.heap (wr ++ X))
        | .brk => ∀ E', wpAny (model PG w) A (execs rest env) R E' s3
        | .ret v => R (.ret v) s3) hp hXX F' ?_ ?_ ?_ ?_ s2 _ S2) (fun f s3 h3 => ?_) fun _ _ e => e
      · intro s3 S3
        refine ⟨ps.length - (i + 1), by omega, i + 1, hlt, rfl, ⟨S3.inv, hO (i + 1) ▸ Ga.trans (hO (i + 1) ▸ S3.gr), S3.bel, S3.mu, S3.mo, S3.ex⟩, ?_, ?_⟩
        · exact (hG.W A hA).frame _ _ _ hZ' fun b hb o e => S3.gr.keep b o e (hO (i + 1) ▸ (fpOwn b hb).1) (fpOwn b hb).2.1 (fpOwn b hb).2.2
        · exact (hsub.trans (hid_but hG.wX hk'')).trans (S3.gr.hid (fun z hz => (List.mem_append.mp hz).elim (F'.sub z) fun m => (S3.mo z m).1) B1.a B1.b)
      · intro s3 S3
        refine ⟨ps.length - (i + 1), by omega, i + 1, hlt, rfl, ⟨S3.inv, hO (i + 1) ▸ Ga.trans (hO (i + 1) ▸ S3.gr), S3.bel, S3.mu, S3.mo, S3.ex⟩, ?_, ?_⟩
        · exact (hG.W A hA).frame _ _ _ hZ' fun b hb o e => S3.gr.keep b o e (hO (i + 1) ▸ (fpOwn b hb).1) (fpOwn b hb).2.1 (fpOwn b hb).2.2
        · exact (hsub.trans (hid_but hG.wX hk'')).trans (S3.gr.hid (fun z hz => (List.mem_append.mp hz).elim (F'.sub z) fun m => (S3.mo z m).1) B1.a B1.b)
      · intro v s3 I3 G3 hΦ3 B3 hp3
        exact hR v s3 I3 (Ga.trans G3) (hΦr _ _ _ (hid_mono hXX) hΦ3) ⟨fun y hy => B3.ex y (hXX y hy), S.bel.a, S.bel.b⟩ (rp.st _ _ _ (hid_mono hXX) hp3)
      · intro s3 S3 E'
        refine kb s3 E' ⟨S3.inv, hOb ▸ Ga.trans (hOb ▸ S3.gr), ⟨fun y hy => S3.bel.ex y (hXX y hy), S.bel.a, S.bel.b⟩, μb.fr _ _ _ _ (hid_mono hXX) (fun b _ o e => e) S3.mu, fun a ha => ⟨(mo a (hOb ▸ ha)).1, (S3.mo a ha).2⟩, ?_⟩
        obtain ⟨l3, c3, V3, H3⟩ := S3.ex
        exact ⟨l3, c3, V3, H3.st (hid_mono hXX)⟩
      · cases f with
        | next => exact h3
        | cont => exact h3
        | brk => exact h3 _
        | ret v => exact h3
    · have hin : i = ps.length := by omega
      subst hin
      refine (hG.W A hA).done s' _ _ hZ fun h' tk hk' => ?_
      have hk'' : KeepBut wr s'.heap h' := hk'
      refine wpAny_execs_nil ?_
      refine k _ _ ⟨S'.inv.but hOff hk'' _, S'.gr.thenBut hw0 hk'' tk, ⟨fun y hy => ?_, S.bel.a, S.bel.b⟩, (μs ps.length).fr _ _ _ _ ((hid_but hG.wX hk'').trans (hid_mono hXX)) (fun b hb o e => hk'' b o (hOw b (hO _ ▸ hb)) e) S'.mu, fun a ha => ⟨(mo a (hO _ ▸ ha)).1, (S'.mo a ha).2⟩, lm', cm', V'.but hLw hCw hk'', ?_⟩
      · obtain ⟨o, ho⟩ := S'.bel.ex y (hXX y hy)
        refine ⟨o, hk'' y o (fun m => ?_) ho⟩
        obtain ⟨o', ho'⟩ := S.bel.ex y hy
        rw [hnew y m] at ho'; cases ho'
      · exact (H'.st (hid_but hG.wX hk'')).st (hid_mono hXX)
  · obtain ⟨u, hu, hq⟩ := H y q (h0 _ hy)
    refine ⟨u, hu, q.st _ _ _ (hid_new (fun b o e nb => G1.keep b o e (fun z => nb (z ▸ S.bel.a)) (fun z => nb (z ▸ S.bel.b))) fun z hz => ?_) hq⟩
    rcases List.mem_append.mp hz with hz | hz
    · exact .inr (hnew z hz)
    · exact .inl hz
end
end Mine
end

section
open PySem PySem.Calls PyProof.Rows PySem.W
set_option Elab.async false
set_option maxRecDepth 100000
set_option linter.unusedVariables false
namespace Mine
noncomputable section
variable {w : World} {A : Around} {X : List Addr} {env cenv : Env} {Γ : Ctxt} {s₀ : Shared} {D : Addr} {K : List Addr}

noncomputable def AccAt (h : Heap) (D : Addr) (vs : List Value) : Prop := h.IsList D vs.toArray
/-- a comprehension's state: O = [D, C] alone are turned (C: its own names) -/
structure Cs (w : World) (X : List Addr) (cenv : Env) (D : Addr) (K : List Addr) (b : Shared) (Γ : Ctxt) (ps : List VP) (s : Shared) : Prop where
  inv : Inv w s
  gr : GrO (D :: cenv.locals :: K) b s
  bel : Bel X s
  ex : ∃ lm cm, EnvAt cenv s.heap lm cm ∧ Has cenv Γ lm cm (hideAll s.heap X)
  acc : ∃ vs, AccAt s.heap D vs ∧ All2 (hideAll s.heap X) ps vs
/-- what a comprehension's place is -/
structure Cp (w : World) (X : List Addr) (cenv : Env) (D : Addr) (K : List Addr) : Prop where
  ok : EnvOk cenv
  oD : Off w D
  oC : Off w cenv.locals
  ne : D ≠ cenv.locals
  xD : D ∈ X
  xC : cenv.locals ∈ X
  oK : ∀ a ∈ K, Off w a
  xK : ∀ a ∈ K, a ∈ X
  cell : ∀ n c, (n, c) ∈ cenv.cells → c ≠ D ∧ ∃ n', cenv.cells.lookup n' = some c
theorem Cp.mono {Y : List Addr} (P : Cp w X cenv D K) (h : ∀ z ∈ X, z ∈ Y) : Cp w Y cenv D K := ⟨P.ok, P.oD, P.oC, P.ne, h _ P.xD, h _ P.xC, P.oK, fun a m => h a (P.xK a m), P.cell⟩
theorem Cs.sub {b : Shared} {Δ : Ctxt} {ps : List VP} {s : Shared} (S : Cs w X cenv D K b Γ ps s) (h : ∀ z ∈ Δ, z ∈ Γ) : Cs w X cenv D K b Δ ps s :=
  ⟨S.inv, S.gr, S.bel, let ⟨lm, cm, V, H⟩ := S.ex; ⟨lm, cm, V, fun x p m => H x p (h _ m)⟩, S.acc⟩
theorem Cs.rebase {a b : Shared} {ps : List VP} {s : Shared} (S : Cs w X cenv D K b Γ ps s) (G : GrO (D :: cenv.locals :: K) a b) : Cs w X cenv D K a Γ ps s := ⟨S.inv, G.trans S.gr, S.bel, S.ex, S.acc⟩
theorem Cs.step {b : Shared} {ps : List VP} {s s' : Shared} (P : Cp w X cenv D K) (S : Cs w X cenv D K b Γ ps s) (I : Inv w s') (G : Gr s s') : Cs w X cenv D K b Γ ps s' := by
  refine ⟨I, S.gr.trans G.o, S.bel.gr I G, ?_, ?_⟩
  · obtain ⟨lm, cm, V, H⟩ := S.ex; exact ⟨lm, cm, V.gr S.inv G, H.gr S.bel G⟩
  · obtain ⟨vs, hl, hA⟩ := S.acc
    obtain ⟨o, ho, r⟩ := hl
    exact ⟨vs, ⟨o, G.keep _ _ ho P.oD.a P.oD.b, r⟩, hA.st (hid_sub S.bel G)⟩
theorem cs_ev {e : Expr} {p : VP} {ps : List VP} {b : Shared} (P : Cp w X cenv D K) (h : Ev w A X cenv Γ e p) {s : Shared} {E Q : Value → Shared → Prop} (S : Cs w X cenv D K b Γ ps s) (k : ∀ v s', Cs w X cenv D K b Γ ps s' → p.p (hideAll s'.heap X) v → Q v s') : wpAny (model PG w) A (eval e cenv) Q E s := by
  obtain ⟨lm, cm, V, H⟩ := S.ex
  exact h s lm cm E Q S.inv S.bel V H fun v s' I G hp => k v s' (S.step P I G) hp
theorem cs_te {e : Expr} {t : Bool} {ps : List VP} {b : Shared} (P : Cp w X cenv D K) (h : Te w A X cenv Γ e t) {s : Shared} {E : Value → Shared → Prop} {Q : Bool → Shared → Prop} (S : Cs w X cenv D K b Γ ps s) (k : ∀ s', Cs w X cenv D K b Γ ps s' → Q t s') : wpAny (model PG w) A (isTrue e cenv (eval e cenv)) Q E s := by
  obtain ⟨lm, cm, V, H⟩ := S.ex
  exact h s lm cm E Q S.inv S.bel V H fun s' I G => k s' (S.step P I G)
theorem two_in {a b z : Addr} (h : z ∈ [a]) : z ∈ b :: a :: K := by rw [List.mem_singleton.mp h]; exact .tail _ (.head _)
/-- a name of the comprehension's own -/
noncomputable def OwnName (cenv : Env) (K : List Addr) (x : Str) : Prop := cenv.kindOf x = some .local ∨ (cenv.kindOf x = some .cell ∧ ∃ c ∈ K, cenv.cells.lookup x = some c)
theorem cs_store {M : Model} {x : Str} {p : VP} {v : Value} {ps : List VP} {b s : Shared} {E : Value → Shared → Prop} {Q : Unit → Shared → Prop} (P : Cp w X cenv D K) (S : Cs w X cenv D K b Γ ps s) (hp : p.p (hideAll s.heap X) v)
    (hk : OwnName cenv K x) (k : ∀ s', Cs w X cenv D K b ((x, p) :: dropN x Γ) ps s' → Sub (hideAll s.heap X) (hideAll s'.heap X) → Q () s') : wpAny M A (storeName cenv x v) Q E s := by
  obtain ⟨lm, cm, V, H⟩ := S.ex
  rcases hk with hk | ⟨hk, c, hcK, hcc⟩
  · have hpq : (cenv.scope.kind == .class || (cenv.scope.kind == .module && cenv.locals != cenv.globals)) = false := by rw [P.ok.k]; rfl
    refine wpAny_storeName_local hk V.ns (fun h' hn hs => k _ ⟨S.inv.but (off1 P.oC) (.same hs) _, S.gr.trans (.but (fun z hz => two_in hz) (.same hs) _), S.bel.but (.same hs) (ex1 (let ⟨o, _, _, ho, _⟩ := hn; ⟨o, ho⟩)) _,
      ⟨fun y => if y = x then some v else lm y, cm, ⟨hn, fun n c e => ?_, V.off, V.apart⟩, fun y q hy => ?_⟩, ?_⟩ (hid_same P.xC hs)) hpq
    · exact (V.cell n c e).sameBut hs (V.off n c (mem_of_lookup e))
    · rcases List.mem_cons.mp hy with e | hy
      · cases e
        exact ⟨v, by unfold valOf; rw [hk]; simp, p.st _ _ _ (hid_same P.xC hs) hp⟩
      · obtain ⟨hy, ne⟩ := mem_dropN hy
        obtain ⟨u, hu, hq⟩ := H y q hy
        refine ⟨u, ?_, q.st _ _ _ (hid_same P.xC hs) hq⟩
        rw [← hu]
        unfold valOf
        split <;> simp [ne]
    · obtain ⟨vs, hl, hA⟩ := S.acc
      exact ⟨vs, hl.extBut hs.extBut P.ne, hA.st (hid_same P.xC hs)⟩
  · have hcX := P.xK c hcK
    refine wpAny_storeName_cell P.ok.k hk hcc (V.cell x c hcc) fun h' hv hs => k _ ⟨S.inv.but (off1 (P.oK _ hcK)) (.same hs) _, S.gr.trans (.but (fun z hz => by rw [List.mem_singleton.mp hz]; exact .tail _ (.tail _ hcK)) (.same hs) _), S.bel.but (.same hs) (ex1 (let ⟨o, ho, _⟩ := hv; ⟨o, ho⟩)) _,
      ⟨lm, fun y => if y = x then some v else cm y, ⟨?_, fun n c' e => ?_, V.off, V.apart⟩, fun y q hy => ?_⟩, ?_⟩ (hid_same hcX hs)
    · exact V.ns.sameBut hs (Ne.symm (V.off x c (mem_of_lookup hcc)))
    · by_cases hn : n = x
      · subst hn
        rw [hcc] at e
        cases e
        simpa using hv
      · have hne : c' ≠ c := fun q => hn (V.apart _ _ _ _ (mem_of_lookup e) (mem_of_lookup hcc) q)
        simpa [hn] using (V.cell n c' e).sameBut hs hne
    · rcases List.mem_cons.mp hy with e | hy
      · cases e
        exact ⟨v, by unfold valOf; rw [hk]; simp [hcc], p.st _ _ _ (hid_same hcX hs) hp⟩
      · obtain ⟨hy, ne⟩ := mem_dropN hy
        obtain ⟨u, hu, hq⟩ := H y q hy
        refine ⟨u, ?_, q.st _ _ _ (hid_same hcX hs) hq⟩
        rw [← hu]
        unfold valOf
        split <;> simp [ne]
    · obtain ⟨vs, hl, hA⟩ := S.acc
      exact ⟨vs, hl.extBut hs.extBut (Ne.symm (P.cell x c (mem_of_lookup hcc)).1), hA.st (hid_same hcX hs)⟩
/-- an item put behind -/
theorem cs_append {p : VP} {v : Value} {ps : List VP} {b s : Shared} {E : Value → Shared → Prop} {Q : Value → Shared → Prop} (P : Cp w X cenv D K) (S : Cs w X cenv D K b Γ ps s) (hp : p.p (hideAll s.heap X) v) (hz : ps.length ≤ 1000000)
    (k : ∀ s', Cs w X cenv D K b Γ (ps ++ [p]) s' → Q .none s') : wpAny (model PG w) A (call (.builtin "list.append") [.ref D, v]) Q E s := by
  obtain ⟨vs, hl, hA⟩ := S.acc
  refine wpAny_list_append hl (fun h' hl' hs => k _ ⟨S.inv.but (off1 P.oD) (.same hs) _, S.gr.trans (.but (in1 List.mem_cons_self) (.same hs) _), S.bel.but (.same hs) (ex1 (let ⟨o, ho, _⟩ := hl'; ⟨o, ho⟩)) _, ?_, ?_⟩) ?_
  · obtain ⟨lm, cm, V, H⟩ := S.ex
    refine ⟨lm, cm, V.but (fun m => P.ne (List.mem_singleton.mp m).symm) (fun n c hm m => (P.cell n c hm).1 (List.mem_singleton.mp m)) (.same hs), H.st (hid_same P.xD hs)⟩
  · refine ⟨vs ++ [v], ?_, ?_⟩
    · have : (vs ++ [v]).toArray = vs.toArray.push v := by simp
      unfold AccAt; rw [this]; exact hl'
    · exact (hA.st (hid_same P.xD hs)).append ⟨p.st _ _ _ (hid_same P.xD hs) hp, trivial⟩
  · have := hA.length
    rw [sizeLine_eq]; simp only [List.size_toArray]; omega

/-- a part of a turn: from the list so far to the list with `out` behind -/
noncomputable def InOK (w : World) (A : Around) (X : List Addr) (cenv : Env) (D : Addr) (K : List Addr) (Γ : Ctxt) (tree : Sem Unit) (out : List VP) : Prop :=
  ∀ (Y : List Addr) (ps : List VP) (s : Shared) (E : Value → Shared → Prop) (Q : Unit → Shared → Prop), (∀ z ∈ X, z ∈ Y) → Cp w Y cenv D K → Cs w Y cenv D K s Γ ps s → ps.length + out.length ≤ 1000000 →
    (∀ s', Cs w Y cenv D K s Γ (ps ++ out) s' → Q () s') → wpAny (model PG w) A tree Q E s

noncomputable def emitT (elt : Expr) (cenv : Env) (acc : Value) : Sem Unit := do let _ ← call (.builtin "list.append") [acc, ← eval elt cenv]
theorem in_emit {elt : Expr} {p : VP} (h : ∀ Y, (∀ z ∈ X, z ∈ Y) → Ev w A Y cenv Γ elt p) : InOK w A X cenv D K Γ (emitT elt cenv (.ref D)) [p] := by
  intro Y ps s E Q hY P S hz k
  unfold emitT
  refine wpAny_bind (cs_ev P (h Y hY) S fun v s1 S1 hp => wpAny_bind (cs_append P S1 hp (by simp at hz; omega) fun s2 S2 => wpAny_pure (k s2 S2)))

noncomputable def testsT (ifs : List Expr) (cenv : Env) : Sem Bool := forIn ifs true fun c r => if r = true then do let ok ← isTrue c cenv (eval c cenv); pure (ForInStep.yield ok) else pure (ForInStep.yield r)
noncomputable def TsOK (w : World) (A : Around) (X : List Addr) (cenv : Env) (Γ : Ctxt) (ifs : List Expr) (b : Bool) : Prop := match ifs with
  | [] => b = true
  | [c] => Te w A X cenv Γ c b
  | _ => False
theorem cs_tests {ifs : List Expr} {t : Bool} {ps : List VP} {b : Shared} (P : Cp w X cenv D K) (h : TsOK w A X cenv Γ ifs t) {s : Shared} {E : Value → Shared → Prop} {Q : Bool → Shared → Prop} (S : Cs w X cenv D K b Γ ps s) (k : ∀ s', Cs w X cenv D K b Γ ps s' → Q t s') : wpAny (model PG w) A (testsT ifs cenv) Q E s := by
  unfold TsOK at h
  split at h
  · subst h; exact wpAny_tests_nil (k s S)
  · exact wpAny_tests_one (cs_te P h S k)
  · exact h.elim

/-- what a comprehension's loop does with one item -/
noncomputable def afterT (elt : Expr) (gens : List Comprehension) (e : Expr) (depth : Nat) (acc : Value) (env : Env) : Sem Unit := match gens[depth + 1]? with
  | some g' => do
    let x ← eval g'.iter env
    standAt g'.iter.pos
    let x ← foldedSetIterable g'.iter env x
    let _ ← runOwn (.compStart e (depth + 1) (← holding [x] (pyIter x)) acc env) env
  | none => emitT elt env acc
theorem wpAny_compTurn {elt : Expr} {gens : List Comprehension} {scope : Scope} {pos : Pos} {depth : Nat} {it acc : Value} {env : Env} {g : Comprehension} {Q : PySem.Fin → Shared → Prop} {E : Value → Shared → Prop} {s : Shared} (hg : gens[depth]? = some g) (ha : g.is_async = 0)
    (ha' : ∀ g', gens[depth + 1]? = some g' → g'.is_async = 0)
    (h : wpAny (model PG w) A (pyNext it) (fun r s₁ => match r with
      | none => Q (.done .next) s₁
      | some v => wpAny (model PG w) A (letOwnedTupleGo g.target it v) (fun _ s₂ => wpAny (model PG w) A (assign g.target env v) (fun _ s₃ => wpAny (model PG w) A (testsT g.ifs env) (fun ok s₄ =>
          if ok = true then wpAny (model PG w) A (afterT elt gens (.ListComp elt gens scope pos) depth acc env) (fun _ s₅ => Q (.again (.compLoop (.ListComp elt gens scope pos) depth it acc env)) s₅) E s₄
          else Q (.again (.compLoop (.ListComp elt gens scope pos) depth it acc env)) s₄) E s₃) E s₂) E s₁) E s) :
    wpAny (model PG w) A (compTurn (.ListComp elt gens scope pos) depth it acc env) Q E s := by
  unfold compTurn
  simp only [hg, ha]
  refine wpAny_bind (wpAny_standAt (wpAny_bind ?_))
  show wpAny (model PG w) A (pyNext it) _ E s
  refine wpAny_mono h (fun r s₁ h₁ => ?_) fun _ _ e => e
  cases r with
  | none => exact wpAny_pure h₁
  | some v =>
    refine wpAny_bind (wpAny_mono h₁ (fun _ s₂ h₂ => wpAny_bind (wpAny_mono h₂ (fun _ s₃ h₃ => wpAny_bind (wpAny_mono h₃ (fun ok s₄ h₄ => ?_) fun _ _ e => e)) fun _ _ e => e)) fun _ _ e => e)
    cases ok with
    | false => exact wpAny_pure h₄
    | true =>
      have h₄ : wpAny (model PG w) A (afterT elt gens (.ListComp elt gens scope pos) depth acc env) (fun _ s₅ => Q (.again (.compLoop (.ListComp elt gens scope pos) depth it acc env)) s₅) E s₄ := h₄
      unfold afterT at h₄
      simp only [if_true]
      cases q : gens[depth + 1]? with
      | none =>
        rw [q] at h₄
        exact wpAny_bind (wpAny_mono h₄ (fun _ s₅ h₅ => wpAny_pure h₅) fun _ _ e => e)
      | some g' =>
        rw [q] at h₄
        have := ha' g' q
        simp only [this]
        have h₄ : wpAny (model PG w) A (do
            let x ← eval g'.iter env
            standAt g'.iter.pos
            let x ← foldedSetIterable g'.iter env x
            let _ ← runOwn (.compStart (.ListComp elt gens scope pos) (depth + 1) (← holding [x] (pyIter x)) acc env) env) (fun _ s₅ => Q (.again (.compLoop (.ListComp elt gens scope pos) depth it acc env)) s₅) E s₄ := h₄
        have := wpAny_bind (f := fun _ => again (.compLoop (.ListComp elt gens scope pos) depth it acc env)) (Q := Q) (wpAny_mono h₄ (fun _ s₅ h₅ => wpAny_pure h₅) fun _ _ e => e)
        simpa [bind_assoc] using this
end
end Mine
end

section
open PySem PySem.Calls PyProof.Rows PySem.W
set_option Elab.async false
set_option maxRecDepth 100000
set_option linter.unusedVariables false
namespace Mine
noncomputable section
variable {w : World} {A : Around} {X Y : List Addr} {env cenv : Env} {Γ : Ctxt} {s₀ : Shared} {D : Addr} {K : List Addr}

theorem letOwned_none {M : Model} {target : Expr} {I : Addr} {v : Value} {o : Obj} {s : Shared} {E : Value → Shared → Prop} {Q : Unit → Shared → Prop} (ho : s.heap.get? I = some o)
    (hc : ["enumerate", "zip", "dict_itemiterator", "dict_reverseitemiterator", "odict_iterator", "itertools.zip_longest", "itertools.pairwise"].all (fun n => o.cls != .type n) = true) (h : Q () s) : wpAny M A (letOwnedTupleGo target (.ref I) v) Q E s := by
  unfold letOwnedTupleGo
  have key : wpAny M A (do
      let (.ref r, .ref a) := (Value.ref I, v) | return
      let o ← load r
      match o.cls, o.data with
      | .type n, .fields vs =>
        if ["enumerate", "zip", "dict_itemiterator", "dict_reverseitemiterator", "odict_iterator", "itertools.zip_longest", "itertools.pairwise"].contains n && vs[0]? == some (rawInt a) then
          rule "for.unpacks-the-owned-tuple"
          updateField r 0 .none
      | _, _ => pure ()) Q E s := by
    cases v with
    | ref a =>
      refine wpAny_bind (wpAny_load ho ?_)
      split
      · rename_i n vs hcls hdat
        have hf : ["enumerate", "zip", "dict_itemiterator", "dict_reverseitemiterator", "odict_iterator", "itertools.zip_longest", "itertools.pairwise"].contains n = false := by
          cases q : ["enumerate", "zip", "dict_itemiterator", "dict_reverseitemiterator", "odict_iterator", "itertools.zip_longest", "itertools.pairwise"].contains n with
          | false => rfl
          | true =>
            have m : n ∈ ["enumerate", "zip", "dict_itemiterator", "dict_reverseitemiterator", "odict_iterator", "itertools.zip_longest", "itertools.pairwise"] := by simpa using q
            have := List.all_eq_true.mp hc n m
            rw [hcls] at this
            simp at this
        simp only [hf, Bool.false_and, Bool.false_eq_true, if_false]
        exact wpAny_pure h
      · exact wpAny_pure h
    | _ => exact wpAny_pure h
  split <;> first | exact key | exact wpAny_pure h

/-- what a comprehension goes over: a step hands out an item, of which the source holds no more -/
structure GoT (w : World) (A : Around) (X : List Addr) (target : Expr) (I : Addr) (ps : List VP) (wr fp : List Addr) (Z : Nat → Heap → Prop) (s : Shared) : Prop where
  sub : ∀ b ∈ wr, b ∈ fp
  frame : ∀ i h h', Z i h → (∀ b ∈ fp, ∀ o, h.get? b = some o → h'.get? b = some o) → Z i h'
  step : ∀ (Y : List Addr) (i : Nat) (p : VP) (s₁ : Shared) (E : Value → Shared → Prop) (Q : Value → Shared → Prop), ps[i]? = some p → Z i s₁.heap → (∀ b ∈ wr, b ∈ Y) → Sub (hideAll s.heap X) (hideAll s₁.heap Y) → (∀ y ∈ Y, ∃ o, s₁.heap.get? y = some o) →
    (∀ v h' tk, p.p (hideAll h' Y) v → Z (i + 1) h' → KeepBut wr s₁.heap h' → Q v { s₁ with heap := h', toks := tk }) →
    wpAny (model PG w) A (pyNext (.ref I)) (fun r s₂ => ∃ v, r = some v ∧ wpAny (model PG w) A (letOwnedTupleGo target (.ref I) v) (fun _ s₃ => Q v s₃) E s₂) E s₁
  done : ∀ (s₁ : Shared) (E : Value → Shared → Prop) (Q : Option Value → Shared → Prop), Z ps.length s₁.heap → (∀ h' tk, KeepBut wr s₁.heap h' → Q none { s₁ with heap := h', toks := tk }) → wpAny (model PG w) A (pyNext (.ref I)) Q E s₁
  self : ∀ i (s₁ : Shared) (Q : Value → Shared → Prop) (E : Value → Shared → Prop), Z i s₁.heap → Q (.ref I) s₁ → wpAny (model PG w) A (pyIter (.ref I)) Q E s₁
  z : Z 0 s.heap
  ex : ∀ i h, Z i h → ∀ b ∈ wr, ∃ o, h.get? b = some o
  wX : ∀ b ∈ wr, b ∈ X
  fx : ∀ b ∈ fp, b ∈ wr ∨ (b ∉ X ∧ ∃ o, s.heap.get? b = some o)

noncomputable def SrcT (w : World) (A : Around) (X : List Addr) (env : Env) (Γ : Ctxt) (target iter : Expr) (ps : List VP) : Prop :=
  ∀ (s : Shared) (lm cm : Str → Option Value) (E Q : Value → Shared → Prop), Inv w s → Bel X s → EnvAt env s.heap lm cm → Has env Γ lm cm (hideAll s.heap X) →
    (∀ I wr fp Z s', Inv w s' → Gr s s' → (∀ b ∈ wr, s.heap.get? b = none) → GoT w A (wr ++ X) target I ps wr fp Z s' → Q (.ref I) s') →
    wpAny (model PG w) A (eval iter env) (fun x s₁ => wpAny (model PG w) A (pyIter x) Q E s₁) E s
theorem Going.toT (hA : A.handled = none) {target : Expr} {I : Addr} {ps : List VP} {wr fp : List Addr} {P : Nat → Value → Prop} {Z : Nat → Heap → Prop} {s : Shared} (G : Going w A X I ps wr fp P Z s) : GoT w A X target I ps wr fp Z s := by
  have W := G.W A hA
  refine ⟨W.sub, W.frame, fun Y i p s₁ E Q hp hZ hY hs hex k => ?_, fun s₁ E Q hZ k => W.done s₁ Q E hZ fun h' tk hk => k h' tk hk, fun i s₁ Q E hZ h => W.self i s₁ Q E hZ h, G.z, G.ex, G.wX, G.fx⟩
  obtain ⟨hlt, _⟩ := List.getElem?_eq_some_iff.mp hp
  refine W.item i s₁ _ E hlt hZ fun v h' tk hP hZ' hk => ⟨v, rfl, ?_⟩
  obtain ⟨o, _, hc, hz⟩ := G.cl
  obtain ⟨o', ho', hc'⟩ := hz _ _ hZ'
  have hk' : KeepBut wr s₁.heap h' := hk
  exact letOwned_none ho' (by rw [hc']; exact hc) (k v h' tk (p.st _ _ _ (hs.trans (hid_but hY hk')) (G.it i p v hp hP)) hZ' hk')
theorem srcT_of (hA : A.handled = none) {target iter : Expr} {ps : List VP} (h : Src w A X env Γ iter ps) : SrcT w A X env Γ target iter ps := fun s lm cm E Q I B V H k =>
  h s lm cm E Q I B V H fun J wr fp P Z s' I' G' hn hG => k J wr fp Z s' I' G' hn (hG.toT hA)

/-- what a target binds -/
inductive TgOK (cenv : Env) (K : List Addr) : Expr → VP → Ctxt → Prop
  | name {x : Str} {px : Pos} {p : VP} : OwnName cenv K x → TgOK cenv K (.Name x px) p [(x, p)]
  | pair {x y : Str} {px py pt : Pos} {kt : Nat} {p q : VP} : OwnName cenv K x → OwnName cenv K y → x ≠ y → TgOK cenv K (.Tuple [.Name x px, .Name y py] kt pt) (vTup [p, q]) [(y, q), (x, p)]

theorem dropN_id {x : Str} (h : ∀ z ∈ Γ, z.1 ≠ x) : ∀ z ∈ Γ, z ∈ dropN x Γ := fun z hz => List.mem_filter.mpr ⟨hz, by simpa using h z hz⟩
theorem cs_bind {M : Model} {x : Str} {p : VP} {v : Value} {ps : List VP} {b s : Shared} {px : Pos} {E : Value → Shared → Prop} {Q : Unit → Shared → Prop} (P : Cp w X cenv D K) (S : Cs w X cenv D K b Γ ps s) (hp : p.p (hideAll s.heap X) v)
    (hk : OwnName cenv K x) (hx : ∀ z ∈ Γ, z.1 ≠ x) (k : ∀ s', Cs w X cenv D K b ((x, p) :: Γ) ps s' → Sub (hideAll s.heap X) (hideAll s'.heap X) → Q () s') : wpAny M A (assign (.Name x px) cenv v) Q E s :=
  wpAny_assign_Name (cs_store P S hp hk fun s' S' hs' => k s' (S'.sub fun z hz => by
    rcases List.mem_cons.mp hz with q | q
    · exact q ▸ List.mem_cons_self
    · exact List.mem_cons_of_mem _ (dropN_id hx z q)) hs')
theorem cs_target {target : Expr} {p : VP} {bs : Ctxt} {v : Value} {ps : List VP} {b s : Shared} {E : Value → Shared → Prop} {Q : Unit → Shared → Prop} (hA : A.handled = none) (P : Cp w X cenv D K) (T : TgOK cenv K target p bs) (S : Cs w X cenv D K b Γ ps s) (hp : p.p (hideAll s.heap X) v)
    (hx : ∀ z ∈ Γ, ∀ y ∈ bs, z.1 ≠ y.1) (k : ∀ s', Cs w X cenv D K b (bs ++ Γ) ps s' → Q () s') : wpAny (model PG w) A (assign target cenv v) Q E s := by
  cases T with
  | name hk => exact cs_bind P S hp hk (fun z hz => hx z hz _ List.mem_cons_self) fun s' S' _ => k s' S'
  | @pair x y px py pt kt p q hk hk' hne =>
    obtain ⟨a, o, n, vs, rfl, ho, hc, hd, hAl⟩ := hp
    have ho' := of_hideAll X ho
    obtain ⟨v1, v2, hvs⟩ : ∃ v1 v2, vs.toList = [v1, v2] := by
      have := hAl.length
      match vs.toList, this with
      | [v1, v2], _ => exact ⟨v1, v2, rfl⟩
    have hvs' : vs = #[v1, v2] := by
      apply Array.ext'
      rw [hvs]
    subst hvs'
    obtain ⟨hp1, hp2, _⟩ := hAl
    refine wpAny_assign_Tuple hA ⟨o, ho', hc, n, hd⟩ rfl rfl fun h1 hx1 => ?_
    replace hx1 : Heap.ExtBut s.heap.objs.size s.heap h1 := hx1
    have keep : ∀ b o, s.heap.get? b = some o → h1.get? b = some o := fun b o e => hx1 b o (Nat.ne_of_lt (Heap.lt_size e)) e
    have S1 : Cs w X cenv D K b Γ ps { s with heap := h1 } := S.step P (I := S.inv.keeps s.toks keep) (G := Gr.keeps s.toks keep)
    have sub1 : Sub (hideAll s.heap X) (hideAll h1 X) := hid_new (fun b o e _ => keep b o e) fun z hz => .inl hz
    show wpAny _ _ (do holding [v2] (assign (.Name x px) cenv v1); do holding [] (assign (.Name y py) cenv v2); pure ()) _ _ _
    refine wpAny_bind (wpAny_holding (cs_bind P S1 (p.st _ _ _ sub1 hp1) hk (fun z hz => hx z hz _ (.tail _ (.head _))) fun s2 S2 h2 => ?_))
    refine wpAny_bind (wpAny_holding (cs_bind P S2 (q.st _ _ _ (sub1.trans h2) hp2) hk' (fun z hz => ?_) fun s3 S3 _ => wpAny_pure (k s3 S3)))
    rcases List.mem_cons.mp hz with e | hz
    · rw [e]; exact hne
    · exact hx z hz _ List.mem_cons_self

theorem comp_loop {elt : Expr} {gens : List Comprehension} {scope : Scope} {pos : Pos} {depth : Nat} {g : Comprehension} {I : Addr} {qs : List VP} {wr fp : List Addr} {Z : Nat → Heap → Prop} {b s : Shared} {ps : List VP} {outs : List (List VP)} {R : Result → Shared → Prop}
    (hg : gens[depth]? = some g) (ha : g.is_async = 0) (ha' : ∀ g', gens[depth + 1]? = some g' → g'.is_async = 0) (hA : A.handled = none) (P₀ : Cp w X cenv D K) (hG : GoT w A (wr ++ X) g.target I qs wr fp Z s) (hXw : ∀ y ∈ X, y ∉ wr) (hT1 : T1 ∈ X) (hT2 : T2 ∈ X)
    (hw : ∀ z ∈ wr, b.heap.get? z = none) (hwD : D ∉ wr) (hwC : cenv.locals ∉ wr) (hwK : ∀ a ∈ K, a ∉ wr) (hwc : ∀ n c, (n, c) ∈ cenv.cells → c ∉ wr) (hoff : ∀ z ∈ wr, Off w z) (S : Cs w (wr ++ X) cenv D K b Γ ps s) (hlen : outs.length = qs.length) (hz : ps.length + outs.flatten.length ≤ 1000000)
    (turn : ∀ (i : Nat) (q : VP) (out : List VP), qs[i]? = some q → outs[i]? = some out → ∃ bs t, TgOK cenv K g.target q bs ∧ (∀ z ∈ Γ, ∀ y ∈ bs, z.1 ≠ y.1) ∧ TsOK w A (wr ++ X) cenv (bs ++ Γ) g.ifs t ∧ (t = true → InOK w A (wr ++ X) cenv D K (bs ++ Γ) (afterT elt gens (.ListComp elt gens scope pos) depth (.ref D) cenv) out) ∧ (t = false → out = []))
    (hR : ∀ s', Cs w X cenv D K b Γ (ps ++ outs.flatten) s' → R (.ok .next) s') : codeAny (model PG w) A (.compLoop (.ListComp elt gens scope pos) depth (.ref I) (.ref D) cenv) R s := by
  have P := P₀.mono (fun z hz => List.mem_append_right wr hz)
  generalize hY : wr ++ X = Y at *
  have fpO : ∀ z ∈ fp, z ∉ D :: cenv.locals :: K ∧ z ≠ T1 ∧ z ≠ T2 := fun z hz => by
    rcases hG.fx z hz with hm | ⟨hm, _⟩
    · refine ⟨fun m => ?_, (hoff z hm).a, (hoff z hm).b⟩
      rcases List.mem_cons.mp m with e | m
      · exact hwD (e ▸ hm)
      · rcases List.mem_cons.mp m with e | m
        · exact hwC (e ▸ hm)
        · exact hwK _ m hm
    · refine ⟨fun m => ?_, fun e => hm (e ▸ S.bel.a), fun e => hm (e ▸ S.bel.b)⟩
      rcases List.mem_cons.mp m with e | m
      · exact hm (e ▸ P.xD)
      · rcases List.mem_cons.mp m with e | m
        · exact hm (e ▸ P.xC)
        · exact hm (P.xK _ m)
  have take_succ : ∀ i out, outs[i]? = some out → (outs.take (i + 1)).flatten = (outs.take i).flatten ++ out := fun i out e => by
    rw [List.take_succ, e]; simp
  have fl_le : ∀ i, (outs.take i).flatten.length ≤ outs.flatten.length := fun i => by
    have := congrArg (fun l => (List.flatten l).length) (List.take_append_drop i outs)
    simp only [List.flatten_append, List.length_append] at this
    omega
  refine codeAny_loop' rfl (fun m s' => ∃ i, i ≤ qs.length ∧ m = qs.length - i ∧ Cs w Y cenv D K b Γ (ps ++ (outs.take i).flatten) s' ∧ Z i s'.heap ∧ Sub (hideAll s.heap Y) (hideAll s'.heap Y)) (fun m s' hI => ?_) qs.length
    ⟨0, Nat.zero_le _, rfl, by simpa using S, hG.z, Sub.refl _⟩
  obtain ⟨i, hi, rfl, S', hZ, hsub⟩ := hI
  show wpAny _ A ((compTurn (.ListComp elt gens scope pos) depth (.ref I) (.ref D) cenv).onRaise (fun x => do noteFrame x cenv; theTreesLotGoes x)) _ _ s'
  refine wpAny_noted (wpAny_compTurn hg ha ha' ?_)
  by_cases hlt : i < qs.length
  · obtain ⟨q, hq⟩ : ∃ q, qs[i]? = some q := ⟨_, List.getElem?_eq_getElem hlt⟩
    obtain ⟨out, ho⟩ : ∃ out, outs[i]? = some out := ⟨_, List.getElem?_eq_getElem (by omega)⟩
    obtain ⟨bs, t, hT, hx, hts, hin, hno⟩ := turn i q out hq ho
    refine wpAny_mono (hG.step Y i q s' _ (fun v sa => wpAny (model PG w) A (assign g.target cenv v) (fun _ s₃ => wpAny (model PG w) A (testsT g.ifs cenv) (fun ok s₄ =>
      if ok = true then wpAny (model PG w) A (afterT elt gens (.ListComp elt gens scope pos) depth (.ref D) cenv) (fun _ s₅ => _) _ s₄ else _) _ s₃) _ sa) hq hZ hG.wX hsub S'.bel.ex fun v h' tk hv hZ' hk'' => ?_) (fun r s₂ h₂ => by obtain ⟨v, rfl, h⟩ := h₂; exact h) fun _ _ e => e
    have sub1 := hid_but hG.wX hk''
    have Sa : Cs w Y cenv D K { s' with heap := h', toks := tk } Γ (ps ++ (outs.take i).flatten) { s' with heap := h', toks := tk } := by
      refine ⟨S'.inv.but hoff hk'' _, GrO.refl _ _, S'.bel.but hk'' (hG.ex _ _ hZ') _, ?_, ?_⟩
      · obtain ⟨lm, cm, V, H⟩ := S'.ex; exact ⟨lm, cm, V.but hwC hwc hk'', H.st sub1⟩
      · obtain ⟨vs, hl, hAl⟩ := S'.acc
        obtain ⟨o, hol, r⟩ := hl
        exact ⟨vs, ⟨o, hk'' _ _ hwD hol, r⟩, hAl.st sub1⟩
    have Ga : GrO (D :: cenv.locals :: K) b { s' with heap := h', toks := tk } := S'.gr.thenBut hw hk'' tk
    refine cs_target hA P hT Sa hv hx fun s2 S2 => ?_
    refine cs_tests P hts S2 fun s3 S3 => ?_
    have back : ∀ s4, Cs w Y cenv D K { s' with heap := h', toks := tk } Γ (ps ++ (outs.take (i + 1)).flatten) s4 →
        ((Code.compLoop (.ListComp elt gens scope pos) depth (.ref I) (.ref D) cenv = Code.compLoop (.ListComp elt gens scope pos) depth (.ref I) (.ref D) cenv ∧ ∃ m, m < qs.length - i ∧ ∃ i', i' ≤ qs.length ∧ m = qs.length - i' ∧ Cs w Y cenv D K b Γ (ps ++ (outs.take i').flatten) s4 ∧ Z i' s4.heap ∧ Sub (hideAll s.heap Y) (hideAll s4.heap Y)) ∨
          ((Code.compLoop (.ListComp elt gens scope pos) depth (.ref I) (.ref D) cenv).quiet = true ∧ codeAny (model PG w) A (Code.compLoop (.ListComp elt gens scope pos) depth (.ref I) (.ref D) cenv) R s4)) := fun s4 S4 => by
      refine .inl ⟨rfl, qs.length - (i + 1), by omega, i + 1, hlt, rfl, S4.rebase Ga, ?_, ?_⟩
      · exact hG.frame _ _ _ hZ' fun z hz o e => S4.gr.keep z o e (fpO z hz).1 (fpO z hz).2.1 (fpO z hz).2.2
      · refine (hsub.trans sub1).trans (S4.gr.hid (fun z hz => ?_) S.bel.a S.bel.b)
        rcases List.mem_cons.mp hz with e | hz
        · exact e ▸ P.xD
        · rcases List.mem_cons.mp hz with e | hz
          · exact e ▸ P.xC
          · exact P.xK _ hz
    have subΓ : ∀ z ∈ Γ, z ∈ bs ++ Γ := fun z hz => List.mem_append_right _ hz
    cases t with
    | false =>
      rw [if_neg (by decide)]
      refine back s3 ?_
      rw [take_succ i out ho, hno rfl]
      rw [List.append_nil]
      exact S3.sub subΓ
    | true =>
      rw [if_pos rfl]
      refine hin rfl Y _ s3 _ _ (fun _ h => h) P ⟨S3.inv, GrO.refl _ _, S3.bel, S3.ex, S3.acc⟩ ?_ fun s4 S4 => ?_
      · have h1 := fl_le (i + 1)
        rw [take_succ i out ho] at h1
        simp only [List.length_append] at h1 ⊢
        omega
      · refine back s4 ?_
        rw [take_succ i out ho, ← List.append_assoc]
        exact (S4.sub subΓ).rebase S3.gr
  · have hin : i = qs.length := by omega
    subst hin
    refine hG.done s' _ _ hZ fun h' tk hk'' => ?_
    refine hR _ ?_
    have hall : outs.take qs.length = outs := List.take_of_length_le (by omega)
    rw [hall] at S'
    have hXY : ∀ z ∈ X, z ∈ Y := fun z hz => hY ▸ List.mem_append_right wr hz
    refine ⟨S'.inv.but hoff hk'' _, S'.gr.thenBut hw hk'' tk, ⟨fun y hy => ?_, ?_, ?_⟩, ?_, ?_⟩
    · obtain ⟨o, ho⟩ := S'.bel.ex y (hXY y hy)
      exact ⟨o, hk'' y o (hXw y hy) ho⟩
    · exact hT1
    · exact hT2
    · obtain ⟨lm, cm, V, H⟩ := S'.ex; exact ⟨lm, cm, V.but hwC hwc hk'', (H.st (hid_but hG.wX hk'')).st (hid_mono hXY)⟩
    · obtain ⟨vs, hl, hAl⟩ := S'.acc
      obtain ⟨o, hol, r⟩ := hl
      exact ⟨vs, ⟨o, hk'' _ _ hwD hol, r⟩, (hAl.st (hid_but hG.wX hk'')).st (hid_mono hXY)⟩
end
end Mine
end

section
open PySem PySem.Calls PyProof.Rows PySem.W
set_option Elab.async false
set_option maxRecDepth 100000
set_option linter.unusedVariables false
namespace Mine
noncomputable section
variable {w : World} {A : Around} {X Y : List Addr} {env cenv : Env} {Γ Γc : Ctxt} {s₀ : Shared} {D : Addr} {K : List Addr}

noncomputable def closL (env : Env) : List (Str × NameKind) → List (Str × Addr) → List (Str × Addr)
  | [], acc => acc
  | (n, k) :: r, acc => if k == .free then closL env r ((n, (env.cells.lookup n).getD 0) :: acc) else closL env r acc
noncomputable def closB (env : Env) (names : List (Str × NameKind)) : Bool := names.all fun z => z.2 != .free || (env.cells.lookup z.1).isSome
theorem closGo (f : Str × NameKind → List (Str × Addr) → Sem (ForInStep (List (Str × Addr)))) (hf : ∀ n k cs, f (n, k) cs = if k == .free then (do let c ← cellOf env n; pure (.yield ((n, c) :: cs))) else pure (.yield cs)) :
    ∀ (names : List (Str × NameKind)) (acc : List (Str × Addr)), closB env names = true → forIn names acc f = pure (closL env names acc)
  | [], acc, _ => rfl
  | (n, k) :: r, acc, h => by
    unfold closB at h
    rw [List.all_cons, Bool.and_eq_true] at h
    rw [List.forIn_cons, hf]
    unfold closL
    by_cases q : (k == .free) = true
    · rw [if_pos q, if_pos q]
      have h1 := h.1
      have q' : k = .free := by simpa using q
      subst q'
      have h1 : (env.cells.lookup n).isSome = true := by simpa using h1
      obtain ⟨c, hc⟩ := Option.isSome_iff_exists.mp h1
      rw [hc]
      have : cellOf env n = pure c := by unfold cellOf; rw [hc]
      rw [this, pure_bind, pure_bind]
      exact closGo f hf r _ h.2
    · rw [if_neg q, if_neg q, pure_bind]
      exact closGo f hf r _ h.2
theorem closureFor_of {scope : Scope} (h : closB env scope.names = true) : closureFor scope env = pure (closL env scope.names []) := by
  simp only [closureFor]
  rw [closGo (env := env) _ (fun n k cs => by cases q : k == NameKind.free <;> simp) scope.names [] h]
  rfl
theorem closL_mem : ∀ (names : List (Str × NameKind)) (acc : List (Str × Addr)), closB env names = true → (∀ z ∈ acc, env.cells.lookup z.1 = some z.2) → ∀ z ∈ closL env names acc, env.cells.lookup z.1 = some z.2
  | [], acc, _, ha => ha
  | (n, k) :: r, acc, h, ha => by
    unfold closB at h
    rw [List.all_cons, Bool.and_eq_true] at h
    unfold closL
    by_cases q : (k == .free) = true
    · rw [if_pos q]
      refine closL_mem r _ h.2 fun z hz => ?_
      rcases List.mem_cons.mp hz with e | hz
      · have h1 := h.1
        have q' : k = .free := by simpa using q
        subst q'
        have h1 : (env.cells.lookup n).isSome = true := by simpa using h1
        obtain ⟨c, hc⟩ := Option.isSome_iff_exists.mp h1
        rw [e, hc]; rfl
      · exact ha z hz
    · rw [if_neg q]
      exact closL_mem r _ h.2 ha
theorem cellsFrom_app : ∀ (names : List (Str × NameKind)) (n : Nat) (acc : List (Str × Addr)), cellsFrom n names acc = cellsFrom n names [] ++ acc
  | [], _, _ => rfl
  | (x, k) :: r, n, acc => by
    unfold cellsFrom
    split
    · rw [cellsFrom_app r (n + 1) ((x, n) :: acc), cellsFrom_app r (n + 1) [(x, n)], List.append_assoc]; rfl
    · exact cellsFrom_app r n acc

/-- a comprehension's place: its names at C, its own cells behind -/
noncomputable def cOwn (scope : Scope) (C : Addr) : List (Str × Addr) := cellsFrom (C + 1) scope.names []
noncomputable def cEnv (scope : Scope) (env : Env) (C : Addr) : Env := compEnvC scope (cOwn scope C ++ closL env scope.names []) C env
noncomputable def cK (scope : Scope) (C : Addr) : List Addr := (cOwn scope C).map (·.2)

theorem wpAny_newEnvA {M : Model} {scope : Scope} {globals : Addr} {closure : List (Str × Addr)} {qual : Str} {outer : Env} {s : Shared} {E : Value → Shared → Prop} {Q : Env → Shared → Prop}
    (hQ : Q { scope, locals := s.heap.objs.size, globals, cells := cellsFrom (s.heap.objs.size + 1) scope.names closure, qual, func := none, code := outer.code, frame := outer.frame, builtins := outer.builtins } { s with heap := pushCells (s.heap.push { cls := .type "dict", data := .dict #[] }) scope.names }) :
    wpAny M A (newFunctionEnv scope globals closure [] qual none .none (some outer)) Q E s := by
  simp only [newFunctionEnv, Option.isSome_some, if_true]
  refine wpAny_bind (wpAny_alloc ?_)
  refine wpAny_bind (wpAny_layCells _ (fun name kind cells => by cases hkc : kind == NameKind.cell <;> simp [hkc]) _ _ _ _ ?_)
  rw [show ({ s with heap := s.heap.push { cls := .type "dict", data := .dict #[] } } : Shared).heap.objs.size = s.heap.objs.size + 1 from Heap.size_push ..]
  exact wpAny_bind (wpAny_pure (wpAny_pure hQ))

/-- the source's facts, with more hidden -/
theorem GoT.more {target : Expr} {I : Addr} {ps : List VP} {wr fp : List Addr} {Z : Nat → Heap → Prop} {s s' : Shared} (G : GoT w A X target I ps wr fp Z s) (hk : ∀ b o, s.heap.get? b = some o → s'.heap.get? b = some o)
    (hY : ∀ b ∈ X, b ∈ Y) (hN : ∀ b ∈ Y, b ∈ X ∨ s.heap.get? b = none) : GoT w A Y target I ps wr fp Z s' := by
  refine ⟨G.sub, G.frame, fun Y' i p s₁ E Q hp hZ hY' hs hex k => G.step Y' i p s₁ E Q hp hZ hY' (Sub.trans (hid_new (fun b o e _ => hk b o e) hN) hs) hex k, G.done, G.self, G.frame _ _ _ G.z fun b _ o e => hk b o e, G.ex, fun b hb => hY b (G.wX b hb), fun b hb => ?_⟩
  rcases G.fx b hb with h | ⟨h, o, ho⟩
  · exact .inl h
  · refine .inr ⟨fun m => ?_, o, hk b o ho⟩
    rcases hN b m with q | q
    · exact h q
    · rw [q] at ho; cases ho
end
end Mine
end

section
open PySem PySem.Calls PyProof.Rows PySem.W
set_option Elab.async false
set_option maxRecDepth 100000
set_option linter.unusedVariables false
namespace Mine
noncomputable section
variable {w : World} {A : Around} {X Y : List Addr} {env cenv : Env} {Γ Γc : Ctxt} {s₀ : Shared} {D : Addr} {K : List Addr}

noncomputable def compB (env : Env) (scope : Scope) : Bool := scope.kind == .function && closB env scope.names && (scope.names.all fun z => z.2 != .local || scope.names.lookup z.1 == some .local) && decide (((cOwn scope 0 ++ closL env scope.names []).map (·.1)).Nodup)
/-- a name of the env's that a comprehension sees -/
noncomputable def visB (env : Env) (scope : Scope) (x : Str) : Bool := (env.kindOf x == some .cell || env.kindOf x == some .free) && ((cOwn scope 0).lookup x).isNone && ((closL env scope.names []).lookup x).isSome &&
  ((relabel scope env).names.lookup x == some .cell || (relabel scope env).names.lookup x == some .free)
theorem lookup_app {l l' : List (Str × Addr)} {x : Str} : (l ++ l').lookup x = match l.lookup x with | some c => some c | none => l'.lookup x := by
  induction l with
  | nil => rfl
  | cons a l ih =>
    obtain ⟨n, c⟩ := a
    rw [List.cons_append, List.lookup_cons, List.lookup_cons]
    cases x == n
    · exact ih
    · rfl
theorem lookup_some_of {l : List (Str × Addr)} {f : Str → Option Addr} (h : ∀ z ∈ l, f z.1 = some z.2) {n : Str} {c : Addr} (hm : (n, c) ∈ l) : l.lookup n = some c := by
  induction l with
  | nil => cases hm
  | cons a l ih =>
    obtain ⟨n', c'⟩ := a
    rw [List.lookup_cons]
    cases q : n == n' with
    | true =>
      have e := beq_iff_eq.mp q
      subst e
      have h1 := h _ List.mem_cons_self
      have h2 := h _ hm
      rw [h1] at h2
      exact h2
    | false =>
      rcases List.mem_cons.mp hm with e | hm
      · cases e; simp at q
      · exact ih (fun z hz => h z (List.mem_cons_of_mem _ hz)) hm

theorem comp_env {scope : Scope} {h h' : Heap} {lm cm : Str → Option Value} {C : Addr} (hB : compB env scope = true) (V : EnvAt env h lm cm) (hlt : ∀ b o, h.get? b = some o → b < C)
    (hk : ∀ b o, h.get? b = some o → h'.get? b = some o) (hn : h'.Ns C fun _ => none) (ok : CellsOk h' (C + 1) (cOwn scope C)) :
    EnvAt (cEnv scope env C) h' (fun _ => none) (fun x => if ((cOwn scope C).lookup x).isSome then none else cm x) ∧
      (∀ n c, (n, c) ∈ (cEnv scope env C).cells → (c ∈ cK scope C ∨ ∃ o, h.get? c = some o) ∧ ∃ n', (cEnv scope env C).cells.lookup n' = some c) := by
  unfold compB at hB
  simp only [Bool.and_eq_true] at hB
  have hcl := closL_mem (env := env) scope.names [] hB.1.1.2 (fun z hz => by cases hz)
  have cells : (cEnv scope env C).cells = cOwn scope C ++ closL env scope.names [] := rfl
  have old : ∀ n c, (n, c) ∈ closL env scope.names [] → ∃ o, h.get? c = some o := fun n c hm => by
    obtain ⟨o, ho, _⟩ := V.cell n c (hcl _ hm); exact ⟨o, ho⟩
  have own : ∀ n c, (n, c) ∈ cOwn scope C → C + 1 ≤ c := fun n c hm => (ok.empty n c hm).2
  have nd : ∀ n c, (n, c) ∈ (cEnv scope env C).cells → (cEnv scope env C).cells.lookup n = some c := fun n c hm => by
    refine lookup_of_mem_nodup ?_ hm
    have h2 := of_decide_eq_true hB.2
    rw [cells, List.map_append]
    rw [List.map_append] at h2
    rw [show (cOwn scope C).map (·.1) = (cOwn scope 0).map (·.1) from cellsFrom_names scope.names (C + 1) (0 + 1) [] [] rfl]
    exact h2
  refine ⟨⟨hn, fun n c e => ?_, fun n c hm => ?_, fun n c n' c' hm hm' e => ?_⟩, fun n c hm => ?_⟩
  · rw [cells, lookup_app] at e
    cases q : (cOwn scope C).lookup n with
    | some c' =>
      rw [q] at e
      cases e
      simpa using (ok.empty n c (mem_of_lookup q)).1
    | none =>
      rw [q] at e
      obtain ⟨o, ho, r⟩ := V.cell n c (hcl _ (mem_of_lookup e))
      simpa using ⟨o, hk _ _ ho, r⟩
  · rw [cells, List.mem_append] at hm
    rcases hm with hm | hm
    · have := own n c hm; exact Nat.ne_of_gt this
    · obtain ⟨o, ho⟩ := old n c hm
      exact Nat.ne_of_lt (hlt _ _ ho)
  · rw [cells, List.mem_append] at hm hm'
    rcases hm with hm | hm <;> rcases hm' with hm' | hm'
    · exact name_of_addr ok.apart hm (e ▸ hm')
    · obtain ⟨o, ho⟩ := old n' c' hm'
      have h1 := own n c hm; have h2 := hlt _ _ ho; rw [e] at h1; exact absurd (Nat.lt_of_succ_le h1) (Nat.lt_asymm h2)
    · obtain ⟨o, ho⟩ := old n c hm
      have h1 := own n' c' hm'; have h2 := hlt _ _ ho; rw [← e] at h1; exact absurd (Nat.lt_of_succ_le h1) (Nat.lt_asymm h2)
    · exact V.apart _ _ _ _ (mem_of_lookup (hcl _ hm)) (mem_of_lookup (hcl _ hm')) e
  · have hm0 := hm
    rw [cells, List.mem_append] at hm
    rcases hm with hm | hm
    · refine ⟨.inl (List.mem_map.mpr ⟨_, hm, rfl⟩), ?_⟩
      exact ⟨n, nd _ _ hm0⟩
    · exact ⟨.inr (old n c hm), n, nd _ _ hm0⟩
end
end Mine
end

section
open PySem PySem.Calls PyProof.Rows PySem.W
set_option Elab.async false
set_option maxRecDepth 100000
set_option linter.unusedVariables false
namespace Mine
noncomputable section
variable {w : World} {A : Around} {X Y : List Addr} {env cenv : Env} {Γ Γc : Ctxt} {s₀ : Shared} {μ : Mu} {D : Addr} {K : List Addr}

/-- what one turn is shown to do -/
noncomputable def TurnOK (w : World) (A : Around) (Y : List Addr) (cenv : Env) (D : Addr) (K : List Addr) (Γc : Ctxt) (target : Expr) (ifs : List Expr) (after : Sem Unit) (q : VP) (out : List VP) : Prop :=
  ∃ bs t, TgOK cenv K target q bs ∧ (∀ z ∈ Γc, ∀ y ∈ bs, z.1 ≠ y.1) ∧ TsOK w A Y cenv (bs ++ Γc) ifs t ∧ (t = true → InOK w A Y cenv D K (bs ++ Γc) after out) ∧ (t = false → out = [])

theorem comp_core {elt target iter : Expr} {ifs : List Expr} {gs : List Comprehension} {scope : Scope} {pos : Pos} {qs : List VP} {outs : List (List VP)} {use : Option (Value → Sem Unit)} {s : Shared} {lm cm : Str → Option Value} {E Q : Value → Shared → Prop}
    (hA : A.handled = none) (hE : EnvOk env) (hB : compB env scope = true) (hs : SrcT w A X env Γ target iter qs) (hΓ : ∀ z ∈ Γc, z ∈ Γ ∧ visB env scope z.1 = true) (hlen : outs.length = qs.length) (hz : outs.flatten.length ≤ 1000000) (hgs : ∀ g' ∈ gs, g'.is_async = 0)
    (turn : ∀ (Y : List Addr) (D C : Addr) (i : Nat) (q : VP) (out : List VP), (∀ z ∈ X, z ∈ Y) → EnvOk (cEnv scope env C) → (∀ x c, (cOwn scope C).lookup x = some c → c ∈ cK scope C ∧ (cEnv scope env C).cells.lookup x = some c) → qs[i]? = some q → outs[i]? = some out →
      TurnOK w A Y (cEnv scope env C) D (cK scope C) Γc target ifs (afterT elt (⟨target, iter, ifs, 0⟩ :: gs) (.ListComp elt (⟨target, iter, ifs, 0⟩ :: gs) scope pos) 0 (.ref D) (cEnv scope env C)) q out)
    (I : Inv w s) (B : Bel X s) (V : EnvAt env s.heap lm cm) (H : Has env Γ lm cm (hideAll s.heap X)) (hfs : ∀ x, foldedSetIterable iter env x = pure x)
    (k : ∀ (D C : Addr) (K : List Addr) (s' : Shared), Inv w s' → GrO (D :: C :: K) s s' → (∀ a ∈ D :: C :: K, s.heap.get? a = none) → Off w C → C ≠ D → Bel X s' → (∃ m, s'.heap.Ns C m) → (∃ vs, AccAt s'.heap D vs ∧ All2 (hideAll s'.heap (D :: C :: (K ++ X))) outs.flatten vs) →
      compPost (model PG w) A E use Q (.ref D) C (.ok .next) s') :
    wpAny (model PG w) A (comprehension (.ListComp elt (⟨target, iter, ifs, 0⟩ :: gs) scope pos) scope env (firstIterPos (⟨target, iter, ifs, 0⟩ :: gs) pos) (newList []) false (eval iter env) use) Q E s := by
  have hB0 := hB
  unfold compB at hB
  simp only [Bool.and_eq_true, beq_iff_eq] at hB
  obtain ⟨⟨⟨hkind, hclo⟩, hnames⟩, hnd⟩ := hB
  refine wpAny_comprehension_free rfl hfs (closureFor_of hclo) hkind (fun x hx hl => ?_) ?_
  · have := List.all_eq_true.mp hnames x hx
    rw [hl] at this
    simpa using this
  refine hs s lm cm E _ I B V H fun It wr fp Z s1 I1 G1 hnew hG => ?_
  refine wpAny_newObj_type (wpAny_newEnvA ?_)
  rw [cellsFrom_app]
  generalize hD : s1.heap.objs.size = D
  have hC : (s1.heap.push { cls := .type "list", dict := none, data := .seq ([] : List Value).toArray }).objs.size = D + 1 := by rw [Heap.size_push, hD]
  dsimp only
  rw [hC]
  generalize hh : pushCells ((s1.heap.push { cls := .type "list", dict := none, data := .seq ([] : List Value).toArray }).push { cls := .type "dict", data := .dict #[] }) scope.names = h2
  have keep : ∀ b o, s1.heap.get? b = some o → h2.get? b = some o := fun b o e => by
    rw [← hh]; exact pushCells_keeps _ _ b o (Heap.get?_push_of_some _ (Heap.get?_push_of_some _ e))
  have hnC : h2.Ns (D + 1) fun _ => none := by
    have := (Heap.Ns.new (s1.heap.push { cls := .type "list", dict := none, data := .seq ([] : List Value).toArray }) (.type "dict")).keeps (pushCells_keeps scope.names _)
    rw [hC, hh] at this; exact this
  have hCell : CellsOk h2 (D + 1 + 1) (cOwn scope (D + 1)) := by
    have := cellsFrom_ok scope.names ((s1.heap.push { cls := .type "list", dict := none, data := .seq ([] : List Value).toArray }).push { cls := .type "dict", data := .dict #[] }) (D + 1 + 1) [] ⟨fun _ _ hm => (nomatch hm), List.Pairwise.nil⟩ (by rw [Heap.size_push, hC]; exact Nat.le_refl _)
    rw [Heap.size_push, hC, hh] at this; exact this
  have hacc : AccAt h2 D [] := by
    refine ⟨{ cls := .type "list", dict := none, data := .seq ([] : List Value).toArray }, ?_, rfl, 0, rfl⟩
    rw [← hh]; refine pushCells_keeps _ _ _ _ (Heap.get?_push_of_some _ ?_)
    rw [← hD]; exact Heap.get?_push_size _ rfl
  have new1 : ∀ a, D ≤ a → s1.heap.get? a = none := fun a ha => Heap.get?_none_of_le (by rw [hD]; exact ha)
  have Kge : ∀ a ∈ cK scope (D + 1), D + 1 + 1 ≤ a := fun a ha => by
    obtain ⟨⟨n, c⟩, hm, rfl⟩ := List.mem_map.mp ha
    exact (hCell.empty n c hm).2
  have newO : ∀ a ∈ D :: (D + 1) :: cK scope (D + 1), s1.heap.get? a = none := fun a ha => by
    rcases List.mem_cons.mp ha with e | ha
    · exact new1 a (Nat.le_of_eq e.symm)
    rcases List.mem_cons.mp ha with e | ha
    · exact new1 a (by rw [e]; exact Nat.le_succ _)
    · exact new1 a (Nat.le_trans (Nat.le_add_right D 2) (Kge a ha))
  have hlt1 : ∀ b o, s1.heap.get? b = some o → b < D + 1 := fun b o e => by have := Heap.lt_size e; rw [hD] at this; exact Nat.lt_succ_of_lt this
  have V1 := V.gr I G1
  obtain ⟨V2, hcells⟩ := comp_env hB0 V1 hlt1 keep hnC hCell
  have I2 : Inv w { s1 with heap := h2 } := I1.keeps s1.toks keep
  have G2 : Gr s { s1 with heap := h2 } := G1.trans (Gr.keeps s1.toks keep)
  let O := D :: (D + 1) :: cK scope (D + 1)
  let X2 := O ++ X
  have exO : ∀ a ∈ O, ∃ o, h2.get? a = some o := fun a ha => by
    rcases List.mem_cons.mp ha with e | ha
    · rw [e]; obtain ⟨o, ho, _⟩ := hacc; exact ⟨o, ho⟩
    rcases List.mem_cons.mp ha with e | ha
    · rw [e]; obtain ⟨o, _, _, ho, _⟩ := hnC; exact ⟨o, ho⟩
    · obtain ⟨⟨n, c⟩, hm, rfl⟩ := List.mem_map.mp ha
      obtain ⟨o, ho, _⟩ := (hCell.empty n c hm).1; exact ⟨o, ho⟩
  have exWr : ∀ b ∈ wr, ∃ o, s1.heap.get? b = some o := hG.ex _ _ hG.z
  have B2 : Bel X2 { s1 with heap := h2 } := ⟨fun a ha => by
    rcases List.mem_append.mp ha with ha | ha
    · exact exO a ha
    · exact (B.gr I2 G2).ex a ha, List.mem_append_right _ B.a, List.mem_append_right _ B.b⟩
  have offO : ∀ a ∈ O, Off w a := fun a ha => off_new I1 (newO a ha)
  have P2 : Cp w X2 (cEnv scope env (D + 1)) D (cK scope (D + 1)) := by
    refine ⟨⟨?_, hE.g, hE.b⟩, offO _ (.head _), offO _ (.tail _ (.head _)), Nat.ne_of_lt (Nat.lt_succ_self _), List.mem_append_left _ (.head _), List.mem_append_left _ (.tail _ (.head _)), fun a m => offO a (.tail _ (.tail _ m)), fun a m => List.mem_append_left _ (.tail _ (.tail _ m)), fun n c hm => ?_⟩
    · exact hkind
    · refine ⟨fun e => ?_, (hcells n c hm).2⟩
      rcases (hcells n c hm).1 with q | ⟨o, q⟩
      · have := Kge c q; rw [e] at this; exact absurd this (by omega)
      · rw [e] at q; rw [new1 D (Nat.le_refl _)] at q; cases q
  have Hc : Has (cEnv scope env (D + 1)) Γc (fun _ => none) (fun x => if ((cOwn scope (D + 1)).lookup x).isSome then none else cm x) (hideAll h2 (wr ++ X2)) := fun x p hx => by
    obtain ⟨hx1, hv⟩ := hΓ _ hx
    obtain ⟨v, e, hp⟩ := H x p hx1
    refine ⟨v, ?_, p.st _ _ _ (hid_new (fun b o e nb => G2.keep b o e (fun q => nb (q ▸ B.a)) (fun q => nb (q ▸ B.b))) fun y hy => ?_) hp⟩
    · unfold visB at hv
      simp only [Bool.and_eq_true, Bool.or_eq_true, beq_iff_eq] at hv
      obtain ⟨⟨⟨h1, h2⟩, h3⟩, h4⟩ := hv
      have h2' : (cOwn scope (D + 1)).lookup x = none := by
        have := cells_some scope.names (D + 1 + 1) (0 + 1) [] [] rfl x
        rw [show cellsFrom (D + 1 + 1) scope.names [] = cOwn scope (D + 1) from rfl, show cellsFrom (0 + 1) scope.names [] = cOwn scope 0 from rfl] at this
        rw [Option.isNone_iff_eq_none] at h2
        rw [h2] at this
        simpa using this
      have hcx : cm x = some v := by
        unfold valOf at e
        rcases h1 with q | q <;> rw [q] at e <;> (dsimp only at e; split at e) <;> first | exact e | cases e
      have hl : ((cEnv scope env (D + 1)).cells.lookup x).isSome = true := by
        show ((cOwn scope (D + 1) ++ closL env scope.names []).lookup x).isSome = true
        rw [lookup_app, h2']; exact h3
      have hkk : (cEnv scope env (D + 1)).kindOf x = some .cell ∨ (cEnv scope env (D + 1)).kindOf x = some .free := h4
      unfold valOf
      rcases hkk with q | q <;> rw [q] <;> simp [hl, h2', hcx]
    · rcases List.mem_append.mp hy with hy | hy
      · exact .inr (hnew y hy)
      rcases List.mem_append.mp hy with hy | hy
      · exact .inr (G1.absent I1 (newO y hy))
      · exact .inl hy
  have hX2n : ∀ y ∈ X2, y ∉ wr := fun y hy m => by
    rcases List.mem_append.mp hy with hy | hy
    · obtain ⟨o, ho⟩ := exWr y m; rw [newO y hy] at ho; cases ho
    · obtain ⟨o, ho⟩ := B.ex y hy; rw [hnew y m] at ho; cases ho
  have GG : GoT w A (wr ++ X2) target It qs wr fp Z { s1 with heap := h2 } := hG.more keep (fun b hb => by
      rcases List.mem_append.mp hb with hb | hb
      · exact List.mem_append_left _ hb
      · exact List.mem_append_right _ (List.mem_append_right _ hb)) fun b hb => by
      rcases List.mem_append.mp hb with hb | hb
      · exact .inl (List.mem_append_left _ hb)
      rcases List.mem_append.mp hb with hb | hb
      · exact .inr (newO b hb)
      · exact .inl (List.mem_append_right _ hb)
  have S2 : Cs w (wr ++ X2) (cEnv scope env (D + 1)) D (cK scope (D + 1)) s Γc [] { s1 with heap := h2 } := by
    refine ⟨I2, G2.o, ⟨fun a ha => ?_, List.mem_append_right _ B2.a, List.mem_append_right _ B2.b⟩, ⟨_, _, V2, Hc⟩, [], hacc, trivial⟩
    rcases List.mem_append.mp ha with ha | ha
    · obtain ⟨o, ho⟩ := exWr a ha; exact ⟨o, keep _ _ ho⟩
    · exact B2.ex a ha
  have loop : codeAny (model PG w) A (.compLoop (.ListComp elt (⟨target, iter, ifs, 0⟩ :: gs) scope pos) 0 (.ref It) (.ref D) (cEnv scope env (D + 1))) (compPost (model PG w) A E use Q (.ref D) (D + 1)) { s1 with heap := h2 } := by
    refine comp_loop (g := ⟨target, iter, ifs, 0⟩) (outs := outs) (X := X2) (depth := 0) rfl rfl (fun g' hg' => hgs g' ?_) hA P2 GG hX2n B2.a B2.b (fun z hz => hnew z hz) (fun m => hX2n _ P2.xD m) (fun m => hX2n _ P2.xC m) (fun a ha m => hX2n _ (P2.xK a ha) m) (fun n c hm m => ?_) (fun z hz => off_new I (hnew z hz)) S2 hlen (by simpa using hz) (fun i q out hq ho => ?_) (fun s' S' => ?_)
    · exact List.mem_of_getElem? hg'
    · rcases (hcells n c hm).1 with q | q
      · exact hX2n _ (P2.xK c q) m
      · obtain ⟨n', hn'⟩ := (hcells n c hm).2
        rw [show (cEnv scope env (D + 1)).cells = cOwn scope (D + 1) ++ closL env scope.names [] from rfl, lookup_app] at hn'
        cases q1 : (cOwn scope (D + 1)).lookup n' with
        | some c' =>
          rw [q1] at hn'
          cases hn'
          exact hX2n _ (P2.xK c (List.mem_map.mpr ⟨_, mem_of_lookup q1, rfl⟩)) m
        | none =>
          rw [q1] at hn'
          have := closL_mem (env := env) scope.names [] hclo (fun z hz => by cases hz) _ (mem_of_lookup hn')
          obtain ⟨o, ho, _⟩ := V.cell n' c this
          rw [hnew c m] at ho; cases ho
    · exact turn (wr ++ X2) D (D + 1) i q out (fun z hz => List.mem_append_right _ (List.mem_append_right _ hz)) P2.ok (fun x c e => ⟨List.mem_map.mpr ⟨_, mem_of_lookup e, rfl⟩, by
        rw [show (cEnv scope env (D + 1)).cells = cOwn scope (D + 1) ++ closL env scope.names [] from rfl, lookup_app, e]⟩) hq ho
    · obtain ⟨lm', cm', V', _⟩ := S'.ex
      refine k D (D + 1) (cK scope (D + 1)) s' S'.inv S'.gr (fun a ha => G1.absent I1 (newO a ha)) P2.oC (Nat.succ_ne_self D) ⟨fun a ha => S'.bel.ex a (List.mem_append_right _ ha), B.a, B.b⟩ ⟨_, V'.ns⟩ ?_
      exact S'.acc
  exact codeAny_compStart_list loop (hG.self 0 _ _ _ (hG.frame _ _ _ hG.z fun b _ o e => keep b o e) loop)

theorem comp_facts {D C : Addr} {K : List Addr} {s s' : Shared} {outs : List VP} (I : Inv w s) (I' : Inv w s') (B : Bel X s) (G : GrO (D :: C :: K) s s') (hnew : ∀ a ∈ D :: C :: K, s.heap.get? a = none) (hCD : C ≠ D) (hacc : ∃ vs, AccAt s'.heap D vs ∧ All2 (hideAll s'.heap (D :: C :: (K ++ X))) outs vs)
    {h'' : Heap} (hs : Heap.SameBut C s'.heap h'') : Inv w { s' with heap := h'' } ∧ Gr s { s' with heap := h'' } ∧ (vList outs).p (hideAll h'' (C :: X)) (.ref D) := by
  have off : ∀ a ∈ D :: C :: K, Off w a := fun a ha => off_new I (hnew a ha)
  have G' := G.gr hnew
  refine ⟨I'.but (off1 (off _ (.tail _ (.head _)))) (.same hs) _, ⟨fun b o e h1 h2 => ?_, G'.gens, G'.os⟩, ?_⟩
  · refine KeepBut.same hs b o (fun m => ?_) (G'.keep b o e h1 h2)
    rw [List.mem_singleton.mp m, hnew C (.tail _ (.head _))] at e; cases e
  · obtain ⟨vs, ⟨o, ho, hc, n, hd⟩, hAl⟩ := hacc
    have nD : D ∉ X := B.ne (hnew D (.head _))
    have nC : C ∉ X := B.ne (hnew C (.tail _ (.head _)))
    refine ⟨D, o, n, vs.toArray, rfl, hideAll_get (C :: X) (hs.extBut _ _ (Ne.symm hCD) ho) (fun m => (List.mem_cons.mp m).elim (fun e => hCD e.symm) nD), hc, hd, ?_⟩
    refine hAl.st (Sub.trans (b := hideAll h'' (D :: C :: (K ++ X))) ?_ (hid_mono fun z hz => (List.mem_cons.mp hz).elim (fun e => e ▸ .tail _ (.head _)) fun hz => .tail _ (.tail _ (List.mem_append_right _ hz))))
    exact hid_same (.tail _ (.head _)) hs

theorem ev_comp {elt target iter : Expr} {ifs : List Expr} {gs : List Comprehension} {scope : Scope} {pos : Pos} (qs : List VP) (outs : List (List VP)) (Γc : Ctxt)
    (hA : A.handled = none) (hE : EnvOk env) (hB : compB env scope = true) (hs : SrcT w A X env Γ target iter qs) (hΓ : ∀ z ∈ Γc, z ∈ Γ ∧ visB env scope z.1 = true) (hlen : outs.length = qs.length) (hz : outs.flatten.length ≤ 1000000)
    (turn : ∀ (Y : List Addr) (D C : Addr) (i : Nat) (q : VP) (out : List VP), (∀ z ∈ X, z ∈ Y) → EnvOk (cEnv scope env C) → (∀ x c, (cOwn scope C).lookup x = some c → c ∈ cK scope C ∧ (cEnv scope env C).cells.lookup x = some c) → qs[i]? = some q → outs[i]? = some out →
      TurnOK w A Y (cEnv scope env C) D (cK scope C) Γc target ifs (afterT elt (⟨target, iter, ifs, 0⟩ :: gs) (.ListComp elt (⟨target, iter, ifs, 0⟩ :: gs) scope pos) 0 (.ref D) (cEnv scope env C)) q out)
    (hgs : ∀ g' ∈ gs, g'.is_async = 0 := by (first | (intro g' h; cases h; done) | (intro g' h; simp at h; subst h; rfl)))
    (hfs : ∀ x, foldedSetIterable iter env x = pure x := by intro _; rfl) : Ev w A X env Γ (.ListComp elt (⟨target, iter, ifs, 0⟩ :: gs) scope pos) (vList outs.flatten) := by
  intro s lm cm E Q I B V H h
  rw [eval_ListComp]
  show wpAny _ A (comprehension (.ListComp elt (⟨target, iter, ifs, 0⟩ :: gs) scope pos) scope env (firstIterPos (⟨target, iter, ifs, 0⟩ :: gs) pos) (newList []) false (eval iter env)) Q E s
  refine comp_core (use := none) (Γc := Γc) hA hE hB hs hΓ hlen hz hgs turn I B V H hfs fun D C K s' I' G hnew oC hCD B' hn hacc => ?_
  obtain ⟨m, hn⟩ := hn
  refine ⟨m, hn, fun h'' hs'' => ?_⟩
  obtain ⟨h1, h2, h3⟩ := comp_facts I I' B G hnew hCD hacc hs''
  exact h _ _ h1 h2 ((vList outs.flatten).st _ _ _ (hid_mono fun z hz => .tail _ hz) h3)

theorem bd_assignComp {x : Str} {px pos spos : Pos} {elt target iter : Expr} {ifs : List Expr} {gs : List Comprehension} {scope : Scope} (qs : List VP) (outs : List (List VP)) (Γc : Ctxt) {rest : List Stmt} {R : Flow → Shared → Prop} (F : Fn w env X)
    (hA : A.handled = none) (hB : compB env scope = true) (hs : SrcT w A X env Γ target iter qs) (hΓ : ∀ z ∈ Γc, z ∈ Γ ∧ visB env scope z.1 = true) (hlen : outs.length = qs.length) (hz : outs.flatten.length ≤ 1000000)
    (turn : ∀ (Y : List Addr) (D C : Addr) (i : Nat) (q : VP) (out : List VP), (∀ z ∈ X, z ∈ Y) → EnvOk (cEnv scope env C) → (∀ x c, (cOwn scope C).lookup x = some c → c ∈ cK scope C ∧ (cEnv scope env C).cells.lookup x = some c) → qs[i]? = some q → outs[i]? = some out →
      TurnOK w A Y (cEnv scope env C) D (cK scope C) Γc target ifs (afterT elt (⟨target, iter, ifs, 0⟩ :: gs) (.ListComp elt (⟨target, iter, ifs, 0⟩ :: gs) scope pos) 0 (.ref D) (cEnv scope env C)) q out)
    (k : Bd w A X env s₀ μ ((x, vList outs.flatten) :: dropN x Γ) rest R) (hcl : ∀ n c, (n, c) ∈ env.cells → ∃ n', env.cells.lookup n' = some c) (hk : stB env x = true := by kernel_rfl)
    (hsw : swapsWith (.ListComp elt (⟨target, iter, ifs, 0⟩ :: gs) scope pos) (some (.Name x px)) spos.line env = pure true := by kernel_rfl)
    (hgs : ∀ g' ∈ gs, g'.is_async = 0 := by (first | (intro g' h; cases h; done) | (intro g' h; simp at h; subst h; rfl)))
    (hfs : ∀ x, foldedSetIterable iter env x = pure x := by intro _; rfl) : Bd w A X env s₀ μ Γ (.Assign [.Name x px] (.ListComp elt (⟨target, iter, ifs, 0⟩ :: gs) scope pos) spos :: rest) R := by
  intro s E S
  refine wpAny_execs_cons ?_
  rw [exec_Assign_Name_used _ _ _ _ hsw]
  refine wpAny_bind (wpAny_standAt (wpAny_bind ?_))
  show wpAny _ A (do let _ ← comprehension (.ListComp elt (⟨target, iter, ifs, 0⟩ :: gs) scope pos) scope env (firstIterPos (⟨target, iter, ifs, 0⟩ :: gs) pos) (newList []) false (eval iter env) (some (assign (.Name x px) env))) _ _ s
  obtain ⟨lm, cm, V, H⟩ := S.ex
  refine wpAny_bind (comp_core (use := some (assign (.Name x px) env)) (Γc := Γc) hA F.ok hB hs hΓ hlen hz hgs turn S.inv S.bel V H hfs fun D C K s' I' G hnew oC hCD B' hn hacc => ?_)
  show wpAny _ A (assign (.Name x px) env (.ref D)) _ _ s'
  obtain ⟨m, hn⟩ := hn
  obtain ⟨h1, h2, h3⟩ := comp_facts S.inv I' S.bel G hnew hCD hacc (Heap.SameBut.refl C s'.heap)
  have hCo : C ∉ own env := fun m => by
    obtain ⟨o, ho⟩ := S.bel.ex C (F.sub C m)
    rw [hnew C (.tail _ (.head _))] at ho; cases ho
  have hCX : C ∉ X := S.bel.ne (hnew C (.tail _ (.head _)))
  have hXC : ∀ z ∈ X, z ∈ C :: X := fun z hz => .tail _ hz
  have B1 := S.bel.gr h1 h2
  have subC : Sub (hideAll s.heap X) (hideAll s'.heap (C :: X)) := hid_new (fun b o e nb => h2.keep b o e (fun q => nb (q ▸ S.bel.a)) (fun q => nb (q ▸ S.bel.b))) fun y hy => by
    rcases List.mem_cons.mp hy with e | hy
    · exact .inr (e ▸ hnew C (.tail _ (.head _)))
    · exact .inl hy
  have S1 : St w env (C :: X) s' μ Γ s' := by
    refine ⟨h1, GrO.refl _ _, ⟨fun y hy => ?_, hXC _ B1.a, hXC _ B1.b⟩, μ.fr _ _ _ _ subC (fun b hb o e => h2.keep b o e (S.mo b hb).2.1.a (S.mo b hb).2.1.b) S.mu, fun a ha => ⟨hXC a (S.mo a ha).1, (S.mo a ha).2⟩, lm, cm, V.gr S.inv h2, H.st (hid_new (fun b o e nb => h2.keep b o e (fun q => nb (q ▸ S.bel.a)) (fun q => nb (q ▸ S.bel.b))) fun y hy => ?_)⟩
    · rcases List.mem_cons.mp hy with e | hy
      · rw [e]; obtain ⟨o, _, _, ho, _⟩ := hn; exact ⟨o, ho⟩
      · exact B1.ex y hy
    · rcases List.mem_cons.mp hy with e | hy
      · exact .inr (e ▸ hnew C (.tail _ (.head _)))
      · exact .inl hy
  refine wpAny_assign_Name (st_store (F.mono hXC) S1 h3 hk fun s2 S2 => ⟨m, ?_, fun h'' hs'' => ?_⟩)
  · obtain ⟨o, es, ep, ho, r⟩ := hn
    exact ⟨o, es, ep, S2.gr.keep _ _ ho (fun m => (List.mem_append.mp m).elim hCo fun m => hCX (S.mo C m).1) oC.a oC.b, r⟩
  · refine wpAny_pure (wpAny_pure (k _ E ?_))
    obtain ⟨lm2, cm2, V2, H2⟩ := S2.ex
    have kC : KeepBut [C] s2.heap h'' := .same hs''
    have ownS := S.hiddenEx F
    refine ⟨S2.inv.but (off1 oC) kC _, ((S.gr.trans h2.o).trans S2.gr).thenBut (fun b hb => ?_) kC s2.toks, ⟨fun y hy => ?_, S.bel.a, S.bel.b⟩, μ.fr _ _ _ _ ((hid_same (.head _) hs'').trans (hid_mono hXC)) (fun b hb o e => kC b o (fun m => hCX (List.mem_singleton.mp m ▸ (S.mo b hb).1)) e) S2.mu, S.mo, lm2, cm2, V2.but ?_ ?_ kC, (H2.st (hid_same (.head _) hs'')).st (hid_mono hXC)⟩
    · rw [List.mem_singleton.mp hb]; exact S.gr.absent S.inv ownS (hnew C (.tail _ (.head _)))
    · obtain ⟨o, ho⟩ := S2.bel.ex y (hXC y hy)
      exact ⟨o, kC y o (fun m => hCX (List.mem_singleton.mp m ▸ hy)) ho⟩
    · exact fun m => hCo (List.mem_singleton.mp m ▸ List.mem_cons_self)
    · intro n c hm m
      obtain ⟨n', hn'⟩ := hcl n c hm
      obtain ⟨o, ho, _⟩ := V.cell n' c hn'
      rw [List.mem_singleton.mp m, hnew C (.tail _ (.head _))] at ho; cases ho
end
end Mine
end

section
open PySem PySem.Calls PyProof.Rows PySem.W
set_option Elab.async false
set_option maxRecDepth 100000
set_option linter.unusedVariables false
namespace Mine
noncomputable section
variable {w : World} {A : Around} {X Y : List Addr} {env cenv : Env} {Γ Γc : Ctxt} {s₀ : Shared} {D : Addr} {K : List Addr}

theorem codeAny_compStart_next {elt} {gens : List Comprehension} {scope pos it acc env} {depth : Nat} {g : Comprehension} {R : Result → Shared → Prop} {s : Shared} (hg : gens[depth]? = some g) (ha : g.is_async = 0)
    (h0 : codeAny (model PG w) A (.compLoop (.ListComp elt gens scope pos) depth it acc env) R s)
    (h : wpAny (model PG w) A (pyIter it) (fun it' s' => codeAny (model PG w) A (.compLoop (.ListComp elt gens scope pos) depth it' acc env) R s')
      (notedBy (model PG w) A env fun x s' => R (.error x) s') s) :
    codeAny (model PG w) A (.compStart (.ListComp elt gens scope pos) depth it acc env) R s := by
  refine codeAny_of_tree ?_
  show wpAny _ _ ((compStart (.ListComp elt gens scope pos) depth it acc env).onRaise (fun x => do noteFrame x env; standAt theWindowsPlace)) _ _ s
  refine wpAny_notedAt ?_
  unfold compStart
  have e : (clausesOf (.ListComp elt gens scope pos))[depth]? = some g := hg
  simp only [e, Option.elim, ha]
  show wpAny _ _ (ask >>= _) _ _ s
  refine wpAny_bind (wpAny_askSetting (wpAny_ite ?_))
  split
  · first
      | exact wpAny_bind (wpAny_pure (wpAny_pure (And.intro rfl h0)))
      | exact wpAny_pure (And.intro rfl h0)
  · refine wpAny_bind (wpAny_rule ?_)
    show wpAny _ _ (standAt g.iter.pos >>= _) _ _ s
    exact wpAny_bind (wpAny_standAt (wpAny_bind (wpAny_mono h (fun it' s' h' => wpAny_pure (And.intro rfl h')) fun _ _ x => x)))

theorem in_next {elt : Expr} {gens : List Comprehension} {scope : Scope} {pos : Pos} {depth : Nat} {target iter : Expr} {ifs : List Expr} (qs : List VP) (outs : List (List VP)) (hA : A.handled = none)
    (hg : gens[depth + 1]? = some ⟨target, iter, ifs, 0⟩) (ha' : ∀ g', gens[depth + 2]? = some g' → g'.is_async = 0)
    (hs : ∀ Y, (∀ z ∈ X, z ∈ Y) → SrcT w A Y cenv Γ target iter qs) (hlen : outs.length = qs.length)
    (turn : ∀ (Y : List Addr) (i : Nat) (q : VP) (out : List VP), (∀ z ∈ X, z ∈ Y) → qs[i]? = some q → outs[i]? = some out →
      TurnOK w A Y cenv D K Γ target ifs (afterT elt gens (.ListComp elt gens scope pos) (depth + 1) (.ref D) cenv) q out)
    (hfs : ∀ x, foldedSetIterable iter cenv x = pure x := by intro _; rfl) :
    InOK w A X cenv D K Γ (afterT elt gens (.ListComp elt gens scope pos) depth (.ref D) cenv) outs.flatten := by
  intro Y ps s E Q hY P S hz k
  unfold afterT
  rw [hg]
  obtain ⟨lm, cm, V, H⟩ := S.ex
  have cellEx : ∀ n c, (n, c) ∈ cenv.cells → ∃ o, s.heap.get? c = some o := fun n c hm => by
    obtain ⟨n', hn'⟩ := (P.cell n c hm).2
    obtain ⟨o, ho, _⟩ := V.cell n' c hn'
    exact ⟨o, ho⟩
  refine wpAny_bind (wpAny_mono (hs Y hY s lm cm E (fun x s1 => wpAny (model PG w) A (do let _ ← runOwn (.compStart (.ListComp elt gens scope pos) (depth + 1) x (.ref D) cenv) cenv) Q E s1) S.inv S.bel V H fun I wr fp Z s1 I1 G1 hnew hG => ?_) (fun x s1 h1 => ?_) fun _ _ e => e)
  · have S1 := S.step P I1 G1
    have hXw : ∀ y ∈ Y, y ∉ wr := fun y hy m => by
      obtain ⟨o, ho⟩ := S.bel.ex y hy; rw [hnew y m] at ho; cases ho
    have exWr := hG.ex _ _ hG.z
    have S2 : Cs w (wr ++ Y) cenv D K s Γ ps s1 := by
      refine ⟨S1.inv, S1.gr, ⟨fun a ha => ?_, List.mem_append_right _ S1.bel.a, List.mem_append_right _ S1.bel.b⟩, ⟨lm, cm, V.gr S.inv G1, H.st (hid_new (fun b o e nb => G1.keep b o e (fun q => nb (q ▸ S.bel.a)) (fun q => nb (q ▸ S.bel.b))) fun y hy => ?_)⟩, ?_⟩
      · rcases List.mem_append.mp ha with ha | ha
        · exact exWr a ha
        · exact S1.bel.ex a ha
      · rcases List.mem_append.mp hy with hy | hy
        · exact .inr (hnew y hy)
        · exact .inl hy
      · obtain ⟨vs, hl, hAl⟩ := S.acc
        obtain ⟨o, ho, r⟩ := hl
        refine ⟨vs, ⟨o, G1.keep _ _ ho P.oD.a P.oD.b, r⟩, hAl.st (hid_new (fun b o e nb => G1.keep b o e (fun q => nb (q ▸ S.bel.a)) (fun q => nb (q ▸ S.bel.b))) fun y hy => ?_)⟩
        rcases List.mem_append.mp hy with hy | hy
        · exact .inr (hnew y hy)
        · exact .inl hy
    have loop : codeAny (model PG w) A (.compLoop (.ListComp elt gens scope pos) (depth + 1) (.ref I) (.ref D) cenv) (fun r s' => match r with | .ok f => Q () s' | .error e => cameBackBy (model PG w) A cenv E e s') s1 := by
      refine comp_loop (g := ⟨target, iter, ifs, 0⟩) (outs := outs) (X := Y) hg rfl ha' hA P hG hXw S.bel.a S.bel.b (fun z hz => hnew z hz) (fun m => hXw _ P.xD m) (fun m => hXw _ P.xC m) (fun a ha m => hXw _ (P.xK a ha) m) (fun n c hm m => ?_) (fun z hz => off_new S.inv (hnew z hz)) S2 hlen hz (fun i q out hq ho => ?_) (fun s' S' => ?_)
      · obtain ⟨o, ho⟩ := cellEx n c hm; rw [hnew c m] at ho; cases ho
      · exact turn (wr ++ Y) i q out (fun z hz => List.mem_append_right _ (hY z hz)) hq ho
      · exact k s' S'
    refine wpAny_bind (wpAny_runOwn ?_)
    refine codeAny_mono (codeAny_compStart_next (g := ⟨target, iter, ifs, 0⟩) hg rfl loop (hG.self 0 _ _ _ hG.z loop)) fun r s' hr => ?_
    cases r with
    | ok f => exact wpAny_pure hr
    | error e => exact hr
  · refine wpAny_bind (wpAny_standAt (wpAny_bind (wpAny_of_eq (hfs x) (wpAny_bind (wpAny_holding ?_)))))
    exact h1
end
end Mine
end

section
open PySem PySem.Calls PyProof.Rows PySem.W
open PySem.Builtin PySem.Builtin.Str
set_option Elab.async false
set_option maxRecDepth 100000
set_option linter.unusedVariables false
namespace Mine
noncomputable section
variable {w : World} {A : Around} {X Y : List Addr} {env cenv : Env} {Γ Γc : Ctxt} {s₀ : Shared} {μ : Mu} {D : Addr} {K : List Addr}

/-! ### a builtin called -/
noncomputable def BiOK (w : World) (A : Around) (id : String) (ps : List VP) (r : VP) : Prop :=
  ∀ (X : List Addr) (s : Shared) (E Q : Value → Shared → Prop) (vs : List Value), Inv w s → Bel X s → All2 (hideAll s.heap X) ps vs →
    (∀ v s', Inv w s' → Gr s s' → r.p (hideAll s'.heap X) v → Q v s') → wpAny (model PG w) A (call (.builtin id) vs) Q E s
theorem ev_bicall {x : Str} {np pos : Pos} {id : String} {a : List Expr} {ps : List VP} {r : VP} (hE : EnvOk env) (ha : EvL w A X env Γ a ps) (C : BiOK w A id ps r)
    (hk : env.kindOf x = some .globalImplicit) (e : nsK w.params mainGlobals x = some none) (e' : nsK w.params builtinsNs x = some (some (.builtin id)))
    (hplain : (backTo pos (starEach a env)).any (·.1) = false := by rfl) (hd : (x == ("__debug__" : Str)) = false := by rfl) :
    Ev w A X env Γ (.Call (.Name x np) a [] pos) r := fun s lm cm E Q I B V H h =>
  wpAny_Call_NameR (Name_function_global hE.k hk (loadBi_K hE I e e' (callWith_builtin hplain (evalArgs_of ha hplain I B V H fun vs s1 I1 G1 hA1 =>
    C X s1 E Q vs I1 (B.gr I1 G1) hA1 fun v s2 I2 G2 hr => h v s2 I2 (G1.trans G2) hr))) hd)
/-- a method of a value of a kind of the machine's -/
theorem ev_meth {o : Expr} {name : Str} {apos pos : Pos} {T id : String} {a : List Expr} {p : VP} {ps : List VP} {r : VP} (ho : Ev w A X env Γ o p) (ha : EvL w A X env Γ a ps) (C : BiOK w A id (p :: ps) r)
    (pa : PlainAttrs T) (slot : Slot T name id) (ty : typeOf (.builtin id) = pure (.type "method_descriptor"))
    (hT : ∀ (X : List Addr) (s : Shared) v, p.p (hideAll s.heap X) v → s.TypeIs v T ∧ (∀ a, v = .ref a → ∃ ob, s.heap.get? a = some ob ∧ ob.dict = none))
    (hplain : (backTo pos (starEach a env)).any (·.1) = false := by rfl)
    (hbase : attributeBase o name env (eval o env) = eval o env := by rfl)
    (hfew : ((backTo pos (starEach a env)).all (fun x => !x.1) && (backToKw pos (keywordEach [] env)).all (fun x => x.1.isSome)
      && decide (a.length + ([] : List Keyword).length + (if ([] : List Keyword).isEmpty then 0 else 1) < 30)) = true := by rfl)
    (hline : (apos.endLine == pos.line) = true := by rfl) :
    Ev w A X env Γ (.Call (.Attribute o name apos) a [] pos) r := fun s lm cm E Q I B V H h =>
  wpAny_Call_method_lateS hbase hfew hline (ev_use ho I B V H fun v s1 I1 B1 V1 H1 G1 hp => by
    obtain ⟨h1, h2⟩ := hT X s1 v hp
    refine ⟨T, id, pa, slot, ty, h1, h2, callWith_builtin hplain (evalArgs_of ha hplain I1 B1 V1 H1 fun vs s2 I2 G2 hA2 => ?_)⟩
    exact C X s2 E Q (v :: vs) I2 (B1.gr I2 G2) ⟨p.st _ _ _ (hid_sub B1 G2) hp, hA2⟩ fun u s3 I3 G3 hr => h u s3 I3 ((G1.trans G2).trans G3) hr)

/-! ### lists and tuples seen -/
theorem seq_get {T : String} {ps : List VP} {s : Shared} {v : Value} (h : (vSeq T ps).p (hideAll s.heap X) v) :
    ∃ a o n vs, v = .ref a ∧ s.heap.get? a = some o ∧ o.cls = .type T ∧ o.data = .seq vs n ∧ All2 (hideAll s.heap X) ps vs.toList ∧ a ∉ X := by
  obtain ⟨a, o, n, vs, rfl, ho, hc, hd, hA⟩ := h
  exact ⟨a, o, n, vs, rfl, of_hideAll X ho, hc, hd, hA, fun m => by rw [hideAll_none X m] at ho; cases ho⟩
theorem ints_are {g : Heap} : ∀ {ns : List Int} {vs : List Value}, All2 g (ns.map vInt) vs → IntsAre vs ns
  | [], [], _ => .nil
  | n :: ns, v :: vs, ⟨⟨t, e⟩, b⟩ => e ▸ .cons n t (ints_are b)
  | [], _ :: _, h => h.elim
  | _ :: _, [], h => h.elim
theorem strs_are {g : Heap} : ∀ {ns : List Str} {vs : List Value}, All2 g (ns.map vStr) vs → StrsAre vs ns
  | [], [], _ => .nil
  | n :: ns, v :: vs, ⟨⟨t, e⟩, b⟩ => e ▸ .cons n t (strs_are b)
  | [], _ :: _, h => h.elim
  | _ :: _, [], h => h.elim

/-! ### items -/
theorem ev_idxL {value slice : Expr} {pos : Pos} {ps : List VP} {p : VP} {k : Int} (hv : Ev w A X env Γ value (vList ps)) (hs : Ev w A X env Γ slice (vInt k)) (h0 : 0 ≤ k) (hp : ps[k.toNat]? = some p)
    (hlen : ps.length < 2 ^ 62 := by (first | decide | simp)) (hsl : ∀ o i, subscripted slice false o i = operate [o, i] (getItem o i) := by intro _ _; with_unfolding_all rfl) : Ev w A X env Γ (.Subscript value slice pos) p := by
  intro s lm cm E Q I B V H h
  refine Subscript_ (ev_use hv I B V H fun o s1 I1 B1 V1 H1 G1 h1 => ev_use hs I1 B1 V1 H1 fun i s2 I2 B2 V2 H2 G2 h2 => ?_)
  obtain ⟨t, rfl⟩ := h2
  obtain ⟨a, o, n, vs, rfl, ho, hc, hd, hA, _⟩ := seq_get ((vSeq "list" ps).st _ _ _ (hid_sub B1 G2) h1)
  obtain ⟨x, hx, hpx⟩ := hA.get hp
  have hl : s2.heap.IsList a vs := ⟨o, ho, hc, n, hd⟩
  have hk : k < 2 ^ 63 := by
    obtain ⟨hlt, _⟩ := List.getElem?_eq_some_iff.mp hp
    omega
  refine tail_any hl.typeIs slot_list_getitem.lookup (wpAny_getItem_list hl h0 hk (by rw [← Array.getElem?_toList]; exact hx) (h x s2 I2 (G1.trans G2) hpx)) (hsl _ _)
theorem ev_idxT {value slice : Expr} {pos : Pos} {ps : List VP} {p : VP} {k : Int} (hv : Ev w A X env Γ value (vTup ps)) (hs : Ev w A X env Γ slice (vInt k)) (h0 : 0 ≤ k) (hp : ps[k.toNat]? = some p)
    (hlen : ps.length < 2 ^ 62 := by (first | decide | simp)) (hsl : ∀ o i, subscripted slice false o i = operate [o, i] (getItem o i) := by intro _ _; with_unfolding_all rfl) : Ev w A X env Γ (.Subscript value slice pos) p := by
  intro s lm cm E Q I B V H h
  refine Subscript_ (ev_use hv I B V H fun o s1 I1 B1 V1 H1 G1 h1 => ev_use hs I1 B1 V1 H1 fun i s2 I2 B2 V2 H2 G2 h2 => ?_)
  obtain ⟨t, rfl⟩ := h2
  obtain ⟨a, o, n, vs, rfl, ho, hc, hd, hA, _⟩ := seq_get ((vSeq "tuple" ps).st _ _ _ (hid_sub B1 G2) h1)
  obtain ⟨x, hx, hpx⟩ := hA.get hp
  have ht : IsTup s2.heap a vs := ⟨o, ho, hc, n, hd⟩
  obtain ⟨hlt, _⟩ := List.getElem?_eq_some_iff.mp hp
  have hsz : vs.size = ps.length := by rw [← hA.length]; simp
  refine tail_any ht.typeIs slot_tuple_getitem.lookup (getItem_tuple ht (by omega) (by omega) (j := k.toNat) ?_ (by rw [← Array.getElem?_toList]; exact hx) (h x s2 I2 (G1.trans G2) hpx)) (hsl _ _)
  unfold seqIndex?
  have : ¬ k < 0 := by omega
  simp only [this, if_false]
  rw [if_pos (by simp only [Bool.and_eq_true, decide_eq_true_eq]; omega)]
theorem ev_idxS {value slice : Expr} {pos : Pos} {x : Str} {k : Int} (hv : Ev w A X env Γ value (vStr x)) (hs : Ev w A X env Γ slice (vInt k)) (hr : fitsSsize k = true) (hin : (Txt.charAt x k).isSome = true)
    (hsl : ∀ o i, subscripted slice false o i = operate [o, i] (getItem o i) := by intro _ _; with_unfolding_all rfl) : Ev w A X env Γ (.Subscript value slice pos) (vStr (Txt.item x k)) := by
  intro s lm cm E Q I B V H h
  refine Subscript_ (ev_use hv I B V H fun o s1 I1 B1 V1 H1 G1 h1 => ev_use hs I1 B1 V1 H1 fun i s2 I2 B2 V2 H2 G2 h2 => ?_)
  obtain ⟨t, rfl⟩ := h2
  obtain ⟨u, rfl⟩ := h1
  exact tail_any (typeIs_str _ _ _) PySem.F.slot_str_getitem.lookup (SB.getItem hr hin (h _ _ (I2.tok _) ((G1.trans G2).trans (Gr.tok _ _)) ⟨_, rfl⟩)) (hsl _ _)

theorem all1 {g : Heap} {p : VP} {vs : List Value} (h : All2 g [p] vs) : ∃ v, vs = [v] ∧ p.p g v := by
  have := h.length
  match vs, this with
  | [v], _ => exact ⟨v, rfl, h.1⟩
theorem all2 {g : Heap} {p q : VP} {vs : List Value} (h : All2 g [p, q] vs) : ∃ v u, vs = [v, u] ∧ p.p g v ∧ q.p g u := by
  have := h.length
  match vs, this with
  | [v, u], _ => exact ⟨v, u, rfl, h.1, h.2.1⟩
/-! ### len, sum, max -/
theorem bi_lenL {ps : List VP} (hlen : ps.length < 2 ^ 62 := by (first | decide | simp)) : BiOK w A "len" [vList ps] (vInt ps.length) := by
  intro X s E Q vs I B hA k
  obtain ⟨v, rfl, h⟩ := all1 hA
  · clear hA
    obtain ⟨a, o, n, xs, rfl, ho, hc, hd, hA, _⟩ := seq_get h
    have hsz : xs.size = ps.length := by rw [← hA.length]; simp
    exact call_len_list ⟨o, ho, hc, n, hd⟩ (by rw [hsz]; omega) (k _ _ (I.tok _) (Gr.tok _ _) ⟨_, by rw [hsz]⟩)
theorem bi_lenS {x : Str} (hlen : x.length < 2 ^ 62) : BiOK w A "len" [vStr x] (vInt x.length) := by
  intro X s E Q vs I B hA k
  obtain ⟨v, rfl, ⟨t, rfl⟩⟩ := all1 hA
  · exact P.len_str (by omega) (k _ _ (I.tok _) (Gr.tok _ _) ⟨_, rfl⟩)
theorem bi_sum {ns : List Int} (hh : A.handled = none) : BiOK w A "sum" [vList (ns.map vInt)] (vInt ns.sum) := by
  intro X s E Q vs I B hA k
  obtain ⟨v, rfl, h⟩ := all1 hA
  · clear hA
    obtain ⟨a, o, n, xs, rfl, ho, hc, hd, hA, _⟩ := seq_get h
    have hi := ints_are hA
    have hl : s.heap.IsList a xs := ⟨o, ho, hc, n, hd⟩
    obtain ⟨ys, rfl⟩ := (show AllInts xs by have := hi.allInts; simpa using this).items
    refine sum_intListG hh hl fun h' tk t' hk => k _ _ (I.keeps _ hk) (Gr.keeps _ hk) ⟨t', ?_⟩
    rw [preSum_eq, List.take_of_length_le (by simp), ← nums_intItems, hi.numsOf]
theorem bi_max {ns : List Int} {M : Int} (hh : A.handled = none) (hM : M ∈ ns) (hle : ∀ a ∈ ns, a ≤ M) : BiOK w A "max" [vList (ns.map vInt)] (vInt M) := by
  intro X s E Q vs I B hA k
  obtain ⟨v, rfl, h⟩ := all1 hA
  · clear hA
    obtain ⟨a, o, n, xs, rfl, ho, hc, hd, hA, _⟩ := seq_get h
    have hi := ints_are hA
    have hl : s.heap.IsList a xs := ⟨o, ho, hc, n, hd⟩
    obtain ⟨ys, rfl⟩ := (show AllInts xs by have := hi.allInts; simpa using this).items
    have hn : ys.toList.map (·.1) = ns := by rw [← nums_intItems, hi.numsOf]
    have hsz : ys.size = ns.length := by rw [← hn]; simp
    have hpos : 0 < ys.size := by rw [hsz]; exact List.length_pos_of_mem hM
    refine max_intList hh hl hpos fun v h' tk hv hk => k _ _ (I.keeps _ hk) (Gr.keeps _ hk) ?_
    obtain ⟨t, rfl⟩ := intItems_at hv
    obtain ⟨h1, h2⟩ := argBest_gt (numAt ys) (ys.size - 1)
    refine ⟨t, congrArg (Value.int · t) ?_⟩
    apply Int.le_antisymm
    · refine hle _ ?_
      rw [numAt_eq, hn]
      have : argBest (fun i j => decide (numAt ys i > numAt ys j)) (ys.size - 1) < ns.length := by omega
      rw [List.getD_eq_getElem?_getD, List.getElem?_eq_getElem this]
      exact List.getElem_mem _
    · obtain ⟨j, hj, rfl⟩ := List.mem_iff_getElem.mp hM
      have := h2 j (by omega)
      rw [numAt_eq, numAt_eq, hn, List.getD_eq_getElem?_getD, List.getElem?_eq_getElem hj] at this
      rw [numAt_eq, hn]
      exact this

/-! ### text -/
theorem bi_join {x : Str} {ys : List Str} (hok : (ys.map (·.length)).sum + ys.length * x.length ≤ 16777216) : BiOK w A "str.join" [vStr x, vList (ys.map vStr)] (vStr (Txt.join x ys)) := by
  intro X s E Q vs I B hA k
  obtain ⟨v0, v, rfl, ⟨t, rfl⟩, h⟩ := all2 hA
  · clear hA
    obtain ⟨a, o, n, xs, rfl, ho, hc, hd, hA, _⟩ := seq_get h
    exact join_list ⟨o, ho, hc, n, hd⟩ (strs_are hA) hok fun t' k' => k _ _ (I.tok _) (Gr.tok _ _) ⟨_, rfl⟩
theorem bi_joinT {x : Str} {ys : List Str} (hok : (ys.map (·.length)).sum + ys.length * x.length ≤ 16777216) : BiOK w A "str.join" [vStr x, vTup (ys.map vStr)] (vStr (Txt.join x ys)) := by
  intro X s E Q vs I B hA k
  obtain ⟨v0, v, rfl, ⟨t, rfl⟩, h⟩ := all2 hA
  · clear hA
    obtain ⟨a, o, n, xs, rfl, ho, hc, hd, hA, _⟩ := seq_get h
    exact join_tuple ⟨o, ho, hc, n, hd⟩ (strs_are hA) hok fun t' k' => k _ _ (I.tok _) (Gr.tok _ _) ⟨_, rfl⟩
theorem bi_index {x y : Str} {i : Nat} {rest : List Nat} (ho : occurrences x y 0 x.length 1 = i :: rest) : BiOK w A "str.index" [vStr x, vStr y] (vInt i) := by
  intro X s E Q vs I B hA k
  obtain ⟨v0, v, rfl, ⟨t, rfl⟩, ⟨u, rfl⟩⟩ := all2 hA
  · exact SC.index ho (k _ _ (I.tok _) (Gr.tok _ _) ⟨_, rfl⟩)
theorem str_type {x : Str} (X : List Addr) (s : Shared) (v : Value) (h : (vStr x).p (hideAll s.heap X) v) : s.TypeIs v "str" ∧ (∀ a, v = .ref a → ∃ ob, s.heap.get? a = some ob ∧ ob.dict = none) := by
  obtain ⟨t, rfl⟩ := h
  exact ⟨typeIs_str _ _ _, fun a e => nomatch e⟩
theorem ev_join {o e : Expr} {apos pos : Pos} {x : Str} {ys : List Str} (ho : Ev w A X env Γ o (vStr x)) (ha : Ev w A X env Γ e (vList (ys.map vStr))) (hok : (ys.map (·.length)).sum + ys.length * x.length ≤ 16777216)
    (he : ∀ env, starEach [e] env = (false, eval e env) :: starEach [] env := by intro _; rfl)
    (hplain : (backTo pos (starEach [e] env)).any (·.1) = false := by rfl)
    (hbase : attributeBase o "join" env (eval o env) = eval o env := by rfl)
    (hfew : ((backTo pos (starEach [e] env)).all (fun x => !x.1) && (backToKw pos (keywordEach [] env)).all (fun x => x.1.isSome)
      && decide ([e].length + ([] : List Keyword).length + (if ([] : List Keyword).isEmpty then 0 else 1) < 30)) = true := by rfl)
    (hline : (apos.endLine == pos.line) = true := by rfl) : Ev w A X env Γ (.Call (.Attribute o "join" apos) [e] [] pos) (vStr (Txt.join x ys)) :=
  ev_meth ho (evl_cons ha evl_nil he) (bi_join hok) PySem.F.plainAttrs_str PySem.F.slot_str_join PySem.F.type_str_join str_type hplain hbase hfew hline
theorem ev_index {o e : Expr} {apos pos : Pos} {x y : Str} {i : Nat} {rest : List Nat} (ho : Ev w A X env Γ o (vStr x)) (ha : Ev w A X env Γ e (vStr y)) (hoc : occurrences x y 0 x.length 1 = i :: rest)
    (he : ∀ env, starEach [e] env = (false, eval e env) :: starEach [] env := by intro _; rfl)
    (hplain : (backTo pos (starEach [e] env)).any (·.1) = false := by rfl)
    (hbase : attributeBase o "index" env (eval o env) = eval o env := by rfl)
    (hfew : ((backTo pos (starEach [e] env)).all (fun x => !x.1) && (backToKw pos (keywordEach [] env)).all (fun x => x.1.isSome)
      && decide ([e].length + ([] : List Keyword).length + (if ([] : List Keyword).isEmpty then 0 else 1) < 30)) = true := by rfl)
    (hline : (apos.endLine == pos.line) = true := by rfl) : Ev w A X env Γ (.Call (.Attribute o "index" apos) [e] [] pos) (vInt i) :=
  ev_meth ho (evl_cons ha evl_nil he) (bi_index hoc) PySem.F.plainAttrs_str PySem.F.slot_str_index PySem.F.type_str_index str_type hplain hbase hfew hline
theorem op_notInS {x y : Str} : Op2 w A (compareOp .NotIn) (vStr y) (vStr x) (vBool (!Txt.contains x y)) := by
  rintro X s E Q _ _ I B ⟨t, rfl⟩ ⟨u, rfl⟩ h
  exact SB.notContains (h _ _ I (Gr.refl _) rfl)
theorem ev_neg {e : Expr} {a : Int} {pos : Pos} (he : Ev w A X env Γ e (vInt a)) : Ev w A X env Γ (.UnaryOp .USub e pos) (vInt (-a)) := fun s lm cm E Q I B V H h =>
  wpAny_UnaryOp (ev_use he I B V H fun v s1 I1 B1 V1 H1 G1 hp => by
    obtain ⟨t, rfl⟩ := hp
    exact PySem.P.neg_int (h _ _ (I1.tok _) (G1.trans (Gr.tok _ _)) ⟨_, rfl⟩))
theorem op_addL {ps qs : List VP} (hz : ps.length + qs.length ≤ sizeLine := by (first | decide | size_fits)) : Op2 w A (binaryOp .Add) (vList ps) (vList qs) (vList (ps ++ qs)) := by
  intro X s E Q a b I B h1 h2 k
  obtain ⟨l, ⟨cls, dd, data, sl⟩, n, vs, rfl, ho, hc, hd, hA, _⟩ := seq_get h1
  obtain ⟨l2, ⟨cls2, dd2, data2, sl2⟩, n2, ws, rfl, ho2, hc2, hd2, hA2, _⟩ := seq_get h2
  simp only at hc hd hc2 hd2
  subst hc hd hc2 hd2
  have e1 : vs.size = ps.length := by rw [← hA.length]; simp
  have e2 : ws.size = qs.length := by rw [← hA2.length]; simp
  refine concat_meets ⟨_, ho, rfl⟩ ⟨_, ho2, rfl⟩ noFill_list_add seq_list_add PySem.F.slot_list_add PySem.F.entry_list_add (PySem.F.args_list_add_2 _ _) (list_addW l l2 vs ws n n2 dd dd2 sl sl2 (by rw [e1, e2]; exact hz)) ⟨ho, ho2, ?_⟩
  refine k _ _ (I.keeps s.toks (push_K _)) (Gr.keeps s.toks (push_K _)) ?_
  have := new_seq (T := "list") (n := 0) (d := none) (sl := #[]) B (hA.append hA2)
  rw [show (vs.toList ++ ws.toList).toArray = vs ++ ws by simp] at this
  exact this
end
end Mine
end

section
open PySem PySem.Calls PyProof.Rows PySem.W
open PySem.Builtin PySem.Builtin.Str PySem.SeqAt
set_option Elab.async false
set_option maxRecDepth 100000
set_option linter.unusedVariables false
namespace Mine
noncomputable section
variable {w : World} {A : Around} {X Y : List Addr} {env cenv : Env} {Γ Γc : Ctxt} {s₀ : Shared} {μ : Mu} {D : Addr} {K : List Addr}

/-! ### slices -/
theorem ev_sliceLL {value lo hi : Expr} {p pos : Pos} {ps : List VP} {i j : Nat} (hv : Ev w A X env Γ value (vList ps)) (hl : Ev w A X env Γ lo (vInt i)) (hh : Ev w A X env Γ hi (vInt j)) (hij : i ≤ j) (hj : j ≤ ps.length) (hz : ps.length ≤ sizeLine)
    (ht : ∀ o r, letTemporaryGo value o r = pure () := by intro _ _; rfl) : Ev w A X env Γ (.Subscript value (.Slice (some lo) (some hi) none p) pos) (vList ((ps.drop i).take (j - i))) := by
  intro s lm cm E Q I B V H k
  refine wpAny_Subscript_list_slice (ev_use hv I B V H fun o s1 I1 B1 V1 H1 G1 h1 => evalPart_some_step (ev_use hl I1 B1 V1 H1 fun vl s2 I2 B2 V2 H2 G2 h2 => evalPart_some_step (ev_use hh I2 B2 V2 H2 fun vu s3 I3 B3 V3 H3 G3 h3 => ?_))) ht
  obtain ⟨t2, rfl⟩ := h2
  obtain ⟨t3, rfl⟩ := h3
  obtain ⟨a, o, n, vs, rfl, ho, hc, hd, hA, _⟩ := seq_get ((vSeq "list" ps).st _ _ _ ((hid_sub B1 G2).trans (hid_sub B2 G3)) h1)
  have hsz : vs.size = ps.length := by rw [← hA.length]; simp
  refine ⟨a, vs, _, _, rfl, ⟨o, ho, hc, n, hd⟩, by rw [hsz]; exact hz, .int _ _, .int _ _, ?_⟩
  rw [slicePick_run vs i j (by omega) hij]
  have I4 := (I3.keeps s3.toks (push_K (s := s3) { cls := .type "slice", data := .fields #[.int i t2, .int j t3, .none] }))
  have G4 := (Gr.keeps (s := s3) s3.toks (push_K { cls := .type "slice", data := .fields #[.int i t2, .int j t3, .none] }))
  have B4 := B3.gr I4 G4
  have hA4 : All2 (hideAll (s3.heap.push { cls := .type "slice", data := .fields #[.int i t2, .int j t3, .none] }) X) ((ps.drop i).take (j - i)) ((vs.toList.drop i).take (j - i)) := by
    have drop : ∀ {ps : List VP} {vs : List Value} {g : Heap} (i : Nat), All2 g ps vs → All2 g (ps.drop i) (vs.drop i) := by
      intro ps vs g i
      induction i generalizing ps vs with
      | zero => intro h; exact h
      | succ i ih => intro h; match ps, vs, h with
        | [], [], _ => trivial
        | _ :: _, _ :: _, ⟨_, b⟩ => exact ih b
    have take : ∀ {ps : List VP} {vs : List Value} {g : Heap} (i : Nat), All2 g ps vs → All2 g (ps.take i) (vs.take i) := by
      intro ps vs g i
      induction i generalizing ps vs with
      | zero => intro h; simp [All2]
      | succ i ih => intro h; match ps, vs, h with
        | [], [], _ => trivial
        | _ :: _, _ :: _, ⟨a, b⟩ => exact ⟨a, ih b⟩
    exact take _ (drop _ (hA.st (hid_sub B3 G4)))
  have key := new_seq (T := "list") (n := 0) (d := none) (sl := #[]) B4 hA4
  have e4 : (s3.heap.push { cls := .type "slice", data := .fields #[.int i t2, .int j t3, .none] }).objs.size = s3.heap.objs.size + 1 := Heap.size_push ..
  rw [← e4]
  exact k _ _ (I4.keeps (s := { s3 with heap := _, toks := _ }) s3.toks (push_K (s := { s3 with heap := _, toks := _ }) _)) (((G1.trans G2).trans G3).trans (G4.trans (Gr.keeps (s := { s3 with heap := _, toks := _ }) s3.toks (push_K (s := { s3 with heap := _, toks := _ }) _)))) key
theorem ev_sliceL0 {value hi : Expr} {p pos : Pos} {ps : List VP} {j : Nat} (hv : Ev w A X env Γ value (vList ps)) (hh : Ev w A X env Γ hi (vInt j)) (hz : ps.length ≤ sizeLine)
    (ht : ∀ o r, letTemporaryGo value o r = pure () := by intro _ _; rfl) : Ev w A X env Γ (.Subscript value (.Slice none (some hi) none p) pos) (vList (ps.take j)) := by
  intro s lm cm E Q I B V H k
  refine wpAny_Subscript_list_slice (ev_use hv I B V H fun o s1 I1 B1 V1 H1 G1 h1 => evalPart_none_step (evalPart_some_step (ev_use hh I1 B1 V1 H1 fun vu s3 I3 B3 V3 H3 G3 h3 => ?_))) ht
  obtain ⟨t3, rfl⟩ := h3
  obtain ⟨a, o, n, vs, rfl, ho, hc, hd, hA, _⟩ := seq_get ((vSeq "list" ps).st _ _ _ (hid_sub B1 G3) h1)
  have hsz : vs.size = ps.length := by rw [← hA.length]; simp
  refine ⟨a, vs, _, _, rfl, ⟨o, ho, hc, n, hd⟩, by rw [hsz]; exact hz, .none, .int _ _, ?_⟩
  rw [slicePick_upto' vs j]
  have I4 := (I3.keeps s3.toks (push_K (s := s3) { cls := .type "slice", data := .fields #[.none, .int j t3, .none] }))
  have G4 := (Gr.keeps (s := s3) s3.toks (push_K { cls := .type "slice", data := .fields #[.none, .int j t3, .none] }))
  have B4 := B3.gr I4 G4
  have hA4 : All2 (hideAll (s3.heap.push { cls := .type "slice", data := .fields #[.none, .int j t3, .none] }) X) (ps.take j) (vs.toList.take j) := by
    have take : ∀ {ps : List VP} {vs : List Value} {g : Heap} (i : Nat), All2 g ps vs → All2 g (ps.take i) (vs.take i) := by
      intro ps vs g i
      induction i generalizing ps vs with
      | zero => intro h; simp [All2]
      | succ i ih => intro h; match ps, vs, h with
        | [], [], _ => trivial
        | _ :: _, _ :: _, ⟨a, b⟩ => exact ⟨a, ih b⟩
    exact take _ (hA.st (hid_sub B3 G4))
  have key := new_seq (T := "list") (n := 0) (d := none) (sl := #[]) B4 hA4
  have e4 : (s3.heap.push { cls := .type "slice", data := .fields #[.none, .int j t3, .none] }).objs.size = s3.heap.objs.size + 1 := Heap.size_push ..
  rw [← e4]
  exact k _ _ (I4.keeps (s := { s3 with heap := _, toks := _ }) s3.toks (push_K (s := { s3 with heap := _, toks := _ }) _)) ((G1.trans G3).trans (G4.trans (Gr.keeps (s := { s3 with heap := _, toks := _ }) s3.toks (push_K (s := { s3 with heap := _, toks := _ }) _)))) key
theorem slice_post {x : Str} {t : Tok} {l u : Option (Int × Tok)} {s : Shared} {Q : Value → Shared → Prop} (hz : x.length ≤ sizeLine) (h : ∀ t' k, Q (.str (Txt.slice x (l.map (·.1)) (u.map (·.1))) t') { s with toks := k }) : (sliceMade x t l u none).post Q s :=
  post_val_or_str ⟨Nat.le_trans (Txt.slice_le x _ _) hz, fun t' k => h t' k⟩
theorem ev_sliceS0 {value hi : Expr} {p pos : Pos} {x : Str} {j : Int} (hv : Ev w A X env Γ value (vStr x)) (hh : Ev w A X env Γ hi (vInt j)) (hz : x.length ≤ sizeLine)
    (ht : ∀ o r, letTemporaryGo value o r = pure () := by intro _ _; rfl) : Ev w A X env Γ (.Subscript value (.Slice none (some hi) none p) pos) (vStr (Txt.slice x none (some j))) := by
  intro s lm cm E Q I B V H k
  refine wpAny_Subscript_str_slice (ev_use hv I B V H fun o s1 I1 B1 V1 H1 G1 h1 => evalPart_none_step (evalPart_some_step (ev_use hh I1 B1 V1 H1 fun vu s3 I3 B3 V3 H3 G3 h3 => ?_))) ht
  obtain ⟨t1, rfl⟩ := h1
  obtain ⟨t3, rfl⟩ := h3
  refine ⟨x, t1, none, some (j, t3), rfl, rfl, rfl, slice_post hz fun t' kk => k _ _ (I3.keeps _ (push_K _)) ((G1.trans G3).trans (Gr.keeps _ (push_K _))) ⟨t', rfl⟩⟩
theorem ev_sliceS1 {value lo : Expr} {p pos : Pos} {x : Str} {i : Int} (hv : Ev w A X env Γ value (vStr x)) (hh : Ev w A X env Γ lo (vInt i)) (hz : x.length ≤ sizeLine)
    (ht : ∀ o r, letTemporaryGo value o r = pure () := by intro _ _; rfl) : Ev w A X env Γ (.Subscript value (.Slice (some lo) none none p) pos) (vStr (Txt.slice x (some i) none)) := by
  intro s lm cm E Q I B V H k
  refine wpAny_Subscript_str_slice (ev_use hv I B V H fun o s1 I1 B1 V1 H1 G1 h1 => evalPart_some_step (ev_use hh I1 B1 V1 H1 fun vu s3 I3 B3 V3 H3 G3 h3 => evalPart_none_step ?_)) ht
  obtain ⟨t1, rfl⟩ := h1
  obtain ⟨t3, rfl⟩ := h3
  refine ⟨x, t1, some (i, t3), none, rfl, rfl, rfl, slice_post hz fun t' kk => k _ _ (I3.keeps _ (push_K _)) ((G1.trans G3).trans (Gr.keeps _ (push_K _))) ⟨t', rfl⟩⟩

/-! ### comparisons -/
theorem op_inT {ns : List Int} {d : Int} (hA : Rm A 1) : Op2 w A (compareOp .In) (vInt d) (vTup (ns.map vInt)) (vBool (ns.any (· == d))) := by
  intro X s E Q a b I B h1 h2 k
  obtain ⟨t, rfl⟩ := h1
  obtain ⟨a, o, n, vs, rfl, ho, hc, hd, hAl, _⟩ := seq_get h2
  have hr : Reads s.heap (.ref a) (.tuple (ns.map PyData.int)) [] := .tuple ho hc hd (IntsAre.reads s.heap (ints_are hAl))
  have hu := hA.u
  refine in_tuple_reads hr (.int d t) (canLayAll0_ints ns) rfl ?_ (k _ _ I (Gr.refl _) ?_)
  · have : min (PyData.depthAll (ns.map PyData.int)) (PyData.int d).depth ≤ 1 := Nat.le_trans (Nat.min_le_left _ _) (depthAll_ints ns)
    omega
  · show Value.bool _ = Value.bool _
    rw [List.any_map]
    rfl
theorem op_neLS {ys : List Str} (hA : A.units + 64 < cLine) (hok : ∀ y ∈ ys, PyData.strOk y = true) : Op2 w A (compareOp .NotEq) (vList (ys.map vStr)) (vList (ys.map vStr)) (vBool false) := by
  intro X s E Q a b I B h1 h2 k
  obtain ⟨a, o, n, vs, rfl, ho, hc, hd, hAl, _⟩ := seq_get h1
  obtain ⟨a', o', n', vs', rfl, ho', hc', hd', hAl', _⟩ := seq_get h2
  have hr : Reads s.heap (.ref a) (.list (ys.map PyData.str)) [a] := .list ho hc hd (StrsAre.reads s.heap (strs_are hAl))
  have hr' : Reads s.heap (.ref a') (.list (ys.map PyData.str)) [a'] := .list ho' hc' hd' (StrsAre.reads s.heap (strs_are hAl'))
  have depth : ∀ ys : List Str, PyData.depthAll (ys.map PyData.str) ≤ 1 := by
    intro ys
    induction ys with
    | nil => simp [PyData.depthAll]
    | cons y r ih => simp only [List.map_cons, PyData.depthAll, PyData.depth]; omega
  have lay : PyData.canLayAll0 (ys.map PyData.str) = true := by
    rw [canLayAll_strs', List.all_eq_true]; exact hok
  have sh : shaped (.list (ys.map PyData.str)) = true := by
    unfold shaped
    rw [Bool.and_eq_true]
    refine ⟨by simpa [PyData.canLay0] using lay, ?_⟩
    have := depth ys
    refine decide_eq_true ?_
    simp only [PyData.depth]
    omega
  have mix : ∀ ys : List Str, noMixAll (ys.map PyData.str) (ys.map PyData.str) = true := by
    intro ys
    induction ys with
    | nil => rfl
    | cons y r ih => simp only [List.map_cons, noMixAll, noMix, ih]; rfl
  have sm : ∀ ys : List Str, PySem.Spec.sameAll (ys.map PyData.str) (ys.map PyData.str) = true := by
    intro ys
    induction ys with
    | nil => rfl
    | cons y r ih => simp only [List.map_cons, PySem.Spec.sameAll, PySem.Spec.same, ih]; simp
  refine ne_dataH_same hr hr' sh sh hA (by simp only [noMix]; exact mix ys) (k _ _ I (Gr.refl _) ?_)
  show Value.bool _ = Value.bool _
  simp only [PySem.Spec.same, sm]; rfl

/-! ### tests of values -/
theorem te_bool {e : Expr} {b : Bool} (h : Ev w A X env Γ e (vBool b)) (he : ∀ whole : Sem Value, isTrue e env whole = (do let v ← whole; standAt e.pos; holding [v] (truthy v)) := by intro _; rfl) : Te w A X env Γ e b :=
  fun s lm cm E Q I B V H k => wpAny_isTrue_value (ev_use h I B V H fun v s1 I1 _ _ _ G1 hp => by
    have hp' : v = .bool b := hp
    subst hp'
    exact wpAny_truthy_bool (k s1 I1 G1)) (he _)
theorem te_of {e : Expr} {b c : Bool} (h : Te w A X env Γ e b) (hbc : b = c) : Te w A X env Γ e c := hbc ▸ h
end
end Mine
end

section
open PySem PySem.Calls PyProof.Rows PySem.W
set_option Elab.async false
set_option maxRecDepth 100000
set_option linter.unusedVariables false
namespace Mine
noncomputable section
variable {w : World} {A : Around} {X Y : List Addr} {env cenv : Env} {Γ Γc : Ctxt} {s₀ : Shared} {μ : Mu} {D : Addr} {K : List Addr}

/-! ### the text's objects, but for the two tables -/
noncomputable def K' (P : Params) : Frag := (KK P).filter fun z => z.1 != T1 && z.1 != T2
theorem lookup_filter {α : Type} {p : Nat → Bool} : ∀ {l : List (Nat × α)} {a : Nat} {o : α}, (l.filter fun z => p z.1).lookup a = some o → l.lookup a = some o ∧ p a = true
  | [], _, _, h => by cases h
  | (b, v) :: r, a, o, h => by
    rw [List.filter_cons] at h
    cases q : p b with
    | true =>
      rw [if_pos q, List.lookup_cons] at h
      rw [List.lookup_cons]
      cases e : a == b with
      | true =>
        rw [e] at h
        exact ⟨h, by rw [beq_iff_eq.mp e]; exact q⟩
      | false =>
        rw [e] at h
        exact lookup_filter h
    | false =>
      rw [if_neg (by simp [q])] at h
      obtain ⟨h1, h2⟩ := lookup_filter h
      rw [List.lookup_cons]
      cases e : a == b with
      | true => rw [beq_iff_eq.mp e] at h2; rw [q] at h2; cases h2
      | false => exact ⟨h1, h2⟩
theorem Inv.kin {s : Shared} (I : Inv w s) : (K' w.params).In s.heap := fun a o e => by
  obtain ⟨h1, h2⟩ := lookup_filter (p := fun a => a != T1 && a != T2) e
  simp only [Bool.and_eq_true, bne_iff_ne, ne_eq] at h2
  exact I.K a o h2.1 h2.2 h1

/-! ### an object: its class, its data, its dict's names -/
structure Ins (h : Heap) (x C dx : Addr) (dt : Data) (mA : Str → Option Value) : Prop where
  obj : h.get? x = some { cls := .ref C, dict := some dx, data := dt }
  ns : h.Ns1 dx mA
  ne : dx ≠ x
theorem Ins.at {h h' : Heap} {x C dx : Addr} {dt : Data} {mA : Str → Option Value} (I : Ins h x C dx dt mA) (k : ∀ b ∈ [x, dx], ∀ o, h.get? b = some o → h'.get? b = some o) : Ins h' x C dx dt mA :=
  ⟨k x (.head _) _ I.obj, I.ns.at fun o e => k dx (.tail _ (.head _)) o e, I.ne⟩
theorem lookIn_of {es : Array DictEntry} {o : Obj} {ep : Nat} {name : Str} {r : Option Value} (hd : o.data = .dict es ep) (hk : StrKeys es) (hr : nsFind es name = r) : lookIn name o = some r := by
  unfold lookIn
  rw [hd]
  dsimp only
  unfold nsFind findBy at hr
  rw [← Array.find?_toList] at hr
  have nr : es.toList.any (·.refKey) = false := by
    rw [List.any_eq_false]
    intro e he
    obtain ⟨n, t, q⟩ := hk e (Array.mem_toList_iff.mp he)
    unfold DictEntry.refKey
    rw [q]
    simp
  cases q : es.toList.find? (fun e => e.key.isStr name) with
  | none => 
    have q' : List.find? (fun x => x.key.isStr name) es.toList = none := q
    rw [q'] at hr
    rw [nr, ← hr]; rfl
  | some e => 
    have q' : List.find? (fun x => x.key.isStr name) es.toList = some e := q
    rw [q'] at hr
    rw [← hr]; rfl
theorem Ins.kit {h : Heap} {x C dx : Addr} {dt : Data} {mA : Str → Option Value} (I : Ins h x C dx dt mA) (hn : ∀ c, dt ≠ .cls c) : ∃ o, InstAt h x { cls := .ref C, dict := some dx, data := dt } C (some o) ∧ ∀ name, lookIn name o = some (mA name) := by
  obtain ⟨o, es, ep, ho, hd, hk, _, hf⟩ := I.ns
  refine ⟨o, ⟨I.obj, rfl, ?_, ho⟩, fun name => lookIn_of hd hk (hf name)⟩
  cases dt <;> first | rfl | exact absurd rfl (hn _)

/-- a name that is no name of the class's: told by the object's dict -/
noncomputable def valueIn (K : Frag) (C : Addr) (name : Str) : Bool := (match clsIn K C with | some cd => cd.hasDict | none => false) && (match findIn K (.ref C) name with | some none => true | _ => false) &&
  (match findIn K (.ref C) "__getattribute__" with | some (some (.builtin i)) => i == "object.__getattribute__" | _ => false)
theorem findObj_value {K : Frag} {C : Addr} {name : Str} {o : Obj} {v : Value} (h : valueIn K C name = true) (hl : lookIn name o = some (some v)) : findObj K C (some o) name = some (.value v) ∧ findIn K (.ref C) "__getattribute__" = some (some (.builtin "object.__getattribute__")) := by
  unfold valueIn at h
  simp only [Bool.and_eq_true] at h
  obtain ⟨⟨h1, h2⟩, h3⟩ := h
  split at h1
  · rename_i cd hc
    split at h2
    · rename_i hf
      split at h3
      · rename_i i hg
        refine ⟨?_, by rw [hg, beq_iff_eq.mp h3]⟩
        unfold findObj
        rw [hc, hf]
        simp only [Option.bind_some]
        unfold PySem.W.ownOf
        rw [if_pos h1]
        show ((lookIn name o).bind _) = _
        rw [hl]
        rfl
      · cases h3
    · cases h2
  · cases h1
theorem getAttr_ins {s : Shared} {x C dx : Addr} {dt : Data} {mA : Str → Option Value} {name : Str} {v : Value} {expr : Bool} {E Q : Value → Shared → Prop} (Iv : Inv w s) (I : Ins s.heap x C dx dt mA) (hn : ∀ c, dt ≠ .cls c) (hc : valueIn (K' w.params) C name = true) (hv : mA name = some v) (hh : handedIn v = true)
    (h : Q v { s with toks := s.toks + 1 }) : wpAny (model PG w) A (getAttr (.ref x) name expr) Q E s := by
  obtain ⟨o, J, hl⟩ := I.kit hn
  obtain ⟨h1, h2⟩ := findObj_value hc (by rw [hl, hv])
  exact get_value Iv.kin J h2 h1 hh h

/-- a name that the class gives a def for, and the object nothing -/
noncomputable def methIn (K : Frag) (C : Addr) (name : Str) (f : Addr) : Bool := (match findIn K (.ref C) "__getattribute__" with | some (some (.builtin i)) => i == "object.__getattribute__" | _ => false) && (match findIn K (.ref C) "__getattr__" with | some none => true | _ => false) &&
  (match findIn K (.ref C) name with | some (some (.ref g)) => g == f | _ => false) && (match typeIn K (.ref f) with | some (.type t) => t == "function" | _ => false)
theorem getMethod_ins {s : Shared} {x C dx f : Addr} {dt : Data} {mA : Str → Option Value} {name : Str} {pl : Sem Bool} {E : Value → Shared → Prop} {Q : Value × List Value → Shared → Prop} (Iv : Inv w s) (I : Ins s.heap x C dx dt mA) (hn : ∀ c, dt ≠ .cls c) (hc : methIn (K' w.params) C name f = true) (hv : mA name = none)
    (h : Q (.ref f, [.ref x]) s) : wpAny (model PG w) A (getMethod (.ref x) name pl) Q E s := by
  obtain ⟨o, J, hl⟩ := I.kit hn
  unfold methIn at hc
  simp only [Bool.and_eq_true] at hc
  obtain ⟨⟨⟨h1, h2⟩, h3⟩, h4⟩ := hc
  split at h1
  · rename_i i hg
    split at h2
    · rename_i hk
      split at h3
      · rename_i g hf
        split at h4
        · rename_i t ht
          refine method_fn Iv.kin J (by rw [hg, beq_iff_eq.mp h1]) hk (by rw [hf, beq_iff_eq.mp h3]) (by rw [ht, beq_iff_eq.mp h4]) ?_ h
          show (lookIn name o).map (·.isSome) = some false
          rw [hl, hv]; rfl
        · cases h4
      · cases h3
    · cases h2
  · cases h1

/-! ### a name of an object's stored -/
noncomputable def passB (K : Frag) (C : Addr) (bm : List Value) : Bool := match clsIn K C with | some cd => cd.mro == .ref C :: bm && cd.hasDict | none => false
/-- stores of instances with the builtin base that bm begins with -/
structure Passes (bm : List Value) : Prop where
  has : bm.contains (.type "object") = true
  passes : ∀ self : Value, refuseLoop self "__setattr__" bm = pure ()
theorem passes_object : Passes [.type "object"] := ⟨by decide, fun self => by kernel_rfl⟩
theorem passes_list : Passes [.type "list", .type "object"] := ⟨by decide, fun self => by kernel_rfl⟩
noncomputable def storeIn (K : Frag) (C : Addr) (name : Str) : Bool := (match findIn K (.ref C) "__setattr__" with | some (some (.builtin i)) => i == "object.__setattr__" | _ => false) && (match findIn K (.ref C) name with | some none => true | _ => false)
theorem setAttr_ins {s : Shared} {x C dx : Addr} {dt : Data} {mA : Str → Option Value} {name : Str} {v : Value} {bm : List Value} {ns : List Str} {E : Value → Shared → Prop} {Q : Unit → Shared → Prop} (Iv : Inv w s) (I : Ins s.heap x C dx dt mA) (hn : ∀ c, dt ≠ .cls c) (P : Passes bm) (hp : passB (K' w.params) C bm = true) (hc : storeIn (K' w.params) C name = true)
    (hw : Within mA ns) (hsz : ns.length ≤ 1000)
    (h : ∀ h' tk, Ins h' x C dx dt (fun y => if y = name then some v else mA y) → Heap.SameBut dx s.heap h' → Q () { s with heap := h', toks := tk }) : wpAny (model PG w) A (setAttr (.ref x) name v) Q E s := by
  obtain ⟨o, J, hl⟩ := I.kit hn
  have Kn := Iv.kin
  unfold storeIn at hc
  simp only [Bool.and_eq_true] at hc
  obtain ⟨h1, h2⟩ := hc
  split at h1
  · rename_i i hg
    have hg' : findIn (K' w.params) (.ref C) "__setattr__" = some (some (.builtin "object.__setattr__")) := by rw [hg, beq_iff_eq.mp h1]
    split at h2
    · rename_i hf
      unfold passB at hp
      split at hp
      · rename_i cd hcd
        simp only [Bool.and_eq_true, beq_iff_eq] at hp
        obtain ⟨hm, hd⟩ := hp
        refine set_plain Kn J hg' ?_
        have SF := PySem.F.store_object
        have sub : Looks (model PG w) s.heap (isInstance (.ref x) (.type "object")) true := J.type.andThen (looks_mroIn Kn (by
          unfold mroIn; rw [hcd, Option.bind_some, hm, if_neg (by simp)]
          rw [List.contains_cons, P.has, Bool.or_true]))
        have hm' : Looks (model PG w) s.heap (mroOf (.ref C)) cd.mro := (looks_clsIn Kn hcd).andThen .now
        have L0 := J.type (M := model PG w)
        have L1 := looks_findIn (M := model PG w) Kn hf
        have hC := looks_clsIn (M := model PG w) Kn hcd
        have hobj := I.obj
        have hns := I.ns
        obtain ⟨hh, g, d, t, os⟩ := s
        dsimp only at sub hm' L0 L1 hC hobj hns h ⊢
        refine codeAny_call_builtin SF.slot.plain SF.entry (@check_slot (model PG w) _ _ ⟨hh, g, d, t + 1, os⟩ "object.__setattr__" "object" "__setattr__" (.ref x) [.str name t, v] [] _ SF.kind SF.split sub (SF.args (.ref x) (.str name t) v) ?_)
        rw [osa_eq, refuse_eq]
        refine wpAny_bind (wpAny_bind (L0.at (wpAny_bind (hm'.at ?_))))
        rw [hm, refuseLoop_ref, P.passes]
        refine wpAny_pure (wpAny_bind (L0.at (wpAny_bind (L1.at (wpAny_bind (wpAny_pure ?_))))))
        show wpAny _ _ (Builtin.ObjectAttr.storeInOwnDict (.ref x) (.ref C) (.str name t) name v false) _ _ _
        refine wpAny_bind (wpAny_pure (wpAny_bind (wpAny_bind (wpAny_loadPart hobj (wpAny_bind (hC.at ?_))))))
        rw [hd]
        refine wpAny_pure (a := some dx) (wpAny_bind (wpAny_pure (wpAny_bind (wpAny_nsSet1 hns fun h' hn' hs' => ?_))))
        obtain ⟨oD, esD, epD, hoD, hdD, hcD⟩ := hn'.count (Within.cons name v hw)
        refine wpAny_bind (wpAny_lookBehind hoD (by rw [hdD]; exact pastItsLine_dict (Nat.le_trans hcD (by rw [List.length_cons, sizeLine_eq]; omega))) ?_)
        exact wpAny_pure (h h' _ ⟨(hs'.2 x (Ne.symm I.ne)).trans hobj, hn', I.ne⟩ hs')
      · cases hp
    · cases h2
  · cases h1
end
end Mine
end

section
open PySem PySem.Calls PyProof.Rows PySem.W
open PySem.Builtin PySem.Builtin.List
set_option Elab.async false
set_option maxRecDepth 100000
set_option linter.unusedVariables false
namespace Mine
noncomputable section
variable {w : World} {A : Around} {X Y : List Addr}

/-- an _Accumulator -/
noncomputable def AcS (h : Heap) (x dx : Addr) (vs : Array Value) (mA : Str → Option Value) : Prop := ∃ n, Ins h x 178 dx (.seq vs n) mA
theorem AcS.at {h h' : Heap} {x dx : Addr} {vs : Array Value} {mA : Str → Option Value} (I : AcS h x dx vs mA) (k : ∀ b ∈ [x, dx], ∀ o, h.get? b = some o → h'.get? b = some o) : AcS h' x dx vs mA := let ⟨n, J⟩ := I; ⟨n, J.at k⟩
theorem AcS.upd {h : Heap} {x dx : Addr} {vs : Array Value} {mA : Str → Option Value} (I : AcS h x dx vs mA) (f : Array Value → Array Value) : AcS (h.update x (Obj.mapSeq f)) x dx (f vs) mA := by
  obtain ⟨n, J⟩ := I
  refine ⟨if (f vs).size == vs.size then n else n + 1, ?_, ?_, J.ne⟩
  · exact Heap.get?_update_self _ J.obj rfl
  · exact J.ns.at fun o e => (Heap.get?_update_other _ _ (Ne.symm J.ne)).trans e
theorem mro_acc : mroIn (K' w.params) 178 (.type "list") = some true := by kernel_rfl
theorem acc_sub {s : Shared} {x dx : Addr} {vs : Array Value} {mA : Str → Option Value} (Iv : Inv w s) (I : AcS s.heap x dx vs mA) : Looks (model PG w) s.heap (isInstance (.ref x) (.type "list")) true := by
  obtain ⟨n, J⟩ := I
  obtain ⟨o, Jk, _⟩ := J.kit (by intro c; simp)
  exact Jk.type.andThen (looks_mroIn Iv.kin mro_acc)
theorem acc_type {s : Shared} {x dx : Addr} {vs : Array Value} {mA : Str → Option Value} (I : AcS s.heap x dx vs mA) : Looks (model PG w) s.heap (typeOf (.ref x)) (.ref 178) := by
  obtain ⟨n, J⟩ := I
  obtain ⟨o, Jk, _⟩ := J.kit (by intro c; simp)
  exact Jk.type
theorem acc_check {s : Shared} {x dx : Addr} {vs : Array Value} {mA : Str → Option Value} {id n : String} {rest : List Value} {E : Value → Shared → Prop} {Q : Unit → Shared → Prop} (Iv : Inv w s) (I : AcS s.heap x dx vs mA)
    (hk : builtinKind id = some .slot ∨ builtinKind id = some .method) (hs : splitId id = some ("list", n)) (ha : argsOk id ⟨.ref x :: rest, []⟩) (q : Q () s) : wpAny (model PG w) A (checkBuiltinCall id ⟨.ref x :: rest, []⟩) Q E s := by
  have hi := acc_sub Iv I
  have last : wpAny (model PG w) A (match Manifest.signature? id with | some sig => Bind.checkArgs id sig ⟨.ref x :: rest, []⟩ | none => pure ()) Q E s := by
    cases hsig : Manifest.signature? id with
    | none => exact wpAny_pure q
    | some sig =>
      simp only [argsOk, hsig] at ha
      have h2 : Bind.checkArgs id sig ⟨.ref x :: rest, []⟩ = pure () := ha
      show wpAny _ A (Bind.checkArgs id sig ⟨.ref x :: rest, []⟩) Q E s
      rw [h2]; exact wpAny_pure q
  rcases hk with hk | hk
  · simp only [checkBuiltinCall, hk, hs]
    refine wpAny_bind (hi.here ?_)
    simp only [Bool.not_true, Bool.false_eq_true, if_false]
    cases hsig : Manifest.signature? id with
    | none => exact wpAny_pure q
    | some sig => rw [hsig] at last; exact last
  · simp only [checkBuiltinCall, hk, hs]
    refine wpAny_bind (hi.here ?_)
    simp only [Bool.not_true, Bool.false_eq_true, if_false]
    cases hsig : Manifest.signature? id with
    | none => exact wpAny_pure q
    | some sig => rw [hsig] at last; exact last
theorem acc_bi {s : Shared} {x dx : Addr} {vs : Array Value} {mA : Str → Option Value} {id n : String} {b : Builtin} {rest : List Value} {E Q : Value → Shared → Prop} (Iv : Inv w s) (I : AcS s.heap x dx vs mA)
    (hk : builtinKind id = some .slot ∨ builtinKind id = some .method) (hs : splitId id = some ("list", n)) (hp : plainId id = true) (hb : entryFor table id = some b) (ha : argsOk id ⟨.ref x :: rest, []⟩)
    (h : wpAny (model PG w) A.in1 (b ⟨.ref x :: rest, []⟩) (fun fin s' => ∃ v, fin = .done (.ret v) ∧ Q v s') E s) : wpAny (model PG w) A (call (.builtin id) (.ref x :: rest)) Q E s := by
  refine wpAny_call (codeAny_call_builtin hp hb (acc_check Iv I hk hs ha (wpAny_mono h (fun fin s' z => ?_) fun _ _ z => z)))
  obtain ⟨v, rfl, z⟩ := z
  exact z

theorem acc_append {s : Shared} {x dx : Addr} {vs : Array Value} {mA : Str → Option Value} {v : Value} {E Q : Value → Shared → Prop} (Iv : Inv w s) (I : AcS s.heap x dx vs mA) (hz : vs.size ≤ 1000000)
    (k : ∀ h', AcS h' x dx (vs.push v) mA → Heap.SameBut x s.heap h' → Q .none { s with heap := h' }) : wpAny (model PG w) A (call (.builtin "list.append") [.ref x, v]) Q E s := by
  refine acc_bi (n := "append") Iv I (.inr (by decide +kernel)) (by decide +kernel) (by decide +kernel) entry_list_append (args_list_append _ _) ?_
  obtain ⟨n, J⟩ := id I
  show wpAny _ _ (updateSeq x (·.push v) >>= fun _ => ret .none) _ _ s
  exact wpAny_bind (wpAny_updateSeq J.obj rfl (wpAny_pure ⟨.none, rfl, k _ (I.upd _) (Heap.SameBut.update ..)⟩) (by rw [sizeLine_eq]; omega) (by rw [Array.size_push, sizeLine_eq]; omega))
theorem acc_len {s : Shared} {x dx : Addr} {vs : Array Value} {mA : Str → Option Value} {E Q : Value → Shared → Prop} (Iv : Inv w s) (I : AcS s.heap x dx vs mA)
    (k : ∀ t tk, Q (.int vs.size t) { s with toks := tk }) : wpAny (model PG w) A (call (.builtin "list.__len__") [.ref x]) Q E s := by
  refine acc_bi (n := "__len__") Iv I (.inl (by decide +kernel)) (by decide +kernel) (by decide +kernel) entry_list_len (args_list_len _) ?_
  obtain ⟨n, J⟩ := I
  show wpAny _ _ (do retInt (← seqSize x)) _ _ s
  unfold seqSize
  refine wpAny_bind (wpAny_bind (wpAny_load J.obj ?_))
  exact wpAny_pure (wpAny_bind (wpAny_mkInt (wpAny_pure ⟨_, rfl, k _ _⟩)))
theorem pop_body {s : Shared} {x dx : Addr} {vs : Array Value} {mA : Str → Option Value} {v : Value} {E : Value → Shared → Prop} {Q : PySem.Fin → Shared → Prop} (Iv : Inv w s) (I : AcS s.heap x dx (vs.push v) mA) (hz : vs.size ≤ 1000000)
    (k : ∀ h', AcS h' x dx vs mA → Heap.SameBut x s.heap h' → Q (.done (.ret v)) { s with heap := h' }) : wpAny (model PG w) A (Builtin.«list.pop» ⟨[.ref x], []⟩) Q E s := by
  obtain ⟨n, J⟩ := id I
  unfold Builtin.«list.pop»
  refine wpAny_bind (wpAny_of_eq (show selfAndSome "list.pop" "pop" 0 1 ⟨[.ref x], []⟩ = pure (.ref x, []) from by kernel_rfl) ?_)
  refine wpAny_bind (wpAny_pure ?_)
  dsimp only
  rw [show listFitsIndex (-1) = true from by decide +kernel]
  simp only [Bool.not_true, Bool.false_eq_true, if_false]
  unfold listItems
  refine wpAny_bind (wpAny_bind (wpAny_seqItems J.obj rfl (wpAny_pure ?_)))
  have e1 : (vs.push v).isEmpty = false := by simp [Array.isEmpty]
  have e2 : seqIndex? (-1) (vs.push v).size = some vs.size := by rw [seqIndex_neg (by decide) (by rw [Array.size_push]; omega)]; rw [Array.size_push]; congr 1; omega
  rw [e1]
  simp only [Bool.false_eq_true, if_false, e2, Option.bind_some]
  have e3 : (vs.push v)[vs.size]? = some v := by simp
  rw [e3]
  simp only [Option.map_some]
  have e4 : (vs.push v).eraseIdxIfInBounds vs.size = vs := by
    rw [Array.eraseIdxIfInBounds_eq, dif_pos (by simp)]
    apply Array.ext'
    simp only [Array.toList_eraseIdx, Array.toList_push]
    rw [← Array.length_toList, List.eraseIdx_append_of_length_le (Nat.le_refl _)]
    simp
  have U := I.upd (·.eraseIdxIfInBounds vs.size)
  rw [e4] at U
  exact wpAny_bind (wpAny_updateSeq J.obj rfl (wpAny_pure (k _ U (Heap.SameBut.update ..))) (by rw [Array.size_push, sizeLine_eq]; omega) (by rw [e4, sizeLine_eq]; omega))
theorem acc_iter {s : Shared} {x dx : Addr} {vs : Array Value} {mA : Str → Option Value} {E Q : Value → Shared → Prop} (Iv : Inv w s) (I : AcS s.heap x dx vs mA)
    (k : Q (.ref s.heap.objs.size) { s with heap := s.heap.push { cls := .type "list_iterator", data := .fields #[.ref x, .int 0 0] } }) : wpAny (model PG w) A (call (.builtin "list.__iter__") [.ref x]) Q E s := by
  refine acc_bi (n := "__iter__") Iv I (.inl (by decide +kernel)) (by decide +kernel) (by decide +kernel) entry_list_iter (args_list_iter _) ?_
  show wpAny _ _ (newFields "list_iterator" [.ref x, rawInt 0] >>= fun v => ret v) _ _ s
  exact wpAny_bind (wpAny_newObj_type (wpAny_pure ⟨_, rfl, k⟩))
theorem acc_get {s : Shared} {x dx : Addr} {vs : Array Value} {mA : Str → Option Value} {i : Int} {t : Tok} {v : Value} {E Q : Value → Shared → Prop} (Iv : Inv w s) (I : AcS s.heap x dx vs mA) (h0 : 0 ≤ i) (hf : i < 2 ^ 63) (hv : vs[i.toNat]? = some v)
    (k : Q v s) : wpAny (model PG w) A (call (.builtin "list.__getitem__") [.ref x, .int i t]) Q E s := by
  refine acc_bi (n := "__getitem__") Iv I (by first | exact .inl (by decide +kernel) | exact .inr (by decide +kernel)) (by decide +kernel) (by decide +kernel) entry_list_getitem (args_list_getitem _ _) ?_
  obtain ⟨n, J⟩ := id I
  show wpAny _ _ (Builtin.List.listSubscript? (.int i t) >>= _) _ _ s
  refine wpAny_bind (wpAny_listSubscript_int (fitsIndex_of h0 hf) ?_)
  clear hf
  obtain ⟨j, rfl⟩ := Int.eq_ofNat_of_zero_le h0
  refine wpAny_bind (wpAny_bind (m := seqItemAt x j) ?_)
  unfold seqItemAt
  refine wpAny_bind (wpAny_loadPart J.obj ?_)
  have hv' : vs[j]? = some v := hv
  dsimp only
  rw [hv']
  exact wpAny_pure (wpAny_pure (wpAny_pure ⟨_, rfl, k⟩))
theorem acc_slice {s : Shared} {x dx sl : Addr} {vs : Array Value} {mA : Str → Option Value} {vl vu vst : Value} {lo hi st : Option Int} {E Q : Value → Shared → Prop} (Iv : Inv w s) (I : AcS s.heap x dx vs mA)
    (hs : s.heap.IsSliceOf sl vl vu vst) (pl : IsPart vl lo) (pu : IsPart vu hi) (ps : IsPart vst st) (h0 : st ≠ some 0) (hsz : vs.size ≤ sizeLine)
    (k : Q (.ref s.heap.objs.size) { s with heap := s.heap.push { cls := .type "list", data := .seq (slicePick vs lo hi st) } }) : wpAny (model PG w) A (call (.builtin "list.__getitem__") [.ref x, .ref sl]) Q E s := by
  refine acc_bi (n := "__getitem__") Iv I (by first | exact .inl (by decide +kernel) | exact .inr (by decide +kernel)) (by decide +kernel) (by decide +kernel) entry_list_getitem (args_list_getitem _ _) ?_
  obtain ⟨n, J⟩ := id I
  obtain ⟨os, hos, hcs, hds⟩ := id hs
  have hTs : s.TypeIs (.ref sl) "slice" := ⟨os, hos, hcs⟩
  show wpAny _ _ (Builtin.List.listSubscript? (.ref sl) >>= _) _ _ s
  refine wpAny_bind ?_
  unfold Builtin.List.listSubscript?
  refine wpAny_bind (wpAny_specialOf hTs slice_no_index ?_)
  simp only [Option.isNone_none, if_true]
  refine wpAny_pure ?_
  show wpAny _ _ (typeOf (.ref sl) >>= _) _ _ s
  refine wpAny_bind (wpAny_typeOf hTs ?_)
  rw [if_neg (by decide)]
  rw [listSliceParts_eq]
  have hstep : ¬ ((rawPart st == rawInt 0) = true) := by
    cases st with
    | none => exact Bool.false_ne_true
    | some c =>
      intro hh
      have : c = 0 := by simpa [rawPart, rawInt] using hh
      exact h0 (by rw [this])
  refine wpAny_bind (wpAny_bind (wpAny_field hos hds (x := vst) rfl (wpAny_bind (wpAny_listPart ps ?_))))
  rw [if_neg hstep]
  refine wpAny_bind (wpAny_field hos hds (x := vl) rfl (wpAny_bind (wpAny_listPart pl ?_)))
  refine wpAny_bind (wpAny_field hos hds (x := vu) rfl (wpAny_bind (wpAny_listPart pu (wpAny_pure ?_))))
  refine wpAny_bind (m := Builtin.List.listItems (.ref x)) ?_
  unfold Builtin.List.listItems
  refine wpAny_bind (wpAny_seqItems J.obj rfl (wpAny_pure ?_))
  refine wpAny_bind (wpAny_of_eq (sliceIndices_raw lo hi st vs.size h0) ?_)
  exact wpAny_bind (wpAny_newObj_type (wpAny_pure ⟨_, rfl, k⟩) (Nat.le_trans (slicePick_size_le vs lo hi st) hsz))
/-- [lo:] = a list -/
theorem acc_setslice {s : Shared} {x dx sl l : Addr} {vs us : Array Value} {mA : Str → Option Value} {vl : Value} {lo : Option Int} {E Q : Value → Shared → Prop} (Iv : Inv w s) (I : AcS s.heap x dx vs mA)
    (hs : s.heap.IsSliceOf sl vl .none .none) (pl : IsPart vl lo) (hl : s.heap.IsList l us) (hlo : 0 ≤ lo.getD 0) (hhi : lo.getD 0 ≤ vs.size) (hsz : vs.size + us.size ≤ 1000000) (hne : l ≠ x)
    (k : ∀ h', AcS h' x dx (vs.extract 0 (lo.getD 0).toNat ++ us) mA → Heap.SameBut x s.heap h' → Q .none { s with heap := h' }) : wpAny (model PG w) A (call (.builtin "list.__setitem__") [.ref x, .ref sl, .ref l]) Q E s := by
  refine acc_bi (n := "__setitem__") Iv I (by first | exact .inl (by decide +kernel) | exact .inr (by decide +kernel)) (by decide +kernel) (by decide +kernel) entry_list_setitem (args_list_setitem _ _ _) ?_
  obtain ⟨n, J⟩ := id I
  obtain ⟨os, hos, hcs, hds⟩ := id hs
  obtain ⟨ol, hol, hcl, nl, hdl⟩ := id hl
  have hTs : s.TypeIs (.ref sl) "slice" := ⟨os, hos, hcs⟩
  unfold Builtin.«list.__setitem__»
  refine wpAny_bind (wpAny_of_eq (show listBlankSlotArgs "__setitem__" 2 ⟨[.ref x, .ref sl, .ref l], []⟩ = pure (.ref x, [.ref sl, .ref l]) from by kernel_rfl) ?_)
  dsimp only
  refine wpAny_bind ?_
  unfold Builtin.List.listSubscript?
  refine wpAny_bind (wpAny_specialOf hTs slice_no_index ?_)
  simp only [Option.isNone_none, if_true]
  refine wpAny_pure ?_
  dsimp only
  show wpAny _ _ (typeOf (.ref sl) >>= _) _ _ s
  refine wpAny_bind (wpAny_typeOf hTs ?_)
  rw [if_neg (by decide)]
  rw [listSliceParts_eq]
  refine wpAny_bind (wpAny_bind (wpAny_field hos hds (x := .none) rfl (wpAny_bind (wpAny_listPart .none ?_))))
  rw [if_neg (show ¬ ((rawPart none == rawInt 0) = true) from Bool.false_ne_true)]
  refine wpAny_bind (wpAny_field hos hds (x := vl) rfl (wpAny_bind (wpAny_listPart pl ?_)))
  refine wpAny_bind (wpAny_field hos hds (x := .none) rfl (wpAny_bind (wpAny_listPart .none (wpAny_pure ?_))))
  dsimp only
  rw [show listSameRef (.ref x) (.ref l) = false from by show (x == l) = false; simpa using Ne.symm hne]
  simp only [Bool.false_eq_true, if_false]
  unfold listAllItems
  refine wpAny_bind (wpAny_bind (wpAny_typeOf hl.typeIs ?_))
  rw [if_pos (by decide)]
  unfold listItems
  refine wpAny_bind (wpAny_seqItems hol hdl (wpAny_pure ?_))
  refine wpAny_bind (wpAny_bind (wpAny_seqItems J.obj rfl (wpAny_pure ?_)))
  refine wpAny_bind (wpAny_of_eq (sliceIndices_raw lo none none vs.size (by simp)) ?_)
  have eb : sliceBounds lo none none vs.size = (lo.getD 0, (vs.size : Int), 1) := by
    cases lo with
    | none => simp [sliceBounds]
    | some i =>
      simp only [sliceBounds, Option.getD_none, Option.getD_some] at hlo hhi ⊢
      have h1 : ¬ (i < 0) := by omega
      simp only [h1, if_false, show (1 : Int) > 0 by decide, if_true]
      congr 1
      omega
  rw [eb]
  dsimp only
  rw [if_pos (by decide)]
  refine wpAny_bind (wpAny_rule ?_)
  rw [show listTooLong (vs.size + us.size) = false from by
    unfold listTooLong
    rw [sizeLine_eq]
    exact decide_eq_false (by omega)]
  simp only [Bool.false_eq_true, if_false]
  have hm : (max (lo.getD 0) (vs.size : Int)).toNat = vs.size := by omega
  have U := I.upd (fun xs => xs.extract 0 (lo.getD 0).toNat ++ us ++ xs.extract (max (lo.getD 0) (vs.size : Int)).toNat xs.size)
  have e5 : vs.extract 0 (lo.getD 0).toNat ++ us ++ vs.extract (max (lo.getD 0) (vs.size : Int)).toNat vs.size = vs.extract 0 (lo.getD 0).toNat ++ us := by
    rw [hm]; simp
  rw [e5] at U
  refine wpAny_bind (wpAny_updateSeq J.obj rfl ?_ (by rw [sizeLine_eq]; omega) (by rw [e5]; simp [sizeLine_eq]; omega))
  refine wpAny_bind (wpAny_letGo ?_)
  exact wpAny_pure ⟨.none, rfl, k _ U (Heap.SameBut.update ..)⟩
end
end Mine
end

section
open PySem PySem.Calls PyProof.Rows PySem.W
set_option Elab.async false
set_option maxRecDepth 100000
set_option linter.unusedVariables false
namespace Mine
noncomputable section
variable {w : World} {A : Around} {X Y : List Addr} {env : Env} {Γ : Ctxt} {s₀ : Shared} {μ μ' : Mu}

/-- what a class gives for a name, to be called with the object in front -/
noncomputable def methB (K : Frag) (C : Addr) (name : Str) (f : Value) : Bool := (match findIn K (.ref C) "__getattribute__" with | some (some (.builtin i)) => Manifest.canonical i == "object.__getattribute__" | _ => false) && (match findIn K (.ref C) "__getattr__" with | some none => true | _ => false) &&
  (match findIn K (.ref C) name with | some (some g) => g == f | _ => false) && (match typeIn K f with | some t => t == .type "function" || t == .type "method_descriptor" || t == .type "wrapper_descriptor" | _ => false)
theorem getMethod_any {s : Shared} {x C dx : Addr} {f : Value} {dt : Data} {mA : Str → Option Value} {name : Str} {pl : Sem Bool} {E : Value → Shared → Prop} {Q : Value × List Value → Shared → Prop} (Iv : Inv w s) (I : Ins s.heap x C dx dt mA) (hn : ∀ c, dt ≠ .cls c) (hc : methB (K' w.params) C name f = true) (hv : mA name = none)
    (h : Q (f, [.ref x]) s) : wpAny (model PG w) A (getMethod (.ref x) name pl) Q E s := by
  obtain ⟨o, J, hl⟩ := I.kit hn
  have Kn := Iv.kin
  unfold methB at hc
  simp only [Bool.and_eq_true] at hc
  obtain ⟨⟨⟨h1, h2⟩, h3⟩, h4⟩ := hc
  split at h1
  · rename_i i hg
    split at h2
    · rename_i hk
      split at h3
      · rename_i g hf
        have hf' : findIn (K' w.params) (.ref C) name = some (some f) := by rw [hf, beq_iff_eq.mp h3]
        split at h4
        · rename_i t ht
          unfold getMethod specialOf
          refine wpAny_bind (wpAny_bind (J.type.here ((looks_findIn Kn hg).here ?_)))
          dsimp only
          rw [show (Manifest.canonical i != "object.__getattribute__") = false from by rw [bne, h1]; rfl, if_neg (by decide)]
          refine wpAny_bind (wpAny_bind (J.type.here ((looks_findIn Kn hk).here ?_)))
          refine wpAny_bind (wpAny_bind (J.type.here ((looks_findIn Kn hf').here (wpAny_bind ((looks_typeIn Kn ht).here ?_)))))
          have h5 : (t != .type "function" && t != .type "method_descriptor" && t != .type "wrapper_descriptor") = false := by
            simp only [bne]
            revert h4
            cases (t == Value.type "function") <;> cases (t == Value.type "method_descriptor") <;> cases (t == Value.type "wrapper_descriptor") <;> simp
          rw [h5, if_neg (by decide)]
          refine wpAny_bind (wpAny_loadPart J.at_ ?_)
          refine wpAny_bind (wpAny_bind (wpAny_loadPart (show s.heap.get? dx = some o from J.dict) ?_))
          rw [nsLook_of (hl name), hv]
          exact wpAny_pure (wpAny_bind (wpAny_rule (wpAny_pure h)))
        · cases h4
      · cases h3
    · cases h2
  · cases h1

/-! ### an attribute of an _Accumulator's -/
theorem getAttr_acc {s : Shared} {x dx : Addr} {vs : Array Value} {mA : Str → Option Value} {name : Str} {v : Value} {expr : Bool} {E Q : Value → Shared → Prop} (Iv : Inv w s) (I : AcS s.heap x dx vs mA)
    (hg : findIn (K' w.params) (.ref 178) "__getattribute__" = some (some (.builtin "list.__getattribute__"))) (hk : findIn (K' w.params) (.ref 178) "__getattr__" = some none)
    (hf : findIn (K' w.params) (.ref 178) name = some none) (hd : (match clsIn (K' w.params) 178 with | some cd => cd.hasDict | none => false) = true) (hv : mA name = some v) (hh : handedIn v = true)
    (h : Q v { s with toks := s.toks + 1 }) : wpAny (model PG w) A (getAttr (.ref x) name expr) Q E s := by
  obtain ⟨n, J₀⟩ := id I
  obtain ⟨o, J, hl⟩ := J₀.kit (by intro c; simp)
  have Kn := Iv.kin
  have fo : findObj (K' w.params) 178 (some o) name = some (.value v) := by
    split at hd
    · rename_i cd hc
      unfold findObj
      rw [hc, hf]
      simp only [Option.bind_some]
      unfold PySem.W.ownOf
      rw [if_pos hd]
      show ((lookIn name o).bind _) = _
      rw [hl, hv]
      rfl
    · cases hd
  have L0 := J.type (M := model PG w)
  have L1 := looks_findIn (M := model PG w) Kn hg
  have L2 := looks_findIn (M := model PG w) Kn hk
  have L3 := looks_find (M := model PG w) Kn J fo
  have L4 := acc_sub Iv I
  obtain ⟨hh', g, d, t, os⟩ := s
  dsimp only at L0 L1 L2 L3 h
  have Iv' : Inv w ⟨hh', g, d, t + 1, os⟩ := Iv.tok (t + 1)
  have I' : AcS (Shared.heap ⟨hh', g, d, t + 1, os⟩) x dx vs mA := I
  have ka : builtinKind "list.__getattribute__" = some .slot ∨ builtinKind "list.__getattribute__" = some .method := .inl (by decide +kernel)
  have kb : splitId "list.__getattribute__" = some ("list", "__getattribute__") := by decide +kernel
  unfold getAttr getAttrBy
  refine wpAny_bind (wpAny_mkText (wpAny_holding (wpAny_bind (L0.at (wpAny_bind (L1.at ?_))))))
  show wpAny _ _ (getAttrByItsOwn _ _ _ _ _ _) _ _ _
  unfold getAttrByItsOwn
  refine wpAny_bind ((show Looks (model PG w) hh' (hookBefore (.ref 178)) none from L2).at ?_)
  refine wpAny_bind (wpAny_attempt ?_)
  refine wpAny_holding ?_
  show wpAny _ _ (callGetattribute _ _ _ _) _ _ _
  unfold callGetattribute
  rw [if_neg (by cases expr <;> simp [onTheHeap])]
  unfold boundAndCalled
  rw [PySem.F.slot_list_getattribute.bind]
  refine wpAny_bind (wpAny_pure ?_)
  show wpAny _ _ (call (.builtin "list.__getattribute__") [.ref x, .str name t]) _ _ _
  refine wpAny_call ?_
  refine codeAny_call_builtin PySem.F.slot_list_getattribute.plain PySem.F.entry_list_ga ?_
  refine acc_check (id := "list.__getattribute__") (n := "__getattribute__") (rest := [.str name t]) Iv' I' ka kb (PySem.F.args_list_getattribute_2 _ _) ?_
  unfold Builtin.«object.__getattribute__»
  refine wpAny_bind (wpAny_of_eq (show slotArgs "__getattribute__" 1 ⟨[.ref x, .str name t], []⟩ = pure (.ref x, [.str name t]) from by kernel_rfl) ?_)
  dsimp only
  refine wpAny_bind (wpAny_of_eq (show Builtin.ObjectAttr.attrName (.str name t) = pure name from by kernel_rfl) ?_)
  refine wpAny_bind (L0.at (wpAny_bind (L3.at ?_)))
  refine wpAny_pure ?_
  show wpAny _ _ (handedOut v) _ _ _
  rw [handedOut_of hh]
  exact wpAny_pure h
end
end Mine
end

section
open PySem PySem.Calls PyProof.Rows PySem.W
set_option Elab.async false
set_option maxRecDepth 100000
set_option linter.unusedVariables false
namespace Mine
noncomputable section
variable {w : World} {A : Around} {X Y : List Addr} {env : Env} {Γ : Ctxt} {s₀ : Shared} {μ μ' μ₁ μ₂ : Mu}

theorem St.turn {s s' : Shared} (S : St w env X s₀ μ Γ s) (I : Inv w s') (G : GrO μ.O s s') (hO : μ'.O = μ.O) (hΦ : μ'.Φ (hideAll s'.heap X) s'.heap) (B : Bel X s') : St w env X s₀ μ' Γ s' ∧ Sub (hideAll s.heap X) (hideAll s'.heap X) := by
  have hs : Sub (hideAll s.heap X) (hideAll s'.heap X) := G.hid (fun z hz => (S.mo z hz).1) S.bel.a S.bel.b
  refine ⟨⟨I, ?_, B, hΦ, fun a ha => S.mo a (hO ▸ ha), ?_⟩, hs⟩
  · rw [hO]; exact S.gr.trans (G.mono fun z hz => List.mem_append_right _ hz)
  · obtain ⟨lm, cm, V, H⟩ := S.ex
    exact ⟨lm, cm, V.grO S.inv G (fun m => (S.mo _ m).2.2.1 List.mem_cons_self) (fun n c hm m => (S.mo c m).2.2.2 n c hm rfl), H.st hs⟩

/-- an expression beside turned objects -/
noncomputable def EvM (w : World) (A : Around) (X : List Addr) (env : Env) (s₀ : Shared) (Γ : Ctxt) (μ : Mu) (e : Expr) (μ' : Mu) (p : VP) : Prop :=
  ∀ (s : Shared) (E Q : Value → Shared → Prop), St w env X s₀ μ Γ s → (∀ v s', St w env X s₀ μ' Γ s' → Sub (hideAll s.heap X) (hideAll s'.heap X) → p.p (hideAll s'.heap X) v → Q v s') → wpAny (model PG w) A (eval e env) Q E s
theorem em_ev {e : Expr} {p : VP} (h : Ev w A X env Γ e p) : EvM w A X env s₀ Γ μ e μ p := fun s E Q S k => st_ev h S fun v s' S' G hp => k v s' S' (hid_sub S.bel G) hp
/-- arguments that read turned objects, and turn none -/
noncomputable def EvLM (w : World) (A : Around) (X : List Addr) (env : Env) (s₀ : Shared) (Γ : Ctxt) (μ : Mu) (es : List Expr) (ps : List VP) : Prop :=
  ∀ (pos : Pos) (s : Shared) (E : Value → Shared → Prop) (Q : List Value → Shared → Prop), St w env X s₀ μ Γ s →
    (∀ vs s', St w env X s₀ μ Γ s' → Sub (hideAll s.heap X) (hideAll s'.heap X) → All2 (hideAll s'.heap X) ps vs → Q vs s') → wpAny (model PG w) A (spliced (backTo pos (starEach es env))) Q E s
theorem elm_nil : EvLM w A X env s₀ Γ μ [] [] := fun _ s _ _ S h => wpAny_items_nil (h [] s S (Sub.refl _) trivial)
theorem elm_cons {e : Expr} {es : List Expr} {p : VP} {ps : List VP} (h1 : EvM w A X env s₀ Γ μ e μ p) (h2 : EvLM w A X env s₀ Γ μ es ps) (he : ∀ env, starEach (e :: es) env = (false, eval e env) :: starEach es env := by intro _; rfl) :
    EvLM w A X env s₀ Γ μ (e :: es) (p :: ps) := fun pos s E Q S h =>
  wpAny_items_cons (h1 s E _ S fun v s1 S1 hs1 hp => h2 pos s1 E _ S1 fun vs s2 S2 hs2 hA => h (v :: vs) s2 S2 (hs1.trans hs2) ⟨p.st _ _ _ hs2 hp, hA⟩) (he env)
theorem elm_ev {es : List Expr} {ps : List VP} (h : EvL w A X env Γ es ps) : EvLM w A X env s₀ Γ μ es ps := fun pos s E Q S k => by
  obtain ⟨lm, cm, V, H⟩ := S.ex
  exact h pos s lm cm E Q S.inv S.bel V H fun vs s' I G hA => k vs s' (S.step I G) (hid_sub S.bel G) hA

theorem evalArgs_M {f : Value} {pos : Pos} {a : List Expr} {ps : List VP} {s : Shared} {E : Value → Shared → Prop} {Q : Args → Shared → Prop} (ha : EvLM w A X env s₀ Γ μ a ps) (hplain : (backTo pos (starEach a env)).any (·.1) = false) (S : St w env X s₀ μ Γ s)
    (k : ∀ vs s', St w env X s₀ μ Γ s' → Sub (hideAll s.heap X) (hideAll s'.heap X) → All2 (hideAll s'.heap X) ps vs → Q ⟨vs, []⟩ s') : wpAny (model PG w) A (evalArgs f true (backTo pos (starEach a env)) []) Q E s := by
  have h := ha pos s E (fun vs s' => Q ⟨vs, []⟩ s') S k
  cases q : backTo pos (starEach a env) with
  | nil =>
    rw [q] at h
    unfold evalArgs
    show wpAny _ A (spliced [] >>= _) Q E s
    refine wpAny_bind (wpAny_mono h (fun vs s' h' => ?_) fun _ _ x => x)
    refine wpAny_bind (wpAny_pure ?_)
    refine wpAny_holding ?_
    exact wpAny_bind (wpAny_pure (wpAny_bind (wpAny_pure (wpAny_pure h'))))
  | cons x r =>
    rw [q] at h hplain
    obtain ⟨b, x⟩ := x
    simp only [List.any_cons, Bool.or_eq_false_iff] at hplain
    obtain ⟨hb, _⟩ := hplain
    subst hb
    exact evalArgs_plain h

/-- a contract on some of the turned objects -/
structure Focus (μ : Mu) (μ₁ : Mu) (Φ₁ : Heap → Heap → Prop) (μ' : Mu) : Prop where
  O : μ'.O = μ.O
  sub : ∀ a ∈ μ₁.O, a ∈ μ.O
  get : ∀ g h, μ.Φ g h → μ₁.Φ g h
  put : ∀ g g' h h', μ.Φ g h → Sub g g' → (∀ b ∈ μ.O, b ∉ μ₁.O → ∀ o, h.get? b = some o → h'.get? b = some o) → Φ₁ g' h' → μ'.Φ g' h'
theorem Focus.all {Φ' : Heap → Heap → Prop} (hO : μ'.O = μ.O) (h : μ'.Φ = Φ') : Focus μ μ Φ' μ' := ⟨hO, fun _ h => h, fun _ _ x => x, fun _ _ _ _ _ _ _ x => h ▸ x⟩
theorem st_focus {s : Shared} (S : St w env X s₀ μ Γ s) {Φ₁ : Heap → Heap → Prop} (Fc : Focus μ μ₁ Φ₁ μ') {s' : Shared} (I : Inv w s') (G : GrO μ₁.O s s') (B : Bel X s') (hΦ : Φ₁ (hideAll s'.heap X) s'.heap) : St w env X s₀ μ' Γ s' ∧ Sub (hideAll s.heap X) (hideAll s'.heap X) := by
  have hs : Sub (hideAll s.heap X) (hideAll s'.heap X) := G.hid (fun z hz => (S.mo z (Fc.sub z hz)).1) S.bel.a S.bel.b
  exact S.turn I (G.mono Fc.sub) Fc.O (Fc.put _ _ _ _ S.mu hs (fun b hb hn o e => G.keep b o e hn (S.mo b hb).2.1.a (S.mo b hb).2.1.b) hΦ) B
theorem st_call {s : Shared} {n : Nat} {f : Addr} {Φ₁ : Heap → Heap → Prop} {ps : List VP} {r : VP} {vs : List Value} {E Q : Value → Shared → Prop} (hA : Rm A n) (C : MOK w n f μ₁ Φ₁ ps r) (Fc : Focus μ μ₁ Φ₁ μ') (S : St w env X s₀ μ Γ s) (hv : All2 (hideAll s.heap X) ps vs)
    (k : ∀ v s', St w env X s₀ μ' Γ s' → Sub (hideAll s.heap X) (hideAll s'.heap X) → r.p (hideAll s'.heap X) v → Q v s') : wpAny (model PG w) A (call (.ref f) vs) Q E s :=
  wpAny_call (C X A s _ vs hA S.inv S.bel (fun a ha => ⟨(S.mo a (Fc.sub a ha)).1, (S.mo a (Fc.sub a ha)).2.1⟩) (Fc.get _ _ S.mu) hv fun v s' I G B hΦ hp => by
    obtain ⟨h1, h2⟩ := st_focus S Fc I G B hΦ
    exact k v s' h1 h2 hp)

/-- a method of an object's: a def of its class's -/
theorem em_mcall {o : Expr} {name : Str} {apos pos : Pos} {a : List Expr} {x C dx f : Addr} {n : Nat} {Φ₁ : Heap → Heap → Prop} {ps : List VP} {r : VP} (hA : Rm A n) (ho : EvM w A X env s₀ Γ μ o μ (vIs (.ref x))) (ha : EvLM w A X env s₀ Γ μ a ps)
    (hI : ∀ g h, μ.Φ g h → ∃ dt mA, Ins h x C dx dt mA ∧ (∀ c, dt ≠ .cls c) ∧ mA name = none) (hm : methB (K' w.params) C name (.ref f) = true) (Cn : MOK w n f μ₁ Φ₁ (vIs (.ref x) :: ps) r) (Fc : Focus μ μ₁ Φ₁ μ')
    (hf : isFnK w.params f = true) (h1 : f ≠ T1 := by decide) (h2 : f ≠ T2 := by decide) (hplain : (backTo pos (starEach a env)).any (·.1) = false := by rfl)
    (pl : Sem Bool := do return (← importBound o env).getD true)
    (he : eval (.Call (.Attribute o name apos) a [] pos) env = (do
      let ov ← eval o env
      standAt apos.atName
      let (f, first) ← holding [ov] (getMethod ov name pl)
      callWith pos f first (backTo pos (starEach a env)) (backToKw pos (keywordEach [] env))) := by rfl) :
    EvM w A X env s₀ Γ μ (.Call (.Attribute o name apos) a [] pos) μ' r := fun s E Q S k =>
  methodCall_KW (pl := pl) (ho s E _ S fun v s1 S1 hs1 hp => by
    have hp' : v = .ref x := hp
    subst hp'
    obtain ⟨dt, mA, J, hn, hv⟩ := hI _ _ S1.mu
    refine getMethod_any S1.inv J hn hm hv ?_
    refine callWith_fn hf h1 h2 (evalArgs_M ha hplain S1 fun vs s2 S2 hs2 hA2 => ⟨S2.inv, ?_⟩) hplain
    exact st_call hA Cn Fc S2 ⟨rfl, hA2⟩ fun v s3 S3 hs3 hr => k v s3 S3 ((hs1.trans hs2).trans hs3) hr) he
end
end Mine
end

section
open PySem PySem.Calls PyProof.Rows PySem.W
set_option Elab.async false
set_option maxRecDepth 100000
set_option linter.unusedVariables false
namespace Mine
noncomputable section
variable {w : World} {A : Around} {X Y : List Addr} {env : Env} {Γ : Ctxt} {s₀ : Shared} {μ μ' μ₁ μ₂ : Mu}

/-! ### attributes -/
theorem em_attrF {value : Expr} {attr : Str} {pos : Pos} {x C dx : Addr} {dt : Data} {p : VP} (hv : EvM w A X env s₀ Γ μ value μ (vIs (.ref x))) (hn : ∀ c, dt ≠ .cls c)
    (hI : ∀ g h, μ.Φ g h → ∃ mA v, Ins h x C dx dt mA ∧ mA attr = some v ∧ handedIn v = true ∧ p.p g v) (hc : valueIn (K' w.params) C attr = true)
    (he : eval (.Attribute value attr pos) env = (do
      let o ← eval value env
      standAt pos.atName
      let r ← holding [o] (getAttr o attr true)
      letTemporaryGo value o r
      pure r) := by with_unfolding_all rfl) : EvM w A X env s₀ Γ μ (.Attribute value attr pos) μ p := fun s E Q S k =>
  Attribute_any_ (hv s E _ S fun v s1 S1 hs1 hp => by
    have hp' : v = .ref x := hp
    subst hp'
    obtain ⟨mA, u, J, hu, hh, hpu⟩ := hI _ _ S1.mu
    exact getAttr_ins S1.inv J hn hc hu hh (k u _ (S1.step (S1.inv.tok _) (Gr.tok _ _)) hs1 hpu)) he
theorem acc_ga : findIn (K' w.params) (.ref 178) "__getattribute__" = some (some (.builtin "list.__getattribute__")) := by kernel_rfl
theorem acc_gat : findIn (K' w.params) (.ref 178) "__getattr__" = some none := by kernel_rfl
theorem acc_hd : (match clsIn (K' w.params) 178 with | some cd => cd.hasDict | none => false) = true := by kernel_rfl
theorem acc_is : findIn (K' w.params) (.ref 178) "_initial_size" = some none := by kernel_rfl
theorem em_attrA {value : Expr} {pos : Pos} {x dx : Addr} {p : VP} (hv : EvM w A X env s₀ Γ μ value μ (vIs (.ref x)))
    (hI : ∀ g h, μ.Φ g h → ∃ vs mA v, AcS h x dx vs mA ∧ mA "_initial_size" = some v ∧ handedIn v = true ∧ p.p g v)
    (he : eval (.Attribute value "_initial_size" pos) env = (do
      let o ← eval value env
      standAt pos.atName
      let r ← holding [o] (getAttr o "_initial_size" true)
      letTemporaryGo value o r
      pure r) := by with_unfolding_all rfl) : EvM w A X env s₀ Γ μ (.Attribute value "_initial_size" pos) μ p := fun s E Q S k =>
  Attribute_any_ (hv s E _ S fun v s1 S1 hs1 hp => by
    have hp' : v = .ref x := hp
    subst hp'
    obtain ⟨vs, mA, u, J, hu, hh, hpu⟩ := hI _ _ S1.mu
    exact getAttr_acc S1.inv J (acc_ga (w := w)) (acc_gat (w := w)) (acc_is (w := w)) (acc_hd (w := w)) hu hh (k u _ (S1.step (S1.inv.tok _) (Gr.tok _ _)) hs1 hpu)) he

/-! ### builtins' methods -/
theorem em_meth {o : Expr} {name : Str} {apos pos : Pos} {T id : String} {a : List Expr} {p : VP} {ps : List VP} {r : VP} (ho : EvM w A X env s₀ Γ μ o μ p) (ha : EvLM w A X env s₀ Γ μ a ps)
    (pa : PlainAttrs T) (slot : Slot T name id) (ty : typeOf (.builtin id) = pure (.type "method_descriptor"))
    (hT : ∀ (s : Shared) v, St w env X s₀ μ Γ s → p.p (hideAll s.heap X) v → s.TypeIs v T ∧ (∀ a, v = .ref a → ∃ ob, s.heap.get? a = some ob ∧ ob.dict = none))
    (hc : ∀ (s : Shared) (E Q : Value → Shared → Prop) (v : Value) (vs : List Value), St w env X s₀ μ Γ s → p.p (hideAll s.heap X) v → All2 (hideAll s.heap X) ps vs →
      (∀ v' s', St w env X s₀ μ' Γ s' → Sub (hideAll s.heap X) (hideAll s'.heap X) → r.p (hideAll s'.heap X) v' → Q v' s') → wpAny (model PG w) A (call (.builtin id) (v :: vs)) Q E s)
    (hplain : (backTo pos (starEach a env)).any (·.1) = false := by rfl)
    (hbase : attributeBase o name env (eval o env) = eval o env := by rfl)
    (hfew : ((backTo pos (starEach a env)).all (fun x => !x.1) && (backToKw pos (keywordEach [] env)).all (fun x => x.1.isSome)
      && decide (a.length + ([] : List Keyword).length + (if ([] : List Keyword).isEmpty then 0 else 1) < 30)) = true := by rfl)
    (hline : (apos.endLine == pos.line) = true := by rfl) :
    EvM w A X env s₀ Γ μ (.Call (.Attribute o name apos) a [] pos) μ' r := fun s E Q S k =>
  wpAny_Call_method_lateS hbase hfew hline (ho s E _ S fun v s1 S1 hs1 hp => by
    obtain ⟨h1, h2⟩ := hT s1 v S1 hp
    refine ⟨T, id, pa, slot, ty, h1, h2, callWith_builtin hplain (evalArgs_M ha hplain S1 fun vs s2 S2 hs2 hA2 => ?_)⟩
    exact hc s2 E Q v vs S2 (p.st _ _ _ hs2 hp) hA2 fun u s3 S3 hs3 hr => k u s3 S3 ((hs1.trans hs2).trans hs3) hr)
/-- a builtin's method that the class of an object's has -/
theorem em_imeth {o : Expr} {name : Str} {apos pos : Pos} {id : String} {a : List Expr} {x C dx : Addr} {ps : List VP} {r : VP} (ho : EvM w A X env s₀ Γ μ o μ (vIs (.ref x))) (ha : EvLM w A X env s₀ Γ μ a ps)
    (hI : ∀ g h, μ.Φ g h → ∃ dt mA, Ins h x C dx dt mA ∧ (∀ c, dt ≠ .cls c) ∧ mA name = none) (hm : methB (K' w.params) C name (.builtin id) = true)
    (hc : ∀ (s : Shared) (E Q : Value → Shared → Prop) (vs : List Value), St w env X s₀ μ Γ s → All2 (hideAll s.heap X) ps vs →
      (∀ v' s', St w env X s₀ μ' Γ s' → Sub (hideAll s.heap X) (hideAll s'.heap X) → r.p (hideAll s'.heap X) v' → Q v' s') → wpAny (model PG w) A (call (.builtin id) (.ref x :: vs)) Q E s)
    (hplain : (backTo pos (starEach a env)).any (·.1) = false := by rfl)
    (pl : Sem Bool := do return (← importBound o env).getD true)
    (he : eval (.Call (.Attribute o name apos) a [] pos) env = (do
      let ov ← eval o env
      standAt apos.atName
      let (f, first) ← holding [ov] (getMethod ov name pl)
      callWith pos f first (backTo pos (starEach a env)) (backToKw pos (keywordEach [] env))) := by rfl) :
    EvM w A X env s₀ Γ μ (.Call (.Attribute o name apos) a [] pos) μ' r := fun s E Q S k =>
  methodCall_KW (pl := pl) (ho s E _ S fun v s1 S1 hs1 hp => by
    have hp' : v = .ref x := hp
    subst hp'
    obtain ⟨dt, mA, J, hn, hv⟩ := hI _ _ S1.mu
    refine getMethod_any S1.inv J hn hm hv ?_
    refine callWith_builtin hplain (evalArgs_M ha hplain S1 fun vs s2 S2 hs2 hA2 => ?_)
    exact hc s2 E Q vs S2 hA2 fun v s3 S3 hs3 hr => k v s3 S3 ((hs1.trans hs2).trans hs3) hr) he
/-- a builtin called with what reads turned objects -/
theorem em_bicall {x : Str} {np pos : Pos} {id : String} {a : List Expr} {ps : List VP} {r : VP} (hE : EnvOk env) (ha : EvLM w A X env s₀ Γ μ a ps)
    (hk : env.kindOf x = some .globalImplicit) (e : nsK w.params mainGlobals x = some none) (e' : nsK w.params builtinsNs x = some (some (.builtin id)))
    (hc : ∀ (s : Shared) (E Q : Value → Shared → Prop) (vs : List Value), St w env X s₀ μ Γ s → All2 (hideAll s.heap X) ps vs →
      (∀ v' s', St w env X s₀ μ' Γ s' → Sub (hideAll s.heap X) (hideAll s'.heap X) → r.p (hideAll s'.heap X) v' → Q v' s') → wpAny (model PG w) A (call (.builtin id) vs) Q E s)
    (hplain : (backTo pos (starEach a env)).any (·.1) = false := by rfl) (hd : (x == ("__debug__" : Str)) = false := by rfl) :
    EvM w A X env s₀ Γ μ (.Call (.Name x np) a [] pos) μ' r := fun s E Q S k =>
  wpAny_Call_NameR (Name_function_global hE.k hk (loadBi_K hE S.inv e e' (callWith_builtin hplain (evalArgs_M ha hplain S fun vs s1 S1 hs1 hA1 =>
    hc s1 E Q vs S1 hA1 fun v s2 S2 hs2 hr => k v s2 S2 (hs1.trans hs2) hr))) hd)
theorem em_cmp {op : CmpOp} {l r : Expr} {p q t : VP} {pos : Pos} (hl : EvM w A X env s₀ Γ μ l μ₁ p) (hr : EvM w A X env s₀ Γ μ₁ r μ' q) (ho : Op2 w A (compareOp op) p q t) (hm : behindInMarks op r = false := by with_unfolding_all rfl) : EvM w A X env s₀ Γ μ (.Compare l [op] [r] pos) μ' t :=
  fun s E Q S k => wpAny_Compare1 (hl s E _ S fun a s1 S1 h1 ha => hr s1 E _ S1 fun b s2 S2 h2 hb => ho X s2 E Q a b S2.inv S2.bel (p.st _ _ _ h2 ha) hb fun v s3 I3 G3 hv => k v s3 (S2.step I3 G3) ((h1.trans h2).trans (hid_sub S2.bel G3)) hv) hm
theorem em_bin {op : Operator} {l r : Expr} {p q t : VP} {pos : Pos} (hl : EvM w A X env s₀ Γ μ l μ₁ p) (hr : EvM w A X env s₀ Γ μ₁ r μ' q) (ho : Op2 w A (binaryOp op) p q t) : EvM w A X env s₀ Γ μ (.BinOp l op r pos) μ' t :=
  fun s E Q S k => wpAny_BinOp (hl s E _ S fun a s1 S1 h1 ha => hr s1 E _ S1 fun b s2 S2 h2 hb => ho X s2 E Q a b S2.inv S2.bel (p.st _ _ _ h2 ha) hb fun v s3 I3 G3 hv => k v s3 (S2.step I3 G3) ((h1.trans h2).trans (hid_sub S2.bel G3)) hv)

/-! ### tests -/
noncomputable def TeM (w : World) (A : Around) (X : List Addr) (env : Env) (s₀ : Shared) (Γ : Ctxt) (μ : Mu) (e : Expr) (μ' : Mu) (b : Bool) : Prop :=
  ∀ (s : Shared) (E : Value → Shared → Prop) (Q : Bool → Shared → Prop), St w env X s₀ μ Γ s → (∀ s', St w env X s₀ μ' Γ s' → Q b s') → wpAny (model PG w) A (isTrue e env (eval e env)) Q E s
theorem tm_te {e : Expr} {b : Bool} (h : Te w A X env Γ e b) : TeM w A X env s₀ Γ μ e μ b := fun s E Q S k => st_te h S fun s' S' _ => k s' S'
theorem tm_cmp {op : CmpOp} {l r : Expr} {p q : VP} {b : Bool} {pos : Pos} (hl : EvM w A X env s₀ Γ μ l μ₁ p) (hr : EvM w A X env s₀ Γ μ₁ r μ' q) (ho : Op2 w A (compareOp op) p q (vBool b)) (hm : behindInMarks op r = false := by with_unfolding_all rfl) : TeM w A X env s₀ Γ μ (.Compare l [op] [r] pos) μ' b :=
  fun s E Q S k => wpAny_isTrue_Compare1 (hl s E _ S fun a s1 S1 h1 ha => hr s1 E _ S1 fun b s2 S2 h2 hb => ho X s2 E _ a b S2.inv S2.bel (p.st _ _ _ h2 ha) hb fun v s3 I3 G3 hv => by
    have hv' : v = .bool _ := hv
    subst hv'
    exact wpAny_truthy_bool (k s3 (S2.step I3 G3))) hm
theorem tm_and {x y : Expr} {a b : Bool} {pos : Pos} (h1 : TeM w A X env s₀ Γ μ x μ₁ a) (h2 : a = true → TeM w A X env s₀ Γ μ₁ y μ' b) (h3 : a = false → μ' = μ₁) : TeM w A X env s₀ Γ μ (.BoolOp .And [x, y] pos) μ' (a && b) :=
  fun s E Q S k => wpAny_isTrue_BoolOp (wpAny_allTrue_And_cons (h1 s E _ S fun s1 S1 => by
    cases a with
    | false => exact k s1 (h3 rfl ▸ S1)
    | true =>
      refine wpAny_allTrue_And_cons (h2 rfl s1 E _ S1 fun s2 S2 => ?_)
      cases b with
      | false => exact k s2 S2
      | true => exact wpAny_allTrue_And_nil (k s2 S2)))

/-! ### statements -/
theorem bd_exprM {e : Expr} {pos : Pos} {p : VP} {rest : List Stmt} {R : Flow → Shared → Prop} (he : EvM w A X env s₀ Γ μ e μ' p) (k : Bd w A X env s₀ μ' Γ rest R)
    (hi : interactive env = false := by rfl) (hs : swapsWith e none pos.line env = pure false := by rfl) : Bd w A X env s₀ μ Γ (.Expr e pos :: rest) R :=
  fun s E S => wpAny_execs_cons (wpAny_Expr_any (he s E _ S fun v s1 S1 _ _ => k s1 E S1) hi hs)
theorem bd_assignM {x : Str} {px pos : Pos} {e : Expr} {p : VP} {rest : List Stmt} {R : Flow → Shared → Prop} (F : Fn w env X) (he : EvM w A X env s₀ Γ μ e μ' p) (k : Bd w A X env s₀ μ' ((x, p) :: dropN x Γ) rest R)
    (hk : stB env x = true := by kernel_rfl)
    (hs : swapsWith e (some (.Name x px)) pos.line env = pure false := by rfl) : Bd w A X env s₀ μ Γ (.Assign [.Name x px] e pos :: rest) R :=
  fun s E S => wpAny_execs_cons (wpAny_Assign_Name (he s E _ S fun v s1 S1 _ hp => st_store F S1 hp hk fun s2 S2 => k s2 E S2) hs)
theorem bd_retM {e : Expr} {p : VP} {pos : Pos} {rest : List Stmt} {R : Flow → Shared → Prop} (he : EvM w A X env s₀ Γ μ e μ' p) (hO : μ'.O = μ.O) (k : RetOK w X env s₀ μ'.O μ'.Φ p .ret R) : Bd w A X env s₀ μ Γ (.Return (some e) pos :: rest) R :=
  fun s E S => wpAny_execs_cons (wpAny_Return_some (he s E _ S fun v s1 S1 _ hp => k v s1 S1.inv S1.gr S1.mu S1.bel hp))
theorem bd_ifMT {t : Expr} {a c : List Stmt} {pos : Pos} {rest : List Stmt} {R : Flow → Shared → Prop} (ht : TeM w A X env s₀ Γ μ t μ' true) (h : ∀ E : Value → Shared → Prop, Bd w A X env s₀ μ' Γ a fun f s' => match f with | .next => wpAny (model PG w) A (execs rest env) R E s' | f => R f s') :
    Bd w A X env s₀ μ Γ (.If t a c pos :: rest) R :=
  fun s E S => wpAny_execs_cons (wpAny_If (ht s E _ S fun s1 S1 => h E s1 E S1))
theorem bd_ifMF {t : Expr} {a c : List Stmt} {pos : Pos} {rest : List Stmt} {R : Flow → Shared → Prop} (ht : TeM w A X env s₀ Γ μ t μ' false) (h : ∀ E : Value → Shared → Prop, Bd w A X env s₀ μ' Γ c fun f s' => match f with | .next => wpAny (model PG w) A (execs rest env) R E s' | f => R f s') :
    Bd w A X env s₀ μ Γ (.If t a c pos :: rest) R :=
  fun s E S => wpAny_execs_cons (wpAny_If (ht s E _ S fun s1 S1 => h E s1 E S1))
/-- the arms' end: on with what follows -/
theorem bd_then {rest : List Stmt} {R : Flow → Shared → Prop} {E : Value → Shared → Prop} (k : Bd w A X env s₀ μ Γ rest R) : Bd w A X env s₀ μ Γ [] fun f s' => match f with | .next => wpAny (model PG w) A (execs rest env) R E s' | f => R f s' := bd_nil fun s S => k s E S
theorem bd_turn {c : List Stmt} {R : Flow → Shared → Prop} (hO : μ'.O = μ.O) (h : ∀ g h, μ.Φ g h → μ'.Φ g h) (k : Bd w A X env s₀ μ' Γ c R) : Bd w A X env s₀ μ Γ c R := fun s E S =>
  k s E ⟨S.inv, hO ▸ S.gr, S.bel, h _ _ S.mu, hO ▸ S.mo, S.ex⟩
/-- an attribute of an object's stored -/
theorem ex_setA {o : Expr} {attr : Str} {pa pos : Pos} {e : Expr} {x C dx : Addr} {p : VP} {bm : List Value} {ns : List Str} {s : Shared} {E : Value → Shared → Prop} {Q : Flow → Shared → Prop} (he : EvM w A X env s₀ Γ μ e μ₁ p) (ho : EvM w A X env s₀ Γ μ₁ o μ₁ (vIs (.ref x)))
    (hI : ∀ g h, μ₁.Φ g h → ∃ dt mA, Ins h x C dx dt mA ∧ (∀ c, dt ≠ .cls c) ∧ Within mA ns ∧ dx ∈ μ₁.O ∧ ∀ (g' h' : Heap) (v : Value), p.p g' v → Sub g g' → Ins h' x C dx dt (fun y => if y = attr then some v else mA y) → (∀ b, b ≠ dx → ∀ o, h.get? b = some o → h'.get? b = some o) → μ'.Φ g' h')
    (P : Passes bm) (hO : μ'.O = μ₁.O) (hp : passB (K' w.params) C bm = true) (hc : storeIn (K' w.params) C attr = true) (S : St w env X s₀ μ Γ s) (k : ∀ s', St w env X s₀ μ' Γ s' → Q .next s') (hsz : ns.length ≤ 1000 := by decide)
    (hs : swapsWith e (some (.Attribute o attr pa)) pos.line env = pure false := by rfl) : wpAny (model PG w) A (exec (.Assign [.Attribute o attr pa] e pos) env) Q E s :=
  plainObj_wpAny_Assign_Attribute (he s E _ S fun v s1 S1 _ hv => ho s1 E _ S1 fun u s2 S2 hs2 hu => by
    have hu' : u = .ref x := hu
    subst hu'
    obtain ⟨dt, mA, J, hn, hw, hdx, put⟩ := hI _ _ S2.mu
    refine setAttr_ins S2.inv J hn P hp hc hw hsz fun h' tk J' hb => ?_
    have oX := (S2.mo dx hdx)
    have hsub := hid_same oX.1 hb
    have S3 := S2.turn (μ' := μ') (s' := { s2 with heap := h', toks := tk }) (S2.inv.but (off1 oX.2.1) (.same hb) tk) (.but (in1 hdx) (.same hb) tk) hO (put _ _ v (p.st _ _ _ (hs2.trans hsub) hv) hsub J' fun b hne o e => (hb.2 b hne).trans e) (S2.bel.but (.same hb) (ex1 (let ⟨o, _, _, ho, _⟩ := J'.ns; ⟨o, ho⟩)) tk)
    exact k _ S3.1) hs
theorem bd_setA {o : Expr} {attr : Str} {pa pos : Pos} {e : Expr} {x C dx : Addr} {p : VP} {bm : List Value} {ns : List Str} {rest : List Stmt} {R : Flow → Shared → Prop} (he : EvM w A X env s₀ Γ μ e μ₁ p) (ho : EvM w A X env s₀ Γ μ₁ o μ₁ (vIs (.ref x)))
    (hI : ∀ g h, μ₁.Φ g h → ∃ dt mA, Ins h x C dx dt mA ∧ (∀ c, dt ≠ .cls c) ∧ Within mA ns ∧ dx ∈ μ₁.O ∧ ∀ (g' h' : Heap) (v : Value), p.p g' v → Sub g g' → Ins h' x C dx dt (fun y => if y = attr then some v else mA y) → (∀ b, b ≠ dx → ∀ o, h.get? b = some o → h'.get? b = some o) → μ'.Φ g' h')
    (P : Passes bm) (hO : μ'.O = μ₁.O) (hp : passB (K' w.params) C bm = true) (hc : storeIn (K' w.params) C attr = true) (k : Bd w A X env s₀ μ' Γ rest R) (hsz : ns.length ≤ 1000 := by decide)
    (hs : swapsWith e (some (.Attribute o attr pa)) pos.line env = pure false := by rfl) : Bd w A X env s₀ μ Γ (.Assign [.Attribute o attr pa] e pos :: rest) R := fun s E S =>
  wpAny_execs_cons (ex_setA he ho hI P hO hp hc S (fun s' S' => k s' E S') hsz hs)
end
end Mine
end

section
open PySem PySem.Calls PyProof.Rows PySem.W
open PySem.Builtin PySem.Builtin.List
set_option Elab.async false
set_option maxRecDepth 100000
set_option linter.unusedVariables false
namespace Mine
noncomputable section
variable {w : World} {A : Around} {X Y : List Addr} {env : Env} {Γ : Ctxt} {s₀ : Shared} {μ μ' μ₁ μ₂ : Mu}

/-! ### super() in an _Accumulator's method: a bound method of list's -/
theorem slot_md : Slot "method_descriptor" "__get__" "method_descriptor.__get__" := .of (owner := "method_descriptor") (n := "__get__") (by rw [typeLookup_type, builtinLookup_eq_fast]; kernel_rfl) (by decide +kernel) (by decide +kernel) (by decide +kernel)
    (by first | exact .inl (by decide +kernel) | exact .inr (by decide +kernel)) (by rw [isSubtype_type]; kernel_rfl)
theorem slot_wd : Slot "wrapper_descriptor" "__get__" "wrapper_descriptor.__get__" := .of (owner := "wrapper_descriptor") (n := "__get__") (by rw [typeLookup_type, builtinLookup_eq_fast]; kernel_rfl) (by decide +kernel) (by decide +kernel) (by decide +kernel)
    (by first | exact .inl (by decide +kernel) | exact .inr (by decide +kernel)) (by rw [isSubtype_type]; kernel_rfl)
theorem entry_md : entryFor table "method_descriptor.__get__" = some Builtin.«method_descriptor.__get__» := entryFor_of_tree (by kernel_rfl)
theorem entry_wd : entryFor table "wrapper_descriptor.__get__" = some Builtin.«wrapper_descriptor.__get__» := entryFor_of_tree (by kernel_rfl)
theorem args_md (a b c : Value) : argsOk "method_descriptor.__get__" ⟨[a, b, c], []⟩ := by unfold argsOk; kernel_rfl
theorem args_wd (a b c : Value) : argsOk "wrapper_descriptor.__get__" ⟨[a, b, c], []⟩ := by unfold argsOk; kernel_rfl
noncomputable abbrev boundObj (T id : String) (x : Addr) : Obj := { cls := .type T, data := .fields #[.builtin id, .ref x] }
theorem own_pop : (".".intercalate ("list.pop".cutAt '.').dropLast) = "list" := by decide +kernel
theorem own_len : (".".intercalate ("list.__len__".cutAt '.').dropLast) = "list" := by decide +kernel
theorem own_init : (".".intercalate ("list.__init__".cutAt '.').dropLast) = "list" := by decide +kernel
theorem type_llen : typeOf (.builtin "list.__len__") = pure (.type "wrapper_descriptor") := by show builtinType _ = _; rw [builtinType_eq_fast]; kernel_rfl
theorem type_linit : typeOf (.builtin "list.__init__") = pure (.type "wrapper_descriptor") := by show builtinType _ = _; rw [builtinType_eq_fast]; kernel_rfl
theorem get_md {h : Heap} {g : Array GenState} {d : Drawn} {t : Nat} {os : OsState} {x : Addr} {ox : Obj} {R : Result → Shared → Prop} (hx : h.get? x = some ox) (hc : ox.cls = .ref 178) (L : Looks (model PG w) h (isSubtype (.ref 178) (.type "list")) true)
    (k : R (.ok (.ret (.ref h.objs.size))) ⟨h.push (boundObj "builtin_function_or_method" "list.pop" x), g, d, t, os⟩) :
    codeAny (model PG w) A (.call (.builtin "method_descriptor.__get__") ⟨[.builtin "list.pop", .ref x, .ref 178], []⟩) R ⟨h, g, d, t, os⟩ := by
  refine codeAny_call_builtin slot_md.plain entry_md (slot_md.check _ _ _ _ _ _ _ _ PySem.F.type_list_pop (args_md _ _ _) ?_)
  unfold Builtin.«method_descriptor.__get__»
  have L' : Looks (model PG w) h (isSubtype ox.cls (.type (".".intercalate ("list.pop".cutAt '.').dropLast))) true := by rw [hc, own_pop]; exact L
  repeat lk
  exact k
theorem get_wd {h : Heap} {g : Array GenState} {d : Drawn} {t : Nat} {os : OsState} {x : Addr} {ox : Obj} {id : String} {R : Result → Shared → Prop} (hx : h.get? x = some ox) (hc : ox.cls = .ref 178) (L : Looks (model PG w) h (isSubtype (.ref 178) (.type "list")) true)
    (hid : id = "list.__len__" ∨ id = "list.__init__")
    (k : R (.ok (.ret (.ref h.objs.size))) ⟨h.push (boundObj "method-wrapper" id x), g, d, t, os⟩) :
    codeAny (model PG w) A (.call (.builtin "wrapper_descriptor.__get__") ⟨[.builtin id, .ref x, .ref 178], []⟩) R ⟨h, g, d, t, os⟩ := by
  rcases hid with rfl | rfl
  · refine codeAny_call_builtin slot_wd.plain entry_wd (slot_wd.check _ _ _ _ _ _ _ _ type_llen (args_wd _ _ _) ?_)
    unfold Builtin.«wrapper_descriptor.__get__»
    have L' : Looks (model PG w) h (isSubtype ox.cls (.type (".".intercalate ("list.__len__".cutAt '.').dropLast))) true := by rw [hc, own_len]; exact L
    repeat lk
    exact k
  · refine codeAny_call_builtin slot_wd.plain entry_wd (slot_wd.check _ _ _ _ _ _ _ _ type_linit (args_wd _ _ _) ?_)
    unfold Builtin.«wrapper_descriptor.__get__»
    have L' : Looks (model PG w) h (isSubtype ox.cls (.type (".".intercalate ("list.__init__".cutAt '.').dropLast))) true := by rw [hc, own_init]; exact L
    repeat lk
    exact k

end
end Mine
end

section
open PySem PySem.Calls PyProof.Rows PySem.W
open PySem.Builtin PySem.Builtin.List
set_option Elab.async false
set_option maxRecDepth 100000
set_option linter.unusedVariables false
namespace Mine
noncomputable section
variable {w : World} {A : Around} {X Y : List Addr} {env : Env} {Γ : Ctxt} {s₀ : Shared} {μ μ' μ₁ μ₂ : Mu}

/-- what super().name is, and its call -/
structure SupFn (name : Str) (T bt gid id n : String) (b : Builtin) : Prop where
  slot : Slot T "__get__" gid
  ty : typeOf (.builtin id) = pure (.type T)
  get : ∀ (w : World) (A : Around) (h : Heap) (g : Array GenState) (d : Drawn) (t : Nat) (os : OsState) (x : Addr) (ox : Obj) (R : Result → Shared → Prop), h.get? x = some ox → ox.cls = .ref 178 → Looks (model PG w) h (isSubtype (.ref 178) (.type "list")) true →
    R (.ok (.ret (.ref h.objs.size))) ⟨h.push (boundObj bt id x), g, d, t, os⟩ → codeAny (model PG w) A (.call (.builtin gid) ⟨[.builtin id, .ref x, .ref 178], []⟩) R ⟨h, g, d, t, os⟩
  find : ∀ w : World, alongIn (K' w.params) name [.type "list", .type "object"] = some (some (.builtin id))
  nc : (name == ("__class__" : Str)) = false
theorem sup_ga {name : Str} {T bt gid id n : String} {b : Builtin} (SF : SupFn name T bt gid id n b) {h : Heap} {g : Array GenState} {d : Drawn} {t : Nat} {os : OsState} {so x : Addr} {ox : Obj} {tk : Tok} {E : Value → Shared → Prop} {Q : PySem.Fin → Shared → Prop}
    (hso : h.get? so = some { cls := .type "super", dict := none, data := .fields #[.ref 178, .ref x, .ref 178], slots := #[] }) (hno : Looks (model PG w) h (opaqueClassAbove (.ref 178)) none)
    (hC : Looks (model PG w) h (mroOf (.ref 178)) [.ref 178, .type "list", .type "object"]) (Kn : (K' w.params).In h) (hx : h.get? x = some ox) (hc : ox.cls = .ref 178) (L : Looks (model PG w) h (isSubtype (.ref 178) (.type "list")) true) (hxC : x ≠ 178)
    (hq : Q (.done (.ret (.ref h.objs.size))) ⟨h.push (boundObj bt id x), g, d, t, os⟩) :
    wpAny (model PG w) A (Builtin.«super.__getattribute__» ⟨[.ref so, .str name tk], []⟩) Q E ⟨h, g, d, t, os⟩ := by
  have hlk := SF.slot.lookup
  have hne : (Value.ref x == Value.ref 178) = false := by simp [hxC]
  have hn := SF.nc
  have hTf := SF.ty
  have hdt : ({ cls := .type "super", dict := none, data := .fields #[.ref 178, .ref x, .ref 178], slots := #[] } : Obj).data = .fields #[.ref 178, .ref x, .ref 178] := rfl
  have f0 : (#[.ref 178, .ref x, .ref 178] : Array Value)[0]? = some (.ref 178) := rfl
  have f1 : (#[.ref 178, .ref x, .ref 178] : Array Value)[1]? = some (.ref x) := rfl
  have f2 : (#[.ref 178, .ref x, .ref 178] : Array Value)[2]? = some (.ref 178) := rfl
  have hl : (([.ref 178, .type "list", .type "object"] : List Value).dropWhile (· != .ref 178)).drop 1 = [.type "list", .type "object"] := by decide
  have hf := SF.find w
  unfold Builtin.«super.__getattribute__»
  repeat (first
    | (with_reducible refine wpAny_field hso hdt f0 ?_) | (with_reducible refine wpAny_field hso hdt f1 ?_) | (with_reducible refine wpAny_field hso hdt f2 ?_)
    | (with_reducible refine ks_wpAny_notOpaque hno ?_)
    | (with_reducible refine Looks.at hC ?_; rw [hl])
    | (refine ks_forIn_along Kn (fun _ _ => rfl) rfl ?_ hf)
    | (simp only [hn, hne, Bool.or_false, Bool.false_eq_true, if_false])
    | wp_step
    | dsimp only)
  refine SF.get w A h g d t os x ox _ hx hc L ?_
  repeat (any_goals (first | assumption | wp_step))

theorem getMethod_sup {name : Str} {T bt gid id n : String} {b : Builtin} (SF : SupFn name T bt gid id n b) {h : Heap} {g : Array GenState} {d : Drawn} {t : Nat} {os : OsState} {so x : Addr} {ox : Obj} {pl : Sem Bool} {E : Value → Shared → Prop} {Q : Value × List Value → Shared → Prop}
    (hso : h.get? so = some { cls := .type "super", dict := none, data := .fields #[.ref 178, .ref x, .ref 178], slots := #[] }) (hno : Looks (model PG w) h (opaqueClassAbove (.ref 178)) none)
    (hC : Looks (model PG w) h (mroOf (.ref 178)) [.ref 178, .type "list", .type "object"]) (Kn : (K' w.params).In h) (hx : h.get? x = some ox) (hc : ox.cls = .ref 178) (L : Looks (model PG w) h (isSubtype (.ref 178) (.type "list")) true) (hxC : x ≠ 178)
    (hq : Q (.ref h.objs.size, []) ⟨h.push (boundObj bt id x), g, d, t + 1, os⟩) : wpAny (model PG w) A (getMethod (.ref so) name pl) Q E ⟨h, g, d, t, os⟩ := by
  have hlk := PySem.F.ks_slot_super_ga.lookup
  have hcan := PySem.F.ks_canon_super_ga
  have hT : ∀ t', (⟨h, g, d, t', os⟩ : Shared).TypeIs (.ref so) "super" := fun _ => ⟨_, hso, rfl⟩
  unfold getMethod
  refine wpAny_bind (wpAny_specialOf (hT _) hlk ?_)
  show wpAny _ _ (if (Manifest.canonical "super.__getattribute__" != "object.__getattribute__") = true then _ else _) _ _ _
  rw [if_pos hcan]
  unfold getAttr getAttrBy
  refine wpAny_bind (wpAny_bind (wpAny_mkText (wpAny_holding (wpAny_bind (wpAny_typeOf (hT _) (wpAny_bind (wpAny_of_eq hlk ?_)))))))
  show wpAny _ _ (getAttrByItsOwn (.ref so) (.str name t) (.type "super") (.builtin "super.__getattribute__") true false) _ _ _
  unfold getAttrByItsOwn hookBefore callGetattribute boundAndCalled
  refine wpAny_bind (wpAny_of_eq (show (if onTheHeap (.type "super") then typeLookup (.type "super") "__getattr__" else pure none) = pure none from rfl) ?_)
  refine wpAny_bind (wpAny_attempt (wpAny_holding ?_))
  show wpAny _ _ (bindSpecial (.builtin "super.__getattribute__") (.ref so) >>= _) _ _ _
  refine wpAny_bind (wpAny_of_eq (PySem.F.ks_slot_super_ga.bind _) ?_)
  refine wpAny_mono (Q := fun v s' => v = .ref h.objs.size ∧ s' = ⟨h.push (boundObj bt id x), g, d, t + 1, os⟩) (E := fun _ _ => False)
    (wpAny_call_entry PySem.F.ks_slot_super_ga (hT _) PySem.F.ks_entry_super_ga (sup_ga SF hso hno hC Kn hx hc L hxC ⟨_, rfl, rfl, rfl⟩) (PySem.F.ks_gaArgs_super _ _)) (fun v s' hv => ?_) fun _ _ z => z.elim
  obtain ⟨rfl, rfl⟩ := hv
  exact wpAny_pure (wpAny_pure hq)

/-- a bound method of list's called -/
structure SupCall (bt id : String) (b : Builtin) : Prop where
  bt : bt = "builtin_function_or_method" ∨ bt = "method-wrapper"
  entry : entryFor table id = some b
  plain : plainId id = true
  check : ∀ (w : World) (A : Around) (x dx : Addr) (vs : Array Value) (mA : Str → Option Value) (s : Shared) (E : Value → Shared → Prop) (Q : Unit → Shared → Prop), Inv w s → AcS s.heap x dx vs mA → Q () s → wpAny (model PG w) A (checkBoundCall id ⟨[.ref x], []⟩) Q E s
theorem call_bound {bt id : String} {b : Builtin} (SC : SupCall bt id b) {s : Shared} {x dx bo : Addr} {vs : Array Value} {mA : Str → Option Value} {R : Result → Shared → Prop} (Iv : Inv w s) (I : AcS s.heap x dx vs mA) (hb : s.heap.get? bo = some (boundObj bt id x))
    (h : wpAny (model PG w) A.in1 (b ⟨[.ref x], []⟩) (fun fin s' => match fin with | .done f => R (.ok f) s' | .again c' => c'.quiet = true ∧ codeAny (model PG w) A c' R s') (fun e s' => R (.error e) s') s) : codeAny (model PG w) A (.call (.ref bo) ⟨[], []⟩) R s := by
  refine codeAny_of_tree ?_
  show wpAny _ A.in1 (callAny (.ref bo) ⟨[], []⟩) _ _ _
  unfold callAny
  refine wpAny_bind (wpAny_load hb ?_)
  rcases SC.bt with e | e
  all_goals
    subst e
    show wpAny _ A.in1 (do checkBoundCall id ⟨[.ref x], []⟩; again (.builtin id ⟨[.ref x], []⟩)) _ _ _
    refine wpAny_bind (SC.check w _ x dx vs mA s _ _ Iv I ?_)
    refine wpAny_pure ⟨plainId_quiet SC.plain _, codeAny_builtin SC.entry ?_⟩
    rw [Around.under_plainId SC.plain]
    exact h
end
end Mine
end

section
open PySem PySem.Calls PyProof.Rows PySem.W
open PySem.Builtin PySem.Builtin.List
set_option Elab.async false
set_option maxRecDepth 100000
set_option linter.unusedVariables false
namespace Mine
noncomputable section
variable {w : World} {A : Around} {X Y : List Addr} {env : Env} {Γ : Ctxt} {s₀ : Shared} {μ μ' μ₁ μ₂ : Mu}

theorem sf_pop : SupFn "pop" "method_descriptor" "builtin_function_or_method" "method_descriptor.__get__" "list.pop" "pop" Builtin.«list.pop» where
  slot := slot_md
  ty := PySem.F.type_list_pop
  get := fun w A h g d t os x ox R hx hc L k => get_md hx hc L k
  find := fun w => by kernel_rfl
  nc := by decide
theorem sf_len : SupFn "__len__" "wrapper_descriptor" "method-wrapper" "wrapper_descriptor.__get__" "list.__len__" "__len__" Builtin.«list.__len__» where
  slot := slot_wd
  ty := type_llen
  get := fun w A h g d t os x ox R hx hc L k => get_wd hx hc L (.inl rfl) k
  find := fun w => by kernel_rfl
  nc := by decide
theorem sf_init : SupFn "__init__" "wrapper_descriptor" "method-wrapper" "wrapper_descriptor.__get__" "list.__init__" "__init__" Builtin.«list.__init__» where
  slot := slot_wd
  ty := type_linit
  get := fun w A h g d t os x ox R hx hc L k => get_wd hx hc L (.inr rfl) k
  find := fun w => by kernel_rfl
  nc := by decide
theorem kn_len : builtinKind "list.__len__" = some .slot := by decide +kernel
theorem kn_init : builtinKind "list.__init__" = some .slot := by decide +kernel
theorem kn_pop : builtinKind "list.pop" = some .method := by decide +kernel
theorem check_slotB {id : String} {x : Addr} {s : Shared} {E : Value → Shared → Prop} {Q : Unit → Shared → Prop} (hk : builtinKind id = some .slot) (ha : argsOk id ⟨[.ref x], []⟩) (q : Q () s) : wpAny (model PG w) A (checkBoundCall id ⟨[.ref x], []⟩) Q E s := by
  unfold checkBoundCall
  cases hsig : Manifest.signature? id with
  | none => exact wpAny_pure q
  | some sig =>
    simp only [argsOk, hsig] at ha
    have h2 : Bind.checkArgs id sig ⟨[.ref x], []⟩ = pure () := ha
    simp only [hk]
    rw [if_pos (by decide)]
    rw [h2]; exact wpAny_pure q
theorem sc_len : SupCall "method-wrapper" "list.__len__" Builtin.«list.__len__» where
  bt := .inr rfl
  entry := entry_list_len
  plain := by decide +kernel
  check := fun w A x dx vs mA s E Q Iv I q => check_slotB (id := "list.__len__") kn_len (args_list_len (.ref x)) q
theorem sc_init : SupCall "method-wrapper" "list.__init__" Builtin.«list.__init__» where
  bt := .inr rfl
  entry := PySem.F.entry_list_init
  plain := by decide +kernel
  check := fun w A x dx vs mA s E Q Iv I q => check_slotB (id := "list.__init__") kn_init (PySem.F.args_list_init_1 (.ref x)) q
theorem acc_nomod : mroIn (K' w.params) 178 (.type "module") = some false := by kernel_rfl
theorem acc_meta : typeIn (K' w.params) (.ref 178) = some (.type "type") := by kernel_rfl
theorem acc_cls : (clsIn (K' w.params) 178).isSome = true := by kernel_rfl
theorem sig_pop (a : Value) : (match Manifest.signature? "list.pop" with | some sig => Bind.checkArgs "list.pop" { sig with full := "_Accumulator.pop" } ⟨[a], []⟩ | none => pure ()) = pure () := by kernel_rfl
theorem name_pop : (clsIn (K' w.params) 178).map (fun cd => (toString (cd.qualname.toString) ++ toString "." ++ toString (Bind.lastOf "list.pop") : String)) = some "_Accumulator.pop" := by kernel_rfl
theorem sc_pop : SupCall "builtin_function_or_method" "list.pop" Builtin.«list.pop» where
  bt := .inl rfl
  entry := PySem.F.entry_list_pop
  plain := by decide +kernel
  check := fun w A x dx vs mA s E Q Iv I q => by
    obtain ⟨n, J₀⟩ := id I
    obtain ⟨o, J, _⟩ := J₀.kit (by intro c; simp)
    have Lm : Looks (model PG w) s.heap (isInstance (.ref x) (.type "module")) false := J.type.andThen (looks_mroIn Iv.kin acc_nomod)
    have Lt := J.type (M := model PG w)
    obtain ⟨cd, hcd⟩ := Option.isSome_iff_exists.mp (acc_cls (w := w))
    have Lc := looks_clsIn (M := model PG w) Iv.kin hcd
    have Lk := looks_typeIn (M := model PG w) Iv.kin (acc_meta (w := w))
    have hx := J₀.obj
    obtain ⟨hh, g, d, t, os⟩ := s
    dsimp only at Lm Lt Lc Lk hx
    have hc := sig_pop (.ref x)
    have hnm := name_pop (w := w)
    rw [hcd] at hnm
    have hnm : toString cd.qualname.toString ++ toString "." ++ toString (Bind.lastOf "list.pop") = "_Accumulator.pop" := Option.some.inj hnm
    unfold checkBoundCall
    cases hsig : Manifest.signature? "list.pop" with
    | none => exact wpAny_pure q
    | some sig =>
    rw [hsig] at hc
    dsimp only at hc
    simp only [kn_pop]
    rw [if_neg (by decide)]
    refine wpAny_bind (Lm.at ?_)
    rw [if_neg (by decide +kernel)]
    refine wpAny_bind (ks_wpAny_isType_inst hx (by intro c; simp) ?_)
    simp only [Bool.false_eq_true, if_false]
    refine wpAny_bind (Lt.at ?_)
    dsimp only
    refine wpAny_bind (Lc.at (wpAny_bind (Lk.at ?_)))
    rw [if_pos (by decide), hnm, hc]
    exact wpAny_pure q
end
end Mine
end

section
open PySem PySem.Calls PyProof.Rows PySem.W
open PySem.Builtin PySem.Builtin.List
set_option Elab.async false
set_option maxRecDepth 100000
set_option linter.unusedVariables false
namespace Mine
noncomputable section
variable {w : World} {A : Around} {X Y : List Addr} {env : Env} {Γ : Ctxt} {s₀ : Shared} {μ μ' μ₁ μ₂ : Mu} {c : Code}

/-! ### a def that asks for its class: with its code at hand -/
noncomputable def BdA (w : World) (A : Around) (c : Code) (X : List Addr) (env : Env) (s₀ : Shared) (μ : Mu) (Γ : Ctxt) (b : List Stmt) (R : Flow → Shared → Prop) : Prop :=
  ∀ (s : Shared) (E : Value → Shared → Prop), St w env X s₀ μ Γ s → PySem.wpAt (model PG w) A c (execs b env) R E s
theorem ba_bd {b : List Stmt} {R : Flow → Shared → Prop} (h : Bd w A X env s₀ μ Γ b R) : BdA w A c X env s₀ μ Γ b R := fun s E S => wpAt_of_wpAny (h s E S)

theorem lookup_mem_val {α : Type} : ∀ {cs : List (Str × α)} {n : Str} {c : α}, (cs.map (·.1)).Nodup → (n, c) ∈ cs → cs.lookup n = some c
  | [], _, _, _, hm => by cases hm
  | (n', c') :: cs, n, c, hnd, hm => by
    rw [List.map_cons, List.nodup_cons] at hnd
    rw [List.lookup_cons]
    rcases List.mem_cons.mp hm with e | hm
    · cases e; simp
    · have : n ≠ n' := fun e => hnd.1 (List.mem_map.mpr ⟨(n, c), hm, e⟩)
      rw [show (n == n') = false from by simpa using this]
      exact lookup_mem_val hnd.2 hm
noncomputable def clsEnv (P : Params) (f L : Addr) : Env := callEnv (fdK P f) L f
noncomputable def cloOf (b : Bool) : List (Str × Addr) := if b then [(("__class__" : Str), 102)] else []
noncomputable def defD (P : Params) (f : Addr) (ns : List Str) (b : Bool) : Bool := fnOkB P f && !(fdK P f).scope.isGenerator && (match (fdK P f).body with | .stmts _ => true | _ => false) && ((fdK P f).closure == cloOf b) && (fdK P f).globals == mainGlobals && (fdK P f).builtins == builtinsNs &&
  (ns.all fun x => (fdK P f).scope.names.lookup x == some .local) && decide ns.Nodup && ((fdK P f).scope.names.all fun z => z.2 != .cell)
theorem cell_K {s : Shared} (I : Inv w s) : s.heap.IsCell 102 (some (.ref 178)) := by
  have e : (K' w.params).lookup 102 = some { cls := .type "cell", data := .cell (some (.ref 178)) } := by kernel_rfl
  exact ⟨_, I.kin _ _ e, rfl⟩

theorem gfn_intro {f : Addr} {n : Nat} {Φ' : Heap → Heap → Prop} {ns : List Str} {ps qs : List VP} {ds : List Value} {r : VP} {cb : Bool} (hd : defD w.params f ns cb = true) (hlen : ns.length = ps.length + qs.length) (hds : ∀ g, All2 g qs ds) (hΦ : ∀ g g' h, Sub g g' → Φ' g h → Φ' g' h)
    (hb : ∀ (s : Shared) (vs : List Value), Inv w s → vs.length = ps.length → BindsTo s (fdK w.params f) ⟨vs, []⟩ (ns.zip (vs ++ ds)))
    (body : ∀ (X : List Addr) (A : Around) (L : Addr) (s₀ : Shared) (R : Flow → Shared → Prop), Rm A n → Fn w (clsEnv w.params f L) X → RetM w X (clsEnv w.params f L) s₀ μ.O Φ' r R →
      BdA w A (.func (bodyK w.params f) (clsEnv w.params f L)) X (clsEnv w.params f L) s₀ μ (ns.zip (ps ++ qs)) (bodyK w.params f) R) : MOK w (n + 1) f μ Φ' ps r := by
  intro X A s R ws hA I B hO hΦ0 hw k
  have hv : All2 (hideAll s.heap X) (ps ++ qs) (ws ++ ds) := hw.append (hds _)
  have hbw := hb s ws I hw.length
  clear hb
  generalize hvs : ws ++ ds = vs at hv hbw
  unfold defD at hd
  simp only [Bool.and_eq_true, Bool.not_eq_true', beq_iff_eq, decide_eq_true_eq] at hd
  obtain ⟨⟨⟨⟨⟨⟨⟨⟨h1, hgen⟩, hbody⟩, hclo⟩, hg⟩, hbi⟩, hkind⟩, hnd⟩, hnc⟩ := hd
  obtain ⟨o, ho, hdata, hrec, hco, hkd⟩ := fn_facts I h1
  have hbody' : (fdK w.params f).body = .stmts (bodyK w.params f) := by
    unfold bodyK
    split at hbody
    · rename_i e; rw [e]
    · cases hbody
  have hvl : vs.length = ns.length := by rw [hv.length, List.length_append, hlen]
  have hloc : ∀ x ∈ ns.zip vs, (fdK w.params f).scope.names.lookup x.1 = some .local := fun x hx => by
    have := List.all_eq_true.mp hkind x.1 (List.of_mem_zip (a := x.1) (b := x.2) hx).1
    simpa using this
  have hcell : ∀ x ∈ (fdK w.params f).scope.names, x.2 ≠ .cell := fun x hx => by
    have := List.all_eq_true.mp hnc x hx
    simpa using this
  refine ks_codeAny_call_defAt (fd := fdK w.params f) (body := bodyK w.params f) (binds := ns.zip vs) (Nat.lt_of_le_of_lt (Nat.le_add_right _ _) hA.d) ho hdata (noLimit_of I lim_K) hrec hbody' hbw hcell hloc (fun h₁ hns keep => ?_) hco hgen hkd
  let L := s.heap.objs.size
  have hcells : (clsEnv w.params f L).cells = cloOf cb := hclo
  have hloc' : (clsEnv w.params f L).locals = L := rfl
  have own1 : own (clsEnv w.params f L) = [L] := by
    unfold own
    rw [hcells, hloc']
    have hk0 : ((clsEnv w.params f L).kindOf ("__class__" : Str) == some NameKind.cell) = false := by
      cases q : (clsEnv w.params f L).kindOf ("__class__" : Str) with
      | none => rfl
      | some z =>
        have q' : (fdK w.params f).scope.names.lookup ("__class__" : Str) = some z := q
        have : z ≠ .cell := hcell _ (mem_of_lookup q')
        cases z <;> first | rfl | exact absurd rfl this
    cases cb
    · rfl
    · show L :: (([((("__class__" : Str), 102) : Str × Addr)]).filter _).map _ = [L]
      rw [List.filter_cons, hk0]
      rfl
  have Lnew : s.heap.get? L = none := new_none _
  have G : Gr s { s with heap := h₁, toks := s.toks + (ns.zip vs).length } := Gr.keeps _ keep
  have I₁ : Inv w { s with heap := h₁, toks := s.toks + (ns.zip vs).length } := I.keeps _ keep
  let X' := L :: X
  have new : ∀ y ∈ X', y ∈ X ∨ s.heap.get? y = none := fun y hy => by
    rcases List.mem_cons.mp hy with q | hy
    · exact .inr (q ▸ Lnew)
    · exact .inl hy
  have B₁ : Bel X' { s with heap := h₁, toks := s.toks + (ns.zip vs).length } := by
    refine ⟨fun x hx => ?_, .tail _ B.a, .tail _ B.b⟩
    rcases List.mem_cons.mp hx with q | hx
    · rw [q]; obtain ⟨o, _, _, ho, _⟩ := hns; exact ⟨o, ho⟩
    · obtain ⟨o, ho⟩ := B.ex x hx; exact ⟨o, keep _ _ ho⟩
  have hsub : Sub (hideAll s.heap X) (hideAll h₁ X') := hid_new (fun b o e _ => keep b o e) new
  have cellI := cell_K I₁
  have c102 : ∃ o, s.heap.get? 102 = some o := by obtain ⟨o, ho, _⟩ := cell_K I; exact ⟨o, ho⟩
  have nL : (102 : Addr) ≠ L := fun e => by obtain ⟨o, ho⟩ := c102; rw [e, Lnew] at ho; cases ho
  have F : Fn w (clsEnv w.params f L) X' := by
    refine ⟨⟨hkd, hg, hbi⟩, fun a ha => ?_, fun a ha => ?_⟩
    · rw [own1] at ha; rw [List.mem_singleton.mp ha]; exact off_new I Lnew
    · rw [own1] at ha; rw [List.mem_singleton.mp ha]; exact .head _
  have S : St w (clsEnv w.params f L) X' s μ (ns.zip (ps ++ qs)) { s with heap := h₁, toks := s.toks + (ns.zip vs).length } := by
    refine ⟨I₁, G.o, B₁, μ.sub hΦ0 hsub keep, fun a ha => ⟨.tail _ (hO a ha).1, (hO a ha).2, fun m => ?_, fun n c hm e => ?_⟩, fun x => (ns.zip vs).reverse.lookup x, fun n => if n = ("__class__" : Str) then some (.ref 178) else none, ⟨hns, fun n c e => ?_, fun n c hm => ?_, fun n c n' c' hm hm' e => ?_⟩, fun x p hx => ?_⟩
    · rw [own1] at m
      obtain ⟨o, ho⟩ := B.ex a (hO a ha).1
      rw [List.mem_singleton.mp m, Lnew] at ho; cases ho
    · rw [hcells] at hm
      cases cb
      · cases hm
      cases List.mem_singleton.mp hm
      have hk := (hO a ha).2.k
      have e' : KO w.params 102 = some { cls := .type "cell", data := .cell (some (.ref 178)) } := by kernel_rfl
      rw [← e, e'] at hk; cases hk
    · rw [hcells] at e
      cases cb
      · cases e
      rw [show cloOf true = [((("__class__" : Str), 102) : Str × Addr)] from rfl, List.lookup_cons] at e
      cases q : n == ("__class__" : Str) with
      | true =>
        rw [q] at e; cases e
        rw [if_pos (beq_iff_eq.mp q)]
        exact cellI
      | false => rw [q] at e; cases e
    · rw [hcells] at hm
      cases cb
      · cases hm
      cases List.mem_singleton.mp hm; exact nL
    · rw [hcells] at hm hm'
      cases cb
      · cases hm
      cases List.mem_singleton.mp hm; cases List.mem_singleton.mp hm'; rfl
    · obtain ⟨v, hm, hp⟩ := zip_mem (hv.st hsub) hx
      refine ⟨v, ?_, hp⟩
      have hk : (clsEnv w.params f L).kindOf x = some .local := hloc _ hm
      unfold valOf
      rw [hk]
      show (ns.zip vs).reverse.lookup x = some v
      refine lookup_mem_val ?_ (List.mem_reverse.mpr hm)
      rw [List.map_reverse, List.map_fst_zip (by rw [hvl]; exact Nat.le_refl _)]
      exact (List.reverse_perm ns).nodup_iff.mpr hnd
  have final : ∀ (N : List Addr) (v : Value) (s' : Shared), (∀ a ∈ N, s.heap.get? a = none) → Inv w s' → GrO (own (clsEnv w.params f L) ++ (N ++ μ.O)) s s' → Φ' (hideAll s'.heap X') s'.heap → Bel X' s' → r.p (hideAll s'.heap X') v → R (.ok (.ret v)) s' := fun N v s' hN I' G' hΦ1 B' hp => by
    have hXX : ∀ z ∈ X, z ∈ X' := fun z hz => .tail _ hz
    refine k v s' I' ⟨fun b o e hn h1 h2 => G'.keep b o e (fun m => ?_) h1 h2, G'.gens, G'.os⟩ ⟨fun y hy => B'.ex y (hXX y hy), B.a, B.b⟩ (hΦ _ _ _ (hid_mono hXX) hΦ1) (r.st _ _ _ (hid_mono hXX) hp)
    rcases List.mem_append.mp m with m | m
    · rw [own1] at m; rw [List.mem_singleton.mp m, Lnew] at e; cases e
    rcases List.mem_append.mp m with m | m
    · rw [hN b m] at e; cases e
    · exact hn m
  exact body X' (A.deeper (clsEnv w.params f L)) L s (fun fl s' => R (.ok (.ret (match fl with | .ret v => v | _ => .none))) s') hA.deeper F
    ⟨fun N hN v s' I' G' hΦ1 B' hp => final N v s' hN I' G' hΦ1 B' hp, fun N hN v s' I' G' hΦ1 B' _ hp => final N .none s' hN I' G' hΦ1 B' hp⟩ _ _ S
noncomputable def defC (P : Params) (f : Addr) (ns : List Str) : Bool := defD P f ns true
theorem cfn_intro {f : Addr} {n : Nat} {Φ' : Heap → Heap → Prop} {ns : List Str} {ps : List VP} {r : VP} (hd : defC w.params f ns = true) (hlen : ns.length = ps.length) (hΦ : ∀ g g' h, Sub g g' → Φ' g h → Φ' g' h)
    (hb : ∀ vs : List Value, vs.length = ns.length → bindArgs (fdK w.params f) ⟨vs, []⟩ = pure (ns.zip vs))
    (body : ∀ (X : List Addr) (A : Around) (L : Addr) (s₀ : Shared) (R : Flow → Shared → Prop), Rm A n → Fn w (clsEnv w.params f L) X → RetM w X (clsEnv w.params f L) s₀ μ.O Φ' r R →
      BdA w A (.func (bodyK w.params f) (clsEnv w.params f L)) X (clsEnv w.params f L) s₀ μ (ns.zip ps) (bodyK w.params f) R) : MOK w (n + 1) f μ Φ' ps r :=
  gfn_intro (qs := []) (ds := []) hd (by simpa using hlen) (fun _ => trivial) hΦ (fun s vs I h => .of_eq (by rw [List.append_nil]; exact hb vs (h.trans hlen.symm))) (by rw [List.append_nil]; exact body)
end
end Mine
end

section
open PySem PySem.Calls PyProof.Rows PySem.W
open PySem.Builtin PySem.Builtin.List
set_option Elab.async false
set_option maxRecDepth 100000
set_option linter.unusedVariables false
namespace Mine
noncomputable section
variable {w : World} {A : Around} {X Y : List Addr} {env : Env} {Γ : Ctxt} {s₀ : Shared} {μ μ' μ₁ μ₂ : Mu} {c : Code}

noncomputable def supB (P : Params) (f : Addr) : Bool := fnOkB P f && ((fdK P f).closure == [(("__class__" : Str), 102)]) && ((fdK P f).scope.names.lookup ("super" : Str) == some .globalImplicit) && ((fdK P f).scope.names.lookup ("__class__" : Str) == some .free) && ((fdK P f).scope.names.lookup ("self" : Str) == some .local) && ((fdK P f).globals == mainGlobals && (fdK P f).builtins == builtinsNs) &&
  (match ((fdK P f).params.posonlyargs ++ (fdK P f).params.args).head? with | some ar => ar.arg == ("self" : Str) | none => false) &&
  (match (fdK P f).code with | .ref cc => cc != T1 && cc != T2 && (match KO P cc with | some ⟨_, _, .fields vs, _⟩ => (match vs.toList[2]? with | some (Value.str file _) => (PG.main.file : Str) == file | _ => false) | _ => false) | _ => false)
theorem callWith_mach0 {pos : Pos} {bo : Addr} {o : Obj} {vs : Array Value} {s : Shared} {E Q : Value → Shared → Prop} (ho : s.heap.get? bo = some o) (hd : o.data = .fields vs) (hc : (o.cls != .type "method") = true) (hm : (o.cls == .type "builtin_function_or_method" || o.cls == .type "method-wrapper") = true)
    (h : wpAny (model PG w) A (call (.ref bo) []) Q E s) : wpAny (model PG w) A (callWith pos (.ref bo) [] [] []) Q E s := by
  unfold callWith
  refine wpAny_bind (wpAny_holding ?_)
  unfold evalArgs
  refine wpAny_bind (show wpAny _ A (spliced []) _ _ _ from wpAny_items_nil (pos := pos) (env := default) ?_)
  refine wpAny_bind (wpAny_pure ?_)
  refine wpAny_holding ?_
  refine wpAny_bind (wpAny_pure (wpAny_bind (wpAny_pure (wpAny_pure ?_))))
  refine wpAny_bind (wpAny_standAt ?_)
  show wpAny _ _ (keeperOf (.ref bo) >>= _) _ _ _
  refine wpAny_bind ?_
  unfold keeperOf
  refine wpAny_bind (wpAny_load ho ?_)
  rw [hd]
  dsimp only
  rw [if_pos hc, if_pos hm]
  refine wpAny_pure ?_
  exact wpAny_bind (wpAny_mono h (fun r s₂ hr => wpAny_bind (wpAny_holding (wpAny_point (wpAny_pure hr)))) fun _ _ x => x)
theorem top_super : (PG.main.scope.names.lookup ("super" : Str)).isSome = false := by kernel_rfl
theorem g_super : nsK w.params mainGlobals "super" = some none := by kernel_rfl
theorem b_super : nsK w.params builtinsNs "super" = some (some (.type "super")) := by kernel_rfl
theorem no_third : nsIn (K' w.params) cStatics "thirdparty.any" = some none := by kernel_rfl
theorem mro_178 : (clsIn (K' w.params) 178).map (·.mro) = some [.ref 178, .type "list", .type "object"] := by kernel_rfl
theorem self_178 : mroIn (K' w.params) 178 (.ref 178) = some true := by kernel_rfl
theorem sup_eval {name : Str} {T bt gid id n : String} {b : Builtin} (SF : SupFn name T bt gid id n b) (SC : SupCall bt id b) {f L x dx : Addr} {body : List Stmt} {p0 p1 apos pos : Pos} {s : Shared} {E Q : Value → Shared → Prop} (F : Fn w (clsEnv w.params f L) X) (hB : supB w.params f = true)
    (hx : (("self" : Str), vIs (.ref x)) ∈ Γ) (S : St w (clsEnv w.params f L) X s₀ μ Γ s) (hac : ∀ g h, μ.Φ g h → ∃ vs mA, AcS h x dx vs mA)
    (k : ∀ s', St w (clsEnv w.params f L) X s₀ μ Γ s' → wpAny (model PG w) A.in1 (b ⟨[.ref x], []⟩) (fun fin s'' => ∃ v, fin = .done (.ret v) ∧ Q v s'') E s')
    (he : eval (.Call (.Attribute (.Call (.Name "super" p0) [] [] p1) name apos) [] [] pos) (clsEnv w.params f L) = (do
      let ov ← attributeBase (.Call (.Name "super" p0) [] [] p1) name (clsEnv w.params f L) (eval (.Call (.Name "super" p0) [] [] p1) (clsEnv w.params f L))
      standAt apos.atName
      let (m, first) ← holding [ov] (getMethod ov name (pure false))
      callWith pos m first (backTo pos (starEach [] (clsEnv w.params f L))) []) := by rfl) :
    PySem.wpAt (model PG w) A (.func body (clsEnv w.params f L)) (eval (.Call (.Attribute (.Call (.Name "super" p0) [] [] p1) name apos) [] [] pos) (clsEnv w.params f L)) Q E s := by
  unfold supB at hB
  simp only [Bool.and_eq_true, beq_iff_eq] at hB
  obtain ⟨⟨⟨⟨⟨⟨⟨h1, h2⟩, h3⟩, h4⟩, h5⟩, h6⟩, h7⟩, h8⟩ := hB
  obtain ⟨of, hof, hfd, _⟩ := fn_facts S.inv h1
  refine ks_wpAt_MethodCall (pl := pure false) ?_ he
  split at h7
  · rename_i ar har
    split at h8
    · rename_i cc hcc
      simp only [Bool.and_eq_true, bne_iff_ne, ne_eq] at h8
      obtain ⟨⟨c1, c2⟩, h8⟩ := h8
      split at h8
      · rename_i oc od vs sl hoc
        split at h8
        · rename_i file tf hvs
          have hvs' : vs[2]? = some (.str file tf) := by rw [← Array.getElem?_toList]; exact hvs
          refine ks_wpAt_super_base (fd := fdK w.params f) (ar := ar) (file := file) (tf := tf) h3 h4 SF.nc rfl hof hfd har hcc (S.inv.K _ _ c1 c2 hoc) rfl hvs' h8 top_super ?_
          obtain ⟨lm, cm, V, H⟩ := S.ex
          obtain ⟨v, hv, hp⟩ := H _ _ hx
          have hp' : v = .ref x := hp
          subst hp'
          refine ks_loadName_global F.ok.k h3 (loadBi_K F.ok S.inv g_super b_super ⟨rfl, ?_⟩)
          refine wpAny_loadName_free F.ok.k h4 (c := 102) (v := .ref 178) (by show ((fdK w.params f).closure).lookup _ = _; rw [h2]; rfl) (cell_K S.inv) ?_ (by rfl)
          rw [beq_iff_eq.mp h7]
          refine load_val F.ok V hv (by rfl) ?_
          obtain ⟨ws, mA, I⟩ := hac _ _ S.mu
          obtain ⟨nn, J₀⟩ := I
          have I : AcS s.heap x dx ws mA := ⟨nn, J₀⟩
          obtain ⟨oo, J, _⟩ := J₀.kit (by intro c; simp)
          have Kn := S.inv.kin
          obtain ⟨cd, hcd⟩ := Option.isSome_iff_exists.mp (acc_cls (w := w))
          have hmro : cd.mro = [.ref 178, .type "list", .type "object"] := by
            have := mro_178 (w := w); rw [hcd] at this; exact Option.some.inj this
          have hclsO : ∃ oD, s.heap.get? 178 = some oD ∧ oD.data = .cls cd := by
            unfold clsIn at hcd
            split at hcd
            · rename_i c d cd' sl ho; cases hcd; exact ⟨_, Kn _ _ ho, rfl⟩
            · cases hcd
          obtain ⟨oD, hD, hDd⟩ := hclsO
          have Lself : Looks (model PG w) s.heap (isSubtype (.ref 178) (.ref 178)) true := looks_mroIn Kn self_178
          have Lno : Looks (model PG w) s.heap (opaqueClassAbove (.ref 178)) none := looks_opaque Kn no_third
          have Lmro : Looks (model PG w) s.heap (mroOf (.ref 178)) [.ref 178, .type "list", .type "object"] := hmro ▸ (looks_clsIn Kn hcd).andThen .now
          have Llist : Looks (model PG w) s.heap (isSubtype (.ref 178) (.type "list")) true := looks_mroIn Kn mro_acc
          have hxo := J₀.obj
          have hxC : x ≠ 178 := fun e => by rw [e, hD] at hxo; cases hxo; cases hDd
          have step : ∀ (h' : Heap) (tk : Nat), (∀ b o, s.heap.get? b = some o → h'.get? b = some o) → St w (clsEnv w.params f L) X s₀ μ Γ { s with heap := h', toks := tk } := fun h' tk hk => S.step (S.inv.keeps tk hk) (Gr.keeps tk hk)
          obtain ⟨hh, g, d, t, os⟩ := s
          dsimp only at hD Lself Lno Lmro Llist hxo step Kn
          refine ks_wpAny_isType_cls hD hDd ⟨rfl, ?_⟩
          refine ks_wpAny_call_super hD hDd hxo rfl (by intro c; simp) Lself fun h' hso hk => ?_
          refine getMethod_sup SF (ox := { cls := .ref 178, dict := some dx, data := .seq ws nn }) hso (Lno.keeps hk) (Lmro.keeps hk) (Kn.keeps hk) (hk _ _ hxo) rfl (Llist.keeps hk) hxC ?_
          have hk2 : ∀ b o, hh.get? b = some o → (h'.push (boundObj bt id x)).get? b = some o := fun b o e => Heap.get?_push_of_some _ (hk b o e)
          have S2 := step (h'.push (boundObj bt id x)) (t + 1) hk2
          have I2 : AcS (h'.push (boundObj bt id x)) x dx ws mA := I.at fun b _ o e => hk2 b o e
          have hbo : (h'.push (boundObj bt id x)).get? h'.objs.size = some (boundObj bt id x) := Heap.get?_push_size _ rfl
          show wpAny _ _ (callWith pos (.ref h'.objs.size) [] [] []) _ _ _
          refine callWith_mach0 hbo rfl ?_ ?_ (wpAny_call (call_bound SC S2.inv I2 hbo (wpAny_mono (k _ S2) (fun fin s' z => ?_) fun _ _ z => z)))
          · rcases SC.bt with e | e <;> subst e <;> rfl
          · rcases SC.bt with e | e <;> subst e <;> rfl
          · obtain ⟨v, rfl, z⟩ := z
            exact z
        · cases h8
      · cases h8
    · cases h8
  · cases h7

/-! ### an _Accumulator's state -/
noncomputable def vPart (p : Str × Str) : VP := vTup [vStr p.1, vStr p.2]
noncomputable def AcP (x dx : Addr) (ps : List (Str × Str)) (k : Int) (g h : Heap) : Prop :=
  ∃ vs mA, AcS h x dx vs mA ∧ Within mA [("_initial_size" : Str)] ∧ (∃ t, mA "_initial_size" = some (.int k t)) ∧ All2 g (ps.map vPart) vs.toList
theorem AcP.fr {x dx : Addr} {ps : List (Str × Str)} {k : Int} {g g' h h' : Heap} (hs : Sub g g') (hk : ∀ b ∈ [x, dx], ∀ o, h.get? b = some o → h'.get? b = some o) (H : AcP x dx ps k g h) : AcP x dx ps k g' h' :=
  let ⟨vs, mA, I, hw, ht, hA⟩ := H; ⟨vs, mA, I.at hk, hw, ht, hA.st hs⟩
noncomputable def muA (x dx : Addr) (ps : List (Str × Str)) (k : Int) : Mu := ⟨[x, dx], AcP x dx ps k, fun _ _ _ _ hs hk H => H.fr hs hk⟩
theorem AcP.ac {x dx : Addr} {ps : List (Str × Str)} {k : Int} {g h : Heap} (H : AcP x dx ps k g h) : ∃ vs mA, AcS h x dx vs mA := let ⟨vs, mA, I, _⟩ := H; ⟨vs, mA, I⟩
theorem AcP.sub {x dx : Addr} {ps : List (Str × Str)} {k : Int} : ∀ g g' h, Sub g g' → AcP x dx ps k g h → AcP x dx ps k g' h := fun g g' h hs H => H.fr hs fun b _ o e => e
theorem AcP.ins {x dx : Addr} {ps : List (Str × Str)} {k : Int} {name : Str} (hn : name ≠ ("_initial_size" : Str)) : ∀ g h, AcP x dx ps k g h → ∃ dt mA, Ins h x 178 dx dt mA ∧ (∀ c, dt ≠ .cls c) ∧ mA name = none := fun g h H => by
  obtain ⟨vs, mA, ⟨n, J⟩, hw, _, _⟩ := H
  refine ⟨_, mA, J, by intro c; simp, ?_⟩
  cases q : mA name with
  | none => rfl
  | some v => exact absurd (List.mem_singleton.mp (hw name (by rw [q]; simp))) hn

/-- part_count: the list's own length -/
theorem pc_B : defC w.params 175 ["self"] = true := by kernel_rfl
theorem pc_S : supB w.params 175 = true := by kernel_rfl
theorem pc_bind (vs : List Value) (h : vs.length = 1) : bindArgs (fdK w.params 175) ⟨vs, []⟩ = pure ((["self"] : List Str).zip vs) := by
  match vs, h with
  | [a], _ => kernel_rfl
theorem part_count_ok {x dx : Addr} {ps : List (Str × Str)} {k : Int} (hz : ps.length < 2 ^ 40) : MOK w 1 175 (muA x dx ps k) (AcP x dx ps k) [vIs (.ref x)] (vInt ps.length) := by
  refine cfn_intro (ns := ["self"]) pc_B rfl AcP.sub pc_bind fun X A L s₀ R hA F hR => ?_
  show BdA w A _ X _ s₀ _ _ [.Return (some (.Call (.Attribute (.Call (.Name "super" _) [] [] _) "__len__" _) [] [] _)) _] R
  intro s E S
  refine ks_wpAt_execs_cons (ks_wpAt_Return_some (sup_eval sf_len sc_len F pc_S (.head _) S (fun g h H => H.ac) fun s' S' => ?_))
  obtain ⟨vs, mA, I, _, _, hAl⟩ := S'.mu
  obtain ⟨nn, J⟩ := I
  show wpAny _ _ (do retInt (← seqSize x)) _ _ s'
  unfold seqSize
  refine wpAny_bind (wpAny_bind (wpAny_load J.obj ?_))
  refine wpAny_pure (wpAny_bind (wpAny_mkInt (wpAny_pure ⟨_, rfl, ?_⟩)))
  have hsz : vs.size = ps.length := by have := hAl.length; simpa using this
  exact hR.r0 _ _ (S'.inv.tok _) (S'.gr.trans (Gr.tok _ _).o) S'.mu ⟨S'.bel.ex, S'.bel.a, S'.bel.b⟩ ⟨_, by rw [hsz]⟩
end
end Mine
end

section
open PySem PySem.Calls PyProof.Rows PySem.W
open PySem.Builtin PySem.Builtin.List
set_option Elab.async false
set_option maxRecDepth 100000
set_option linter.unusedVariables false
namespace Mine
noncomputable section
variable {w : World} {A : Around} {X Y : List Addr} {env : Env} {Γ : Ctxt} {s₀ : Shared} {μ μ' μ₁ μ₂ : Mu} {c : Code}

/-- a method of an _Accumulator's called on a name -/
theorem acc_mcall {o : Expr} {name : Str} {apos pos : Pos} {a : List Expr} {x dx f : Addr} {n : Nat} {pp : List (Str × Str)} {k : Int} {Φ₁ : Heap → Heap → Prop} {ps : List VP} {r : VP} (hA : Rm A n) (ho : EvM w A X env s₀ Γ μ o μ (vIs (.ref x))) (ha : EvLM w A X env s₀ Γ μ a ps)
    (hget : ∀ g h, μ.Φ g h → AcP x dx pp k g h) (hn : name ≠ ("_initial_size" : Str)) (hm : methB (K' w.params) 178 name (.ref f) = true) (Cn : MOK w n f (muA x dx pp k) Φ₁ (vIs (.ref x) :: ps) r) (Fc : Focus μ (muA x dx pp k) Φ₁ μ')
    (hf : isFnK w.params f = true) (h1 : f ≠ T1 := by decide) (h2 : f ≠ T2 := by decide) (hplain : (backTo pos (starEach a env)).any (·.1) = false := by rfl)
    (he : eval (.Call (.Attribute o name apos) a [] pos) env = (do
      let ov ← eval o env
      standAt apos.atName
      let (f, first) ← holding [ov] (getMethod ov name (do return (← importBound o env).getD true))
      callWith pos f first (backTo pos (starEach a env)) (backToKw pos (keywordEach [] env))) := by rfl) :
    EvM w A X env s₀ Γ μ (.Call (.Attribute o name apos) a [] pos) μ' r :=
  em_mcall hA ho ha (fun g h H => AcP.ins hn g h (hget g h H)) hm Cn Fc hf h1 h2 hplain (do return (← importBound o env).getD true) he

theorem tm_go {e : Expr} {b : Bool} {s : Shared} {E : Value → Shared → Prop} {Q : Bool → Shared → Prop} (h : TeM w A X env s₀ Γ μ e μ' b) (S : St w env X s₀ μ Γ s) (k : ∀ s', St w env X s₀ μ' Γ s' → Q b s') : wpAny (model PG w) A (isTrue e env (eval e env)) Q E s := h s E Q S k
theorem em_go {e : Expr} {p : VP} {s : Shared} {E Q : Value → Shared → Prop} (h : EvM w A X env s₀ Γ μ e μ' p) (S : St w env X s₀ μ Γ s) (k : ∀ v s', St w env X s₀ μ' Γ s' → Sub (hideAll s.heap X) (hideAll s'.heap X) → p.p (hideAll s'.heap X) v → Q v s') : wpAny (model PG w) A (eval e env) Q E s := h s E Q S k
theorem pop_B : defC w.params 138 ["self"] = true := by kernel_rfl
theorem pop_S : supB w.params 138 = true := by kernel_rfl
theorem pop_bind (vs : List Value) (h : vs.length = 1) : bindArgs (fdK w.params 138) ⟨vs, []⟩ = pure ((["self"] : List Str).zip vs) := by
  match vs, h with
  | [a], _ => kernel_rfl
theorem m_pc : methB (K' w.params) 178 "part_count" (.ref 175) = true := by kernel_rfl
theorem f_pc : isFnK w.params 175 = true := by kernel_rfl
/-- self.part_count() == 0 -/
theorem te_pc {x dx : Addr} {ps : List (Str × Str)} {k : Int} {p0 p1 p2 p3 p4 : Pos} {kk : Nat} (hA : Rm A 1) (hE : EnvOk env) (hx : (("self" : Str), vIs (.ref x)) ∈ Γ) (hz : ps.length < 2 ^ 40)
    (he : eval (.Call (.Attribute (.Name "self" p0) "part_count" p1) [] [] p2) env = (do
      let ov ← eval (.Name "self" p0) env
      standAt p1.atName
      let (f, first) ← holding [ov] (getMethod ov "part_count" (do return (← importBound (.Name "self" p0) env).getD true))
      callWith p2 f first (backTo p2 (starEach [] env)) (backToKw p2 (keywordEach [] env))) := by rfl) :
    TeM w A X env s₀ Γ (muA x dx ps k) (.Compare (.Call (.Attribute (.Name "self" p0) "part_count" p1) [] [] p2) [.Eq] [.Constant (.int 0) kk p3] p4) (muA x dx ps k) ((ps.length : Int) == 0) :=
  tm_cmp (acc_mcall (x := x) (dx := dx) (f := 175) (pp := ps) (k := k) hA (em_ev (ev_name hE hx)) elm_nil (fun _ _ H => H) (by decide) m_pc (part_count_ok hz) (Focus.all rfl rfl) f_pc (he := he)) (em_ev ev_int) op_eqI

theorem pop_none_ok {x dx : Addr} {k : Int} : MOK w 2 138 (muA x dx [] k) (AcP x dx [] k) [vIs (.ref x)] (vTup [vStr "", vStr ""]) := by
  refine cfn_intro (ns := ["self"]) pop_B rfl AcP.sub pop_bind fun X A L s₀ R hA F hR => ba_bd ?_
  exact bd_ifMT (te_pc hA F.ok (.head _) (by decide)) fun E => bd_ret (ev_tup (evl_cons ev_str (evl_cons ev_str evl_nil))) hR.r0
theorem pop_ok {x dx : Addr} {ps : List (Str × Str)} {p : Str × Str} {k : Int} (hz : ps.length < 1000000) : MOK w 2 138 (muA x dx (ps ++ [p]) k) (AcP x dx ps k) [vIs (.ref x)] (vPart p) := by
  refine cfn_intro (ns := ["self"]) pop_B rfl AcP.sub pop_bind fun X A L s₀ R hA F hR => ?_
  show BdA w A _ X _ s₀ _ _ (.If _ _ [] _ :: [.Return (some (.Call (.Attribute (.Call (.Name "super" _) [] [] _) "pop" _) [] [] _)) _]) R
  intro s E S
  refine ks_wpAt_execs_cons (wpAt_of_wpAny (wpAny_If ?_))
  refine tm_go (te_pc (s₀ := s₀) (x := x) (dx := dx) (ps := ps ++ [p]) (k := k) hA F.ok (.head _) (by simp; omega)) S fun s1 S1 => ?_
  have e0 : (((ps ++ [p]).length : Int) == 0) = false := by simp; omega
  rw [e0]
  refine wpAny_execs_nil ?_
  refine ks_wpAt_execs_cons (ks_wpAt_Return_some (sup_eval sf_pop sc_pop F pop_S (.head _) S1 (fun g h H => H.ac) fun s' S' => ?_))
  obtain ⟨vs, mA, I, hw, ht2, hAl⟩ := S'.mu
  obtain ⟨ws, v, rfl, hA1, hA2⟩ : ∃ (ws : Array Value) (v : Value), vs = ws.push v ∧ All2 (hideAll s'.heap X) (ps.map vPart) ws.toList ∧ (vPart p).p (hideAll s'.heap X) v := by
    rw [List.map_append] at hAl
    have split : ∀ {qs : List VP} {q : VP} {us : List Value} {g : Heap}, All2 g (qs ++ [q]) us → ∃ us' u, us = us' ++ [u] ∧ All2 g qs us' ∧ q.p g u := by
      intro qs
      induction qs with
      | nil => intro q us g h; obtain ⟨u, rfl, hu⟩ := all1 h; exact ⟨[], u, rfl, trivial, hu⟩
      | cons a r ih =>
        intro q us g h
        match us, h with
        | u :: us, ⟨h1, h2⟩ =>
          obtain ⟨us', u', rfl, h3, h4⟩ := ih h2
          exact ⟨u :: us', u', rfl, ⟨h1, h3⟩, h4⟩
    obtain ⟨us', u, e, h1, h2⟩ := split hAl
    refine ⟨us'.toArray, u, ?_, h1, h2⟩
    apply Array.ext'
    rw [e]; simp
  have hsz : ws.size = ps.length := by have := hA1.length; simpa using this
  have Iv := S'.inv
  have oX := S'.mo x (.head _)
  refine wpAny_mono (pop_body Iv I (by omega) (Q := fun fin s'' => ∃ v, fin = .done (.ret v) ∧ R (.ret v) s'') fun h' I' hb => ⟨v, rfl, ?_⟩) (fun _ _ z => z) fun _ _ z => z
  have hsub := hid_same oX.1 hb
  have S3 := S'.turn (μ' := muA x dx ps k) (s' := { s' with heap := h' }) (Iv.but (off1 oX.2.1) (.same hb) s'.toks) (.but (in1 (.head _)) (.same hb) s'.toks) rfl ⟨ws, mA, I', hw, ht2, hA1.st hsub⟩ (S'.bel.but (.same hb) (ex1 (let ⟨n, J⟩ := I'; ⟨_, J.obj⟩)) s'.toks)
  exact hR.r0 _ _ S3.1.inv S3.1.gr S3.1.mu S3.1.bel ((vPart p).st _ _ _ hsub hA2)
end
end Mine
end

section
open PySem PySem.Calls PyProof.Rows PySem.W
open PySem.Builtin PySem.Builtin.List
set_option Elab.async false
set_option maxRecDepth 100000
set_option linter.unusedVariables false
namespace Mine
noncomputable section
variable {w : World} {A : Around} {X Y : List Addr} {env : Env} {Γ : Ctxt} {s₀ : Shared} {μ μ' μ₁ μ₂ : Mu} {c : Code}

theorem st_upd {s : Shared} {x : Addr} {h' : Heap} (S : St w env X s₀ μ Γ s) (hx : x ∈ μ.O) (hb : Heap.SameBut x s.heap h') (ex : ∃ o, h'.get? x = some o) (tk : Nat) (hO : μ'.O = μ.O) (hΦ : Sub (hideAll s.heap X) (hideAll h' X) → μ'.Φ (hideAll h' X) h') :
    St w env X s₀ μ' Γ { s with heap := h', toks := tk } ∧ Sub (hideAll s.heap X) (hideAll h' X) := by
  have oX := S.mo x hx
  exact S.turn (μ' := μ') (s' := { s with heap := h', toks := tk }) (S.inv.but (off1 oX.2.1) (.same hb) tk) (.but (in1 hx) (.same hb) tk) hO (hΦ (hid_same oX.1 hb)) (S.bel.but (.same hb) (ex1 ex) tk)
theorem AcS.ex {h : Heap} {x dx : Addr} {vs : Array Value} {mA : Str → Option Value} (I : AcS h x dx vs mA) : ∃ o, h.get? x = some o := let ⟨_, J⟩ := I; ⟨_, J.obj⟩

/-! push -/
theorem push_B : defB w.params 122 ["self", "fws", "string"] = true := by kernel_rfl
theorem push_bind (vs : List Value) (h : vs.length = 3) : bindArgs (fdK w.params 122) ⟨vs, []⟩ = pure ((["self", "fws", "string"] : List Str).zip vs) := by
  match vs, h with
  | [a, b, c], _ => kernel_rfl
theorem m_append : methB (K' w.params) 178 "append" (.builtin "list.append") = true := by kernel_rfl
theorem push_ok {x dx : Addr} {ps : List (Str × Str)} {p : Str × Str} {k : Int} (hz : ps.length < 1000000) : MOK w 1 122 (muA x dx ps k) (AcP x dx (ps ++ [p]) k) [vIs (.ref x), vStr p.1, vStr p.2] vNone := by
  refine mfn_intro (ns := ["self", "fws", "string"]) push_B rfl lim_K AcP.sub push_bind fun X A L s₀ R hA F hR => ?_
  refine bd_exprM (p := vNone) (μ' := muA x dx (ps ++ [p]) k) (em_imeth (id := "list.append") (C := 178) (x := x) (dx := dx) (ps := [vPart p]) (em_ev (ev_name F.ok (.head _))) (elm_ev (evl_cons (ev_tup (evl_cons (ev_name F.ok (x := "fws") (p := vStr p.1) (.tail _ (.head _))) (evl_cons (ev_name F.ok (x := "string") (p := vStr p.2) (.tail _ (.tail _ (.head _)))) evl_nil))) evl_nil)) (AcP.ins (by decide)) m_append ?_) ?_
  · intro s E Q vs S hA1 kk
    obtain ⟨v, rfl, hp⟩ := all1 hA1
    obtain ⟨ws, mA, I, hw, ht, hAl⟩ := S.mu
    have hsz : ws.size = ps.length := by have := hAl.length; simpa using this
    refine acc_append S.inv I (by omega) fun h' I' hb => ?_
    obtain ⟨S3, hs⟩ := st_upd (μ' := muA x dx (ps ++ [p]) k) S (.head _) hb I'.ex s.toks rfl fun hs => ⟨_, mA, I', hw, ht, by
      have h1 : (ws.push v).toList = ws.toList ++ [v] := by simp
      rw [List.map_append, h1]
      exact (hAl.st hs).append ⟨(vPart p).st _ _ _ hs hp, trivial⟩⟩
    exact kk _ _ S3 hs rfl
  · exact bd_nil fun s S => (hR.next [] (by intro a h; cases h)) .none s S.inv S.gr S.mu S.bel rfl |> fun f => f rfl

/-! reset -/
theorem reset_B : defD w.params 160 ["self", "startval"] false = true := by kernel_rfl
theorem bind_dflt1 {f T : Addr} {s : Shared} {d : Value} {n : Nat} {ns : List Str} {vs : List Value} (I : Inv w s) (hT1 : T ≠ T1) (hT2 : T ≠ T2) (hd : (fdK w.params f).defaults = .ref T) {od : Option Addr} {sl} {oc : Value} (ho : KO w.params T = some ⟨oc, od, .seq #[d] n, sl⟩) {k : Option (Array Value) → Sem (List (Str × Value))}
    (h₁ : bindArgs (fdK w.params f) ⟨vs, []⟩ = seqItems? (fdK w.params f).defaults >>= k) (h₂ : k (some #[d]) = pure (ns.zip (vs ++ [d]))) : BindsTo s (fdK w.params f) ⟨vs, []⟩ (ns.zip (vs ++ [d])) := BindsTo.of_defaults hd (I.K _ _ hT1 hT2 ho) rfl h₁ h₂
end
end Mine
end

section
open PySem PySem.Calls PyProof.Rows PySem.W
open PySem.Builtin PySem.Builtin.List
set_option Elab.async false
set_option maxRecDepth 100000
set_option linter.unusedVariables false
namespace Mine
noncomputable section
variable {w : World} {A : Around} {X Y : List Addr} {env : Env} {Γ : Ctxt} {s₀ : Shared} {μ μ' μ₁ μ₂ : Mu} {c : Code}

theorem acc_noseq : noSeq (K' w.params) 178 = true := by kernel_rfl
theorem acc_si : findIn (K' w.params) (.ref 178) "__setitem__" = some (some (.builtin "list.__setitem__")) := by kernel_rfl
theorem acc_gi : findIn (K' w.params) (.ref 178) "__getitem__" = some (some (.builtin "list.__getitem__")) := by kernel_rfl
theorem seqKey_acc {s : Shared} {x dx : Addr} {vs : Array Value} {mA : Str → Option Value} {name : Str} {i : Value} {E Q : Value → Shared → Prop} (Iv : Inv w s) (I : AcS s.heap x dx vs mA) (h : Q i s) : wpAny (model PG w) A (sequenceKey (.ref x) i name) Q E s := by
  unfold sequenceKey
  refine wpAny_bind ((acc_type (w := w) I).here ?_)
  refine wpAny_bind ((anyM_none Iv.kin acc_noseq).here ?_)
  rw [if_pos (show (!false) = true from rfl)]
  exact wpAny_pure h
theorem special_acc {s : Shared} {x dx : Addr} {vs : Array Value} {mA : Str → Option Value} {name : Str} {id : String} {args : List Value} {E : Value → Shared → Prop} {Q : Option Value → Shared → Prop} (Iv : Inv w s) (I : AcS s.heap x dx vs mA) (hf : findIn (K' w.params) (.ref 178) name = some (some (.builtin id)))
    (slot : Slot "list" name id) (h : wpAny (model PG w) A (call (.builtin id) (.ref x :: args)) (fun v => Q (some v)) E s) : wpAny (model PG w) A (callSpecial? (.ref x) name args) Q E s := by
  unfold callSpecial? specialOf
  refine wpAny_bind (wpAny_bind ((acc_type (w := w) I).here ((looks_findIn Iv.kin hf).here ?_)))
  refine wpAny_holding ?_
  rw [slot.bind]
  refine wpAny_bind (wpAny_pure ?_)
  exact wpAny_bind (wpAny_mono h (fun _ _ z => wpAny_pure z) fun _ _ z => z)
theorem setItem_acc {s : Shared} {x dx : Addr} {vs : Array Value} {mA : Str → Option Value} {i v : Value} {E : Value → Shared → Prop} {Q : Unit → Shared → Prop} (Iv : Inv w s) (I : AcS s.heap x dx vs mA)
    (h : wpAny (model PG w) A (call (.builtin "list.__setitem__") [.ref x, i, v]) (fun _ => Q ()) E s) : wpAny (model PG w) A (setItem (.ref x) i v) Q E s := by
  unfold setItem
  refine wpAny_holding (wpAny_bind (seqKey_acc Iv I (wpAny_bind (special_acc Iv I acc_si slot_list_setitem ?_))))
  exact wpAny_mono h (fun _ _ z => wpAny_pure z) fun _ _ z => z
theorem getItem_acc {s : Shared} {x dx : Addr} {vs : Array Value} {mA : Str → Option Value} {i : Value} {E Q : Value → Shared → Prop} (Iv : Inv w s) (I : AcS s.heap x dx vs mA)
    (h : wpAny (model PG w) A (call (.builtin "list.__getitem__") [.ref x, i]) Q E s) : wpAny (model PG w) A (getItem (.ref x) i) Q E s := by
  unfold getItem
  refine wpAny_holding (wpAny_bind (seqKey_acc Iv I (wpAny_bind (special_acc Iv I acc_gi slot_list_getitem ?_))))
  exact wpAny_mono h (fun _ _ z => wpAny_pure z) fun _ _ z => z
theorem acc_giB : (match findIn (K' w.params) (.ref 178) "__getitem__" with | some (some (.builtin i)) => true | _ => false) = true := by rw [acc_gi]
/-- self[i] -/
theorem em_accItem {value slice : Expr} {pos : Pos} {x dx : Addr} {ps : List (Str × Str)} {k : Int} {i : Int} {p : Str × Str} (hv : EvM w A X env s₀ Γ μ value μ (vIs (.ref x))) (hs : EvM w A X env s₀ Γ μ slice μ (vInt i)) (hget : ∀ g h, μ.Φ g h → AcP x dx ps k g h)
    (h0 : 0 ≤ i) (hp : ps[i.toNat]? = some p) (hz : ps.length < 2 ^ 40) (hsl : ∀ o i, subscripted slice false o i = operate [o, i] (getItem o i) := by intro _ _; with_unfolding_all rfl) : EvM w A X env s₀ Γ μ (.Subscript value slice pos) μ (vPart p) := by
  intro s E Q S kk
  refine Subscript_ (em_go hv S fun o s1 S1 hs1 h1 => em_go hs S1 fun j s2 S2 hs2 h2 => ?_)
  obtain ⟨t, rfl⟩ := h2
  have h1' : o = .ref x := h1
  subst h1'
  obtain ⟨ws, mA, I, hw, ht, hAl⟩ := hget _ _ S2.mu
  obtain ⟨v, hv', hpv⟩ := hAl.get (i := i.toNat) (p := vPart p) (by rw [List.getElem?_map, hp]; rfl)
  obtain ⟨hlt, _⟩ := List.getElem?_eq_some_iff.mp hp
  unfold subscriptTail getitemInPython specialOf
  refine wpAny_bind (wpAny_bind (wpAny_bind ((acc_type (w := w) I).here ((looks_findIn S2.inv.kin acc_gi).here ?_))))
  refine wpAny_pure ?_
  rw [hsl]
  refine wpAny_bind (wpAny_operating (getItem_acc S2.inv I (acc_get S2.inv I h0 (by omega) (by rw [← Array.getElem?_toList]; exact hv') ?_)))
  exact wpAny_bind (wpAny_letTemporaryGo (wpAny_pure (kk v s2 S2 (hs1.trans hs2) hpv)))

/-! reset -/
theorem is_none_none {s : Shared} {Q : Value → Shared → Prop} {E : Value → Shared → Prop} (h : Q (.bool true) s) : wpAny (model PG w) A (compareOp .Is .none .none) Q E s := wpAny_is_plain (by rfl) h
theorem op_isNoneT : Op2 w A (compareOp .Is) vNone vNone (vBool true) := by
  rintro X s E Q _ _ I B rfl rfl h
  exact wpAny_is_plain (by rfl) (h _ _ I (Gr.refl _) rfl)
theorem op_isNoneF {ps : List VP} : Op2 w A (compareOp .Is) (vList ps) vNone (vBool false) := by
  rintro X s E Q _ _ I B ⟨a, o, n, vs, rfl, _⟩ rfl h
  exact wpAny_is_plain (by rfl) (h _ _ I (Gr.refl _) rfl)
theorem acc_pass : passB (K' w.params) 178 [.type "list", .type "object"] = true := by kernel_rfl
theorem acc_store : storeIn (K' w.params) 178 "_initial_size" = true := by kernel_rfl
/-- self._initial_size = e -/
theorem bd_setSize {o : Expr} {pa pos : Pos} {e : Expr} {x dx : Addr} {ps : List (Str × Str)} {k j : Int} {rest : List Stmt} {R : Flow → Shared → Prop} (he : EvM w A X env s₀ Γ (muA x dx ps k) e (muA x dx ps k) (vInt j)) (ho : EvM w A X env s₀ Γ (muA x dx ps k) o (muA x dx ps k) (vIs (.ref x)))
    (kk : Bd w A X env s₀ (muA x dx ps j) Γ rest R) (hs : swapsWith e (some (.Attribute o "_initial_size" pa)) pos.line env = pure false := by rfl) : Bd w A X env s₀ (muA x dx ps k) Γ (.Assign [.Attribute o "_initial_size" pa] e pos :: rest) R := by
  refine bd_setA (μ₁ := muA x dx ps k) (μ' := muA x dx ps j) (x := x) (C := 178) (dx := dx) (ns := [("_initial_size" : Str)]) he ho ?_ passes_list rfl acc_pass acc_store kk (hs := hs)
  intro g h H
  obtain ⟨vs, mA, ⟨n, J⟩, hw, ht, hAl⟩ := H
  refine ⟨_, mA, J, by intro c; simp, hw, .tail _ (.head _), fun g' h' v hv hs' J' hk => ⟨vs, _, ⟨n, J'⟩, ?_, ?_, hAl.st hs'⟩⟩
  · intro y hy
    by_cases q : y = ("_initial_size" : Str)
    · exact q ▸ .head _
    · exact hw y (by simpa [q] using hy)
  · obtain ⟨t, rfl⟩ := hv
    exact ⟨t, by simp⟩
/-- self[lo:] = a list -/
theorem bd_setSlice {o e : Expr} {lo : Option Expr} {psl ps' pos : Pos} {x dx : Addr} {ps qs : List (Str × Str)} {k : Int} {j : Nat} {rest : List Stmt} {R : Flow → Shared → Prop} (he : Ev w A X env Γ e (vList (qs.map vPart))) (ho : Ev w A X env Γ o (vIs (.ref x)))
    (hlo : match lo with | none => j = 0 | some l => Ev w A X env Γ l (vInt j)) (hj : j ≤ ps.length) (hz : ps.length + qs.length < 1000000)
    (kk : Bd w A X env s₀ (muA x dx (ps.take j ++ qs) k) Γ rest R) (hs : swapsWith e (some (.Subscript o (.Slice lo none none psl) ps')) pos.line env = pure false := by rfl) : Bd w A X env s₀ (muA x dx ps k) Γ (.Assign [.Subscript o (.Slice lo none none psl) ps'] e pos :: rest) R := by
  intro s E S
  refine wpAny_execs_cons (wpAny_Assign_Subscript (em_go (em_ev he) S fun v s1 S1 hs1 hv => em_go (em_ev ho) S1 fun u s2 S2 hs2 hu => wpAny_Slice ?_) hs)
  have hu' : u = .ref x := hu
  subst hu'
  have fin : ∀ (vl : Value) (lo' : Option Int) (s3 : Shared), St w env X s₀ (muA x dx ps k) Γ s3 → Sub (hideAll s2.heap X) (hideAll s3.heap X) → IsPart vl lo' → lo'.getD 0 = j →
      wpAny (model PG w) A (setItem (.ref x) (.ref s3.heap.objs.size) v) (fun _ => fun s' => wpAny (model PG w) A (execs rest env) R E s') E { s3 with heap := s3.heap.push { cls := .type "slice", data := .fields #[vl, .none, .none] } } := by
    intro vl lo' s3 S3 hs3 hp hlj
    have S4 : St w env X s₀ (muA x dx ps k) Γ { s3 with heap := s3.heap.push { cls := .type "slice", data := .fields #[vl, .none, .none] } } := S3.step (S3.inv.keeps s3.toks (push_K _)) (Gr.keeps s3.toks (push_K _))
    have hsub4 : Sub (hideAll s3.heap X) (hideAll (s3.heap.push { cls := .type "slice", data := .fields #[vl, .none, .none] }) X) := hid_sub S3.bel (Gr.keeps s3.toks (push_K _))
    obtain ⟨ws, mA, I, hw, ht, hAl⟩ := S4.mu
    obtain ⟨l, ol, nl, us, rfl, hol, hcl, hdl, hAu, nX⟩ := seq_get (s := { s3 with heap := s3.heap.push { cls := .type "slice", data := .fields #[vl, .none, .none] } }) ((vSeq "list" (qs.map vPart)).st _ _ _ ((hs2.trans hs3).trans hsub4) hv)
    have hsl : Heap.IsSliceOf (s3.heap.push { cls := .type "slice", data := .fields #[vl, .none, .none] }) s3.heap.objs.size vl .none .none := Heap.IsSliceOf.new ..
    have sz1 : ws.size = ps.length := by have := hAl.length; simpa using this
    have sz2 : us.size = qs.length := by have := hAu.length; simpa using this
    have hne : l ≠ x := fun e => nX (e ▸ (S4.mo x (.head _)).1)
    refine setItem_acc S4.inv I (acc_setslice S4.inv I hsl hp ⟨ol, hol, hcl, nl, hdl⟩ (by rw [hlj]; omega) (by rw [hlj]; omega) (by omega) hne fun h' I' hb => ?_)
    obtain ⟨S5, _⟩ := st_upd (μ' := muA x dx (ps.take j ++ qs) k) S4 (.head _) hb I'.ex s3.toks rfl fun hs5 => ⟨_, mA, I', hw, ht, by
      rw [List.map_append, hlj]
      have e1 : (ws.extract 0 (j : Int).toNat ++ us).toList = ws.toList.take j ++ us.toList := by simp
      rw [e1, List.map_take]
      have take : ∀ {ps : List VP} {vs : List Value} {g : Heap} (i : Nat), All2 g ps vs → All2 g (ps.take i) (vs.take i) := by
        intro ps vs g i
        induction i generalizing ps vs with
        | zero => intro h; simp [All2]
        | succ i ih => intro h; match ps, vs, h with
          | [], [], _ => trivial
          | _ :: _, _ :: _, ⟨a, b⟩ => exact ⟨a, ih b⟩
      exact (take _ (hAl.st hs5)).append (hAu.st hs5)⟩
    exact kk _ _ S5
  cases lo with
  | none =>
    subst hlo
    exact evalPart_none_step (evalPart_none_step (evalPart_none_step (fin .none none s2 S2 (Sub.refl _) .none rfl)))
  | some l =>
    refine evalPart_some_step (em_go (em_ev hlo) S2 fun vl s3 S3 hs3 hvl => evalPart_none_step (evalPart_none_step ?_))
    obtain ⟨t, rfl⟩ := hvl
    exact fin _ (some (j : Int)) s3 S3 hs3 (.int _ _) rfl
end
end Mine
end

section
open PySem PySem.Calls PyProof.Rows PySem.W
open PySem.Builtin PySem.Builtin.List
set_option Elab.async false
set_option maxRecDepth 100000
set_option linter.unusedVariables false
namespace Mine
noncomputable section
variable {w : World} {A : Around} {X Y : List Addr} {env : Env} {Γ : Ctxt} {s₀ : Shared} {μ μ' μ₁ μ₂ : Mu} {c : Code}

theorem kO153 : KO w.params 153 = some { cls := .type "tuple", data := .seq #[.none] } := by kernel_rfl
theorem rs_dflt : (fdK w.params 160).defaults = .ref 153 := by kernel_rfl
theorem reset_bind1 (s : Shared) (vs : List Value) (I : Inv w s) (h : vs.length = 1) : BindsTo s (fdK w.params 160) ⟨vs, []⟩ ((["self", "startval"] : List Str).zip (vs ++ [.none])) := by
  match vs, h with
  | [a], _ => exact BindsTo.of_defaults rs_dflt (I.K _ _ (by decide) (by decide) kO153) rfl (by with_unfolding_all rfl) (by kernel_rfl)
theorem reset_bind2 (s : Shared) (vs : List Value) (I : Inv w s) (h : vs.length = 2) : BindsTo s (fdK w.params 160) ⟨vs, []⟩ ((["self", "startval"] : List Str).zip (vs ++ [])) := by
  match vs, h with
  | [a, b], _ => exact BindsTo.of_defaults rs_dflt (I.K _ _ (by decide) (by decide) kO153) rfl (by with_unfolding_all rfl) (by kernel_rfl)
theorem clsEnv_next {O : List Addr} {Φ : Heap → Heap → Prop} {R : Flow → Shared → Prop} (hR : RetM w X env s₀ O Φ vNone R) (μ : Mu) (hO : μ.O = O) (hΦ : μ.Φ = Φ) : Bd w A X env s₀ μ Γ [] R :=
  bd_nil fun s S => (hR.next [] (by intro a h; cases h)) .none s S.inv (by rw [← hO]; exact S.gr) (by rw [← hΦ]; exact S.mu) S.bel rfl rfl
theorem reset_ok {x dx : Addr} {ps qs : List (Str × Str)} {k : Int} (hz : ps.length + qs.length < 1000000) : MOK w 1 160 (muA x dx ps k) (AcP x dx qs 0) [vIs (.ref x), vList (qs.map vPart)] vNone := by
  refine gfn_intro (ns := ["self", "startval"]) (qs := []) (ds := []) reset_B rfl (fun _ => trivial) AcP.sub reset_bind2 fun X A L s₀ R hA F hR => ba_bd ?_
  refine bd_ifF (te_cmp (ev_name F.ok (x := "startval") (p := vList (qs.map vPart)) (.tail _ (.head _))) ev_none op_isNoneF) fun E => bd_then ?_
  refine bd_setSlice (x := x) (dx := dx) (j := 0) (qs := qs) (ev_name F.ok (x := "startval") (.tail _ (.head _))) (ev_name F.ok (.head _)) rfl (Nat.zero_le _) hz ?_
  refine bd_setSize (em_ev ev_int) (em_ev (ev_name F.ok (.head _))) ?_
  exact clsEnv_next hR _ rfl rfl
theorem reset_none_ok {x dx : Addr} {ps : List (Str × Str)} {k : Int} (hz : ps.length < 1000000) : MOK w 1 160 (muA x dx ps k) (AcP x dx [] 0) [vIs (.ref x)] vNone := by
  refine gfn_intro (ns := ["self", "startval"]) (qs := [vNone]) (ds := [.none]) reset_B rfl (fun _ => ⟨rfl, trivial⟩) AcP.sub reset_bind1 fun X A L s₀ R hA F hR => ba_bd ?_
  refine bd_ifT (te_cmp (ev_name F.ok (x := "startval") (p := vNone) (.tail _ (.head _))) ev_none op_isNoneT) fun E => ?_
  refine bd_assign F (ev_list (ps := []) evl_nil) (bd_then ?_)
  refine bd_setSlice (x := x) (dx := dx) (j := 0) (qs := []) (ev_name F.ok (x := "startval") (p := vList []) (.head _)) (ev_name F.ok (.tail _ (.head _))) rfl (Nat.zero_le _) (by simpa using hz) ?_
  refine bd_setSize (em_ev ev_int) (em_ev (ev_name F.ok (.tail _ (.head _)))) ?_
  exact clsEnv_next hR _ rfl rfl
end
end Mine
end

section
open PySem PySem.Calls PyProof.Rows PySem.W
open PySem.Builtin PySem.Builtin.List
set_option Elab.async false
set_option maxRecDepth 100000
set_option linter.unusedVariables false
namespace Mine
noncomputable section
variable {w : World} {A : Around} {X Y : List Addr} {env : Env} {Γ : Ctxt} {s₀ : Shared} {μ μ' μ₁ μ₂ : Mu} {c : Code}

theorem All2.drop {ps : List VP} {vs : List Value} {g : Heap} (i : Nat) : All2 g ps vs → All2 g (ps.drop i) (vs.drop i) := by
  induction i generalizing ps vs with
  | zero => intro h; exact h
  | succ i ih => intro h; match ps, vs, h with
    | [], [], _ => trivial
    | _ :: _, _ :: _, ⟨_, b⟩ => exact ih b
theorem em_accSlice {value l : Expr} {psl pos : Pos} {x dx : Addr} {ps : List (Str × Str)} {k : Int} {j : Nat} (hv : Ev w A X env Γ value (vIs (.ref x))) (hl : Ev w A X env Γ l (vInt j)) (hget : ∀ g h, μ.Φ g h → AcP x dx ps k g h) (hj : j ≤ ps.length) (hz : ps.length < 1000000) :
    EvM w A X env s₀ Γ μ (.Subscript value (.Slice (some l) none none psl) pos) μ (vList ((ps.drop j).map vPart)) := by
  intro s E Q S kk
  refine Subscript_ (em_go (em_ev hv) S fun o s1 S1 hs1 h1 => wpAny_Slice (evalPart_some_step (em_go (em_ev hl) S1 fun vl s2 S2 hs2 h2 => evalPart_none_step (evalPart_none_step ?_))))
  obtain ⟨t, rfl⟩ := h2
  have h1' : o = .ref x := h1
  subst h1'
  have S3 : St w env X s₀ μ Γ { s2 with heap := s2.heap.push { cls := .type "slice", data := .fields #[.int j t, .none, .none] } } := S2.step (S2.inv.keeps s2.toks (push_K _)) (Gr.keeps s2.toks (push_K _))
  have hs3 : Sub (hideAll s2.heap X) (hideAll (s2.heap.push { cls := .type "slice", data := .fields #[.int j t, .none, .none] }) X) := hid_sub S2.bel (Gr.keeps s2.toks (push_K _))
  obtain ⟨ws, mA, I, hw, ht, hAl⟩ := hget _ _ S3.mu
  have sz1 : ws.size = ps.length := by have := hAl.length; simpa using this
  have hsl : Heap.IsSliceOf (s2.heap.push { cls := .type "slice", data := .fields #[.int j t, .none, .none] }) s2.heap.objs.size (.int j t) .none .none := Heap.IsSliceOf.new ..
  unfold subscriptTail getitemInPython specialOf
  refine wpAny_bind (wpAny_bind (wpAny_bind ((acc_type (w := w) I).here ((looks_findIn S3.inv.kin acc_gi).here ?_))))
  refine wpAny_pure ?_
  refine wpAny_bind (wpAny_operating (getItem_acc S3.inv I (acc_slice S3.inv I hsl (.int _ _) .none .none (by simp) (by rw [sizeLine_eq]; omega) ?_)))
  refine wpAny_bind (wpAny_letTemporaryGo (wpAny_pure ?_))
  rw [slicePick_from ws j (by omega)]
  refine kk _ _ (S3.step (S3.inv.keeps s2.toks (push_K (s := { s2 with heap := _, toks := _ }) _)) (Gr.keeps (s := { s2 with heap := _, toks := _ }) s2.toks (push_K (s := { s2 with heap := _, toks := _ }) _))) (((hs1.trans hs2).trans hs3).trans (hid_sub S3.bel (Gr.keeps (s := { s2 with heap := _, toks := _ }) s2.toks (push_K (s := { s2 with heap := _, toks := _ }) _)))) ?_
  have := new_seq (T := "list") (n := 0) (d := none) (sl := #[]) S3.bel (hAl.drop j)
  rw [← List.map_drop] at this
  exact this

theorem pf_B : defD w.params 130 ["self", "i"] false = true := by kernel_rfl
noncomputable def tk1 (P : Params) (a : Addr) : Tok := match KO P a with | some ⟨_, _, .seq its _, _⟩ => (match its.toList with | [.int _ t] => t | _ => 0) | _ => 0
theorem kO123 : KO w.params 123 = some { cls := .type "tuple", data := .seq #[.int 0 (tk1 w.params 123)] } := by kernel_rfl
theorem pf_dflt : (fdK w.params 130).defaults = .ref 123 := by kernel_rfl
theorem pf_bind (s : Shared) (vs : List Value) (I : Inv w s) (h : vs.length = 2) : BindsTo s (fdK w.params 130) ⟨vs, []⟩ ((["self", "i"] : List Str).zip (vs ++ [])) := by
  match vs, h with
  | [a, b], _ => exact BindsTo.of_defaults pf_dflt (I.K _ _ (by decide) (by decide) kO123) rfl (by with_unfolding_all rfl) (by kernel_rfl)
theorem pop_from_ok {x dx : Addr} {ps : List (Str × Str)} {k : Int} {j : Nat} (hj : j ≤ ps.length) (hz : ps.length < 1000000) : MOK w 1 130 (muA x dx ps k) (AcP x dx (ps.take j) k) [vIs (.ref x), vInt j] (vList ((ps.drop j).map vPart)) := by
  refine gfn_intro (ns := ["self", "i"]) (qs := []) (ds := []) pf_B rfl (fun _ => trivial) AcP.sub pf_bind fun X A L s₀ R hA F hR => ba_bd ?_
  refine bd_assignM F (em_accSlice (x := x) (dx := dx) (ps := ps) (k := k) (j := j) (ev_name F.ok (.head _)) (ev_name F.ok (x := "i") (p := vInt j) (.tail _ (.head _))) (fun _ _ H => H) hj hz) ?_
  refine bd_setSlice (x := x) (dx := dx) (j := j) (qs := []) (ev_list (ps := []) evl_nil) (ev_name F.ok (x := "self") (.tail _ (.head _))) (ev_name F.ok (x := "i") (p := vInt j) (.tail _ (.tail _ (.head _)))) hj (by simpa using hz) ?_
  rw [List.append_nil]
  exact bd_ret (ev_name F.ok (.head _)) hR.r0
end
end Mine
end

section
open PySem PySem.Calls PyProof.Rows PySem.W
open PySem.Builtin PySem.Builtin.List
set_option Elab.async false
set_option maxRecDepth 100000
set_option linter.unusedVariables false
namespace Mine
noncomputable section
variable {w : World} {A : Around} {X Y : List Addr} {env : Env} {Γ : Ctxt} {s₀ : Shared} {μ μ' μ₁ μ₂ : Mu} {c : Code}

/-! __init__ -/
noncomputable def AcNew (x dx : Addr) (g h : Heap) : Prop := AcS h x dx #[] fun _ => none
noncomputable def muN (x dx : Addr) : Mu := ⟨[x, dx], AcNew x dx, fun _ _ _ _ _ hk H => AcS.at H hk⟩
theorem ai_B : defD w.params 115 ["self", "initial_size"] true = true := by kernel_rfl
theorem ai_S : supB w.params 115 = true := by kernel_rfl
theorem kO107 : KO w.params 107 = some { cls := .type "tuple", data := .seq #[.int 0 (tk1 w.params 107)] } := by kernel_rfl
theorem ai_dflt : (fdK w.params 115).defaults = .ref 107 := by kernel_rfl
theorem ai_bind (s : Shared) (vs : List Value) (I : Inv w s) (h : vs.length = 2) : BindsTo s (fdK w.params 115) ⟨vs, []⟩ ((["self", "initial_size"] : List Str).zip (vs ++ [])) := by
  match vs, h with
  | [a, b], _ => exact BindsTo.of_defaults ai_dflt (I.K _ _ (by decide) (by decide) kO107) rfl (by with_unfolding_all rfl) (by kernel_rfl)
theorem init_body {s : Shared} {x dx : Addr} {vs : Array Value} {mA : Str → Option Value} {E : Value → Shared → Prop} {Q : PySem.Fin → Shared → Prop} (I : AcS s.heap x dx vs mA) (hz : vs.size ≤ 1000000)
    (k : ∀ h', AcS h' x dx #[] mA → Heap.SameBut x s.heap h' → Q (.done (.ret .none)) { s with heap := h' }) : wpAny (model PG w) A (Builtin.«list.__init__» ⟨[.ref x], []⟩) Q E s := by
  obtain ⟨n, J⟩ := id I
  unfold Builtin.«list.__init__»
  dsimp only
  rw [if_neg (by decide)]
  simp only [List.length_nil]
  rw [if_neg (by decide)]
  unfold listItems
  refine wpAny_bind (wpAny_bind (wpAny_seqItems J.obj rfl (wpAny_pure ?_)))
  have U := I.upd (fun _ => #[])
  exact wpAny_bind (wpAny_updateSeq J.obj rfl (wpAny_bind (wpAny_letGo (wpAny_pure (k _ U (Heap.SameBut.update ..))))) (by rw [sizeLine_eq]; omega) (by simp))
theorem acc_init_ok {x dx : Addr} {k : Int} : MOK w 1 115 (muN x dx) (AcP x dx [] k) [vIs (.ref x), vInt k] vNone := by
  refine gfn_intro (ns := ["self", "initial_size"]) (qs := []) (ds := []) ai_B rfl (fun _ => trivial) AcP.sub ai_bind fun X A L s₀ R hA F hR => ?_
  show BdA w A _ X _ s₀ _ _ (.Assign [.Attribute _ _ _] _ _ :: [.Expr (.Call (.Attribute (.Call (.Name "super" _) [] [] _) "__init__" _) [] [] _) _]) R
  intro s E S
  refine ks_wpAt_execs_cons (wpAt_of_wpAny (ex_setA (μ₁ := muN x dx) (μ' := muA x dx [] k) (x := x) (C := 178) (dx := dx) (ns := []) (em_ev (ev_name F.ok (x := "initial_size") (p := vInt k) (.tail _ (.head _)))) (em_ev (ev_name F.ok (.head _))) ?_ passes_list rfl acc_pass acc_store S fun s1 S1 => ?_))
  · intro g h H
    obtain ⟨n, J⟩ := H
    refine ⟨_, _, J, by intro c; simp, Within.nil, .tail _ (.head _), fun g' h' v hv hs' J' hk => ⟨#[], _, ⟨n, J'⟩, ?_, ?_, trivial⟩⟩
    · intro y hy
      by_cases q : y = ("_initial_size" : Str)
      · exact q ▸ .head _
      · exact absurd (by simp [q]) hy
    · obtain ⟨t, rfl⟩ := hv
      exact ⟨t, by simp⟩
  refine ks_wpAt_execs_cons (ks_wpAt_Expr_any (sup_eval sf_init sc_init F ai_S (.head _) S1 (fun g h H => H.ac) fun s' S' => ?_))
  obtain ⟨vs, mA, I, hw, ht, hAl⟩ := S'.mu
  have sz : vs.size = 0 := by have := hAl.length; simpa using this
  refine wpAny_mono (init_body I (by omega) (Q := fun fin s'' => ∃ v, fin = .done (.ret v) ∧ PySem.wpAt (model PG w) A (.func (bodyK w.params 115) (clsEnv w.params 115 L)) (execs [] (clsEnv w.params 115 L)) R E s'') fun h' I' hb => ⟨.none, rfl, ?_⟩) (fun _ _ z => z) fun _ _ z => z
  obtain ⟨S3, _⟩ := st_upd (μ' := muA x dx [] k) S' (.head _) hb I'.ex s'.toks rfl fun hs => ⟨#[], mA, I', hw, ht, trivial⟩
  exact wpAt_of_wpAny (wpAny_execs_nil ((hR.next [] (by intro a h; cases h)) .none _ S3.inv S3.gr S3.mu S3.bel rfl rfl))
end
end Mine
end

section
open PySem PySem.Calls PyProof.Rows PySem.W
open PySem.Builtin PySem.Builtin.List
set_option Elab.async false
set_option maxRecDepth 100000
set_option linter.unusedVariables false
namespace Mine
noncomputable section
variable {w : World} {A : Around} {X Y : List Addr} {env : Env} {Γ : Ctxt} {s₀ : Shared} {μ μ' μ₁ μ₂ : Mu} {c : Code}

/-! ### iterating an _Accumulator -/
theorem acc_it : findIn (K' w.params) (.ref 178) "__iter__" = some (some (.builtin "list.__iter__")) := by kernel_rfl
theorem stop_body {A : Around} {s : Shared} (hh : A.handled = none) : wpAny (model PG w) A (PySem.Builtin.SmallTypes.stopIteration : Sem PySem.Fin) (fun _ _ => False) (fun e s' => s'.TypeIs e "StopIteration" ∧ ∃ h', s' = { s with heap := h' } ∧ ∀ b o, s.heap.get? b = some o → h'.get? b = some o) s := by
  show wpAny _ _ (newExc (.type "StopIteration") [] >>= _) _ _ _
  refine wpAny_bind ?_
  simp only [newExc, newTuple]
  refine wpAny_bind (wpAny_newObj_type ?_ (by size_fits))
  refine wpAny_bind (m := firstArgMember _ _) (wpAny_of_eq (a := Value.none) (by first | rfl | (simp only [firstArgMember]; rfl)) ?_)
  refine wpAny_newObj_type ?_ (by size_fits)
  simp only [raiseNew]
  refine wpAny_bind (wpAny_handled ?_)
  rw [hh]
  refine wpAny_bind (wpAny_pure (wpAny_throw ⟨⟨_, Heap.get?_push_size _ rfl, rfl⟩, _, rfl, fun b o e => Heap.get?_push_of_some _ (Heap.get?_push_of_some _ e)⟩))
/-- one step of a list iterator over whatever holds a sequence -/
theorem next_seq {it l : Addr} {i : Nat} {ol : Obj} {vs : Array Value} {nl : Nat} {s : Shared} {E : Value → Shared → Prop} {Q : Option Value → Shared → Prop} (hh : A.handled = none) (hit : s.heap.IsListIter it l i) (hol : s.heap.get? l = some ol) (hdl : ol.data = .seq vs nl)
    (hQ : match vs[i]? with
      | some v => ∀ h', h'.IsListIter it l (i + 1) → Heap.SameBut it s.heap h' → Q (some v) { s with heap := h' }
      | none => ∀ h', (∀ b o, b ≠ it → s.heap.get? b = some o → h'.get? b = some o) → Q none { s with heap := h' }) : wpAny (model PG w) A (pyNext (.ref it)) Q E s := by
  obtain ⟨o, ho, hc, hd⟩ := id hit
  unfold pyNext
  refine wpAny_bind (wpAny_attempt (wpAny_callSpecial?_slot (name := Str.ofString "__next__") hit.typeIs slot_listiter_next
    (wpAny_call_entry slot_listiter_next hit.typeIs entry_listiter_next ?_ (args_listiter_next _))))
  show wpAny _ _ (field (.ref it) 0 >>= _) _ _ s
  refine wpAny_bind (wpAny_field ho hd (x := .ref l) rfl ?_)
  show wpAny _ _ (if (Value.ref l == Value.none) = true then _ else _) _ _ s
  rw [if_neg (show ¬ ((Value.ref l == Value.none) = true) from Bool.false_ne_true)]
  show wpAny _ _ (field (.ref it) 1 >>= _) _ _ s
  refine wpAny_bind (wpAny_field ho hd (x := .int i 0) rfl ?_)
  show wpAny _ _ (seqItems? (.ref l) >>= _) _ _ s
  refine wpAny_bind (wpAny_seqItems hol hdl ?_)
  simp only [Int.toNat_natCast]
  cases hx : vs[i]? with
  | some v =>
    rw [hx] at hQ
    refine wpAny_bind (wpAny_setField ho hd (by simp) (wpAny_pure ⟨v, rfl, wpAny_pure (hQ _ ?_ (Heap.SameBut.update ..))⟩))
    exact ⟨_, Heap.get?_update_self _ ho (Obj.isFreed_of_fields (Obj.data_mapFields hd _)), (Obj.cls_mapFields ..).trans hc, by
      rw [Obj.data_mapFields hd]; simp [rawInt]⟩
  | none =>
    rw [hx] at hQ
    refine wpAny_bind (wpAny_rule (wpAny_bind (wpAny_setField ho hd (by simp) ?_)))
    refine wpAny_mono (stop_body (A := A.in1) hh) (fun _ _ f => f.elim) fun e s' he => ?_
    obtain ⟨hT, h', rfl, hk⟩ := he
    refine wpAny_bind (wpAny_isInstance (T := "StopIteration") (b := true) hT isSubtype_stop ?_)
    exact wpAny_pure (hQ h' fun b o hb e => hk b o ((Heap.get?_update_other _ _ (Ne.symm hb)).trans e))
end
end Mine
end

section
open PySem PySem.Calls PyProof.Rows PySem.W
open PySem.Builtin PySem.Builtin.List
set_option Elab.async false
set_option maxRecDepth 100000
set_option linter.unusedVariables false
namespace Mine
noncomputable section
variable {w : World} {A : Around} {X Y : List Addr} {env : Env} {Γ : Ctxt} {s₀ : Shared} {μ μ' μ₁ μ₂ : Mu} {c : Code}

noncomputable def partAt (ps : List (Str × Str)) (i : Nat) (va vb : Value) : Prop := ∃ p t u, ps[i]? = some p ∧ va = .str p.1 t ∧ vb = .str p.2 u
noncomputable def AcSt (it x : Addr) (ox : Obj) (vs : Array Value) (ps : List (Str × Str)) (tups : List Addr) (i : Nat) (h : Heap) : Prop :=
  h.IsListIter it x i ∧ h.get? x = some ox ∧ ∀ j, j < ps.length → ∃ T va vb, vs[j]? = some (.ref T) ∧ T ∈ tups ∧ h.IsTuple T #[va, vb] ∧ partAt ps j va vb
theorem walks_acc (hh : A.handled = none) {it x : Addr} {ox : Obj} {vs : Array Value} {nl : Nat} {ps : List (Str × Str)} {tups : List Addr} (hne : x ≠ it) (hT : it ∉ tups) (hd : ox.data = .seq vs nl) (hsz : vs.size = ps.length) :
    WalksU PG w A it (it :: x :: tups) [it] ps.length (fun i vals => ∃ va vb, vals = #[va, vb] ∧ partAt ps i va vb) (AcSt it x ox vs ps tups) (fun i T h => AcSt it x ox vs ps tups (i + 1) h ∧ T ≠ it) where
  sub := fun b hb => by rw [List.mem_singleton.mp hb]; exact .head _
  frame := fun i h h' st hk => ⟨st.1.at fun o e => hk it (.head _) o e, hk x (.tail _ (.head _)) _ st.2.1, fun j hj => by
    obtain ⟨T, va, vb, h1, h2, ⟨o, h3, r⟩, h4⟩ := st.2.2 j hj
    exact ⟨T, va, vb, h1, h2, ⟨o, hk T (.tail _ (.tail _ h2)) _ h3, r⟩, h4⟩⟩
  item := fun i s Q E hi st hQ => by
    obtain ⟨T, va, vb, h1, h2, h3, h4⟩ := st.2.2 i hi
    refine next_seq hh st.1 st.2.1 hd ?_
    rw [h1]
    intro h' hit' hb
    have hTi : T ≠ it := fun e => hT (e ▸ h2)
    have st' : AcSt it x ox vs ps tups (i + 1) h' := ⟨hit', (hb.2 x hne).trans st.2.1, fun j hj => by
      obtain ⟨T', a, b, g1, g2, ⟨o, g3, r⟩, g4⟩ := st.2.2 j hj
      exact ⟨T', a, b, g1, g2, ⟨o, (hb.2 T' fun e => hT (e ▸ g2)).trans g3, r⟩, g4⟩⟩
    have hT' : h'.IsTuple T #[va, vb] := let ⟨o, e, r⟩ := h3; ⟨o, (hb.2 T hTi).trans e, r⟩
    exact hQ T #[va, vb] h' s.toks ⟨va, vb, rfl, h4⟩ hT' ⟨st', hTi⟩ fun b o hb' e => (hb.2 b fun q => hb' (q ▸ List.mem_singleton.mpr rfl)).trans e
  go := fun elts k pos i T s Q E hm hQ => by
    obtain ⟨o, ho, hc, _⟩ := hm.1.1
    exact letOwned_none ho (by rw [hc]; decide) (hQ s.heap hm.1 fun b o _ e => e)
  apart := fun i T h hm m => hm.2 (List.mem_singleton.mp m)
  done := fun s Q E st hQ => by
    refine next_seq hh st.1 st.2.1 hd ?_
    rw [Array.getElem?_eq_none (by omega)]
    exact fun h' hk => hQ h' s.toks fun b o hb e => hk b o (fun q => hb (q ▸ List.mem_singleton.mpr rfl)) e
  self := fun i s Q E st hQ => wpAny_pyIter_listiter st.1 hQ
end
end Mine
end

section
open PySem PySem.Calls PyProof.Rows PySem.W
open PySem.Builtin PySem.Builtin.List
set_option Elab.async false
set_option maxRecDepth 100000
set_option linter.unusedVariables false
namespace Mine
noncomputable section
variable {w : World} {A : Around} {X Y : List Addr} {env cenv : Env} {Γ : Ctxt} {s₀ : Shared} {μ μ' μ₁ μ₂ : Mu} {c : Code}

theorem pyIter_acc {s : Shared} {x dx : Addr} {vs : Array Value} {mA : Str → Option Value} {E Q : Value → Shared → Prop} (Iv : Inv w s) (I : AcS s.heap x dx vs mA)
    (k : Q (.ref s.heap.objs.size) { s with heap := s.heap.push { cls := .type "list_iterator", data := .fields #[.ref x, .int 0 0] } }) : wpAny (model PG w) A (pyIter (.ref x)) Q E s := by
  have step := acc_iter (A := A) (E := E) (Q := fun it s' => wpAny (model PG w) A (do
      match ← specialOf it "__next__" with
      | none => rule "iter.non-iterator"; raiseError "TypeError" s!"iter() returned non-iterator of type '{← typeNameOf it}'"
      | some _ => pure it) Q E s') Iv I (by
    have hT : (⟨s.heap.push { cls := .type "list_iterator", data := .fields #[.ref x, .int 0 0] }, s.gens, s.drawn, s.toks, s.os⟩ : Shared).TypeIs (.ref s.heap.objs.size) "list_iterator" := ⟨_, Heap.get?_push_size _ rfl, rfl⟩
    exact wpAny_bind (wpAny_specialOf hT slot_listiter_next.lookup (wpAny_pure k)))
  unfold pyIter
  refine wpAny_bind ?_
  unfold specialOf
  refine wpAny_bind ((acc_type (w := w) I).here ((looks_findIn Iv.kin acc_it).here ?_))
  show wpAny _ _ (callSpecialIfBoundUnlessNone? (.ref x) "__iter__" _ >>= _) _ _ _
  refine wpAny_bind ?_
  unfold callSpecialIfBoundUnlessNone? bindSpecialIfBound? specialOf
  refine wpAny_holding (wpAny_bind (wpAny_bind (wpAny_bind ((acc_type (w := w) I).here ((looks_findIn Iv.kin acc_it).here ?_)))))
  simp only [slot_list_iter.bind]
  refine wpAny_bind (wpAny_askSetting (wpAny_ite ?_))
  have fin : ∀ refuse : Sem Value, wpAny (model PG w) A (if (Value.builtin "list.__iter__" == Value.none) = true then (refuse >>= fun v => pure (some v)) else (call (.builtin "list.__iter__") [.ref x] >>= fun v => pure (some v))) (fun r s' => wpAny (model PG w) A (match r with
      | some it => (do
        match ← specialOf it "__next__" with
        | none => rule "iter.non-iterator"; raiseError "TypeError" s!"iter() returned non-iterator of type '{← typeNameOf it}'"
        | some _ => pure it)
      | none => (do
        match ← bindSpecialIfBound? (.ref x) "__getitem__" with
        | none => rule "iter.not-iterable"; raiseError "TypeError" s!"'{← typeNameOf (.ref x)}' object is not iterable"
        | some _ => rule "iter.getitem-fallback"; newFields "iterator" [.ref x, ← mkInt 0])) Q E s') E s := fun refuse => by
    rw [if_neg (by decide)]
    exact wpAny_bind (wpAny_mono step (fun v s' h' => wpAny_pure h') fun _ _ h' => h')
  split
  · exact wpAny_bind (wpAny_pure (wpAny_pure (fin _)))
  · exact wpAny_tryCatch (wpAny_bind (wpAny_pure (wpAny_pure (fin _))))

/-! ### the items' lengths, in the generator's frame -/
noncomputable def HK (w : World) (h : Heap) : Prop := ∀ a o, a ≠ T1 → a ≠ T2 → KO w.params a = some o → h.get? a = some o
theorem nsGet_H {M : Model} {a : Addr} {x : Str} {r : Option Value} {s : Shared} {E : Value → Shared → Prop} {Q : Option Value → Shared → Prop} (I : HK w s.heap) (h1 : a ≠ T1) (h2 : a ≠ T2) (e : nsK w.params a x = some r) (h : Q r s) : wpAny M A (nsGet a x) Q E s := by
  unfold nsK dictAt at e
  split at e
  · rename_i es q
    split at q
    · rename_i c d es' n sl q'
      cases q
      split at e
      · rename_i hk
        cases e
        exact wpAny_nsGet (m := fun y => nsFind es y) ⟨_, es, n, I _ _ h1 h2 q', rfl, strKeys_of hk, fun _ => rfl⟩ h
      · cases e
    · cases q
  · cases e
theorem loadBi_H {M : Model} {x : Str} {v : Value} {s : Shared} {E : Value → Shared → Prop} {Q : Value → Shared → Prop} (hE : EnvOk env) (I : HK w s.heap) (e : nsK w.params mainGlobals x = some none) (e' : nsK w.params builtinsNs x = some (some v)) (h : Q v s) : wpAny M A (loadGlobal env x) Q E s := by
  unfold loadGlobal
  rw [hE.g, hE.b]
  exact wpAny_bind (nsGet_H I (by decide) (by decide) e (wpAny_bind (nsGet_H I (by decide) (by decide) e' (wpAny_pure h))))
theorem loadGlob_H {M : Model} {x : Str} {v : Value} {s : Shared} {E : Value → Shared → Prop} {Q : Value → Shared → Prop} (hE : EnvOk env) (I : HK w s.heap) (e : nsK w.params mainGlobals x = some (some v)) (h : Q v s) : wpAny M A (loadGlobal env x) Q E s := by
  unfold loadGlobal
  rw [hE.g]
  exact wpAny_bind (nsGet_H I (by decide) (by decide) e (wpAny_pure h))
theorem g_len : nsK w.params mainGlobals "len" = some none := by kernel_rfl
theorem b_len : nsK w.params builtinsNs "len" = some (some (.builtin "len")) := by kernel_rfl
theorem HK.keeps {h h' : Heap} (I : HK w h) (k : ∀ b o, h.get? b = some o → h'.get? b = some o) : HK w h' := fun a o h1 h2 e => k _ _ (I a o h1 h2 e)
theorem len_of {n : Str} {np xp pos : Pos} {x : Str} {t : Tok} {m : Str → Option Value} {s : Shared} {E Q : Value → Shared → Prop} (hE : EnvOk env) (I : HK w s.heap) (hl : env.kindOf "len" = some .globalImplicit) (hk : env.kindOf n = some .local) (hn : s.heap.Ns env.locals m) (hv : m n = some (.str x t)) (hx : x.length < 2 ^ 62)
    (hd : (n == ("__debug__" : Str)) = false) (k : ∀ tk t', Q (.int x.length t') { s with toks := tk })
    (hplain : (backTo pos (starEach [.Name n xp] env)).any (·.1) = false := by rfl) (he : starEach [.Name n xp] env = (false, eval (.Name n xp) env) :: starEach [] env := by rfl) : wpAny (model PG w) A (eval (.Call (.Name "len" np) [.Name n xp] [] pos) env) Q E s := by
  refine wpAny_Call_NameR (Name_function_global hE.k hl (loadBi_H hE I g_len b_len (callWith_builtin hplain ?_)) (by rfl))
  rw [he]
  refine evalArgs_plain (wpAny_items_cons (e := .Name n xp) (rest := []) (pos := pos) (env := env) (wpAny_Name (wpAny_loadName_local hE.k hk hn hv (wpAny_items_nil ?_)) hd) he)
  exact P.len_str (by omega) (k _ _)
end
end Mine
end

section
open PySem PySem.Calls PyProof.Rows PySem.W
open PySem.Builtin PySem.Builtin.List
set_option Elab.async false
set_option maxRecDepth 100000
set_option linter.unusedVariables false
namespace Mine
noncomputable section
variable {w : World} {A : Around} {X Y : List Addr} {env cenv : Env} {Γ : Ctxt} {s₀ : Shared} {μ μ' μ₁ μ₂ : Mu} {c : Code}

theorem elt_len {p0 p1 p2 p3 p4 p5 p6 : Pos} {x y : Str} {t u : Tok} {m : Str → Option Value} {s : Shared} {E : Value → Shared → Prop} (hE : EnvOk env) (I : HK w s.heap) (hl : env.kindOf "len" = some .globalImplicit) (ha : env.kindOf "fws" = some .local) (hb : env.kindOf "part" = some .local)
    (hn : s.heap.Ns env.locals m) (hv : m "fws" = some (.str x t)) (hv' : m "part" = some (.str y u)) (hx : x.length < 2 ^ 62) (hy : y.length < 2 ^ 62) :
    wpAny (model PG w) A (eval (.BinOp (.Call (.Name "len" p0) [.Name "fws" p1] [] p2) .Add (.Call (.Name "len" p3) [.Name "part" p4] [] p5) p6) env) (fun v s' => (∃ t', v = .int ((x.length : Int) + y.length) t') ∧ Keeps s s') E s :=
  wpAny_BinOp (len_of hE I hl ha hn hv hx (by rfl) fun tk t' => len_of hE I hl hb hn hv' hy (by rfl) fun tk' t'' => add_int ⟨⟨_, rfl⟩, _, _, rfl, fun b o e => e⟩)

/-- sum(x, 0) over what walks -/
theorem call_sum0 {x : Value} {t0 : Tok} {s : Shared} {E Q : Value → Shared → Prop}
    (h : wpAny (model PG w) A.in1 (pyIter x) (fun it s₂ => ∃ I fp wr G n P St val, it = .ref I ∧ WalksS PG w A.in1 I fp wr G n P St ∧ St 0 s₂ ∧ (∀ b ∈ fp, b < s₂.heap.objs.size) ∧
      (∀ i v, P i v → ∃ t, v = .int (val i) t) ∧
      ∀ s' t', Moved wr G s₂ s' → Q (.int (preSum val n) t') s') E s) :
    wpAny (model PG w) A (call (.builtin "sum") [x, .int 0 t0]) Q E s := by
  refine call_function_tree PySem.F.kind_sum PySem.F.plain_sum PySem.F.entry_sum (by unfold argsOk; kernel_rfl) ?_
  unfold Builtin.«sum»
  simp only [List.length_cons, List.length_nil]
  rw [if_neg (by decide)]
  refine wpAny_bind (wpAny_of_eq (show Builtin.Builtins.bindParams "sum" ["start"] 0 ⟨[.int 0 t0], []⟩ = pure [some (.int 0 t0)] from rfl) ?_)
  refine wpAny_bind (wpAny_mono h (fun it s₂ h₂ => ?_) fun _ _ e => e)
  obtain ⟨I, fp, wr, G, n, P, St, val, rfl, W, hst, hfp, hval, hQ⟩ := h₂
  dsimp only
  rw [if_pos (by decide)]
  refine wpAny_bind (wpAny_rule (wpAny_bind (wpAny_mkInt ?_)))
  refine wpAny_bind (wpAny_pure ?_)
  simp only [List.forIn_cons, List.forIn_nil]
  refine wpAny_bind (wpAny_bind (wpAny_bind (wpAny_isInstance (T := "int") (b := false) (typeIs_int _ _ _) PySem.sub_int_str ?_)))
  simp only [Bool.false_eq_true, if_false]
  refine wpAny_pure (wpAny_bind (wpAny_bind (wpAny_isInstance (T := "int") (b := false) (typeIs_int _ _ _) PySem.sub_int_bytes ?_)))
  simp only [Bool.false_eq_true, if_false]
  refine wpAny_pure (wpAny_bind (wpAny_bind (wpAny_isInstance (T := "int") (b := false) (typeIs_int _ _ _) PySem.sub_int_bytearray ?_)))
  simp only [Bool.false_eq_true, if_false]
  refine wpAny_pure (wpAny_pure ?_)
  refine wpAny_bind (wpAny_newObj_type ?_)
  have hSf : s₂.heap.objs.size ∉ fp := fun hm => Nat.lt_irrefl _ (hfp _ hm)
  refine wpAny_pure ⟨plainId_quiet PySem.F.plain_sum_loop _, codeAny_sum_loopAnyS W val hval s₂.heap.objs.size hSf n 0 _ s₂.toks 0 0 (.inl rfl) rfl (Nat.zero_le _)
    (W.frame 0 s₂ _ _ hst (by first | exact Nat.le_refl _ | exact Nat.le_succ _ | omega) fun b _ o e => Heap.get?_push_of_some _ e) (Heap.get?_push_size _ rfl) fun s' t' hm => ?_⟩
  exact hQ s' t' (hm.drop_new (by first | exact Nat.le_refl _ | exact Nat.le_succ _ | omega))

/-! ### the table of a text's generators -/
theorem tab_code {t c : Addr} {ln cl : Int} {s : Shared} {env : Env} {pos : Pos} {qual : Str} {scope : Scope} {E : Value → Shared → Prop} {Q : Value → Shared → Prop} (hc : env.code = .ref c) (T : TabAt s.heap t c ln cl) (hln : (pos.line : Int) = ln) (hcl : (pos.col : Int) = cl)
    (k : ∀ c' h' tk, (∀ b o, b ≠ t → s.heap.get? b = some o → h'.get? b = some o) → TabAt h' t c ln cl → Q c' { s with heap := h', toks := tk }) : wpAny (model PG w) A (genexprCode env pos qual scope) Q E s := by
  obtain ⟨ps, h1, h2, h3⟩ := id T
  rcases h3 with rfl | ⟨c', rfl⟩
  · refine wpAny_genexprCodeX hc h2 h1 rfl fun c' h' tk hx _ _ hco _ hta _ => k _ _ _ (fun b o hb e => hx b o hb e) ⟨_, hta, hco, .inr ⟨c', ?_⟩⟩
    rw [← hln, ← hcl]; rfl
  · refine wpAny_genexprCode_hit hc h2 (c' := .ref c') ?_ (k _ s.heap s.toks (fun b o _ e => e) T)
    rw [← hln, ← hcl]
    show codeAmong pos [rawInt pos.line, rawInt pos.col, .ref c'] = _
    unfold codeAmong
    simp [rawInt]
end
end Mine
end

section
open PySem PySem.Calls PyProof.Rows PySem.W
open PySem.Builtin PySem.Builtin.List
set_option Elab.async false
set_option maxRecDepth 100000
set_option linter.unusedVariables false
namespace Mine
noncomputable section
variable {w : World} {A : Around} {X Y : List Addr} {env cenv : Env} {Γ : Ctxt} {s₀ : Shared} {μ μ' μ₁ μ₂ : Mu} {c : Code}

theorem g_bi : nsK w.params mainGlobals "__builtins__" = some (some (.ref 4)) := by kernel_rfl
theorem ko4 : (KO w.params 4).map (fun o => (o.cls, o.dict, o.data)) = some (.type "module", some builtinsNs, .plain) := by kernel_rfl
theorem builtinsFor_K {s : Shared} {running : Addr} {E : Value → Shared → Prop} {Q : Addr → Shared → Prop} (I : Inv w s) (h : Q builtinsNs s) : wpAny (model PG w) A (builtinsFor mainGlobals running) Q E s := by
  unfold builtinsFor
  refine wpAny_bind (nsGet_K I (by decide) (by decide) g_bi ?_)
  show wpAny _ A (if ((4 : Addr) == builtinsNs) = true then _ else _) Q E s
  rw [if_neg (by decide)]
  obtain ⟨o, ho, he⟩ : ∃ o, KO w.params 4 = some o ∧ (o.cls, o.dict, o.data) = (.type "module", some builtinsNs, .plain) := by
    have := ko4 (w := w)
    cases q : KO w.params 4 with
    | none => rw [q] at this; cases this
    | some o => rw [q] at this; exact ⟨o, rfl, Option.some.inj this⟩
  obtain ⟨oc, od, odt, osl⟩ := o
  cases he
  refine wpAny_bind (wpAny_load (I.K _ _ (by decide) (by decide) ho) ?_)
  exact wpAny_pure h
theorem passing_all (n : Nat) : passing (fun _ => true) n 0 = List.range n := by unfold passing; simp
noncomputable def gsB (scope : Scope) : Bool := !scope.isCoroutine && (scope.names.all fun z => z.2 != .cell && z.2 != .free) && scope.names.lookup (".0" : Str) == some .local && scope.names.lookup ("fws" : Str) == some .local && scope.names.lookup ("part" : Str) == some .local && scope.kind == .function
noncomputable def tupsOf (vs : List Value) : List Addr := vs.filterMap fun v => match v with | .ref a => some a | _ => none

theorem inv_tab {t c : Addr} {ln cl : Int} {s : Shared} {h' : Heap} {tk : Nat} (I : Inv w s) (ht : (t = T1 ∧ c = 144 ∧ ln = 95 ∧ cl = 19) ∨ (t = T2 ∧ c = 151 ∧ ln = 98 ∧ cl = 32)) (hk : ∀ b o, b ≠ t → s.heap.get? b = some o → h'.get? b = some o) (T : TabAt h' t c ln cl) : Inv w { s with heap := h', toks := tk } ∧ Gr s { s with heap := h', toks := tk } := by
  rcases ht with ⟨rfl, rfl, rfl, rfl⟩ | ⟨rfl, rfl, rfl, rfl⟩
  · refine ⟨⟨fun a o h1 h2 e => hk _ _ h1 (I.K a o h1 h2 e), T, ?_, I.bare⟩, ⟨fun b o e h1 h2 => hk _ _ h1 e, fun _ _ e => e, rfl⟩⟩
    exact I.t2.at2 (fun o e => hk _ _ (by decide) e) fun o e => hk _ _ (by decide) e
  · refine ⟨⟨fun a o h1 h2 e => hk _ _ h2 (I.K a o h1 h2 e), ?_, T, I.bare⟩, ⟨fun b o e h1 h2 => hk _ _ h2 e, fun _ _ e => e, rfl⟩⟩
    exact I.t1.at2 (fun o e => hk _ _ (by decide) e) fun o e => hk _ _ (by decide) e

/-- a generator over an _Accumulator's pairs, made: what may be done with it -/
structure Made (w : World) (A : Around) (s : Shared) (n : Nat) (F : Nat → Value → Prop) (a : Addr) (s' : Shared) : Prop where
  inv : Inv w s'
  gr : Gr s s'
  walk : ∃ (fp wr : List Addr) (G : Array GenState → Array GenState → Prop) (St : Nat → Shared → Prop), WalksS PG w A.in4 a fp wr G n F St ∧ St 0 s' ∧ (∀ b ∈ fp, b < s'.heap.objs.size) ∧ a ∈ fp ∧ (∀ i s, St i s → s.TypeIs (.ref a) "generator") ∧
    (∀ s₁, (∀ b o, s'.heap.get? b = some o → s₁.heap.get? b = some o) → s₁.gens = s'.gens → s₁.os = s'.os → ∀ s'', Moved wr G s₁ s'' → Inv w s'' ∧ Gr s s'')

theorem WalksS.imp {I : Addr} {fp wr : List Addr} {G : Array GenState → Array GenState → Prop} {n : Nat} {P P' : Nat → Value → Prop} {St : Nat → Shared → Prop} (W : WalksS PG w A I fp wr G n P St) (h : ∀ i v, P i v → P' i v) : WalksS PG w A I fp wr G n P' St where
  sub := W.sub
  grefl := W.grefl
  gtrans := W.gtrans
  frame := W.frame
  item := fun i s Q E hi st hQ => W.item i s Q E hi st fun v s' hP st' hm => hQ v s' (h i v hP) st' hm
  done := W.done
  self := W.self
theorem gen_make {elt : Expr} {pa pb pt px gpos : Pos} {kt : Nat} {scope : Scope} {x dx t cc : Addr} {ln cl : Int} {ps : List (Str × Str)} {k : Int} {F : Nat → Value → Prop} {s : Shared} {E Q : Value → Shared → Prop} {n : Nat} (hA : Rm A n) (hF : Fn w env X) (S : St w env X s₀ μ Γ s) (hx : (("self" : Str), vIs (.ref x)) ∈ Γ) (hxO : x ∈ μ.O) (hget : ∀ g h, μ.Φ g h → AcP x dx ps k g h)
    (hs : gsB scope = true) (hcode : env.code = .ref cc) (ht : (t = T1 ∧ cc = 144 ∧ ln = 95 ∧ cl = 19) ∨ (t = T2 ∧ cc = 151 ∧ ln = 98 ∧ cl = 32)) (hln : (gpos.line : Int) = ln) (hcl : (gpos.col : Int) = cl)
    (helt : ∀ (C : Addr) (code : Value) (A' : Around) (s₂ : Shared) (m : Str → Option Value) (i : Nat) (p : Str × Str) (t u : Tok) (E' : Value → Shared → Prop), ps[i]? = some p → EnvOk (genEnv scope [] C code builtinsNs env) → HK w s₂.heap → s₂.heap.Ns C m → m "fws" = some (.str p.1 t) → m "part" = some (.str p.2 u) →
      wpAny (model PG w) A' (eval elt (genEnv scope [] C code builtinsNs env)) (fun y s₃ => F i y ∧ Keeps s₂ s₃) E' s₂)
    (hQ : ∀ a s', Made w A s ps.length F a s' → Q (.ref a) s') :
    wpAny (model PG w) A (eval (.GeneratorExp elt [⟨.Tuple [.Name "fws" pa, .Name "part" pb] kt pt, .Name "self" px, [], 0⟩] scope gpos) env) Q E s := by
  unfold gsB at hs
  simp only [Bool.and_eq_true, Bool.not_eq_true', beq_iff_eq] at hs
  obtain ⟨⟨⟨⟨⟨hco, hall⟩, h0⟩, hxa⟩, hxb⟩, hkind⟩ := hs
  have hcell : ∀ y ∈ scope.names, y.2 ≠ .cell := fun y hy => by
    have := List.all_eq_true.mp hall y hy; simp at this; exact this.1
  have hfree : ∀ y ∈ scope.names, y.2 ≠ .free := fun y hy => by
    have := List.all_eq_true.mp hall y hy; simp at this; exact this.2
  refine wpAny_GeneratorExp_walksQT (cl := []) hA.h hco (closureFor_none hfree) hcell h0 hxa hxb (by decide) hkind (Nat.lt_of_le_of_lt (Nat.le_add_right _ _) hA.d) ?_ (by intro _; rfl)
  refine st_ev (ev_name hF.ok hx) S fun v s1 S1 G1 hv => ?_
  have hv' : v = .ref x := hv
  subst hv'
  obtain ⟨vs, mA, I, hw, htk, hAl⟩ := hget _ _ S1.mu
  refine pyIter_acc S1.inv I ?_
  generalize hit : s1.heap.objs.size = it
  generalize hs2 : ({ s1 with heap := s1.heap.push { cls := .type "list_iterator", data := .fields #[.ref x, .int 0 0] } } : Shared) = s2
  have keep2 : ∀ b o, s1.heap.get? b = some o → s2.heap.get? b = some o := fun b o e => by rw [← hs2]; exact push_K _ b o e
  have I2 : Inv w s2 := by rw [← hs2]; exact S1.inv.keeps s1.toks (push_K _)
  have G2 : Gr s s2 := by rw [← hs2]; exact G1.trans (Gr.keeps s1.toks (push_K _))
  have hIt : s2.heap.IsListIter it x 0 := by rw [← hs2, ← hit]; exact ⟨_, Heap.get?_push_size _ rfl, rfl, rfl⟩
  have hitn : s1.heap.get? it = none := by rw [← hit]; exact new_none _
  refine ⟨noLimit_of I2 lim_K, ?_⟩
  have T2' : TabAt s2.heap t cc ln cl := by rcases ht with ⟨rfl, rfl, rfl, rfl⟩ | ⟨rfl, rfl, rfl, rfl⟩ <;> first | exact I2.t1 | exact I2.t2
  refine tab_code hcode T2' hln hcl fun code h3 tk3 hk3 T3 => ?_
  obtain ⟨I3, G3⟩ := inv_tab (tk := tk3) I2 ht hk3 T3
  rw [hF.ok.g]
  refine builtinsFor_K I3 ?_
  obtain ⟨nn, J⟩ := id I
  have sz1 : vs.size = ps.length := by have := hAl.length; simpa using this
  have oX := S1.mo x hxO
  have tX : t ∈ X := by rcases ht with ⟨rfl, _⟩ | ⟨rfl, _⟩ <;> first | exact S1.bel.a | exact S1.bel.b
  have xt : x ≠ t := by rcases ht with ⟨rfl, _⟩ | ⟨rfl, _⟩ <;> first | exact oX.2.1.a | exact oX.2.1.b
  have tex : ∃ o, s1.heap.get? t = some o := S1.bel.ex t tX
  have itt : it ≠ t := fun e => by obtain ⟨o, ho⟩ := tex; rw [← e, hitn] at ho; cases ho
  have xit : x ≠ it := fun e => by have := J.obj; rw [e, hitn] at this; cases this
  have offIt : Off w it := off_new S1.inv hitn
  have tup : ∀ j, j < ps.length → ∃ T va vb, vs[j]? = some (.ref T) ∧ T ∈ tupsOf vs.toList ∧ s1.heap.IsTuple T #[va, vb] ∧ T ≠ t ∧ partAt ps j va vb := fun j hj => by
    obtain ⟨v, hvj, hp⟩ := hAl.get (i := j) (p := vPart ps[j]) (by rw [List.getElem?_map, List.getElem?_eq_getElem hj]; rfl)
    obtain ⟨T, o, n', us, rfl, ho, hc, hd, hA2, nX⟩ := seq_get hp
    obtain ⟨va, vb, e, ⟨ta, rfl⟩, ⟨tb, rfl⟩⟩ := all2 hA2
    have e' : us = #[.str ps[j].1 ta, .str ps[j].2 tb] := Array.ext' e
    refine ⟨T, _, _, by rw [← Array.getElem?_toList]; exact hvj, List.mem_filterMap.mpr ⟨.ref T, List.mem_of_getElem? hvj, rfl⟩, ⟨o, ho, hc, n', by rw [hd, e']⟩, fun q => nX (q ▸ tX), ps[j], ta, tb, List.getElem?_eq_getElem hj, rfl, rfl⟩
  have tupAll : ∀ T ∈ tupsOf vs.toList, (∃ o, s1.heap.get? T = some o) := fun T hT => by
    obtain ⟨v, hvm, hve⟩ := List.mem_filterMap.mp hT
    obtain ⟨j, hj, rfl⟩ := List.mem_iff_getElem.mp hvm
    have hj' : j < ps.length := by rw [← sz1]; simpa using hj
    obtain ⟨T', va, vb, h1, _, ⟨o, h3, _⟩, _⟩ := tup j hj'
    have : vs.toList[j] = .ref T' := by
      have h1' := h1
      rw [← Array.getElem?_toList, List.getElem?_eq_getElem hj] at h1'
      exact Option.some.inj h1'
    rw [this] at hve
    cases hve
    exact ⟨o, h3⟩
  have itT : it ∉ tupsOf vs.toList := fun m => by obtain ⟨o, ho⟩ := tupAll it m; rw [hitn] at ho; cases ho
  have up3 : ∀ b o, b ≠ t → s1.heap.get? b = some o → h3.get? b = some o := fun b o hb e => hk3 b o hb (keep2 b o e)
  have ex3 : ∀ b, (∃ o, s1.heap.get? b = some o) → b < h3.objs.size := fun b ⟨o, ho⟩ => by
    by_cases q : b = t
    · obtain ⟨o', ho'⟩ := T3.ex.2; rw [q]; exact Heap.lt_size ho'
    · exact Heap.lt_size (up3 b o q ho)
  have hIt3 : h3.IsListIter it x 0 := hIt.at fun o e => hk3 it o itt e
  have hst : AcSt it x { cls := .ref 178, dict := some dx, data := .seq vs nn } vs ps (tupsOf vs.toList) 0 h3 :=
    ⟨hIt3, up3 x _ xt J.obj, fun j hj => by
      obtain ⟨T, va, vb, h1, h2, ⟨o, h3', r⟩, h4, h5⟩ := tup j hj
      exact ⟨T, va, vb, h1, h2, ⟨o, up3 T o h4 h3', r⟩, h5⟩⟩
  refine ⟨it, it :: x :: tupsOf vs.toList, [it], ps.length, fun i vals => ∃ va vb, vals = #[va, vb] ∧ partAt ps i va vb, AcSt it x { cls := .ref 178, dict := some dx, data := .seq vs nn } vs ps (tupsOf vs.toList), _, fun _ => true, F, rfl,
    fun A' hA' => walks_acc hA' xit itT rfl sz1, fun i vals h => by obtain ⟨va, vb, e, _⟩ := h; exact ⟨va, vb, e⟩, hst, fun b hb => ?_, noLimit_of I3 lim_K, fun m => ?_, fun href hh => ⟨?_, ?_⟩, fun a h5 tk5 gs hgs ha hsz hk5 W hG => ?_⟩
  · rcases List.mem_cons.mp hb with e | hb
    · obtain ⟨o, ho, _⟩ := hIt3; rw [e]; exact Heap.lt_size ho
    rcases List.mem_cons.mp hb with e | hb
    · rw [e]; exact ex3 x ⟨_, J.obj⟩
    · exact ex3 b (tupAll b hb)
  · have := offIt.k
    rw [← List.mem_singleton.mp m] at this
    have e' : (KO w.params cStatics).isSome = true := by kernel_rfl
    rw [this] at e'; cases e'
  · intro A' E' i va vb s₂ m₂ _ _ _ _ _ _
    exact wpAny_pure ⟨rfl, _, _, rfl, fun _ _ e => e⟩
  · intro A' E' i va vb s₂ m₂ _ hP _ hn2 hma hmb hkp
    obtain ⟨va', vb', e, p, ta, tb, hp, e1, e2⟩ := hP
    have ea : va = va' ∧ vb = vb' := by
      have := congrArg Array.toList e
      simpa using this
    rw [ea.1, e1] at hma
    rw [ea.2, e2] at hmb
    refine helt _ _ A' s₂ m₂ i p ta tb E' hp ⟨hkind, hF.ok.g, rfl⟩ (fun a o h1 h2 e => ?_) hn2 hma hmb
    have h4 : h3.get? a = some o := I3.K a o h1 h2 e
    refine hkp a (List.mem_range.mpr (Heap.lt_size h4)) (fun m => ?_) o (hh a o h4)
    have := offIt.k
    rw [← List.mem_singleton.mp m, e] at this
    cases this
  · have Pn : (passing (fun _ => true) ps.length 0).length = ps.length := by rw [passing_all]; simp
    have g0 : ∀ (i : Nat) (z : GenState), s.gens[i]? = some z → s2.gens[i]? = some z ∧ i < s2.gens.size := fun i z e => by
      have h1 := G2.gens i z e
      exact ⟨h1, by
        rcases Nat.lt_or_ge i s2.gens.size with h | h
        · exact h
        · rw [Array.getElem?_eq_none h] at h1; cases h1⟩
    have I5 : Inv w { s2 with gens := s2.gens.push gs, heap := h5, toks := tk5 } := ⟨fun b o h1 h2 e => hk5 _ _ (I3.K b o h1 h2 e), I3.t1.keeps hk5, I3.t2.keeps hk5, I3.bare.push hgs⟩
    have G5 : Gr s { s2 with gens := s2.gens.push gs, heap := h5, toks := tk5 } := ⟨fun b o e h1 h2 => hk5 _ _ (G3.keep b o (G2.keep b o e h1 h2) h1 h2), fun i z e => by
      obtain ⟨h1, h2⟩ := g0 i z e
      show (s2.gens.push gs)[i]? = some z
      rw [Array.getElem?_push_lt h2]
      rw [Array.getElem?_eq_getElem h2] at h1
      exact h1, G2.os⟩
    rw [Pn] at W
    have W' := WalksS.imp (P' := F) W (fun j y hy => by
      obtain ⟨i, hi, hy⟩ := hy
      rw [passing_all] at hi
      obtain ⟨hlt, e⟩ := List.getElem?_eq_some_iff.mp hi
      rw [List.getElem_range] at e
      exact e ▸ hy)
    refine hQ a _ ⟨I5, G5, a :: h3.objs.size :: List.range h3.objs.size, h3.objs.size :: [it], GenOnlyQ s2.gens.size, _, W', hG, fun b hb => ?_, .head _, fun i s hi => ?_, fun s₁ hk1 hg1 ho1 s'' hm => ?_⟩
    · show b < h5.objs.size
      rw [hsz]
      have ha' : h3.objs.size < a := ha
      rcases List.mem_cons.mp hb with e | hb
      · rw [e]; exact Nat.lt_succ_self _
      rcases List.mem_cons.mp hb with e | hb
      · rw [e]; exact Nat.lt_succ_of_lt ha'
      · exact Nat.lt_succ_of_lt (Nat.lt_trans (List.mem_range.mp hb) ha')
    · obtain ⟨⟨o, n1, n2, ho, hc, _⟩, _⟩ := hi
      exact ⟨o, ho, hc⟩
    · have hw1 : ∀ b o, s.heap.get? b = some o → b ≠ T1 → b ≠ T2 → s₁.heap.get? b = some o ∧ b ∉ [h3.objs.size, it] := fun b o e h1 h2 => by
        have e2 := G2.keep b o e h1 h2
        have e3 := G3.keep b o e2 h1 h2
        refine ⟨hk1 _ _ (hk5 _ _ e3), fun m => ?_⟩
        rcases List.mem_cons.mp m with q | m
        · have := Heap.lt_size e3; rw [q] at this; exact Nat.lt_irrefl _ this
        · have := G1.keep b o e h1 h2
          rw [List.mem_singleton.mp m, hitn] at this; cases this
      have new3 : Off w h3.objs.size := off_new I3 (new_none _)
      have hwO : ∀ b ∈ [h3.objs.size, it], Off w b := fun b hb => by
        rcases List.mem_cons.mp hb with q | hb
        · exact q ▸ new3
        · exact List.mem_singleton.mp hb ▸ offIt
      have bare1 : AllBare s₁.gens := by rw [hg1]; exact I5.bare
      refine ⟨⟨fun b o h1 h2 e => hm.heap _ _ (fun m => ?_) (hk1 _ _ (I5.K b o h1 h2 e)), ?_, ?_, hm.gens.bare bare1⟩, ⟨fun b o e h1 h2 => ?_, fun i z e => ?_, ?_⟩⟩
      · have := (hwO b m).k; rw [e] at this; cases this
      · exact (I5.t1.keeps hk1).at2 (fun o e => hm.heap _ _ (fun m => (hwO _ m).a rfl) e) fun o e => hm.heap _ _ (fun m => (hwO _ m).c rfl) e
      · exact (I5.t2.keeps hk1).at2 (fun o e => hm.heap _ _ (fun m => (hwO _ m).b rfl) e) fun o e => hm.heap _ _ (fun m => (hwO _ m).d rfl) e
      · obtain ⟨h3', h4'⟩ := hw1 b o e h1 h2
        exact hm.heap b o h4' h3'
      · have e5 := G5.gens i z e
        obtain ⟨_, hlt⟩ := g0 i z e
        rw [← hg1] at e5
        rcases hm.gens with q | ⟨⟨_, q⟩, _⟩
        · rw [q]; exact e5
        · rw [q i (Nat.ne_of_lt hlt)]; exact e5
      · rw [hm.os, ho1]; exact G2.os
end
end Mine
end

section
open PySem PySem.Calls PyProof.Rows PySem.W
open PySem.Builtin PySem.Builtin.List
set_option Elab.async false
set_option maxRecDepth 100000
set_option linter.unusedVariables false
namespace Mine
noncomputable section
variable {w : World} {A : Around} {X Y : List Addr} {env cenv : Env} {Γ : Ctxt} {s₀ : Shared} {μ μ' μ₁ μ₂ : Mu} {c : Code}

noncomputable def total (ps : List (Str × Str)) : Int := (ps.map fun p => (p.1.length : Int) + p.2.length).sum
theorem len_B : defB w.params 145 ["self"] = true := by kernel_rfl
theorem len_bind (vs : List Value) (h : vs.length = 1) : bindArgs (fdK w.params 145) ⟨vs, []⟩ = pure ((["self"] : List Str).zip vs) := by
  match vs, h with
  | [a], _ => kernel_rfl
theorem len_code : (fdK w.params 145).code = .ref 144 := by kernel_rfl
theorem g_sum : nsK w.params mainGlobals "sum" = some none := by kernel_rfl
theorem b_sum : nsK w.params builtinsNs "sum" = some (some (.builtin "sum")) := by kernel_rfl
theorem preSum_total (ps : List (Str × Str)) : ∀ n, n ≤ ps.length → preSum (fun i => (ps[i]?.map fun p => (p.1.length : Int) + p.2.length).getD 0) n = total (ps.take n)
  | 0, _ => by simp [preSum, total]
  | n + 1, h => by
    rw [preSum, preSum_total ps n (by omega), List.take_add_one]
    have : ps[n]? = some ps[n] := List.getElem?_eq_getElem (by omega)
    rw [this]
    simp only [total, Option.map_some, Option.getD_some, Option.toList_some, List.map_append, List.sum_append, List.map_cons, List.map_nil, List.sum_cons, List.sum_nil]
    omega
theorem evalArgs2 {f : Value} {pos : Pos} {e1 e2 : Expr} {s : Shared} {E : Value → Shared → Prop} {Q : Args → Shared → Prop} (h : wpAny (model PG w) A (eval e1 env) (fun v s₁ => wpAny (model PG w) A (eval e2 env) (fun u s₂ => Q ⟨[v, u], []⟩ s₂) E s₁) E s)
    (he : starEach [e1, e2] env = [(false, eval e1 env), (false, eval e2 env)] := by rfl) : wpAny (model PG w) A (evalArgs f true (backTo pos (starEach [e1, e2] env)) []) Q E s := by
  rw [he]
  show wpAny _ A (evalArgs f true ((false, eval e1 env) :: [(false, eval e2 env)]) []) Q E s
  refine evalArgs_plain (Calls.spliced_cons (wpAny_mono h (fun v s1 h1 => Calls.spliced_cons (wpAny_mono h1 (fun u s2 h2 => Calls.spliced_nil h2) fun _ _ x => x)) fun _ _ x => x))
theorem evalArgs1 {f : Value} {pos : Pos} {e1 : Expr} {s : Shared} {E : Value → Shared → Prop} {Q : Args → Shared → Prop} (h : wpAny (model PG w) A (eval e1 env) (fun v s₁ => Q ⟨[v], []⟩ s₁) E s)
    (he : starEach [e1] env = [(false, eval e1 env)] := by rfl) : wpAny (model PG w) A (evalArgs f true (backTo pos (starEach [e1] env)) []) Q E s := by
  rw [he]
  show wpAny _ A (evalArgs f true ((false, eval e1 env) :: []) []) Q E s
  refine evalArgs_plain (Calls.spliced_cons (wpAny_mono h (fun v s1 h1 => Calls.spliced_nil h1) fun _ _ x => x))
theorem len_ok {x dx : Addr} {ps : List (Str × Str)} (hz : ∀ p ∈ ps, p.1.length < 2 ^ 62 ∧ p.2.length < 2 ^ 62) : MOK w 1 145 (muA x dx ps 0) (AcP x dx ps 0) [vIs (.ref x)] (vInt (total ps)) := by
  refine mfn_intro (ns := ["self"]) len_B rfl lim_K AcP.sub len_bind fun X A L s₀ R hA F hR => ?_
  show Bd w A X _ s₀ _ _ [.Return (some (.Call (.Name "sum" _) [.GeneratorExp (.BinOp (.Call (.Name "len" _) [.Name "fws" _] [] _) .Add (.Call (.Name "len" _) [.Name "part" _] [] _) _) [⟨.Tuple [.Name "fws" _, .Name "part" _] _ _, .Name "self" _, [], 0⟩] _ _, .Attribute (.Name "self" _) "_initial_size" _] [] _)) _] R
  intro s E S
  refine wpAny_execs_cons (wpAny_Return_some (wpAny_Call_NameR (Name_function_global F.ok.k (by kernel_rfl) (loadBi_K F.ok S.inv g_sum b_sum (callWith_builtin (by rfl) ?_)) (by rfl))))
  refine evalArgs2 ?_
  refine gen_make (F := fun i y => ∃ p t, ps[i]? = some p ∧ y = .int ((p.1.length : Int) + p.2.length) t) (t := T1) (ps := ps) (k := 0) hA F S (.head _) (.head _) (fun _ _ H => H) (by kernel_rfl) (len_code (w := w)) (.inl ⟨rfl, rfl, rfl, rfl⟩) (by rfl) (by rfl) ?_ ?_
  · intro C code A' s₂ m i p t u E' hp hE hK hn hv hv'
    obtain ⟨h1, h2⟩ := hz p (List.mem_of_getElem? hp)
    exact wpAny_mono (elt_len hE hK (by kernel_rfl) (by kernel_rfl) (by kernel_rfl) hn hv hv' h1 h2) (fun y s₃ ⟨⟨t', e⟩, hk⟩ => ⟨⟨p, t', hp, e⟩, hk⟩) fun _ _ e => e
  intro a s1 M
  have S1 := S.step M.inv M.gr
  obtain ⟨fp, wr, G, Stt, W, hst, hfp, _, _, hm⟩ := M.walk
  refine Attribute_any_ ?_ (by with_unfolding_all rfl)
  obtain ⟨lm, cm, V, H⟩ := S1.ex
  obtain ⟨v, hv, hp⟩ := H "self" (vIs (.ref x)) (.head _)
  have hp' : v = .ref x := hp
  subst hp'
  refine wpAny_Name (load_val F.ok V hv (by rfl) ?_) (by rfl)
  obtain ⟨vs, mA, I, hw, ⟨t0, ht0⟩, hAl⟩ := S1.mu
  refine getAttr_acc S1.inv I (acc_ga (w := w)) (acc_gat (w := w)) (acc_is (w := w)) (acc_hd (w := w)) ht0 rfl ?_
  show wpAny _ A (call (.builtin "sum") [.ref a, .int 0 t0]) _ _ _
  have hst' : Stt 0 { s1 with toks := s1.toks + 1 } := W.frame 0 s1 s1.heap (s1.toks + 1) hst (Nat.le_succ _) fun b _ o e => e
  refine call_sum0 (W.of_in1.of_in1.of_in1.self 0 _ _ _ hst' ⟨a, fp, wr, G, ps.length, _, Stt, fun i => (ps[i]?.map fun p => (p.1.length : Int) + p.2.length).getD 0, rfl, W.of_in1.of_in1.of_in1, hst', hfp, fun i v h => ?_, fun s' t' hmv => ?_⟩)
  · obtain ⟨p, t, hp, e⟩ := h
    exact ⟨t, by rw [e]; dsimp only; rw [hp]; rfl⟩
  · obtain ⟨I2, G2⟩ := hm { s1 with toks := s1.toks + 1 } (fun _ _ e => e) rfl rfl s' hmv
    have S2 := S.step I2 G2
    refine hR.r0 _ _ S2.inv S2.gr S2.mu S2.bel ⟨t', ?_⟩
    rw [preSum_total ps ps.length (Nat.le_refl _), List.take_length]
end
end Mine
end

section
open PySem PySem.Calls PyProof.Rows PySem.W
open PySem.Builtin PySem.Builtin.List
set_option Elab.async false
set_option maxRecDepth 100000
set_option linter.unusedVariables false
namespace Mine
noncomputable section
variable {w : World} {A : Around} {X Y : List Addr} {env cenv : Env} {Γ : Ctxt} {s₀ : Shared} {μ μ' μ₁ μ₂ : Mu} {c : Code}

noncomputable def pairS (p : Str × Str) : Str := Txt.join "" [p.1, p.2]
noncomputable def flat (ps : List (Str × Str)) : Str := Txt.join "" (ps.map pairS)
noncomputable def tkE (P : Params) : Tok := match nsK P mainGlobals "EMPTYSTRING" with | some (some (.str _ t)) => t | _ => 0
theorem g_empty : nsK w.params mainGlobals "EMPTYSTRING" = some (some (.str "" (tkE w.params))) := by kernel_rfl
theorem elt_str {p0 p1 p2 p3 p4 p5 : Pos} {kt : Nat} {x y : Str} {t u : Tok} {m : Str → Option Value} {s : Shared} {E : Value → Shared → Prop} (hE : EnvOk env) (I : HK w s.heap) (hl : env.kindOf "EMPTYSTRING" = some .globalImplicit) (ha : env.kindOf "fws" = some .local) (hb : env.kindOf "part" = some .local)
    (hn : s.heap.Ns env.locals m) (hv : m "fws" = some (.str x t)) (hv' : m "part" = some (.str y u)) (hz : x.length + y.length ≤ 16777216)
    (he : starEach [.Tuple [.Name "fws" p1, .Name "part" p2] kt p3] env = [(false, eval (.Tuple [.Name "fws" p1, .Name "part" p2] kt p3) env)] := by rfl) (he2 : ∀ pos, backTo pos (starEach [.Name "fws" p1, .Name "part" p2] env) = backTo pos [(false, eval (.Name "fws" p1) env), (false, eval (.Name "part" p2) env)] := by intro _; rfl)
    (hbase : attributeBase (.Name "EMPTYSTRING" p0) "join" env (eval (.Name "EMPTYSTRING" p0) env) = eval (.Name "EMPTYSTRING" p0) env := by rfl) (hline : (p4.endLine == p5.line) = true) :
    wpAny (model PG w) A (eval (.Call (.Attribute (.Name "EMPTYSTRING" p0) "join" p4) [.Tuple [.Name "fws" p1, .Name "part" p2] kt p3] [] p5) env) (fun v s' => (∃ t', v = .str (pairS (x, y)) t') ∧ Keeps s s') E s := by
  refine Call_method1 hbase he hline (Name_function_global hE.k hl (loadGlob_H hE I g_empty ?_) (by rfl))
  refine ⟨"str", _, PySem.F.plainAttrs_str, PySem.F.slot_str_join, PySem.F.type_str_join, typeIs_str _ _ _, fun _ e => (nomatch e), callWith_builtin (by rfl) ?_⟩
  refine evalArgs_plain (Calls.spliced_cons (wpAny_Tuple ?_))
  show wpAny _ A (spliced (backTo p3 (starEach [.Name "fws" p1, .Name "part" p2] env))) _ _ _
  refine wpAny_items_cons (wpAny_Name (wpAny_loadName_local hE.k ha hn hv (wpAny_items_cons (wpAny_Name (wpAny_loadName_local hE.k hb hn hv' (wpAny_items_nil ⟨show 2 ≤ sizeLine by decide, ?_⟩)) (by rfl)) (by rfl))) (by rfl)) (by rfl)
  refine Calls.spliced_nil ?_
  have hT : IsTup (s.heap.push { cls := .type "tuple", data := .seq [Value.str x t, Value.str y u].toArray }) s.heap.objs.size [Value.str x t, Value.str y u].toArray := ⟨_, Heap.get?_push_size _ rfl, rfl, 0, rfl⟩
  refine join_tuple (ys := [x, y]) hT (.cons x t (.cons y u .nil)) ?_ fun t' k => ⟨⟨t', rfl⟩, _, _, rfl, fun b o e => Heap.get?_push_of_some _ e⟩
  show (x.length + (y.length + 0)) + 2 * 0 ≤ _
  omega
theorem str_B : defB w.params 152 ["self"] = true := by kernel_rfl
theorem str_bind (vs : List Value) (h : vs.length = 1) : bindArgs (fdK w.params 152) ⟨vs, []⟩ = pure ((["self"] : List Str).zip vs) := by
  match vs, h with
  | [a], _ => kernel_rfl
theorem str_code : (fdK w.params 152).code = .ref 151 := by kernel_rfl
theorem str_ok {x dx : Addr} {ps : List (Str × Str)} {k : Int} (hz : ∀ p ∈ ps, p.1.length + p.2.length ≤ 16777216) (hn : ps.length ≤ sizeLine) (hj : JoinOk "" (ps.map pairS) = true) : MOK w 1 152 (muA x dx ps k) (AcP x dx ps k) [vIs (.ref x)] (vStr (flat ps)) := by
  refine mfn_intro (ns := ["self"]) str_B rfl lim_K AcP.sub str_bind fun X A L s₀ R hA F hR => ?_
  show Bd w A X _ s₀ _ _ [.Return (some (.Call (.Attribute (.Name "EMPTYSTRING" _) "join" _) [.GeneratorExp (.Call (.Attribute (.Name "EMPTYSTRING" _) "join" _) [.Tuple [.Name "fws" _, .Name "part" _] _ _] [] _) [⟨.Tuple [.Name "fws" _, .Name "part" _] _ _, .Name "self" _, [], 0⟩] _ _] [] _)) _] R
  intro s E S
  refine wpAny_execs_cons (wpAny_Return_some (Call_method1 (by rfl) (by rfl) (by rfl) (Name_function_global F.ok.k (by kernel_rfl) (loadGlob_K F.ok S.inv g_empty ?_) (by rfl))))
  refine ⟨"str", _, PySem.F.plainAttrs_str, PySem.F.slot_str_join, PySem.F.type_str_join, typeIs_str _ _ _, fun _ e => (nomatch e), callWith_builtin (by rfl) ?_⟩
  refine evalArgs_plain (Calls.spliced_cons ?_)
  refine gen_make (F := fun i y => ∃ p t, ps[i]? = some p ∧ y = .str (pairS p) t) (t := T2) (ps := ps) (k := k) hA F S (.head _) (.head _) (fun _ _ H => H) (by kernel_rfl) (str_code (w := w)) (.inr ⟨rfl, rfl, rfl, rfl⟩) (by rfl) (by rfl) ?_ ?_
  · intro C code A' s₂ m i p t u E' hp hE hK hn' hv hv'
    have h1 := hz p (List.mem_of_getElem? hp)
    exact wpAny_mono (elt_str hE hK (by kernel_rfl) (by kernel_rfl) (by kernel_rfl) hn' hv hv' h1 (hline := by rfl)) (fun y s₃ ⟨⟨t', e⟩, hk⟩ => ⟨⟨p, t', hp, e⟩, hk⟩) fun _ _ e => e
  intro a s1 M
  refine Calls.spliced_nil ?_
  obtain ⟨fp, wr, G, Stt, W, hst, hfp, ha, hty, hm⟩ := M.walk
  show wpAny _ A (call (.builtin "str.join") [.str "" (tkE w.params), .ref a]) _ _ _
  refine SC.joinGen (W.of_in1.of_in1) hty hst hfp ha (fun i v h => by obtain ⟨p, t, _, e⟩ := h; exact ⟨_, t, e⟩) (fun s' l hmv hit => ?_) hn
  obtain ⟨I2, G2⟩ := hm s1 (fun _ _ e => e) rfl rfl s' hmv
  have S2 := S.step I2 G2
  have hl : l.map (·.1) = ps.map pairS := by
    obtain ⟨hsz, hall⟩ := hit
    have hlen : l.length = ps.length := by simpa [strValues] using hsz
    apply List.ext_getElem?
    intro i
    rw [List.getElem?_map, List.getElem?_map]
    cases q : l[i]? with
    | none =>
      have : ps.length ≤ i := by rw [← hlen]; exact List.getElem?_eq_none_iff.mp q
      rw [List.getElem?_eq_none this]; rfl
    | some z =>
      obtain ⟨p, t, hp, e⟩ := hall i (.str z.1 z.2) (by simp [strValues, q])
      rw [hp]
      injection e with e1 e2
      show some z.1 = some (pairS p)
      rw [e1]
  rw [hl]
  exact ⟨hj, fun t' k' => hR.r0 _ _ (S2.inv.tok k') (S2.gr.trans (Gr.tok _ _).o) S2.mu ⟨S2.bel.ex, S2.bel.a, S2.bel.b⟩ ⟨t', rfl⟩⟩
end
end Mine
end

section
open PySem PySem.Calls PyProof.Rows PySem.W
open PySem.Builtin PySem.Builtin.List
set_option Elab.async false
set_option maxRecDepth 100000
set_option linter.unusedVariables false
namespace Mine
noncomputable section
variable {w : World} {A : Around} {X Y : List Addr} {env cenv : Env} {Γ : Ctxt} {s₀ : Shared} {μ μ' μ₁ μ₂ : Mu} {c : Code}

theorem focA {x dx : Addr} {ps : List (Str × Str)} {k : Int} : Focus (muA x dx ps k) (muA x dx ps k) (AcP x dx ps k) (muA x dx ps k) := .all rfl rfl
/-- a special method of an accumulator's that is a def -/
theorem special_def {s : Shared} {x dx f : Addr} {n : Nat} {name : Str} {ps : List (Str × Str)} {k : Int} {r : VP} {E : Value → Shared → Prop} {Q : Option Value → Shared → Prop} (hA : Rm A n) (S : St w env X s₀ μ Γ s) (C : MOK w n f (muA x dx ps k) (AcP x dx ps k) [vIs (.ref x)] r) (Fc : Focus μ (muA x dx ps k) (AcP x dx ps k) μ)
    (hs : findIn (K' w.params) (.ref 178) name = some (some (.ref f))) (hf : typeIn (K' w.params) (.ref f) = some (.type "function"))
    (h : ∀ v s', St w env X s₀ μ Γ s' → Sub (hideAll s.heap X) (hideAll s'.heap X) → r.p (hideAll s'.heap X) v → Q (some v) s') : wpAny (model PG w) A (callSpecial? (.ref x) name []) Q E s := by
  obtain ⟨vs, mA, I⟩ := (Fc.get _ _ S.mu : AcP x dx ps k _ _).ac
  unfold callSpecial? specialOf
  refine wpAny_bind (wpAny_bind ((acc_type (w := w) I).here ((looks_findIn S.inv.kin hs).here ?_)))
  have H : wpAny (model PG w) A (call (.ref f) [.ref x]) (fun v => Q (some v)) E s := st_call hA C Fc S (vs := [.ref x]) ⟨rfl, trivial⟩ (fun v s' S' hs' hr => h v s' S' hs' hr)
  exact wpAny_holding (wpAny_bind ((bind_fn S.inv.kin _ hf).here (wpAny_bind (wpAny_mono H (fun _ _ z => wpAny_pure z) fun _ _ z => z))))
/-- len(x) of an accumulator -/
theorem len_body {s : Shared} {x dx : Addr} {ps : List (Str × Str)} {k : Int} {n : Nat} {m : Int} {E Q : Value → Shared → Prop} (hA : Rm A n) (S : St w env X s₀ μ Γ s) (C : MOK w n 145 (muA x dx ps k) (AcP x dx ps k) [vIs (.ref x)] (vInt m)) (Fc : Focus μ (muA x dx ps k) (AcP x dx ps k) μ)
    (h0 : ¬ m < 0) (hfit : ¬ m ≥ 2 ^ 63)
    (h : ∀ t s', St w env X s₀ μ Γ s' → Sub (hideAll s.heap X) (hideAll s'.heap X) → Q (.int m t) s') : wpAny (model PG w) A (Builtin.«len» ⟨[.ref x], []⟩) (fun fin s' => ∃ v, fin = .done (.ret v) ∧ Q v s') E s := by
  unfold Builtin.«len»
  refine wpAny_bind (m := oneArg "len" _) (wpAny_pure ?_)
  refine wpAny_bind (m := callSpecial? (.ref x) (Str.ofString "__len__")) (special_def hA S C Fc (by kernel_rfl) (by kernel_rfl) fun v s' S' hs' hr => ?_)
  obtain ⟨t, rfl⟩ := hr
  refine wpAny_bind (wpAny_holding (wpAny_pure ?_))
  refine wpAny_bind (wpAny_letGo ?_)
  show wpAny _ _ (if m < 0 then _ else _) _ _ _
  rw [if_neg h0]
  show wpAny _ _ (if m ≥ 2 ^ 63 then _ else _) _ _ _
  rw [if_neg hfit]
  obtain ⟨S2, hs2⟩ := S'.turn (S'.inv.tok (s'.toks + 1)) (Gr.tok _ _).o rfl S'.mu ⟨S'.bel.ex, S'.bel.a, S'.bel.b⟩
  exact wpAny_bind (wpAny_mkInt (wpAny_pure ⟨_, rfl, h _ _ S2 hs'⟩))
theorem len_call {s : Shared} {x dx : Addr} {ps : List (Str × Str)} {k : Int} {n : Nat} {m : Int} {E Q : Value → Shared → Prop} (hA : Rm A (n + 1)) (S : St w env X s₀ μ Γ s) (C : MOK w n 145 (muA x dx ps k) (AcP x dx ps k) [vIs (.ref x)] (vInt m)) (Fc : Focus μ (muA x dx ps k) (AcP x dx ps k) μ)
    (h0 : ¬ m < 0) (hfit : ¬ m ≥ 2 ^ 63)
    (h : ∀ t s', St w env X s₀ μ Γ s' → Sub (hideAll s.heap X) (hideAll s'.heap X) → Q (.int m t) s') : wpAny (model PG w) A (call (.builtin "len") [.ref x]) Q E s :=
  Calls.call_function_entry kind_len plain_len entry_len (args_len1 _) (len_body hA.in1 S C Fc h0 hfit h)
end
end Mine
end

section
open PySem PySem.Calls PyProof.Rows PySem.W
open PySem.Builtin PySem.Builtin.List PySem.Builtin.Str
set_option Elab.async false
set_option maxRecDepth 100000
set_option linter.unusedVariables false
namespace Mine
noncomputable section
variable {w : World} {A : Around} {X Y : List Addr} {env cenv : Env} {Γ : Ctxt} {s₀ : Shared} {μ μ' μ₁ μ₂ : Mu} {c : Code}

/-- str(x) of an accumulator -/
theorem str_call {s : Shared} {x dx : Addr} {ps : List (Str × Str)} {k : Int} {n : Nat} {m : Str} {E Q : Value → Shared → Prop} (hA : Rm A (n + 3)) (S : St w env X s₀ μ Γ s) (C : MOK w n 152 (muA x dx ps k) (AcP x dx ps k) [vIs (.ref x)] (vStr m)) (Fc : Focus μ (muA x dx ps k) (AcP x dx ps k) μ)
    (h : ∀ t s', St w env X s₀ μ Γ s' → Sub (hideAll s.heap X) (hideAll s'.heap X) → Q (.str m t) s') : wpAny (model PG w) A (call (.type "str") [.ref x]) Q E s := by
  refine callType_newIn (S := fun A' R s' => A' = A.in1 ∧ s' = s ∧ R = wants (fun obj s₁ => s₁.TypeIs obj "str" ∧ Q obj s₁) E) F.called_str (by decide) (F.typeCall_str_1 _) (F.newCall_str_1 _) (fun obj => F.args_object_init_2 obj _) F.entry_str_new
    (fun A' R s' hS => ?_) ⟨rfl, rfl, rfl⟩
  obtain ⟨rfl, rfl, rfl⟩ := hS
  rw [str_new_tree]
  refine wpAny_bind (wpAny_pure ?_)
  refine wpAny_bind (wpAny_of_eq isSubtype_str_str ?_)
  refine wpAny_bind (m := Str.strOf _) ?_
  unfold Str.strOf
  show wpAny _ _ (do
    cRoomFor "str" [.ref x]
    _) _ _ _
  have hu : A.in1.in1.units < cLine := by have := hA.u; show A.units + 1 + 1 < _; omega
  refine wpAny_bind (m := cRoomFor _ _) (wpAny_cRoomFor hu ?_)
  refine wpAny_bind (m := callSpecial? (.ref x) (Str.ofString "__str__")) (special_def (hA.in1.in1.mono (Nat.le_succ _)) S C Fc (by kernel_rfl) (by kernel_rfl) fun v s' S' hs' hr => ?_)
  obtain ⟨t, rfl⟩ := hr
  refine wpAny_bind (m := asStr? _) (wpAny_pure ?_)
  refine wpAny_pure ?_
  exact wpAny_pure ⟨typeIs_str _ _ _, h t s' S' hs'⟩
theorem nobool_acc : findIn (K' w.params) (.ref 178) "__bool__" = some none := by kernel_rfl
theorem haslen_acc : findIn (K' w.params) (.ref 178) "__len__" = some (some (.ref 145)) := by kernel_rfl
theorem truthy_acc {s : Shared} {x dx : Addr} {ps : List (Str × Str)} {k : Int} {n : Nat} {m : Int} {E : Value → Shared → Prop} {Q : Bool → Shared → Prop} (hA : Rm A (n + 1)) (S : St w env X s₀ μ Γ s) (C : MOK w n 145 (muA x dx ps k) (AcP x dx ps k) [vIs (.ref x)] (vInt m)) (Fc : Focus μ (muA x dx ps k) (AcP x dx ps k) μ)
    (h0 : ¬ m < 0) (hfit : ¬ m ≥ 2 ^ 63) (h : ∀ s', St w env X s₀ μ Γ s' → Sub (hideAll s.heap X) (hideAll s'.heap X) → Q (m != 0) s') : wpAny (model PG w) A (truthy (.ref x)) Q E s := by
  obtain ⟨vs, mA, I⟩ := (Fc.get _ _ S.mu : AcP x dx ps k _ _).ac
  unfold truthy
  refine wpAny_bind (m := callSpecial? (.ref x) (Str.ofString "__bool__")) ?_
  unfold callSpecial? specialOf
  refine wpAny_bind (wpAny_bind ((acc_type (w := w) I).here ((looks_findIn S.inv.kin nobool_acc).here (wpAny_pure ?_))))
  refine wpAny_bind (wpAny_bind ((acc_type (w := w) I).here ((looks_findIn S.inv.kin haslen_acc).here ?_)))
  have key : wpAny (model PG w) A (runValue (.builtin "len" ⟨[.ref x], []⟩)) (fun v s' => ∃ t, v = .int m t ∧ Q (m != 0) s') E s := by
    refine wpAny_runValue (codeAny_builtin entry_len ?_)
    rw [Around.under_plainId plain_len _]
    exact wpAny_mono (len_body (Q := fun r s' => ∃ t, r = .int m t ∧ Q (m != 0) s') hA.in1 S C Fc h0 hfit fun t s' S' hs' => ⟨t, rfl, h s' S' hs'⟩)
      (fun fin s' h' => by obtain ⟨r, rfl, hq⟩ := h'; exact hq) fun _ _ e => e
  exact wpAny_bind (wpAny_mono key (fun r s' h' => by obtain ⟨t, rfl, hq⟩ := h'; exact wpAny_pure hq) fun _ _ e => e)
end
end Mine
end

section
open PySem PySem.Calls PyProof.Rows PySem.W
open PySem.Builtin PySem.Builtin.List PySem.Builtin.Str
set_option Elab.async false
set_option maxRecDepth 100000
set_option linter.unusedVariables false
namespace Mine
noncomputable section
variable {w : World} {A : Around} {X Y : List Addr} {env cenv : Env} {Γ : Ctxt} {s₀ : Shared} {μ μ' μ₁ μ₂ : Mu} {c : Code}

theorem em_andB {x y : Expr} {a b : Bool} {pos : Pos} (h1 : EvM w A X env s₀ Γ μ x μ₁ (vBool a)) (h2 : a = true → EvM w A X env s₀ Γ μ₁ y μ' (vBool b)) (h3 : a = false → μ' = μ₁) : EvM w A X env s₀ Γ μ (.BoolOp .And [x, y] pos) μ' (vBool (a && b)) := fun s E Q S k =>
  BoolOp_and (h1 s E _ S fun v s1 S1 hs1 hv => by
    have hv' : v = .bool a := hv
    subst hv'
    refine wpAny_truthy_bool ?_
    cases a with
    | false => rw [if_neg (by decide)]; exact k _ s1 (h3 rfl ▸ S1) hs1 rfl
    | true => rw [if_pos rfl]; exact BoolOp_one (h2 rfl s1 E Q S1 fun v s2 S2 hs2 hv => k v s2 S2 (hs1.trans hs2) hv))
theorem em_orB {x y : Expr} {a b : Bool} {pos : Pos} (h1 : EvM w A X env s₀ Γ μ x μ₁ (vBool a)) (h2 : a = false → EvM w A X env s₀ Γ μ₁ y μ' (vBool b)) (h3 : a = true → μ' = μ₁) : EvM w A X env s₀ Γ μ (.BoolOp .Or [x, y] pos) μ' (vBool (a || b)) := fun s E Q S k =>
  BoolOp_or (h1 s E _ S fun v s1 S1 hs1 hv => by
    have hv' : v = .bool a := hv
    subst hv'
    refine wpAny_truthy_bool ?_
    cases a with
    | true => rw [if_pos rfl]; exact k _ s1 (h3 rfl ▸ S1) hs1 rfl
    | false => rw [if_neg (by decide)]; exact BoolOp_one (h2 rfl s1 E Q S1 fun v s2 S2 hs2 hv => k v s2 S2 (hs1.trans hs2) hv))
/-- not x, x an accumulator -/
theorem em_notAcc {e : Expr} {pos : Pos} {x dx : Addr} {ps : List (Str × Str)} {k : Int} {n : Nat} {m : Int} (hA : Rm A (n + 1)) (he : EvM w A X env s₀ Γ μ e μ (vIs (.ref x))) (C : MOK w n 145 (muA x dx ps k) (AcP x dx ps k) [vIs (.ref x)] (vInt m)) (Fc : Focus μ (muA x dx ps k) (AcP x dx ps k) μ)
    (h0 : ¬ m < 0) (hfit : ¬ m ≥ 2 ^ 63) : EvM w A X env s₀ Γ μ (.UnaryOp .Not e pos) μ (vBool (m == 0)) := fun s E Q S kk => by
  show wpAny (model PG w) A (do let v ← eval e env; standAt pos; holding [v] (unaryOp .Not v)) Q E s
  refine wpAny_bind (he s E _ S fun v s1 S1 hs1 hv => ?_)
  have hv' : v = .ref x := hv
  subst hv'
  refine wpAny_bind (wpAny_standAt (wpAny_holding ?_))
  unfold unaryOp
  refine wpAny_holding ?_
  show wpAny (model PG w) A (do return .bool (!(← truthy (.ref x)))) Q E s1
  refine wpAny_bind (truthy_acc hA S1 C Fc h0 hfit fun s2 S2 hs2 => wpAny_pure (kk _ s2 S2 (hs1.trans hs2) ?_))
  show Value.bool _ = Value.bool _
  simp [bne]
/-- len(e), e an accumulator -/
theorem em_lenAcc {e : Expr} {np pos : Pos} {x dx : Addr} {ps : List (Str × Str)} {k : Int} {n : Nat} {m : Int} (hA : Rm A (n + 1)) (hE : EnvOk env) (he : EvM w A X env s₀ Γ μ e μ (vIs (.ref x))) (C : MOK w n 145 (muA x dx ps k) (AcP x dx ps k) [vIs (.ref x)] (vInt m)) (Fc : Focus μ (muA x dx ps k) (AcP x dx ps k) μ)
    (h0 : ¬ m < 0) (hfit : ¬ m ≥ 2 ^ 63) (hk : env.kindOf "len" = some .globalImplicit) (hplain : (backTo pos (starEach [e] env)).any (·.1) = false := by rfl) (hst : ∀ env, starEach [e] env = (false, eval e env) :: starEach [] env := by intro _; rfl) :
    EvM w A X env s₀ Γ μ (.Call (.Name "len" np) [e] [] pos) μ (vInt m) :=
  em_bicall hE (elm_cons he elm_nil hst) hk g_len b_len (fun s E Q vs S hA2 kk => by
    obtain ⟨v, rfl, h⟩ := all1 hA2
    have h' : v = .ref x := h
    subst h'
    exact len_call hA S C Fc h0 hfit fun t s' S' hs' => kk _ s' S' hs' ⟨t, rfl⟩) hplain
theorem g_str : nsK w.params mainGlobals "str" = some none := by kernel_rfl
theorem b_str : nsK w.params builtinsNs "str" = some (some (.type "str")) := by kernel_rfl
/-- str(e), e an accumulator -/
theorem em_strAcc {e : Expr} {np pos : Pos} {x dx : Addr} {ps : List (Str × Str)} {k : Int} {n : Nat} {m : Str} (hA : Rm A (n + 3)) (hE : EnvOk env) (he : EvM w A X env s₀ Γ μ e μ (vIs (.ref x))) (C : MOK w n 152 (muA x dx ps k) (AcP x dx ps k) [vIs (.ref x)] (vStr m)) (Fc : Focus μ (muA x dx ps k) (AcP x dx ps k) μ)
    (hk : env.kindOf "str" = some .globalImplicit) (hplain : (backTo pos (starEach [e] env)).any (·.1) = false := by rfl) (hst : ∀ env, starEach [e] env = (false, eval e env) :: starEach [] env := by intro _; rfl) :
    EvM w A X env s₀ Γ μ (.Call (.Name "str" np) [e] [] pos) μ (vStr m) := fun s E Q S kk => by
  refine wpAny_Call_NameR (Name_function_global hE.k hk (loadBi_K hE S.inv g_str b_str (PySem.callWith_type hplain (evalArgs_M (elm_cons he elm_nil hst) hplain S fun vs s1 S1 hs1 hA2 => ?_))) (by rfl))
  obtain ⟨v, rfl, h⟩ := all1 hA2
  have h' : v = .ref x := h
  subst h'
  exact str_call hA S1 C Fc fun t s' S' hs' => kk _ s' S' (hs1.trans hs') ⟨t, rfl⟩
theorem em_isspace {o : Expr} {apos pos : Pos} {x : Str} (ho : EvM w A X env s₀ Γ μ o μ (vStr x)) (hbase : attributeBase o "isspace" env (eval o env) = eval o env := by rfl) (hline : (apos.endLine == pos.line) = true := by rfl) :
    EvM w A X env s₀ Γ μ (.Call (.Attribute o "isspace" apos) [] [] pos) μ (vBool (Txt.isspace x)) := fun s E Q S kk =>
  Call_method0 hbase hline (ho s E _ S fun v s1 S1 hs1 hv => by
    obtain ⟨t, rfl⟩ := hv
    exact SB.isspace (kk _ s1 S1 hs1 rfl))
end
end Mine
end

section
open PySem PySem.Calls PyProof.Rows PySem.W
open PySem.Builtin PySem.Builtin.List PySem.Builtin.Str
set_option Elab.async false
set_option maxRecDepth 100000
set_option linter.unusedVariables false
namespace Mine
noncomputable section
variable {w : World} {A : Around} {X Y : List Addr} {env cenv : Env} {Γ : Ctxt} {s₀ : Shared} {μ μ' μ₁ μ₂ : Mu} {c : Code}

theorem total_nonneg : ∀ (ps : List (Str × Str)), 0 ≤ total ps
  | [] => Int.le_refl _
  | p :: r => by
    have := total_nonneg r
    simp only [total, List.map_cons, List.sum_cons] at this ⊢
    omega
theorem ow_B : defB w.params 167 ["self"] = true := by kernel_rfl
theorem ow_bind (vs : List Value) (h : vs.length = 1) : bindArgs (fdK w.params 167) ⟨vs, []⟩ = pure ((["self"] : List Str).zip vs) := by
  match vs, h with
  | [a], _ => kernel_rfl
theorem acc_size {x dx : Addr} {ps : List (Str × Str)} {k : Int} {g h : Heap} (H : AcP x dx ps k g h) : ∃ vs mA v, AcS h x dx vs mA ∧ mA "_initial_size" = some v ∧ handedIn v = true ∧ (vInt k).p g v := by
  obtain ⟨vs, mA, I, _, ⟨t, ht⟩, _⟩ := H
  exact ⟨vs, mA, _, I, ht, rfl, ⟨t, rfl⟩⟩
theorem onlyws_ok {x dx : Addr} {ps : List (Str × Str)} (hz : ∀ p ∈ ps, p.1.length + p.2.length ≤ 16777216) (hn : ps.length ≤ sizeLine) (hj : JoinOk "" (ps.map pairS) = true) (hfit : total ps < 2 ^ 63) : MOK w 5 167 (muA x dx ps 0) (AcP x dx ps 0) [vIs (.ref x)] (vBool (total ps == 0 || Txt.isspace (flat ps))) := by
  refine mfn_intro (ns := ["self"]) ow_B rfl lim_K AcP.sub ow_bind fun X A L s₀ R hA F hR => ?_
  show Bd w A X _ s₀ _ _ [.Return (some (.BoolOp .And [.Compare (.Attribute (.Name "self" _) "_initial_size" _) [.Eq] [.Constant (.int 0) _ _] _, .BoolOp .Or [.UnaryOp .Not (.Name "self" _) _, .Call (.Attribute (.Call (.Name "str" _) [.Name "self" _] [] _) "isspace" _) [] [] _] _] _)) _] R
  have self : ∀ p, EvM w A X (callEnvC (fdK w.params 167) L 167) s₀ ((["self"] : List Str).zip [vIs (.ref x)]) (muA x dx ps 0) (.Name "self" p) (muA x dx ps 0) (vIs (.ref x)) := fun p => em_ev (ev_name F.ok (.head _))
  have L1 : MOK w 1 145 (muA x dx ps 0) (AcP x dx ps 0) [vIs (.ref x)] (vInt (total ps)) := len_ok fun p hp => by have := hz p hp; omega
  have L2 : MOK w 1 152 (muA x dx ps 0) (AcP x dx ps 0) [vIs (.ref x)] (vStr (flat ps)) := str_ok hz hn hj
  have h0 := total_nonneg ps
  refine bd_retM (μ' := muA x dx ps 0) (em_andB (a := true) (b := (total ps == 0 || Txt.isspace (flat ps))) (μ₁ := muA x dx ps 0) (em_cmp (em_attrA (self _) fun g h H => acc_size H) (em_ev ev_int) op_eqI) (fun _ => em_orB (μ₁ := muA x dx ps 0) (em_notAcc (hA.mono (by decide)) (self _) L1 focA (by omega) (by omega)) (fun _ => em_isspace (em_strAcc hA F.ok (self _) L2 focA (by kernel_rfl))) fun _ => rfl) fun _ => rfl) rfl hR.r0
end
end Mine
end

section
open PySem PySem.Calls PyProof.Rows PySem.W
open PySem.Builtin PySem.Builtin.List PySem.Builtin.Str
set_option Elab.async false
set_option maxRecDepth 100000
set_option linter.unusedVariables false
namespace Mine
noncomputable section
variable {w : World} {A : Around} {X Y : List Addr} {env cenv : Env} {Γ : Ctxt} {s₀ : Shared} {μ μ' μ₁ μ₂ : Mu} {c : Code}

/-- where a formatter lies: itself, its dict, its line and the line's dict, its lines -/
structure FA where
  f : Addr
  df : Addr
  x : Addr
  dx : Addr
  l : Addr
noncomputable def fmNames : List Str := ["_maxlen", "_continuation_ws", "_continuation_ws_len", "_splitchars", "_lines", "_current_line"]
structure FmP (a : FA) (mx : Int) (sc : Str) (ps : List (Str × Str)) (ls : List Str) (g h : Heap) : Prop where
  ex : ∃ mA, Ins h a.f 94 a.df .plain mA ∧ Within mA fmNames ∧ (∃ t, mA "_maxlen" = some (.int mx t)) ∧ (∃ t, mA "_continuation_ws_len" = some (.int 1 t)) ∧ (∃ t, mA "_splitchars" = some (.str sc t)) ∧ mA "_lines" = some (.ref a.l) ∧ mA "_current_line" = some (.ref a.x)
  ac : AcP a.x a.dx ps 0 g h
  li : ∃ vs n, h.get? a.l = some { cls := .type "list", data := .seq vs n } ∧ All2 g (ls.map vStr) vs.toList
  dt : ∀ b ∈ [a.f, a.df, a.l], b ∉ [a.x, a.dx]
  dl : a.l ≠ a.f ∧ a.l ≠ a.df
variable {a : FA} {mx : Int} {sc : Str} {ps ps' : List (Str × Str)} {ls ls' : List Str}
theorem FmP.fr {g g' h h' : Heap} (hs : Sub g g') (hk : ∀ b ∈ [a.f, a.df, a.x, a.dx, a.l], ∀ o, h.get? b = some o → h'.get? b = some o) (H : FmP a mx sc ps ls g h) : FmP a mx sc ps ls g' h' := by
  obtain ⟨mA, I, hr⟩ := H.ex
  obtain ⟨vs, n, ho, hv⟩ := H.li
  refine ⟨⟨mA, I.at fun b hb => hk b ?_, hr⟩, H.ac.fr hs fun b hb => hk b ?_, ⟨vs, n, hk _ (by simp) _ ho, hv.st hs⟩, H.dt, H.dl⟩
  · simp only [List.mem_cons, List.not_mem_nil, or_false] at hb ⊢
    rcases hb with h | h <;> simp [h]
  · simp only [List.mem_cons, List.not_mem_nil, or_false] at hb ⊢
    rcases hb with h | h <;> simp [h]
noncomputable def muF (a : FA) (mx : Int) (sc : Str) (ps : List (Str × Str)) (ls : List Str) : Mu := ⟨[a.f, a.df, a.x, a.dx, a.l], FmP a mx sc ps ls, fun _ _ _ _ hs hk H => H.fr hs hk⟩
theorem FmP.sub : ∀ g g' h, Sub g g' → FmP a mx sc ps ls g h → FmP a mx sc ps ls g' h := fun g g' h hs H => H.fr hs fun b _ o e => e
/-- a method of the line's -/
theorem focF : Focus (muF a mx sc ps ls) (muA a.x a.dx ps 0) (AcP a.x a.dx ps' 0) (muF a mx sc ps' ls) where
  O := rfl
  sub := fun b hb => by
    have hb' : b ∈ [a.x, a.dx] := hb
    show b ∈ [a.f, a.df, a.x, a.dx, a.l]
    simp only [List.mem_cons, List.not_mem_nil, or_false] at hb' ⊢
    rcases hb' with h | h <;> simp [h]
  get := fun g h H => FmP.ac H
  put := fun g g' h h' H hs hk H' => by
    have H : FmP a mx sc ps ls g h := H
    have k : ∀ b ∈ [a.f, a.df, a.l], ∀ o, h.get? b = some o → h'.get? b = some o := fun b hb => hk b (by
      show b ∈ [a.f, a.df, a.x, a.dx, a.l]
      simp only [List.mem_cons, List.not_mem_nil, or_false] at hb ⊢
      rcases hb with h | h | h <;> simp [h]) (H.dt b hb)
    obtain ⟨mA, I, hr⟩ := H.ex
    obtain ⟨vs, n, ho, hv⟩ := H.li
    refine ⟨⟨mA, I.at fun b hb => k b ?_, hr⟩, H', ⟨vs, n, k _ (by simp) _ ho, hv.st hs⟩, H.dt, H.dl⟩
    simp only [List.mem_cons, List.not_mem_nil, or_false] at hb ⊢
    rcases hb with h | h <;> simp [h]
theorem fm_line {g h : Heap} (H : FmP a mx sc ps ls g h) : ∃ mA v, Ins h a.f 94 a.df .plain mA ∧ mA "_current_line" = some v ∧ handedIn v = true ∧ (vIs (.ref a.x)).p g v := by
  obtain ⟨mA, I, _, _, _, _, _, h2⟩ := H.ex
  exact ⟨mA, _, I, h2, rfl, rfl⟩
theorem fm_lines {g h : Heap} (H : FmP a mx sc ps ls g h) : ∃ mA v, Ins h a.f 94 a.df .plain mA ∧ mA "_lines" = some v ∧ handedIn v = true ∧ (vIs (.ref a.l)).p g v := by
  obtain ⟨mA, I, _, _, _, _, h1, _⟩ := H.ex
  exact ⟨mA, _, I, h1, rfl, rfl⟩
theorem fm_max {g h : Heap} (H : FmP a mx sc ps ls g h) : ∃ mA v, Ins h a.f 94 a.df .plain mA ∧ mA "_maxlen" = some v ∧ handedIn v = true ∧ (vInt mx).p g v := by
  obtain ⟨mA, I, _, ⟨t, ht⟩, _⟩ := H.ex
  exact ⟨mA, _, I, ht, rfl, ⟨t, rfl⟩⟩
theorem fm_cwl {g h : Heap} (H : FmP a mx sc ps ls g h) : ∃ mA v, Ins h a.f 94 a.df .plain mA ∧ mA "_continuation_ws_len" = some v ∧ handedIn v = true ∧ (vInt 1).p g v := by
  obtain ⟨mA, I, _, _, ⟨t, ht⟩, _⟩ := H.ex
  exact ⟨mA, _, I, ht, rfl, ⟨t, rfl⟩⟩
theorem fm_sc {g h : Heap} (H : FmP a mx sc ps ls g h) : ∃ mA v, Ins h a.f 94 a.df .plain mA ∧ mA "_splitchars" = some v ∧ handedIn v = true ∧ (vStr sc).p g v := by
  obtain ⟨mA, I, _, _, _, ⟨t, ht⟩, _⟩ := H.ex
  exact ⟨mA, _, I, ht, rfl, ⟨t, rfl⟩⟩
theorem fv_line : valueIn (K' w.params) 94 "_current_line" = true := by kernel_rfl
theorem fv_lines : valueIn (K' w.params) 94 "_lines" = true := by kernel_rfl
theorem fv_max : valueIn (K' w.params) 94 "_maxlen" = true := by kernel_rfl
theorem fv_cwl : valueIn (K' w.params) 94 "_continuation_ws_len" = true := by kernel_rfl
theorem fv_sc : valueIn (K' w.params) 94 "_splitchars" = true := by kernel_rfl
end
end Mine
end

section
open PySem PySem.Calls PyProof.Rows PySem.W
open PySem.Builtin PySem.Builtin.Str PySem.SeqAt
set_option Elab.async false
set_option maxRecDepth 100000
set_option linter.unusedVariables false
namespace Mine
noncomputable section
variable {w : World} {A : Around} {X Y : List Addr} {env cenv : Env} {Γ : Ctxt} {s₀ : Shared} {μ μ' μ₁ μ₂ : Mu} {c : Code}

/-- two pairs of strings -/
theorem op_nePP {a b u v : Str} (hA : A.units + 64 < cLine) (ha : PyData.strOk a = true) (hb : PyData.strOk b = true) (hu : PyData.strOk u = true) (hv : PyData.strOk v = true) :
    Op2 w A (compareOp .NotEq) (vTup [vStr a, vStr b]) (vTup [vStr u, vStr v]) (vBool (!(PySem.Spec.same (.tuple [.str a, .str b]) (.tuple [.str u, .str v])))) := by
  intro X s E Q x y I B h1 h2 k
  obtain ⟨x, o, n, vs, rfl, ho, hc, hd, hAl, _⟩ := seq_get h1
  obtain ⟨y, o', n', vs', rfl, ho', hc', hd', hAl', _⟩ := seq_get h2
  have hr : Reads s.heap (.ref x) (.tuple ([a, b].map PyData.str)) [] := .tuple ho hc hd (StrsAre.reads s.heap (strs_are (ns := [a, b]) hAl))
  have hr' : Reads s.heap (.ref y) (.tuple ([u, v].map PyData.str)) [] := .tuple ho' hc' hd' (StrsAre.reads s.heap (strs_are (ns := [u, v]) hAl'))
  have sh : ∀ {a b : Str}, PyData.strOk a = true → PyData.strOk b = true → shaped (.tuple ([a, b].map PyData.str)) = true := by
    intro a b ha hb
    unfold shaped
    rw [Bool.and_eq_true]
    refine ⟨?_, ?_⟩
    · have : PyData.canLayAll0 ([a, b].map PyData.str) = true := by
        rw [canLayAll_strs', List.all_eq_true]
        intro y hy
        rcases List.mem_cons.mp hy with rfl | hy
        · exact ha
        · rw [List.mem_singleton.mp hy]; exact hb
      simpa [PyData.canLay0] using this
    · rfl
  refine ne_dataH_same hr hr' (sh ha hb) (sh hu hv) hA (by rfl) (k _ _ I (Gr.refl _) rfl)
end
end Mine
end

section
open PySem PySem.Calls PyProof.Rows PySem.W
open PySem.Builtin PySem.Builtin.List PySem.Builtin.Str
set_option Elab.async false
set_option maxRecDepth 100000
set_option linter.unusedVariables false
namespace Mine
noncomputable section
variable {w : World} {A : Around} {X Y : List Addr} {env cenv : Env} {Γ : Ctxt} {s₀ : Shared} {μ μ' μ₁ μ₂ : Mu} {c : Code}

theorem notiter_tuple {s : Shared} {b : Addr} {o : Obj} {E : Value → Shared → Prop} {Q : Bool → Shared → Prop} (hb : s.heap.get? b = some o) (hc : o.cls = .type "tuple") (h : Q false s) : wpAny (model PG w) A (notIterableAtAll (.ref b)) Q E s := by
  unfold notIterableAtAll
  refine wpAny_bind (wpAny_specialOf (T := "tuple") (name := Str.ofString "__iter__") ⟨o, hb, hc⟩ PySem.F.slot_tuple_iter.lookup ?_)
  exact wpAny_pure h
/-- f(*e), e a tuple -/
theorem evalArgs_star {f : Value} {pos : Pos} {e : Expr} {p : Pos} {ps : List VP} {s : Shared} {E : Value → Shared → Prop} {Q : Args → Shared → Prop} (he : EvM w A X env s₀ Γ μ e μ (vTup ps)) (S : St w env X s₀ μ Γ s) (hz : ps.length ≤ sizeLine)
    (k : ∀ vs s', St w env X s₀ μ Γ s' → Sub (hideAll s.heap X) (hideAll s'.heap X) → All2 (hideAll s'.heap X) ps vs → Q ⟨vs, []⟩ s') : wpAny (model PG w) A (evalArgs f true (backTo pos (starEach [.Starred e p] env)) []) Q E s := by
  show wpAny (model PG w) A (evalArgs f true [(true, do let v ← PySem.eval e env; standAt pos; pure v)] []) Q E s
  unfold evalArgs
  refine wpAny_bind (wpAny_bind (he s E _ S fun v s1 S1 hs1 hv => wpAny_bind (wpAny_standAt (wpAny_pure (wpAny_bind (wpAny_pure ?_))))))
  obtain ⟨b, o, n, vs, rfl, ho, hc, hd, hAl, _⟩ := seq_get hv
  have hsz : vs.size = ps.length := by have := hAl.length; simpa using this
  refine wpAny_holding ?_
  refine wpAny_bind (wpAny_pure ?_)
  refine wpAny_bind ?_
  refine wpAny_bind (notiter_tuple ho hc ?_)
  show wpAny (model PG w) A (holding [] (collect (.ref b))) _ _ _
  refine wpAny_holding ?_
  refine wpAny_collect_seq b (.inr rfl) ho hc hd (fun h' hk => ?_) (by omega)
  have S2 := S1.step (s' := { s1 with heap := h' }) (S1.inv.keeps s1.toks hk) (Gr.keeps s1.toks hk)
  have hs2 : Sub (hideAll s1.heap X) (hideAll h' X) := hid_sub S1.bel (Gr.keeps s1.toks hk)
  exact wpAny_pure (k _ _ S2 (hs1.trans hs2) (hAl.st hs2))
end
end Mine
end

section
open PySem PySem.Calls PyProof.Rows PySem.W
open PySem.Builtin PySem.Builtin.List PySem.Builtin.Str
set_option Elab.async false
set_option maxRecDepth 100000
set_option linter.unusedVariables false
namespace Mine
noncomputable section
variable {w : World} {A : Around} {X Y : List Addr} {env cenv : Env} {Γ : Ctxt} {s₀ : Shared} {μ μ' μ₁ μ₂ : Mu} {c : Code}

theorem callWith_fnS {pos : Pos} {f : Addr} {e : Expr} {p : Pos} {Q : Value → Shared → Prop} {E : Value → Shared → Prop} {s : Shared} {first : List Value} (hf : isFnK w.params f = true) (h1 : f ≠ T1) (h2 : f ≠ T2)
    (h : wpAny (model PG w) A (evalArgs (.ref f) true (backTo pos (starEach [.Starred e p] env)) []) (fun v s₁ => Inv w s₁ ∧ wpAny (model PG w) A (call (.ref f) (first ++ v.pos) v.kw) Q E s₁) E s) :
    wpAny (model PG w) A (callWith pos (.ref f) first (backTo pos (starEach [.Starred e p] env)) []) Q E s := by
  unfold callWith
  refine wpAny_bind (wpAny_holding (wpAny_mono h (fun av s₁ h₁ => wpAny_bind (wpAny_standAt ?_)) fun _ _ x => x))
  obtain ⟨I, hc⟩ := h₁
  have hp2 : ((backTo pos (starEach [.Starred e p] env)).any (·.1) || ([] : List (Option Str × Sem Value)).any (·.1.isNone)) = true := rfl
  simp only [hp2]
  refine wpAny_bind (looks_frame I h1 h2 hf ?_)
  have tail : ∀ {t : Sem Value}, wpAny (model PG w) A t Q E s₁ → wpAny (model PG w) A (t >>= fun r => holding [r] point >>= fun _ => pure r) Q E s₁ :=
    fun ht => wpAny_bind (wpAny_mono ht (fun r s₂ hr => wpAny_bind (wpAny_holding (wpAny_point (wpAny_pure hr)))) fun _ _ x => x)
  have marked (mk : Value) : wpAny (model PG w) A (callMarked mk (.ref f) (first ++ av.pos) av.kw) Q E s₁ := by unfold callMarked; exact Calls.wpAny_keep hc
  exact tail (marked _)
/-- o.name(*e) -/
theorem em_mcallS {o e : Expr} {name : Str} {apos pos p : Pos} {x C dx f : Addr} {n : Nat} {Φ₁ : Heap → Heap → Prop} {ps : List VP} {r : VP} (hA : Rm A n) (ho : EvM w A X env s₀ Γ μ o μ (vIs (.ref x))) (ha : EvM w A X env s₀ Γ μ e μ (vTup ps)) (hz : ps.length ≤ sizeLine)
    (hI : ∀ g h, μ.Φ g h → ∃ dt mA, Ins h x C dx dt mA ∧ (∀ c, dt ≠ .cls c) ∧ mA name = none) (hm : methB (K' w.params) C name (.ref f) = true) (Cn : MOK w n f μ₁ Φ₁ (vIs (.ref x) :: ps) r) (Fc : Focus μ μ₁ Φ₁ μ')
    (hf : isFnK w.params f = true) (h1 : f ≠ T1 := by decide) (h2 : f ≠ T2 := by decide)
    (pl : Sem Bool := do return (← importBound o env).getD true)
    (he : eval (.Call (.Attribute o name apos) [.Starred e p] [] pos) env = (do
      let ov ← eval o env
      standAt apos.atName
      let (f, first) ← holding [ov] (getMethod ov name pl)
      callWith pos f first (backTo pos (starEach [.Starred e p] env)) (backToKw pos (keywordEach [] env))) := by rfl) :
    EvM w A X env s₀ Γ μ (.Call (.Attribute o name apos) [.Starred e p] [] pos) μ' r := fun s E Q S k =>
  methodCall_KW (pl := pl) (ho s E _ S fun v s1 S1 hs1 hp => by
    have hp' : v = .ref x := hp
    subst hp'
    obtain ⟨dt, mA, J, hn, hv⟩ := hI _ _ S1.mu
    refine getMethod_any S1.inv J hn hm hv ?_
    refine callWith_fnS hf h1 h2 (evalArgs_star ha S1 hz fun vs s2 S2 hs2 hA2 => ⟨S2.inv, ?_⟩)
    exact st_call hA Cn Fc S2 ⟨rfl, hA2⟩ fun v s3 S3 hs3 hr => k v s3 S3 ((hs1.trans hs2).trans hs3) hr) he
end
end Mine
end

section
open PySem PySem.Calls PyProof.Rows PySem.W
open PySem.Builtin PySem.Builtin.List PySem.Builtin.Str
set_option Elab.async false
set_option maxRecDepth 100000
set_option linter.unusedVariables false
namespace Mine
noncomputable section
variable {w : World} {A : Around} {X Y : List Addr} {env cenv : Env} {Γ : Ctxt} {s₀ : Shared} {μ μ' μ₁ μ₂ : Mu} {c : Code}
variable {a : FA} {mx : Int} {sc : Str} {ps ps' : List (Str × Str)} {ls ls' : List Str}

theorem meths_list {l : Addr} {vs : Array Value} {n : Nat} {s : Shared} (h : s.heap.get? l = some { cls := .type "list", data := .seq vs n }) : s.TypeIs (.ref l) "list" ∧ (∀ a, Value.ref l = .ref a → ∃ ob, s.heap.get? a = some ob ∧ ob.dict = none) :=
  ⟨⟨_, h, rfl⟩, fun a e => by injection e with e; exact ⟨_, e ▸ h, rfl⟩⟩
/-- the lines get one more -/
theorem lines_append {s : Shared} {v : Value} {m : Str} {E Q : Value → Shared → Prop} (S : St w env X s₀ (muF a mx sc ps ls) Γ s) (hv : (vStr m).p (hideAll s.heap X) v) (hz : ls.length < 1000000)
    (k : ∀ s', St w env X s₀ (muF a mx sc ps (ls ++ [m])) Γ s' → Sub (hideAll s.heap X) (hideAll s'.heap X) → Q .none s') : wpAny (model PG w) A (call (.builtin "list.append") [.ref a.l, v]) Q E s := by
  have H : FmP a mx sc ps ls (hideAll s.heap X) s.heap := S.mu
  obtain ⟨vs, n, ho, hAl⟩ := H.li
  have hsz : vs.size = ls.length := by have := hAl.length; simpa using this
  have hl : a.l ∈ (muF a mx sc ps ls).O := by show a.l ∈ [a.f, a.df, a.x, a.dx, a.l]; simp
  refine call_meets slot_list_append (T := "list") ⟨_, ho, rfl⟩ entry_list_append (args_list_append _ _) (S := fun _ R s' => s'.heap.get? a.l = some { cls := .type "list", data := .seq vs n } ∧ R (.ok (.ret Value.none)) { s' with heap := s'.heap.update a.l (Obj.mapSeq fun x_1 => x_1.push v) })
    (Meets.of_wp fun prog w A R s' hq => by
      show wpAny _ _ (updateSeq a.l (·.push v) >>= fun _ => ret .none) _ _ s'
      exact wpAny_bind (wpAny_updateSeq hq.1 rfl (wpAny_pure ⟨.none, rfl, hq.2⟩) (by rw [sizeLine_eq]; omega) (by rw [Array.size_push, sizeLine_eq]; omega))) ⟨ho, ?_⟩
  have hb : Heap.SameBut a.l s.heap (s.heap.update a.l (Obj.mapSeq fun x_1 => x_1.push v)) := Heap.SameBut.update ..
  have hget := Heap.get?_update_self (Obj.mapSeq fun x_1 => x_1.push v) ho rfl
  obtain ⟨S3, hs⟩ := st_upd (μ' := muF a mx sc ps (ls ++ [m])) S hl hb ⟨_, hget⟩ s.toks rfl fun hs => by
    have kp : ∀ b, b ≠ a.l → ∀ o, s.heap.get? b = some o → (s.heap.update a.l (Obj.mapSeq fun x_1 => x_1.push v)).get? b = some o := fun b hne o e => (hb.2 b hne).trans e
    obtain ⟨mA, I, hr⟩ := H.ex
    have nl := H.dt a.l (by simp)
    refine ⟨⟨mA, I.at fun b hb' => kp b fun e => ?_, hr⟩, H.ac.fr hs fun b hb' => kp b fun e => nl (e ▸ hb'), ⟨vs.push v, _, hget, ?_⟩, H.dt, H.dl⟩
    · subst e
      rcases List.mem_cons.mp hb' with e | e
      · exact H.dl.1 e
      · exact H.dl.2 (List.mem_singleton.mp e)
    · have h1 : (vs.push v).toList = vs.toList ++ [v] := by simp
      rw [List.map_append, h1]
      exact (hAl.st hs).append ⟨(vStr m).st _ _ _ hs hv, trivial⟩
  exact k _ S3 hs
end
end Mine
end

section
open PySem PySem.Calls PyProof.Rows PySem.W
open PySem.Builtin PySem.Builtin.List PySem.Builtin.Str
set_option Elab.async false
set_option maxRecDepth 100000
set_option linter.unusedVariables false
namespace Mine
noncomputable section
variable {w : World} {A : Around} {X Y : List Addr} {env cenv : Env} {Γ : Ctxt} {s₀ : Shared} {μ μ' μ₁ μ₂ : Mu} {c : Code}
variable {a : FA} {mx : Int} {sc : Str} {ps ps' : List (Str × Str)} {ls ls' : List Str}

/-- self._current_line -/
theorem em_line {p0 pos : Pos} (hE : EnvOk env) (hx : (("self" : Str), vIs (.ref a.f)) ∈ Γ) : EvM w A X env s₀ Γ (muF a mx sc ps ls) (.Attribute (.Name "self" p0) "_current_line" pos) (muF a mx sc ps ls) (vIs (.ref a.x)) :=
  em_attrF (dt := .plain) (dx := a.df) (em_ev (ev_name hE hx)) (by intro c; simp) (fun g h H => fm_line H) fv_line
theorem em_lines {p0 pos : Pos} (hE : EnvOk env) (hx : (("self" : Str), vIs (.ref a.f)) ∈ Γ) : EvM w A X env s₀ Γ (muF a mx sc ps ls) (.Attribute (.Name "self" p0) "_lines" pos) (muF a mx sc ps ls) (vIs (.ref a.l)) :=
  em_attrF (dt := .plain) (dx := a.df) (em_ev (ev_name hE hx)) (by intro c; simp) (fun g h H => fm_lines H) fv_lines
theorem tm_bool {e : Expr} {b : Bool} (h : EvM w A X env s₀ Γ μ e μ' (vBool b)) (he : ∀ whole : Sem Value, isTrue e env whole = (do let v ← whole; standAt e.pos; holding [v] (truthy v)) := by intro _; rfl) : TeM w A X env s₀ Γ μ e μ' b :=
  fun s E Q S k => wpAny_isTrue_value (h s E _ S fun v s1 S1 _ hp => by
    have hp' : v = .bool b := hp
    subst hp'
    exact wpAny_truthy_bool (k s1 S1)) (he _)
end
end Mine
end

section
open PySem PySem.Calls PyProof.Rows PySem.W
open PySem.Builtin PySem.Builtin.List PySem.Builtin.Str
set_option Elab.async false
set_option maxRecDepth 100000
set_option linter.unusedVariables false
namespace Mine
noncomputable section
variable {w : World} {A : Around} {X Y : List Addr} {env cenv : Env} {Γ : Ctxt} {s₀ : Shared} {μ μ' μ₁ μ₂ : Mu} {c : Code}
variable {a : FA} {mx : Int} {sc : Str} {ps ps' : List (Str × Str)} {ls ls' : List Str}

theorem m_pop : methB (K' w.params) 178 "pop" (.ref 138) = true := by kernel_rfl
theorem m_push : methB (K' w.params) 178 "push" (.ref 122) = true := by kernel_rfl
theorem m_reset : methB (K' w.params) 178 "reset" (.ref 160) = true := by kernel_rfl
theorem m_ow : methB (K' w.params) 178 "is_onlyws" (.ref 167) = true := by kernel_rfl
theorem f_pop : isFnK w.params 138 = true := by kernel_rfl
theorem f_push : isFnK w.params 122 = true := by kernel_rfl
theorem f_reset : isFnK w.params 160 = true := by kernel_rfl
theorem f_ow : isFnK w.params 167 = true := by kernel_rfl
theorem nl_B : defB w.params 56 ["self"] = true := by kernel_rfl
theorem nl_bind (vs : List Value) (h : vs.length = 1) : bindArgs (fdK w.params 56) ⟨vs, []⟩ = pure ((["self"] : List Str).zip vs) := by
  match vs, h with
  | [a], _ => kernel_rfl
theorem nl_first {p : Str × Str} {p0 p1 p2 p3 p4 p5 : Pos} {rest : List Stmt} {R : Flow → Shared → Prop} (hA : Rm A 2) (F : Fn w env X) (hx : (("self" : Str), vIs (.ref a.f)) ∈ Γ) (hz : ps.length < 1000000) (hs : stB env "end_of_line" = true)
    (k : Bd w A X env s₀ (muF a mx sc ps ls) (("end_of_line", vPart p) :: dropN "end_of_line" Γ) rest R) (he : eval (.Call (.Attribute (.Attribute (.Name "self" p0) "_current_line" p1) "pop" p2) [] [] p3) env = (do
      let ov ← eval (.Attribute (.Name "self" p0) "_current_line" p1) env
      standAt p2.atName
      let (f, first) ← holding [ov] (getMethod ov "pop" (do return (← importBound (.Attribute (.Name "self" p0) "_current_line" p1) env).getD true))
      callWith p3 f first (backTo p3 (starEach [] env)) (backToKw p3 (keywordEach [] env))) := by rfl) :
    Bd w A X env s₀ (muF a mx sc (ps ++ [p]) ls) Γ (.Assign [.Name "end_of_line" p4] (.Call (.Attribute (.Attribute (.Name "self" p0) "_current_line" p1) "pop" p2) [] [] p3) p5 :: rest) R := by
  refine bd_assignM (μ' := muF a mx sc ps ls) (p := vPart p) F (acc_mcall (x := a.x) (dx := a.dx) (pp := ps ++ [p]) (k := 0) hA (em_line F.ok hx) elm_nil (fun g h H => FmP.ac H) (by decide) m_pop (pop_ok hz) focF f_pop (he := he)) k hs (by rfl)
theorem nl_test {p : Str × Str} {p0 p1 p2 p3 p4 : Pos} {k1 k2 k3 : Nat} (hA : A.units + 64 < cLine) (hE : EnvOk env) (hx : (("end_of_line" : Str), vPart p) ∈ Γ) (h1 : PyData.strOk p.1 = true) (h2 : PyData.strOk p.2 = true) (hp : PySem.Spec.same (.tuple [.str p.1, .str p.2]) (.tuple [.str " ", .str ""]) = false) :
    TeM w A X env s₀ Γ μ (.Compare (.Name "end_of_line" p0) [.NotEq] [.Tuple [.Constant (.str " ") k1 p1, .Constant (.str "") k2 p2] k3 p3] p4) μ true := by
  have h := op_nePP (w := w) hA h1 h2 (u := " ") (v := "") (by decide +kernel) (by decide +kernel)
  rw [hp] at h
  exact tm_cmp (em_ev (ev_name hE hx)) (em_ev (ev_tup (evl_cons ev_str (evl_cons ev_str evl_nil)))) h
theorem nl_push {p : Str × Str} {p0 p1 p2 p3 p4 p5 : Pos} (hA : Rm A 1) (hE : EnvOk env) (hx : (("self" : Str), vIs (.ref a.f)) ∈ Γ) (hy : (("end_of_line" : Str), vPart p) ∈ Γ) (hz : ps.length < 1000000)
    (he : eval (.Call (.Attribute (.Attribute (.Name "self" p0) "_current_line" p1) "push" p2) [.Starred (.Name "end_of_line" p4) p5] [] p3) env = (do
      let ov ← eval (.Attribute (.Name "self" p0) "_current_line" p1) env
      standAt p2.atName
      let (f, first) ← holding [ov] (getMethod ov "push" (do return (← importBound (.Attribute (.Name "self" p0) "_current_line" p1) env).getD true))
      callWith p3 f first (backTo p3 (starEach [.Starred (.Name "end_of_line" p4) p5] env)) (backToKw p3 (keywordEach [] env))) := by rfl) :
    EvM w A X env s₀ Γ (muF a mx sc ps ls) (.Call (.Attribute (.Attribute (.Name "self" p0) "_current_line" p1) "push" p2) [.Starred (.Name "end_of_line" p4) p5] [] p3) (muF a mx sc (ps ++ [p]) ls) vNone :=
  em_mcallS (x := a.x) (C := 178) (dx := a.dx) (ps := [vStr p.1, vStr p.2]) hA (em_line hE hx) (em_ev (ev_name hE hy)) (show 2 ≤ sizeLine by decide) (fun g h H => AcP.ins (by decide) g h (FmP.ac H)) m_push (push_ok hz) focF f_push (pl := do return (← importBound (.Attribute (.Name "self" p0) "_current_line" p1) env).getD true) (he := he)
end
end Mine
end

section
open PySem PySem.Calls PyProof.Rows PySem.W
open PySem.Builtin PySem.Builtin.List PySem.Builtin.Str
set_option Elab.async false
set_option maxRecDepth 100000
set_option linter.unusedVariables false
namespace Mine
noncomputable section
variable {w : World} {A : Around} {X Y : List Addr} {env cenv : Env} {Γ : Ctxt} {s₀ : Shared} {μ μ' μ₁ μ₂ : Mu} {c : Code}
variable {a : FA} {mx : Int} {sc : Str} {ps ps' : List (Str × Str)} {ls ls' : List Str}

/-- what is asked of a line's parts -/
structure LineOk (ps : List (Str × Str)) : Prop where
  z : ∀ p ∈ ps, p.1.length + p.2.length ≤ 16777216
  n : ps.length < 1000000
  j : JoinOk "" (ps.map pairS) = true
  t : total ps < 2 ^ 40
theorem LineOk.l (H : LineOk ps) (x dx : Addr) : MOK w 1 145 (muA x dx ps 0) (AcP x dx ps 0) [vIs (.ref x)] (vInt (total ps)) := len_ok fun p hp => by have := H.z p hp; omega
theorem LineOk.s (H : LineOk ps) (x dx : Addr) : MOK w 1 152 (muA x dx ps 0) (AcP x dx ps 0) [vIs (.ref x)] (vStr (flat ps)) := str_ok H.z (by have := H.n; rw [sizeLine_eq]; omega) H.j
theorem LineOk.ow (H : LineOk ps) (x dx : Addr) : MOK w 5 167 (muA x dx ps 0) (AcP x dx ps 0) [vIs (.ref x)] (vBool (total ps == 0 || Txt.isspace (flat ps))) := onlyws_ok H.z (by have := H.n; rw [sizeLine_eq]; omega) H.j (by have := H.t; omega)
/-- len(self._current_line) -/
theorem em_lenLine {p0 p1 p2 np : Pos} (hA : Rm A 2) (hE : EnvOk env) (hx : (("self" : Str), vIs (.ref a.f)) ∈ Γ) (H : LineOk ps) (hk : env.kindOf "len" = some .globalImplicit) :
    EvM w A X env s₀ Γ (muF a mx sc ps ls) (.Call (.Name "len" np) [.Attribute (.Name "self" p0) "_current_line" p1] [] p2) (muF a mx sc ps ls) (vInt (total ps)) :=
  em_lenAcc (n := 1) hA hE (em_line hE hx) (H.l a.x a.dx) focF (by have := total_nonneg ps; omega) (by have := H.t; omega) hk
/-- str(self._current_line) -/
theorem em_strLine {p0 p1 p2 np : Pos} (hA : Rm A 4) (hE : EnvOk env) (hx : (("self" : Str), vIs (.ref a.f)) ∈ Γ) (H : LineOk ps) (hk : env.kindOf "str" = some .globalImplicit) :
    EvM w A X env s₀ Γ (muF a mx sc ps ls) (.Call (.Name "str" np) [.Attribute (.Name "self" p0) "_current_line" p1] [] p2) (muF a mx sc ps ls) (vStr (flat ps)) :=
  em_strAcc (n := 1) hA hE (em_line hE hx) (H.s a.x a.dx) focF hk
end
end Mine
end

section
open PySem PySem.Calls PyProof.Rows PySem.W
open PySem.Builtin PySem.Builtin.List PySem.Builtin.Str
set_option Elab.async false
set_option maxRecDepth 100000
set_option linter.unusedVariables false
namespace Mine
noncomputable section
variable {w : World} {A : Around} {X Y : List Addr} {env cenv : Env} {Γ : Ctxt} {s₀ : Shared} {μ μ' μ₁ μ₂ : Mu} {c : Code}
variable {a : FA} {mx : Int} {sc : Str} {ps ps' : List (Str × Str)} {ls ls' : List Str}
theorem lines_is {s : Shared} {v : Value} (S : St w env X s₀ (muF a mx sc ps ls) Γ s) (hv : (vIs (.ref a.l)).p (hideAll s.heap X) v) : s.TypeIs v "list" ∧ (∀ b, v = .ref b → ∃ ob, s.heap.get? b = some ob ∧ ob.dict = none) := by
  have H : FmP a mx sc ps ls (hideAll s.heap X) s.heap := S.mu
  obtain ⟨vs, n, ho, _⟩ := H.li
  have hv' : v = .ref a.l := hv
  subst hv'
  exact meths_list ho
/-- self._lines.append(e) -/
theorem em_addLine {e : Expr} {m : Str} {p0 p1 p2 p3 : Pos} (hE : EnvOk env) (hx : (("self" : Str), vIs (.ref a.f)) ∈ Γ) (he : EvM w A X env s₀ Γ (muF a mx sc ps ls) e (muF a mx sc ps ls) (vStr m)) (hz : ls.length < 1000000)
    (hst : ∀ env, starEach [e] env = (false, eval e env) :: starEach [] env) (hplain : (backTo p3 (starEach [e] env)).any (·.1) = false)
    (hbase : attributeBase (.Attribute (.Name "self" p0) "_lines" p1) "append" env (eval (.Attribute (.Name "self" p0) "_lines" p1) env) = eval (.Attribute (.Name "self" p0) "_lines" p1) env)
    (hfew : ((backTo p3 (starEach [e] env)).all (fun x => !x.1) && (backToKw p3 (keywordEach [] env)).all (fun x => x.1.isSome)
      && decide ([e].length + ([] : List Keyword).length + (if ([] : List Keyword).isEmpty then 0 else 1) < 30)) = true)
    (hline : (p2.endLine == p3.line) = true) :
    EvM w A X env s₀ Γ (muF a mx sc ps ls) (.Call (.Attribute (.Attribute (.Name "self" p0) "_lines" p1) "append" p2) [e] [] p3) (muF a mx sc ps (ls ++ [m])) vNone :=
  em_meth (T := "list") (id := "list.append") (em_lines hE hx) (elm_cons he elm_nil hst) PySem.F.plainAttrs_list PySem.F.slot_list_append PySem.type_list_append (fun s v S hv => lines_is S hv)
    (fun s E Q v vs S hv hA2 k => by
      have hv' : v = .ref a.l := hv
      subst hv'
      obtain ⟨u, rfl, hu⟩ := all1 hA2
      exact lines_append S hu hz fun s' S' hs' => k _ s' S' hs' rfl) hplain hbase hfew hline
end
end Mine
end

section
open PySem PySem.Calls PyProof.Rows PySem.W
open PySem.Builtin PySem.Builtin.List PySem.Builtin.Str
set_option Elab.async false
set_option maxRecDepth 100000
set_option linter.unusedVariables false
namespace Mine
noncomputable section
variable {w : World} {A : Around} {X Y : List Addr} {env cenv : Env} {Γ : Ctxt} {s₀ : Shared} {μ μ' μ₁ μ₂ : Mu} {c : Code}
variable {a : FA} {mx : Int} {sc : Str} {ps ps' : List (Str × Str)} {ls ls' : List Str}

/-- a def read off an accumulator: a bound method -/
theorem getAttr_accM {s : Shared} {x dx f : Addr} {vs : Array Value} {mA : Str → Option Value} {name : Str} {expr : Bool} {E Q : Value → Shared → Prop} (Iv : Inv w s) (I : AcS s.heap x dx vs mA)
    (hf : findIn (K' w.params) (.ref 178) name = some (some (.ref f))) (hg : specialIn (K' w.params) (.ref f) "__get__" = some (some (.builtin "function.__get__"))) (ht : takesIn (K' w.params) (.ref f) = some false) (hty : typeIn (K' w.params) (.ref f) = some (.type "function"))
    (hcn : copiedNames.contains name = false) (hd : hasDictIn (K' w.params) 178 = true) (hv : mA name = none)
    (h : Q (.ref s.heap.objs.size) { s with toks := s.toks + 1, heap := s.heap.push (methodObj (.ref f) (.ref x)) }) : wpAny (model PG w) A (getAttr (.ref x) name expr) Q E s := by
  obtain ⟨n, J₀⟩ := id I
  obtain ⟨o, J, hl⟩ := J₀.kit (by intro c; simp)
  have Kn := Iv.kin
  have fo : findObj (K' w.params) 178 (some o) name = some (.bind (.builtin "function.__get__") (.ref f)) := findObj_fn hd hf hg ht hcn (by rw [hl, hv])
  have L0 := J.type (M := model PG w)
  have L1 := looks_findIn (M := model PG w) Kn (acc_ga (w := w))
  have L2 := looks_findIn (M := model PG w) Kn (acc_gat (w := w))
  have L3 := looks_find (M := model PG w) Kn J fo
  have L4 := acc_sub Iv I
  obtain ⟨hh', g, d, t, os⟩ := s
  dsimp only at L0 L1 L2 L3 h
  have Iv' : Inv w ⟨hh', g, d, t + 1, os⟩ := Iv.tok (t + 1)
  have I' : AcS (Shared.heap ⟨hh', g, d, t + 1, os⟩) x dx vs mA := I
  have ka : builtinKind "list.__getattribute__" = some .slot ∨ builtinKind "list.__getattribute__" = some .method := .inl (by decide +kernel)
  have kb : splitId "list.__getattribute__" = some ("list", "__getattribute__") := by decide +kernel
  unfold getAttr getAttrBy
  refine wpAny_bind (wpAny_mkText (wpAny_holding (wpAny_bind (L0.at (wpAny_bind (L1.at ?_))))))
  show wpAny _ _ (getAttrByItsOwn _ _ _ _ _ _) _ _ _
  unfold getAttrByItsOwn
  refine wpAny_bind ((show Looks (model PG w) hh' (hookBefore (.ref 178)) none from L2).at ?_)
  refine wpAny_bind (wpAny_attempt ?_)
  refine wpAny_holding ?_
  show wpAny _ _ (callGetattribute _ _ _ _) _ _ _
  unfold callGetattribute
  rw [if_neg (by cases expr <;> simp [onTheHeap])]
  unfold boundAndCalled
  rw [PySem.F.slot_list_getattribute.bind]
  refine wpAny_bind (wpAny_pure ?_)
  show wpAny _ _ (call (.builtin "list.__getattribute__") [.ref x, .str name t]) _ _ _
  refine wpAny_call ?_
  refine codeAny_call_builtin PySem.F.slot_list_getattribute.plain PySem.F.entry_list_ga ?_
  refine acc_check (id := "list.__getattribute__") (n := "__getattribute__") (rest := [.str name t]) Iv' I' ka kb (PySem.F.args_list_getattribute_2 _ _) ?_
  unfold Builtin.«object.__getattribute__»
  refine wpAny_bind (wpAny_of_eq (show slotArgs "__getattribute__" 1 ⟨[.ref x, .str name t], []⟩ = pure (.ref x, [.str name t]) from by kernel_rfl) ?_)
  dsimp only
  refine wpAny_bind (wpAny_of_eq (show Builtin.ObjectAttr.attrName (.str name t) = pure name from by kernel_rfl) ?_)
  refine wpAny_bind (L0.at (wpAny_bind (L3.at ?_)))
  show wpAny _ _ (holding [.ref f] (call (.builtin "function.__get__") [.ref f, .ref x, .ref 178]) >>= ret) _ _ _
  refine wpAny_bind (wpAny_holding (wpAny_call (fn_get (s := ⟨hh', g, d, t + 1, os⟩) Kn hty ?_)))
  refine wpAny_pure ?_
  show wpAny _ _ (handedOut _) _ _ _
  rw [handedOut_of (by rfl)]
  exact wpAny_pure h

theorem keeper_bound {s : Shared} {q f x : Addr} {E : Value → Shared → Prop} {Q : Keeper → Shared → Prop} (I : Inv w s) (hq : s.heap.get? q = some (methodObj (.ref f) (.ref x))) (h1 : f ≠ T1) (h2 : f ≠ T2) (e : isFnK w.params f = true) (h : Q .boundFrame s) : wpAny (model PG w) A (keeperOf (.ref q)) Q E s := by
  unfold isFnK at e
  split at e
  · rename_i q'
    unfold keeperOf
    refine wpAny_bind (wpAny_load hq ?_)
    show wpAny _ _ (do let o ← load f; _) _ _ _
    exact wpAny_bind (wpAny_load (I.K _ _ h1 h2 q') (wpAny_pure h))
  · cases e
/-- o.name(*e) of an accumulator's -/
theorem em_mcallB {o e : Expr} {name : Str} {apos pos p : Pos} {x dx f : Addr} {n : Nat} {Φ₁ : Heap → Heap → Prop} {qs : List VP} {r : VP} {pp : List (Str × Str)} {k₀ : Int} (hA : Rm A n) (ho : EvM w A X env s₀ Γ μ o μ (vIs (.ref x))) (ha : EvM w A X env s₀ Γ μ e μ (vTup qs)) (hz : qs.length ≤ sizeLine)
    (hget : ∀ g h, μ.Φ g h → AcP x dx pp k₀ g h) (hn : name ≠ ("_initial_size" : Str))
    (hfi : findIn (K' w.params) (.ref 178) name = some (some (.ref f))) (hg : specialIn (K' w.params) (.ref f) "__get__" = some (some (.builtin "function.__get__"))) (ht : takesIn (K' w.params) (.ref f) = some false) (hty : typeIn (K' w.params) (.ref f) = some (.type "function"))
    (hcn : copiedNames.contains name = false) (hd : hasDictIn (K' w.params) 178 = true) (Cn : MOK w n f μ₁ Φ₁ (vIs (.ref x) :: qs) r) (Fc : Focus μ μ₁ Φ₁ μ')
    (hf : isFnK w.params f = true) (h1 : f ≠ T1 := by decide) (h2 : f ≠ T2 := by decide)
    (hbase : attributeBase o name env (eval o env) = eval o env := by rfl) :
    EvM w A X env s₀ Γ μ (.Call (.Attribute o name apos) [.Starred e p] [] pos) μ' r := fun s E Q S k => by
  show wpAny (model PG w) A (attributeBase o name env (eval o env) >>= fun ov => standAt apos.atName >>= fun _ => methodCall o name apos pos env ov 1 (backTo pos (starEach [.Starred e p] env)) (backToKw pos (keywordEach [] env))) Q E s
  rw [hbase]
  refine wpAny_bind (ho s E _ S fun v s1 S1 hs1 hp => wpAny_bind (wpAny_standAt ?_))
  have hp' : v = .ref x := hp
  subst hp'
  show wpAny (model PG w) A (do
    let (f, first) ← holding [.ref x] (do pure (← getAttr (.ref x) name true, []))
    let callPos ← pure pos
    callWith callPos f first (backTo pos (starEach [.Starred e p] env)) []) Q E s1
  obtain ⟨vs, mA, I, hw, _, _⟩ := hget _ _ S1.mu
  have hv' : mA name = none := by
    cases q : mA name with
    | none => rfl
    | some v => exact absurd (List.mem_singleton.mp (hw name (by rw [q]; simp))) hn
  refine wpAny_bind (wpAny_holding (wpAny_bind (getAttr_accM S1.inv I hfi hg ht hty hcn hd hv' (wpAny_pure (wpAny_bind (wpAny_pure ?_))))))
  generalize hq : s1.heap.objs.size = q
  have hk1 : ∀ b o, s1.heap.get? b = some o → (s1.heap.push (methodObj (.ref f) (.ref x))).get? b = some o := fun b o e => Heap.get?_push_of_some _ e
  have hqo : (s1.heap.push (methodObj (.ref f) (.ref x))).get? q = some (methodObj (.ref f) (.ref x)) := by rw [← hq]; exact Heap.get?_push_size _ rfl
  have S2 : St w env X s₀ μ Γ { s1 with toks := s1.toks + 1, heap := s1.heap.push (methodObj (.ref f) (.ref x)) } := S1.step (S1.inv.keeps _ hk1) (Gr.keeps _ hk1)
  have hs2 : Sub (hideAll s1.heap X) (hideAll (s1.heap.push (methodObj (.ref f) (.ref x))) X) := hid_sub S1.bel (Gr.keeps (s1.toks + 1) hk1)
  have qX : q ∉ X := S1.bel.ne (hq ▸ new_none _)
  unfold callWith
  refine wpAny_bind (wpAny_holding (evalArgs_star ha S2 hz fun ws s3 S3 hs3 hA3 => wpAny_bind (wpAny_standAt ?_)))
  have hq3 : s3.heap.get? q = some (methodObj (.ref f) (.ref x)) := of_hideAll X (hs3 _ _ (hideAll_get X hqo qX))
  refine wpAny_bind (keeper_bound S3.inv hq3 h1 h2 hf ?_)
  show wpAny _ _ (operate _ (call (.ref q) ([] ++ ws) []) >>= _) _ _ _
  refine wpAny_bind (wpAny_operating (wpAny_call (method_call hq3 ?_)))
  refine Cn X A s3 _ (.ref x :: ws) hA S3.inv S3.bel (fun a ha => ⟨(S3.mo a (Fc.sub a ha)).1, (S3.mo a (Fc.sub a ha)).2.1⟩) (Fc.get _ _ S3.mu) ⟨rfl, hA3⟩ fun v s' I' G B hΦ hp => ?_
  obtain ⟨S4, hs4⟩ := st_focus S3 Fc I' G B hΦ
  exact wpAny_bind (wpAny_holding (wpAny_point (wpAny_pure (k v s' S4 (((hs1.trans hs2).trans hs3).trans hs4) hp))))
end
end Mine
end

section
open PySem PySem.Calls PyProof.Rows PySem.W
open PySem.Builtin PySem.Builtin.List PySem.Builtin.Str
set_option Elab.async false
set_option maxRecDepth 100000
set_option linter.unusedVariables false
namespace Mine
noncomputable section
variable {w : World} {A : Around} {X Y : List Addr} {env cenv : Env} {Γ : Ctxt} {s₀ : Shared} {μ μ' μ₁ μ₂ : Mu} {c : Code}
variable {a : FA} {mx : Int} {sc : Str} {ps ps' : List (Str × Str)} {ls ls' : List Str}
theorem fi_push : findIn (K' w.params) (.ref 178) "push" = some (some (.ref 122)) := by kernel_rfl
theorem sg_push : specialIn (K' w.params) (.ref 122) "__get__" = some (some (.builtin "function.__get__")) := by kernel_rfl
theorem tk_push : takesIn (K' w.params) (.ref 122) = some false := by kernel_rfl
theorem ty_push : typeIn (K' w.params) (.ref 122) = some (.type "function") := by kernel_rfl
theorem acc_hdi : hasDictIn (K' w.params) 178 = true := by kernel_rfl
theorem nl_push2 {p : Str × Str} {p0 p1 p2 p3 p4 p5 : Pos} (hA : Rm A 1) (hE : EnvOk env) (hx : (("self" : Str), vIs (.ref a.f)) ∈ Γ) (hy : (("end_of_line" : Str), vPart p) ∈ Γ) (hz : ps.length < 1000000)
    (hbase : attributeBase (.Attribute (.Name "self" p0) "_current_line" p1) "push" env (eval (.Attribute (.Name "self" p0) "_current_line" p1) env) = eval (.Attribute (.Name "self" p0) "_current_line" p1) env) :
    EvM w A X env s₀ Γ (muF a mx sc ps ls) (.Call (.Attribute (.Attribute (.Name "self" p0) "_current_line" p1) "push" p2) [.Starred (.Name "end_of_line" p4) p5] [] p3) (muF a mx sc (ps ++ [p]) ls) vNone :=
  em_mcallB (x := a.x) (dx := a.dx) (qs := [vStr p.1, vStr p.2]) hA (em_line hE hx) (em_ev (ev_name hE hy)) (show 2 ≤ sizeLine by decide) (fun g h H => FmP.ac H) (by decide) fi_push sg_push tk_push ty_push (by decide +kernel) acc_hdi (push_ok hz) focF f_push (hbase := hbase)
theorem nl_ow {p0 p1 p2 p3 : Pos} (hA : Rm A 5) (hE : EnvOk env) (hx : (("self" : Str), vIs (.ref a.f)) ∈ Γ) (H : LineOk ps) (he : eval (.Call (.Attribute (.Attribute (.Name "self" p0) "_current_line" p1) "is_onlyws" p2) [] [] p3) env = (do
      let ov ← eval (.Attribute (.Name "self" p0) "_current_line" p1) env
      standAt p2.atName
      let (f, first) ← holding [ov] (getMethod ov "is_onlyws" (do return (← importBound (.Attribute (.Name "self" p0) "_current_line" p1) env).getD true))
      callWith p3 f first (backTo p3 (starEach [] env)) (backToKw p3 (keywordEach [] env))) := by rfl) :
    EvM w A X env s₀ Γ (muF a mx sc ps ls) (.Call (.Attribute (.Attribute (.Name "self" p0) "_current_line" p1) "is_onlyws" p2) [] [] p3) (muF a mx sc ps ls) (vBool (total ps == 0 || Txt.isspace (flat ps))) :=
  acc_mcall (x := a.x) (dx := a.dx) (pp := ps) (k := 0) hA (em_line hE hx) elm_nil (fun g h H => FmP.ac H) (by decide) m_ow (H.ow a.x a.dx) focF f_ow (he := he)
theorem nl_reset {p0 p1 p2 p3 : Pos} (hA : Rm A 1) (hE : EnvOk env) (hx : (("self" : Str), vIs (.ref a.f)) ∈ Γ) (hz : ps.length < 1000000) (he : eval (.Call (.Attribute (.Attribute (.Name "self" p0) "_current_line" p1) "reset" p2) [] [] p3) env = (do
      let ov ← eval (.Attribute (.Name "self" p0) "_current_line" p1) env
      standAt p2.atName
      let (f, first) ← holding [ov] (getMethod ov "reset" (do return (← importBound (.Attribute (.Name "self" p0) "_current_line" p1) env).getD true))
      callWith p3 f first (backTo p3 (starEach [] env)) (backToKw p3 (keywordEach [] env))) := by rfl) :
    EvM w A X env s₀ Γ (muF a mx sc ps ls) (.Call (.Attribute (.Attribute (.Name "self" p0) "_current_line" p1) "reset" p2) [] [] p3) (muF a mx sc [] ls) vNone :=
  acc_mcall (x := a.x) (dx := a.dx) (pp := ps) (k := 0) hA (em_line hE hx) elm_nil (fun g h H => FmP.ac H) (by decide) m_reset (reset_none_ok hz) focF f_reset (he := he)

theorem tm_of {e : Expr} {b c : Bool} (h : TeM w A X env s₀ Γ μ e μ' b) (hbc : b = c) : TeM w A X env s₀ Γ μ e μ' c := hbc ▸ h
theorem newline_ok {p : Str × Str} (H : LineOk (ps ++ [p])) (h1 : PyData.strOk p.1 = true) (h2 : PyData.strOk p.2 = true) (hp : PySem.Spec.same (.tuple [.str p.1, .str p.2]) (.tuple [.str " ", .str ""]) = false)
    (ht : 0 < total (ps ++ [p])) (hs : Txt.isspace (flat (ps ++ [p])) = false) (hl : ls.length < 1000000) : MOK w 9 56 (muF a mx sc (ps ++ [p]) ls) (FmP a mx sc [] (ls ++ [flat (ps ++ [p])])) [vIs (.ref a.f)] vNone := by
  have hz : ps.length < 1000000 := by have := H.n; simp at this; omega
  refine mfn_intro (ns := ["self"]) nl_B rfl lim_K FmP.sub nl_bind fun X A L s₀ R hA F hR => ?_
  refine nl_first (ps := ps) (p := p) (hA.mono (by decide)) F (.head _) hz (by kernel_rfl) ?_
  refine bd_ifMT (μ' := muF a mx sc ps ls) (nl_test (by have := hA.u; omega) F.ok (.head _) h1 h2 hp) fun E => ?_
  refine bd_exprM (μ' := muF a mx sc (ps ++ [p]) ls) (nl_push2 (hA.mono (by decide)) F.ok (.tail _ (.head _)) (.head _) hz (by rfl)) (bd_then ?_)
  refine bd_ifMT (μ' := muF a mx sc (ps ++ [p]) ls) (tm_of (tm_cmp (em_lenLine (hA.mono (by decide)) F.ok (.tail _ (.head _)) H (by kernel_rfl)) (em_ev ev_int) op_gtI) (decide_eq_true ht)) fun E => ?_
  refine bd_ifMF (μ' := muF a mx sc (ps ++ [p]) ls) (tm_and (a := false) (b := false) (tm_of (tm_bool (nl_ow (hA.mono (by decide)) F.ok (.tail _ (.head _)) H)) (by rw [hs]; simp; omega)) (fun e => nomatch e) fun _ => rfl) fun E => ?_
  refine bd_exprM (em_addLine F.ok (.tail _ (.head _)) (em_strLine (hA.mono (by decide)) F.ok (.tail _ (.head _)) H (by kernel_rfl)) hl (by intro _; rfl) (by rfl) (by rfl) (by rfl) (by rfl)) (bd_then (bd_then ?_))
  refine bd_exprM (nl_reset (hA.mono (by decide)) F.ok (.tail _ (.head _)) H.n) ?_
  exact clsEnv_next hR _ rfl rfl
end
end Mine
end

section
open PySem PySem.Calls PyProof.Rows PySem.W
open PySem.Builtin PySem.Builtin.List PySem.Builtin.Str
set_option Elab.async false
set_option maxRecDepth 100000
set_option linter.unusedVariables false
namespace Mine
noncomputable section
variable {w : World} {A : Around} {X Y : List Addr} {env cenv : Env} {Γ : Ctxt} {s₀ : Shared} {μ μ' μ₁ μ₂ : Mu} {c : Code}
variable {a : FA} {mx : Int} {sc : Str} {ps ps' : List (Str × Str)} {ls ls' : List Str}
theorem nl_first0 {p0 p1 p2 p3 p4 p5 : Pos} {rest : List Stmt} {R : Flow → Shared → Prop} (hA : Rm A 2) (F : Fn w env X) (hx : (("self" : Str), vIs (.ref a.f)) ∈ Γ) (hs : stB env "end_of_line" = true)
    (k : Bd w A X env s₀ (muF a mx sc [] ls) (("end_of_line", vPart ("", "")) :: dropN "end_of_line" Γ) rest R) (he : eval (.Call (.Attribute (.Attribute (.Name "self" p0) "_current_line" p1) "pop" p2) [] [] p3) env = (do
      let ov ← eval (.Attribute (.Name "self" p0) "_current_line" p1) env
      standAt p2.atName
      let (f, first) ← holding [ov] (getMethod ov "pop" (do return (← importBound (.Attribute (.Name "self" p0) "_current_line" p1) env).getD true))
      callWith p3 f first (backTo p3 (starEach [] env)) (backToKw p3 (keywordEach [] env))) := by rfl) :
    Bd w A X env s₀ (muF a mx sc [] ls) Γ (.Assign [.Name "end_of_line" p4] (.Call (.Attribute (.Attribute (.Name "self" p0) "_current_line" p1) "pop" p2) [] [] p3) p5 :: rest) R := by
  refine bd_assignM (μ' := muF a mx sc [] ls) (p := vPart ("", "")) F (acc_mcall (x := a.x) (dx := a.dx) (pp := []) (k := 0) hA (em_line F.ok hx) elm_nil (fun g h H => FmP.ac H) (by decide) m_pop pop_none_ok focF f_pop (he := he)) k hs (by rfl)
theorem newline_nil_ok : MOK w 9 56 (muF a mx sc [] ls) (FmP a mx sc [] ls) [vIs (.ref a.f)] vNone := by
  have H : LineOk ([] ++ [(("" : Str), ("" : Str))]) := ⟨by decide +kernel, by decide, by decide +kernel, by decide +kernel⟩
  refine mfn_intro (ns := ["self"]) nl_B rfl lim_K FmP.sub nl_bind fun X A L s₀ R hA F hR => ?_
  refine nl_first0 (hA.mono (by decide)) F (.head _) (by kernel_rfl) ?_
  refine bd_ifMT (μ' := muF a mx sc [] ls) (nl_test (by have := hA.u; omega) F.ok (.head _) (by decide +kernel) (by decide +kernel) (by decide +kernel)) fun E => ?_
  refine bd_exprM (μ' := muF a mx sc ([] ++ [(Str.ofString "", Str.ofString "")]) ls) (nl_push2 (a := a) (mx := mx) (sc := sc) (ls := ls) (ps := []) (p := ("", "")) (hA.mono (by decide)) F.ok (.tail _ (.head _)) (.head _) (by decide) (by rfl)) (bd_then ?_)
  refine bd_ifMF (μ' := muF a mx sc ([] ++ [(Str.ofString "", Str.ofString "")]) ls) (tm_of (tm_cmp (em_lenLine (hA.mono (by decide)) F.ok (.tail _ (.head _)) H (by kernel_rfl)) (em_ev ev_int) op_gtI) (by decide +kernel)) fun E => bd_then ?_
  refine bd_exprM (nl_reset (hA.mono (by decide)) F.ok (.tail _ (.head _)) H.n) ?_
  exact clsEnv_next hR _ rfl rfl
/-! ### _str -/
theorem FmP.ins {name : Str} (hn : name ∉ fmNames) : ∀ g h, FmP a mx sc ps ls g h → ∃ dt mA, Ins h a.f 94 a.df dt mA ∧ (∀ c, dt ≠ .cls c) ∧ mA name = none := fun g h H => by
  obtain ⟨mA, I, hw, _⟩ := H.ex
  refine ⟨_, mA, I, by intro c; simp, ?_⟩
  cases q : mA name with
  | none => rfl
  | some v => exact absurd (hw name (by rw [q]; simp)) hn
theorem fm_mcall {o : Expr} {name : Str} {apos pos : Pos} {e : List Expr} {f : Addr} {n : Nat} {Φ₁ : Heap → Heap → Prop} {qs : List VP} {r : VP} (hA : Rm A n) (ho : EvM w A X env s₀ Γ (muF a mx sc ps ls) o (muF a mx sc ps ls) (vIs (.ref a.f))) (ha : EvLM w A X env s₀ Γ (muF a mx sc ps ls) e qs)
    (hn : name ∉ fmNames) (hm : methB (K' w.params) 94 name (.ref f) = true) (Cn : MOK w n f (muF a mx sc ps ls) Φ₁ (vIs (.ref a.f) :: qs) r) (Fc : Focus (muF a mx sc ps ls) (muF a mx sc ps ls) Φ₁ μ')
    (hf : isFnK w.params f = true) (h1 : f ≠ T1 := by decide) (h2 : f ≠ T2 := by decide) (hplain : (backTo pos (starEach e env)).any (·.1) = false := by rfl)
    (he : eval (.Call (.Attribute o name apos) e [] pos) env = (do
      let ov ← eval o env
      standAt apos.atName
      let (f, first) ← holding [ov] (getMethod ov name (do return (← importBound o env).getD true))
      callWith pos f first (backTo pos (starEach e env)) (backToKw pos (keywordEach [] env))) := by rfl) :
    EvM w A X env s₀ Γ (muF a mx sc ps ls) (.Call (.Attribute o name apos) e [] pos) μ' r :=
  em_mcall hA ho ha (FmP.ins hn) hm Cn Fc hf h1 h2 hplain (do return (← importBound o env).getD true) he
theorem mf_newline : methB (K' w.params) 94 "newline" (.ref 56) = true := by kernel_rfl
theorem ff_newline : isFnK w.params 56 = true := by kernel_rfl
theorem str2_B : defB w.params 42 ["self", "linesep"] = true := by kernel_rfl
theorem str2_bind (vs : List Value) (h : vs.length = 2) : bindArgs (fdK w.params 42) ⟨vs, []⟩ = pure ((["self", "linesep"] : List Str).zip vs) := by
  match vs, h with
  | [a, b], _ => kernel_rfl
theorem em_joinLines {p0 p1 p2 p3 p4 : Pos} {sep : Str} (hE : EnvOk env) (hx : (("self" : Str), vIs (.ref a.f)) ∈ Γ) (hy : (("linesep" : Str), vStr sep) ∈ Γ) (hok : (ls.map (·.length)).sum + ls.length * sep.length ≤ 16777216)
    (hst : ∀ env, starEach [.Attribute (.Name "self" p2) "_lines" p3] env = (false, eval (.Attribute (.Name "self" p2) "_lines" p3) env) :: starEach [] env) (hplain : (backTo p4 (starEach [.Attribute (.Name "self" p2) "_lines" p3] env)).any (·.1) = false)
    (hbase : attributeBase (.Name "linesep" p0) "join" env (eval (.Name "linesep" p0) env) = eval (.Name "linesep" p0) env)
    (hfew : ((backTo p4 (starEach [.Attribute (.Name "self" p2) "_lines" p3] env)).all (fun x => !x.1) && (backToKw p4 (keywordEach [] env)).all (fun x => x.1.isSome)
      && decide ([Expr.Attribute (.Name "self" p2) "_lines" p3].length + ([] : List Keyword).length + (if ([] : List Keyword).isEmpty then 0 else 1) < 30)) = true)
    (hline : (p1.endLine == p4.line) = true) :
    EvM w A X env s₀ Γ (muF a mx sc ps ls) (.Call (.Attribute (.Name "linesep" p0) "join" p1) [.Attribute (.Name "self" p2) "_lines" p3] [] p4) (muF a mx sc ps ls) (vStr (Txt.join sep ls)) :=
  em_meth (T := "str") (id := "str.join") (em_ev (ev_name hE hy)) (elm_cons (em_lines hE hx) elm_nil hst) PySem.F.plainAttrs_str PySem.F.slot_str_join PySem.F.type_str_join (fun s v S hv => str_type X s v hv)
    (fun s E Q v vs S hv hA2 k => by
      obtain ⟨t, rfl⟩ := hv
      obtain ⟨u, rfl, hu⟩ := all1 hA2
      have hu' : u = .ref a.l := hu
      subst hu'
      have H : FmP a mx sc ps ls (hideAll s.heap X) s.heap := S.mu
      obtain ⟨vs, n, ho, hAl⟩ := H.li
      refine join_list ⟨_, ho, rfl, n, rfl⟩ (strs_are hAl) hok fun t' k' => ?_
      exact k _ _ (S.step (S.inv.tok k') (Gr.tok _ _)) (Sub.refl _) ⟨t', rfl⟩) hplain hbase hfew hline
theorem fstr_ok {sep : Str} (C : MOK w 9 56 (muF a mx sc ps ls) (FmP a mx sc [] ls') [vIs (.ref a.f)] vNone) (hok : (ls'.map (·.length)).sum + ls'.length * sep.length ≤ 16777216) : MOK w 10 42 (muF a mx sc ps ls) (FmP a mx sc [] ls') [vIs (.ref a.f), vStr sep] (vStr (Txt.join sep ls')) := by
  refine mfn_intro (ns := ["self", "linesep"]) str2_B rfl lim_K FmP.sub str2_bind fun X A L s₀ R hA F hR => ?_
  refine bd_exprM (μ' := muF a mx sc [] ls') (fm_mcall hA (em_ev (ev_name F.ok (.head _))) elm_nil (by decide +kernel) mf_newline C (.all rfl rfl) ff_newline) ?_
  exact bd_retM (μ' := muF a mx sc [] ls') (em_joinLines F.ok (.head _) (.tail _ (.head _)) hok (by intro _; rfl) (by rfl) (by rfl) (by rfl) (by rfl)) rfl hR.r0
end
end Mine
end

section
open PySem PySem.Calls PyProof.Rows PySem.W
open PySem.Builtin PySem.Builtin.List PySem.Builtin.Str
set_option Elab.async false
set_option maxRecDepth 100000
set_option linter.unusedVariables false
namespace Mine
noncomputable section
variable {w : World} {A : Around} {X : List Addr} {env : Env} {Γ : Ctxt} {s₀ : Shared} {μ μ' : Mu}

/-- a source that reads turned objects -/
noncomputable def SrcM (w : World) (A : Around) (X : List Addr) (env : Env) (s₀ : Shared) (Γ : Ctxt) (μ : Mu) (iter : Expr) (μ' : Mu) (ps : List VP) : Prop :=
  ∀ (s : Shared) (E Q : Value → Shared → Prop), St w env X s₀ μ Γ s →
    (∀ s0 I wr fp P Z s', St w env X s₀ μ' Γ s0 → Inv w s' → Gr s0 s' → (∀ b ∈ wr, s0.heap.get? b = none) → Going w A (wr ++ X) I ps wr fp P Z s' → Q (.ref I) s') →
    wpAny (model PG w) A (eval iter env) (fun x s₁ => wpAny (model PG w) A (pyIter x) Q E s₁) E s
theorem srcM_of {iter : Expr} {ps : List VP} (h : Src w A X env Γ iter ps) : SrcM w A X env s₀ Γ μ iter μ ps := fun s E Q S k => by
  obtain ⟨lm, cm, V, H⟩ := S.ex
  exact h s lm cm E Q S.inv S.bel V H fun I wr fp P Z s' I' G hn hG => k s I wr fp P Z s' S I' G hn hG
/-- what a target binds, in a def's frame -/
noncomputable def TgS (w : World) (A : Around) (env : Env) {ι : Type} (target : Expr) (pv : ι → VP) (bnd : ι → Ctxt → Ctxt) : Prop :=
  ∀ (i : ι) (X : List Addr) (b : Shared) (μ : Mu) (Γ : Ctxt) (s : Shared) (v : Value) (E : Value → Shared → Prop) (Q : Unit → Shared → Prop), Fn w env X → St w env X b μ Γ s → (pv i).p (hideAll s.heap X) v →
    (∀ s', St w env X b μ (bnd i Γ) s' → Q () s') → wpAny (model PG w) A (assign target env v) Q E s
theorem tgs_name {x : Str} {px : Pos} (hk : stB env x = true) : TgS w A env (.Name x px) (fun p : VP => p) (fun p Γ => (x, p) :: dropN x Γ) :=
  fun i X b μ Γ s v E Q F S hp k => wpAny_assign_Name (st_store F S hp hk k)
theorem tgs_pair {x y : Str} {px py pt : Pos} {kt : Nat} (hA : A.handled = none) (hx : stB env x = true) (hy : stB env y = true) : TgS w A env (.Tuple [.Name x px, .Name y py] kt pt) (fun p : VP × VP => vTup [p.1, p.2]) (fun p Γ => (y, p.2) :: dropN y ((x, p.1) :: dropN x Γ)) := by
  intro i X b μ Γ s v E Q F S hp k
  obtain ⟨a, o, n, vs, rfl, ho, hc, hd, hAl, _⟩ := seq_get hp
  obtain ⟨v1, v2, hvs, h1, h2⟩ := all2 hAl
  have hvs' : vs = #[v1, v2] := Array.ext' hvs
  subst hvs'
  have hps : ∀ z ∈ own env ++ μ.O, z ∈ X := fun z hz => (List.mem_append.mp hz).elim (F.sub z) fun m => (S.mo z m).1
  refine wpAny_assign_Tuple hA ⟨o, ho, hc, n, hd⟩ rfl rfl fun h1' hx1 => ?_
  replace hx1 : Heap.ExtBut s.heap.objs.size s.heap h1' := hx1
  have keep : ∀ b o, s.heap.get? b = some o → h1'.get? b = some o := fun b o e => hx1 b o (Nat.ne_of_lt (Heap.lt_size e)) e
  have S1 : St w env X b μ Γ { s with heap := h1' } := S.step (S.inv.keeps s.toks keep) (Gr.keeps s.toks keep)
  have sub1 : Sub (hideAll s.heap X) (hideAll h1' X) := hid_new (fun b o e _ => keep b o e) fun z hz => .inl hz
  show wpAny _ _ (do holding [v2] (assign (.Name x px) env v1); do holding [] (assign (.Name y py) env v2); pure ()) _ _ _
  have S1r : St w env X { s with heap := h1' } μ Γ { s with heap := h1' } := ⟨S1.inv, GrO.refl _ _, S1.bel, S1.mu, S1.mo, S1.ex⟩
  refine wpAny_bind (wpAny_holding (wpAny_assign_Name (st_store F S1r ((i.1).st _ _ _ sub1 h1) hx fun s2 S2 => ?_)))
  have sub2 : Sub (hideAll h1' X) (hideAll s2.heap X) := S2.gr.hid hps S.bel.a S.bel.b
  have S2' : St w env X b μ _ s2 := ⟨S2.inv, S1.gr.trans S2.gr, S2.bel, S2.mu, S2.mo, S2.ex⟩
  exact wpAny_bind (wpAny_holding (wpAny_assign_Name (st_store F S2' ((i.2).st _ _ _ (sub1.trans sub2) h2) hy fun s3 S3 => wpAny_pure (k s3 S3))))

theorem bd_forG {ι : Type} {target : Expr} {pv : ι → VP} {bnd : ι → Ctxt → Ctxt} {pos : Pos} {iter : Expr} {body orelse rest : List Stmt} (its : List ι) {Γs : Nat → Ctxt} {Γb : Ctxt} {O : List Addr} {μs : Nat → Mu} {μb : Mu} {Φr : Heap → Heap → Prop} {rp : VP} {R : Flow → Shared → Prop} (F : Fn w env X) (hA : A.handled = none)
    (hs : SrcM w A X env s₀ Γ μ iter (μs 0) (its.map pv)) (h0 : ∀ z ∈ Γs 0, z ∈ Γ) (hT : TgS w A env target pv bnd)
    (hO : ∀ i, (μs i).O = O) (hOb : μb.O = O) (hΦr : ∀ g g' h, Sub g g' → Φr g h → Φr g' h) (hR : RetOK w X env s₀ O Φr rp .ret R)
    (turn : ∀ (X' : List Addr) (i : Nat) (p : ι) (b : Shared) (R' : Flow → Shared → Prop), its[i]? = some p → (∀ z ∈ X, z ∈ X') → Fn w env X' → (∀ s', St w env X' b (μs (i + 1)) (Γs (i + 1)) s' → R' .next s') → (∀ s', St w env X' b (μs (i + 1)) (Γs (i + 1)) s' → R' .cont s') →
      RetOK w X' env b O Φr rp .ret R' → (∀ s', St w env X' b μb Γb s' → R' .brk s') → Bd w A X' env b (μs i) (bnd p (Γs i)) body R')
    (k : ∀ E : Value → Shared → Prop, Bd w A X env s₀ (μs its.length) (Γs its.length) orelse fun f s' => match f with | .next => wpAny (model PG w) A (execs rest env) R E s' | f => R f s') (kb : Bd w A X env s₀ μb Γb rest R)
    (hcl : ∀ n c, (n, c) ∈ env.cells → ∃ n', env.cells.lookup n' = some c)
    (hfs : ∀ x, foldedSetIterable iter env x = pure x := by intro _; rfl) : Bd w A X env s₀ μ Γ (.For target iter body orelse pos :: rest) R := by
  intro s00 E S00
  refine wpAny_execs_cons (wpAny_For ?_ hfs)
  refine hs s00 E _ S00 fun s I wr fp P Z s1 S I1 G1 hnew hG => ?_
  obtain ⟨lm, cm, V, H⟩ := S.ex
  have hlen : (its.map pv).length = its.length := List.length_map ..
  have ownS := S.hiddenEx F
  rw [hO 0] at ownS
  have T : ∀ b ∈ wr, b ∉ own env ++ O := fun b hb m => by obtain ⟨o, ho⟩ := ownS b m; rw [hnew b hb] at ho; cases ho
  have V1 := V.gr S.inv G1
  have cellsEx : ∀ n c, (n, c) ∈ env.cells → ∃ o, s.heap.get? c = some o := fun n c hm => by
    obtain ⟨n', hn'⟩ := hcl n c hm
    obtain ⟨o, ho, _⟩ := V.cell n' c hn'
    exact ⟨o, ho⟩
  have hLw : env.locals ∉ wr := fun m => T _ m (List.mem_append_left _ List.mem_cons_self)
  have hOw : ∀ a ∈ O, a ∉ wr := fun a ha m => T _ m (List.mem_append_right _ ha)
  have mo := S.mo
  rw [hO 0] at mo
  have gr0 : GrO (own env ++ O) s₀ s := hO 0 ▸ S.gr
  have hCw : ∀ n c, (n, c) ∈ env.cells → c ∉ wr := fun n c hm m => by obtain ⟨o, ho⟩ := cellsEx n c hm; rw [hnew c m] at ho; cases ho
  have hw0 : ∀ b ∈ wr, s₀.heap.get? b = none := fun b hb => gr0.absent S.inv ownS (hnew b hb)
  have hOff : ∀ b ∈ wr, Off w b := fun b hb => off_new S.inv (hnew b hb)
  have hXX : ∀ z ∈ X, z ∈ wr ++ X := fun z hz => List.mem_append_right _ hz
  have F' : Fn w env (wr ++ X) := F.mono hXX
  have B1 : Bel (wr ++ X) s1 := ⟨fun y hy => by
    rcases List.mem_append.mp hy with hy | hy
    · exact hG.ex 0 _ hG.z y hy
    · exact (S.bel.gr I1 G1).ex y hy, hXX _ S.bel.a, hXX _ S.bel.b⟩
  have fpOwn : ∀ b ∈ fp, b ∉ own env ++ O ∧ b ≠ T1 ∧ b ≠ T2 := fun b hb => by
    rcases hG.fx b hb with hb | ⟨hb, _⟩
    · exact ⟨T b hb, (hOff b hb).a, (hOff b hb).b⟩
    · exact ⟨fun m => hb ((List.mem_append.mp m).elim (F'.sub b) fun m => hXX _ (mo b m).1), fun q => hb (q ▸ B1.a), fun q => hb (q ▸ B1.b)⟩
  refine codeAny_forLoop_any (fun m s' => ∃ i, i ≤ its.length ∧ m = its.length - i ∧ St w env (wr ++ X) s₀ (μs i) (Γs i) s' ∧ Z i s'.heap ∧ Sub (hideAll s1.heap (wr ++ X)) (hideAll s'.heap (wr ++ X))) (fun m s' hI => ?_) its.length
    ⟨0, Nat.zero_le _, rfl, ⟨I1, S.gr.trans G1.o, B1, (μs 0).fr _ _ _ _ (hid_new (fun b o e nb => G1.keep b o e (fun z => nb (z ▸ S.bel.a)) (fun z => nb (z ▸ S.bel.b))) fun z hz => (List.mem_append.mp hz).elim (fun hz => .inr (hnew z hz)) .inl) (fun b hb o e => G1.keep b o e (S.mo b hb).2.1.a (S.mo b hb).2.1.b) S.mu, fun a ha => ⟨hXX a (S.mo a ha).1, (S.mo a ha).2⟩, lm, cm, V1, fun y q hy => ?_⟩, hG.z, Sub.refl _⟩
  · obtain ⟨i, hi, rfl, S', hZ, hsub⟩ := hI
    obtain ⟨lm', cm', V', H'⟩ := S'.ex
    have W := hG.W A hA
    rw [hlen] at W
    by_cases hlt : i < its.length
    · refine W.item i s' _ _ hlt hZ fun v h' tk hP hZ' hk' => ?_
      have hk'' : KeepBut wr s'.heap h' := hk'
      obtain ⟨p, hp⟩ : ∃ p, its[i]? = some p := ⟨_, List.getElem?_eq_getElem hlt⟩
      have hv : (pv p).p (hideAll h' (wr ++ X)) v := (pv p).st _ _ _ (hsub.trans (hid_but hG.wX hk'')) (hG.it i (pv p) v (by rw [List.getElem?_map, hp]; rfl) hP)
      have Sa : St w env (wr ++ X) { s' with heap := h', toks := tk } (μs i) (Γs i) { s' with heap := h', toks := tk } :=
        ⟨S'.inv.but hOff hk'' _, GrO.refl _ _, S'.bel.but hk'' (hG.ex _ _ hZ') _, (μs i).fr _ _ _ _ (hid_but hG.wX hk'') (fun b hb o e => hk'' b o (hOw b (hO i ▸ hb)) e) S'.mu, S'.mo, lm', cm', V'.but hLw hCw hk'', H'.st (hid_but hG.wX hk'')⟩
      have Ga : GrO (own env ++ O) s₀ { s' with heap := h', toks := tk } := (hO i ▸ S'.gr).thenBut hw0 hk'' tk
      obtain ⟨oI, _, hcI, hzI⟩ := hG.cl
      obtain ⟨oI', hoI', hcI'⟩ := hzI _ _ hZ'
      refine letOwned_none hoI' (by rw [hcI']; exact hcI) ?_
      refine hT p _ _ _ _ _ v _ _ F' Sa hv fun s2 S2 => ?_
      refine wpAny_mono (turn (wr ++ X) i p _ (fun f s3 => match f with
        | .next => ∃ m, m < its.length - i ∧ ∃ i', i' ≤ its.length ∧ m = its.length - i' ∧ St w env (wr ++ X) s₀ (μs i') (Γs i') s3 ∧ Z i' s3.heap ∧ Sub (hideAll s1.heap (wr ++ X)) (hideAll s3.heap (wr ++ X))
        | .cont => ∃ m, m < its.length - i ∧ ∃ i', i' ≤ its.length ∧ m = its.length - i' ∧ St w env (wr ++ X) s₀ (μs i') (Γs i') s3 ∧ Z i' s3.heap ∧ Sub (hideAll s1.heap (wr ++ X)) (hideAll s3.heap (wr ++ X))
        | .brk => ∀ E', wpAny (model PG w) A (execs rest env) R E' s3
        | .ret v => R (.ret v) s3) hp hXX F' ?_ ?_ ?_ ?_ s2 _ S2) (fun f s3 h3 => ?_) fun _ _ e => e
      · intro s3 S3
        refine ⟨its.length - (i + 1), by omega, i + 1, hlt, rfl, ⟨S3.inv, hO (i + 1) ▸ Ga.trans (hO (i + 1) ▸ S3.gr), S3.bel, S3.mu, S3.mo, S3.ex⟩, ?_, ?_⟩
        · exact (hG.W A hA).frame _ _ _ hZ' fun b hb o e => S3.gr.keep b o e (hO (i + 1) ▸ (fpOwn b hb).1) (fpOwn b hb).2.1 (fpOwn b hb).2.2
        · exact (hsub.trans (hid_but hG.wX hk'')).trans (S3.gr.hid (fun z hz => (List.mem_append.mp hz).elim (F'.sub z) fun m => (S3.mo z m).1) B1.a B1.b)
      · intro s3 S3
        refine ⟨its.length - (i + 1), by omega, i + 1, hlt, rfl, ⟨S3.inv, hO (i + 1) ▸ Ga.trans (hO (i + 1) ▸ S3.gr), S3.bel, S3.mu, S3.mo, S3.ex⟩, ?_, ?_⟩
        · exact (hG.W A hA).frame _ _ _ hZ' fun b hb o e => S3.gr.keep b o e (hO (i + 1) ▸ (fpOwn b hb).1) (fpOwn b hb).2.1 (fpOwn b hb).2.2
        · exact (hsub.trans (hid_but hG.wX hk'')).trans (S3.gr.hid (fun z hz => (List.mem_append.mp hz).elim (F'.sub z) fun m => (S3.mo z m).1) B1.a B1.b)
      · intro v s3 I3 G3 hΦ3 B3 hp3
        exact hR v s3 I3 (Ga.trans G3) (hΦr _ _ _ (hid_mono hXX) hΦ3) ⟨fun y hy => B3.ex y (hXX y hy), S.bel.a, S.bel.b⟩ (rp.st _ _ _ (hid_mono hXX) hp3)
      · intro s3 S3 E'
        refine kb s3 E' ⟨S3.inv, hOb ▸ Ga.trans (hOb ▸ S3.gr), ⟨fun y hy => S3.bel.ex y (hXX y hy), S.bel.a, S.bel.b⟩, μb.fr _ _ _ _ (hid_mono hXX) (fun b _ o e => e) S3.mu, fun a ha => ⟨(mo a (hOb ▸ ha)).1, (S3.mo a ha).2⟩, ?_⟩
        obtain ⟨l3, c3, V3, H3⟩ := S3.ex
        exact ⟨l3, c3, V3, H3.st (hid_mono hXX)⟩
      · cases f with
        | next => exact h3
        | cont => exact h3
        | brk => exact h3 _
        | ret v => exact h3
    · have hin : i = its.length := by omega
      subst hin
      refine W.done s' _ _ hZ fun h' tk hk' => ?_
      have hk'' : KeepBut wr s'.heap h' := hk'
      refine wpAny_mono (k E _ _ ⟨S'.inv.but hOff hk'' _, S'.gr.thenBut hw0 hk'' tk, ⟨fun y hy => ?_, S.bel.a, S.bel.b⟩, (μs its.length).fr _ _ _ _ ((hid_but hG.wX hk'').trans (hid_mono hXX)) (fun b hb o e => hk'' b o (hOw b (hO _ ▸ hb)) e) S'.mu, fun a ha => ⟨(mo a (hO _ ▸ ha)).1, (S'.mo a ha).2⟩, lm', cm', V'.but hLw hCw hk'', ?_⟩) (fun f s3 h3 => ?_) fun _ _ e => e
      · obtain ⟨o, ho⟩ := S'.bel.ex y (hXX y hy)
        refine ⟨o, hk'' y o (fun m => ?_) ho⟩
        obtain ⟨o', ho'⟩ := S.bel.ex y hy
        rw [hnew y m] at ho'; cases ho'
      · exact (H'.st (hid_but hG.wX hk'')).st (hid_mono hXX)
      · cases f with
        | next => exact h3
        | cont => exact h3
        | brk => exact h3
        | ret v => exact h3
  · obtain ⟨u, hu, hq⟩ := H y q (h0 _ hy)
    refine ⟨u, hu, q.st _ _ _ (hid_new (fun b o e nb => G1.keep b o e (fun z => nb (z ▸ S.bel.a)) (fun z => nb (z ▸ S.bel.b))) fun z hz => ?_) hq⟩
    rcases List.mem_append.mp hz with hz | hz
    · exact .inr (hnew z hz)
    · exact .inl hz
end
end Mine
end

section
open PySem PySem.Calls PyProof.Rows PySem.W
open PySem.Builtin PySem.Builtin.List PySem.Builtin.Str
set_option Elab.async false
set_option maxRecDepth 100000
set_option linter.unusedVariables false
namespace Mine
noncomputable section
variable {w : World} {A : Around} {X : List Addr} {env : Env} {Γ : Ctxt} {s₀ : Shared} {μ μ' μ₁ : Mu}

/-- nothing holds any more -/
noncomputable def Mu.never (O : List Addr) : Mu := ⟨O, fun _ _ => False, fun _ _ _ _ _ _ h => h⟩
/-- a for that leaves in its first turn -/
theorem bd_forBrk {ι : Type} {target : Expr} {pv : ι → VP} {bnd : ι → Ctxt → Ctxt} {pos : Pos} {iter : Expr} {body orelse rest : List Stmt} {p : ι} {r : List ι} {Γb : Ctxt} {μb : Mu} {R : Flow → Shared → Prop} (F : Fn w env X) (hA : A.handled = none)
    (hs : SrcM w A X env s₀ Γ μ iter μ₁ ((p :: r).map pv)) (hT : TgS w A env target pv bnd) (hOb : μb.O = μ₁.O)
    (turn : ∀ (X' : List Addr) (b : Shared) (R' : Flow → Shared → Prop), (∀ z ∈ X, z ∈ X') → Fn w env X' → (∀ s', St w env X' b μb Γb s' → R' .brk s') → Bd w A X' env b μ₁ (bnd p Γ) body R')
    (kb : Bd w A X env s₀ μb Γb rest R) (hcl : ∀ n c, (n, c) ∈ env.cells → ∃ n', env.cells.lookup n' = some c)
    (hfs : ∀ x, foldedSetIterable iter env x = pure x := by intro _; rfl) : Bd w A X env s₀ μ Γ (.For target iter body orelse pos :: rest) R := by
  refine bd_forG (p :: r) (Γs := fun _ => Γ) (Γb := Γb) (O := μ₁.O) (μs := fun i => match i with | 0 => μ₁ | _ + 1 => .never μ₁.O) (μb := μb) (Φr := fun _ _ => False) (rp := vNone) F hA hs (fun z hz => hz) hT (fun i => by cases i <;> rfl) hOb (fun _ _ _ _ h => h) (fun _ _ _ _ h => h.elim) (fun X' i p' b R' hp hX F' _ _ _ hbrk => ?_) (fun E s E' S => S.mu.elim) kb hcl hfs
  cases i with
  | zero => cases hp; exact turn X' b R' hX F' hbrk
  | succ i => exact fun s E S => S.mu.elim

theorem srcM_str {iter : Expr} {x : Str} (h : EvM w A X env s₀ Γ μ iter μ' (vStr x)) : SrcM w A X env s₀ Γ μ iter μ' (x.cps.toList.map fun c => vStr ⟨#[c]⟩) := by
  intro s E Q S k
  refine h s E _ S fun v s1 S1 hs1 hp => ?_
  obtain ⟨t, rfl⟩ := hp
  have I1 := S1.inv
  have hz : (x.cps.toList.map fun c => vStr ⟨#[c]⟩).length = x.cps.size := by simp
  have go : ∀ (T : String) (hT : ["enumerate", "zip", "dict_itemiterator", "dict_reverseitemiterator", "odict_iterator", "itertools.zip_longest", "itertools.pairwise"].all (fun n => (Value.type T) != .type n) = true) (o : Obj) (hc : o.cls = .type T) (hf : o.isFreed = false) (hz0 : (s1.heap.push o).IsStrIter s1.heap.objs.size T x t 0),
      (∀ A' : Around, A'.handled = none → Walks PG w A' s1.heap.objs.size [s1.heap.objs.size] [s1.heap.objs.size] x.cps.size (SignAt x) (fun i h => h.IsStrIter s1.heap.objs.size T x t i)) → Q (.ref s1.heap.objs.size) { s1 with heap := s1.heap.push o } := by
    intro T hT o hc hf hz0 hW
    refine k s1 _ [s1.heap.objs.size] [s1.heap.objs.size] (SignAt x) (fun i h => h.IsStrIter s1.heap.objs.size T x t i) _ S1 (I1.keeps _ (push_K _)) (Gr.keeps _ (push_K _)) (fun b hb => ?_) ⟨fun A' hA' => ?_, hz0, fun i h z b hb => ?_, fun b hb => ?_, fun b hb => .inl hb, fun i p v hp hv => ?_, ?_⟩
    · rw [List.mem_singleton.mp hb]; exact new_none _
    · rw [hz]; exact hW A' hA'
    · rw [List.mem_singleton.mp hb]; obtain ⟨o, ho, _⟩ := z; exact ⟨o, ho⟩
    · exact List.mem_append_left _ hb
    · obtain ⟨c, u, hc, rfl⟩ := hv
      rw [List.getElem?_map, Array.getElem?_toList, hc] at hp
      cases hp
      exact ⟨u, rfl⟩
    · exact ⟨o, Heap.get?_push_size _ hf, by rw [hc]; exact hT, fun i h z => by obtain ⟨o', ho', hc', _⟩ := z; exact ⟨o', ho', hc'.trans hc.symm⟩⟩
  cases ha : x.cps.all (· < 128)
  · exact wpAny_pyIter_wide ha (go "str_iterator" (by decide) _ rfl rfl ⟨_, Heap.get?_push_size _ rfl, rfl, rfl⟩ fun A' hA => Walks.strWide hA _ x t)
  · exact wpAny_pyIter_ascii ha (go "str_ascii_iterator" (by decide) _ rfl rfl ⟨_, Heap.get?_push_size _ rfl, rfl, rfl⟩ fun A' hA => Walks.strAscii hA _ x t)
theorem all3 {g : Heap} {p q r : VP} {vs : List Value} (h : All2 g [p, q, r] vs) : ∃ v u z, vs = [v, u, z] ∧ p.p g v ∧ q.p g u ∧ r.p g z := by
  have := h.length
  match vs, this with
  | [v, u, z], _ => exact ⟨v, u, z, rfl, h.1, h.2.1, h.2.2.1⟩
/-- range(n, 0, -1) -/
theorem srcM_rangeD {x : Str} {np pos : Pos} {a b c : Expr} {n : Int} (hE : EnvOk env) (h : EvLM w A X env s₀ Γ μ [a, b, c] [vInt n, vInt 0, vInt (-1)]) (hn : n < 2 ^ 62) (hlo : -(2 ^ 62) ≤ n)
    (hk : env.kindOf x = some .globalImplicit) (e : nsK w.params mainGlobals x = some none) (e' : nsK w.params builtinsNs x = some (some (.type "range"))) (hplain : (backTo pos (starEach [a, b, c] env)).any (·.1) = false := by rfl) (hd : (x == ("__debug__" : Str)) = false := by rfl) :
    SrcM w A X env s₀ Γ μ (.Call (.Name x np) [a, b, c] [] pos) μ ((List.range n.toNat).map fun (i : Nat) => vInt (n - (i : Int))) := by
  intro s E Q S k
  refine wpAny_Call_NameR (Name_function_global hE.k hk (loadBi_K hE S.inv e e' (PySem.callWith_type hplain (evalArgs_M h hplain S fun vs s1 S1 hs1 hA => ?_))) hd)
  obtain ⟨_, _, _, rfl, ⟨t, rfl⟩, ⟨t1, rfl⟩, ⟨t2, rfl⟩⟩ := all3 hA
  have I1 := S1.inv
  refine call_range_3 (by decide) ?_ (hp := Or.inl (PyProof.noPylong_small (by omega)))
  refine wpAny_pyIter_range (IsRange.new _ n 0 (-1) _ _ _) (small_down hlo hn (by decide) (by decide)) ?_
  have hz : ((List.range n.toNat).map fun i : Nat => vInt (n - (i : Int))).length = n.toNat := by simp
  refine k s1 _ [(s1.heap.push { cls := .type "range", data := .fields #[.int n t, .int 0 t1, .int (-1) t2] }).objs.size] [(s1.heap.push { cls := .type "range", data := .fields #[.int n t, .int 0 t1, .int (-1) t2] }).objs.size] (fun i v => i < n.toNat ∧ ∃ t, v = .int (n + (i : Int) * (-1)) t) (fun i h => IsRangeIter h (s1.heap.push { cls := .type "range", data := .fields #[.int n t, .int 0 t1, .int (-1) t2] }).objs.size (n + (i : Nat) * (-1)) ((n.toNat : Int) - (i : Nat)) (-1)) _ S1
    ((I1.keeps _ (push_K _)).keeps (s := { s1 with heap := _, toks := _ }) _ (push_K (s := { s1 with heap := _, toks := _ }) _)) ((Gr.keeps _ (push_K _)).trans (Gr.keeps (s := { s1 with heap := _, toks := _ }) _ (push_K (s := { s1 with heap := _, toks := _ }) _)))
    (fun b hb => ?_) ⟨fun A' hA' => ?_, ?_, fun i h z b hb => ?_, fun b hb => ?_, fun b hb => .inl hb, fun i p v hp hv => ?_, ?_⟩
  · rw [List.mem_singleton.mp hb]; exact Heap.get?_none_of_le (by rw [Heap.size_push]; exact Nat.le_succ _)
  · rw [hz]; exact (Walks.range hA' _ n (-1) n.toNat).bound
  · show Heap.get? _ _ = some _
    rw [show (n + ((0 : Nat) : Int) * (-1)) = n by simp, show ((n.toNat : Int) - ((0 : Nat) : Int)) = Builtin.Range.rangeSize n 0 (-1) by rw [rangeSize_down]; split <;> omega]
    exact Heap.get?_push_size _ rfl
  · rw [List.mem_singleton.mp hb]; exact ⟨_, z⟩
  · exact List.mem_append_left _ hb
  · obtain ⟨hi, t', rfl⟩ := hv
    rw [List.getElem?_map, List.getElem?_range hi] at hp
    cases hp
    refine ⟨t', ?_⟩
    congr 1; omega
  · exact ⟨_, Heap.get?_push_size _ rfl, rfl, fun i h z => ⟨_, z, rfl⟩⟩
end
end Mine
end

section
open PySem PySem.Calls PyProof.Rows PySem.W
open PySem.Builtin PySem.Builtin.List PySem.Builtin.Str
set_option Elab.async false
set_option maxRecDepth 100000
set_option linter.unusedVariables false
namespace Mine
noncomputable section
variable {w : World} {A : Around} {X Y : List Addr} {env cenv : Env} {Γ : Ctxt} {s₀ : Shared} {μ μ' μ₁ μ₂ : Mu} {c : Code}
variable {a : FA} {mx : Int} {sc : Str} {ps ps' : List (Str × Str)} {ls ls' : List Str}

/-- a method of o's line, o the formatter -/
theorem line_mcall {o : Expr} {name : Str} {p1 p2 p3 : Pos} {es : List Expr} {f : Addr} {n : Nat} {qs : List VP} {r : VP} (hA : Rm A n) (ho : EvM w A X env s₀ Γ (muF a mx sc ps ls) o (muF a mx sc ps ls) (vIs (.ref a.f))) (ha : EvLM w A X env s₀ Γ (muF a mx sc ps ls) es qs)
    (hn : name ≠ ("_initial_size" : Str)) (hm : methB (K' w.params) 178 name (.ref f) = true) (Cn : MOK w n f (muA a.x a.dx ps 0) (AcP a.x a.dx ps' 0) (vIs (.ref a.x) :: qs) r)
    (hf : isFnK w.params f = true) (h1 : f ≠ T1 := by decide) (h2 : f ≠ T2 := by decide) (hplain : (backTo p3 (starEach es env)).any (·.1) = false := by rfl)
    (hat : eval (.Attribute o "_current_line" p1) env = (do
      let o' ← eval o env
      standAt p1.atName
      let r ← holding [o'] (getAttr o' "_current_line" true)
      letTemporaryGo o o' r
      pure r) := by with_unfolding_all rfl)
    (he : eval (.Call (.Attribute (.Attribute o "_current_line" p1) name p2) es [] p3) env = (do
      let ov ← eval (.Attribute o "_current_line" p1) env
      standAt p2.atName
      let (f, first) ← holding [ov] (getMethod ov name (do return (← importBound (.Attribute o "_current_line" p1) env).getD true))
      callWith p3 f first (backTo p3 (starEach es env)) (backToKw p3 (keywordEach [] env))) := by rfl) :
    EvM w A X env s₀ Γ (muF a mx sc ps ls) (.Call (.Attribute (.Attribute o "_current_line" p1) name p2) es [] p3) (muF a mx sc ps' ls) r :=
  acc_mcall (x := a.x) (dx := a.dx) (pp := ps) (k := 0) hA (em_attrF (dt := .plain) (dx := a.df) ho (by intro c; simp) (fun g h H => fm_line H) fv_line hat) ha (fun g h H => FmP.ac H) hn hm Cn focF hf h1 h2 hplain he
theorem m_pf : methB (K' w.params) 178 "pop_from" (.ref 130) = true := by kernel_rfl
theorem f_pf : isFnK w.params 130 = true := by kernel_rfl
theorem em_max {p0 pos : Pos} (hE : EnvOk env) (hx : (("self" : Str), vIs (.ref a.f)) ∈ Γ) : EvM w A X env s₀ Γ (muF a mx sc ps ls) (.Attribute (.Name "self" p0) "_maxlen" pos) (muF a mx sc ps ls) (vInt mx) :=
  em_attrF (dt := .plain) (dx := a.df) (em_ev (ev_name hE hx)) (by intro c; simp) (fun g h H => fm_max H) fv_max
theorem em_sc {p0 pos : Pos} (hE : EnvOk env) (hx : (("self" : Str), vIs (.ref a.f)) ∈ Γ) : EvM w A X env s₀ Γ (muF a mx sc ps ls) (.Attribute (.Name "self" p0) "_splitchars" pos) (muF a mx sc ps ls) (vStr sc) :=
  em_attrF (dt := .plain) (dx := a.df) (em_ev (ev_name hE hx)) (by intro c; simp) (fun g h H => fm_sc H) fv_sc
theorem em_idxT {value slice : Expr} {pos : Pos} {qs : List VP} {p : VP} {k : Int} (hv : EvM w A X env s₀ Γ μ value μ (vTup qs)) (hs : Ev w A X env Γ slice (vInt k)) (h0 : 0 ≤ k) (hp : qs[k.toNat]? = some p)
    (hlen : qs.length < 2 ^ 62 := by (first | decide | simp)) (hsl : ∀ o i, subscripted slice false o i = operate [o, i] (getItem o i) := by intro _ _; with_unfolding_all rfl) : EvM w A X env s₀ Γ μ (.Subscript value slice pos) μ p := by
  intro s E Q S h
  refine Subscript_ (hv s E _ S fun o s1 S1 hs1 h1 => em_go (em_ev hs) S1 fun i s2 S2 hs2 h2 => ?_)
  obtain ⟨t, rfl⟩ := h2
  obtain ⟨a, o, n, vs, rfl, ho, hc, hd, hA, _⟩ := seq_get ((vSeq "tuple" qs).st _ _ _ hs2 h1)
  obtain ⟨x, hx, hpx⟩ := hA.get hp
  have ht : IsTup s2.heap a vs := ⟨o, ho, hc, n, hd⟩
  obtain ⟨hlt, _⟩ := List.getElem?_eq_some_iff.mp hp
  have hsz : vs.size = qs.length := by rw [← hA.length]; simp
  refine tail_any ht.typeIs slot_tuple_getitem.lookup (getItem_tuple ht (by omega) (by omega) (j := k.toNat) ?_ (by rw [← Array.getElem?_toList]; exact hx) (h x s2 S2 (hs1.trans hs2) hpx)) (hsl _ _)
  unfold seqIndex?
  have : ¬ k < 0 := by omega
  simp only [this, if_false]
  rw [if_pos (by simp only [Bool.and_eq_true, decide_eq_true_eq]; omega)]
/-- a text as a test -/
theorem tm_str {e : Expr} {x : Str} (h : EvM w A X env s₀ Γ μ e μ' (vStr x)) (hz : x.length < 2 ^ 62) (he : ∀ whole : Sem Value, isTrue e env whole = (do let v ← whole; standAt e.pos; holding [v] (truthy v)) := by intro _; rfl) : TeM w A X env s₀ Γ μ e μ' ((x.length : Int) != 0) :=
  fun s E Q S k => wpAny_isTrue_value (h s E _ S fun v s1 S1 _ hp => by
    obtain ⟨t, rfl⟩ := hp
    exact P.truthy_str (by omega) (k _ (S1.step (S1.inv.tok _) (Gr.tok _ _)))) (he _)
theorem bd_break {pos : Pos} {rest : List Stmt} {R : Flow → Shared → Prop} (h : ∀ s, St w env X s₀ μ Γ s → R .brk s) : Bd w A X env s₀ μ Γ (.Break pos :: rest) R := fun s E S => wpAny_execs_cons (wpAny_Break (h s S))

theorem ac_B : defB w.params 91 ["self", "fws", "string"] = true := by kernel_rfl
theorem ac_bind (vs : List Value) (h : vs.length = 3) : bindArgs (fdK w.params 91) ⟨vs, []⟩ = pure ((["self", "fws", "string"] : List Str).zip vs) := by
  match vs, h with
  | [a, b, c], _ => kernel_rfl
theorem append_fit_ok {p : Str × Str} (H : LineOk (ps ++ [p])) (ht : total (ps ++ [p]) ≤ mx) : MOK w 6 91 (muF a mx sc ps ls) (FmP a mx sc (ps ++ [p]) ls) [vIs (.ref a.f), vStr p.1, vStr p.2] vNone := by
  have hz : ps.length < 1000000 := by have := H.n; simp at this; omega
  refine mfn_intro (ns := ["self", "fws", "string"]) ac_B rfl lim_K FmP.sub ac_bind fun X A L s₀ R hA F hR => ?_
  refine bd_exprM (μ' := muF a mx sc (ps ++ [p]) ls) (line_mcall (hA.mono (by decide)) (em_ev (ev_name F.ok (.head _))) (elm_ev (evl_cons (ev_name F.ok (x := "fws") (p := vStr p.1) (.tail _ (.head _))) (evl_cons (ev_name F.ok (x := "string") (p := vStr p.2) (.tail _ (.tail _ (.head _)))) evl_nil))) (by decide) m_push (push_ok hz) f_push) ?_
  refine bd_ifMF (μ' := muF a mx sc (ps ++ [p]) ls) (tm_of (tm_cmp (em_lenLine (hA.mono (by decide)) F.ok (.head _) H (by kernel_rfl)) (em_max F.ok (.head _)) op_gtI) (by simp; omega)) fun E => bd_then ?_
  exact clsEnv_next hR _ rfl rfl
end
end Mine
end

section
open PySem PySem.Calls PyProof.Rows PySem.W
open PySem.Builtin PySem.Builtin.List PySem.Builtin.Str
set_option Elab.async false
set_option maxRecDepth 100000
set_option linter.unusedVariables false
namespace Mine
noncomputable section
variable {w : World} {A : Around} {X Y : List Addr} {env cenv : Env} {Γ : Ctxt} {s₀ : Shared} {μ μ' μ₁ μ₂ : Mu} {c : Code}
variable {a : FA} {mx : Int} {sc : Str} {ps ps' : List (Str × Str)} {ls ls' : List Str}
theorem em_is {e : Expr} {p q : VP} (h : EvM w A X env s₀ Γ μ e μ' p) (hpq : p = q) : EvM w A X env s₀ Γ μ e μ' q := hpq ▸ h
theorem srcM_is {e : Expr} {ps qs : List VP} (h : SrcM w A X env s₀ Γ μ e μ' ps) (hpq : ps = qs) : SrcM w A X env s₀ Γ μ e μ' qs := hpq ▸ h
noncomputable def SP : Str := " "
theorem g_range : nsK w.params mainGlobals "range" = some none := by kernel_rfl
theorem b_range : nsK w.params builtinsNs "range" = some (some (.type "range")) := by kernel_rfl
theorem ac_cells {L : Addr} : (callEnvC (fdK w.params 91) L 91).cells = [] := by kernel_rfl
set_option maxHeartbeats 4000000 in
theorem append_over_ok {p : Str × Str} (H : LineOk (ps ++ [p])) (H' : LineOk ps) (hps : ps ≠ []) (hp : p.1 = SP) (ht : mx < total (ps ++ [p])) (hl : ls.length < 1000000) :
    MOK w 6 91 (muF a mx SP ps ls) (FmP a mx SP [p] (ls ++ [flat ps])) [vIs (.ref a.f), vStr p.1, vStr p.2] vNone := by
  have hz : ps.length < 1000000 := H'.n
  obtain ⟨m, hm⟩ : ∃ m, ps.length = m + 1 := ⟨ps.length - 1, by have := List.length_pos_iff.mpr hps; omega⟩
  refine mfn_intro (ns := ["self", "fws", "string"]) ac_B rfl lim_K FmP.sub ac_bind fun X A L s₀ R hA F hR => ?_
  have hcl : ∀ n c, (n, c) ∈ (callEnvC (fdK w.params 91) L 91).cells → ∃ n', (callEnvC (fdK w.params 91) L 91).cells.lookup n' = some c := fun n c h => by rw [ac_cells] at h; cases h
  refine bd_exprM (μ' := muF a mx SP (ps ++ [p]) ls) (line_mcall (hA.mono (by decide)) (em_ev (ev_name F.ok (.head _))) (elm_ev (evl_cons (ev_name F.ok (x := "fws") (p := vStr p.1) (.tail _ (.head _))) (evl_cons (ev_name F.ok (x := "string") (p := vStr p.2) (.tail _ (.tail _ (.head _)))) evl_nil))) (by decide) m_push (push_ok hz) f_push) ?_
  refine bd_ifMT (μ' := muF a mx SP (ps ++ [p]) ls) (tm_of (tm_cmp (em_lenLine (hA.mono (by decide)) F.ok (.head _) H (by kernel_rfl)) (em_max F.ok (.head _)) op_gtI) (decide_eq_true ht)) fun E => ?_
  refine bd_forBrk (p := vStr ⟨#[32]⟩) (r := []) (pv := fun p : VP => p) (μb := muF a mx SP (ps ++ [p]) ls) (Γb := [("self", vIs (.ref a.f)), ("i", vInt ps.length)]) F hA.h (srcM_str (em_sc F.ok (.head _))) (tgs_name (x := "ch") (by kernel_rfl)) rfl (fun X' b R' hX F' hbrk => ?_) ?_ hcl
  · refine bd_forBrk (p := vInt ps.length) (r := ((List.range (ps.length : Int).toNat).map fun (i : Nat) => vInt ((ps.length : Int) - (i : Int))).tail) (pv := fun p : VP => p) (μ₁ := muF a mx SP (ps ++ [p]) ls) (μb := muF a mx SP (ps ++ [p]) ls) (Γb := [("self", vIs (.ref a.f)), ("i", vInt ps.length)]) F' hA.h
      (srcM_is (srcM_rangeD (n := ps.length) F'.ok (elm_cons (em_is (em_bin (line_mcall (hA.mono (by decide)) (em_ev (ev_name F'.ok (.tail _ (.head _)))) elm_nil (by decide) m_pc (part_count_ok (by simp; omega)) f_pc) (em_ev ev_int) op_subI) (by simp)) (elm_ev (evl_cons ev_int (evl_cons (ev_neg ev_int) evl_nil)))) (by omega) (by omega) (by kernel_rfl) g_range b_range)
        (by rw [List.map_id', Int.toNat_natCast, hm, List.range_succ_eq_map]; simp)) (tgs_name (x := "i") (by kernel_rfl)) rfl (fun X'' b' R'' hX' F'' hbrk' => ?_) ?_ hcl
    · refine bd_ifMT (μ' := muF a mx SP (ps ++ [p]) ls) (tm_of (tm_bool (em_isspace (em_ev (ev_name F''.ok (x := "ch") (p := vStr ⟨#[32]⟩) (.tail _ (.head _)))))) (by decide +kernel)) fun E => ?_
      refine bd_assignM F'' (p := vStr p.1) (μ' := muF a mx SP (ps ++ [p]) ls) (em_idxT (em_accItem (x := a.x) (dx := a.dx) (ps := ps ++ [p]) (k := 0) (p := p) (em_line F''.ok (.tail _ (.tail _ (.head _)))) (em_ev (ev_name F''.ok (x := "i") (p := vInt ps.length) (.head _))) (fun g h H => FmP.ac H) (by omega) (by simp) (by simp; omega)) ev_int (by decide) rfl) ?_
      refine bd_ifMT (μ' := muF a mx SP (ps ++ [p]) ls) (tm_and (a := true) (b := true) (tm_of (tm_str (em_ev (ev_name F''.ok (x := "fws") (p := vStr p.1) (.head _))) (by rw [hp]; decide +kernel)) (by rw [hp]; decide +kernel)) (fun _ => tm_te (te_of (te_cmp (ev_idxS (k := 0) (ev_name F''.ok (x := "fws") (p := vStr p.1) (.head _)) ev_int (by decide) (by rw [hp]; decide +kernel)) (ev_name F''.ok (x := "ch") (p := vStr ⟨#[32]⟩) (.tail _ (.tail _ (.head _)))) op_eqS) (by rw [hp]; decide +kernel))) (fun e => nomatch e)) fun E => ?_
      refine bd_break fun s S => hbrk' s (S.sub fun z hz => ?_)
      rcases List.mem_cons.mp hz with e | hz
      · rw [e]; exact .tail _ (.tail _ (.tail _ (.head _)))
      · rw [List.mem_singleton.mp hz]; exact .tail _ (.head _)
    · exact bd_break fun s S => hbrk s S
  · refine bd_assignM F (p := vList (((ps ++ [p]).drop ps.length).map vPart)) (μ' := muF a mx SP ((ps ++ [p]).take ps.length) ls) (line_mcall (hA.mono (by decide)) (em_ev (ev_name F.ok (.head _))) (elm_ev (evl_cons (ev_name F.ok (x := "i") (p := vInt ps.length) (.tail _ (.head _))) evl_nil)) (by decide) m_pf (pop_from_ok (by simp) H.n) f_pf) ?_
    rw [List.take_left, List.drop_left]
    refine bd_exprM (em_addLine F.ok (.tail _ (.head _)) (em_strLine (hA.mono (by decide)) F.ok (.tail _ (.head _)) H' (by kernel_rfl)) hl (by intro _; rfl) (by rfl) (by rfl) (by rfl) (by rfl)) ?_
    refine bd_exprM (μ' := muF a mx SP [p] (ls ++ [flat ps])) (line_mcall (hA.mono (by decide)) (em_ev (ev_name F.ok (.tail _ (.head _)))) (elm_ev (evl_cons (ev_name F.ok (x := "remainder") (p := vList ([p].map vPart)) (.head _)) evl_nil)) (by decide) m_reset (reset_ok (ps := ps) (qs := [p]) (by have := H.n; simpa using this)) f_reset) (bd_then ?_)
    exact clsEnv_next hR _ rfl rfl
end
end Mine
end

section
open PySem PySem.Calls PyProof.Rows PySem.W
open PySem.Builtin PySem.Builtin.List PySem.Builtin.Str
set_option Elab.async false
set_option maxRecDepth 100000
set_option linter.unusedVariables false
set_option linter.unusedSimpArgs false
namespace Mine
noncomputable section
variable {w : World} {A : Around}

/-! ### an _Accumulator made: list.__new__ -/
noncomputable def makesInL (K : Frag) (C : Addr) : Bool := match K.lookup C with
  | some ⟨_, _, .cls cd, sl⟩ => !cd.hasDel && (sl.toList[4]?).join == some (.builtin "list.__new__") && !cd.mro.isEmpty && cd.mro.contains (.ref C) && cd.mro.contains (.type "list") &&
      specialIn K (.ref C) "__call__" == some (some (.builtin "type.__call__")) && instIn K (.ref C) (.type "type") == some true
  | _ => false
structure MakesL (M : Model) (h : Heap) (C : Addr) : Prop where
  obj : ∃ oc od cd sl, h.get? C = some ⟨oc, od, .cls cd, sl⟩ ∧ cd.hasDel = false ∧ cd.mro.isEmpty = false
  made : Looks M h (Bind.madeBy (.ref C)) (some "list.__new__")
  base : Looks M h (Bind.staticBase (.ref C)) (.ref C)
  self : Looks M h (isSubtype (.ref C) (.ref C)) true
  top : Looks M h (isSubtype (.ref C) (.type "list")) true
  call : Looks M h (specialOf (.ref C) "__call__") (some (.builtin "type.__call__"))
  typ : Looks M h (isInstance (.ref C) (.type "type")) true
theorem makesL_of {K : Frag} {M : Model} {h : Heap} (X : K.In h) {C : Addr} (e : makesInL K C = true) : MakesL M h C := by
  unfold makesInL at e
  split at e
  · rename_i oc od cd sl ho
    simp only [Bool.and_eq_true, Bool.not_eq_true', beq_iff_eq] at e
    obtain ⟨⟨⟨⟨⟨⟨e2, e3⟩, e4⟩, e5⟩, e6⟩, e7⟩, e8⟩ := e
    have hc : clsIn K C = some cd := by unfold clsIn; rw [ho]
    have hm : Looks M h (mroOf (.ref C)) cd.mro := (looks_clsIn X hc).andThen .now
    obtain ⟨c, l, hl⟩ : ∃ c l, cd.mro = c :: l := by cases q : cd.mro with | nil => rw [q] at e4; cases e4 | cons c l => exact ⟨c, l, rfl⟩
    have made : Looks M h (Bind.madeBy (.ref C)) (some "list.__new__") := by
      intro A Q E s k q
      unfold Bind.madeBy
      refine wpAny_bind (hm A _ E s k ?_)
      rw [hl, List.forIn_cons]
      refine wpAny_bind (wpAny_bind (wpAny_bind (wpAny_bind (wpAny_loadPart (k _ _ (X _ _ ho)) (wpAny_pure ?_)))))
      dsimp only
      rw [← Array.getElem?_toList, e3]
      exact wpAny_pure (wpAny_pure (wpAny_pure q))
    refine ⟨⟨oc, od, cd, sl, X _ _ ho, e2, e4⟩, made, ?_, looks_mroIn X ?_, looks_mroIn X ?_, looks_specialIn X e7, looks_instIn X e8⟩
    · intro A Q E s k q
      unfold Bind.staticBase
      refine wpAny_bind (hm A _ E s k ?_)
      rw [hl, List.forIn_cons]
      exact wpAny_bind (wpAny_bind (wpAny_bind (made A _ E s k (wpAny_pure (wpAny_pure (wpAny_pure q))))))
    · unfold mroIn; rw [hc, Option.bind_some, if_neg (by rw [e4]; decide), e5]
    · unfold mroIn; rw [hc, Option.bind_some, if_neg (by rw [e4]; decide), e6]
  · cases e
theorem makesL178 : makesInL (K' w.params) 178 = true := by kernel_rfl
noncomputable abbrev accObj (C dx : Addr) : Obj := { cls := .ref C, dict := some dx, data := .seq #[] }
theorem ln_kind : builtinKind "list.__new__" = some .builtinFn := by decide +kernel
theorem ln_split : splitId "list.__new__" = some ("list", "__new__") := by decide +kernel
theorem ln_sig (a v : Value) : (match Manifest.signature? "list.__new__" with | some sig => Bind.checkArgs "list.__new__" sig ⟨[a, v], []⟩ | none => pure ()) = pure () := by kernel_rfl

variable {C : Addr} {R : Result → Shared → Prop} {h : Heap} {g : Array GenState} {d : Drawn} {t : Nat} {os : OsState}
theorem new_L {v : Value} (Y : MakesL (model PG w) h C)
    (hq : R (.ok (.ret (.ref (h.objs.size + 1)))) ⟨(h.push emptyDict).push (accObj C h.objs.size), g, d, t, os⟩) :
    codeAny (model PG w) A (.call (.builtin "list.__new__") ⟨[.ref C, v], []⟩) R ⟨h, g, d, t, os⟩ := by
  obtain ⟨⟨oc, od, cd, sl, hC, e2, e4⟩, made, base, self, top, call, typ⟩ := Y
  have isT : Looks (model PG w) h (isType (.ref C)) true := (Looks.ld (part := none) hC).andThen .now
  refine codeAny_of_tree ?_
  show wpAny _ A.in1 (do checkBuiltinCall "list.__new__" ⟨[.ref C, v], []⟩; again (.builtin "list.__new__" ⟨[.ref C, v], []⟩)) _ _ _
  refine wpAny_bind ?_
  unfold checkBuiltinCall
  simp only [ln_kind, ln_split]
  repeat (first | simp only [bne_self_eq_false, Bool.false_eq_true, if_false, Bool.not_true, beq_self_eq_true, if_true] | lk)
  refine ⟨plainId_quiet F.plain_list_new _, codeAny_builtin_stack F.entry_list_new rfl fun p st => ?_⟩
  have hown := owner_list_new
  simp only [hown]
  repeat (first | simp only [bne_self_eq_false, Bool.false_eq_true, if_false, Bool.not_true, beq_self_eq_true, if_true] | lk)
  refine nd_load (Heap.get?_push_of_some _ (Heap.get?_push_of_some _ hC)) (wpAny_pure (wpAny_pure ?_))
  rw [if_neg (by rw [e2]; decide)]
  refine wpAny_pure (wpAny_pure ?_)
  rw [Heap.size_push]
  exact hq
theorem make_coreL {v : Value} {init : Value} (Y : MakesL (model PG w) h C) (hi : Looks (model PG w) h (typeLookup (.ref C) "__init__") (some init))
    (hb : ∀ self, Looks (model PG w) h (bindSpecial init self) (init, [self]))
    (hq : codeAny (model PG w) (A.under (.builtin "type.__call__" ⟨[.ref C, v], []⟩)) (.call init ⟨[.ref (h.objs.size + 1), v], []⟩) (InitBack (h.objs.size + 1) R) ⟨(h.push emptyDict).push (accObj C h.objs.size), g, d, t, os⟩) :
    codeAny (model PG w) A (.call (.ref C) ⟨[v], []⟩) R ⟨h, g, d, t, os⟩ := by
  have Y' := Y
  obtain ⟨⟨oc, od, cd, sl, hC, e2, e4⟩, made, base, self, top, call, typ⟩ := Y
  refine codeAny_of_tree ?_
  show wpAny _ _ (callAny (.ref C) _) _ _ _
  refine nd_load hC ?_
  show wpAny _ _ (callAny.viaDunder (.ref C) _) _ _ _
  unfold callAny.viaDunder
  refine wpAny_bind (call.at ?_)
  dsimp only
  rw [tc_bind]
  refine wpAny_bind (wpAny_pure (wpAny_bind (wpAny_pure ?_)))
  refine wpAny_pure (a := Fin.again (.call (.builtin "type.__call__") ⟨[.ref C, v], []⟩)) (And.intro rfl ?_)
  refine codeAny_call_builtin_at (Code.quiet_builtin _ (by decide +kernel)) entry_typeCall (check_slot tc_kind tc_split typ (tc_args _ _ _) ?_)
  unfold Builtin.«type.__call__»
  have hm : Looks (model PG w) h (mroOf (.ref C)) cd.mro := ((Looks.ld (part := none) hC).andThen .now).andThen .now
  repeat (first | simp only [e4, Bool.false_eq_true, if_false] | with_reducible refine wpAny_call ?_ | lk)
  refine new_L Y' ?_
  have k : ∀ b o, h.get? b = some o → ((h.push emptyDict).push (accObj C h.objs.size)).get? b = some o := fun b o e => Heap.get?_push_of_some _ (Heap.get?_push_of_some _ e)
  have hx : ((h.push emptyDict).push (accObj C h.objs.size)).get? (h.objs.size + 1) = some (accObj C h.objs.size) := by heap_get
  have t1 : Looks (model PG w) ((h.push emptyDict).push (accObj C h.objs.size)) (typeOf (.ref (h.objs.size + 1))) (.ref C) := (Looks.ld hx).andThen .now
  have s1 := self.keeps k
  have i1 := hi.keeps k
  have b1 := (hb (.ref (h.objs.size + 1))).keeps k
  unfold isInstance callSpecial? specialOf
  repeat (first | with_reducible refine wpAny_call ?_ | lk)
  refine codeAny_mono hq fun r s' z => ?_
  rcases r with e | (v | _ | _ | _) <;> first | exact z | exact z.elim | skip
  obtain ⟨rfl, z⟩ := z
  exact wpAny_pure (wpAny_pure z)
end
end Mine
end

section
open PySem PySem.Calls PyProof.Rows PySem.W
open PySem.Builtin PySem.Builtin.List PySem.Builtin.Str
set_option Elab.async false
set_option maxRecDepth 100000
set_option linter.unusedVariables false
namespace Mine
noncomputable section
variable {w : World} {A : Around} {X : List Addr} {env : Env} {Γ : Ctxt} {s₀ : Shared} {μ μ' μ₁ : Mu}

/-! ### things made anew, and owned -/
noncomputable def Mu.and (M μ : Mu) : Mu := ⟨M.O ++ μ.O, fun g h => M.Φ g h ∧ μ.Φ g h, fun g g' h h' hs hk H => ⟨M.fr _ _ _ _ hs (fun b hb => hk b (List.mem_append_left _ hb)) H.1, μ.fr _ _ _ _ hs (fun b hb => hk b (List.mem_append_right _ hb)) H.2⟩⟩
/-- a call's contract: an object made, with what it owns -/
noncomputable def NewOK (w : World) (n : Nat) (f : Value) (ps : List VP) (P : Mu → Addr → Prop) : Prop :=
  ∀ (X : List Addr) (A : Around) (s : Shared) (R : Result → Shared → Prop) (vs : List Value), Rm A n → Inv w s → Bel X s → All2 (hideAll s.heap X) ps vs →
    (∀ (M : Mu) (v : Addr) (s' : Shared), P M v → Inv w s' → Gr s s' → (∀ a ∈ M.O, s.heap.get? a = none) → Bel (M.O ++ X) s' → M.Φ (hideAll s'.heap (M.O ++ X)) s'.heap → R (.ok (.ret (.ref v))) s') → codeAny (model PG w) A (.call f ⟨vs, []⟩) R s
/-- an expression that makes one -/
noncomputable def EvN (w : World) (A : Around) (X : List Addr) (env : Env) (Γ : Ctxt) (e : Expr) (P : Mu → Addr → Prop) : Prop :=
  ∀ (s₀ s : Shared) (μ : Mu) (E Q : Value → Shared → Prop), St w env X s₀ μ Γ s →
    (∀ (M : Mu) (v : Addr) (s' : Shared), P M v → Inv w s' → Gr s s' → (∀ a ∈ M.O, s.heap.get? a = none) → Bel (M.O ++ X) s' → M.Φ (hideAll s'.heap (M.O ++ X)) s'.heap → Q (.ref v) s') → wpAny (model PG w) A (eval e env) Q E s
theorem st_new {M : Mu} {s s' : Shared} (F : Fn w env X) (S : St w env X s₀ μ Γ s) (hcl : ∀ n c, (n, c) ∈ env.cells → ∃ n', env.cells.lookup n' = some c) (I : Inv w s') (G : Gr s s') (hn : ∀ a ∈ M.O, s.heap.get? a = none) (B : Bel (M.O ++ X) s') (hΦ : M.Φ (hideAll s'.heap (M.O ++ X)) s'.heap) :
    St w env (M.O ++ X) s₀ (M.and μ) Γ s' ∧ (∀ a ∈ M.O, s₀.heap.get? a = none) ∧ ∀ a ∈ M.O, a ∉ X ∧ a ∉ μ.O := by
  have ownS := S.hiddenEx F
  have hsub : Sub (hideAll s.heap X) (hideAll s'.heap (M.O ++ X)) := hid_new (fun b o e nb => G.keep b o e (fun z => nb (z ▸ S.bel.a)) (fun z => nb (z ▸ S.bel.b))) fun y hy => (List.mem_append.mp hy).elim (fun h => .inr (hn y h)) .inl
  have nX : ∀ a ∈ M.O, a ∉ X := fun a ha m => by obtain ⟨o, ho⟩ := S.bel.ex a m; rw [hn a ha] at ho; cases ho
  obtain ⟨lm, cm, V, H⟩ := S.ex
  refine ⟨⟨I, ?_, B, ⟨hΦ, μ.fr _ _ _ _ hsub (fun b hb o e => G.keep b o e (S.mo b hb).2.1.a (S.mo b hb).2.1.b) S.mu⟩, fun a ha => ?_, lm, cm, V.gr S.inv G, H.st hsub⟩, fun a ha => S.gr.absent S.inv ownS (hn a ha), fun a ha => ⟨nX a ha, fun m => nX a ha (S.mo a m).1⟩⟩
  · exact (S.gr.trans G.o).mono fun z hz => (List.mem_append.mp hz).elim (fun h => List.mem_append_left _ h) fun h => List.mem_append_right _ (List.mem_append_right _ h)
  · rcases List.mem_append.mp ha with ha | ha
    · refine ⟨List.mem_append_left _ ha, off_new S.inv (hn a ha), fun m => nX a ha (F.sub a m), fun n c hm e => ?_⟩
      obtain ⟨n', hn'⟩ := hcl n c hm
      obtain ⟨o, ho, _⟩ := V.cell n' c hn'
      rw [e, hn a ha] at ho; cases ho
    · exact ⟨List.mem_append_right _ (S.mo a ha).1, (S.mo a ha).2⟩
/-- x = a call that makes -/
theorem bd_assignN {x : Str} {px pos : Pos} {e : Expr} {P : Mu → Addr → Prop} {rest : List Stmt} {R : Flow → Shared → Prop} (F : Fn w env X) (he : EvN w A X env Γ e P) (hcl : ∀ n c, (n, c) ∈ env.cells → ∃ n', env.cells.lookup n' = some c)
    (k : ∀ (M : Mu) (v : Addr), P M v → (∀ a ∈ M.O, s₀.heap.get? a = none) → (∀ a ∈ M.O, Off w a) → Bd w A (M.O ++ X) env s₀ (M.and μ) ((x, vIs (.ref v)) :: dropN x Γ) rest R)
    (hk : stB env x = true := by kernel_rfl) (hs : swapsWith e (some (.Name x px)) pos.line env = pure false := by rfl) : Bd w A X env s₀ μ Γ (.Assign [.Name x px] e pos :: rest) R :=
  fun s E S => wpAny_execs_cons (wpAny_Assign_Name (he s₀ s μ E _ S fun M v s1 hP I G hn B hΦ => by
    obtain ⟨S1, h0, hX⟩ := st_new F S hcl I G hn B hΦ
    exact st_store (F.mono fun z hz => List.mem_append_right _ hz) S1 rfl hk fun s2 S2 => k M v hP h0 (fun a ha => (S1.mo a (List.mem_append_left _ ha)).2.1) s2 E S2) hs)
/-- o.attr = what is made anew -/
theorem bd_setN {o : Expr} {attr : Str} {pa pos : Pos} {e : Expr} {x C dx : Addr} {bm : List Value} {ns : List Str} {P : Mu → Addr → Prop} {rest : List Stmt} {R : Flow → Shared → Prop} (F : Fn w env X) (he : EvN w A X env Γ e P) (hcl : ∀ n c, (n, c) ∈ env.cells → ∃ n', env.cells.lookup n' = some c)
    (ho : ∀ Y s₀ (μ : Mu), Fn w env Y → EvM w A Y env s₀ Γ μ o μ (vIs (.ref x))) (hO : ∀ a ∈ [dx], a ∈ μ.O)
    (Pa : Passes bm) (hp : passB (K' w.params) C bm = true) (hc : storeIn (K' w.params) C attr = true) (μn : Mu → Addr → Mu) (hμO : ∀ M v, P M v → (μn M v).O = M.O ++ μ.O)
    (hI : ∀ (M : Mu) (v : Addr), P M v → (∀ a ∈ M.O, a ∉ X ∧ a ∉ μ.O) → ∀ g h, M.Φ g h → μ.Φ g h → ∃ dt mA, Ins h x C dx dt mA ∧ (∀ c, dt ≠ .cls c) ∧ Within mA ns ∧ ∀ g' h', Sub g g' → Ins h' x C dx dt (fun y => if y = attr then some (.ref v) else mA y) → (∀ b, b ≠ dx → ∀ o, h.get? b = some o → h'.get? b = some o) → (μn M v).Φ g' h')
    (k : ∀ (M : Mu) (v : Addr), P M v → (∀ a ∈ M.O, s₀.heap.get? a = none) → (∀ a ∈ M.O, a ∉ X ∧ a ∉ μ.O) → Bd w A (M.O ++ X) env s₀ (μn M v) Γ rest R) (hsz : ns.length ≤ 1000 := by decide)
    (hs : swapsWith e (some (.Attribute o attr pa)) pos.line env = pure false := by rfl) : Bd w A X env s₀ μ Γ (.Assign [.Attribute o attr pa] e pos :: rest) R :=
  fun s E S => wpAny_execs_cons (plainObj_wpAny_Assign_Attribute (he s₀ s μ E _ S fun M v s1 hP I G hn B hΦ => by
    obtain ⟨S1, h0, hX⟩ := st_new F S hcl I G hn B hΦ
    refine ho _ s₀ _ (F.mono fun z hz => List.mem_append_right _ hz) s1 E _ S1 fun u s2 S2 hs2 hu => ?_
    have hu' : u = .ref x := hu
    subst hu'
    obtain ⟨hM, hμ⟩ := S2.mu
    obtain ⟨dt, mA, J, hn', hw, hput⟩ := hI M v hP hX _ _ hM hμ
    have hdx : dx ∈ (M.and μ).O := List.mem_append_right _ (hO dx (.head _))
    refine setAttr_ins S2.inv J hn' Pa hp hc hw hsz fun h' tk J' hb => ?_
    have oX := (S2.mo dx hdx)
    have hsub := hid_same oX.1 hb
    have S3 := S2.turn (μ' := μn M v) (s' := { s2 with heap := h', toks := tk }) (S2.inv.but (off1 oX.2.1) (.same hb) tk) (.but (in1 hdx) (.same hb) tk) (hμO M v hP) (hput _ _ hsub J' fun b hne o e => (hb.2 b hne).trans e) (S2.bel.but (.same hb) (ex1 (let ⟨o, _, _, ho, _⟩ := J'.ns; ⟨o, ho⟩)) tk)
    exact k M v hP h0 hX _ E S3.1) hs)

/-- a def's contract: things made, and the objects of μ turned -/
noncomputable def NMOK (w : World) (n : Nat) (f : Addr) (μ : Mu) (P : Mu → Prop) (ps : List VP) (r : VP) : Prop :=
  ∀ (X : List Addr) (A : Around) (s : Shared) (R : Result → Shared → Prop) (vs : List Value), Rm A n → Inv w s → Bel X s → (∀ a ∈ μ.O, a ∈ X ∧ Off w a) → μ.Φ (hideAll s.heap X) s.heap → All2 (hideAll s.heap X) ps vs →
    (∀ (M : Mu) v s', P M → (∀ a ∈ M.O, a ∈ μ.O ∨ s.heap.get? a = none) → Inv w s' → GrO μ.O s s' → Bel (M.O ++ X) s' → M.Φ (hideAll s'.heap (M.O ++ X)) s'.heap → r.p (hideAll s'.heap (M.O ++ X)) v → R (.ok (.ret v)) s') → codeAny (model PG w) A (.call (.ref f) ⟨vs, []⟩) R s
theorem nmfn_intro {f : Addr} {n : Nat} {P : Mu → Prop} {ns : List Str} {ps : List VP} {r : VP} (hd : defB w.params f ns = true) (hlen : ns.length = ps.length) (hlim : nsK w.params cStatics "sys.recursionlimit" = some none)
    (hb : ∀ vs : List Value, vs.length = ns.length → bindArgs (fdK w.params f) ⟨vs, []⟩ = pure (ns.zip vs))
    (body : ∀ (X : List Addr) (A : Around) (L : Addr) (s₀ : Shared) (R : Flow → Shared → Prop), Rm A n → Fn w (callEnvC (fdK w.params f) L f) X →
      (∀ (M : Mu) v s', P M → (∀ a ∈ M.O, a ∈ μ.O ∨ s₀.heap.get? a = none) → Inv w s' → GrO (own (callEnvC (fdK w.params f) L f) ++ M.O) s₀ s' → Bel (M.O ++ X) s' → M.Φ (hideAll s'.heap (M.O ++ X)) s'.heap → r.p (hideAll s'.heap (M.O ++ X)) v → R (.ret v) s' ∧ (v = .none → R .next s')) →
      Bd w A X (callEnvC (fdK w.params f) L f) s₀ μ (ns.zip ps) (bodyK w.params f) R) : NMOK w (n + 1) f μ P ps r := by
  intro X A s R vs hA I B hO hΦ0 hv k
  unfold defB at hd
  simp only [Bool.and_eq_true, Bool.not_eq_true', beq_iff_eq, decide_eq_true_eq, List.isEmpty_iff] at hd
  obtain ⟨⟨⟨⟨⟨⟨⟨⟨h1, hgen⟩, hbody⟩, hclo⟩, hg⟩, hbi⟩, hkind⟩, hnd⟩, hcd⟩ := hd
  obtain ⟨o, ho, hdata, hrec, hco, hkd⟩ := fn_facts I h1
  have hbody' : (fdK w.params f).body = .stmts (bodyK w.params f) := by
    unfold bodyK
    split at hbody
    · rename_i e; rw [e]
    · cases hbody
  have hvl : vs.length = ns.length := hv.length.trans hlen.symm
  have hks : ∀ x ∈ ns.zip vs, (fdK w.params f).scope.names.lookup x.1 = some .local ∨ ((fdK w.params f).scope.names.lookup x.1 = some .cell ∧ ((cellsFrom (s.heap.objs.size + 1) (fdK w.params f).scope.names []).lookup x.1).isSome = true) := by
    intro x hx
    have := List.all_eq_true.mp hkind x.1 (List.of_mem_zip (a := x.1) (b := x.2) hx).1
    simp only [Bool.or_eq_true, beq_iff_eq, Bool.and_eq_true] at this
    rcases this with q | ⟨q, q'⟩
    · exact .inl q
    · exact .inr ⟨q, (cells_some _ _ _ _ _ rfl x.1).trans q'⟩
  have hks2 := hks
  refine codeAny_call_cells (fd := fdK w.params f) (Nat.lt_of_le_of_lt (Nat.le_add_right _ _) hA.d) ho hdata (noLimit_of I hlim) hrec hbody' (hb vs hvl) hclo hks (fun s₁ C => ?_) hco hgen hkd
  generalize hE : callEnvC (fdK w.params f) s.heap.objs.size f = env at C ⊢
  have hL : env.locals = s.heap.objs.size := by rw [← hE]; rfl
  have hC : env.cells = cellsFrom (s.heap.objs.size + 1) (fdK w.params f).scope.names [] := by rw [← hE]; rfl
  have hK : ∀ x, env.kindOf x = (fdK w.params f).scope.names.lookup x := by intro x; rw [← hE]; rfl
  obtain ⟨h₁, tk, rfl, keep⟩ := C.done
  have G : Gr s { s with heap := h₁, toks := tk } := Gr.keeps _ keep
  have I₁ : Inv w { s with heap := h₁, toks := tk } := I.keeps _ keep
  have cellMem : ∀ n c, (n, c) ∈ env.cells → env.cells.lookup n = some c := fun n c hm => by
    refine lookup_of_mem_nodup ?_ hm
    rw [hC, cellsFrom_names (fdK w.params f).scope.names (s.heap.objs.size + 1) 0 [] [] rfl]
    exact hcd
  let X' := env.locals :: (env.cells.map (·.2) ++ X)
  have B₁ : Bel X' { s with heap := h₁, toks := tk } := by
    refine ⟨fun x hx => ?_, List.mem_cons_of_mem _ (List.mem_append_right _ B.a), List.mem_cons_of_mem _ (List.mem_append_right _ B.b)⟩
    rcases List.mem_cons.mp hx with q | hx
    · rw [q]; obtain ⟨o, _, _, ho, _⟩ := C.toInCall.ns; exact ⟨o, ho⟩
    · rcases List.mem_append.mp hx with hx | hx
      · obtain ⟨⟨n, c⟩, hm, rfl⟩ := List.mem_map.mp hx
        obtain ⟨o, ho, _⟩ := C.cell n c (cellMem n c hm); exact ⟨o, ho⟩
      · obtain ⟨o, ho⟩ := B.ex x hx; exact ⟨o, keep _ _ ho⟩
  have new : ∀ y ∈ X', y ∈ X ∨ s.heap.get? y = none := fun y hy => by
    rcases List.mem_cons.mp hy with q | hy
    · right; rw [q, hL]; exact new_none _
    · rcases List.mem_append.mp hy with hy | hy
      · obtain ⟨⟨n, c⟩, hm, rfl⟩ := List.mem_map.mp hy
        right
        have := C.above n c hm
        rw [hL] at this
        exact Heap.get?_none_of_le (Nat.le_of_lt this)
      · exact .inl hy
  have hsub : Sub (hideAll s.heap X) (hideAll h₁ X') := hid_new (fun b o e _ => keep b o e) new
  have abs : ∀ a ∈ own env, s.heap.get? a = none := fun a ha => by
    rcases List.mem_cons.mp ha with q | ha
    · rw [q, hL]; exact new_none _
    · obtain ⟨⟨n, c⟩, hm, rfl⟩ := List.mem_map.mp ha
      have := C.above n c (List.mem_filter.mp hm).1
      rw [hL] at this
      exact Heap.get?_none_of_le (Nat.le_of_lt this)
  have F : Fn w env X' := by
    refine ⟨⟨by rw [← hE]; exact hkd, by rw [← hE]; exact hg, by rw [← hE]; exact hbi⟩, fun a ha => off_new I (abs a ha), fun a ha => ?_⟩
    rcases List.mem_cons.mp ha with q | ha
    · rw [q]; exact List.mem_cons_self
    · obtain ⟨z, hm, rfl⟩ := List.mem_map.mp ha
      exact List.mem_cons_of_mem _ (List.mem_append_left _ (List.mem_map.mpr ⟨z, (List.mem_filter.mp hm).1, rfl⟩))
  have S : St w env X' s μ (ns.zip ps) { s with heap := h₁, toks := tk } := by
    refine ⟨I₁, G.o, B₁, μ.sub hΦ0 hsub keep, fun a ha => ⟨List.mem_cons_of_mem _ (List.mem_append_right _ (hO a ha).1), (hO a ha).2, fun m => ?_, fun n c hm e => ?_⟩, _, _, ⟨C.toInCall.ns, C.cell, fun n c hm => Nat.ne_of_gt (C.above n c hm), fun n c n' c' hm hm' e => name_of_addr C.apart hm (e ▸ hm')⟩, fun x p hx => ?_⟩
    · obtain ⟨o, ho⟩ := B.ex a (hO a ha).1
      rw [abs a m] at ho; cases ho
    · obtain ⟨o, ho⟩ := B.ex a (hO a ha).1
      have h1 := C.above n c hm
      rw [hL] at h1
      rw [← e, Heap.get?_none_of_le (Nat.le_of_lt h1)] at ho; cases ho
    obtain ⟨v, hm, hp⟩ := zip_mem (hv.st hsub) hx
    refine ⟨v, ?_, hp⟩
    refine bind_val (ns.zip vs) _ _ ?_ (fun y hy => ?_) x v hm
    · have : (ns.zip vs).map (·.1) = ns := by rw [List.map_fst_zip]; exact Nat.le_of_eq hvl.symm
      rw [this]; exact hnd
    · rcases hks2 y hy with q | ⟨q, q'⟩
      · exact .inl ((hK _).trans q)
      · exact .inr ⟨(hK _).trans q, by rw [hC]; exact q'⟩
  have final : ∀ (M : Mu) (v : Value) (s' : Shared), P M → (∀ a ∈ M.O, a ∈ μ.O ∨ s.heap.get? a = none) → Inv w s' → GrO (own env ++ M.O) s s' → Bel (M.O ++ X') s' → M.Φ (hideAll s'.heap (M.O ++ X')) s'.heap → r.p (hideAll s'.heap (M.O ++ X')) v → R (.ok (.ret v)) s' := fun M v s' hP hM I' G' B' hΦ1 hp => by
    have hXX : ∀ z ∈ M.O ++ X, z ∈ M.O ++ X' := fun z hz => (List.mem_append.mp hz).elim (fun h => List.mem_append_left _ h) fun h => List.mem_append_right _ (List.mem_cons_of_mem _ (List.mem_append_right _ h))
    refine k M v s' hP hM I' ⟨fun b o e hn h1 h2 => G'.keep b o e (fun m => ?_) h1 h2, G'.gens, G'.os⟩ ⟨fun y hy => B'.ex y (hXX y hy), List.mem_append_right _ B.a, List.mem_append_right _ B.b⟩ (M.fr _ _ _ _ (hid_mono hXX) (fun b _ o e => e) hΦ1) (r.st _ _ _ (hid_mono hXX) hp)
    rcases List.mem_append.mp m with m | m
    · rw [abs b m] at e; cases e
    rcases hM b m with m | m
    · exact hn m
    · rw [m] at e; cases e
  have key := body X' (A.deeper env) s.heap.objs.size s (fun fl s' => R (.ok (.ret (match fl with | .ret v => v | _ => .none))) s') hA.deeper (by rw [hE]; exact F)
    (fun M v s' hP hM I' G' B' hΦ1 hp => ⟨final M v s' hP hM I' (hE ▸ G') B' hΦ1 hp, fun e => e ▸ final M v s' hP hM I' (hE ▸ G') B' hΦ1 hp⟩)
  rw [hE] at key
  exact key _ _ S
end
end Mine
end

section
open PySem PySem.Calls PyProof.Rows PySem.W
open PySem.Builtin PySem.Builtin.List PySem.Builtin.Str
set_option Elab.async false
set_option maxRecDepth 100000
set_option linter.unusedVariables false
namespace Mine
noncomputable section
variable {w : World} {A : Around} {X : List Addr} {env : Env} {Γ : Ctxt} {s₀ : Shared} {μ μ' μ₁ : Mu}

/-- a list of texts, owned -/
noncomputable def muLs (l : Addr) (ls : List Str) : Mu := ⟨[l], fun g h => ∃ vs n, h.get? l = some { cls := .type "list", data := .seq vs n } ∧ All2 g (ls.map vStr) vs.toList, fun g g' h h' hs hk H => let ⟨vs, n, ho, hv⟩ := H; ⟨vs, n, hk l (.head _) _ ho, hv.st hs⟩⟩
theorem bel_new {s s' : Shared} {N : List Addr} (B : Bel X s) (I : Inv w s') (G : Gr s s') (h : ∀ a ∈ N, ∃ o, s'.heap.get? a = some o) : Bel (N ++ X) s' :=
  ⟨fun y hy => (List.mem_append.mp hy).elim (h y) ((B.gr I G).ex y), List.mem_append_right _ B.a, List.mem_append_right _ B.b⟩
theorem evn_nil {pos : Pos} : EvN w A X env Γ (.List [] pos) fun M v => M = muLs v [] := fun s₀ s μ E Q S k =>
  wpAny_List (wpAny_items_nil (pos := pos) (env := env) ⟨by decide, by
    have I1 := S.inv.keeps s.toks (push_K (s := s) { cls := .type "list", data := .seq ([] : List Value).toArray })
    have G1 := Gr.keeps (s := s) s.toks (push_K (s := s) { cls := .type "list", data := .seq ([] : List Value).toArray })
    have ho : (s.heap.push { cls := .type "list", data := .seq ([] : List Value).toArray }).get? s.heap.objs.size = some { cls := .type "list", data := .seq ([] : List Value).toArray } := Heap.get?_push_size _ rfl
    exact k _ s.heap.objs.size _ rfl I1 G1 (fun a ha => by rw [List.mem_singleton.mp ha]; exact new_none _) (bel_new S.bel I1 G1 fun a ha => by rw [List.mem_singleton.mp ha]; exact ⟨_, ho⟩) ⟨#[], 0, ho, trivial⟩⟩)
theorem evn_call {x : Str} {np pos : Pos} {C : Addr} {a : List Expr} {n : Nat} {ps : List VP} {P : Mu → Addr → Prop} (hE : EnvOk env) (hA : Rm A n) (Cn : NewOK w n (.ref C) ps P) (ha : EvL w A X env Γ a ps)
    (hk : env.kindOf x = some .globalImplicit) (e : nsK w.params mainGlobals x = some (some (.ref C))) (hkeep : keepIn (K' w.params) (.ref C) = true)
    (hplain : (backTo pos (starEach a env)).any (·.1) = false := by rfl) (hd : (x == ("__debug__" : Str)) = false := by rfl) : EvN w A X env Γ (.Call (.Name x np) a [] pos) P := fun s₀ s μ E Q S k => by
  obtain ⟨lm, cm, V, H⟩ := S.ex
  refine wpAny_Call_NameR (Name_function_global hE.k hk (loadGlob_K hE S.inv e (callWith_of (by rw [hplain]; rfl) (keeps_K hkeep) (evalArgs_of ha hplain S.inv S.bel V H fun vs s1 I1 G1 hA1 => ⟨I1.kin, ?_⟩))) hd)
  refine wpAny_call (Cn X A s1 _ vs hA I1 (S.bel.gr I1 G1) hA1 fun M v s2 hP I2 G2 hn B hΦ => ?_)
  exact k M v s2 hP I2 (G1.trans G2) (fun a ha => G1.absent I1 (hn a ha)) B hΦ
theorem i178 : findIn (K' w.params) (.ref 178) "__init__" = some (some (.ref 115)) := by kernel_rfl
theorem ty115 : typeIn (K' w.params) (.ref 115) = some (.type "function") := by kernel_rfl
theorem rm_under {n : Nat} {C : Addr} {vs : List Value} (h : Rm A (n + 1)) : Rm (A.under (.builtin "type.__call__" ⟨.ref C :: vs, []⟩)) n := by
  refine ⟨h.h, ?_, ?_⟩
  · have := h.d; show A.depth + 1 + n < _; omega
  · have := h.u
    have e : (Code.builtin "type.__call__" ⟨.ref C :: vs, []⟩).cUnits = 1 ∨ (Code.builtin "type.__call__" ⟨.ref C :: vs, []⟩).cUnits = 4 := by first | exact .inl rfl | exact .inr rfl
    show A.units + (Code.builtin "type.__call__" ⟨.ref C :: vs, []⟩).cUnits + 10 * n < _
    omega
theorem acc_new {k : Int} : NewOK w 3 (.ref 178) [vInt k] fun M v => ∃ dx, M = muA v dx [] k := by
  intro X A s R vs hA I B hv kk
  obtain ⟨v, rfl, hv1⟩ := all1 hv
  have Kn := I.kin
  have hk : ∀ b o, s.heap.get? b = some o → ((s.heap.push emptyDict).push (accObj 178 s.heap.objs.size)).get? b = some o := fun b o e => Heap.get?_push_of_some _ (Heap.get?_push_of_some _ e)
  have hx : ((s.heap.push emptyDict).push (accObj 178 s.heap.objs.size)).get? (s.heap.objs.size + 1) = some (accObj 178 s.heap.objs.size) := by heap_get
  have hdx : ((s.heap.push emptyDict).push (accObj 178 s.heap.objs.size)).get? s.heap.objs.size = some emptyDict := Heap.get?_push_of_some _ (Heap.get?_push_size _ rfl)
  have nx : s.heap.get? (s.heap.objs.size + 1) = none := Heap.get?_none_of_le (Nat.le_succ _)
  have ndx : s.heap.get? s.heap.objs.size = none := new_none _
  have I1 := I.keeps s.toks hk
  have G1 := Gr.keeps (s := s) s.toks hk
  have new : ∀ a ∈ [s.heap.objs.size + 1, s.heap.objs.size], s.heap.get? a = none := fun a ha => by
    rcases List.mem_cons.mp ha with e | ha
    · rw [e]; exact nx
    · rw [List.mem_singleton.mp ha]; exact ndx
  have B1 : Bel ([s.heap.objs.size + 1, s.heap.objs.size] ++ X) { s with heap := (s.heap.push emptyDict).push (accObj 178 s.heap.objs.size) } := bel_new B I1 G1 fun a ha => by
    rcases List.mem_cons.mp ha with e | ha
    · rw [e]; exact ⟨_, hx⟩
    · rw [List.mem_singleton.mp ha]; exact ⟨_, hdx⟩
  have hsub : Sub (hideAll s.heap X) (hideAll ((s.heap.push emptyDict).push (accObj 178 s.heap.objs.size)) ([s.heap.objs.size + 1, s.heap.objs.size] ++ X)) := hid_new (fun b o e _ => hk b o e) fun y hy => (List.mem_append.mp hy).elim (fun h => .inr (new y h)) .inl
  obtain ⟨hh, g, d, t, os⟩ := s
  dsimp only at hk hx hdx nx ndx new hsub I1 B1 Kn
  refine make_coreL (makesL_of Kn makesL178) (looks_findIn Kn i178) (fun self => bind_fn Kn self ty115) ?_
  refine (acc_init_ok (w := w) (x := hh.objs.size + 1) (dx := hh.objs.size) (k := k)) ([hh.objs.size + 1, hh.objs.size] ++ X) _ _ _ [.ref (hh.objs.size + 1), v] ((rm_under (n := 2) hA).mono (by decide)) I1 B1 (fun a ha => ⟨List.mem_append_left _ ha, off_new I (new a ha)⟩) ?_ ⟨rfl, (vInt k).st _ _ _ hsub hv1, trivial⟩ fun v' s' I' G' B' hΦ hp => ?_
  · exact ⟨0, hx, Heap.Ns1.of_empty ⟨_, #[], _, hdx, rfl, fun e he => absurd he (by simp), fun _ => rfl⟩, Nat.ne_of_lt (Nat.lt_succ_self _)⟩
  · have hp' : v' = .none := hp
    subst hp'
    exact ⟨rfl, kk _ _ s' ⟨hh.objs.size, rfl⟩ I' ((G1.o.trans G').gr new) new B' hΦ⟩
end
end Mine
end

section
open PySem PySem.Calls PyProof.Rows PySem.W
open PySem.Builtin PySem.Builtin.List PySem.Builtin.Str
set_option Elab.async false
set_option maxRecDepth 100000
set_option linter.unusedVariables false
namespace Mine
noncomputable section
variable {w : World} {A : Around} {X : List Addr} {env : Env} {Γ : Ctxt} {s₀ : Shared} {μ μ' μ₁ : Mu}

/-- a formatter half made -/
noncomputable def InP (f df : Addr) (es : List (Str × VP)) (g h : Heap) : Prop := ∃ mA, Ins h f 94 df .plain mA ∧ Within mA fmNames ∧ ∀ z ∈ es, ∃ v, mA z.1 = some v ∧ handedIn v = true ∧ z.2.p g v
noncomputable def muI (f df : Addr) (es : List (Str × VP)) : Mu := ⟨[f, df], InP f df es, fun g g' h h' hs hk H => let ⟨mA, I, hw, he⟩ := H; ⟨mA, I.at hk, hw, fun z hz => let ⟨v, h1, h2, h3⟩ := he z hz; ⟨v, h1, h2, z.2.st _ _ _ hs h3⟩⟩⟩
theorem InP.put {f df : Addr} {es : List (Str × VP)} {g g' h' : Heap} {mA : Str → Option Value} {attr : Str} {p : VP} {v : Value} (hw : Within mA fmNames) (he : ∀ z ∈ es, ∃ v, mA z.1 = some v ∧ handedIn v = true ∧ z.2.p g v) (hs : Sub g g') (ha : attr ∈ fmNames) (hn : ∀ z ∈ es, z.1 ≠ attr) (hv : p.p g' v) (hh : handedIn v = true)
    (J : Ins h' f 94 df .plain (fun y => if y = attr then some v else mA y)) : InP f df ((attr, p) :: es) g' h' := by
  refine ⟨_, J, fun y hy => ?_, fun z hz => ?_⟩
  · by_cases q : y = attr
    · exact q ▸ ha
    · exact hw y (by simpa [q] using hy)
  · rcases List.mem_cons.mp hz with e | hz
    · exact ⟨v, by rw [e]; simp, hh, by rw [e]; exact hv⟩
    · obtain ⟨u, h1, h2, h3⟩ := he z hz
      exact ⟨u, by simp [hn z hz, h1], h2, z.2.st _ _ _ hs h3⟩
theorem fm_pass : passB (K' w.params) 94 [.type "object"] = true := by kernel_rfl
theorem bd_setI {o e : Expr} {attr : Str} {pa pos : Pos} {f df : Addr} {es : List (Str × VP)} {p : VP} {rest : List Stmt} {R : Flow → Shared → Prop} (he : Ev w A X env Γ e p) (ho : Ev w A X env Γ o (vIs (.ref f))) (ha : attr ∈ fmNames) (hn : (es.map (·.1)).contains attr = false) (hh : ∀ g v, p.p g v → handedIn v = true)
    (hc : storeIn (K' w.params) 94 attr = true) (k : Bd w A X env s₀ (muI f df ((attr, p) :: es)) Γ rest R)
    (hs : swapsWith e (some (.Attribute o attr pa)) pos.line env = pure false := by rfl) : Bd w A X env s₀ (muI f df es) Γ (.Assign [.Attribute o attr pa] e pos :: rest) R := by
  have hn' : ∀ z ∈ es, z.1 ≠ attr := fun z hz e => by
    have : (es.map (·.1)).contains attr = true := by rw [List.contains_iff_mem]; exact e ▸ List.mem_map_of_mem hz
    rw [hn] at this; cases this
  refine bd_setA (μ₁ := muI f df es) (μ' := muI f df ((attr, p) :: es)) (x := f) (C := 94) (dx := df) (ns := fmNames) (em_ev he) (em_ev ho) ?_ passes_object rfl fm_pass hc k (by decide) hs
  rintro g h ⟨mA, I, hw, hes⟩
  exact ⟨_, mA, I, by intro c; simp, hw, .tail _ (.head _), fun g' h' v hv hs' J _ => InP.put hw hes hs' ha hn' hv (hh _ _ hv) J⟩

theorem in_B : defB w.params 35 ["self", "headerlen", "maxlen", "continuation_ws", "splitchars"] = true := by kernel_rfl
theorem in_bind (vs : List Value) (h : vs.length = 5) : bindArgs (fdK w.params 35) ⟨vs, []⟩ = pure ((["self", "headerlen", "maxlen", "continuation_ws", "splitchars"] : List Str).zip vs) := by
  match vs, h with
  | [a, b, c, d, e], _ => kernel_rfl
theorem in_cells {L : Addr} : (callEnvC (fdK w.params 35) L 35).cells = [] := by kernel_rfl
theorem g_acc : nsK w.params mainGlobals "_Accumulator" = some (some (.ref 178)) := by kernel_rfl
theorem keep178 : keepIn (K' w.params) (.ref 178) = true := by kernel_rfl
noncomputable def FmNew (f df : Addr) (mx : Int) (sc : Str) (M : Mu) : Prop := ∃ x dx l, M = muF ⟨f, df, x, dx, l⟩ mx sc [] []
noncomputable def fEs (mx : Int) (cw sc : Str) : List (Str × VP) := [("_splitchars", vStr sc), ("_continuation_ws_len", vInt cw.length), ("_continuation_ws", vStr cw), ("_maxlen", vInt mx)]
theorem init_ok {f df : Addr} {mx : Int} {cw sc : Str} (hcw : cw.length = 1) : NMOK w 5 35 (muI f df []) (FmNew f df mx sc) [vIs (.ref f), vInt 0, vInt mx, vStr cw, vStr sc] vNone := by
  refine nmfn_intro (ns := ["self", "headerlen", "maxlen", "continuation_ws", "splitchars"]) in_B rfl lim_K in_bind fun X A L s₀ R hA F hR => ?_
  have hcl : ∀ n c, (n, c) ∈ (callEnvC (fdK w.params 35) L 35).cells → ∃ n', (callEnvC (fdK w.params 35) L 35).cells.lookup n' = some c := fun n c h => by rw [in_cells] at h; cases h
  refine bd_setI (p := vInt mx) (ev_name F.ok (.tail _ (.tail _ (.head _)))) (ev_name F.ok (.head _)) (by decide +kernel) (by kernel_rfl) (fun g v h => by obtain ⟨t, rfl⟩ := h; rfl) (by kernel_rfl) ?_
  refine bd_setI (p := vStr cw) (ev_name F.ok (.tail _ (.tail _ (.tail _ (.head _))))) (ev_name F.ok (.head _)) (by decide +kernel) (by kernel_rfl) (fun g v h => by obtain ⟨t, rfl⟩ := h; rfl) (by kernel_rfl) ?_
  refine bd_setI (p := vInt cw.length) (ev_bicall F.ok (evl_cons (ev_name F.ok (x := "continuation_ws") (p := vStr cw) (.tail _ (.tail _ (.tail _ (.head _))))) evl_nil) (bi_lenS (by omega)) (by kernel_rfl) g_len b_len) (ev_name F.ok (.head _)) (by decide +kernel) (by kernel_rfl) (fun g v h => by obtain ⟨t, rfl⟩ := h; rfl) (by kernel_rfl) ?_
  refine bd_setI (p := vStr sc) (ev_name F.ok (.tail _ (.tail _ (.tail _ (.tail _ (.head _)))))) (ev_name F.ok (.head _)) (by decide +kernel) (by kernel_rfl) (fun g v h => by obtain ⟨t, rfl⟩ := h; rfl) (by kernel_rfl) ?_
  refine bd_setN (x := f) (C := 94) (dx := df) (ns := fmNames) (P := fun M v => M = muLs v []) (μn := fun M v => M.and (muI f df (("_lines", vIs (.ref v)) :: fEs mx cw sc))) F evn_nil hcl (fun Y s₀ μ F' => em_ev (ev_name F'.ok (.head _))) (fun a ha => by rw [List.mem_singleton.mp ha]; exact .tail _ (.head _)) passes_object fm_pass (by kernel_rfl) (fun M v _ => rfl) ?_ (fun M l hP h0 hX => ?_) (by decide)
  · rintro M v hP hX g h hM ⟨mA, I, hw, hes⟩
    refine ⟨_, mA, I, by intro c; simp, hw, fun g' h' hs J hk => ⟨M.fr _ _ _ _ hs (fun b hb o e => hk b (fun q => (hX b hb).2 (q ▸ .tail _ (.head _))) o e) hM, InP.put hw hes hs (by decide +kernel) ?_ (p := vIs (.ref v)) rfl rfl J⟩⟩
    intro z hz e
    have : ((fEs mx cw sc).map (·.1)).contains ("_lines" : Str) = true := by rw [List.contains_iff_mem]; exact e ▸ List.mem_map_of_mem hz
    have h2 : ((fEs mx cw sc).map (·.1)).contains ("_lines" : Str) = false := by kernel_rfl
    rw [h2] at this; cases this
  subst hP
  refine bd_setN (x := f) (C := 94) (dx := df) (ns := fmNames) (P := fun M v => ∃ dx, M = muA v dx [] 0) (μn := fun M v => M.and ((muLs l []).and (muI f df (("_current_line", vIs (.ref v)) :: ("_lines", vIs (.ref l)) :: fEs mx cw sc)))) (F.mono fun z hz => .tail _ hz) (evn_call F.ok (hA.mono (by decide)) acc_new (evl_cons (ev_name F.ok (.tail _ (.head _))) evl_nil) (by kernel_rfl) g_acc keep178) hcl (fun Y s₀ μ F' => em_ev (ev_name F'.ok (.head _))) (fun a ha => by rw [List.mem_singleton.mp ha]; exact .tail _ (.tail _ (.head _))) passes_object fm_pass (by kernel_rfl) (fun M v _ => rfl) ?_ (fun M x hP h0' hX' => ?_) (by decide)
  · rintro M v hP' hX' g h hM ⟨hL, mA, I, hw, hes⟩
    refine ⟨_, mA, I, by intro c; simp, hw, fun g' h' hs J hk => ⟨M.fr _ _ _ _ hs (fun b hb o e => hk b (fun q => (hX' b hb).2 (q ▸ .tail _ (.tail _ (.head _)))) o e) hM, (muLs l []).fr _ _ _ _ hs (fun b hb o e => hk b (fun q => (hX b hb).2 (q ▸ .tail _ (.head _))) o e) hL, InP.put hw hes hs (by decide +kernel) ?_ (p := vIs (.ref v)) rfl rfl J⟩⟩
    intro z hz e
    have : (((("_lines" : Str), vIs (.ref l)) :: fEs mx cw sc).map (·.1)).contains ("_current_line" : Str) = true := by rw [List.contains_iff_mem]; exact e ▸ List.mem_map_of_mem hz
    have h2 : (((("_lines" : Str), vIs (.ref l)) :: fEs mx cw sc).map (·.1)).contains ("_current_line" : Str) = false := by kernel_rfl
    rw [h2] at this; cases this
  obtain ⟨dx, rfl⟩ := hP
  refine bd_nil fun s S => ?_
  obtain ⟨hAc, hL, mA, J, hw, hes⟩ := S.mu
  have hsame : ∀ z ∈ [f, df, x, dx, l] ++ X, z ∈ (muA x dx [] 0).O ++ ((muLs l []).O ++ X) := fun z hz => by
    have hf := (S.mo f (.tail _ (.tail _ (.tail _ (.head _))))).1
    have hdf := (S.mo df (.tail _ (.tail _ (.tail _ (.tail _ (.head _)))))).1
    rcases List.mem_append.mp hz with hz | hz
    · simp only [List.mem_cons, List.not_mem_nil, or_false] at hz
      rcases hz with e | e | e | e | e
      · exact e ▸ hf
      · exact e ▸ hdf
      · exact e ▸ .head _
      · exact e ▸ .tail _ (.head _)
      · exact e ▸ .tail _ (.tail _ (.head _))
    · exact .tail _ (.tail _ (.tail _ hz))
  have hsub := hid_mono (h := s.heap) hsame
  have hback : ∀ z ∈ (muA x dx [] 0).O ++ ((muLs l []).O ++ X), z ∈ [f, df, x, dx, l] ++ X := fun z hz => by
    have hz : z ∈ x :: dx :: l :: X := hz
    simp only [List.mem_cons] at hz
    rcases hz with e | e | e | e
    · rw [e]; exact .tail _ (.tail _ (.head _))
    · rw [e]; exact .tail _ (.tail _ (.tail _ (.head _)))
    · rw [e]; exact .tail _ (.tail _ (.tail _ (.tail _ (.head _))))
    · exact List.mem_append_right _ e
  have key : FmP ⟨f, df, x, dx, l⟩ mx sc [] [] (hideAll s.heap ([f, df, x, dx, l] ++ X)) s.heap := by
    have get : ∀ {y : Str} {p : VP}, (y, p) ∈ (("_current_line" : Str), vIs (.ref x)) :: ("_lines", vIs (.ref l)) :: fEs mx cw sc → ∃ v, mA y = some v ∧ p.p (hideAll s.heap ((muA x dx [] 0).O ++ ((muLs l []).O ++ X))) v := fun hm => by
      obtain ⟨v, h1, _, h3⟩ := hes _ hm
      exact ⟨v, h1, h3⟩
    refine ⟨⟨mA, J, hw, ?_, ?_, ?_, ?_, ?_⟩, AcP.sub _ _ _ hsub hAc, ?_, ?_, ?_⟩
    · obtain ⟨v, h1, t, h2⟩ := get (y := "_maxlen") (p := vInt mx) (.tail _ (.tail _ (.tail _ (.tail _ (.tail _ (.head _))))))
      exact ⟨t, h1.trans (congrArg some h2)⟩
    · obtain ⟨v, h1, t, h2⟩ := get (y := "_continuation_ws_len") (p := vInt cw.length) (.tail _ (.tail _ (.tail _ (.head _))))
      rw [hcw] at h2
      exact ⟨t, h1.trans (congrArg some h2)⟩
    · obtain ⟨v, h1, t, h2⟩ := get (y := "_splitchars") (p := vStr sc) (.tail _ (.tail _ (.head _)))
      exact ⟨t, h1.trans (congrArg some h2)⟩
    · obtain ⟨v, h1, h2⟩ := get (y := "_lines") (p := vIs (.ref l)) (.tail _ (.head _))
      have h2' : v = .ref l := h2
      exact h1.trans (congrArg some h2')
    · obtain ⟨v, h1, h2⟩ := get (y := "_current_line") (p := vIs (.ref x)) (.head _)
      have h2' : v = .ref x := h2
      exact h1.trans (congrArg some h2')
    · obtain ⟨vs, n, ho, hv⟩ := hL
      exact ⟨vs, n, ho, hv.st hsub⟩
    · intro b hb m
      have m' : b ∈ [x, dx] := m
      have hb' : b ∈ [f, df, l] := hb
      have := (hX' b m').2
      simp only [List.mem_cons, List.not_mem_nil, or_false] at hb'
      rcases hb' with e | e | e
      · exact this (e ▸ .tail _ (.head _))
      · exact this (e ▸ .tail _ (.tail _ (.head _)))
      · exact this (e ▸ .head _)
    · have := (hX l (.head _)).2
      refine ⟨fun e => this ?_, fun e => this ?_⟩
      · have e' : l = f := e
        rw [e']; exact .head _
      · have e' : l = df := e
        rw [e']; exact .tail _ (.head _)
  refine (hR (muF ⟨f, df, x, dx, l⟩ mx sc [] []) .none s ⟨x, dx, l, rfl⟩ (fun a ha => ?_) S.inv (S.gr.mono fun z hz => ?_) ⟨fun y hy => S.bel.ex y (hsame y hy), hback _ S.bel.a, hback _ S.bel.b⟩ key rfl).2 rfl
  · have ha' : a ∈ [f, df, x, dx, l] := ha
    simp only [List.mem_cons, List.not_mem_nil, or_false] at ha'
    rcases ha' with e | e | e | e | e
    · exact .inl (e ▸ .head _)
    · exact .inl (e ▸ .tail _ (.head _))
    · exact .inr (h0' a (e ▸ .head _))
    · exact .inr (h0' a (e ▸ .tail _ (.head _)))
    · exact .inr (h0 a (e ▸ .head _))
  · rcases List.mem_append.mp hz with h | h
    · exact List.mem_append_left _ h
    · refine List.mem_append_right _ ?_
      have h : z ∈ [x, dx, l, f, df] := h
      show z ∈ [f, df, x, dx, l]
      simp only [List.mem_cons, List.not_mem_nil, or_false] at h ⊢
      rcases h with e | e | e | e | e <;> simp [e]
end
end Mine
end

section
open PySem PySem.Calls PyProof.Rows PySem.W
open PySem.Builtin PySem.Builtin.List PySem.Builtin.Str
set_option Elab.async false
set_option maxRecDepth 100000
set_option linter.unusedVariables false
namespace Mine
noncomputable section
variable {w : World} {A : Around} {X : List Addr} {env : Env} {Γ : Ctxt} {s₀ : Shared} {μ μ' μ₁ : Mu}
theorem makes94 : makesIn (K' w.params) 94 = true := by kernel_rfl
theorem i94 : findIn (K' w.params) (.ref 94) "__init__" = some (some (.ref 35)) := by kernel_rfl
theorem ty35 : typeIn (K' w.params) (.ref 35) = some (.type "function") := by kernel_rfl
theorem keep94 : keepIn (K' w.params) (.ref 94) = true := by kernel_rfl
theorem g_fm : nsK w.params mainGlobals "_ValueFormatter" = some (some (.ref 94)) := by kernel_rfl
theorem fm_new {mx : Int} {cw sc : Str} (hcw : cw.length = 1) : NewOK w 6 (.ref 94) [vInt 0, vInt mx, vStr cw, vStr sc] fun M v => ∃ df, FmNew v df mx sc M := by
  intro X A s R vs hA I B hv kk
  have Kn := I.kin
  have hk : ∀ b o, s.heap.get? b = some o → ((s.heap.push emptyDict).push (instObj 94 s.heap.objs.size)).get? b = some o := fun b o e => Heap.get?_push_of_some _ (Heap.get?_push_of_some _ e)
  have hx : ((s.heap.push emptyDict).push (instObj 94 s.heap.objs.size)).get? (s.heap.objs.size + 1) = some (instObj 94 s.heap.objs.size) := by heap_get
  have hdx : ((s.heap.push emptyDict).push (instObj 94 s.heap.objs.size)).get? s.heap.objs.size = some emptyDict := Heap.get?_push_of_some _ (Heap.get?_push_size _ rfl)
  have nx : s.heap.get? (s.heap.objs.size + 1) = none := Heap.get?_none_of_le (Nat.le_succ _)
  have ndx : s.heap.get? s.heap.objs.size = none := new_none _
  have I1 := I.keeps s.toks hk
  have G1 := Gr.keeps (s := s) s.toks hk
  have new : ∀ a ∈ [s.heap.objs.size + 1, s.heap.objs.size], s.heap.get? a = none := fun a ha => by
    rcases List.mem_cons.mp ha with e | ha
    · rw [e]; exact nx
    · rw [List.mem_singleton.mp ha]; exact ndx
  have B1 : Bel ([s.heap.objs.size + 1, s.heap.objs.size] ++ X) { s with heap := (s.heap.push emptyDict).push (instObj 94 s.heap.objs.size) } := bel_new B I1 G1 fun a ha => by
    rcases List.mem_cons.mp ha with e | ha
    · rw [e]; exact ⟨_, hx⟩
    · rw [List.mem_singleton.mp ha]; exact ⟨_, hdx⟩
  have hsub : Sub (hideAll s.heap X) (hideAll ((s.heap.push emptyDict).push (instObj 94 s.heap.objs.size)) ([s.heap.objs.size + 1, s.heap.objs.size] ++ X)) := hid_new (fun b o e _ => hk b o e) fun y hy => (List.mem_append.mp hy).elim (fun h => .inr (new y h)) .inl
  obtain ⟨hh, g, d, t, os⟩ := s
  dsimp only at hk hx hdx nx ndx new hsub I1 B1 Kn G1
  refine make_core (makes_of Kn makes94) (looks_findIn Kn i94) (fun self => bind_fn Kn self ty35) (.inl rfl) ?_
  refine (init_ok (w := w) (f := hh.objs.size + 1) (df := hh.objs.size) (mx := mx) (cw := cw) (sc := sc) hcw) ([hh.objs.size + 1, hh.objs.size] ++ X) _ _ _ (.ref (hh.objs.size + 1) :: vs) (rm_under (n := 5) hA) I1 B1 (fun a ha => ⟨List.mem_append_left _ ha, off_new I (new a ha)⟩) ?_ ⟨rfl, hv.st hsub⟩ fun M v' s' hP hM I' G' B' hΦ hp => ?_
  · exact ⟨_, ⟨hx, Heap.Ns1.of_empty ⟨_, #[], _, hdx, rfl, fun e he => absurd he (by simp), fun _ => rfl⟩, Nat.ne_of_lt (Nat.lt_succ_self _)⟩, fun _ h => absurd rfl h, fun z hz => by cases hz⟩
  · have hp' : v' = .none := hp
    subst hp'
    have hXX : ∀ z ∈ M.O ++ X, z ∈ M.O ++ ([hh.objs.size + 1, hh.objs.size] ++ X) := fun z hz => (List.mem_append.mp hz).elim (fun h => List.mem_append_left _ h) fun h => List.mem_append_right _ (List.mem_append_right _ h)
    refine ⟨rfl, kk M _ s' ⟨hh.objs.size, hP⟩ I' ((G1.o.trans G').gr new) (fun a ha => ?_) ⟨fun y hy => B'.ex y (hXX y hy), List.mem_append_right _ B.a, List.mem_append_right _ B.b⟩ (M.fr _ _ _ _ (hid_mono hXX) (fun b _ o e => e) hΦ)⟩
    rcases hM a ha with h | h
    · exact new a h
    · exact G1.absent I1 h
end
end Mine
end

section
open PySem PySem.Calls PyProof.Rows PySem.W
open PySem.Builtin PySem.Builtin.List PySem.Builtin.Str
set_option Elab.async false
set_option maxRecDepth 100000
set_option linter.unusedVariables false
namespace Mine
noncomputable section
variable {w : World} {A : Around} {X : List Addr} {env : Env} {Γ : Ctxt} {s₀ : Shared} {μ μ' μ₁ : Mu}

/-! ### a generator def called -/
noncomputable def genB (P : Params) (f : Addr) (ns : List Str) : Bool := fnOkB P f && (fdK P f).scope.isGenerator && (match (fdK P f).body with | .stmts _ => true | _ => false) && (fdK P f).closure.isEmpty && (fdK P f).globals == mainGlobals && (fdK P f).builtins == builtinsNs &&
  (ns.all fun x => (fdK P f).scope.names.lookup x == some .local) && decide ns.Nodup && ((fdK P f).scope.names.all fun z => z.2 != .cell)
structure GenDef (w : World) (f : Addr) (ns : List Str) : Prop where
  ok : fnOkB w.params f = true
  gen : (fdK w.params f).scope.isGenerator = true
  body : (fdK w.params f).body = .stmts (bodyK w.params f)
  clo : (fdK w.params f).closure = []
  g : (fdK w.params f).globals = mainGlobals
  b : (fdK w.params f).builtins = builtinsNs
  loc : ∀ x ∈ ns, (fdK w.params f).scope.names.lookup x = some .local
  nd : ns.Nodup
  nc : ∀ x ∈ (fdK w.params f).scope.names, x.2 ≠ .cell
theorem genDef_of {f : Addr} {ns : List Str} (hd : genB w.params f ns = true) : GenDef w f ns := by
  unfold genB at hd
  simp only [Bool.and_eq_true, beq_iff_eq, decide_eq_true_eq, List.isEmpty_iff] at hd
  obtain ⟨⟨⟨⟨⟨⟨⟨⟨h1, hgen⟩, hbody⟩, hclo⟩, hg⟩, hbi⟩, hkind⟩, hnd⟩, hnc⟩ := hd
  refine ⟨h1, hgen, ?_, hclo, hg, hbi, fun x hx => by simpa using List.all_eq_true.mp hkind x hx, hnd, fun x hx => by simpa using List.all_eq_true.mp hnc x hx⟩
  unfold bodyK
  split at hbody
  · rename_i e; rw [e]
  · cases hbody
theorem gen_call {f : Addr} {ns : List Str} {vs : List Value} {s : Shared} {R : Result → Shared → Prop} (D : GenDef w f ns) (hvl : vs.length = ns.length) (hb : bindArgs (fdK w.params f) ⟨vs, []⟩ = pure (ns.zip vs)) (hA : Rm A 1) (I : Inv w s)
    (k : ∀ h' tk, (∀ b o, s.heap.get? b = some o → h'.get? b = some o) → h'.Ns s.heap.objs.size (fun x => (ns.zip vs).reverse.lookup x) → h'.IsGen (s.heap.objs.size + 1) s.gens.size →
      R (.ok (.ret (.ref (s.heap.objs.size + 1)))) { s with heap := h', toks := tk, gens := s.gens.push (.fresh (.func (bodyK w.params f) (clsEnv w.params f s.heap.objs.size))) }) :
    codeAny (model PG w) A (.call (.ref f) ⟨vs, []⟩) R s := by
  obtain ⟨o, ho, hdata, hrec, hco, hkd⟩ := fn_facts I D.ok
  have hA1 := hA.d
  refine codeAny_call_generator (by omega) ho hdata hco D.gen D.body hrec ?_
  rw [hb]
  refine wpAny_pure (wpAny_newFunctionEnv D.nc (fun x hx => ?_) (fun h₁ hns hs => ?_) hkd)
  · exact D.loc x.1 (List.of_mem_zip (a := x.1) (b := x.2) hx).1
  · have keep : ∀ b o, s.heap.get? b = some o → h₁.get? b = some o := fun b o e => (hs.2 b (Nat.ne_of_lt (Heap.lt_size e))).trans (Heap.get?_push_of_some _ e)
    have hsz : h₁.objs.size = s.heap.objs.size + 1 := hs.1.trans (Heap.size_push ..)
    refine ⟨(noLimit_of I lim_K).keeps keep, ?_⟩
    dsimp only
    rw [hsz]
    refine k _ _ (fun b o e => Heap.get?_push_of_some _ (keep b o e)) (hns.keeps fun b o e => Heap.get?_push_of_some _ e) ?_
    refine ⟨{ cls := .type "generator", data := .fields #[.int s.gens.size 0, .str (fdK w.params f).name (s.toks + (ns.zip vs).length), .str (fdK w.params f).qualname (s.toks + (ns.zip vs).length + 1)] }, _, _, ?_, rfl, rfl, rfl⟩
    rw [← hsz]; exact Heap.get?_push_size _ rfl

/-! ### a generator woken -/
theorem genWake_Q {a : Addr} {g n : Nat} {gs : GenState} {P : Nat → Shared → Shared → Prop} {Y : Protocol} {s : Shared} {E : Value → Shared → Prop} {Q : PySem.Fin → Shared → Prop} (hh : A.handled = none) (hl : s.heap.NoLimit) (hroom : A.depth < recursionLimit)
    (hg : s.heap.IsGen a g) (hgs : s.gens[g]? = some gs)
    (hgo : gs.Goes (model PG w) A (fun n s₀ r s₁ => r = .ok (.ret .none) ∧ P n s₀ s₁) Y n (.send .none) (s.setGen g .running))
    (hY : ∀ v s₁ gs', gs'.bare = true → Y (n - 1) (s.setGen g .running) v s₁ (fun r' s'' => match n with
        | 0 => False
        | m + 1 => gs'.Goes (model PG w) A (fun n s₀ r s₁ => r = .ok (.ret .none) ∧ P n s₀ s₁) Y m r' s'') → Q (.done (.ret v)) (s₁.setGen g gs'))
    (hP : ∀ s₁, P n (s.setGen g .running) s₁ → ∀ h' e, (∀ b o, s₁.heap.get? b = some o → h'.get? b = some o) → ({ s₁.setGen g .finished with heap := h' } : Shared).TypeIs e "StopIteration" → E e { s₁.setGen g .finished with heap := h' }) :
    wpAny (model PG w) A (Builtin.Generator.genWake (.ref a) (.send .none)) Q E s := by
  unfold Builtin.Generator.genWake
  refine wpAny_bind (wpAny_holding (wpAny_genNumber hg (wpAny_bind (wpAny_genState hgs ?_))))
  cases gs with
  | running => exact hgo.elim
  | finished => exact hgo.elim
  | _ =>
    refine wpAny_bind (wpAny_roomToWake hl hroom ?_)
    show wpAny _ _ (.resume g (.send .none) [] _) _ _ s
    refine wpAny_resumeQ hgs hgo (fun x s₁ hx => ?_) (fun v s₁ gs' hb hv => ?_)
    · obtain ⟨rfl, hp⟩ := hx
      show wpAny _ _ (newExc (.type "StopIteration") [] >>= _) _ _ _
      refine wpAny_bind ?_
      simp only [newExc, newTuple]
      refine wpAny_bind (wpAny_newObj_type ?_ (by size_fits))
      refine wpAny_bind (m := firstArgMember _ _) (wpAny_of_eq (a := Value.none) (by first | rfl | (simp only [firstArgMember]; rfl)) ?_)
      refine wpAny_newObj_type ?_ (by size_fits)
      simp only [raiseNew]
      refine wpAny_bind (wpAny_bind (wpAny_handled ?_))
      first | rw [show A.handled = none from hh] | rw [hh]
      refine wpAny_throw ?_
      exact hP s₁ hp _ _ (fun b o hb => Heap.get?_push_of_some _ (Heap.get?_push_of_some _ hb)) ⟨_, Heap.get?_push_size _ rfl, rfl⟩
    · exact wpAny_pure (hY v s₁ gs' hb hv)
theorem rm_over {n : Nat} {body : List Stmt} {env : Env} (h : Rm A (n + 1)) : Rm (A.over (.func body env) []) n := by
  refine ⟨h.h, ?_, ?_⟩
  · have := h.d; show A.depth + 0 + 1 + n < _; omega
  · have := h.u; show A.units + 0 + 3 + 10 * n < _; omega
end
end Mine
end

section
open PySem PySem.Calls PyProof.Rows PySem.W
open PySem.Builtin PySem.Builtin.List PySem.Builtin.Str
set_option Elab.async false
set_option maxRecDepth 100000
set_option linter.unusedVariables false
namespace Mine
noncomputable section
variable {w : World} {A : Around} {X : List Addr} {env : Env} {Γ : Ctxt} {s₀ : Shared} {μ μ' μ₁ : Mu}
variable {a : FA} {mx : Int} {sc : Str} {ps ps' : List (Str × Str)} {ls ls' : List Str}

theorem ml_B : genB w.params 77 ["self"] = true := by kernel_rfl
theorem ml_bind (v : Value) : bindArgs (fdK w.params 77) ⟨[v], []⟩ = pure ((["self"] : List Str).zip [v]) := by kernel_rfl
theorem m_ml : methB (K' w.params) 94 "_maxlengths" (.ref 77) = true := by kernel_rfl
theorem f_ml : isFnK w.params 77 = true := by kernel_rfl
theorem g_next : nsK w.params mainGlobals "next" = some none := by kernel_rfl
theorem b_next : nsK w.params builtinsNs "next" = some (some (.builtin "next")) := by kernel_rfl
/-- a frame of a generator's, while it runs -/
theorem gen_frame {f L : Addr} {ns : List Str} {s s2 : Shared} {vs : List Value} {qs : List VP} (D : GenDef w f ns) (hL : L = s.heap.objs.size) (S : St w env X s₀ μ Γ s) (hk : ∀ b o, s.heap.get? b = some o → s2.heap.get? b = some o) (I2 : Inv w s2) (hns : s2.heap.Ns L (fun x => (ns.zip vs).reverse.lookup x)) (hvl : vs.length = ns.length) (hv : All2 (hideAll s.heap X) qs vs) (hql : qs.length = ns.length) :
    Fn w (clsEnv w.params f L) (L :: X) ∧ St w (clsEnv w.params f L) (L :: X) s2 μ (ns.zip qs) s2 ∧ own (clsEnv w.params f L) = [L] := by
  obtain ⟨o, ho, hdata, hrec, hco, hkd⟩ := fn_facts S.inv D.ok
  have Lnew : s.heap.get? L = none := hL ▸ new_none _
  have hcells : (clsEnv w.params f L).cells = [] := D.clo
  have own1 : own (clsEnv w.params f L) = [L] := by
    unfold own; rw [hcells]; rfl
  have new : ∀ y ∈ L :: X, y ∈ X ∨ s.heap.get? y = none := fun y hy => by
    rcases List.mem_cons.mp hy with q | hy
    · exact .inr (q ▸ Lnew)
    · exact .inl hy
  have hsub : Sub (hideAll s.heap X) (hideAll s2.heap (L :: X)) := hid_new (fun b o e _ => hk b o e) new
  have hlk : ∀ x v, (x, v) ∈ ns.zip vs → (ns.zip vs).reverse.lookup x = some v := fun x v hm => by
    refine lookup_mem_val ?_ (List.mem_reverse.mpr hm)
    rw [List.map_reverse, List.map_fst_zip (Nat.le_of_eq hvl.symm)]
    exact List.pairwise_reverse.mpr (D.nd.imp fun h => Ne.symm h)
  refine ⟨⟨⟨hkd, D.g, D.b⟩, fun b hb => ?_, fun b hb => ?_⟩, ⟨I2, GrO.refl _ _, ⟨fun y hy => ?_, .tail _ S.bel.a, .tail _ S.bel.b⟩, μ.fr _ _ _ _ hsub (fun b hb o e => hk b o e) S.mu, fun b hb => ⟨.tail _ (S.mo b hb).1, (S.mo b hb).2.1, fun m => ?_, fun n c hm => ?_⟩, _, fun _ => none, ⟨hns, fun n c e => ?_, fun n c hm => ?_, fun n c n' c' hm _ _ => ?_⟩, fun x p hx => ?_⟩, own1⟩
  · rw [own1] at hb; rw [List.mem_singleton.mp hb]; exact off_new S.inv Lnew
  · rw [own1] at hb; rw [List.mem_singleton.mp hb]; exact .head _
  · rcases List.mem_cons.mp hy with q | hy
    · rw [q]; obtain ⟨o, _, _, ho, _⟩ := hns; exact ⟨o, ho⟩
    · obtain ⟨o, ho⟩ := S.bel.ex y hy; exact ⟨o, hk _ _ ho⟩
  · rw [own1] at m
    obtain ⟨o, ho⟩ := S.bel.ex b (S.mo b hb).1
    rw [List.mem_singleton.mp m, Lnew] at ho; cases ho
  · rw [hcells] at hm; cases hm
  · rw [hcells] at e; cases e
  · rw [hcells] at hm; cases hm
  · rw [hcells] at hm; cases hm
  · obtain ⟨v, hm, hp⟩ := zip_mem (hv.st hsub) hx
    refine ⟨v, ?_, hp⟩
    have hl : (clsEnv w.params f L).kindOf x = some .local := D.loc x (List.of_mem_zip (a := x) (b := v) hm).1
    unfold valOf
    rw [hl]
    exact hlk x v hm
theorem gens_push {gs : Array GenState} {x : GenState} {i : Nat} {z : GenState} (e : gs[i]? = some z) : (gs.push x)[i]? = some z := by
  obtain ⟨h, rfl⟩ := Array.getElem?_eq_some_iff.mp e
  rw [Array.getElem?_push_lt h]
theorem bare_set {gs : Array GenState} {x : GenState} {g : Nat} (h : AllBare gs) (hx : x.bare = true) : AllBare (gs.setIfInBounds g x) := fun y hy => by
  rw [Array.mem_iff_getElem] at hy
  obtain ⟨i, hi, rfl⟩ := hy
  have hi' : i < gs.size := by simpa using hi
  rw [Array.getElem_setIfInBounds hi']
  split
  · exact hx
  · exact h _ (Array.getElem_mem _)
end
end Mine
end

section
open PySem PySem.Calls PyProof.Rows PySem.W
open PySem.Builtin PySem.Builtin.List PySem.Builtin.Str
set_option Elab.async false
set_option maxRecDepth 100000
set_option linter.unusedVariables false
namespace Mine
noncomputable section
variable {w : World} {A : Around} {X : List Addr} {env : Env} {Γ : Ctxt} {s₀ : Shared} {μ μ' μ₁ : Mu}
variable {a : FA} {mx : Int} {sc : Str} {ps ps' : List (Str × Str)} {ls ls' : List Str}

theorem em_nextMax {o : Expr} {np p1 p2 p3 : Pos} (hA : Rm A 8) (hE : EnvOk env) (F : Fn w env X) (ho : EvM w A X env s₀ Γ (muF a mx sc ps ls) o (muF a mx sc ps ls) (vIs (.ref a.f))) (H : LineOk ps) (hk : env.kindOf "next" = some .globalImplicit)
    (hplain : (backTo p3 (starEach [.Call (.Attribute o "_maxlengths" p1) [] [] p2] env)).any (·.1) = false := by rfl) (hst : starEach [.Call (.Attribute o "_maxlengths" p1) [] [] p2] env = [(false, eval (.Call (.Attribute o "_maxlengths" p1) [] [] p2) env)] := by rfl)
    (he : eval (.Call (.Attribute o "_maxlengths" p1) [] [] p2) env = (do
      let ov ← eval o env
      standAt p1.atName
      let (f, first) ← holding [ov] (getMethod ov "_maxlengths" (do return (← importBound o env).getD true))
      callWith p2 f first (backTo p2 (starEach [] env)) (backToKw p2 (keywordEach [] env))) := by rfl) :
    EvM w A X env s₀ Γ (muF a mx sc ps ls) (.Call (.Name "next" np) [.Call (.Attribute o "_maxlengths" p1) [] [] p2] [] p3) (muF a mx sc ps ls) (vInt (mx - total ps)) := fun s E Q S k => by
  refine wpAny_Call_NameR (Name_function_global hE.k hk (loadBi_K hE S.inv g_next b_next (callWith_builtin hplain ?_)) (by rfl))
  refine evalArgs1 ?_ hst
  refine methodCall_KW (pl := do return (← importBound o env).getD true) (ho s E _ S fun v s1 S1 hs1 hp => ?_) he
  have hp' : v = .ref a.f := hp
  subst hp'
  obtain ⟨dt, mA, J, hn, hv⟩ := FmP.ins (name := "_maxlengths") (by decide +kernel) _ _ S1.mu
  refine getMethod_any S1.inv J hn m_ml hv ?_
  refine callWith_fn f_ml (by decide) (by decide) (evalArgs_M (ps := []) elm_nil (by rfl) S1 fun vs s1b S1b hs1b hA0 => ⟨S1b.inv, ?_⟩) (by rfl)
  have hvs : vs = [] := by have := hA0.length; simpa using this
  subst hvs
  have D : GenDef w 77 ["self"] := genDef_of ml_B
  refine wpAny_call (gen_call (vs := [.ref a.f]) D rfl (ml_bind _) (hA.mono (by decide)) S1b.inv fun h' tk hkp hns hgen => ?_)
  generalize hL : s1b.heap.objs.size = L at *
  generalize hg : s1b.gens.size = g at *
  generalize hs2 : ({ s1b with heap := h', toks := tk, gens := s1b.gens.push (.fresh (.func (bodyK w.params 77) (clsEnv w.params 77 L))) } : Shared) = s2
  have hh2 : s2.heap = h' := by rw [← hs2]
  have hg2 : s2.gens = s1b.gens.push (.fresh (.func (bodyK w.params 77) (clsEnv w.params 77 L))) := by rw [← hs2]
  have ho2 : s2.os = s1b.os := by rw [← hs2]
  have hgs : s2.gens[g]? = some (.fresh (.func (bodyK w.params 77) (clsEnv w.params 77 L))) := by rw [hg2, ← hg, Array.getElem?_push_size]
  have hkp2 : ∀ b o, s1b.heap.get? b = some o → s2.heap.get? b = some o := fun b o e => by rw [hh2]; exact hkp b o e
  have I2 : Inv w s2 := by
    have I' := S1b.inv.keeps tk hkp
    exact ⟨fun a o h1 h2 e => by rw [hh2]; exact I'.K a o h1 h2 e, by rw [hh2]; exact I'.t1, by rw [hh2]; exact I'.t2, by rw [hg2]; exact S1b.inv.bare.push rfl⟩
  have hgen2 : s2.heap.IsGen (L + 1) g := by rw [hh2]; exact hgen
  show wpAny (model PG w) A (call (.builtin "next") [.ref (L + 1)]) _ _ _
  refine call_function_entry (by decide +kernel) (by decide +kernel) kdk_entry_next (kdk_args_next _) ?_
  unfold Builtin.«next»
  refine wpAny_bind (m := someArgs "next" 1 2 _) (wpAny_of_eq (a := [Value.ref (L + 1)]) (by first | rfl | kernel_rfl) ?_)
  dsimp only
  refine wpAny_bind (wpAny_specialOf (name := Str.ofString "__next__") hgen2.typeIs slot_gen_next.lookup ?_)
  refine wpAny_ite_split (fun hab => absurd hab (by decide)) (fun _ => ?_)
  refine wpAny_bind (wpAny_callSpecial?_slot (name := Str.ofString "__next__") hgen2.typeIs slot_gen_next (wpAny_call_entry slot_gen_next hgen2.typeIs entry_gen_next ?_ (args_gen_next _)))
  show wpAny _ A.in1.in1 (Builtin.Generator.genWake (.ref (L + 1)) (.send .none)) _ _ s2
  have hA2 : Rm A.in1.in1 6 := hA.in1.in1
  have hd2 := hA2.d
  have IR : Inv w (s2.setGen g .running) := ⟨I2.K, I2.t1, I2.t2, bare_set I2.bare rfl⟩
  obtain ⟨FG, SG, ownG⟩ := gen_frame (s2 := s2.setGen g .running) (vs := [.ref a.f]) (qs := [vIs (.ref a.f)]) D hL.symm S1b hkp2 IR (by show s2.heap.Ns _ _; rw [hh2]; exact hns) rfl ⟨rfl, trivial⟩ rfl
  refine genWake_Q (n := 1) (P := fun _ _ _ => False) (Y := fun _ s₀ v s' _ => (vInt (mx - total ps)).p (hideAll s'.heap (L :: X)) v ∧ St w (clsEnv w.params 77 L) (L :: X) (s2.setGen g .running) (muF a mx sc ps ls) [("self", vIs (.ref a.f))] s') hA2.h (noLimit_of I2 lim_K) (by omega) hgen2 hgs ⟨rfl, ?_⟩ ?_ (fun s₁ hp => hp.elim)
  · refine seg_func ?_
    show Seg _ _ _ _ (0 + 1) _ _ ((execs (.Expr (.Yield (some (.BinOp (.Attribute (.Name "self" _) "_maxlen" _) .Sub (.Call (.Name "len" _) [.Attribute (.Name "self" _) "_current_line" _] [] _) _)) _) _ :: _) (clsEnv w.params 77 L)).wrap _ _ _ _) [] _
    refine seg_execs_cons (seg_Expr_Yield rfl rfl rfl ?_ (by rfl) (by rfl))
    have hA3 : Rm (A.in1.in1.over (.func (bodyK w.params 77) (clsEnv w.params 77 L)) []) 5 := rm_over hA2
    refine em_go (em_bin (em_max FG.ok (.head _)) (em_lenLine (hA3.mono (by decide)) FG.ok (.head _) H (by kernel_rfl)) op_subI) SG fun v s' S' hs' hv kap _ => ⟨hv, S'⟩
  · intro v s₁ gs' hb hv
    obtain ⟨⟨t, rfl⟩, S'⟩ := hv
    have hwr : ∀ b o, s1b.heap.get? b = some o → b ∉ (muF a mx sc ps ls).O → b ≠ T1 → b ≠ T2 → s₁.heap.get? b = some o := fun b o e hn h1 h2 => S'.gr.keep b o (hkp2 b o e) (fun m => by
      rw [ownG] at m
      rcases List.mem_cons.mp m with q | m
      · have := Heap.lt_size e; rw [q, ← hL] at this; exact Nat.lt_irrefl _ this
      · exact hn m) h1 h2
    have IF : Inv w (s₁.setGen g gs') := ⟨S'.inv.K, S'.inv.t1, S'.inv.t2, bare_set S'.inv.bare hb⟩
    have GF : GrO (muF a mx sc ps ls).O s1b (s₁.setGen g gs') := ⟨hwr, fun i z e => by
      obtain ⟨hi, _⟩ := Array.getElem?_eq_some_iff.mp e
      rw [hg] at hi
      have e2 : (s2.setGen g .running).gens[i]? = some z := by
        show (s2.gens.setIfInBounds g .running)[i]? = some z
        rw [Array.getElem?_setIfInBounds_ne (Nat.ne_of_gt hi), hg2]; exact gens_push e
      have e3 := S'.gr.gens i z e2
      show (s₁.gens.setIfInBounds g gs')[i]? = some z
      rw [Array.getElem?_setIfInBounds_ne (Nat.ne_of_gt hi)]; exact e3, S'.gr.os.trans ho2⟩
    obtain ⟨SF, hsF⟩ := S1b.turn IF GF rfl ((muF a mx sc ps ls).fr _ _ _ _ (hid_mono fun z hz => .tail _ hz) (fun b _ o e => e) S'.mu) ⟨fun y hy => S'.bel.ex y (.tail _ hy), S1b.bel.a, S1b.bel.b⟩
    refine ⟨_, rfl, ?_⟩
    exact wpAny_pure ⟨_, rfl, k _ _ SF ((hs1.trans hs1b).trans hsF) ⟨t, rfl⟩⟩
end
end Mine
end

section
open PySem PySem.Calls PyProof.Rows PySem.W
open PySem.Builtin PySem.Builtin.List PySem.Builtin.Str
set_option Elab.async false
set_option maxRecDepth 100000
set_option linter.unusedVariables false
namespace Mine
noncomputable section
variable {w : World} {A : Around} {X : List Addr} {env : Env} {Γ : Ctxt} {s₀ : Shared} {μ μ' μ₁ : Mu}
variable {a : FA} {mx : Int} {sc : Str} {ps ps' : List (Str × Str)} {ls ls' : List Str}

theorem join_eq (sep : Str) (ts : List Str) : Txt.join sep ts = Str.join sep ts := StrLaws.glued_eq_join sep ts
theorem join_cl : ∀ (ts : List Str), (Txt.join "" ts).cps.toList = (ts.map (·.cps.toList)).flatten
  | [] => rfl
  | [x] => by rw [join_eq]; simp [Str.join]
  | x :: y :: r => by
    have h := join_cl (y :: r)
    rw [join_eq] at h ⊢
    show (x ++ ("" : Str) ++ Str.join "" (y :: r)).cps.toList = _
    show ((x.cps ++ #[]) ++ (Str.join "" (y :: r)).cps).toList = _
    rw [Array.toList_append, Array.append_empty, h]
    rfl
theorem pairS_cl (p : Str × Str) : (pairS p).cps.toList = p.1.cps.toList ++ p.2.cps.toList := by
  unfold pairS; rw [join_cl]; simp
theorem flat_cl (ps : List (Str × Str)) : (flat ps).cps.toList = (ps.map fun p => p.1.cps.toList ++ p.2.cps.toList).flatten := by
  unfold flat; rw [join_cl, List.map_map]
  congr 1
  exact List.map_congr_left fun p _ => pairS_cl p
theorem len_cl (x : Str) : x.length = x.cps.toList.length := by show x.cps.size = _; simp
theorem lineOk_small (h1 : ∀ p ∈ ps, p.1.length + p.2.length ≤ 100) (h2 : ps.length ≤ 100) : LineOk ps := by
  have tot : ∀ (qs : List (Str × Str)), (∀ p ∈ qs, p.1.length + p.2.length ≤ 100) → total qs ≤ 100 * qs.length := by
    intro qs
    induction qs with
    | nil => intro _; simp [total]
    | cons p r ih =>
      intro h
      have hp := h p (.head _)
      have hr := ih fun q hq => h q (.tail _ hq)
      simp only [total, List.map_cons, List.sum_cons, List.length_cons] at hr ⊢
      omega
  refine ⟨fun p hp => by have := h1 p hp; omega, by omega, ?_, by have := tot ps h1; omega⟩
  unfold JoinOk
  rw [StrLaws.joinTotal]
  have hl : ∀ y ∈ ps.map pairS, y.length ≤ 100 := fun y hy => by
    obtain ⟨p, hp, rfl⟩ := List.mem_map.mp hy
    have := h1 p hp
    rw [len_cl, pairS_cl, List.length_append, ← len_cl, ← len_cl]; exact this
  have := StrLaws.sumLen_le (ps.map pairS) hl
  rw [List.length_map] at this ⊢
  have e0 : ("" : Str).length = 0 := rfl
  rw [e0]
  unfold tooLong
  rw [Bool.not_eq_true', decide_eq_false_iff_not, sizeLine_eq]
  omega

/-- a while, its turns numbered -/
theorem bd_while {pos : Pos} {test : Expr} {body rest : List Stmt} (n : Nat) {Γs : Nat → Ctxt} {O : List Addr} {μs : Nat → Mu} {R : Flow → Shared → Prop} (hO : ∀ i, (μs i).O = O)
    (turn : ∀ (i : Nat) (R' : Flow → Shared → Prop), i < n → (∀ s', St w env X s₀ (μs (i + 1)) (Γs (i + 1)) s' → R' .next s') → TeM w A X env s₀ (Γs i) (μs i) test (μs i) true ∧ Bd w A X env s₀ (μs i) (Γs i) body R')
    (last : TeM w A X env s₀ (Γs n) (μs n) test (μs n) false) (k : Bd w A X env s₀ (μs n) (Γs n) rest R) : Bd w A X env s₀ (μs 0) (Γs 0) (.While test body [] pos :: rest) R := by
  intro s E S
  refine wpAny_execs_cons (wpAny_While ?_)
  refine codeAny_whileLoop (fun m s' => ∃ i, i ≤ n ∧ m = n - i ∧ St w env X s₀ (μs i) (Γs i) s') (fun m s' hI => ?_) n ⟨0, Nat.zero_le _, rfl, S⟩
  obtain ⟨i, hi, rfl, S'⟩ := hI
  by_cases hlt : i < n
  · obtain ⟨ht, hb⟩ := turn i (fun f s3 => match f with
      | .next => ∃ i', i' ≤ n ∧ n - (i + 1) = n - i' ∧ St w env X s₀ (μs i') (Γs i') s3
      | .cont => ∃ m, m < n - i ∧ ∃ i', i' ≤ n ∧ m = n - i' ∧ St w env X s₀ (μs i') (Γs i') s3
      | .brk => wpAny (model PG w) A (execs rest env) R E s3
      | .ret v => R (.ret v) s3) hlt (fun s3 S3 => ⟨i + 1, hlt, rfl, S3⟩)
    refine ht s' _ _ S' fun s1 S1 => ?_
    refine wpAny_mono (hb s1 _ S1) (fun f s3 h3 => ?_) fun _ _ e => e
    cases f with
    | next =>
      obtain ⟨i', h1, h2, h4⟩ := h3
      exact ⟨n - (i + 1), by omega, i', h1, h2, h4⟩
    | cont => exact h3
    | brk => exact h3
    | ret v => exact h3
  · have hin : i = n := by omega
    subst hin
    refine last s' _ _ S' fun s1 S1 => ?_
    show wpAny (model PG w) A (execs [] env) _ _ s1
    exact wpAny_execs_nil (k s1 _ S1)
theorem retN {N : List Addr} {r : VP} {Φ : Heap → Heap → Prop} {R : Flow → Shared → Prop} (hR : RetM w X env s₀ [] (fun _ _ => True) r R) (hN : ∀ a ∈ N, s₀.heap.get? a = none) (hO : ∀ a ∈ N, Off w a) : RetOK w (N ++ X) env s₀ N Φ r .ret R := fun v s' I G hΦ B hp =>
  hR.ret N hN v s' I (by rw [List.append_nil]; exact G) trivial ⟨fun y hy => B.ex y (List.mem_append_right _ hy), (List.mem_append.mp B.a).elim (fun h => absurd rfl (hO _ h).a) fun h => h, (List.mem_append.mp B.b).elim (fun h => absurd rfl (hO _ h).b) fun h => h⟩ (r.st _ _ _ (hid_mono fun z hz => List.mem_append_right _ hz) hp)
theorem bd_and0 {M : Mu} {c : List Stmt} {R : Flow → Shared → Prop} (k : Bd w A X env s₀ M Γ c R) : Bd w A X env s₀ (M.and .no) Γ c R :=
  bd_turn (by simp [Mu.and, Mu.no]) (fun g h H => H.1) k
end
end Mine
end

section
open PySem PySem.Calls PyProof.Rows PySem.W
open PySem.Builtin PySem.Builtin.List PySem.Builtin.Str
set_option Elab.async false
set_option maxRecDepth 100000
set_option linter.unusedVariables false
namespace Mine
noncomputable section
variable {w : World} {A : Around} {X : List Addr} {env : Env} {Γ : Ctxt} {s₀ : Shared} {μ μ' μ₁ : Mu}

/-- how many things a room takes -/
noncomputable def grab : Int → List Str → Nat
  | _, [] => 0
  | room, t :: r => if (t.length : Int) + 1 ≤ room then grab (room - (t.length + 1)) r + 1 else 0
noncomputable def parts (ts : List Str) : List (Str × Str) := ts.map fun t => (SP, t)
theorem total_parts_cons (t : Str) (r : List Str) : total (parts (t :: r)) = (t.length : Int) + 1 + total (parts r) := by
  simp only [total, parts, List.map_cons, List.sum_cons]
  have : SP.length = 1 := rfl
  omega
theorem grab_spec : ∀ (l : List Str) (room : Int), (∀ i, i < grab room l → ∃ t, l[i]? = some t ∧ (t.length : Int) + 1 ≤ room - total (parts (l.take i))) ∧
    (l[grab room l]? = none ∨ ∃ t, l[grab room l]? = some t ∧ ¬ ((t.length : Int) + 1 ≤ room - total (parts (l.take (grab room l)))))
  | [], room => ⟨fun i h => by simp [grab] at h, .inl rfl⟩
  | t :: r, room => by
    unfold grab
    by_cases h : (t.length : Int) + 1 ≤ room
    · rw [if_pos h]
      obtain ⟨h1, h2⟩ := grab_spec r (room - (t.length + 1))
      refine ⟨fun i hi => ?_, ?_⟩
      · cases i with
        | zero => exact ⟨t, rfl, by simp [parts, total]; exact h⟩
        | succ i =>
          obtain ⟨u, e, hu⟩ := h1 i (by omega)
          refine ⟨u, by simpa using e, ?_⟩
          rw [List.take_succ_cons, total_parts_cons]
          omega
      · rcases h2 with e | ⟨u, e, hu⟩
        · exact .inl (by simpa using e)
        · refine .inr ⟨u, by simpa using e, ?_⟩
          rw [List.take_succ_cons, total_parts_cons]
          omega
    · rw [if_neg h]
      exact ⟨fun i hi => absurd hi (by omega), .inr ⟨t, rfl, by simpa [parts, total] using h⟩⟩
theorem parts_ok {l : List Str} (h : ∀ t ∈ l, t.length ≤ 10) (hn : l.length ≤ 10) : LineOk (parts l) := by
  refine lineOk_small (fun p hp => ?_) (by simp [parts]; omega)
  obtain ⟨t, ht, rfl⟩ := List.mem_map.mp hp
  have := h t ht
  have e : SP.length = 1 := rfl
  show SP.length + t.length ≤ 100
  omega
theorem parts_take {l : List Str} {i : Nat} {t : Str} (h : l[i]? = some t) : parts (l.take (i + 1)) = parts (l.take i) ++ [(SP, t)] := by
  rw [List.take_add_one, h]; simp [parts]

theorem lr_B : defB w.params 245 ["things", "room", "first"] = true := by kernel_rfl
theorem lr_bind (vs : List Value) (h : vs.length = 3) : bindArgs (fdK w.params 245) ⟨vs, []⟩ = pure ((["things", "room", "first"] : List Str).zip vs) := by
  match vs, h with
  | [a, b, c], _ => kernel_rfl
theorem lr_cells {L : Addr} : (callEnvC (fdK w.params 245) L 245).cells = [] := by kernel_rfl
noncomputable def ctxLR (v : Addr) (ts : List Str) (room : Int) (first i : Nat) : Ctxt := [("place", vInt ((first + i : Nat) : Int)), ("holder", vIs (.ref v)), ("things", vList (ts.map vStr)), ("room", vInt room), ("first", vInt first)]
set_option maxHeartbeats 1000000 in
theorem lr_ok {ts : List Str} {room : Int} {first : Nat} (hts : ∀ t ∈ ts, t.length ≤ 10) (hn : ts.length ≤ 10) : FnOK w 9 245 [vList (ts.map vStr), vInt room, vInt first] (vInt ((first + grab room (ts.drop first) : Nat) : Int)) := by
  obtain ⟨g1, g2⟩ := grab_spec (ts.drop first) room
  refine fn_intro (ns := ["things", "room", "first"]) lr_B rfl lim_K lr_bind fun X A L s₀ R hA F hR => ?_
  have hcl : ∀ n c, (n, c) ∈ (callEnvC (fdK w.params 245) L 245).cells → ∃ n', (callEnvC (fdK w.params 245) L 245).cells.lookup n' = some c := fun n c h => by rw [lr_cells] at h; cases h
  refine bd_assignN F (evn_call F.ok (hA.mono (by decide)) (fm_new (mx := room) (cw := SP) (sc := SP) rfl) (evl_cons ev_int (evl_cons (ev_name F.ok (x := "room") (p := vInt room) (.tail _ (.head _))) (evl_cons ev_str (evl_cons ev_str evl_nil)))) (by kernel_rfl) g_fm keep94) hcl fun M v hP hN hOf => ?_
  obtain ⟨df, x, dx, l, rfl⟩ := hP
  refine bd_and0 ?_
  have F2 : Fn w (callEnvC (fdK w.params 245) L 245) ([v, df, x, dx, l] ++ X) := F.mono fun z hz => List.mem_append_right _ hz
  refine bd_assign F2 (ev_name F.ok (x := "first") (p := vInt first) (.tail _ (.tail _ (.tail _ (.head _))))) ?_
  refine bd_sub (Δ := ctxLR v ts room first 0) ?_ (fun z hz => hz)
  have small : ∀ i, LineOk (parts ((ts.drop first).take i)) := fun i => parts_ok (fun t ht => hts t (List.mem_of_mem_drop (List.mem_of_mem_take ht))) (by simp; omega)
  have hidx : ∀ {i : Nat} {t : Str}, (ts.drop first)[i]? = some t → (ts.map vStr)[((first + i : Nat) : Int).toNat]? = some (vStr t) := fun {i t} e => by
    rw [Int.toNat_natCast, List.getElem?_map, ← List.getElem?_drop, e]; rfl
  have hlt : ∀ {i : Nat} {t : Str}, (ts.drop first)[i]? = some t → ((first + i : Nat) : Int) < ((ts.map vStr).length : Int) := fun {i t} e => by
    obtain ⟨h, _⟩ := List.getElem?_eq_some_iff.mp e
    simp at h ⊢; omega
  have htl : ∀ {i : Nat} {t : Str}, (ts.drop first)[i]? = some t → t.length ≤ 10 := fun {i t} e => hts t (List.mem_of_mem_drop (List.mem_of_getElem? e))
  refine bd_while (grab room (ts.drop first)) (Γs := ctxLR v ts room first) (O := [v, df, x, dx, l]) (μs := fun i => muF ⟨v, df, x, dx, l⟩ room SP (parts ((ts.drop first).take i)) []) (fun i => rfl) (fun i R' hi hnext => ?_) ?_ ?_
  · obtain ⟨t, ht, hle⟩ := g1 i hi
    refine ⟨tm_and (a := true) (b := true) (tm_of (tm_cmp (em_ev (ev_name F2.ok (x := "place") (p := vInt ((first + i : Nat) : Int)) (.head _))) (em_ev (ev_bicall F2.ok (evl_cons (ev_name F2.ok (x := "things") (p := vList (ts.map vStr)) (.tail _ (.tail _ (.head _)))) evl_nil) (bi_lenL (by simp; omega)) (by kernel_rfl) g_len b_len)) op_ltI) (decide_eq_true (hlt ht)))
      (fun _ => tm_of (tm_cmp (em_bin (em_ev (ev_bicall F2.ok (evl_cons (ev_idxL (k := ((first + i : Nat) : Int)) (p := vStr t) (ev_name F2.ok (x := "things") (p := vList (ts.map vStr)) (.tail _ (.tail _ (.head _)))) (ev_name F2.ok (x := "place") (.head _)) (Int.natCast_nonneg _) (hidx ht) (by simp; omega)) evl_nil) (bi_lenS (by have := htl ht; omega)) (by kernel_rfl) g_len b_len)) (em_ev ev_int) op_addI)
        (em_nextMax hA F2.ok F2 (em_ev (ev_name F2.ok (x := "holder") (.tail _ (.head _)))) (small i) (by kernel_rfl)) op_leI) (decide_eq_true hle)) (fun e => nomatch e), ?_⟩
    refine bd_exprM (μ' := muF ⟨v, df, x, dx, l⟩ room SP (parts ((ts.drop first).take i) ++ [(SP, t)]) []) (line_mcall (hA.mono (by decide)) (em_ev (ev_name F2.ok (x := "holder") (.tail _ (.head _)))) (elm_ev (evl_cons ev_str (evl_cons (ev_idxL (k := ((first + i : Nat) : Int)) (p := vStr t) (ev_name F2.ok (x := "things") (p := vList (ts.map vStr)) (.tail _ (.tail _ (.head _)))) (ev_name F2.ok (x := "place") (.head _)) (Int.natCast_nonneg _) (hidx ht) (by simp; omega)) evl_nil))) (by decide) m_push (push_ok (p := (SP, t)) (by simp [parts]; omega)) f_push) ?_
    refine bd_aug F2 (x := "place") (p := vInt ((first + i : Nat) : Int)) (.head _) ev_int op_iaddI ?_
    refine bd_nil fun s S => hnext s ?_
    rw [← parts_take ht] at S
    refine S.sub fun z hz => ?_
    have e : ((first + i : Nat) : Int) + 1 = ((first + (i + 1) : Nat) : Int) := by omega
    rw [e]; exact hz
  · rcases g2 with e | ⟨t, ht, hnl⟩
    · refine tm_and (a := false) (b := false) (tm_of (tm_cmp (em_ev (ev_name F2.ok (x := "place") (p := vInt ((first + grab room (ts.drop first) : Nat) : Int)) (.head _))) (em_ev (ev_bicall F2.ok (evl_cons (ev_name F2.ok (x := "things") (p := vList (ts.map vStr)) (.tail _ (.tail _ (.head _)))) evl_nil) (bi_lenL (by simp; omega)) (by kernel_rfl) g_len b_len)) op_ltI) (decide_eq_false ?_)) (fun e => nomatch e) fun _ => rfl
      have := List.getElem?_eq_none_iff.mp e
      simp at this ⊢; omega
    · exact tm_and (a := true) (b := false) (tm_of (tm_cmp (em_ev (ev_name F2.ok (x := "place") (p := vInt ((first + grab room (ts.drop first) : Nat) : Int)) (.head _))) (em_ev (ev_bicall F2.ok (evl_cons (ev_name F2.ok (x := "things") (p := vList (ts.map vStr)) (.tail _ (.tail _ (.head _)))) evl_nil) (bi_lenL (by simp; omega)) (by kernel_rfl) g_len b_len)) op_ltI) (decide_eq_true (hlt ht)))
        (fun _ => tm_of (tm_cmp (em_bin (em_ev (ev_bicall F2.ok (evl_cons (ev_idxL (k := ((first + grab room (ts.drop first) : Nat) : Int)) (p := vStr t) (ev_name F2.ok (x := "things") (p := vList (ts.map vStr)) (.tail _ (.tail _ (.head _)))) (ev_name F2.ok (x := "place") (.head _)) (Int.natCast_nonneg _) (hidx ht) (by simp; omega)) evl_nil) (bi_lenS (by have := htl ht; omega)) (by kernel_rfl) g_len b_len)) (em_ev ev_int) op_addI)
          (em_nextMax hA F2.ok F2 (em_ev (ev_name F2.ok (x := "holder") (.tail _ (.head _)))) (small _) (by kernel_rfl)) op_leI) (decide_eq_false hnl)) (fun e => nomatch e)
  · exact bd_ret (ev_name F2.ok (x := "place") (p := vInt ((first + grab room (ts.drop first) : Nat) : Int)) (.head _)) (retN hR hN hOf)
end
end Mine
end

section
open PySem PySem.Calls PyProof.Rows PySem.W
open PySem.Builtin PySem.Builtin.List PySem.Builtin.Str
set_option Elab.async false
set_option maxRecDepth 100000
set_option linter.unusedVariables false
namespace Mine
noncomputable section
variable {w : World} {A : Around} {X : List Addr} {env : Env} {Γ : Ctxt} {s₀ : Shared} {μ μ' μ₁ : Mu}

/-! ### str *= int -/
theorem noI_str_mul : typeLookup (.type "str") (dunderI "mul") = pure none := by rw [typeLookup_type, builtinLookup_eq_fast]; kernel_rfl
theorem seqI_str_mul : seqSlot? (.type "str") (dunderI "mul") = pure none := by
  unfold seqSlot?
  rw [noI_str_mul, pure_bind]; rfl
theorem wpAny_inplaceOp_repeat {M : Model} {s : Shared} {a n : Value} {T U id idr : String} {ix : Value} {E Q : Value → Shared → Prop} (hTU : (Value.type T == Value.type U) = false) (ha : ∀ s' : Shared, s'.TypeIs a T) (hn : ∀ s' : Shared, s'.TypeIs n U)
    (hI : typeLookup (.type T) (dunderI "mul") = pure none) (hIs : seqSlot? (.type T) (dunderI "mul") = pure none)
    (hfT : fillsNumberSlot (.type T) "mul" = pure false) (hfU : fillsNumberSlot (.type U) "mul" = pure true) (hr : Slot U (dunderR "mul") idr)
    (hrep : seqRepeat? (.type T) = pure (some (.builtin id))) (hix : typeLookup (.type U) "__index__" = pure (some ix))
    (hc : wpAny M A (call (.builtin idr) [n, a]) (fun v s' => v = .notImplemented ∧ wpAny M A (call (.builtin id) [a, n]) Q E s') E s) : wpAny M A (inplaceOp .Mult a n) Q E s := by
  unfold inplaceOp
  refine wpAny_holding ?_
  refine wpAny_bind (wpAny_typeOf (ha s) ?_)
  have hfill : fillsInplaceSlot (.type T) Operator.Mult.info.2 (Operator.Mult == Operator.Add) = pure false := by
    unfold fillsInplaceSlot
    show (do let fi ← typeLookup (.type T) (dunderI "mul"); _) = _
    rw [hI, pure_bind]; rfl
  refine wpAny_bind (wpAny_of_eq hfill ?_)
  rw [if_neg (by decide)]
  refine wpAny_bind (wpAny_binaryOp1_right_declines (nm := "mul") hTU (ha s) (hn s) hfT hfU hr (wpAny_mono hc (fun v s' h' => ⟨h'.1, ?_⟩) fun _ _ e => e))
  refine wpAny_bind (wpAny_of_eq hIs ?_)
  refine wpAny_bind (wpAny_of_eq hrep ?_)
  unfold sequenceRepeat
  refine wpAny_bind (wpAny_specialOf (hn s') hix ?_)
  exact wpAny_bind (wpAny_rule h'.2)
theorem imul_str {s : Shared} {x : Str} {n : Int} {t u : Tok} {E Q : Value → Shared → Prop} (hok : MulOk x n) (h : ∀ t' k, Q (.str (Txt.mul x n) t') { s with toks := k }) : wpAny (model PG w) A (inplaceOp .Mult (.str x t) (.int n u)) Q E s := by
  refine wpAny_inplaceOp_repeat (T := "str") (U := "int") (by decide) (fun s' => typeIs_str s' x t) (fun s' => typeIs_int s' n u) noI_str_mul seqI_str_mul noFill_str_mul F.fills_int_mul F.slot_int_rmul repeat_str F.slot_int_index.lookup
    (call_gives F.slot_int_rmul (typeIs_int s n u) F.entry_int_rmul (F.args_int_rmul_2 _ _) (AutoIntG1.int___rmul___int_str_0 n u x t)
      ⟨rfl, call_gives F.slot_str_mul (typeIs_str s x t) F.entry_str_mul (F.args_str_mul_2 _ _) (gives_str_mul x n t u hok.1 hok.2.1 hok.2.2) ?_⟩)
  unfold Txt.mul at h
  by_cases h1 : n < 1
  · rw [if_pos h1]; have h' := h s.toks (s.toks + 1); rw [if_pos h1] at h'; exact ⟨by decide, h'⟩
  · rw [if_neg h1]; refine post_val_or_made (fun hc => fits_reps (hok.2.2 h1 (by simpa using hc))) fun t' k => ?_
    have h' := h t' k; rw [if_neg h1] at h'; exact h'
theorem op_imulS {x : Str} {n : Int} (hok : MulOk x n) : Op2 w A (inplaceOp .Mult) (vStr x) (vInt n) (vStr (Txt.mul x n)) := by
  rintro X s E Q _ _ I B ⟨t, rfl⟩ ⟨u, rfl⟩ h
  exact imul_str hok fun t' k => h _ _ (I.tok _) (Gr.tok _ _) ⟨_, rfl⟩
theorem mulOk_one {c : Nat} {n : Int} (h : n < 1000) (h0 : -1000 < n) : MulOk ⟨#[c]⟩ n := by
  refine ⟨by simp; omega, fun h1 _ => ?_, fun h1 _ => ?_⟩
  · have : (1 : Int) ≤ (2 ^ 63 - 1) / n := by
      rw [Int.le_ediv_iff_mul_le (by omega)]; omega
    have e : ((Str.mk #[c]).length : Int) = 1 := rfl
    omega
  · have e : (Str.mk #[c]).length = 1 := rfl
    rw [e]
    unfold tooLong
    rw [decide_eq_false_iff_not, sizeLine_eq]
    omega
theorem mul_cl {c : Nat} {n : Int} : (Txt.mul ⟨#[c]⟩ n).cps.toList = List.replicate n.toNat c := by
  unfold Txt.mul
  by_cases h1 : n < 1
  · rw [if_pos h1]
    have : n.toNat = 0 := by omega
    rw [this]; rfl
  · rw [if_neg h1]
    have e0 : ((Str.mk #[c]).length == 0) = false := rfl
    rw [e0, Bool.or_false]
    by_cases h2 : n = 1
    · rw [if_pos (by simpa using h2), h2]; rfl
    · rw [if_neg (by simpa using h2)]
      show ((List.replicate n.toNat #[c]).foldl (· ++ ·) #[]).toList = _
      have key : ∀ (k : Nat) (a : Array Nat), ((List.replicate k #[c]).foldl (· ++ ·) a).toList = a.toList ++ List.replicate k c := by
        intro k
        induction k with
        | zero => intro a; simp
        | succ k ih => intro a; rw [List.replicate_succ, List.foldl_cons, ih]; simp [List.replicate_succ]
      rw [key]; rfl

theorem im_B : defB w.params 231 ["a", "b"] = true := by kernel_rfl
theorem im_bind (vs : List Value) (h : vs.length = 2) : bindArgs (fdK w.params 231) ⟨vs, []⟩ = pure ((["a", "b"] : List Str).zip vs) := by
  match vs, h with
  | [a, b], _ => kernel_rfl
theorem imulS_ok {x : Str} {n : Int} (hok : MulOk x n) : FnOK w 1 231 [vStr x, vInt n] (vStr (Txt.mul x n)) := by
  refine fn_intro (ns := ["a", "b"]) im_B rfl lim_K im_bind fun X A L s₀ R hA F hR => ?_
  exact bd_aug F (x := "a") (p := vStr x) (.head _) (ev_name F.ok (x := "b") (p := vInt n) (.tail _ (.head _))) (op_imulS hok) (bd_ret (ev_name F.ok (x := "a") (.head _)) hR.r0)
theorem ct_B : defB w.params 217 ["a", "b"] = true := by kernel_rfl
theorem ct_bind (vs : List Value) (h : vs.length = 2) : bindArgs (fdK w.params 217) ⟨vs, []⟩ = pure ((["a", "b"] : List Str).zip vs) := by
  match vs, h with
  | [a, b], _ => kernel_rfl
theorem contains_ok {ns : List Int} {d : Int} : FnOK w 2 217 [vTup (ns.map vInt), vInt d] (vBool (ns.any (· == d))) := by
  refine fn_intro (ns := ["a", "b"]) ct_B rfl lim_K ct_bind fun X A L s₀ R hA F hR => ?_
  exact bd_ret (ev_cmp (ev_name F.ok (x := "b") (p := vInt d) (.tail _ (.head _))) (ev_name F.ok (x := "a") (p := vTup (ns.map vInt)) (.head _)) (op_inT hA)) hR.r0
end
end Mine
end

section
open PySem PySem.Calls PyProof.Rows PySem.W
open PySem.Builtin PySem.Builtin.List PySem.Builtin.Str
set_option Elab.async false
set_option maxRecDepth 100000
set_option linter.unusedVariables false
namespace Mine
noncomputable section
variable {w : World} {A : Around} {X : List Addr} {env : Env} {Γ : Ctxt} {s₀ : Shared} {μ μ' μ₁ : Mu}

/-- a for that neither leaves nor returns -/
theorem bd_forS {ι : Type} {target : Expr} {pv : ι → VP} {bnd : ι → Ctxt → Ctxt} {pos : Pos} {iter : Expr} {body rest : List Stmt} (its : List ι) {Γs : Nat → Ctxt} {O : List Addr} {μs : Nat → Mu} {R : Flow → Shared → Prop} (F : Fn w env X) (hA : A.handled = none)
    (hs : SrcM w A X env s₀ Γ μ iter (μs 0) (its.map pv)) (h0 : ∀ z ∈ Γs 0, z ∈ Γ) (hT : TgS w A env target pv bnd) (hO : ∀ i, (μs i).O = O)
    (turn : ∀ (X' : List Addr) (i : Nat) (p : ι) (b : Shared) (R' : Flow → Shared → Prop), its[i]? = some p → (∀ z ∈ X, z ∈ X') → Fn w env X' → (∀ s', St w env X' b (μs (i + 1)) (Γs (i + 1)) s' → R' .next s') → Bd w A X' env b (μs i) (bnd p (Γs i)) body R')
    (k : Bd w A X env s₀ (μs its.length) (Γs its.length) rest R) (hcl : ∀ n c, (n, c) ∈ env.cells → ∃ n', env.cells.lookup n' = some c)
    (hfs : ∀ x, foldedSetIterable iter env x = pure x := by intro _; rfl) : Bd w A X env s₀ μ Γ (.For target iter body [] pos :: rest) R :=
  bd_forG its (Γs := Γs) (Γb := []) (O := O) (μs := μs) (μb := .never O) (Φr := fun _ _ => False) (rp := vNone) F hA hs h0 hT hO rfl (fun _ _ _ _ h => h) (fun _ _ _ _ h => h.elim) (fun X' i p b R' hp hX F' hn _ _ _ => turn X' i p b R' hp hX F' hn) (fun E => bd_then k) (fun s E S => S.mu.elim) hcl hfs
theorem range_get {n i p : Nat} (h : (List.range n)[i]? = some p) : p = i ∧ i < n := by
  obtain ⟨h1, h2⟩ := List.getElem?_eq_some_iff.mp h
  rw [List.getElem_range] at h2
  exact ⟨h2.symm, by simpa using h1⟩
/-- range(n) -/
theorem srcM_range1 {x : Str} {np pos : Pos} {a : Expr} {n : Nat} (hE : EnvOk env) (h : EvL w A X env Γ [a] [vInt n]) (hn : n < 2 ^ 40) (hk : env.kindOf x = some .globalImplicit) (e : nsK w.params mainGlobals x = some none) (e' : nsK w.params builtinsNs x = some (some (.type "range")))
    (hplain : (backTo pos (starEach [a] env)).any (·.1) = false := by rfl) (hd : (x == ("__debug__" : Str)) = false := by rfl) : SrcM w A X env s₀ Γ μ (.Call (.Name x np) [a] [] pos) μ ((List.range n).map fun (i : Nat) => vInt (i : Int)) :=
  srcM_is (srcM_of (src_range1 hE h (by omega) hk e e' hplain hd (by omega))) (by rw [Int.toNat_natCast])

theorem bi_lenM {α : Type} {f : α → VP} {xs : List α} (h : xs.length < 2 ^ 40) : BiOK w A "len" [vList (xs.map f)] (vInt xs.length) := by
  have := bi_lenL (w := w) (A := A) (ps := xs.map f) (by simp; omega)
  rwa [List.length_map] at this
noncomputable def reach (ts : List Str) (room : Int) (i : Nat) : Nat := i + grab room (ts.drop i)
noncomputable def dn (ts : List Str) (room : Int) : Nat → Nat
  | 0 => 0
  | i + 1 => reach ts room i
noncomputable def opS (ts : List Str) (room : Int) : Nat → Str
  | 0 => ""
  | i + 1 => opS ts room i ++ Txt.mul "(" ((reach ts room i : Int) - dn ts room i) ++ ")"
theorem grab_le : ∀ (l : List Str) (room : Int), grab room l ≤ l.length
  | [], _ => Nat.le_refl _
  | t :: r, room => by
    unfold grab
    have := grab_le r (room - (t.length + 1))
    split
    · simp; omega
    · simp
theorem reach_le {ts : List Str} {room : Int} {i : Nat} (h : i ≤ ts.length) : reach ts room i ≤ ts.length := by
  have := grab_le (ts.drop i) room
  unfold reach
  simp at this; omega
theorem dn_le {ts : List Str} {room : Int} {i : Nat} (h : i ≤ ts.length) : dn ts room i ≤ ts.length := by
  cases i with
  | zero => exact Nat.zero_le _
  | succ i => exact reach_le (by omega)
theorem LP_eq : (Str.ofString "(") = ⟨#[40]⟩ := by decide +kernel
theorem mulLP_len (n : Int) : (Txt.mul (Str.ofString "(") n).length = n.toNat := by rw [len_cl, LP_eq, mul_cl]; simp
theorem str_app_len (x y : Str) : (x ++ y).length = x.length + y.length := Str.length_append x y
theorem opS_len {ts : List Str} {room : Int} (hn : ts.length ≤ 10) : ∀ i, i ≤ ts.length → (opS ts room i).length ≤ 11 * i
  | 0, _ => Nat.le_refl _
  | i + 1, h => by
    have ih := opS_len (room := room) hn i (by omega)
    have h1 := reach_le (ts := ts) (room := room) (i := i) (by omega)
    have e1 : (Str.ofString ")").length = 1 := rfl
    show (opS ts room i ++ Txt.mul (Str.ofString "(") ((reach ts room i : Int) - dn ts room i) ++ Str.ofString ")").length ≤ _
    rw [str_app_len, str_app_len, mulLP_len, e1]
    omega
theorem lo_B : defB w.params 252 ["things", "room"] = true := by kernel_rfl
theorem lo_bind (vs : List Value) (h : vs.length = 2) : bindArgs (fdK w.params 252) ⟨vs, []⟩ = pure ((["things", "room"] : List Str).zip vs) := by
  match vs, h with
  | [a, b], _ => kernel_rfl
theorem lo_cells {L : Addr} : (callEnvC (fdK w.params 252) L 252).cells = [] := by kernel_rfl
theorem g_reach : nsK w.params mainGlobals "_law_reach" = some (some (.ref 245)) := by kernel_rfl
theorem g_iadd : nsK w.params mainGlobals "iadd" = some (some (.ref 224)) := by kernel_rfl
theorem g_imul : nsK w.params mainGlobals "imul" = some (some (.ref 231)) := by kernel_rfl
theorem g_isub : nsK w.params mainGlobals "isub" = some (some (.ref 238)) := by kernel_rfl
theorem f_245 : isFnK w.params 245 = true := by kernel_rfl
theorem f_224 : isFnK w.params 224 = true := by kernel_rfl
theorem f_231 : isFnK w.params 231 = true := by kernel_rfl
theorem f_238 : isFnK w.params 238 = true := by kernel_rfl
noncomputable def ctxLO (ts : List Str) (room : Int) (i : Nat) : Ctxt := [("done", vInt (dn ts room i)), ("opened", vStr (opS ts room i)), ("things", vList (ts.map vStr)), ("room", vInt room)]
set_option maxHeartbeats 1000000 in
theorem lo_ok {ts : List Str} {room : Int} (hts : ∀ t ∈ ts, t.length ≤ 10) (hn : ts.length ≤ 10) : FnOK w 10 252 [vList (ts.map vStr), vInt room] (vStr (opS ts room ts.length)) := by
  refine fn_intro (ns := ["things", "room"]) lo_B rfl lim_K lo_bind fun X A L s₀ R hA F hR => ?_
  have hcl : ∀ n c, (n, c) ∈ (callEnvC (fdK w.params 252) L 252).cells → ∃ n', (callEnvC (fdK w.params 252) L 252).cells.lookup n' = some c := fun n c h => by rw [lo_cells] at h; cases h
  refine bd_assign F ev_str ?_
  refine bd_assign F ev_int ?_
  refine bd_forS (List.range ts.length) (pv := fun (i : Nat) => vInt (i : Int)) (bnd := fun (i : Nat) Γ => ("first", vInt (i : Int)) :: dropN "first" Γ) (Γs := ctxLO ts room) (O := []) (μs := fun _ => .no) F hA.h (srcM_range1 F.ok (evl_cons (ev_bicall F.ok (evl_cons (ev_name F.ok (x := "things") (p := vList (ts.map vStr)) (.tail _ (.tail _ (.head _)))) evl_nil) (bi_lenM (xs := ts) (by omega)) (by kernel_rfl) g_len b_len) evl_nil) (by omega) (by kernel_rfl) g_range b_range) (fun z hz => hz) ?_ (fun _ => rfl) (fun X' i p b R' hp hX F' hnext => ?_) ?_ hcl
  · exact fun i X b μ Γ s v E Q F S hp k => wpAny_assign_Name (st_store F S hp (by kernel_rfl) k)
  · obtain ⟨rfl, hi⟩ := range_get hp
    have h1 := reach_le (ts := ts) (room := room) (i := p) (by omega)
    have h2 := dn_le (ts := ts) (room := room) (i := p) (by omega)
    have h3 := opS_len (ts := ts) (room := room) hn p (by omega)
    have e1 : (Str.ofString ")").length = 1 := rfl
    refine bd_assign F' (ev_call F'.ok (hA.mono (by decide)) (lr_ok hts hn) (evl_cons (ev_name F'.ok (x := "things") (p := vList (ts.map vStr)) (.tail _ (.tail _ (.tail _ (.head _))))) (evl_cons (ev_name F'.ok (x := "room") (p := vInt room) (.tail _ (.tail _ (.tail _ (.tail _ (.head _)))))) (evl_cons (ev_name F'.ok (x := "first") (p := vInt (p : Int)) (.head _)) evl_nil))) (by kernel_rfl) g_reach f_245) ?_
    refine bd_assign F' (ev_call F'.ok (hA.mono (by decide)) (iaddS_ok (a := opS ts room p) (b := Txt.mul (Str.ofString "(") ((reach ts room p : Int) - dn ts room p)) (by rw [mulLP_len, sizeLine_eq]; omega)) (evl_cons (ev_name F'.ok (x := "opened") (p := vStr (opS ts room p)) (.tail _ (.tail _ (.tail _ (.head _))))) (evl_cons (ev_call F'.ok (hA.mono (by decide)) (imulS_ok (x := Str.ofString "(") (by rw [LP_eq]; exact mulOk_one (by omega) (by omega))) (evl_cons ev_str (evl_cons (ev_call F'.ok (hA.mono (by decide)) isub_ok (evl_cons (ev_name F'.ok (x := "reach") (p := vInt (reach ts room p : Int)) (.head _)) (evl_cons (ev_name F'.ok (x := "done") (p := vInt (dn ts room p : Int)) (.tail _ (.tail _ (.head _)))) evl_nil)) (by kernel_rfl) g_isub f_238) evl_nil)) (by kernel_rfl) g_imul f_231) evl_nil)) (by kernel_rfl) g_iadd f_224) ?_
    refine bd_assign F' (ev_call F'.ok (hA.mono (by decide)) (iaddS_ok (a := opS ts room p ++ Txt.mul (Str.ofString "(") ((reach ts room p : Int) - dn ts room p)) (b := Str.ofString ")") (by rw [str_app_len, mulLP_len, sizeLine_eq, e1]; omega)) (evl_cons (ev_name F'.ok (x := "opened") (.head _)) (evl_cons ev_str evl_nil)) (by kernel_rfl) g_iadd f_224) ?_
    refine bd_assign F' (ev_name F'.ok (x := "reach") (p := vInt (reach ts room p : Int)) (.tail _ (.head _))) ?_
    refine bd_nil fun s S => hnext s (S.sub fun z hz => ?_)
    have hz : z ∈ [(("done" : Str), vInt (reach ts room p : Int)), ("opened", vStr (opS ts room p ++ Txt.mul (Str.ofString "(") ((reach ts room p : Int) - dn ts room p) ++ Str.ofString ")")), ("things", vList (ts.map vStr)), ("room", vInt room)] := hz
    simp only [List.mem_cons, List.not_mem_nil, or_false] at hz
    rcases hz with e | e | e | e
    · rw [e]; exact .head _
    · rw [e]; exact .tail _ (.head _)
    · rw [e]; exact .tail _ (.tail _ (.tail _ (.tail _ (.head _))))
    · rw [e]; exact .tail _ (.tail _ (.tail _ (.tail _ (.tail _ (.head _)))))
  · rw [List.length_range]
    exact bd_ret (ev_name F.ok (x := "opened") (p := vStr (opS ts room ts.length)) (.tail _ (.head _))) hR.r0
end
end Mine
end

section
open PySem PySem.Calls PyProof.Rows PySem.W
open PySem.Builtin PySem.Builtin.List PySem.Builtin.Str
set_option Elab.async false
set_option maxRecDepth 100000
set_option linter.unusedVariables false
namespace Mine
noncomputable section
variable {w : World} {A : Around} {X : List Addr} {env : Env} {Γ : Ctxt} {s₀ : Shared} {μ μ' μ₁ : Mu}
variable {a : FA} {mx : Int} {sc : Str} {ps ps' : List (Str × Str)} {ls ls' : List Str}

/-! ### split -/
theorem call_split1 {x y : Str} {t u : Tok} {s : Shared} {E Q : Value → Shared → Prop} (hy : (y.length == 0) = false)
    (hq : ∀ (l : List (Str × Tok)) k, l.map (·.1) = Txt.split x y → Q (.ref s.heap.objs.size) { s with heap := s.heap.push { cls := .type "list", data := .seq (strValues l).toArray }, toks := k })
    (hsz : x.length ≤ sizeLine) (hsz2 : (partsBetween x (occurrences x y 0 x.length (x.length + 1)) y.length).length ≤ sizeLine) :
    wpAny (model PG w) A (call (.builtin "str.split") [.str x t, .str y u]) Q E s := by
  cases h1 : (decide (x.length < y.length) || decide (strKind x < strKind y))
  · cases hf : (occurrences x y 0 x.length (x.length + 1)).isEmpty
    · refine call_meets F.slot_str_split (typeIs_str _ _ _) F.entry_str_split (F.args_str_split_2 _ _) (meets_str_split_sep x y t u h1 hy hf hsz hsz2) ?_
      show wants Q E _ { s with toks := _, heap := s.heap.push { cls := .type "list", data := .seq (strsFrom s.toks (partsBetween x (occurrences x y 0 x.length (x.length + 1)) y.length)).toArray } }
      rw [strsFrom_eq]
      exact hq (numbered s.toks _) _ ((numbered_texts _ _).trans ((if_neg (ne_true_of_eq_false h1)).trans (if_neg (ne_true_of_eq_false hf))).symm)
    · exact call_meets F.slot_str_split (typeIs_str _ _ _) F.entry_str_split (F.args_str_split_2 _ _) (meets_str_split_not_found x y t u h1 hy hf)
        (hq [(x, t)] _ ((if_neg (ne_true_of_eq_false h1)).trans (if_pos hf)).symm)
  · exact call_meets F.slot_str_split (typeIs_str _ _ _) F.entry_str_split (F.args_str_split_2 _ _) (meets_str_split_cannot_occur x y t u h1)
      (hq [(x, t)] _ (if_pos h1).symm)
theorem all2_strs {g : Heap} : ∀ (l : List (Str × Tok)), All2 g ((l.map (·.1)).map vStr) (strValues l)
  | [] => trivial
  | p :: r => ⟨⟨p.2, rfl⟩, all2_strs r⟩
theorem occ_count (x y : Str) : (partsBetween x (occurrences x y 0 x.length (x.length + 1)) y.length).length ≤ x.length + 2 := by
  rw [length_partsBetween]
  have := StrLaws.occ_length_le x y 0 x.length (x.length + 1)
  omega
theorem bi_split {x y : Str} (hy : (y.length == 0) = false) (hx : x.length ≤ 1000000) : BiOK w A "str.split" [vStr x, vStr y] (vList ((Txt.split x y).map vStr)) := by
  intro X s E Q vs I B hA k
  obtain ⟨_, _, rfl, ⟨t, rfl⟩, ⟨u, rfl⟩⟩ := all2 hA
  refine call_split1 hy (fun l tk hl => ?_) (by rw [sizeLine_eq]; omega) (by have := occ_count x y; rw [sizeLine_eq]; omega)
  refine k _ _ (I.keeps tk (push_K _)) (Gr.keeps tk (push_K _)) ?_
  have := new_seq (T := "list") (n := 0) (d := none) (sl := #[]) B (all2_strs (g := hideAll s.heap X) l)
  rw [hl] at this
  exact this
/-- a builtin's method, of what an expression that turns gives -/
theorem em_meth2 {o : Expr} {name : Str} {apos pos : Pos} {T id : String} {e : List Expr} {p : VP} {qs : List VP} {r : VP} (ho : EvM w A X env s₀ Γ μ o μ' p) (ha : EvLM w A X env s₀ Γ μ' e qs)
    (pa : PlainAttrs T) (slot : Slot T name id) (ty : typeOf (.builtin id) = pure (.type "method_descriptor"))
    (hT : ∀ (s : Shared) v, St w env X s₀ μ' Γ s → p.p (hideAll s.heap X) v → s.TypeIs v T ∧ (∀ a, v = .ref a → ∃ ob, s.heap.get? a = some ob ∧ ob.dict = none))
    (C : BiOK w A id (p :: qs) r)
    (hplain : (backTo pos (starEach e env)).any (·.1) = false := by rfl)
    (hbase : attributeBase o name env (eval o env) = eval o env := by rfl)
    (hfew : ((backTo pos (starEach e env)).all (fun x => !x.1) && (backToKw pos (keywordEach [] env)).all (fun x => x.1.isSome)
      && decide (e.length + ([] : List Keyword).length + (if ([] : List Keyword).isEmpty then 0 else 1) < 30)) = true := by rfl)
    (hline : (apos.endLine == pos.line) = true := by rfl) :
    EvM w A X env s₀ Γ μ (.Call (.Attribute o name apos) e [] pos) μ' r := fun s E Q S k =>
  wpAny_Call_method_lateS hbase hfew hline (ho s E _ S fun v s1 S1 hs1 hp => by
    obtain ⟨h1, h2⟩ := hT s1 v S1 hp
    refine ⟨T, id, pa, slot, ty, h1, h2, callWith_builtin hplain (evalArgs_M ha hplain S1 fun vs s2 S2 hs2 hA2 => ?_)⟩
    exact C X s2 E Q (v :: vs) S2.inv S2.bel ⟨p.st _ _ _ hs2 hp, hA2⟩ fun u s3 I3 G3 hr => k u s3 (S2.step I3 G3) ((hs1.trans hs2).trans (hid_sub S2.bel G3)) hr)

/-! ### split undoes join -/
theorem cut_eq {c : Nat} : ∀ {a b r s : List Nat}, c ∉ a → c ∉ b → a ++ c :: r = b ++ c :: s → a = b ∧ r = s
  | [], [], _, _, _, _, h => ⟨rfl, by simpa using h⟩
  | [], b :: bs, _, _, _, hb, h => by
    simp only [List.nil_append, List.cons_append, List.cons.injEq] at h
    exact absurd (h.1 ▸ List.mem_cons_self) hb
  | a :: as, [], _, _, ha, _, h => by
    simp only [List.nil_append, List.cons_append, List.cons.injEq] at h
    exact absurd (h.1 ▸ List.mem_cons_self) ha
  | a :: as, b :: bs, _, _, ha, hb, h => by
    simp only [List.cons_append, List.cons.injEq] at h
    obtain ⟨h1, h2⟩ := cut_eq (fun m => ha (.tail _ m)) (fun m => hb (.tail _ m)) h.2
    exact ⟨by rw [h.1, h1], h2⟩
theorem str_ext {x y : Str} (h : x.cps.toList = y.cps.toList) : x = y := Str.ext' (Array.toList_inj.mp h)
theorem join_inj {c : Nat} : ∀ {A B : List Str}, A ≠ [] → B ≠ [] → (∀ p ∈ A, c ∉ p.cps.toList) → (∀ p ∈ B, c ∉ p.cps.toList) → Str.join ⟨#[c]⟩ A = Str.join ⟨#[c]⟩ B → A = B
  | [], _, h, _, _, _, _ => absurd rfl h
  | _, [], _, h, _, _, _ => absurd rfl h
  | [x], [y], _, _, _, _, h => by rw [show x = y from h]
  | [x], y :: z :: r, _, _, hA, _, h => by
    exfalso
    have h2 : x.cps.toList = y.cps.toList ++ c :: (Str.join ⟨#[c]⟩ (z :: r)).cps.toList := by
      have h' : x = y ++ ⟨#[c]⟩ ++ Str.join ⟨#[c]⟩ (z :: r) := h
      rw [h']
      show ((y.cps ++ #[c]) ++ (Str.join ⟨#[c]⟩ (z :: r)).cps).toList = _
      simp
    exact hA x (.head _) (by rw [h2]; simp)
  | x :: z :: r, [y], _, _, _, hB, h => by
    exfalso
    have h2 : y.cps.toList = x.cps.toList ++ c :: (Str.join ⟨#[c]⟩ (z :: r)).cps.toList := by
      have h' : x ++ ⟨#[c]⟩ ++ Str.join ⟨#[c]⟩ (z :: r) = y := h
      rw [← h']
      show ((x.cps ++ #[c]) ++ (Str.join ⟨#[c]⟩ (z :: r)).cps).toList = _
      simp
    exact hB y (.head _) (by rw [h2]; simp)
  | x :: x' :: r, y :: y' :: r', _, _, hA, hB, h => by
    have h2 : x.cps.toList ++ c :: (Str.join ⟨#[c]⟩ (x' :: r)).cps.toList = y.cps.toList ++ c :: (Str.join ⟨#[c]⟩ (y' :: r')).cps.toList := by
      have h' : x ++ ⟨#[c]⟩ ++ Str.join ⟨#[c]⟩ (x' :: r) = y ++ ⟨#[c]⟩ ++ Str.join ⟨#[c]⟩ (y' :: r') := h
      have := congrArg (fun z => z.cps.toList) h'
      have e1 : ∀ (p q : Str), (p ++ ⟨#[c]⟩ ++ q).cps.toList = p.cps.toList ++ c :: q.cps.toList := fun p q => by
        show ((p.cps ++ #[c]) ++ q.cps).toList = _
        simp
      simpa [e1] using this
    obtain ⟨h3, h4⟩ := cut_eq (hA x (.head _)) (hB y (.head _)) h2
    rw [str_ext h3, join_inj (A := x' :: r) (B := y' :: r') (by simp) (by simp) (fun p hp => hA p (.tail _ hp)) (fun p hp => hB p (.tail _ hp)) (str_ext h4)]
theorem split_of_join {c : Nat} {ls : List Str} (h0 : ls ≠ []) (h : ∀ p ∈ ls, c ∉ p.cps.toList) : Txt.split (Txt.join ⟨#[c]⟩ ls) ⟨#[c]⟩ = ls := by
  refine join_inj (c := c) ?_ h0 (StrLaws.split_free _ c) h ?_
  · intro e
    have := split_pos (Txt.join ⟨#[c]⟩ ls) ⟨#[c]⟩
    rw [e] at this
    simp at this
  · rw [StrLaws.join_split, join_eq]
end
end Mine
end

section
open PySem PySem.Calls PyProof.Rows PySem.W
open PySem.Builtin PySem.Builtin.List PySem.Builtin.Str
set_option Elab.async false
set_option maxRecDepth 100000
set_option linter.unusedVariables false
namespace Mine
noncomputable section
variable {w : World} {A : Around} {X : List Addr} {env : Env} {Γ : Ctxt} {s₀ : Shared} {μ μ' μ₁ : Mu}

structure WordOk (t : Str) : Prop where
  pos : 1 ≤ t.length
  le : t.length ≤ 10
  ch : ∀ c ∈ t.cps.toList, 97 ≤ c ∧ c ≤ 102
noncomputable def fstep (room : Int) (st : List (Str × Str) × List Str) (t : Str) : List (Str × Str) × List Str :=
  if total (st.1 ++ [(SP, t)]) ≤ room then (st.1 ++ [(SP, t)], st.2) else ([(SP, t)], st.2 ++ [flat st.1])
noncomputable def fst' (room : Int) (ts : List Str) : Nat → List (Str × Str) × List Str
  | 0 => ([], [])
  | i + 1 => match ts[i]? with | some t => fstep room (fst' room ts i) t | none => fst' room ts i
noncomputable def linesOf (room : Int) (ts : List Str) : List Str := (fst' room ts ts.length).2 ++ [flat (fst' room ts ts.length).1]
noncomputable def RowOk (ts : List Str) (ps : List (Str × Str)) : Prop := ∀ p ∈ ps, ∃ t ∈ ts, p = (SP, t)
structure FInv (ts : List Str) (i : Nat) (st : List (Str × Str) × List Str) : Prop where
  n1 : st.1.length ≤ i
  r1 : RowOk ts st.1
  ne : 1 ≤ i → st.1 ≠ []
  n2 : st.2.length ≤ i
  r2 : ∀ l ∈ st.2, ∃ qs, l = flat qs ∧ RowOk ts qs ∧ qs.length ≤ i
theorem finv {room : Int} {ts : List Str} : ∀ i, i ≤ ts.length → FInv ts i (fst' room ts i)
  | 0, _ => ⟨Nat.le_refl _, fun p hp => (nomatch hp), fun h => (by omega), Nat.le_refl _, fun l hl => (nomatch hl)⟩
  | i + 1, h => by
    have ih := finv (room := room) (ts := ts) i (by omega)
    obtain ⟨t, ht⟩ : ∃ t, ts[i]? = some t := ⟨_, List.getElem?_eq_getElem (by omega)⟩
    have htm : t ∈ ts := List.mem_of_getElem? ht
    have e : fst' room ts (i + 1) = fstep room (fst' room ts i) t := by
      show (match ts[i]? with | some t => fstep room (fst' room ts i) t | none => fst' room ts i) = _
      rw [ht]
    rw [e]
    unfold fstep
    have one : RowOk ts [(SP, t)] := fun p hp => ⟨t, htm, List.mem_singleton.mp hp⟩
    split
    · refine ⟨by simp; exact ih.n1, fun p hp => (List.mem_append.mp hp).elim (ih.r1 p) (one p), fun _ => by simp, Nat.le_succ_of_le ih.n2, fun l hl => ?_⟩
      obtain ⟨qs, h1, h2, h3⟩ := ih.r2 l hl
      exact ⟨qs, h1, h2, by omega⟩
    · refine ⟨by simp, one, fun _ => by simp, by simp; exact ih.n2, fun l hl => ?_⟩
      rcases List.mem_append.mp hl with hl | hl
      · obtain ⟨qs, h1, h2, h3⟩ := ih.r2 l hl
        exact ⟨qs, h1, h2, by omega⟩
      · exact ⟨_, List.mem_singleton.mp hl, ih.r1, by have := ih.n1; omega⟩
theorem fst_step {room : Int} {ts : List Str} {i : Nat} {t : Str} (ht : ts[i]? = some t) : fst' room ts (i + 1) = fstep room (fst' room ts i) t := by
  show (match ts[i]? with | some t => fstep room (fst' room ts i) t | none => fst' room ts i) = _
  rw [ht]
theorem row_line {ts : List Str} {qs : List (Str × Str)} (hts : ∀ t ∈ ts, WordOk t) (h : RowOk ts qs) (hn : qs.length ≤ 20) : LineOk qs := by
  refine lineOk_small (fun p hp => ?_) (by omega)
  obtain ⟨t, ht, rfl⟩ := h p hp
  have := (hts t ht).le
  have e : SP.length = 1 := rfl
  show SP.length + t.length ≤ 100
  omega
theorem flat_len {ts : List Str} : ∀ {qs : List (Str × Str)}, (∀ t ∈ ts, WordOk t) → RowOk ts qs → (flat qs).length ≤ 11 * qs.length := by
  intro qs hts h
  rw [len_cl, flat_cl]
  induction qs with
  | nil => simp
  | cons p r ih =>
    obtain ⟨t, ht, e⟩ := h p (.head _)
    have h1 := (hts t ht).le
    have h2 := ih fun q hq => h q (.tail _ hq)
    rw [List.map_cons, List.flatten_cons, List.length_append, List.length_append, e, ← len_cl, ← len_cl, List.length_cons]
    have e : SP.length = 1 := rfl
    show SP.length + t.length + _ ≤ _
    omega
theorem row_ch {ts : List Str} {qs : List (Str × Str)} (hts : ∀ t ∈ ts, WordOk t) (h : RowOk ts qs) : ∀ c ∈ (flat qs).cps.toList, c = 32 ∨ (97 ≤ c ∧ c ≤ 102) := by
  intro c hc
  rw [flat_cl, List.mem_flatten] at hc
  obtain ⟨l, hl, hc⟩ := hc
  obtain ⟨p, hp, rfl⟩ := List.mem_map.mp hl
  obtain ⟨t, ht, rfl⟩ := h p hp
  rcases List.mem_append.mp hc with hc | hc
  · have e : SP.cps.toList = [32] := rfl
    have hc : c ∈ SP.cps.toList := hc
    rw [e] at hc
    exact .inl (List.mem_singleton.mp hc)
  · exact .inr ((hts t ht).ch c hc)
theorem total_len : ∀ (qs : List (Str × Str)), total qs = ((flat qs).length : Int)
  | [] => rfl
  | p :: r => by
    have ih := total_len r
    rw [len_cl, flat_cl] at ih ⊢
    rw [List.map_cons, List.flatten_cons, List.length_append, List.length_append, ← len_cl, ← len_cl]
    simp only [total, List.map_cons, List.sum_cons] at ih ⊢
    omega
theorem notspace {qs : List (Str × Str)} {c : Nat} (h : c ∈ (flat qs).cps.toList) (hc : Unicode.isSpace c = false) : Txt.isspace (flat qs) = false := by
  unfold Txt.isspace
  rw [Bool.and_eq_false_iff]
  right
  rw [Array.all_eq_false']
  exact ⟨c, Array.mem_toList_iff.mp h, by rw [hc]; decide⟩
theorem letter_nospace : ∀ c, c < 103 → 97 ≤ c → Unicode.isSpace c = false := by decide +kernel
theorem same_pair {a b u v : Str} (h : a ≠ u ∨ b ≠ v) : PySem.Spec.same (.tuple [.str a, .str b]) (.tuple [.str u, .str v]) = false := by
  show ((a == u) && ((b == v) && true)) = false
  rcases h with h | h
  · rw [beq_false_of_ne h]; rfl
  · rw [beq_false_of_ne h]; simp
theorem row_newline {ts : List Str} {qs : List (Str × Str)} (hts : ∀ t ∈ ts, WordOk t) (h : RowOk ts qs) (hne : qs ≠ []) (hn : qs.length ≤ 20) {a : FA} {mx : Int} {sc : Str} {ls : List Str} (hl : ls.length < 1000000) :
    MOK w 9 56 (muF a mx sc qs ls) (FmP a mx sc [] (ls ++ [flat qs])) [vIs (.ref a.f)] vNone := by
  obtain ⟨init, p, rfl⟩ : ∃ init p, qs = init ++ [p] := ⟨qs.dropLast, qs.getLast hne, (List.dropLast_concat_getLast hne).symm⟩
  obtain ⟨t, ht, e⟩ := h p (by simp)
  have W := hts t ht
  obtain ⟨c, hc⟩ : ∃ c, c ∈ t.cps.toList := by
    have := W.pos
    rw [len_cl] at this
    exact List.exists_mem_of_length_pos this
  have hcm : c ∈ (flat (init ++ [p])).cps.toList := by
    rw [flat_cl, List.mem_flatten]
    exact ⟨_, List.mem_map_of_mem (f := fun p : Str × Str => p.1.cps.toList ++ p.2.cps.toList) (show p ∈ init ++ [p] by simp), List.mem_append_right _ (by rw [e]; exact hc)⟩
  have hcb := W.ch c hc
  refine newline_ok (row_line hts h hn) (by rw [e]; show PyData.strOk SP = true; decide +kernel) ?_ (same_pair (.inr ?_)) ?_ (notspace hcm (letter_nospace c (by omega) hcb.1)) hl
  · rw [e]
    show t.cps.all (· < 0x110000) = true
    rw [Array.all_eq_true']
    intro d hd
    have := W.ch d (Array.mem_toList_iff.mpr hd)
    simp; omega
  · rw [e]
    intro q
    have := W.pos
    have q : t = Str.ofString "" := q
    rw [q] at this
    exact absurd this (by decide)
  · rw [total_len, len_cl]
    have := List.length_pos_of_mem hcm
    omega

theorem lf_B : defB w.params 259 ["things", "room"] = true := by kernel_rfl
theorem lf_bind (vs : List Value) (h : vs.length = 2) : bindArgs (fdK w.params 259) ⟨vs, []⟩ = pure ((["things", "room"] : List Str).zip vs) := by
  match vs, h with
  | [a, b], _ => kernel_rfl
theorem lf_cells {L : Addr} : (callEnvC (fdK w.params 259) L 259).cells = [] := by kernel_rfl
theorem mf_ac : methB (K' w.params) 94 "_append_chunk" (.ref 91) = true := by kernel_rfl
theorem ff_ac : isFnK w.params 91 = true := by kernel_rfl
theorem mf_str : methB (K' w.params) 94 "_str" (.ref 42) = true := by kernel_rfl
theorem ff_str : isFnK w.params 42 = true := by kernel_rfl
theorem NL_eq : (Str.ofString "\n") = ⟨#[10]⟩ := by decide +kernel
set_option maxHeartbeats 1000000 in
theorem lf_ok {ts : List Str} {room : Int} (hts : ∀ t ∈ ts, WordOk t) (hn : ts.length ≤ 10) (h0 : ts ≠ []) (hr : ∀ t ∈ ts, (t.length : Int) + 1 ≤ room) : FnOK w 12 259 [vList (ts.map vStr), vInt room] (vList ((linesOf room ts).map vStr)) := by
  refine fn_intro (ns := ["things", "room"]) lf_B rfl lim_K lf_bind fun X A L s₀ R hA F hR => ?_
  have hcl : ∀ n c, (n, c) ∈ (callEnvC (fdK w.params 259) L 259).cells → ∃ n', (callEnvC (fdK w.params 259) L 259).cells.lookup n' = some c := fun n c h => by rw [lf_cells] at h; cases h
  refine bd_assignN F (evn_call F.ok (hA.mono (by decide)) (fm_new (mx := room) (cw := SP) (sc := SP) rfl) (evl_cons ev_int (evl_cons (ev_name F.ok (x := "room") (p := vInt room) (.tail _ (.head _))) (evl_cons ev_str (evl_cons ev_str evl_nil)))) (by kernel_rfl) g_fm keep94) hcl fun M v hP hN hOf => ?_
  obtain ⟨df, x, dx, l, rfl⟩ := hP
  refine bd_and0 ?_
  have F2 : Fn w (callEnvC (fdK w.params 259) L 259) ([v, df, x, dx, l] ++ X) := F.mono fun z hz => List.mem_append_right _ hz
  refine bd_forS ts (pv := vStr) (bnd := fun t Γ => ("thing", vStr t) :: dropN "thing" Γ) (Γs := fun _ => [("writer", vIs (.ref v)), ("things", vList (ts.map vStr)), ("room", vInt room)]) (O := [v, df, x, dx, l]) (μs := fun i => muF ⟨v, df, x, dx, l⟩ room SP (fst' room ts i).1 (fst' room ts i).2) F2 hA.h (srcM_of (src_list (ev_name F2.ok (x := "things") (p := vList (ts.map vStr)) (.tail _ (.head _))))) (fun z hz => hz) (fun i X b μ Γ s v E Q F S hp k => wpAny_assign_Name (st_store F S hp (by kernel_rfl) k)) (fun i => rfl) (fun X' i t b R' hp hX F' hnext => ?_) ?_ hcl
  · obtain ⟨hlt, _⟩ := List.getElem?_eq_some_iff.mp hp
    have htm : t ∈ ts := List.mem_of_getElem? hp
    have I := finv (room := room) (ts := ts) i (by omega)
    have n1 := I.n1
    have n2 := I.n2
    have row1 : RowOk ts ((fst' room ts i).1 ++ [(SP, t)]) := fun p hp => (List.mem_append.mp hp).elim (I.r1 p) fun h => ⟨t, htm, List.mem_singleton.mp h⟩
    have H1 : LineOk ((fst' room ts i).1 ++ [(SP, t)]) := row_line hts row1 (by simp; omega)
    have H2 : LineOk (fst' room ts i).1 := row_line hts I.r1 (by omega)
    by_cases hfit : total ((fst' room ts i).1 ++ [(SP, t)]) ≤ room
    · have e : fst' room ts (i + 1) = ((fst' room ts i).1 ++ [(SP, t)], (fst' room ts i).2) := by rw [fst_step hp]; unfold fstep; rw [if_pos hfit]
      refine bd_exprM (μ' := muF ⟨v, df, x, dx, l⟩ room SP ((fst' room ts i).1 ++ [(SP, t)]) (fst' room ts i).2) (fm_mcall (hA.mono (by decide)) (em_ev (ev_name F'.ok (x := "writer") (.tail _ (.head _)))) (elm_ev (evl_cons ev_str (evl_cons (ev_name F'.ok (x := "thing") (p := vStr t) (.head _)) evl_nil))) (by decide +kernel) mf_ac (append_fit_ok (p := (SP, t)) H1 hfit) (.all rfl rfl) ff_ac) ?_
      refine bd_nil fun s S => hnext s ?_
      show St w _ X' b (muF ⟨v, df, x, dx, l⟩ room SP (fst' room ts (i + 1)).1 (fst' room ts (i + 1)).2) _ s
      rw [e]
      exact S.sub fun z hz => .tail _ hz
    · have e : fst' room ts (i + 1) = ([(SP, t)], (fst' room ts i).2 ++ [flat (fst' room ts i).1]) := by rw [fst_step hp]; unfold fstep; rw [if_neg hfit]
      have hne : (fst' room ts i).1 ≠ [] := by
        intro q
        rw [q] at hfit
        have := hr t htm
        have e1 : SP.length = 1 := rfl
        simp [total, e1] at hfit
        omega
      refine bd_exprM (μ' := muF ⟨v, df, x, dx, l⟩ room SP [(SP, t)] ((fst' room ts i).2 ++ [flat (fst' room ts i).1])) (fm_mcall (hA.mono (by decide)) (em_ev (ev_name F'.ok (x := "writer") (.tail _ (.head _)))) (elm_ev (evl_cons ev_str (evl_cons (ev_name F'.ok (x := "thing") (p := vStr t) (.head _)) evl_nil))) (by decide +kernel) mf_ac (append_over_ok (p := (SP, t)) H1 H2 hne rfl (by omega) (by omega)) (.all rfl rfl) ff_ac) ?_
      refine bd_nil fun s S => hnext s ?_
      show St w _ X' b (muF ⟨v, df, x, dx, l⟩ room SP (fst' room ts (i + 1)).1 (fst' room ts (i + 1)).2) _ s
      rw [e]
      exact S.sub fun z hz => .tail _ hz
  · have I := finv (room := room) (ts := ts) ts.length (Nat.le_refl _)
    have n1 := I.n1
    have n2 := I.n2
    have hpos : 1 ≤ ts.length := List.length_pos_iff.mpr h0
    have rows : ∀ l ∈ linesOf room ts, ∃ qs, l = flat qs ∧ RowOk ts qs ∧ qs.length ≤ 10 := fun l hl => by
      rcases List.mem_append.mp hl with hl | hl
      · obtain ⟨qs, h1, h2, h3⟩ := I.r2 l hl
        exact ⟨qs, h1, h2, by omega⟩
      · exact ⟨_, List.mem_singleton.mp hl, I.r1, by omega⟩
    have len1 : ∀ l ∈ linesOf room ts, l.length ≤ 110 := fun l hl => by
      obtain ⟨qs, rfl, h2, h3⟩ := rows l hl
      have := flat_len hts h2
      omega
    have hL : (linesOf room ts).length ≤ 11 := by simp [linesOf]; omega
    have sum1 := StrLaws.sumLen_le (linesOf room ts) len1
    have e1 : (Str.ofString "\n").length = 1 := rfl
    have hok : ((linesOf room ts).map (·.length)).sum + (linesOf room ts).length * (Str.ofString "\n").length ≤ 16777216 := by rw [e1]; omega
    have jl : (Txt.join (Str.ofString "\n") (linesOf room ts)).length ≤ 1000000 := by
      rw [join_eq]
      have := StrLaws.join_length_le (Str.ofString "\n") (linesOf room ts)
      rw [e1] at this
      omega
    have C := row_newline (w := w) (a := ⟨v, df, x, dx, l⟩) (mx := room) (sc := SP) (ls := (fst' room ts ts.length).2) hts I.r1 (I.ne hpos) (by omega) (by omega)
    have key : Txt.split (Txt.join (Str.ofString "\n") (linesOf room ts)) (Str.ofString "\n") = linesOf room ts := by
      rw [NL_eq]
      refine split_of_join (by simp [linesOf]) fun p hp hm => ?_
      obtain ⟨qs, rfl, h2, _⟩ := rows p hp
      rcases row_ch hts h2 10 hm with h | h <;> omega
    have B := bi_split (w := w) (A := A) (x := Txt.join (Str.ofString "\n") (linesOf room ts)) (y := Str.ofString "\n") (by rw [e1]; rfl) jl
    rw [key] at B
    exact bd_retM (μ' := muF ⟨v, df, x, dx, l⟩ room SP [] (linesOf room ts)) (em_meth2 (fm_mcall (hA.mono (by decide)) (em_ev (ev_name F2.ok (x := "writer") (.head _))) (elm_ev (evl_cons ev_str evl_nil)) (by decide +kernel) mf_str (fstr_ok (ls' := linesOf room ts) C hok) (.all rfl rfl) ff_str) (elm_ev (evl_cons ev_str evl_nil)) PySem.F.plainAttrs_str PySem.F.slot_str_split PySem.F.type_str_split (fun s v S hv => str_type X s v hv) B) rfl (retN hR hN hOf)
end
end Mine
end

section
open PySem PySem.Calls PyProof.Rows PySem.W
open PySem.Builtin PySem.Builtin.List PySem.Builtin.Str
set_option Elab.async false
set_option maxRecDepth 100000
set_option linter.unusedVariables false
namespace Mine
noncomputable section
variable {w : World} {A : Around} {X : List Addr} {env : Env} {Γ : Ctxt} {s₀ : Shared} {μ μ' μ₁ : Mu}

theorem bd_ifB {t : Expr} {b : Bool} {a c : List Stmt} {pos : Pos} {rest : List Stmt} {R : Flow → Shared → Prop} (ht : Te w A X env Γ t b) (h1 : b = true → ∀ E : Value → Shared → Prop, Bd w A X env s₀ μ Γ a fun f s' => match f with | .next => wpAny (model PG w) A (execs rest env) R E s' | f => R f s')
    (h2 : b = false → ∀ E : Value → Shared → Prop, Bd w A X env s₀ μ Γ c fun f s' => match f with | .next => wpAny (model PG w) A (execs rest env) R E s' | f => R f s') : Bd w A X env s₀ μ Γ (.If t a c pos :: rest) R := by
  cases b with
  | true => exact bd_ifT ht (h1 rfl)
  | false => exact bd_ifF ht (h2 rfl)
noncomputable def hit (ds : List Int) (e l : Nat) : Bool := [(0 : Int), 1].any (· == ds.getD e 0 - ds.getD l 0)
noncomputable def nIn (ds : List Int) (l : Nat) : Nat → Int
  | 0 => 0
  | e + 1 => nIn ds l e + (if hit ds e l then 1 else 0)
noncomputable def nOut (ds : List Int) : Nat → Int
  | 0 => 0
  | l + 1 => nOut ds l + nIn ds l l
theorem ln_B : defB w.params 283 ["levels"] = true := by kernel_rfl
theorem ln_bind (vs : List Value) (h : vs.length = 1) : bindArgs (fdK w.params 283) ⟨vs, []⟩ = pure ((["levels"] : List Str).zip vs) := by
  match vs, h with
  | [a], _ => kernel_rfl
theorem ln_cells {L : Addr} : (callEnvC (fdK w.params 283) L 283).cells = [] := by kernel_rfl
theorem g_contains : nsK w.params mainGlobals "contains" = some (some (.ref 217)) := by kernel_rfl
theorem f_217 : isFnK w.params 217 = true := by kernel_rfl
theorem getD_get {ds : List Int} {i : Nat} (h : i < ds.length) : (ds.map vInt)[(i : Int).toNat]? = some (vInt (ds.getD i 0)) := by
  rw [Int.toNat_natCast, List.getElem?_map, List.getD_eq_getElem?_getD, List.getElem?_eq_getElem h]; rfl
set_option maxHeartbeats 1000000 in
theorem ln_ok {ds : List Int} (hn : ds.length ≤ 10) : FnOK w 4 283 [vList (ds.map vInt)] (vInt (nOut ds ds.length)) := by
  refine fn_intro (ns := ["levels"]) ln_B rfl lim_K ln_bind fun X A L s₀ R hA F hR => ?_
  have hcl : ∀ n c, (n, c) ∈ (callEnvC (fdK w.params 283) L 283).cells → ∃ n', (callEnvC (fdK w.params 283) L 283).cells.lookup n' = some c := fun n c h => by rw [ln_cells] at h; cases h
  refine bd_assign F ev_int ?_
  refine bd_forS (List.range ds.length) (pv := fun (i : Nat) => vInt (i : Int)) (bnd := fun (i : Nat) Γ => ("later", vInt (i : Int)) :: dropN "later" Γ) (Γs := fun l => [("near", vInt (nOut ds l)), ("levels", vList (ds.map vInt))]) (O := []) (μs := fun _ => .no) F hA.h (srcM_range1 F.ok (evl_cons (ev_bicall F.ok (evl_cons (ev_name F.ok (x := "levels") (p := vList (ds.map vInt)) (.tail _ (.head _))) evl_nil) (bi_lenM (xs := ds) (by omega)) (by kernel_rfl) g_len b_len) evl_nil) (by omega) (by kernel_rfl) g_range b_range) (fun z hz => hz) (fun i X b μ Γ s v E Q F S hp k => wpAny_assign_Name (st_store F S hp (by kernel_rfl) k)) (fun _ => rfl) (fun X' i l b R' hp hX F' hnext => ?_) ?_ hcl
  · obtain ⟨rfl, hl⟩ := range_get hp
    refine bd_forS (List.range l) (pv := fun (i : Nat) => vInt (i : Int)) (bnd := fun (i : Nat) Γ => ("earlier", vInt (i : Int)) :: dropN "earlier" Γ) (Γs := fun e => [("near", vInt (nOut ds l + nIn ds l e)), ("later", vInt (l : Int)), ("levels", vList (ds.map vInt))]) (O := []) (μs := fun _ => .no) F' hA.h (srcM_range1 F'.ok (evl_cons (ev_name F'.ok (x := "later") (p := vInt (l : Int)) (.head _)) evl_nil) (by omega) (by kernel_rfl) g_range b_range) (fun z hz => ?_) (fun i X b μ Γ s v E Q F S hp k => wpAny_assign_Name (st_store F S hp (by kernel_rfl) k)) (fun _ => rfl) (fun X'' i e b' R'' hp' hX' F'' hnext' => ?_) ?_ hcl
    · simp only [nIn, Int.add_zero, List.mem_cons, List.not_mem_nil, or_false] at hz
      rcases hz with e | e | e
      · rw [e]; exact .tail _ (.head _)
      · rw [e]; exact .head _
      · rw [e]; exact .tail _ (.tail _ (.head _))
    · obtain ⟨rfl, he⟩ := range_get hp'
      refine bd_ifB (b := hit ds e l) (te_bool (ev_call F''.ok (hA.mono (by decide)) (contains_ok (ns := [0, 1])) (evl_cons (ev_tup (evl_cons ev_int (evl_cons ev_int evl_nil))) (evl_cons (ev_call F''.ok (hA.mono (by decide)) isub_ok (evl_cons (ev_idxL (k := (e : Int)) (ev_name F''.ok (x := "levels") (p := vList (ds.map vInt)) (.tail _ (.tail _ (.tail _ (.head _))))) (ev_name F''.ok (x := "earlier") (.head _)) (Int.natCast_nonneg _) (getD_get (by omega)) (by simp; omega)) (evl_cons (ev_idxL (k := (l : Int)) (ev_name F''.ok (x := "levels") (p := vList (ds.map vInt)) (.tail _ (.tail _ (.tail _ (.head _))))) (ev_name F''.ok (x := "later") (p := vInt (l : Int)) (.tail _ (.tail _ (.head _)))) (Int.natCast_nonneg _) (getD_get hl) (by simp; omega)) evl_nil)) (by kernel_rfl) g_isub f_238) evl_nil)) (by kernel_rfl) g_contains f_217)) (fun hh E => ?_) (fun hh E => ?_)
      · refine bd_assign F'' (ev_call F''.ok (hA.mono (by decide)) iaddI_ok (evl_cons (ev_name F''.ok (x := "near") (p := vInt (nOut ds l + nIn ds l e)) (.tail _ (.head _))) (evl_cons ev_int evl_nil)) (by kernel_rfl) g_iadd f_224) (bd_then ?_)
        refine bd_nil fun s S => hnext' s (S.sub fun z hz => ?_)
        have e1 : nIn ds l (e + 1) = nIn ds l e + 1 := by show _ + (if hit ds e l then (1 : Int) else 0) = _; rw [hh]; rfl
        simp only [e1, ← Int.add_assoc, List.mem_cons, List.not_mem_nil, or_false] at hz
        rcases hz with e | e | e
        · rw [e]; exact .head _
        · rw [e]; exact .tail _ (.tail _ (.head _))
        · rw [e]; exact .tail _ (.tail _ (.tail _ (.head _)))
      · refine bd_then ?_
        refine bd_nil fun s S => hnext' s (S.sub fun z hz => ?_)
        have e1 : nIn ds l (e + 1) = nIn ds l e := by show _ + (if hit ds e l then (1 : Int) else 0) = _; rw [hh]; exact Int.add_zero _
        simp only [e1, List.mem_cons, List.not_mem_nil, or_false] at hz
        rcases hz with e | e | e
        · rw [e]; exact .tail _ (.head _)
        · rw [e]; exact .tail _ (.tail _ (.head _))
        · rw [e]; exact .tail _ (.tail _ (.tail _ (.head _)))
    · rw [List.length_range]
      refine bd_nil fun s S => hnext s (S.sub fun z hz => ?_)
      have hz : z ∈ [(("near" : Str), vInt (nOut ds l + nIn ds l l)), ("levels", vList (ds.map vInt))] := hz
      simp only [List.mem_cons, List.not_mem_nil, or_false] at hz
      rcases hz with e | e
      · rw [e]; exact .head _
      · rw [e]; exact .tail _ (.tail _ (.head _))
  · rw [List.length_range]
    exact bd_ret (ev_name F.ok (x := "near") (p := vInt (nOut ds ds.length)) (.head _)) hR.r0
end
end Mine
end

section
open PySem PySem.Calls PyProof.Rows PySem.W
open PySem.Builtin PySem.Builtin.List PySem.Builtin.Str
set_option Elab.async false
set_option maxRecDepth 100000
set_option linter.unusedVariables false
namespace Mine
noncomputable section
variable {w : World} {A : Around} {X : List Addr} {env : Env} {Γ : Ctxt} {s₀ : Shared} {μ μ' μ₁ : Mu}

/-- an owned list -/
noncomputable def muLV (l : Addr) (qs : List VP) : Mu := ⟨[l], fun g h => ∃ vs n, h.get? l = some { cls := .type "list", data := .seq vs n } ∧ All2 g qs vs.toList, fun g g' h h' hs hk H => let ⟨vs, n, ho, hv⟩ := H; ⟨vs, n, hk l (.head _) _ ho, hv.st hs⟩⟩
theorem evn_nilV {pos : Pos} : EvN w A X env Γ (.List [] pos) fun M v => M = muLV v [] := fun s₀ s μ E Q S k =>
  wpAny_List (wpAny_items_nil (pos := pos) (env := env) ⟨by decide, by
    have I1 := S.inv.keeps s.toks (push_K (s := s) { cls := .type "list", data := .seq ([] : List Value).toArray })
    have G1 := Gr.keeps (s := s) s.toks (push_K (s := s) { cls := .type "list", data := .seq ([] : List Value).toArray })
    have ho : (s.heap.push { cls := .type "list", data := .seq ([] : List Value).toArray }).get? s.heap.objs.size = some { cls := .type "list", data := .seq ([] : List Value).toArray } := Heap.get?_push_size _ rfl
    exact k _ s.heap.objs.size _ rfl I1 G1 (fun a ha => by rw [List.mem_singleton.mp ha]; exact new_none _) (bel_new S.bel I1 G1 fun a ha => by rw [List.mem_singleton.mp ha]; exact ⟨_, ho⟩) ⟨#[], 0, ho, trivial⟩⟩)
theorem bd_assignNX {x : Str} {px pos : Pos} {e : Expr} {P : Mu → Addr → Prop} {rest : List Stmt} {R : Flow → Shared → Prop} (F : Fn w env X) (he : EvN w A X env Γ e P) (hcl : ∀ n c, (n, c) ∈ env.cells → ∃ n', env.cells.lookup n' = some c)
    (k : ∀ (M : Mu) (v : Addr), P M v → (∀ a ∈ M.O, s₀.heap.get? a = none) → (∀ a ∈ M.O, Off w a ∧ a ∉ X) → Bd w A (M.O ++ X) env s₀ (M.and μ) ((x, vIs (.ref v)) :: dropN x Γ) rest R)
    (hk : stB env x = true := by kernel_rfl) (hs : swapsWith e (some (.Name x px)) pos.line env = pure false := by rfl) : Bd w A X env s₀ μ Γ (.Assign [.Name x px] e pos :: rest) R :=
  fun s E S => wpAny_execs_cons (wpAny_Assign_Name (he s₀ s μ E _ S fun M v s1 hP I G hn B hΦ => by
    obtain ⟨S1, h0, hX⟩ := st_new F S hcl I G hn B hΦ
    exact st_store (F.mono fun z hz => List.mem_append_right _ hz) S1 rfl hk fun s2 S2 => k M v hP h0 (fun a ha => ⟨(S1.mo a (List.mem_append_left _ ha)).2.1, (hX a ha).1⟩) s2 E S2) hs)
theorem lv_append {l : Addr} {qs : List VP} {p : VP} {s : Shared} {v : Value} {E Q : Value → Shared → Prop} (S : St w env X s₀ (muLV l qs) Γ s) (hv : p.p (hideAll s.heap X) v) (hz : qs.length < 1000000)
    (k : ∀ s', St w env X s₀ (muLV l (qs ++ [p])) Γ s' → Sub (hideAll s.heap X) (hideAll s'.heap X) → Q .none s') : wpAny (model PG w) A (call (.builtin "list.append") [.ref l, v]) Q E s := by
  obtain ⟨vs, n, ho, hAl⟩ := S.mu
  have hsz : vs.size = qs.length := by have := hAl.length; simpa using this
  have hl : l ∈ (muLV l qs).O := .head _
  refine call_meets slot_list_append (T := "list") ⟨_, ho, rfl⟩ entry_list_append (args_list_append _ _) (S := fun _ R s' => s'.heap.get? l = some { cls := .type "list", data := .seq vs n } ∧ R (.ok (.ret Value.none)) { s' with heap := s'.heap.update l (Obj.mapSeq fun x_1 => x_1.push v) })
    (Meets.of_wp fun prog w A R s' hq => by
      show wpAny _ _ (updateSeq l (·.push v) >>= fun _ => ret .none) _ _ s'
      exact wpAny_bind (wpAny_updateSeq hq.1 rfl (wpAny_pure ⟨.none, rfl, hq.2⟩) (by rw [sizeLine_eq]; omega) (by rw [Array.size_push, sizeLine_eq]; omega))) ⟨ho, ?_⟩
  have hb : Heap.SameBut l s.heap (s.heap.update l (Obj.mapSeq fun x_1 => x_1.push v)) := Heap.SameBut.update ..
  have hget := Heap.get?_update_self (Obj.mapSeq fun x_1 => x_1.push v) ho rfl
  obtain ⟨S3, hs⟩ := st_upd (μ' := muLV l (qs ++ [p])) S hl hb ⟨_, hget⟩ s.toks rfl fun hs => by
    refine ⟨vs.push v, _, hget, ?_⟩
    have h1 : (vs.push v).toList = vs.toList ++ [v] := by simp
    rw [h1]
    exact (hAl.st hs).append ⟨p.st _ _ _ hs hv, trivial⟩
  exact k _ S3 hs
theorem em_addLV {o e : Expr} {l : Addr} {qs : List VP} {p : VP} {p2 p3 : Pos} (ho : EvM w A X env s₀ Γ (muLV l qs) o (muLV l qs) (vIs (.ref l))) (he : EvM w A X env s₀ Γ (muLV l qs) e (muLV l qs) p) (hz : qs.length < 1000000)
    (hst : ∀ env, starEach [e] env = (false, eval e env) :: starEach [] env := by intro _; rfl) (hplain : (backTo p3 (starEach [e] env)).any (·.1) = false := by rfl)
    (hbase : attributeBase o "append" env (eval o env) = eval o env := by rfl)
    (hfew : ((backTo p3 (starEach [e] env)).all (fun x => !x.1) && (backToKw p3 (keywordEach [] env)).all (fun x => x.1.isSome)
      && decide ([e].length + ([] : List Keyword).length + (if ([] : List Keyword).isEmpty then 0 else 1) < 30)) = true := by rfl)
    (hline : (p2.endLine == p3.line) = true := by rfl) :
    EvM w A X env s₀ Γ (muLV l qs) (.Call (.Attribute o "append" p2) [e] [] p3) (muLV l (qs ++ [p])) vNone :=
  em_meth (T := "list") (id := "list.append") ho (elm_cons he elm_nil hst) PySem.F.plainAttrs_list PySem.F.slot_list_append PySem.type_list_append (fun s v S hv => by
      obtain ⟨vs, n, ho, _⟩ := S.mu
      have hv' : v = .ref l := hv
      subst hv'
      exact meths_list ho)
    (fun s E Q v vs S hv hA2 k => by
      have hv' : v = .ref l := hv
      subst hv'
      obtain ⟨u, rfl, hu⟩ := all1 hA2
      exact lv_append S hu hz fun s' S' hs' => k _ s' S' hs' rfl) hplain hbase hfew hline
noncomputable def keptPart (p : Str × Str) : Str × Str := if Txt.contains p.2 (Str.ofString "[") then (Str.ofString "", Str.ofString "") else p
theorem pv_B : defB w.params 210 ["parsed_email_header_tuples"] = true := by kernel_rfl
theorem pv_bind (vs : List Value) (h : vs.length = 1) : bindArgs (fdK w.params 210) ⟨vs, []⟩ = pure ((["parsed_email_header_tuples"] : List Str).zip vs) := by
  match vs, h with
  | [a], _ => kernel_rfl
theorem pv_cells {L : Addr} : (callEnvC (fdK w.params 210) L 210).cells = [] := by kernel_rfl
set_option maxHeartbeats 1000000 in
theorem pv_ok {ps : List (Str × Str)} (hn : ps.length ≤ 100) : FnOK w 2 210 [vList (ps.map vPart)] (vList ((ps.map keptPart).map vPart)) := by
  refine fn_intro (ns := ["parsed_email_header_tuples"]) pv_B rfl lim_K pv_bind fun X A L s₀ R hA F hR => ?_
  have hcl : ∀ n c, (n, c) ∈ (callEnvC (fdK w.params 210) L 210).cells → ∃ n', (callEnvC (fdK w.params 210) L 210).cells.lookup n' = some c := fun n c h => by rw [pv_cells] at h; cases h
  refine bd_assignNX F evn_nilV hcl fun M l hP hN hOf => ?_
  subst hP
  refine bd_and0 ?_
  have F2 : Fn w (callEnvC (fdK w.params 210) L 210) ([l] ++ X) := F.mono fun z hz => List.mem_append_right _ hz
  refine bd_forS ps (pv := vPart) (bnd := fun p Γ => ("v", vPart p) :: dropN "v" Γ) (Γs := fun _ => [("accepted_values", vIs (.ref l)), ("parsed_email_header_tuples", vList (ps.map vPart))]) (O := [l]) (μs := fun i => muLV l (((ps.take i).map keptPart).map vPart)) F2 hA.h (srcM_of (src_list (ev_name F2.ok (x := "parsed_email_header_tuples") (p := vList (ps.map vPart)) (.tail _ (.head _))))) (fun z hz => hz) (fun i X b μ Γ s v E Q F S hp k => wpAny_assign_Name (st_store F S hp (by kernel_rfl) k)) (fun i => rfl) (fun X' i p b R' hp hX F' hnext => ?_) ?_ hcl
  · obtain ⟨hlt, _⟩ := List.getElem?_eq_some_iff.mp hp
    have e1 : ((ps.take (i + 1)).map keptPart).map vPart = ((ps.take i).map keptPart).map vPart ++ [vPart (keptPart p)] := by rw [List.take_add_one, hp]; simp
    refine bd_ifB (te_cmp ev_str (ev_idxT (k := 1) (ps := [vStr p.1, vStr p.2]) (ev_name F'.ok (x := "v") (p := vPart p) (.head _)) ev_int (by decide) rfl) op_inS) (fun hh E => ?_) (fun hh E => ?_)
    · refine bd_assign F' (ev_tup (evl_cons ev_str (evl_cons ev_str evl_nil))) (bd_then ?_)
      have e2 : keptPart p = (Str.ofString "", Str.ofString "") := by unfold keptPart; rw [if_pos hh]
      refine bd_exprM (μ' := muLV l (((ps.take i).map keptPart).map vPart ++ [vPart (Str.ofString "", Str.ofString "")])) (em_addLV (em_ev (ev_name F'.ok (x := "accepted_values") (.tail _ (.head _)))) (em_ev (ev_name F'.ok (x := "v") (.head _))) (by simp; omega)) ?_
      refine bd_nil fun s S => hnext s ?_
      show St w _ X' b (muLV l (((ps.take (i + 1)).map keptPart).map vPart)) _ s
      rw [e1, e2]
      exact S.sub fun z hz => .tail _ hz
    · refine bd_then ?_
      have e2 : keptPart p = p := by unfold keptPart; rw [hh]; rfl
      refine bd_exprM (μ' := muLV l (((ps.take i).map keptPart).map vPart ++ [vPart p])) (em_addLV (em_ev (ev_name F'.ok (x := "accepted_values") (.tail _ (.head _)))) (em_ev (ev_name F'.ok (x := "v") (.head _))) (by simp; omega)) ?_
      refine bd_nil fun s S => hnext s ?_
      show St w _ X' b (muLV l (((ps.take (i + 1)).map keptPart).map vPart)) _ s
      rw [e1, e2]
      exact S.sub fun z hz => .tail _ hz
  · rw [List.take_length]
    intro s E S
    refine wpAny_execs_cons (wpAny_Return_some (st_ev (ev_name F2.ok (x := "accepted_values") (.head _)) S fun v s1 S1 _ hp => ?_))
    have hp' : v = .ref l := hp
    subst hp'
    obtain ⟨vs, n, ho, hAl⟩ := S1.mu
    have hl := hOf l (.head _)
    refine hR.ret [l] hN _ s1 S1.inv S1.gr trivial ⟨fun y hy => S1.bel.ex y (.tail _ hy), (List.mem_cons.mp S1.bel.a).elim (fun h => absurd h.symm hl.1.a) fun h => h, (List.mem_cons.mp S1.bel.b).elim (fun h => absurd h.symm hl.1.b) fun h => h⟩ ?_
    exact ⟨l, _, n, vs, rfl, hideAll_get X ho hl.2, rfl, rfl, hAl.st (hid_mono fun z hz => .tail _ hz)⟩
end
end Mine
end

section
open PySem PySem.Calls PyProof.Rows PySem.W
open PySem.Builtin PySem.Builtin.List PySem.Builtin.Str
set_option Elab.async false
set_option maxRecDepth 100000
set_option linter.unusedVariables false
namespace Mine
noncomputable section
variable {w : World} {A : Around} {X : List Addr} {env : Env} {Γ : Ctxt} {s₀ : Shared} {μ μ' μ₁ : Mu}

/-! ### a comprehension with one for -/
noncomputable def OwnB (scope : Scope) (env : Env) (x : Str) : Prop := ∀ C, (cEnv scope env C).kindOf x = some .local ∨ ((cEnv scope env C).kindOf x = some .cell ∧ ((cOwn scope C).lookup x).isSome = true)
theorem own_name {scope : Scope} {C : Addr} {x : Str} (h : OwnB scope env x) (hl : ∀ x c, (cOwn scope C).lookup x = some c → c ∈ cK scope C ∧ (cEnv scope env C).cells.lookup x = some c) : OwnName (cEnv scope env C) (cK scope C) x := by
  rcases h C with q | ⟨q, q'⟩
  · exact .inl q
  · obtain ⟨c, hc⟩ := Option.isSome_iff_exists.mp q'
    obtain ⟨h1, h2⟩ := hl x c hc
    exact .inr ⟨q, c, h1, h2⟩
theorem flat_filter {ι : Type} (tv : ι → Bool) (rv : ι → VP) : ∀ (its : List ι), (its.map fun q => if tv q then [rv q] else []).flatten = (its.filter tv).map rv
  | [] => rfl
  | q :: r => by
    rw [List.map_cons, List.flatten_cons, flat_filter tv rv r, List.filter_cons]
    cases tv q <;> rfl
theorem comp1_turn {ι : Type} {elt target iter : Expr} {pos : Pos} {ifs : List Expr} {scope : Scope} {its : List ι} {pv rv : ι → VP} {tv : ι → Bool} {Γc : Ctxt} {bnd : ι → Ctxt} 
    (hT : ∀ (C : Addr) (q : ι), (∀ x c, (cOwn scope C).lookup x = some c → c ∈ cK scope C ∧ (cEnv scope env C).cells.lookup x = some c) → TgOK (cEnv scope env C) (cK scope C) target (pv q) (bnd q)) (hx : ∀ q, ∀ z ∈ Γc, ∀ y ∈ bnd q, z.1 ≠ y.1)
    (hifs : ∀ Y C q, (∀ z ∈ X, z ∈ Y) → EnvOk (cEnv scope env C) → q ∈ its → TsOK w A Y (cEnv scope env C) (bnd q ++ Γc) ifs (tv q))
    (helt : ∀ Y C q, (∀ z ∈ X, z ∈ Y) → EnvOk (cEnv scope env C) → q ∈ its → tv q = true → Ev w A Y (cEnv scope env C) (bnd q ++ Γc) elt (rv q)) :
    ∀ (Y : List Addr) (D C : Addr) (i : Nat) (q : VP) (out : List VP), (∀ z ∈ X, z ∈ Y) → EnvOk (cEnv scope env C) → (∀ x c, (cOwn scope C).lookup x = some c → c ∈ cK scope C ∧ (cEnv scope env C).cells.lookup x = some c) → (its.map pv)[i]? = some q → (its.map fun q => if tv q then [rv q] else [])[i]? = some out →
      TurnOK w A Y (cEnv scope env C) D (cK scope C) Γc target ifs (afterT elt [⟨target, iter, ifs, 0⟩] (.ListComp elt [⟨target, iter, ifs, 0⟩] scope pos) 0 (.ref D) (cEnv scope env C)) q out := by
  intro Y D C i q out hY hE hl hq ho
  rw [List.getElem?_map, Option.map_eq_some_iff] at hq ho
  obtain ⟨z, hz, rfl⟩ := hq
  obtain ⟨z', hz', rfl⟩ := ho
  rw [hz] at hz'
  cases hz'
  have hm : z ∈ its := List.mem_of_getElem? hz
  refine ⟨bnd z, tv z, hT C z hl, hx z, hifs Y C z hY hE hm, fun ht => ?_, fun ht => by rw [ht]; rfl⟩
  rw [ht]
  show InOK w A Y (cEnv scope env C) D (cK scope C) _ (emitT elt (cEnv scope env C) (.ref D)) [rv z]
  exact in_emit fun Y' hY' => helt Y' C z (fun a ha => hY' a (hY a ha)) hE hm ht
theorem ev_comp1 {ι : Type} {elt target iter : Expr} {pos : Pos} {ifs : List Expr} {scope : Scope} (its : List ι) (pv rv : ι → VP) (tv : ι → Bool) (Γc : Ctxt) (bnd : ι → Ctxt) (hA : A.handled = none) (hE : EnvOk env) (hB : compB env scope = true) (hs : SrcT w A X env Γ target iter (its.map pv)) (hΓ : ∀ z ∈ Γc, z ∈ Γ ∧ visB env scope z.1 = true) (hz : its.length ≤ 1000000)
    (hT : ∀ (C : Addr) (q : ι), (∀ x c, (cOwn scope C).lookup x = some c → c ∈ cK scope C ∧ (cEnv scope env C).cells.lookup x = some c) → TgOK (cEnv scope env C) (cK scope C) target (pv q) (bnd q)) (hx : ∀ q, ∀ z ∈ Γc, ∀ y ∈ bnd q, z.1 ≠ y.1)
    (hifs : ∀ Y C q, (∀ z ∈ X, z ∈ Y) → EnvOk (cEnv scope env C) → q ∈ its → TsOK w A Y (cEnv scope env C) (bnd q ++ Γc) ifs (tv q))
    (helt : ∀ Y C q, (∀ z ∈ X, z ∈ Y) → EnvOk (cEnv scope env C) → q ∈ its → tv q = true → Ev w A Y (cEnv scope env C) (bnd q ++ Γc) elt (rv q))
    (hfs : ∀ x, foldedSetIterable iter env x = pure x := by intro _; rfl) : Ev w A X env Γ (.ListComp elt [⟨target, iter, ifs, 0⟩] scope pos) (vList ((its.filter tv).map rv)) := by
  have h := ev_comp (its.map pv) (its.map fun q => if tv q then [rv q] else []) Γc hA hE hB hs hΓ (by simp) (by rw [flat_filter, List.length_map]; exact Nat.le_trans (List.length_filter_le ..) hz) (comp1_turn (w := w) (A := A) (X := X) (elt := elt) (iter := iter) (pos := pos) hT hx hifs helt) (by intro g' h; cases h) hfs
  rw [flat_filter] at h
  exact h
theorem bd_comp1 {ι : Type} {x : Str} {px spos : Pos} {elt target iter : Expr} {pos : Pos} {ifs : List Expr} {scope : Scope} {rest : List Stmt} {R : Flow → Shared → Prop} (its : List ι) (pv rv : ι → VP) (tv : ι → Bool) (Γc : Ctxt) (bnd : ι → Ctxt) (F : Fn w env X) (hA : A.handled = none) (hB : compB env scope = true) (hs : SrcT w A X env Γ target iter (its.map pv)) (hΓ : ∀ z ∈ Γc, z ∈ Γ ∧ visB env scope z.1 = true) (hz : its.length ≤ 1000000)
    (hT : ∀ (C : Addr) (q : ι), (∀ x c, (cOwn scope C).lookup x = some c → c ∈ cK scope C ∧ (cEnv scope env C).cells.lookup x = some c) → TgOK (cEnv scope env C) (cK scope C) target (pv q) (bnd q)) (hx : ∀ q, ∀ z ∈ Γc, ∀ y ∈ bnd q, z.1 ≠ y.1)
    (hifs : ∀ Y C q, (∀ z ∈ X, z ∈ Y) → EnvOk (cEnv scope env C) → q ∈ its → TsOK w A Y (cEnv scope env C) (bnd q ++ Γc) ifs (tv q))
    (helt : ∀ Y C q, (∀ z ∈ X, z ∈ Y) → EnvOk (cEnv scope env C) → q ∈ its → tv q = true → Ev w A Y (cEnv scope env C) (bnd q ++ Γc) elt (rv q))
    (k : Bd w A X env s₀ μ ((x, vList ((its.filter tv).map rv)) :: dropN x Γ) rest R) (hcl : ∀ n c, (n, c) ∈ env.cells → ∃ n', env.cells.lookup n' = some c) (hk : stB env x = true := by kernel_rfl)
    (hsw : swapsWith (.ListComp elt [⟨target, iter, ifs, 0⟩] scope pos) (some (.Name x px)) spos.line env = pure true := by kernel_rfl)
    (hfs : ∀ x, foldedSetIterable iter env x = pure x := by intro _; rfl) : Bd w A X env s₀ μ Γ (.Assign [.Name x px] (.ListComp elt [⟨target, iter, ifs, 0⟩] scope pos) spos :: rest) R := by
  refine bd_assignComp (its.map pv) (its.map fun q => if tv q then [rv q] else []) Γc F hA hB hs hΓ (by simp) (by rw [flat_filter, List.length_map]; exact Nat.le_trans (List.length_filter_le ..) hz) (comp1_turn (w := w) (A := A) (X := X) (elt := elt) (iter := iter) (pos := pos) hT hx hifs helt) ?_ hcl hk hsw (by intro g' h; cases h) hfs
  rw [flat_filter]
  exact k
theorem filter_true {ι : Type} (its : List ι) : its.filter (fun _ => true) = its := List.filter_eq_self.mpr fun _ _ => rfl
end
end Mine
end

section
open PySem PySem.Calls PyProof.Rows PySem.W
open PySem.Builtin PySem.Builtin.List PySem.Builtin.Str
set_option Elab.async false
set_option maxRecDepth 100000
set_option linter.unusedVariables false
namespace Mine
noncomputable section
variable {w : World} {A : Around} {X : List Addr} {env : Env} {Γ : Ctxt} {s₀ : Shared} {μ μ' μ₁ : Mu}

noncomputable def sweepPair (now d : Int) : Str × Str := if d == now then (Str.ofString ")", Str.ofString "") else if d == now + 1 then (Str.ofString "", Str.ofString "(") else (Str.ofString "(", Str.ofString ")[(")
noncomputable def sweepKept (now d : Int) : Str × Str := if d == now then (Str.ofString ")", Str.ofString "") else if d == now + 1 then (Str.ofString "", Str.ofString "(") else (Str.ofString "", Str.ofString "")
theorem kept_sweep (now d : Int) : keptPart (sweepPair now d) = sweepKept now d := by
  unfold sweepPair sweepKept
  split
  · decide +kernel
  · split <;> decide +kernel
noncomputable def sweepRow (ds : List Int) (i : Nat) : List (Str × Str) := ds.map (sweepKept ((i : Int) - 1))
noncomputable def sweepLines (ds : List Int) (n : Nat) : List Str := (List.range n).map fun i => flat (sweepRow ds i)
theorem kept_cases (now d : Int) : (sweepKept now d = (Str.ofString ")", Str.ofString "")) ∨ (sweepKept now d = (Str.ofString "", Str.ofString "(")) ∨ (sweepKept now d = (Str.ofString "", Str.ofString "")) := by
  unfold sweepKept
  split
  · exact .inl rfl
  · split
    · exact .inr (.inl rfl)
    · exact .inr (.inr rfl)
theorem sweep_line {ds : List Int} {i : Nat} (hn : ds.length ≤ 20) : LineOk (sweepRow ds i) := by
  refine lineOk_small (fun p hp => ?_) (by simp [sweepRow]; omega)
  obtain ⟨d, _, rfl⟩ := List.mem_map.mp hp
  rcases kept_cases ((i : Int) - 1) d with e | e | e <;> rw [e] <;> decide
theorem sweep_flat_len {ds : List Int} {i : Nat} : (flat (sweepRow ds i)).length ≤ ds.length := by
  rw [len_cl, flat_cl]
  unfold sweepRow
  induction ds with
  | nil => simp
  | cons d r ih =>
    rw [List.map_cons, List.map_cons, List.flatten_cons, List.length_append, List.length_cons]
    have : ((sweepKept ((i : Int) - 1) d).1.cps.toList ++ (sweepKept ((i : Int) - 1) d).2.cps.toList).length ≤ 1 := by
      rcases kept_cases ((i : Int) - 1) d with e | e | e <;> rw [e] <;> decide
    omega
theorem sweep_newline {ds : List Int} {i : Nat} (hn : ds.length ≤ 20) (hne : ds ≠ []) (hd : ∃ d ∈ ds, d = (i : Int) - 1 ∨ d = (i : Int)) {a : FA} {mx : Int} {sc : Str} {ls : List Str} (hl : ls.length < 1000000) :
    MOK w 9 56 (muF a mx sc (sweepRow ds i) ls) (FmP a mx sc [] (ls ++ [flat (sweepRow ds i)])) [vIs (.ref a.f)] vNone := by
  have H := sweep_line (i := i) hn
  obtain ⟨c, hc, hns⟩ : ∃ c, c ∈ (flat (sweepRow ds i)).cps.toList ∧ Unicode.isSpace c = false := by
    obtain ⟨d, hd, h⟩ := hd
    have mem : ∀ p, sweepKept ((i : Int) - 1) d = p → ∀ c ∈ p.1.cps.toList ++ p.2.cps.toList, c ∈ (flat (sweepRow ds i)).cps.toList := fun p hp c hc => by
      rw [flat_cl, List.mem_flatten]
      exact ⟨_, List.mem_map_of_mem (f := fun p : Str × Str => p.1.cps.toList ++ p.2.cps.toList) (List.mem_map_of_mem (f := sweepKept ((i : Int) - 1)) hd), by rw [hp]; exact hc⟩
    rcases h with h | h
    · refine ⟨41, mem (Str.ofString ")", Str.ofString "") ?_ 41 (by decide +kernel), by decide +kernel⟩
      unfold sweepKept; rw [if_pos (by simpa using h)]
    · refine ⟨40, mem (Str.ofString "", Str.ofString "(") ?_ 40 (by decide +kernel), by decide +kernel⟩
      unfold sweepKept; rw [if_neg (by simp; omega), if_pos (by simp; omega)]
  have hq : sweepRow ds i ≠ [] := by unfold sweepRow; simpa using hne
  have hs := notspace hc hns
  have ht : 0 < total (sweepRow ds i) := by
    rw [total_len, len_cl]
    have := List.length_pos_of_mem hc
    omega
  obtain ⟨init, p, e⟩ : ∃ init p, sweepRow ds i = init ++ [p] := ⟨_, _, (List.dropLast_concat_getLast hq).symm⟩
  obtain ⟨d, _, hp⟩ := List.mem_map.mp (show p ∈ ds.map (sweepKept ((i : Int) - 1)) by have : p ∈ sweepRow ds i := by rw [e]; simp
                                                                                       exact this)
  rw [e] at H hs ht ⊢
  refine newline_ok H ?_ ?_ (same_pair (.inl ?_)) ht hs hl
  · rcases kept_cases ((i : Int) - 1) d with e | e | e <;> rw [← hp, e] <;> decide +kernel
  · rcases kept_cases ((i : Int) - 1) d with e | e | e <;> rw [← hp, e] <;> decide +kernel
  · rcases kept_cases ((i : Int) - 1) d with e | e | e <;> rw [← hp, e] <;> decide +kernel

theorem ls_B : defB w.params 276 ["levels"] = true := by kernel_rfl
theorem ls_bind (vs : List Value) (h : vs.length = 1) : bindArgs (fdK w.params 276) ⟨vs, []⟩ = pure ((["levels"] : List Str).zip vs) := by
  match vs, h with
  | [a], _ => kernel_rfl
theorem ls_cells {L : Addr} : (callEnvC (fdK w.params 276) L 276).cells = [((Str.ofString "now"), L + 1)] := by kernel_rfl
theorem g_pv : nsK w.params mainGlobals "_post_parse_validation" = some (some (.ref 210)) := by kernel_rfl
theorem f_210 : isFnK w.params 210 = true := by kernel_rfl
theorem g_max : nsK w.params mainGlobals "max" = some none := by kernel_rfl
theorem b_max : nsK w.params builtinsNs "max" = some (some (.builtin "max")) := by kernel_rfl
theorem ev_is {e : Expr} {p q : VP} (h : Ev w A X env Γ e p) (hpq : p = q) : Ev w A X env Γ e q := hpq ▸ h
theorem src_is {e : Expr} {ps qs : List VP} (h : Src w A X env Γ e ps) (hpq : ps = qs) : Src w A X env Γ e qs := hpq ▸ h
noncomputable def ctxLS (v : Addr) (ds : List Int) : Ctxt := [("sweeper", vIs (.ref v)), ("levels", vList (ds.map vInt))]
set_option maxHeartbeats 2000000 in
theorem ls_ok {ds : List Int} {m : Nat} (hn : ds.length ≤ 20) (hm : (m : Int) ∈ ds) (hle : ∀ d ∈ ds, d ≤ (m : Int)) (hm2 : m < 1000) (hd : ∀ i, i < m + 2 → ∃ d ∈ ds, d = (i : Int) - 1 ∨ d = (i : Int)) : FnOK w 12 276 [vList (ds.map vInt)] (vStr (Txt.join "" (sweepLines ds (m + 2)))) := by
  have hne : ds ≠ [] := fun e => by rw [e] at hm; cases hm
  refine fn_intro (ns := ["levels"]) ls_B rfl lim_K ls_bind fun X A L s₀ R hA F hR => ?_
  have hcl : ∀ n c, (n, c) ∈ (callEnvC (fdK w.params 276) L 276).cells → ∃ n', (callEnvC (fdK w.params 276) L 276).cells.lookup n' = some c := fun n c h => by
    rw [ls_cells] at h ⊢
    cases List.mem_singleton.mp h
    exact ⟨Str.ofString "now", rfl⟩
  refine bd_assignN F (evn_call F.ok (hA.mono (by decide)) (fm_new (mx := 6) (cw := SP) (sc := SP) rfl) (evl_cons ev_int (evl_cons ev_int (evl_cons ev_str (evl_cons ev_str evl_nil)))) (by kernel_rfl) g_fm keep94) hcl fun M v hP hN hOf => ?_
  obtain ⟨df, x, dx, l, rfl⟩ := hP
  refine bd_and0 ?_
  have F2 : Fn w (callEnvC (fdK w.params 276) L 276) ([v, df, x, dx, l] ++ X) := F.mono fun z hz => List.mem_append_right _ hz
  have hz2 : sweepLines ds 0 = [] := rfl
  refine bd_forG (List.range (m + 2)) (pv := fun (i : Nat) => vInt ((i : Int) - 1)) (bnd := fun (i : Nat) Γ => ("now", vInt ((i : Int) - 1)) :: dropN "now" Γ) (Γs := fun _ => ctxLS v ds) (Γb := []) (O := [v, df, x, dx, l]) (μs := fun i => muF ⟨v, df, x, dx, l⟩ 6 SP [] (sweepLines ds i)) (μb := .never [v, df, x, dx, l]) (Φr := fun _ _ => False) (rp := vNone) F2 hA.h
    (srcM_is (srcM_of (src_range2 (m := -1) (n := (m : Int) + 1) F2.ok (evl_cons (ev_neg ev_int) (evl_cons (ev_bin (ev_bicall F2.ok (evl_cons (ev_name F2.ok (x := "levels") (p := vList (ds.map vInt)) (.tail _ (.head _))) evl_nil) (bi_max hA.h hm hle) (by kernel_rfl) g_max b_max) ev_int op_addI) evl_nil)) (by omega) (by kernel_rfl) g_range b_range)) ?_) (fun z hz => hz) (fun i X b μ Γ s v E Q F S hp k => wpAny_assign_Name (st_store F S hp (by kernel_rfl) k)) (fun i => rfl) rfl (fun _ _ _ _ h => h) (fun _ _ _ _ h => h.elim) (fun X' i p b R' hp hX F' hnext _ _ _ => ?_) (fun E => bd_then ?_) (fun s E S => S.mu.elim) hcl
  · have e : ((m : Int) + 1 - -1).toNat = m + 2 := by omega
    rw [e]
    exact List.map_congr_left fun i _ => by rw [show (-1 : Int) + (i : Int) = (i : Int) - 1 by omega]
  · obtain ⟨rfl, hi⟩ := range_get hp
    refine bd_comp1 ds vInt (fun d => vPart (sweepPair ((p : Int) - 1) d)) (fun _ => true) [("now", vInt ((p : Int) - 1))] (fun d => [("level", vInt d)]) F' hA.h (by kernel_rfl) (srcT_of hA.h (src_list (ev_name F'.ok (x := "levels") (p := vList (ds.map vInt)) (.tail _ (.tail _ (.head _)))))) (fun z hz => ?_) (by omega) (fun C q hl => .name (own_name (fun C => .inl (by kernel_rfl)) hl)) (fun q z hz y hy => ?_) (fun Y C q _ _ _ => rfl) (fun Y C q hY hE hq _ => ?_) ?_ hcl
    · rw [List.mem_singleton.mp hz]; exact ⟨.head _, by kernel_rfl⟩
    · rw [List.mem_singleton.mp hz, List.mem_singleton.mp hy]
      show (Str.ofString "now") ≠ (Str.ofString "level")
      decide +kernel
    · refine ev_if (te_cmp (ev_name hE (x := "level") (p := vInt q) (.head _)) (ev_name hE (x := "now") (p := vInt ((p : Int) - 1)) (.tail _ (.head _))) op_eqI) (fun hc => ev_is (ev_tup (evl_cons ev_str (evl_cons ev_str evl_nil))) ?_) (fun hc => ev_if (te_cmp (ev_name hE (x := "level") (p := vInt q) (.head _)) (ev_bin (ev_name hE (x := "now") (p := vInt ((p : Int) - 1)) (.tail _ (.head _))) ev_int op_addI) op_eqI) (fun hc2 => ev_is (ev_tup (evl_cons ev_str (evl_cons ev_str evl_nil))) ?_) (fun hc2 => ev_is (ev_tup (evl_cons ev_str (evl_cons ev_str evl_nil))) ?_))
      · unfold vPart sweepPair; rw [if_pos hc]
      · unfold vPart sweepPair; rw [if_neg (by rw [hc]; decide), if_pos hc2]
      · unfold vPart sweepPair; rw [if_neg (by rw [hc]; decide), if_neg (by rw [hc2]; decide)]
    rw [filter_true]
    have hrow : (ds.map fun d => vPart (sweepPair ((p : Int) - 1) d)) = (ds.map (sweepPair ((p : Int) - 1))).map vPart := by rw [List.map_map]; rfl
    have hrow2 : ((ds.map (sweepPair ((p : Int) - 1))).map keptPart).map vPart = (sweepRow ds p).map fun q => vTup [vStr q.1, vStr q.2] := by
      unfold sweepRow
      rw [List.map_map (f := sweepPair ((p : Int) - 1)), List.map_congr_left (f := keptPart ∘ sweepPair ((p : Int) - 1)) (g := sweepKept ((p : Int) - 1)) fun d _ => kept_sweep _ d]
      rfl
    rw [hrow]
    have hrl : (sweepRow ds p).length = ds.length := by simp [sweepRow]
    refine bd_forS (sweepRow ds p) (pv := fun q => vTup [vStr q.1, vStr q.2]) (bnd := fun q Γ => ("mark", vStr q.2) :: dropN "mark" (("sign", vStr q.1) :: dropN "sign" Γ)) (Γs := fun _ => ctxLS v ds) (O := [v, df, x, dx, l]) (μs := fun j => muF ⟨v, df, x, dx, l⟩ 6 SP ((sweepRow ds p).take j) (sweepLines ds p)) F' hA.h (srcM_of (src_is (src_list (ev_call F'.ok (hA.mono (by decide)) (pv_ok (ps := ds.map (sweepPair ((p : Int) - 1))) (by simp; omega)) (evl_cons (ev_name F'.ok (x := "pairs") (.head _)) evl_nil) (by kernel_rfl) g_pv f_210)) hrow2)) (fun z hz => .tail _ (.tail _ hz)) (fun q X b μ Γ s v E Q F S hp k => tgs_pair hA.h (x := "sign") (y := "mark") (by kernel_rfl) (by kernel_rfl) (vStr q.1, vStr q.2) X b μ Γ s v E Q F S hp k) (fun i => rfl) (fun X'' j q b' R'' hp' hX' F'' hnext' => ?_) ?_ hcl
    · obtain ⟨hlt, _⟩ := List.getElem?_eq_some_iff.mp hp'
      refine bd_exprM (μ' := muF ⟨v, df, x, dx, l⟩ 6 SP ((sweepRow ds p).take j ++ [q]) (sweepLines ds p)) (line_mcall (hA.mono (by decide)) (em_ev (ev_name F''.ok (x := "sweeper") (.tail _ (.tail _ (.head _))))) (elm_ev (evl_cons (ev_name F''.ok (x := "sign") (p := vStr q.1) (.tail _ (.head _))) (evl_cons (ev_name F''.ok (x := "mark") (p := vStr q.2) (.head _)) evl_nil))) (by decide) m_push (push_ok (p := q) (by simp; omega)) f_push) ?_
      refine bd_nil fun s S => hnext' s ?_
      have e1 : (sweepRow ds p).take (j + 1) = (sweepRow ds p).take j ++ [q] := by rw [List.take_add_one, hp']; rfl
      show St w _ X'' b' (muF ⟨v, df, x, dx, l⟩ 6 SP ((sweepRow ds p).take (j + 1)) (sweepLines ds p)) _ s
      rw [e1]
      exact S.sub fun z hz => .tail _ (.tail _ hz)
    · rw [List.take_length]
      refine bd_ifMF (μ' := muF ⟨v, df, x, dx, l⟩ 6 SP (sweepRow ds p) (sweepLines ds p)) (tm_of (tm_cmp (line_mcall (hA.mono (by decide)) (em_ev (ev_name F'.ok (x := "sweeper") (.head _))) elm_nil (by decide) m_pc (part_count_ok (by omega)) f_pc) (em_ev (ev_bicall F'.ok (evl_cons (ev_name F'.ok (x := "levels") (p := vList (ds.map vInt)) (.tail _ (.head _))) evl_nil) (bi_lenM (xs := ds) (by omega)) (by kernel_rfl) g_len b_len)) op_neI) (by rw [hrl]; simp)) fun E => bd_then ?_
      have hll : (sweepLines ds p).length < 1000000 := by simp [sweepLines]; omega
      refine bd_exprM (μ' := muF ⟨v, df, x, dx, l⟩ 6 SP [] (sweepLines ds p ++ [flat (sweepRow ds p)])) (fm_mcall (hA.mono (by decide)) (em_ev (ev_name F'.ok (x := "sweeper") (.head _))) elm_nil (by decide +kernel) mf_newline (sweep_newline hn hne (hd p hi) hll) (.all rfl rfl) ff_newline) ?_
      refine bd_nil fun s S => hnext s ?_
      have e1 : sweepLines ds (p + 1) = sweepLines ds p ++ [flat (sweepRow ds p)] := by unfold sweepLines; rw [List.range_succ, List.map_append]; rfl
      show St w _ X' b (muF ⟨v, df, x, dx, l⟩ 6 SP [] (sweepLines ds (p + 1))) _ s
      rw [e1]
      exact S
  · rw [List.length_range]
    have hlens : ∀ y ∈ sweepLines ds (m + 2), y.length ≤ 20 := fun y hy => by
      obtain ⟨i, _, rfl⟩ := List.mem_map.mp hy
      have := sweep_flat_len (ds := ds) (i := i)
      omega
    have sum1 := StrLaws.sumLen_le _ hlens
    have hl2 : (sweepLines ds (m + 2)).length = m + 2 := by simp [sweepLines]
    rw [hl2] at sum1
    have e0 : (Str.ofString "").length = 0 := rfl
    exact bd_retM (μ' := muF ⟨v, df, x, dx, l⟩ 6 SP [] (sweepLines ds (m + 2))) (fm_mcall (hA.mono (by decide)) (em_ev (ev_name F2.ok (x := "sweeper") (.head _))) (elm_ev (evl_cons ev_str evl_nil)) (by decide +kernel) mf_str (fstr_ok (ls' := sweepLines ds (m + 2)) newline_nil_ok (by rw [e0]; omega)) (.all rfl rfl) ff_str) rfl (retN hR hN hOf)
end
end Mine
end

section
open PySem PySem.Calls PyProof.Rows PySem.W
open PySem.Builtin PySem.Builtin.List PySem.Builtin.Str
set_option Elab.async false
set_option maxRecDepth 100000
set_option linter.unusedVariables false
namespace Mine
noncomputable section
variable {w : World} {A : Around} {X : List Addr} {env : Env} {Γ : Ctxt} {s₀ : Shared} {μ μ' μ₁ : Mu}

noncomputable def writ (lab : List Str) (hang : List Int) : Nat → Int → Str
  | 0, _ => Str.ofString ""
  | f + 1, top => Txt.join (Str.ofString "") (((List.range hang.length).filter fun j => hang.getD j 0 == top).map fun (j : Nat) => Str.ofString "(" ++ lab.getD j (Str.ofString "") ++ writ lab hang f (j : Int) ++ Str.ofString ")")
noncomputable def writB : Nat → Nat
  | 0 => 0
  | f + 1 => 6 * (writB f + 5)
theorem join0_len (ts : List Str) : (Txt.join (Str.ofString "") ts).length = (ts.map (·.length)).sum := by
  rw [len_cl]
  have := join_cl ts
  rw [show (Str.ofString "") = ("" : Str) from rfl, this, List.length_flatten, List.map_map]
  congr 1
theorem writ_len {lab : List Str} {hang : List Int} (hn : hang.length ≤ 6) (hl : ∀ x ∈ lab, x.length ≤ 3) : ∀ f top, (writ lab hang f top).length ≤ writB f
  | 0, _ => Nat.le_refl _
  | f + 1, top => by
    show (Txt.join _ _).length ≤ _
    rw [join0_len, List.map_map]
    have key : ∀ (js : List Nat), (js.map ((·.length) ∘ fun (j : Nat) => Str.ofString "(" ++ lab.getD j (Str.ofString "") ++ writ lab hang f (j : Int) ++ Str.ofString ")")).sum ≤ js.length * (writB f + 5) := by
      intro js
      induction js with
      | nil => simp
      | cons j r ih =>
        rw [List.map_cons, List.sum_cons, List.length_cons, Nat.succ_mul]
        have h1 := writ_len hn hl f (j : Int)
        have h2 : (lab.getD j (Str.ofString "")).length ≤ 3 := by
          rw [List.getD_eq_getElem?_getD]
          cases q : lab[j]? with
          | none => exact Nat.zero_le _
          | some x => exact hl x (List.mem_of_getElem? q)
        have e1 : (Str.ofString "(").length = 1 := rfl
        have e2 : (Str.ofString ")").length = 1 := rfl
        have : ((·.length) ∘ fun (j : Nat) => Str.ofString "(" ++ lab.getD j (Str.ofString "") ++ writ lab hang f (j : Int) ++ Str.ofString ")") j ≤ writB f + 5 := by
          show (Str.ofString "(" ++ lab.getD j (Str.ofString "") ++ writ lab hang f (j : Int) ++ Str.ofString ")").length ≤ _
          rw [str_app_len, str_app_len, str_app_len, e1, e2]
          omega
        omega
    refine Nat.le_trans (key _) (Nat.mul_le_mul_right _ ?_)
    exact Nat.le_trans (List.length_filter_le ..) (by simpa using hn)
theorem wr_B : defB w.params 264 ["labels", "hangs", "top"] = true := by kernel_rfl
theorem wr_bind (vs : List Value) (h : vs.length = 3) : bindArgs (fdK w.params 264) ⟨vs, []⟩ = pure ((["labels", "hangs", "top"] : List Str).zip vs) := by
  match vs, h with
  | [a, b, c], _ => kernel_rfl
theorem g_written : nsK w.params mainGlobals "_law_written" = some (some (.ref 264)) := by kernel_rfl
theorem f_264 : isFnK w.params 264 = true := by kernel_rfl
theorem getD_str {lab : List Str} {j : Nat} (h : j < lab.length) : (lab.map vStr)[(j : Int).toNat]? = some (vStr (lab.getD j (Str.ofString ""))) := by
  rw [Int.toNat_natCast, List.getElem?_map, List.getD_eq_getElem?_getD, List.getElem?_eq_getElem h]; rfl
theorem src_range1' {x : Str} {np pos : Pos} {a : Expr} {n : Nat} (hE : EnvOk env) (h : EvL w A X env Γ [a] [vInt n]) (hn : n < 2 ^ 40) (hk : env.kindOf x = some .globalImplicit) (e : nsK w.params mainGlobals x = some none) (e' : nsK w.params builtinsNs x = some (some (.type "range")))
    (hplain : (backTo pos (starEach [a] env)).any (·.1) = false := by rfl) (hd : (x == ("__debug__" : Str)) = false := by rfl) : Src w A X env Γ (.Call (.Name x np) [a] [] pos) ((List.range n).map fun (i : Nat) => vInt (i : Int)) :=
  src_is (src_range1 hE h (by omega) hk e e' hplain hd (by omega)) (by rw [Int.toNat_natCast])
theorem writB7 : ∀ f, f ≤ 7 → writB f ≤ 1700000 := by decide
set_option maxHeartbeats 2000000 in
theorem wr_step {lab : List Str} {hang : List Int} (hn : hang.length ≤ 6) (hll : lab.length = hang.length) (hl : ∀ x ∈ lab, x.length ≤ 3) (f : Nat) (top : Int) (hf : f < 7)
    (rec : ∀ j : Nat, j < hang.length → hang.getD j 0 = top → FnOK w f 264 [vList (lab.map vStr), vList (hang.map vInt), vInt (j : Int)] (vStr (writ lab hang f (j : Int)))) : FnOK w (f + 1) 264 [vList (lab.map vStr), vList (hang.map vInt), vInt top] (vStr (writ lab hang (f + 1) top)) := by
  refine fn_intro (ns := ["labels", "hangs", "top"]) wr_B rfl lim_K wr_bind fun X A L s₀ R hA F hR => ?_
  have hsz := fun j => writ_len (f := f) hn hl j
  have hB := writB7 f (by omega)
  have e1 : (Str.ofString "(").length = 1 := rfl
  have e2 : (Str.ofString ")").length = 1 := rfl
  have hlab : ∀ j, (lab.getD j (Str.ofString "")).length ≤ 3 := fun j => by
    rw [List.getD_eq_getElem?_getD]
    cases q : lab[j]? with
    | none => exact Nat.zero_le _
    | some x => exact hl x (List.mem_of_getElem? q)
  refine bd_ret (ev_join (ys := ((List.range hang.length).filter fun j => hang.getD j 0 == top).map fun (j : Nat) => Str.ofString "(" ++ lab.getD j (Str.ofString "") ++ writ lab hang f (j : Int) ++ Str.ofString ")") ev_str (ev_is (ev_comp1 (List.range hang.length) (fun (j : Nat) => vInt (j : Int)) (fun (j : Nat) => vStr (Str.ofString "(" ++ lab.getD j (Str.ofString "") ++ writ lab hang f (j : Int) ++ Str.ofString ")")) (fun j => hang.getD j 0 == top) [("labels", vList (lab.map vStr)), ("hangs", vList (hang.map vInt)), ("top", vInt top)] (fun (j : Nat) => [("j", vInt (j : Int))]) hA.h F.ok (by kernel_rfl)
    (srcT_of hA.h (src_range1' F.ok (evl_cons (ev_bicall F.ok (evl_cons (ev_name F.ok (x := "hangs") (p := vList (hang.map vInt)) (.tail _ (.head _))) evl_nil) (bi_lenM (xs := hang) (by omega)) (by kernel_rfl) g_len b_len) evl_nil) (by omega) (by kernel_rfl) g_range b_range)) (fun z hz => ⟨hz, ?_⟩) (by simp; omega) (fun C q hl => .name (own_name (fun C => .inl (by kernel_rfl)) hl)) (fun q z hz y hy => ?_) (fun Y C q _ hE hq => ?_) (fun Y C q hY hE hq ht' => ?_)) (by rw [List.map_map]; rfl)) ?_) hR.r0
  · simp only [List.mem_cons, List.not_mem_nil, or_false] at hz
    rcases hz with e | e | e <;> rw [e] <;> kernel_rfl
  · simp only [List.mem_cons, List.not_mem_nil, or_false] at hz hy
    rw [hy]
    rcases hz with e | e | e <;> rw [e]
    · show (Str.ofString "labels") ≠ (Str.ofString "j"); decide +kernel
    · show (Str.ofString "hangs") ≠ (Str.ofString "j"); decide +kernel
    · show (Str.ofString "top") ≠ (Str.ofString "j"); decide +kernel
  · have hj : q < hang.length := by simpa using hq
    exact te_cmp (ev_idxL (k := (q : Int)) (ev_name hE (x := "hangs") (p := vList (hang.map vInt)) (.tail _ (.tail _ (.head _)))) (ev_name hE (x := "j") (.head _)) (Int.natCast_nonneg _) (getD_get hj) (by simp; omega)) (ev_name hE (x := "top") (p := vInt top) (.tail _ (.tail _ (.tail _ (.head _))))) op_eqI
  · have hj : q < hang.length := by simpa using hq
    have hle := hlab q
    have hwl := hsz (q : Int)
    have htop : hang.getD q 0 = top := by simpa using ht'
    refine ev_bin (ev_bin (ev_bin ev_str (ev_idxL (k := (q : Int)) (ev_name hE (x := "labels") (p := vList (lab.map vStr)) (.tail _ (.head _))) (ev_name hE (x := "j") (.head _)) (Int.natCast_nonneg _) (getD_str (by omega)) (by simp; omega)) (op_addS ?_)) (ev_call hE hA (rec q hj htop) (evl_cons (ev_name hE (x := "labels") (p := vList (lab.map vStr)) (.tail _ (.head _))) (evl_cons (ev_name hE (x := "hangs") (p := vList (hang.map vInt)) (.tail _ (.tail _ (.head _)))) (evl_cons (ev_name hE (x := "j") (p := vInt (q : Int)) (.head _)) evl_nil))) (by kernel_rfl) g_written f_264) (op_addS ?_)) ev_str (op_addS ?_)
    · rw [e1, sizeLine_eq]; omega
    · rw [str_app_len, e1, sizeLine_eq]; omega
    · rw [str_app_len, str_app_len, e1, e2, sizeLine_eq]; omega
  · have := writ_len (f := f + 1) hn hl top
    have e3 := join0_len (((List.range hang.length).filter fun j => hang.getD j 0 == top).map fun (j : Nat) => Str.ofString "(" ++ lab.getD j (Str.ofString "") ++ writ lab hang f (j : Int) ++ Str.ofString ")")
    have e0 : (Str.ofString "").length = 0 := rfl
    have e4 : writ lab hang (f + 1) top = Txt.join (Str.ofString "") (((List.range hang.length).filter fun j => hang.getD j 0 == top).map fun (j : Nat) => Str.ofString "(" ++ lab.getD j (Str.ofString "") ++ writ lab hang f (j : Int) ++ Str.ofString ")") := rfl
    rw [← e4] at e3
    rw [e0, ← e3]
    have e5 : writB (f + 1) = 6 * (writB f + 5) := rfl
    omega
theorem wr_ok {lab : List Str} {hang : List Int} (hn : hang.length ≤ 6) (hll : lab.length = hang.length) (hl : ∀ x ∈ lab, x.length ≤ 3) (hh : ∀ j : Nat, j < hang.length → hang.getD j 0 < (j : Int)) :
    ∀ (f : Nat) (top : Int), f < 7 → (hang.length : Int) ≤ top + (f + 1 : Nat) → FnOK w (f + 1) 264 [vList (lab.map vStr), vList (hang.map vInt), vInt top] (vStr (writ lab hang (f + 1) top)) := by
  intro f
  induction f with
  | zero =>
    intro top hf ht
    refine wr_step hn hll hl 0 top hf fun j hj e => ?_
    have := hh j hj
    omega
  | succ f ih =>
    intro top hf ht
    refine wr_step hn hll hl (f + 1) top hf fun j hj e => ?_
    have := hh j hj
    exact ih j (by omega) (by omega)
end
end Mine
end

section
open PySem PySem.Calls PyProof.Rows PySem.W
open PySem.Builtin PySem.Builtin.List PySem.Builtin.Str
set_option Elab.async false
set_option maxRecDepth 100000
set_option linter.unusedVariables false
namespace Mine
section
variable {w : World} {A : Around} {R : GenEnd} {Y : Protocol} {n : Nat} {s₀ : Shared} {c : Code} {fs : List Frame} {s : Shared} {env : Env}
  {K : Flow → Sem PySem.Fin} {H : Value → Sem PySem.Fin} {gd : Bool → Bool} {lv : List Value → List Value}

/-! ### a generator's statements -/
theorem sg_plain {st : Stmt} {rest : List Stmt} (h : wpAny (model PG w) (A.over c fs) (exec st env) (fun f s' => f = .next ∧ Seg (model PG w) A R Y n s₀ c ((execs rest env).wrap K H gd lv) fs s') (fun _ _ => False) s) :
    Seg (model PG w) A R Y n s₀ c ((execs (st :: rest) env).wrap K H gd lv) fs s :=
  seg_execs_cons (seg_wrap (wpAny_mono h (fun f s' h' => by obtain ⟨e, h'⟩ := h'; subst e; exact h') fun _ _ z => z.elim))
theorem sg_If {t : Expr} {a b : List Stmt} {pos : Pos} (h : wpAny (model PG w) (A.over c fs) (isTrue t env (eval t env)) (fun v s' => if v = true then Seg (model PG w) A R Y n s₀ c ((execs a env).wrap K H gd lv) fs s' else Seg (model PG w) A R Y n s₀ c ((execs b env).wrap K H gd lv) fs s') (fun _ _ => False) s) :
    Seg (model PG w) A R Y n s₀ c ((exec (.If t a b pos) env).wrap K H gd lv) fs s := by
  rw [exec_If]
  refine seg_bind_wrap (wpAny_standAt ?_)
  refine seg_bind_wrap (wpAny_mono h (fun v s' h' => ?_) fun _ _ z => z.elim)
  cases v with
  | true => exact h'
  | false => exact h'
/-- what a loop of a frame's comes back to -/
noncomputable def backK (env : Env) (K : Flow → Sem PySem.Fin) (H : Value → Sem PySem.Fin) (gd : Bool → Bool) (lv : List Value → List Value) : Result → Sem PySem.Fin := fun r => ((match r with | .ok f => (.pure f : Sem Flow) | .error e => .raise e).onRaise fun (x : Value) => do
        if (← field x 1) == Value.none then unsupported "frame.own-activation:exception-without-traceback"
        setFlight x env.frame).wrap K H gd lv
theorem sg_For {target iter : Expr} {body orelse : List Stmt} {pos : Pos}
    (h : wpAny (model PG w) (A.over c fs) (eval iter env) (fun x s₁ => wpAny (model PG w) (A.over c fs) (pyIter x) (fun it s₂ => ∀ p, Seg (model PG w) A R Y n s₀ (.forLoop target it body orelse env) ((model PG w).den (.forLoop target it body orelse env)) (.ret (backK env K H gd lv) none (gd false) (lv []) c p [] :: fs) s₂) (fun _ _ => False) s₁) (fun _ _ => False) s)
    (hs : ∀ x, foldedSetIterable iter env x = pure x := by intro _; rfl) :
    Seg (model PG w) A R Y n s₀ c ((exec (.For target iter body orelse pos) env).wrap K H gd lv) fs s := by
  rw [exec_For]
  refine seg_bind_wrap (wpAny_standAt ?_)
  refine seg_bind_wrap (wpAny_mono h (fun x s₁ h₁ => ?_) fun _ _ z => z.elim)
  refine seg_bind_wrap (wpAny_of_eq (hs x) ?_)
  refine seg_bind_wrap (wpAny_standAt ?_)
  refine seg_bind_wrap (wpAny_holding (wpAny_mono h₁ (fun it s₂ h₂ => ?_) fun _ _ z => z.elim))
  exact seg_call h₂
noncomputable def turnK (c : Code) : Flow → Sem PySem.Fin := fun f => match f with
  | .next | .cont => .pure (.again c)
  | .brk => .pure (.done .next)
  | .ret v => .pure (.done (.ret v))
noncomputable def turnH (env : Env) : Value → Sem PySem.Fin := fun e => (do noteFrame e env; theTreesLotGoes e : Sem Unit).wrap (fun _ => .raise e) .raise id id
theorem sg_turn {target : Expr} {it : Value} {body orelse : List Stmt}
    (h : wpAny (model PG w) (A.over (.forLoop target it body orelse env) fs) (pyNext it) (fun r s₁ => match r with
      | none => Seg (model PG w) A R Y n s₀ (.block orelse env) ((model PG w).den (.block orelse env)) fs s₁
      | some v => wpAny (model PG w) (A.over (.forLoop target it body orelse env) fs) (letOwnedTupleGo target it v) (fun _ s₂ => wpAny (model PG w) (A.over (.forLoop target it body orelse env) fs) (assign target env v)
          (fun _ s₃ => Seg (model PG w) A R Y n s₀ (.forLoop target it body orelse env) ((execs body env).wrap (turnK (.forLoop target it body orelse env)) (turnH env) id id) fs s₃) (fun _ _ => False) s₂) (fun _ _ => False) s₁) (fun _ _ => False) s) :
    Seg (model PG w) A R Y n s₀ (.forLoop target it body orelse env) ((model PG w).den (.forLoop target it body orelse env)) fs s := by
  show Seg _ A R Y n s₀ _ ((forTurn target it body orelse env).onRaise (fun x => do noteFrame x env; theTreesLotGoes x)) fs s
  unfold forTurn
  rw [Sem.onRaise_eq_wrap]
  refine seg_bind_wrap (wpAny_standAt ?_)
  refine seg_bind_wrap (wpAny_onRaise (wpAny_mono h (fun r s₁ h₁ => ?_) fun _ _ z => z.elim))
  cases r with
  | none => exact seg_again rfl h₁
  | some v =>
    refine seg_bind_wrap (wpAny_mono h₁ (fun _ s₂ h₂ => ?_) fun _ _ z => z.elim)
    refine seg_bind_wrap (wpAny_mono h₂ (fun _ s₃ h₃ => ?_) fun _ _ z => z.elim)
    rw [Sem.bind_eq_wrap', Sem.wrap_wrap]
    rw [Sem.wrap_congr (execs body env) _ _ (K' := turnK (.forLoop target it body orelse env)) (H' := turnH env) (fun f => by cases f <;> rfl)
      (fun e => by first | exact Sem.bind_eq_wrap _ _ | (show (do noteFrame e env; theTreesLotGoes e : Sem Unit).bind (fun _ => .raise e) = _; rw [Sem.bind_eq_wrap]; rfl))]
    exact h₃
end
end Mine
end

section
open PySem PySem.Calls PyProof.Rows PySem.W
open PySem.Builtin PySem.Builtin.List PySem.Builtin.Str
set_option Elab.async false
set_option maxRecDepth 100000
set_option linter.unusedVariables false
namespace Mine
noncomputable section
variable {w : World} {A : Around} {X : List Addr} {env : Env} {Γ : Ctxt} {s₀ : Shared} {μ μ' μ₁ : Mu}

/-- what is read sign by sign, a sign behind a backslash together with it -/
noncomputable def etoks : Bool → List Nat → List Str
  | true, [] => [Str.ofString "\\"]
  | false, [] => []
  | true, c :: r => (Str.ofString "\\" ++ ⟨#[c]⟩) :: etoks false r
  | false, c :: r => if c = 92 then etoks true r else ⟨#[c]⟩ :: etoks false r
/-- some int -/
noncomputable def vI : VP := ⟨fun _ v => ∃ i t, v = .int i t, fun _ _ _ _ h => h⟩
theorem draws_str (hh : A.handled = none) (it : Addr) (x : Str) (t : Tok) : Draws PG w A it [it] x.cps.size (fun i v => ∃ c u, x.cps[i]? = some c ∧ v = .str ⟨#[c]⟩ u) (fun i h => h.IsStrIter it (strIterType x) x t i) := by
  unfold strIterType
  cases ha : x.cps.all (· < 128)
  · exact Draws.strWide hh it x t
  · exact Draws.strAscii hh it x t
noncomputable def muE (x : Str) (t : Tok) (e it : Addr) (i : Nat) : Mu := ⟨[e, it], fun g h => (∃ old, IsEnum h e it i old) ∧ h.IsStrIter it (strIterType x) x t i, fun g g' h h' hs hk H => ⟨let ⟨old, he⟩ := H.1; ⟨old, hk e (.head _) _ he⟩, let ⟨o, ho, r⟩ := H.2; ⟨o, hk it (.tail _ (.head _)) o ho, r⟩⟩⟩

/-- how it may be woken -/
structure Wk (w : World) (sB : Addr → Prop) (wr : List Addr) (s s' : Shared) : Prop where
  inv : Inv w s'
  keep : ∀ b ∈ wr, ∀ o, s.heap.get? b = some o → s'.heap.get? b = some o
  old : ∀ b, s'.heap.get? b = none → sB b
noncomputable def yProto (w : World) (sB : Addr → Prop) (T : List Str) : Protocol := fun m s₀ v s kap => ∃ (wr : List Addr) (a : Addr) (i : Int) (t u : Tok) (tok : Str), T[T.length - 1 - m]? = some tok ∧ v = .ref a ∧ s₀.heap.get? a = none ∧ s.heap.IsTuple a #[.int i t, .str tok u] ∧ a ∉ wr ∧ (∀ b ∈ wr, sB b) ∧ Inv w s ∧ GrO wr s₀ s ∧ (∀ b ∈ wr, ∃ o, s.heap.get? b = some o) ∧ ∀ s', Wk w sB wr s s' → kap (.send .none) s'
noncomputable def yEnd (w : World) (sB : Addr → Prop) : GenEnd := fun n s₀ r s₁ => r = .ok (.ret .none) ∧ (n = 0 ∧ Inv w s₁ ∧ ∃ wr, (∀ b ∈ wr, sB b) ∧ GrO wr s₀ s₁ ∧ ∀ b ∈ wr, ∃ o, s₁.heap.get? b = some o)

/-- a pair for a yield -/
theorem ytup {e1 e2 : Expr} {kk : Nat} {pp : Pos} {tok : Str} {s : Shared} {E : Value → Shared → Prop} (F : Fn w env X) (h : EvL w A X env Γ [e1, e2] [vI, vStr tok]) (S : St w env X s₀ μ Γ s) :
    wpAny (model PG w) A (eval (.Tuple [e1, e2] kk pp) env) (fun v s' => ∃ a i t u, v = .ref a ∧ St w env X s₀ μ Γ s' ∧ s₀.heap.get? a = none ∧ s'.heap.IsTuple a #[.int i t, .str tok u] ∧ a ∉ X) E s := by
  obtain ⟨lm, cm, V, H⟩ := S.ex
  refine wpAny_Tuple (h pp s lm cm E _ S.inv S.bel V H fun vs s1 I1 G1 hA => ⟨by rw [hA.length]; show 2 ≤ sizeLine; decide, ?_⟩)
  obtain ⟨_, _, rfl, ⟨i, t, rfl⟩, ⟨u, rfl⟩⟩ := all2 hA
  have S1 := S.step I1 G1
  have S2 := S1.step (I1.keeps s1.toks (push_K (s := s1) { cls := .type "tuple", data := .seq [Value.int i t, Value.str tok u].toArray })) (Gr.keeps s1.toks (push_K _))
  refine ⟨s1.heap.objs.size, i, t, u, rfl, S2, S1.gr.absent I1 (S1.hiddenEx F) (new_none _), ⟨_, Heap.get?_push_size _ rfl, rfl, 0, rfl⟩, S1.bel.ne (new_none _)⟩

section
variable {x : Str} {t0 : Tok} {e it L : Addr} {sB : Addr → Prop} {T : List Str}
noncomputable def X2 (e it L : Addr) : List Addr := [e, it, L, T1, T2]
noncomputable def Γg (x : Str) (esc : Bool) : Ctxt := [("escape", vBool esc), ("pos", vI), ("addr", vStr x)]
theorem wake_st {f : Addr} {s s' : Shared} {i : Nat} {esc : Bool} (hL : own (clsEnv w.params f L) = [L]) (hc : (clsEnv w.params f L).cells = []) (S : St w (clsEnv w.params f L) (X2 e it L) s₀ (muE x t0 e it i) (Γg x esc) s) (W : Wk w sB [e, it, L] s s') : St w (clsEnv w.params f L) (X2 e it L) s' (muE x t0 e it i) (Γg x esc) s' := by
  have ex : ∀ b ∈ [e, it, L], ∃ o, s'.heap.get? b = some o := fun b hb => by
    obtain ⟨o, ho⟩ := S.bel.ex b (List.mem_append_left [T1, T2] hb)
    exact ⟨o, W.keep b hb o ho⟩
  have kO : ∀ b ∈ [e, it], ∀ o, s.heap.get? b = some o → s'.heap.get? b = some o := fun b hb => W.keep b (List.mem_append_left [L] hb)
  obtain ⟨he, hi⟩ := S.mu
  obtain ⟨lm, cm, V, H⟩ := S.ex
  refine ⟨W.inv, GrO.refl _ _, ⟨fun y hy => ?_, S.bel.a, S.bel.b⟩, ⟨let ⟨old, h⟩ := he; ⟨old, kO e (.head _) _ h⟩, let ⟨o, ho, r⟩ := hi; ⟨o, kO it (.tail _ (.head _)) o ho, r⟩⟩, S.mo, lm, cm, ⟨?_, fun n c h => ?_, V.off, V.apart⟩, fun y p hy => ?_⟩
  · have hy : y ∈ [e, it, L] ++ [T1, T2] := hy
    rcases List.mem_append.mp hy with hy | hy
    · exact ex y hy
    · rcases List.mem_cons.mp hy with e | hy
      · rw [e]; exact W.inv.t1.ex.2
      · rw [List.mem_singleton.mp hy]; exact W.inv.t2.ex.2
  · have N := V.ns
    obtain ⟨o, es, ep, ho, r⟩ := N
    exact ⟨o, es, ep, W.keep L (.tail _ (.tail _ (.head _))) o ho, r⟩
  · rw [hc] at h; cases h
  · obtain ⟨v, hv, hp⟩ := H y p hy
    refine ⟨v, hv, ?_⟩
    have hy : (y, p) ∈ [(("escape" : Str), vBool esc), ("pos", vI), ("addr", vStr x)] := hy
    simp only [List.mem_cons, List.not_mem_nil, or_false] at hy
    rcases hy with e | e | e <;> cases e <;> exact hp
end
end
end Mine
end

section
open PySem PySem.Calls PyProof.Rows PySem.W
open PySem.Builtin PySem.Builtin.List PySem.Builtin.Str
set_option Elab.async false
set_option maxRecDepth 100000
set_option linter.unusedVariables false
namespace Mine
noncomputable section
variable {w : World} {A : Around} {X : List Addr} {env : Env} {Γ : Ctxt} {s₀ : Shared} {μ μ' μ₁ : Mu}

theorem nextOf_ascii_end {it : Addr} {x : Str} {t : Tok} {i : Nat} {s : Shared} {E Q : Value → Shared → Prop} (hh : A.handled = none)
    (hit : s.heap.IsStrIter it "str_ascii_iterator" x t i) (hx : x.cps[i]? = none)
    (hE : ∀ h' e, Heap.ExtBut it s.heap h' → (∃ o, h'.get? it = some o) → (∃ o, h'.get? e = some o ∧ o.cls = .type "StopIteration") → E (.ref e) { s with heap := h' }) :
    wpAny (model PG w) A (Builtin.SmallTypes.nextOf (.ref it)) Q E s := by
  obtain ⟨o, ho, hc, hd⟩ := id hit
  unfold Builtin.SmallTypes.nextOf
  refine wpAny_bind (wpAny_callSpecial?_slot (name := Str.ofString "__next__") hit.typeIs F.slot_str_ascii_iterator_next
    (wpAny_call_entry F.slot_str_ascii_iterator_next hit.typeIs F.entry_str_ascii_iterator_next ?_ (F.args_str_ascii_iterator_next_1 _)))
  show wpAny _ _ (field (.ref it) 0 >>= _) _ _ s
  refine wpAny_bind (wpAny_field ho hd (x := .str x t) rfl ?_)
  show wpAny _ _ (field (.ref it) 1 >>= _) _ _ s
  refine wpAny_bind (wpAny_field ho hd (x := .int i 0) rfl ?_)
  simp only [Int.toNat_natCast, hx]
  refine wpAny_bind (wpAny_rule (wpAny_bind (wpAny_setField ho hd (by simp) (wpAny_bind (wpAny_letGo ?_)))))
  show wpAny _ _ (newExc (.type "StopIteration") [] >>= _) _ _ _
  refine wpAny_bind ?_
  simp only [newExc, newTuple]
  refine wpAny_bind (wpAny_newObj_type ?_ (by size_fits))
  refine wpAny_bind (m := firstArgMember _ _) (wpAny_of_eq (a := Value.none) (by first | rfl | (simp only [firstArgMember]; rfl)) ?_)
  refine wpAny_newObj_type ?_ (by size_fits)
  simp only [raiseNew]
  refine wpAny_bind (wpAny_handled ?_)
  first | rw [show A.in1.handled = none from hh] | rw [hh]
  refine wpAny_bind (wpAny_pure (wpAny_throw ?_))
  exact hE _ _ (((Heap.SameBut.update ..).extBut.push _).push _) ⟨_, Heap.get?_push_of_some _ (Heap.get?_push_of_some _ (Heap.get?_update_self _ ho (Obj.isFreed_of_fields (Obj.data_mapFields hd _))))⟩ ⟨_, Heap.get?_push_size _ rfl, rfl⟩
theorem enum_end {e it : Addr} {x : Str} {t : Tok} {n : Nat} {i : Int} {old : Value} {s : Shared} {E : Value → Shared → Prop} {Q : Option Value → Shared → Prop} (hh : A.handled = none) (he : IsEnum s.heap e it i old) (hit : s.heap.IsStrIter it "str_ascii_iterator" x t n) (hx : x.cps[n]? = none)
    (hQ : ∀ h', Heap.ExtBut it s.heap h' → (∃ o, h'.get? it = some o) → Q none { s with heap := h' }) : wpAny (model PG w) A (pyNext (.ref e)) Q E s := by
  have hT : s.TypeIs (.ref e) "enumerate" := ⟨_, he, rfl⟩
  unfold pyNext
  refine wpAny_bind (wpAny_attempt (wpAny_callSpecial?_slot (name := Str.ofString "__next__") hT F.slot_enumerate_next
    (wpAny_call_entry F.slot_enumerate_next hT F.entry_enumerate_next ?_ (F.args_enumerate_next_1 _))))
  show wpAny _ _ (field (.ref e) 2 >>= _) _ _ _
  refine wpAny_bind (wpAny_field he rfl (x := .ref it) rfl ?_)
  refine wpAny_bind (nextOf_ascii_end hh hit hx fun h' x he' hi' hx' => ?_)
  obtain ⟨o, ho, hc⟩ := hx'
  refine wpAny_bind (wpAny_isInstance (T := "StopIteration") (b := true) ⟨o, ho, hc⟩ isSubtype_stop ?_)
  exact wpAny_pure (hQ _ he' hi')
noncomputable def muT (e it : Addr) : Mu := ⟨[e, it], fun _ _ => True, fun _ _ _ _ _ _ h => h⟩
section
variable {x : Str} {t0 : Tok} {e it L : Addr} {sB : Addr → Prop} {T : List Str}

theorem rm_loop {n : Nat} {c c' : Code} {k h l p} (hc : c.weight = 0) (hc2 : c.cUnits = 0) (hw : c'.weight ≤ 1) (hu : c'.cUnits ≤ 3) (hA : Rm A (n + 1)) : Rm (A.over c [.ret k none h l c' p []]) n := by
  have h1 := hA.d
  have h2 := hA.u
  refine ⟨hA.h, ?_, ?_⟩
  · show A.depth + (c'.weight + 0) + c.weight + n < _
    omega
  · show A.units + (c'.cUnits + 0) + c.cUnits + 10 * n < _
    omega
/-- a turn's end and a yield's -/
theorem y_ok {m : Nat} {pre rest : List Str} {tok : Str} {s : Shared} {v : Value} {kap : Resume → Shared → Prop} {wr : List Addr} {a : Addr} {i : Int} {t u : Tok} (hT : T = pre ++ tok :: rest) (hm : m = rest.length) (hv : v = .ref a) (h1 : s₀.heap.get? a = none) (h2 : s.heap.IsTuple a #[.int i t, .str tok u]) (h3 : a ∉ wr) (h4 : ∀ b ∈ wr, sB b) (h5 : Inv w s) (h6 : GrO wr s₀ s) (h7 : ∀ b ∈ wr, ∃ o, s.heap.get? b = some o)
    (h8 : ∀ s', Wk w sB wr s s' → kap (.send .none) s') : yProto w sB T m s₀ v s kap := by
  refine ⟨wr, a, i, t, u, tok, ?_, hv, h1, h2, h3, h4, h5, h6, h7, h8⟩
  rw [hT, hm, List.length_append, List.length_cons]
  have e1 : pre.length + (rest.length + 1) - 1 - rest.length = pre.length := by omega
  rw [e1, List.getElem?_append_right (Nat.le_refl _), Nat.sub_self]; rfl

set_option maxHeartbeats 2000000 in
theorem seg_loop {f : Addr} {c' : Code} {K : Flow → Sem PySem.Fin} {H : Value → Sem PySem.Fin} {gd : Bool → Bool} {lv : List Value → List Value} {p : Pos} {kt : Nat} {k1 k2 k3 k4 k5 k6 : Nat} {pa pb pt p1 p2 p3 p4 p5 p6 p7 p8 p9 p10 p11 p12 p13 p14 p15 p16 p17 p18 p19 p20 p21 p22 p23 p24 : Pos} (hA : Rm A 6) (hgd : gd false = false) (hc' : c'.weight ≤ 1 ∧ c'.cUnits ≤ 3)
    (hL : own (clsEnv w.params f L) = [L]) (hcl : (clsEnv w.params f L).cells = []) (F : Fn w (clsEnv w.params f L) (X2 e it L)) (hei : e ≠ it) (hnew : ∀ b ∈ [e, it, L], sB b)
    (hstE : stB (clsEnv w.params f L) "escape" = true) (hstP : stB (clsEnv w.params f L) "pos" = true) (hstC : stB (clsEnv w.params f L) "ch" = true) (hco : (clsEnv w.params f L).scope.isCoroutine = false) (hint : interactive (clsEnv w.params f L) = false)
    (after : ∀ (esc : Bool) (s₀ s : Shared) (pre : List Str), T = pre ++ etoks esc [] → St w (clsEnv w.params f L) (X2 e it L) s₀ (muT e it) (Γg x esc) s → (∀ b, s₀.heap.get? b = none → sB b) → Seg (model PG w) A (yEnd w sB) (yProto w sB T) (etoks esc []).length s₀ c' (K .next) [] s)
    (hasc : x.cps.all (· < 128) = true) :
    ∀ (k i : Nat) (esc : Bool) (s₀ s : Shared) (pre : List Str), x.cps.size - i = k → i ≤ x.cps.size → T = pre ++ etoks esc (x.cps.toList.drop i) → St w (clsEnv w.params f L) (X2 e it L) s₀ (muE x t0 e it i) (Γg x esc) s → (∀ b, s₀.heap.get? b = none → sB b) →
      Seg (model PG w) A (yEnd w sB) (yProto w sB T) (etoks esc (x.cps.toList.drop i)).length s₀ (.forLoop (.Tuple [.Name "pos" pa, .Name "ch" pb] kt pt) (.ref e) [.If (.Name "escape" p1) [.Expr (.Yield (some (.Tuple [.Name "pos" p2, .BinOp (.Constant (.str "\\") k1 p3) .Add (.Name "ch" p4) p5] k2 p6)) p7) p8, .Assign [.Name "escape" p9] (.Constant (.bool false) k3 p10) p11] [.If (.Compare (.Name "ch" p12) [.Eq] [.Constant (.str "\\") k4 p13] p14) [.Assign [.Name "escape" p15] (.Constant (.bool true) k5 p16) p17] [.Expr (.Yield (some (.Tuple [.Name "pos" p18, .Name "ch" p19] k6 p20)) p21) p22] p23] p24] [] (clsEnv w.params f L))
        ((model PG w).den (.forLoop (.Tuple [.Name "pos" pa, .Name "ch" pb] kt pt) (.ref e) [.If (.Name "escape" p1) [.Expr (.Yield (some (.Tuple [.Name "pos" p2, .BinOp (.Constant (.str "\\") k1 p3) .Add (.Name "ch" p4) p5] k2 p6)) p7) p8, .Assign [.Name "escape" p9] (.Constant (.bool false) k3 p10) p11] [.If (.Compare (.Name "ch" p12) [.Eq] [.Constant (.str "\\") k4 p13] p14) [.Assign [.Name "escape" p15] (.Constant (.bool true) k5 p16) p17] [.Expr (.Yield (some (.Tuple [.Name "pos" p18, .Name "ch" p19] k6 p20)) p21) p22] p23] p24] [] (clsEnv w.params f L)))
        [.ret (backK (clsEnv w.params f L) K H gd lv) none (gd false) (lv []) c' p []] s := by
  generalize hcode : Code.forLoop (.Tuple [.Name "pos" pa, .Name "ch" pb] kt pt) (.ref e) [.If (.Name "escape" p1) [.Expr (.Yield (some (.Tuple [.Name "pos" p2, .BinOp (.Constant (.str "\\") k1 p3) .Add (.Name "ch" p4) p5] k2 p6)) p7) p8, .Assign [.Name "escape" p9] (.Constant (.bool false) k3 p10) p11] [.If (.Compare (.Name "ch" p12) [.Eq] [.Constant (.str "\\") k4 p13] p14) [.Assign [.Name "escape" p15] (.Constant (.bool true) k5 p16) p17] [.Expr (.Yield (some (.Tuple [.Name "pos" p18, .Name "ch" p19] k6 p20)) p21) p22] p23] p24] [] (clsEnv w.params f L) = code
  have hw0 : code.weight = 0 := by rw [← hcode]; rfl
  have hu0 : code.cUnits = 0 := by rw [← hcode]; rfl
  have hA2 : Rm (A.over code [.ret (backK (clsEnv w.params f L) K H gd lv) none (gd false) (lv []) c' p []]) 5 := rm_loop hw0 hu0 hc'.1 hc'.2 hA
  generalize hA3 : A.over code [.ret (backK (clsEnv w.params f L) K H gd lv) none (gd false) (lv []) c' p []] = A2 at hA2
  have hf1 : splitAtGen [.ret (backK (clsEnv w.params f L) K H gd lv) none (gd false) (lv []) c' p []] = none := rfl
  have hf2 : [Frame.ret (backK (clsEnv w.params f L) K H gd lv) none (gd false) (lv []) c' p []].any Frame.guarded = false := by rw [hgd]; rfl
  have W := WalksT.enumerateD (draws_str (w := w) (A := A2.in1) hA2.h it x t0) e hei (by simpa using hei) (.head _)
  have hown : own (clsEnv w.params f L) ++ [e, it] = [L, e, it] := by rw [hL]; rfl
  have grw : ∀ {s₀ s : Shared}, GrO (own (clsEnv w.params f L) ++ [e, it]) s₀ s → GrO [e, it, L] s₀ s := fun h => h.mono fun z hz => by
    rw [hown] at hz
    simp only [List.mem_cons, List.not_mem_nil, or_false] at hz ⊢
    rcases hz with h | h | h <;> simp [h]
  have sub3 : ∀ b ∈ [e, it, L], b ∈ X2 e it L := fun b hb => List.mem_append_left [T1, T2] hb
  intro k
  induction k with
  | zero =>
    intro i esc s₀ s pre hk hi hT S hB
    have hin : i = x.cps.size := by omega
    subst hin
    have e0 : x.cps.toList.drop x.cps.size = [] := List.drop_of_length_le (by simp)
    rw [e0] at hT ⊢
    rw [← hcode]
    refine sg_turn ?_
    rw [hcode, hA3]
    obtain ⟨⟨old, he⟩, hit⟩ := S.mu
    have hty : strIterType x = "str_ascii_iterator" := by unfold strIterType; rw [hasc]; rfl
    rw [hty] at hit
    refine enum_end hA2.h he hit (by simp) fun h' hx' hi' => ?_
    have hk'' : KeepBut [e, it] s.heap h' := fun b o hb h => hx' b o (fun q => hb (q ▸ .tail _ (.head _))) h
    have oO : ∀ b ∈ [e, it], Off w b := fun b hb => (S.mo b hb).2.1
    have he' : IsEnum h' e it x.cps.size old := hx' e _ hei he
    have exO : ∀ b ∈ [e, it], ∃ o, h'.get? b = some o := fun b hb => by
      rcases List.mem_cons.mp hb with q | hb
      · rw [q]; exact ⟨_, he'⟩
      · rw [List.mem_singleton.mp hb]; exact hi'
    obtain ⟨S1, _⟩ := S.turn (μ' := muT e it) (s' := { s with heap := h' }) (S.inv.but oO hk'' s.toks) (.but (fun b hb => hb) hk'' s.toks) rfl trivial (S.bel.but hk'' exO s.toks)
    show Seg _ A _ _ _ s₀ _ (leafOf (.ok .next)) _ _
    exact seg_leaf (.ok .next) (after esc s₀ _ pre hT S1 hB)
  | succ k ih =>
    intro i esc s₀ s pre hk hi hT S hB
    have hlt : i < x.cps.size := by omega
    obtain ⟨c, hc⟩ : ∃ c, x.cps[i]? = some c := ⟨_, Array.getElem?_eq_getElem hlt⟩
    have hdrop : x.cps.toList.drop i = c :: x.cps.toList.drop (i + 1) := by
      have h1 : x.cps.toList[i]? = some c := by rw [Array.getElem?_toList]; exact hc
      obtain ⟨h2, h3⟩ := List.getElem?_eq_some_iff.mp h1
      rw [List.drop_eq_getElem_cons h2, h3]
    rw [hdrop] at hT ⊢
    rw [← hcode]
    refine sg_turn ?_
    rw [hcode, hA3]
    refine W.item i s _ _ hlt S.mu fun Tp vals h' tk hP hnewT hTup hMid hk' => ?_
    refine W.go _ _ _ i Tp _ _ _ hMid fun h'' hSt hk2 => ?_
    obtain ⟨t1, v1, ⟨c1, u1, hc1, rfl⟩, rfl⟩ := hP
    rw [hc] at hc1
    cases hc1
    have hTw := W.apart i Tp h' hMid
    have hTup2 : h''.IsTuple Tp #[.int i t1, .str ⟨#[c]⟩ u1] := let ⟨o, ho, r⟩ := hTup; ⟨o, hk2 _ _ hTw ho, r⟩
    have hk'' : KeepBut [e, it] s.heap h'' := fun b o hb h => hk2 b o hb (hk' b o hb h)
    have oO : ∀ b ∈ [e, it], Off w b := fun b hb => (S.mo b hb).2.1
    have exO : ∀ b ∈ [e, it], ∃ o, h''.get? b = some o := fun b hb => by
      rcases List.mem_cons.mp hb with q | hb
      · rw [q]; obtain ⟨old, h⟩ := hSt.1; exact ⟨_, h⟩
      · rw [List.mem_singleton.mp hb]; obtain ⟨o, ho, _⟩ := hSt.2; exact ⟨o, ho⟩
    obtain ⟨S1, _⟩ := S.turn (μ' := muE x t0 e it (i + 1)) (s' := { s with heap := h'', toks := tk }) (S.inv.but oO hk'' tk) (.but (fun b hb => hb) hk'' tk) rfl hSt (S.bel.but hk'' exO tk)
    have hTX : Tp ∉ X2 e it L := fun m => by
      obtain ⟨o, ho⟩ := S.bel.ex Tp m
      exact absurd (Heap.lt_size ho) (Nat.not_lt.mpr hnewT)
    have hv : (vTup [vI, vStr ⟨#[c]⟩]).p (hideAll h'' (X2 e it L)) (.ref Tp) := by
      obtain ⟨o, ho, hcl', nn, hd⟩ := hTup2
      exact ⟨Tp, o, nn, _, rfl, hideAll_get _ ho hTX, hcl', hd, ⟨i, t1, rfl⟩, ⟨u1, rfl⟩, trivial⟩
    refine tgs_pair hA2.h (x := "pos") (y := "ch") hstP hstC (vI, vStr ⟨#[c]⟩) _ s₀ _ _ _ _ _ _ F S1 hv fun s2 S2 => ?_
    have S2' : St w (clsEnv w.params f L) (X2 e it L) s₀ (muE x t0 e it (i + 1)) [(("ch" : Str), vStr ⟨#[c]⟩), ("pos", vI), ("escape", vBool esc), ("addr", vStr x)] s2 := S2.sub fun z hz => hz
    have hq : code.quiet = true := by rw [← hcode]; rfl
    have exS : ∀ {s₀ s : Shared} {Γ : Ctxt} {j : Nat}, St w (clsEnv w.params f L) (X2 e it L) s₀ (muE x t0 e it j) Γ s → ∀ b ∈ [e, it, L], ∃ o, s.heap.get? b = some o := fun S b hb => S.bel.ex b (sub3 b hb)
    refine seg_execs_cons (sg_If ?_)
    rw [hA3]
    refine st_te (te_bool (ev_name F.ok (x := "escape") (p := vBool esc) (.tail _ (.tail _ (.head _))))) S2' fun s3 S3 _ => ?_
    cases esc with
    | true =>
      rw [if_pos rfl]
      have eT : etoks true (c :: x.cps.toList.drop (i + 1)) = (Str.ofString "\\" ++ ⟨#[c]⟩) :: etoks false (x.cps.toList.drop (i + 1)) := rfl
      rw [eT] at hT ⊢
      rw [List.length_cons]
      refine seg_execs_cons (seg_Expr_Yield hf1 rfl hf2 ?_ hco hint)
      rw [hA3]
      refine wpAny_mono (ytup (E := fun _ _ => False) F (evl_cons (ev_name F.ok (x := "pos") (p := vI) (.tail _ (.head _))) (evl_cons (ev_bin ev_str (ev_name F.ok (x := "ch") (p := vStr ⟨#[c]⟩) (.head _)) (op_addS (by show 1 + 1 ≤ sizeLine; decide))) evl_nil)) S3) (fun v s4 h4 kap hkap => ?_) fun _ _ z => z.elim
      obtain ⟨av, i', tt, uu, rfl, S4, hna, hta, haX⟩ := h4
      refine y_ok hT rfl rfl hna hta (fun m => haX (sub3 _ m)) hnew S4.inv (grw S4.gr) (exS S4) fun s5 W5 => hkap .none s5 ?_
      have S5 := wake_st hL hcl (esc := true) (S4.sub fun z hz => by
        have hz : z ∈ [(("escape" : Str), vBool true), ("pos", vI), ("addr", vStr x)] := hz
        simp only [List.mem_cons, List.not_mem_nil, or_false] at hz
        rcases hz with q | q | q <;> rw [q] <;> simp) W5
      show Seg _ A _ _ _ s5 _ ((execs [.Assign [.Name "escape" p9] (.Constant (.bool false) k3 p10) p11] (clsEnv w.params f L)).wrap _ _ _ _) _ s5
      refine sg_plain (wpAny_Assign_Name (st_ev ev_bool S5 fun v s6 S6 _ hp => st_store F S6 hp hstE fun s7 S7 => ⟨rfl, ?_⟩) (by rfl))
      show Seg _ A _ _ _ s5 _ (.pure (.again code)) _ s7
      refine seg_again hq ?_
      have h := ih (i + 1) false s5 s7 (pre ++ [Str.ofString "\\" ++ ⟨#[c]⟩]) (by omega) hlt (by rw [List.append_assoc]; exact hT) (S7.sub fun z hz => ?_) W5.old
      · exact h
      · have hz : z ∈ [(("escape" : Str), vBool false), ("pos", vI), ("addr", vStr x)] := hz
        simp only [List.mem_cons, List.not_mem_nil, or_false] at hz
        rcases hz with q | q | q
        · rw [q]; exact .head _
        · rw [q]; exact .tail _ (.head _)
        · rw [q]; exact .tail _ (.tail _ (.head _))
    | false =>
      rw [if_neg (by decide)]
      refine seg_execs_cons (sg_If ?_)
      rw [hA3]
      have e92 : ((⟨#[c]⟩ : Str).cps.toList == (Str.ofString "\\").cps.toList) = (c == 92) := by
        have : (Str.ofString "\\").cps.toList = [92] := rfl
        rw [this]; simp
      refine st_te (te_of (te_cmp (ev_name F.ok (x := "ch") (p := vStr ⟨#[c]⟩) (.head _)) ev_str op_eqS) e92) S3 fun s4 S4 _ => ?_
      by_cases h92 : c = 92
      · rw [if_pos (by simpa using h92)]
        have eT : etoks false (c :: x.cps.toList.drop (i + 1)) = etoks true (x.cps.toList.drop (i + 1)) := if_pos h92
        rw [eT] at hT ⊢
        refine sg_plain (wpAny_Assign_Name (st_ev ev_bool S4 fun v s6 S6 _ hp => st_store F S6 hp hstE fun s7 S7 => ⟨rfl, ?_⟩) (by rfl))
        show Seg _ A _ _ _ s₀ _ (.pure (.again code)) _ s7
        refine seg_again hq ?_
        have h := ih (i + 1) true s₀ s7 pre (by omega) hlt hT (S7.sub fun z hz => ?_) hB
        · exact h
        · have hz : z ∈ [(("escape" : Str), vBool true), ("pos", vI), ("addr", vStr x)] := hz
          simp only [List.mem_cons, List.not_mem_nil, or_false] at hz
          rcases hz with q | q | q
          · rw [q]; exact .head _
          · rw [q]; exact .tail _ (.tail _ (.head _))
          · rw [q]; exact .tail _ (.tail _ (.tail _ (.head _)))
      · rw [if_neg (by simpa using h92)]
        have eT : etoks false (c :: x.cps.toList.drop (i + 1)) = ⟨#[c]⟩ :: etoks false (x.cps.toList.drop (i + 1)) := if_neg h92
        rw [eT] at hT ⊢
        rw [List.length_cons]
        refine seg_execs_cons (seg_Expr_Yield hf1 rfl hf2 ?_ hco hint)
        rw [hA3]
        refine wpAny_mono (ytup (E := fun _ _ => False) F (evl_cons (ev_name F.ok (x := "pos") (p := vI) (.tail _ (.head _))) (evl_cons (ev_name F.ok (x := "ch") (p := vStr ⟨#[c]⟩) (.head _)) evl_nil)) S4) (fun v s5 h5 kap hkap => ?_) fun _ _ z => z.elim
        obtain ⟨av, i', tt, uu, rfl, S5, hna, hta, haX⟩ := h5
        refine y_ok hT rfl rfl hna hta (fun m => haX (sub3 _ m)) hnew S5.inv (grw S5.gr) (exS S5) fun s6 W6 => hkap .none s6 ?_
        have S6 := wake_st hL hcl (esc := false) (S5.sub fun z hz => by
          have hz : z ∈ [(("escape" : Str), vBool false), ("pos", vI), ("addr", vStr x)] := hz
          simp only [List.mem_cons, List.not_mem_nil, or_false] at hz
          rcases hz with q | q | q <;> rw [q] <;> simp) W6
        show Seg _ A _ _ _ s6 _ (.pure (.again code)) _ s6
        refine seg_again hq ?_
        have h := ih (i + 1) false s6 s6 (pre ++ [⟨#[c]⟩]) (by omega) hlt (by rw [List.append_assoc]; exact hT) S6 W6.old
        exact h
end
end
end Mine
end

section
open PySem PySem.Calls PyProof.Rows PySem.W
open PySem.Builtin PySem.Builtin.List PySem.Builtin.Str
set_option Elab.async false
set_option maxRecDepth 100000
set_option linter.unusedVariables false
namespace Mine
noncomputable section
variable {w : World} {A : Around} {X : List Addr} {env : Env} {Γ : Ctxt} {s₀ : Shared} {μ μ' μ₁ : Mu}
theorem ie_B : genB w.params 189 ["addr"] = true := by kernel_rfl
theorem ie_bind (v : Value) : bindArgs (fdK w.params 189) ⟨[v], []⟩ = pure ((["addr"] : List Str).zip [v]) := by kernel_rfl
theorem g_enum : nsK w.params mainGlobals "enumerate" = some none := by kernel_rfl
theorem b_enum : nsK w.params builtinsNs "enumerate" = some (some (.type "enumerate")) := by kernel_rfl
theorem clsEnv_own {f L : Addr} {ns : List Str} (D : GenDef w f ns) : own (clsEnv w.params f L) = [L] ∧ (clsEnv w.params f L).cells = [] := by
  have hcells : (clsEnv w.params f L).cells = [] := D.clo
  refine ⟨?_, hcells⟩
  unfold own; rw [hcells]; rfl
theorem clsEnv_ok {f L : Addr} {ns : List Str} (D : GenDef w f ns) {s : Shared} (I : Inv w s) : EnvOk (clsEnv w.params f L) := by
  obtain ⟨o, ho, hdata, hrec, hco, hkd⟩ := fn_facts I D.ok
  exact ⟨hkd, D.g, D.b⟩
theorem ie_stE {L : Addr} : stB (clsEnv w.params 189 L) "escape" = true := by kernel_rfl
theorem ie_stP {L : Addr} : stB (clsEnv w.params 189 L) "pos" = true := by kernel_rfl
theorem ie_stC {L : Addr} : stB (clsEnv w.params 189 L) "ch" = true := by kernel_rfl
set_option maxHeartbeats 2000000 in
theorem seg_iter {x : Str} {t0 : Tok} {L : Addr} {sB : Addr → Prop} {s : Shared} (hA : Rm A 6) (hasc : x.cps.all (· < 128) = true) (I : Inv w s) (hLo : Off w L) (hLB : sB L) (hold : ∀ b, s.heap.get? b = none → sB b)
    (hns : s.heap.Ns L (fun y => ((["addr"] : List Str).zip [Value.str x t0]).reverse.lookup y)) :
    Seg (model PG w) A (yEnd w sB) (yProto w sB (etoks false x.cps.toList)) (etoks false x.cps.toList).length s (.func (bodyK w.params 189) (clsEnv w.params 189 L)) ((model PG w).den (.func (bodyK w.params 189) (clsEnv w.params 189 L))) [] s := by
  have D : GenDef w 189 ["addr"] := genDef_of ie_B
  obtain ⟨hL, hcl⟩ := clsEnv_own (L := L) D
  have hE := clsEnv_ok (L := L) D I
  have hA2 : Rm (A.over (.func (bodyK w.params 189) (clsEnv w.params 189 L)) []) 5 := rm_over hA
  have F1 : Fn w (clsEnv w.params 189 L) [L, T1, T2] := ⟨hE, fun a ha => by rw [hL] at ha; rw [List.mem_singleton.mp ha]; exact hLo, fun a ha => by rw [hL] at ha; rw [List.mem_singleton.mp ha]; exact .head _⟩
  have S : St w (clsEnv w.params 189 L) [L, T1, T2] s .no [("addr", vStr x)] s := by
    refine ⟨I, GrO.refl _ _, ⟨fun y hy => ?_, .tail _ (.head _), .tail _ (.tail _ (.head _))⟩, trivial, fun a ha => (nomatch ha), _, fun _ => none, ⟨hns, fun n c e => ?_, fun n c hm => ?_, fun n c n' c' hm _ _ => ?_⟩, fun y p hy => ?_⟩
    · simp only [List.mem_cons, List.not_mem_nil, or_false] at hy
      rcases hy with e | e | e
      · rw [e]; obtain ⟨o, _, _, ho, _⟩ := hns; exact ⟨o, ho⟩
      · rw [e]; exact I.t1.ex.2
      · rw [e]; exact I.t2.ex.2
    · rw [hcl] at e; cases e
    · rw [hcl] at hm; cases hm
    · rw [hcl] at hm; cases hm
    · cases List.mem_singleton.mp hy
      refine ⟨.str x t0, ?_, ⟨t0, rfl⟩⟩
      have hl : (clsEnv w.params 189 L).kindOf "addr" = some .local := D.loc "addr" (.head _)
      unfold valOf
      rw [hl]; rfl
  refine seg_func ?_
  refine sg_plain (wpAny_Assign_Name (st_ev (ev_of (q := vI) ev_int fun g v h => ⟨0, h⟩) S fun v s1 S1 _ hp => st_store F1 S1 hp ie_stP fun s2 S2 => ⟨rfl, ?_⟩) (by rfl))
  refine sg_plain (wpAny_Assign_Name (st_ev ev_bool S2 fun v s3 S3 _ hp => st_store F1 S3 hp ie_stE fun s4 S4 => ⟨rfl, ?_⟩) (by rfl))
  refine seg_execs_cons (sg_For ?_)
  refine wpAny_Call_NameR (Name_function_global hE.k (by kernel_rfl) (loadBi_K hE S4.inv g_enum b_enum (PySem.callWith_type (by rfl) (evalArgs1 ?_ (by rfl)))) (by rfl))
  refine st_ev (ev_name hE (x := "addr") (p := vStr x) (.tail _ (.tail _ (.head _)))) S4 fun v s5 S5 _ hp => ?_
  obtain ⟨t1, rfl⟩ := hp
  refine call_enumerate_str fun h' he hit hsz hkp => ?_
  refine wpAny_pyIter_enum he ?_
  intro p
  have new1 : s5.heap.get? s5.heap.objs.size = none := new_none _
  have new2 : s5.heap.get? (s5.heap.objs.size + 1) = none := Heap.get?_none_of_le (Nat.le_succ _)
  have I6 : Inv w { s5 with heap := h' } := S5.inv.keeps s5.toks hkp
  have G6 : Gr s5 { s5 with heap := h' } := Gr.keeps s5.toks hkp
  have S6 := S5.step I6 G6
  have abs0 : ∀ a, s5.heap.get? a = none → s.heap.get? a = none := fun a h => S5.gr.absent S5.inv (fun z hz => S5.hiddenEx F1 z hz) h
  have hO : ∀ b ∈ [s5.heap.objs.size + 1, s5.heap.objs.size], s5.heap.get? b = none := fun b hb => by
    rcases List.mem_cons.mp hb with q | hb
    · rw [q]; exact new2
    · rw [List.mem_singleton.mp hb]; exact new1
  have SE : St w (clsEnv w.params 189 L) (X2 (s5.heap.objs.size + 1) s5.heap.objs.size L) s (muE x t1 (s5.heap.objs.size + 1) s5.heap.objs.size 0) (Γg x false) { s5 with heap := h' } := by
    obtain ⟨lm, cm, V, H⟩ := S6.ex
    refine ⟨I6, S6.gr.mono fun z hz => ?_, ⟨fun y hy => ?_, .tail _ (.tail _ (.tail _ (.head _))), .tail _ (.tail _ (.tail _ (.tail _ (.head _))))⟩, ⟨⟨_, he⟩, hit⟩, fun b hb => ⟨?_, off_new S5.inv (hO b hb), fun m => ?_, fun n c hm => ?_⟩, lm, cm, V, fun y p hy => ?_⟩
    · rw [hL] at hz ⊢
      exact List.mem_append_left _ (by simpa [Mu.no] using hz)
    · have hy : y ∈ [s5.heap.objs.size + 1, s5.heap.objs.size] ++ [L, T1, T2] := hy
      rcases List.mem_append.mp hy with hy | hy
      · rcases List.mem_cons.mp hy with q | hy
        · rw [q]; exact ⟨_, he⟩
        · rw [List.mem_singleton.mp hy]; obtain ⟨o, ho, _⟩ := hit; exact ⟨o, ho⟩
      · exact S6.bel.ex y hy
    · have hb : b ∈ [s5.heap.objs.size + 1, s5.heap.objs.size] := hb
      exact List.mem_append_left [L, T1, T2] hb
    · rw [hL] at m
      obtain ⟨o, ho⟩ := S5.bel.ex L (.head _)
      have := hO b hb
      rw [List.mem_singleton.mp m, ho] at this; cases this
    · rw [hcl] at hm; cases hm
    · have hy : (y, p) ∈ [(("escape" : Str), vBool false), ("pos", vI), ("addr", vStr x)] := hy
      obtain ⟨v, hv, hp⟩ := H y p hy
      refine ⟨v, hv, ?_⟩
      simp only [List.mem_cons, List.not_mem_nil, or_false] at hy
      rcases hy with e | e | e <;> cases e <;> exact hp
  have F2 : Fn w (clsEnv w.params 189 L) (X2 (s5.heap.objs.size + 1) s5.heap.objs.size L) := F1.mono fun z hz => List.mem_append_right [s5.heap.objs.size + 1, s5.heap.objs.size] hz
  have hnew : ∀ b ∈ [s5.heap.objs.size + 1, s5.heap.objs.size, L], sB b := fun b hb => by
    have hb : b ∈ [s5.heap.objs.size + 1, s5.heap.objs.size] ++ [L] := hb
    rcases List.mem_append.mp hb with hb | hb
    · exact hold b (abs0 b (hO b hb))
    · rw [List.mem_singleton.mp hb]; exact hLB
  have e0 : x.cps.toList.drop 0 = x.cps.toList := rfl
  refine seg_loop (w := w) (A := A) (x := x) (t0 := t1) (e := s5.heap.objs.size + 1) (it := s5.heap.objs.size) (L := L) (sB := sB) (T := etoks false x.cps.toList) (f := 189) (c' := .func (bodyK w.params 189) (clsEnv w.params 189 L)) hA (gd := _root_.id) (lv := _root_.id) rfl ⟨by show 1 ≤ 1; exact Nat.le_refl _, by show 3 ≤ 3; exact Nat.le_refl _⟩ hL hcl F2 (Nat.succ_ne_self _) hnew ie_stE ie_stP ie_stC (by kernel_rfl) (by rfl) ?_ hasc (x.cps.size - 0) 0 false s _ [] rfl (Nat.zero_le _) rfl SE hold
  intro esc s₁ s₂ pre hT S7 hB
  have grw : ∀ {s₀ s : Shared}, GrO (own (clsEnv w.params 189 L) ++ [s5.heap.objs.size + 1, s5.heap.objs.size]) s₀ s → GrO [s5.heap.objs.size + 1, s5.heap.objs.size, L] s₀ s := fun h => h.mono fun z hz => by
    rw [hL] at hz
    simp only [List.singleton_append, List.mem_cons, List.not_mem_nil, or_false] at hz ⊢
    rcases hz with h | h | h <;> simp [h]
  have sub3 : ∀ b ∈ [s5.heap.objs.size + 1, s5.heap.objs.size, L], b ∈ X2 (s5.heap.objs.size + 1) s5.heap.objs.size L := fun b hb => List.mem_append_left [T1, T2] hb
  show Seg _ A _ _ _ s₁ _ ((execs [.If (.Name "escape" _) [.Expr (.Yield (some (.Tuple [.Name "pos" _, .Constant (.str "\\") _ _] _ _)) _) _] [] _] (clsEnv w.params 189 L)).wrap _ _ _ _) [] s₂
  refine seg_execs_cons (sg_If ?_)
  refine st_te (te_bool (ev_name hE (x := "escape") (p := vBool esc) (.head _))) S7 fun s8 S8 _ => ?_
  cases esc with
  | false =>
    rw [if_neg (by decide)]
    show Seg _ A _ _ 0 s₁ _ (leafOf (.ok (.ret .none))) [] s8
    exact seg_end (.ok (.ret .none)) ⟨rfl, rfl, S8.inv, [s5.heap.objs.size + 1, s5.heap.objs.size, L], hnew, grw S8.gr, fun b hb => S8.bel.ex b (sub3 b hb)⟩
  | true =>
    rw [if_pos rfl]
    show Seg _ A _ _ (0 + 1) s₁ _ _ [] s8
    refine seg_execs_cons (seg_Expr_Yield rfl rfl rfl ?_ (by kernel_rfl) (by rfl))
    refine wpAny_mono (ytup (E := fun _ _ => False) F2 (evl_cons (ev_name hE (x := "pos") (p := vI) (.tail _ (.head _))) (evl_cons ev_str evl_nil)) S8) (fun v s9 h9 kap hkap => ?_) fun _ _ z => z.elim
    obtain ⟨av, i', tt, uu, rfl, S9, hna, hta, haX⟩ := h9
    refine y_ok (pre := pre) (rest := []) hT rfl rfl hna hta (fun m => haX (sub3 _ m)) hnew S9.inv (grw S9.gr) (fun b hb => S9.bel.ex b (sub3 b hb)) fun s10 W => hkap .none s10 ?_
    show Seg _ A _ _ 0 s10 _ (leafOf (.ok (.ret .none))) [] s10
    refine seg_end (.ok (.ret .none)) ⟨rfl, rfl, W.inv, [s5.heap.objs.size + 1, s5.heap.objs.size, L], hnew, GrO.refl _ _, fun b hb => ?_⟩
    obtain ⟨o, ho⟩ := S9.bel.ex b (sub3 b hb)
    exact ⟨o, W.keep b hb o ho⟩
end
end Mine
end

section
open PySem PySem.Calls PyProof.Rows PySem.W
open PySem.Builtin PySem.Builtin.List PySem.Builtin.Str
set_option Elab.async false
set_option maxRecDepth 100000
set_option linter.unusedVariables false
namespace Mine
noncomputable section
variable {w : World} {A : Around} {X : List Addr} {env : Env} {Γ : Ctxt} {s₀ : Shared} {μ μ' μ₁ : Mu}

/-- a generator's next -/
theorem pyNext_genQ {a : Addr} {g n : Nat} {gs : GenState} {P : Nat → Shared → Shared → Prop} {Y : Protocol} {s : Shared} {E : Value → Shared → Prop} {Q : Option Value → Shared → Prop} (hh : A.handled = none) (hl : s.heap.NoLimit) (hroom : A.depth < recursionLimit)
    (hg : s.heap.IsGen a g) (hgs : s.gens[g]? = some gs)
    (hgo : gs.Goes (model PG w) A.in1 (fun n s₀ r s₁ => r = .ok (.ret .none) ∧ P n s₀ s₁) Y n (.send .none) (s.setGen g .running))
    (hY : ∀ v s₁ gs', gs'.bare = true → Y (n - 1) (s.setGen g .running) v s₁ (fun r' s'' => match n with
        | 0 => False
        | m + 1 => gs'.Goes (model PG w) A.in1 (fun n s₀ r s₁ => r = .ok (.ret .none) ∧ P n s₀ s₁) Y m r' s'') → Q (some v) (s₁.setGen g gs'))
    (hP : ∀ s₁, P n (s.setGen g .running) s₁ → ∀ h', (∀ b o, s₁.heap.get? b = some o → h'.get? b = some o) → Q none { s₁.setGen g .finished with heap := h' }) :
    wpAny (model PG w) A (pyNext (.ref a)) Q E s := by
  unfold pyNext
  refine wpAny_bind (wpAny_attempt (wpAny_callSpecial?_slot (name := Str.ofString "__next__") hg.typeIs slot_gen_next
    (wpAny_call_entry slot_gen_next hg.typeIs entry_gen_next ?_ (args_gen_next _))))
  show wpAny _ A.in1 (Builtin.Generator.genWake (.ref a) (.send .none)) _ _ s
  refine genWake_Q (A := A.in1) hh hl hroom hg hgs hgo (fun v s₁ gs' hb hv => ⟨v, rfl, wpAny_pure (hY v s₁ gs' hb hv)⟩) fun s₁ hp h' e hk hT => ?_
  refine wpAny_bind (wpAny_isInstance (T := "StopIteration") (b := true) hT isSubtype_stop ?_)
  exact wpAny_pure (hP s₁ hp h' hk)

noncomputable def Plain (Γ : Ctxt) : Prop := ∀ z ∈ Γ, ∀ g g' v, z.2.p g v → z.2.p g' v
/-- a frame's state, behind steps on what is no part of it -/
theorem st_beside {sB s s' : Shared} {wr : List Addr} (F : Fn w env X) (hP : Plain Γ) {Γ' : Ctxt} (SB : St w env X sB .no Γ' sB) (S : St w env X sB .no Γ s) (hc : env.cells = []) (hw : ∀ b ∈ wr, sB.heap.get? b = none) (I : Inv w s') (hk : ∀ b o, s.heap.get? b = some o → b ∉ wr → b ≠ T1 → b ≠ T2 → s'.heap.get? b = some o)
    (hg : ∀ i z, i ≠ sB.gens.size → s.gens[i]? = some z → s'.gens[i]? = some z) (ho : s'.os = s.os) : St w env X sB .no Γ s' := by
  have hB : ∀ b o, sB.heap.get? b = some o → b ∉ wr := fun b o e m => by rw [hw b m] at e; cases e
  obtain ⟨lm, cm, V, H⟩ := S.ex
  have hL : env.locals ∉ wr := fun m => by
    obtain ⟨o, ho⟩ := SB.bel.ex _ (F.sub _ List.mem_cons_self)
    exact hB _ _ ho m
  refine ⟨I, ⟨fun b o e hn h1 h2 => hk b o (S.gr.keep b o e hn h1 h2) (hB b o e) h1 h2, fun i z e => hg i z (fun q => ?_) (S.gr.gens i z e), ho.trans S.gr.os⟩, ⟨fun y hy => ?_, S.bel.a, S.bel.b⟩, trivial, fun a ha => (nomatch ha), lm, cm, ⟨?_, fun n c e => ?_, V.off, V.apart⟩, fun y p hy => ?_⟩
  · obtain ⟨hlt, _⟩ := Array.getElem?_eq_some_iff.mp e
    rw [q] at hlt; exact Nat.lt_irrefl _ hlt
  · by_cases q1 : y = T1
    · rw [q1]; exact I.t1.ex.2
    · by_cases q2 : y = T2
      · rw [q2]; exact I.t2.ex.2
      · obtain ⟨oB, hoB⟩ := SB.bel.ex y hy
        obtain ⟨o, ho⟩ := S.bel.ex y hy
        exact ⟨o, hk y o ho (hB y oB hoB) q1 q2⟩
  · have h1 := ns_ne V.ns S.inv.t1
    have h2 := ns_ne V.ns S.inv.t2
    obtain ⟨o, es, ep, ho, r⟩ := V.ns
    exact ⟨o, es, ep, hk _ _ ho hL h1 h2, r⟩
  · rw [hc] at e; cases e
  · obtain ⟨v, hv, hp⟩ := H y p hy
    exact ⟨v, hv, hP _ hy _ _ _ hp⟩

/-- how deep after the signs; none: below nought -/
noncomputable def chk : Int → List Str → Option Int
  | o, [] => some o
  | o, t :: r => if t.cps.toList == (Str.ofString "(").cps.toList then chk (o + 1) r else if t.cps.toList == (Str.ofString ")").cps.toList then (if o - 1 < 0 then none else chk (o - 1) r) else chk o r
noncomputable def checkP (x : Str) : Bool := match chk 0 (etoks false x.cps.toList) with | none => false | some o => o == 0

theorem sq_B : defB w.params 196 ["addr"] = true := by kernel_rfl
theorem sq_bind (vs : List Value) (h : vs.length = 1) : bindArgs (fdK w.params 196) ⟨vs, []⟩ = pure ((["addr"] : List Str).zip vs) := by
  match vs, h with
  | [a], _ => kernel_rfl
theorem sq_ok {x : Str} (h : Txt.contains x (Str.ofString "\"") = false) : FnOK w 1 196 [vStr x] (vStr x) := by
  refine fn_intro (ns := ["addr"]) sq_B rfl lim_K sq_bind fun X A L s₀ R hA F hR => ?_
  exact bd_ifT (te_of (te_cmp ev_str (ev_name F.ok (x := "addr") (p := vStr x) (.head _)) op_notInS) (by rw [h]; rfl)) fun E => bd_ret (ev_name F.ok (x := "addr") (.head _)) hR.r0
theorem g_strip : nsK w.params mainGlobals "_strip_quoted_realnames" = some (some (.ref 196)) := by kernel_rfl
theorem g_iter : nsK w.params mainGlobals "_iter_escaped_chars" = some (some (.ref 189)) := by kernel_rfl
theorem f_196 : isFnK w.params 196 = true := by kernel_rfl
theorem f_189 : isFnK w.params 189 = true := by kernel_rfl
theorem cp_B : defB w.params 203 ["addr"] = true := by kernel_rfl
theorem cp_bind (vs : List Value) (h : vs.length = 1) : bindArgs (fdK w.params 203) ⟨vs, []⟩ = pure ((["addr"] : List Str).zip vs) := by
  match vs, h with
  | [a], _ => kernel_rfl
theorem cp_cells {L : Addr} : (callEnvC (fdK w.params 203) L 203).cells = [] := by kernel_rfl
end
end Mine
end

section
open PySem PySem.Calls PyProof.Rows PySem.W
open PySem.Builtin PySem.Builtin.List PySem.Builtin.Str
set_option Elab.async false
set_option maxRecDepth 100000
set_option linter.unusedVariables false
namespace Mine
noncomputable section
variable {w : World} {A : Around} {X : List Addr} {env : Env} {Γ : Ctxt} {s₀ : Shared} {μ μ' μ₁ : Mu}

theorem chk_cons {o : Int} {t : Str} {r : List Str} : chk o (t :: r) = if t.cps.toList == (Str.ofString "(").cps.toList then chk (o + 1) r else if t.cps.toList == (Str.ofString ")").cps.toList then (if o - 1 < 0 then none else chk (o - 1) r) else chk o r := rfl
noncomputable def ctxCP (x : Str) (o : Int) : Ctxt := [("opens", vInt o), ("addr", vStr x)]
theorem plainCP {x : Str} {o : Int} : Plain (ctxCP x o) := fun z hz g g' v h => by
  have hz : z ∈ [(("opens" : Str), vInt o), ("addr", vStr x)] := hz
  simp only [List.mem_cons, List.not_mem_nil, or_false] at hz
  rcases hz with e | e <;> subst e <;> exact h
/-- what is new and not the generator -/
noncomputable def nw (sB : Shared) (a : Addr) : Addr → Prop := fun b => sB.heap.get? b = none ∧ b ≠ a
/-- where the generator stands -/
noncomputable def GAt (w : World) (A : Around) (sB : Shared) (T : List Str) (a : Addr) (k : Nat) (s : Shared) : Prop :=
  s.heap.IsGen a sB.gens.size ∧ ∃ gs, s.gens[sB.gens.size]? = some gs ∧ ∃ wr : List Addr, (∀ b ∈ wr, nw sB a b) ∧ ∀ s', Wk w (nw sB a) wr s s' → gs.Goes (model PG w) A.in1 (yEnd w (nw sB a)) (yProto w (nw sB a) T) k (.send .none) s'
/-- steps beside the generator -/
theorem GAt.step {sB s s' : Shared} {T : List Str} {a : Addr} {k : Nat} (G : GAt w A sB T a k s) (ha : sB.heap.get? a = none) (hkeep : ∀ b, sB.heap.get? b = none → ∀ o, s.heap.get? b = some o → s'.heap.get? b = some o) (hg : ∀ (i : Nat) (z : GenState), s.gens[i]? = some z → s'.gens[i]? = some z) : GAt w A sB T a k s' := by
  obtain ⟨hgen, gs, hgs, wr, hwr, hgo⟩ := G
  exact ⟨let ⟨o, nm, qn, ho, r⟩ := hgen; ⟨o, nm, qn, hkeep a ha o ho, r⟩, gs, hg _ _ hgs, wr, hwr, fun s'' W => hgo s'' ⟨W.inv, fun b hb o e => W.keep b hb o (hkeep b (hwr b hb).1 o e), W.old⟩⟩
theorem setGen_heap (s : Shared) (g : Nat) (z : GenState) : (s.setGen g z).heap = s.heap := rfl
theorem setGen_ne {s : Shared} {g i : Nat} {z : GenState} (h : i ≠ g) : (s.setGen g z).gens[i]? = s.gens[i]? := by
  show (s.gens.setIfInBounds g z)[i]? = _
  rw [Array.getElem?_setIfInBounds_ne (Ne.symm h)]
theorem setGen_self {s : Shared} {g : Nat} {z x : GenState} (h : s.gens[g]? = some x) : (s.setGen g z).gens[g]? = some z := by
  obtain ⟨h1, _⟩ := Array.getElem?_eq_some_iff.mp h
  show (s.gens.setIfInBounds g z)[g]? = _
  rw [Array.getElem?_setIfInBounds_self_of_lt h1]

set_option maxHeartbeats 2000000 in
theorem cp_ok {x : Str} (hq : Txt.contains x (Str.ofString "\"") = false) (hasc : x.cps.all (· < 128) = true) : FnOK w 12 203 [vStr x] (vBool (checkP x)) := by
  refine fn_intro (ns := ["addr"]) cp_B rfl lim_K cp_bind fun X A L₀ s₀ R hA F hR => ?_
  refine bd_assign F (ev_call F.ok (hA.mono (by decide)) (sq_ok hq) (evl_cons (ev_name F.ok (x := "addr") (p := vStr x) (.head _)) evl_nil) (by kernel_rfl) g_strip f_196) ?_
  refine bd_assign F ev_int ?_
  refine bd_sub (Δ := ctxCP x 0) ?_ (fun z hz => hz)
  intro s E S
  refine wpAny_execs_cons (wpAny_For ?_ (by intro _; rfl))
  obtain ⟨lm, cm, V, H⟩ := S.ex
  refine wpAny_Call_NameR (Name_function_global F.ok.k (by kernel_rfl) (loadGlob_K F.ok S.inv g_iter (callWith_fn f_189 (by decide) (by decide) (evalArgs_of (evl_cons (ev_name F.ok (x := "addr") (p := vStr x) (.tail _ (.head _))) evl_nil) (by rfl) S.inv S.bel V H fun vs sB IB GB hAB => ⟨IB, ?_⟩) (by rfl))) (by rfl))
  obtain ⟨_, rfl, ⟨t0, rfl⟩⟩ := all1 hAB
  have D : GenDef w 189 ["addr"] := genDef_of ie_B
  refine wpAny_call (gen_call (vs := [.str x t0]) D rfl (ie_bind _) (hA.mono (by decide)) IB fun h' tk hkp hns hgen => ?_)
  have SB0 := S.step IB GB
  have SB : St w (callEnvC (fdK w.params 203) L₀ 203) X sB .no (ctxCP x 0) sB := ⟨SB0.inv, GrO.refl _ _, SB0.bel, SB0.mu, SB0.mo, SB0.ex⟩
  have hLn : sB.heap.get? sB.heap.objs.size = none := new_none _
  have han : sB.heap.get? (sB.heap.objs.size + 1) = none := Heap.get?_none_of_le (Nat.le_succ _)
  have hLo : Off w sB.heap.objs.size := off_new IB hLn
  generalize hL : sB.heap.objs.size = L at *
  generalize hs2 : ({ sB with heap := h', toks := tk, gens := sB.gens.push (.fresh (.func (bodyK w.params 189) (clsEnv w.params 189 L))) } : Shared) = s2
  have hh2 : s2.heap = h' := by rw [← hs2]
  have hg2 : s2.gens = sB.gens.push (.fresh (.func (bodyK w.params 189) (clsEnv w.params 189 L))) := by rw [← hs2]
  have ho2 : s2.os = sB.os := by rw [← hs2]
  have hgs : s2.gens[sB.gens.size]? = some (.fresh (.func (bodyK w.params 189) (clsEnv w.params 189 L))) := by rw [hg2, Array.getElem?_push_size]
  have hkp2 : ∀ b o, sB.heap.get? b = some o → s2.heap.get? b = some o := fun b o e => by rw [hh2]; exact hkp b o e
  have I2 : Inv w s2 := by
    have I' := IB.keeps tk hkp
    exact ⟨fun a o h1 h2 e => by rw [hh2]; exact I'.K a o h1 h2 e, by rw [hh2]; exact I'.t1, by rw [hh2]; exact I'.t2, by rw [hg2]; exact IB.bare.push rfl⟩
  have hgen2 : s2.heap.IsGen (L + 1) sB.gens.size := by rw [hh2]; exact hgen
  have hns2 : s2.heap.Ns L (fun y => ((["addr"] : List Str).zip [Value.str x t0]).reverse.lookup y) := by rw [hh2]; exact hns
  have hcells : (callEnvC (fdK w.params 203) L₀ 203).cells = [] := cp_cells
  have S2 : St w (callEnvC (fdK w.params 203) L₀ 203) X sB .no (ctxCP x 0) s2 := st_beside (wr := []) F plainCP SB SB hcells (fun b hb => (nomatch hb)) I2 (fun b o e _ _ _ => hkp2 b o e) (fun i z hi e => by rw [hg2]; exact gens_push e) ho2
  refine wpAny_pyIter_gen hgen2 ?_
  have G2 : GAt w A sB (etoks false x.cps.toList) (L + 1) (etoks false x.cps.toList).length s2 := by
    refine ⟨hgen2, _, hgs, [L], fun b hb => by rw [List.mem_singleton.mp hb]; exact ⟨hLn, Nat.ne_of_lt (Nat.lt_succ_self L)⟩, fun s' W => ⟨rfl, ?_⟩⟩
    refine seg_iter (A := A.in1) (t0 := t0) (hA.in1.mono (by decide)) hasc W.inv hLo ⟨hLn, Nat.ne_of_lt (Nat.lt_succ_self L)⟩ W.old ?_
    obtain ⟨o, es, ep, ho, r⟩ := hns2
    exact ⟨o, es, ep, W.keep L (.head _) o ho, r⟩
  generalize hTT : etoks false x.cps.toList = T at *
  have env1 : own (callEnvC (fdK w.params 203) L₀ 203) ++ (Mu.no).O = own (callEnvC (fdK w.params 203) L₀ 203) ++ [] := rfl
  have hx1 : ∀ b, sB.heap.get? b = none → b ∉ own (callEnvC (fdK w.params 203) L₀ 203) ++ (Mu.no).O ∧ b ≠ T1 ∧ b ≠ T2 := fun b hb => by
    refine ⟨fun m => ?_, fun q => ?_, fun q => ?_⟩
    · obtain ⟨o, ho⟩ := SB.hiddenEx F b m; rw [hb] at ho; cases ho
    · obtain ⟨o, ho⟩ := IB.t1.ex.2; rw [← q, hb] at ho; cases ho
    · obtain ⟨o, ho⟩ := IB.t2.ex.2; rw [← q, hb] at ho; cases ho
  refine codeAny_forLoop_any (fun m s' => ∃ (o : Int) (pre rest : List Str), T = pre ++ rest ∧ m = rest.length ∧ chk 0 T = chk o rest ∧ St w (callEnvC (fdK w.params 203) L₀ 203) X sB .no (ctxCP x o) s' ∧ GAt w A sB T (L + 1) rest.length s') (fun m s' hI => ?_) T.length ⟨0, [], T, rfl, rfl, rfl, S2, G2⟩
  obtain ⟨o, pre, rest, hT, rfl, hchk, S', hgen', gs, hgs', wr, hwr, hgo⟩ := hI
  have hA1 : Rm A 11 := hA.mono (by decide)
  have hd := hA1.d
  have IR : Inv w (s'.setGen sB.gens.size .running) := ⟨S'.inv.K, S'.inv.t1, S'.inv.t2, bare_set S'.inv.bare rfl⟩
  have hold0 : ∀ b, s'.heap.get? b = none → sB.heap.get? b = none := fun b hb => by
    refine S'.gr.absent S'.inv (fun z hz => S'.hiddenEx F z hz) hb
  have hold' : ∀ b, s'.heap.get? b = none → nw sB (L + 1) b := fun b hb => by
    refine ⟨hold0 b hb, fun q => ?_⟩
    obtain ⟨o, _, _, ho, _⟩ := hgen'
    rw [← q, hb] at ho; cases ho
  refine pyNext_genQ (n := rest.length) (P := fun n s₀ s₁ => n = 0 ∧ Inv w s₁ ∧ ∃ wr, (∀ b ∈ wr, nw sB (L + 1) b) ∧ GrO wr s₀ s₁ ∧ ∀ b ∈ wr, ∃ o, s₁.heap.get? b = some o) (Y := yProto w (nw sB (L + 1)) T) hA1.h (noLimit_of S'.inv lim_K) (by omega) hgen' hgs' ?_ ?_ ?_
  · exact hgo _ ⟨IR, fun b _ o e => e, hold'⟩
  · intro v s₁ gs' hb hY
    obtain ⟨wr', av, i, t, u, tok, htok, rfl, hna, hta, hnw, hwr', I₁, G₁, ex₁, hwake⟩ := hY
    cases rest with
    | nil =>
      exact (hwake s₁ ⟨I₁, fun b _ o e => e, fun b hb => by
        have e1 := G₁.absent I₁ ex₁ hb
        exact hold' b e1⟩).elim
    | cons tk1 rest' =>
      have etk : tk1 = tok := by
        rw [hT, List.length_append, List.length_cons] at htok
        have e1 : pre.length + (rest'.length + 1) - 1 - (rest'.length + 1 - 1) = pre.length := by omega
        rw [e1, List.getElem?_append_right (Nat.le_refl _), Nat.sub_self] at htok
        exact Option.some.inj htok
      subst etk
      have IF : Inv w (s₁.setGen sB.gens.size gs') := ⟨I₁.K, I₁.t1, I₁.t2, bare_set I₁.bare hb⟩
      have gR : s₁.gens[sB.gens.size]? = some .running := G₁.gens _ _ (setGen_self hgs')
      have S3 : St w (callEnvC (fdK w.params 203) L₀ 203) X sB .no (ctxCP x o) (s₁.setGen sB.gens.size gs') := by
        refine st_beside (wr := wr') F plainCP SB S' hcells (fun b hb => (hwr' b hb).1) IF (fun b o e h1 h2 h3 => G₁.keep b o e h1 h2 h3) (fun i z hi e => ?_) G₁.os
        rw [setGen_ne hi]
        exact G₁.gens i z (by rw [setGen_ne hi]; exact e)
      have hgen3 : (s₁.setGen sB.gens.size gs').heap.IsGen (L + 1) sB.gens.size := by
        obtain ⟨o, nm, qn, ho, r⟩ := hgen'
        exact ⟨o, nm, qn, G₁.keep _ _ ho (fun m => (hwr' _ m).2 rfl) (hx1 _ han).2.1 (hx1 _ han).2.2, r⟩
      have G3 : GAt w A sB T (L + 1) rest'.length (s₁.setGen sB.gens.size gs') :=
        ⟨hgen3, gs', setGen_self gR, wr', hwr', fun s'' W => hwake s'' ⟨W.inv, W.keep, W.old⟩⟩
      have havX : av ∉ X := fun m => by
        obtain ⟨o, ho⟩ := S'.bel.ex av m
        have hna' : s'.heap.get? av = none := hna
        rw [hna'] at ho; cases ho
      generalize hs3 : s₁.setGen sB.gens.size gs' = s3 at *
      have hta3 : s3.heap.IsTuple av #[.int i t, .str tk1 u] := by rw [← hs3]; exact hta
      have S3r : St w (callEnvC (fdK w.params 203) L₀ 203) X s3 .no (ctxCP x o) s3 := ⟨S3.inv, GrO.refl _ _, S3.bel, S3.mu, S3.mo, S3.ex⟩
      have nx : ∀ (o' : Int) (s4 : Shared), chk 0 T = chk o' rest' → St w (callEnvC (fdK w.params 203) L₀ 203) X s3 .no (ctxCP x o') s4 → ∃ m, m < (tk1 :: rest').length ∧ ∃ (o : Int) (pre rest : List Str), T = pre ++ rest ∧ m = rest.length ∧ chk 0 T = chk o rest ∧ St w (callEnvC (fdK w.params 203) L₀ 203) X sB .no (ctxCP x o) s4 ∧ GAt w A sB T (L + 1) rest.length s4 := fun o' s4 hc S4 =>
        ⟨rest'.length, Nat.lt_succ_self _, o', pre ++ [tk1], rest', by rw [hT, List.append_assoc]; rfl, rfl, hc, ⟨S4.inv, S3.gr.trans S4.gr, S4.bel, S4.mu, S4.mo, S4.ex⟩,
          G3.step han (fun b hb o e => S4.gr.keep b o e (hx1 b hb).1 (hx1 b hb).2.1 (hx1 b hb).2.2) (fun i z e => S4.gr.gens i z e)⟩
      obtain ⟨og, ng, qg, hog, hcg, hrg⟩ := id hgen3
      refine letOwned_none hog (by rw [hcg]; rfl) ?_
      have hv : (vTup [vI, vStr tk1]).p (hideAll s3.heap X) (.ref av) := by
        obtain ⟨o2, ho2, hcl', nn, hd2⟩ := hta3
        exact ⟨av, o2, nn, _, rfl, hideAll_get _ ho2 havX, hcl', hd2, ⟨i, t, rfl⟩, ⟨u, rfl⟩, trivial⟩
      refine tgs_pair hA1.h (x := "pos") (y := "ch") (by kernel_rfl) (by kernel_rfl) (vI, vStr tk1) X s3 _ _ _ _ _ _ F S3r hv fun s4 S4 => ?_
      have S4' : St w (callEnvC (fdK w.params 203) L₀ 203) X s3 .no [(("ch" : Str), vStr tk1), ("pos", vI), ("opens", vInt o), ("addr", vStr x)] s4 := S4.sub fun z hz => hz
      refine (?_ : Bd w A X (callEnvC (fdK w.params 203) L₀ 203) s3 .no [(("ch" : Str), vStr tk1), ("pos", vI), ("opens", vInt o), ("addr", vStr x)] _ _) s4 _ S4'
      refine bd_ifB (te_of (te_cmp (ev_name F.ok (x := "ch") (p := vStr tk1) (.head _)) ev_str op_eqS) rfl) (fun hb E' => ?_) (fun hb E' => ?_)
      · refine bd_aug F (x := "opens") (p := vInt o) (.tail _ (.tail _ (.head _))) ev_int op_iaddI (bd_nil fun s5 S5 => wpAny_execs_nil ?_)
        exact nx (o + 1) s5 (by rw [hchk, chk_cons, if_pos hb]) (S5.sub fun z hz => by
          have hz : z ∈ [(("opens" : Str), vInt (o + 1)), ("addr", vStr x)] := hz
          simp only [List.mem_cons, List.not_mem_nil, or_false] at hz
          rcases hz with q | q <;> rw [q]
          · exact .head _
          · exact .tail _ (.tail _ (.tail _ (.head _))))
      · refine bd_ifB (te_of (te_cmp (ev_name F.ok (x := "ch") (p := vStr tk1) (.head _)) ev_str op_eqS) rfl) (fun hb2 E' => ?_) (fun hb2 E' => ?_)
        · refine bd_aug F (x := "opens") (p := vInt o) (.tail _ (.tail _ (.head _))) ev_int op_isubI ?_
          refine bd_ifB (te_of (te_cmp (ev_name F.ok (x := "opens") (p := vInt (o - 1)) (.head _)) ev_int op_ltI) rfl) (fun hb3 E' => ?_) (fun hb3 E' => bd_nil fun s5 S5 => wpAny_execs_nil (wpAny_execs_nil (wpAny_execs_nil ?_)))
          · have hcF : checkP x = false := by
              unfold checkP
              rw [hTT, hchk, chk_cons, if_neg (by rw [hb]; decide), if_pos hb2, if_pos (by simpa using hb3)]
            rw [hcF] at hR
            exact bd_ret ev_bool fun v s5 I5 GG hΦ B5 hp => hR.r0 v s5 I5 ((SB0.gr.trans S3.gr).trans GG) trivial B5 hp
          · exact nx (o - 1) s5 (by rw [hchk, chk_cons, if_neg (by rw [hb]; decide), if_pos hb2, if_neg (by simpa using hb3)]) (S5.sub fun z hz => by
              have hz : z ∈ [(("opens" : Str), vInt (o - 1)), ("addr", vStr x)] := hz
              simp only [List.mem_cons, List.not_mem_nil, or_false] at hz
              rcases hz with q | q <;> rw [q]
              · exact .head _
              · exact .tail _ (.tail _ (.tail _ (.head _))))
        · refine bd_nil fun s5 S5 => wpAny_execs_nil (wpAny_execs_nil ?_)
          exact nx o s5 (by rw [hchk, chk_cons, if_neg (by rw [hb]; decide), if_neg (by rw [hb2]; decide)]) (S5.sub fun z hz => by
            have hz : z ∈ [(("opens" : Str), vInt o), ("addr", vStr x)] := hz
            simp only [List.mem_cons, List.not_mem_nil, or_false] at hz
            rcases hz with q | q <;> rw [q]
            · exact .tail _ (.tail _ (.head _))
            · exact .tail _ (.tail _ (.tail _ (.head _))))
  · intro s₁ hp h2 hk2
    obtain ⟨hn0, I₁, wr', hwr', G₁, ex₁⟩ := hp
    have hr : rest = [] := List.eq_nil_of_length_eq_zero hn0
    subst hr
    have I1k := I₁.keeps s₁.toks hk2
    have IF : Inv w { s₁.setGen sB.gens.size .finished with heap := h2 } := ⟨I1k.K, I1k.t1, I1k.t2, bare_set I₁.bare rfl⟩
    have S3 : St w (callEnvC (fdK w.params 203) L₀ 203) X sB .no (ctxCP x o) { s₁.setGen sB.gens.size .finished with heap := h2 } := by
      refine st_beside (wr := wr') F plainCP SB S' hcells (fun b hb => (hwr' b hb).1) IF (fun b o e h1 h2 h3 => hk2 _ _ (G₁.keep b o e h1 h2 h3)) (fun i z hi e => ?_) G₁.os
      show (s₁.setGen sB.gens.size .finished).gens[i]? = some z
      rw [setGen_ne hi]
      exact G₁.gens i z (by rw [setGen_ne hi]; exact e)
    have S30 : St w (callEnvC (fdK w.params 203) L₀ 203) X s₀ .no (ctxCP x o) { s₁.setGen sB.gens.size .finished with heap := h2 } := ⟨S3.inv, SB0.gr.trans S3.gr, S3.bel, S3.mu, S3.mo, S3.ex⟩
    have hc : checkP x = (o == 0) := by
      unfold checkP
      rw [hTT, hchk]; rfl
    rw [hc] at hR
    refine wpAny_execs_nil ?_
    exact bd_ret (ev_cmp (ev_name F.ok (x := "opens") (p := vInt o) (.head _)) ev_int op_eqI) hR.r0 _ _ S30
end
end Mine
end

section
open PySem PySem.Calls PyProof.Rows PySem.W
open PySem.Builtin PySem.Builtin.List PySem.Builtin.Str
set_option Elab.async false
set_option maxRecDepth 100000
set_option linter.unusedVariables false
namespace Mine
noncomputable section
variable {w : World} {A : Around} {X : List Addr} {env : Env} {Γ : Ctxt} {s₀ : Shared} {μ μ' μ₁ : Mu}

/-- a plain fact -/
noncomputable def muP (P : Prop) : Mu := ⟨[], fun _ _ => P, fun _ _ _ _ _ _ h => h⟩
theorem St.fact {P Q : Prop} {s : Shared} (S : St w env X s₀ (muP P) Γ s) (h : Q) : St w env X s₀ (muP Q) Γ s := ⟨S.inv, S.gr, S.bel, h, S.mo, S.ex⟩
theorem St.toP {Q : Prop} {s : Shared} (S : St w env X s₀ .no Γ s) (h : Q) : St w env X s₀ (muP Q) Γ s := ⟨S.inv, S.gr, S.bel, h, S.mo, S.ex⟩
theorem contains_one (x : Str) (c : Nat) : Txt.contains x ⟨#[c]⟩ = decide (c ∈ x.cps.toList) := StrLaws.found_one x c
/-- the signs that are looked at -/
noncomputable def okCh (c : Nat) : Bool := c == 40 || c == 41 || c == 91 || c == 92 || (97 ≤ c && c ≤ 102)
noncomputable def OkS (x : Str) : Prop := ∀ c ∈ x.cps.toList, okCh c = true
theorem OkS.noq {x : Str} (h : OkS x) : Txt.contains x (Str.ofString "\"") = false := by
  rw [show (Str.ofString "\"") = ⟨#[34]⟩ by decide +kernel, contains_one, decide_eq_false_iff_not]
  exact fun m => absurd (h _ m) (by decide)
theorem OkS.asc {x : Str} (h : OkS x) : x.cps.all (· < 128) = true := by
  rw [Array.all_eq_true']
  intro c hc
  have := h c (Array.mem_toList_iff.mpr hc)
  unfold okCh at this
  simp only [Bool.or_eq_true, beq_iff_eq, Bool.and_eq_true, decide_eq_true_eq] at this
  simp only [decide_eq_true_eq]
  omega
theorem OkS.app {x y : Str} (hx : OkS x) (hy : OkS y) : OkS (x ++ y) := fun c hc => by
  have e : (x ++ y).cps.toList = x.cps.toList ++ y.cps.toList := by
    show (x.cps ++ y.cps).toList = _
    rw [Array.toList_append]
  rw [e] at hc
  exact (List.mem_append.mp hc).elim (hx c) (hy c)
theorem okS_mul {c : Nat} {n : Int} (h : okCh c = true) : OkS (Txt.mul ⟨#[c]⟩ n) := fun d hd => by
  rw [mul_cl] at hd
  rw [(List.mem_replicate.mp hd).2]; exact h
noncomputable def clF (x : Str) (k : Nat) : Str := x ++ Txt.mul (Str.ofString ")") (1 + (k : Int))
noncomputable def depthP (x : Str) : Int := match (List.range 7).find? (fun k => checkP (clF x k)) with | some k => (k : Int) | none => -1
theorem RP_eq : (Str.ofString ")") = ⟨#[41]⟩ := by decide +kernel
theorem okS_clF {x : Str} {k : Nat} (h : OkS x) : OkS (clF x k) := h.app (by rw [RP_eq]; exact okS_mul (by decide))
theorem ld_B : defB w.params 271 ["front"] = true := by kernel_rfl
theorem ld_bind (vs : List Value) (h : vs.length = 1) : bindArgs (fdK w.params 271) ⟨vs, []⟩ = pure ((["front"] : List Str).zip vs) := by
  match vs, h with
  | [a], _ => kernel_rfl
theorem ld_cells {L : Addr} : (callEnvC (fdK w.params 271) L 271).cells = [] := by kernel_rfl
theorem g_check : nsK w.params mainGlobals "_check_parenthesis" = some (some (.ref 203)) := by kernel_rfl
theorem f_203 : isFnK w.params 203 = true := by kernel_rfl
theorem mulRP_len (n : Int) : (Txt.mul (Str.ofString ")") n).length = n.toNat := by rw [len_cl, RP_eq, mul_cl]; simp
set_option maxHeartbeats 2000000 in
theorem ld_ok {x : Str} (h : OkS x) (hl : x.length ≤ 1000000) : FnOK w 13 271 [vStr x] (vInt (depthP x)) := by
  refine fn_intro (ns := ["front"]) ld_B rfl lim_K ld_bind fun X A L s₀ R hA F hR => ?_
  have hcl : ∀ n c, (n, c) ∈ (callEnvC (fdK w.params 271) L 271).cells → ∃ n', (callEnvC (fdK w.params 271) L 271).cells.lookup n' = some c := fun n c h => by
    rw [ld_cells] at h; cases h
  refine bd_forG (List.range 7) (pv := fun (i : Nat) => vInt (1 + (i : Int))) (bnd := fun (i : Nat) Γ => ("closed", vInt (1 + (i : Int))) :: dropN "closed" Γ) (Γs := fun _ => [("front", vStr x)]) (Γb := []) (O := []) (μs := fun i => muP (∀ k, k < i → checkP (clF x k) = false)) (μb := .never []) (Φr := fun _ _ => True) (rp := vInt (depthP x)) F hA.h
    (fun s E Q S k => srcM_of (μ := muP (∀ k, k < 0 → checkP (clF x k) = false)) (src_is (src_range2 (m := 1) (n := 8) F.ok (evl_cons ev_int (evl_cons ev_int evl_nil)) (by omega) (by kernel_rfl) g_range b_range) rfl) s E Q (S.toP fun k hk => absurd hk (Nat.not_lt_zero _)) k) (fun z hz => hz) (fun i X b μ Γ s v E Q F S hp k => wpAny_assign_Name (st_store F S hp (by kernel_rfl) k)) (fun i => rfl) rfl (fun _ _ _ _ h => h) (fun v s' I G _ B hp => hR.r0 v s' I G trivial B hp) (fun X' i p b R' hp hX F' hnext _ hret _ => ?_) (fun E => bd_then ?_) (fun s E S => S.mu.elim) hcl
  · obtain ⟨rfl, hi⟩ := range_get hp
    intro s E S
    have hprev : ∀ k, k < p → checkP (clF x k) = false := S.mu
    refine bd_ifB (b := checkP (clF x p)) (te_of (te_cmp (ev_call F'.ok (hA.mono (by decide)) (cp_ok (okS_clF (k := p) h).noq (okS_clF h).asc) (evl_cons (ev_bin (ev_name F'.ok (x := "front") (p := vStr x) (.tail _ (.head _))) (ev_call F'.ok (hA.mono (by decide)) (imulS_ok (x := Str.ofString ")") (n := 1 + (p : Int)) (by rw [RP_eq]; exact mulOk_one (by omega) (by omega))) (evl_cons ev_str (evl_cons (ev_name F'.ok (x := "closed") (p := vInt (1 + (p : Int))) (.head _)) evl_nil)) (by kernel_rfl) g_imul f_231) (op_addS (by rw [mulRP_len, sizeLine_eq]; omega))) evl_nil) (by kernel_rfl) g_check f_203) ev_bool op_isB) (by cases checkP (clF x p) <;> rfl)) (fun hc E' => ?_) (fun hc E' => ?_) s E S
    · refine bd_ret (ev_is (ev_bin (ev_name F'.ok (x := "closed") (p := vInt (1 + (p : Int))) (.head _)) ev_int op_subI) ?_) fun v s' I G _ B hp => hret v s' I G trivial B hp
      have hf : (List.range 7).find? (fun k => checkP (clF x k)) = some p := by
        rw [List.find?_eq_some_iff_append]
        refine ⟨hc, List.range p, (List.range' (p + 1) (6 - p)), ?_, fun a ha => by simp [hprev a (List.mem_range.mp ha)]⟩
        match p, hi with
        | 0, _ => rfl
        | 1, _ => rfl
        | 2, _ => rfl
        | 3, _ => rfl
        | 4, _ => rfl
        | 5, _ => rfl
        | 6, _ => rfl
      unfold depthP
      rw [hf]
      show vInt (1 + (p : Int) - 1) = vInt (p : Int)
      congr 1; omega
    · refine bd_nil fun s S => wpAny_execs_nil (hnext s ?_)
      refine (S.sub fun z hz => .tail _ hz).fact fun k hk => ?_
      rcases Nat.lt_succ_iff_lt_or_eq.mp hk with hk | rfl
      · exact hprev k hk
      · exact hc
  · intro s E S
    have hprev : ∀ k, k < 7 → checkP (clF x k) = false := S.mu
    refine bd_ret (ev_is (ev_neg ev_int) ?_) (fun v s' I G _ B hp => hR.r0 v s' I G trivial B hp) s E S
    have hf : (List.range 7).find? (fun k => checkP (clF x k)) = none := List.find?_eq_none.mpr fun k hk => by simp [hprev k (List.mem_range.mp hk)]
    unfold depthP
    rw [hf]
end
end Mine
end

section
open PySem PySem.Calls PyProof.Rows PySem.W
open PySem.Builtin PySem.Builtin.List PySem.Builtin.Str
set_option Elab.async false
set_option maxRecDepth 100000
set_option linter.unusedVariables false
namespace Mine
noncomputable section
variable {w : World} {A : Around} {X : List Addr} {env : Env} {Γ : Ctxt} {s₀ : Shared} {μ μ' μ₁ : Mu}

theorem all2_at {g : Heap} : ∀ {ps : List VP} {vs : List Value} {i : Nat} {p : VP} {v : Value}, All2 g ps vs → ps[i]? = some p → vs[i]? = some v → p.p g v
  | p :: ps, v :: vs, 0, q, u, h, e1, e2 => by cases e1; cases e2; exact h.1
  | p :: ps, v :: vs, i + 1, q, u, h, e1, e2 => all2_at (i := i) h.2 (by simpa using e1) (by simpa using e2)
  | [], _, _, _, _, _, e1, _ => by simp at e1
  | _ :: _, [], _, _, _, h, _, _ => h.elim
noncomputable def zipV (ps qs : List VP) : List VP := (ps.zip qs).map fun z => vTup [z.1, z.2]
theorem zipV_get {ps qs : List VP} {i : Nat} {r : VP} (h : (zipV ps qs)[i]? = some r) : ∃ p q, ps[i]? = some p ∧ qs[i]? = some q ∧ r = vTup [p, q] := by
  unfold zipV at h
  rw [List.getElem?_map, Option.map_eq_some_iff] at h
  obtain ⟨⟨p, q⟩, hz, rfl⟩ := h
  rw [List.getElem?_zip_eq_some] at hz
  exact ⟨p, q, hz.1, hz.2, rfl⟩
set_option maxHeartbeats 1000000 in
/-- zip of two lists, a pair for a target -/
theorem srcT_zip {x : Str} {np pos pt : Pos} {a b : Expr} {ps qs : List VP} {elts : List Expr} {kt : Nat} (hA : A.handled = none) (hE : EnvOk env) (h : EvL w A X env Γ [a, b] [vList ps, vList qs]) (hk : env.kindOf x = some .globalImplicit) (e : nsK w.params mainGlobals x = some none) (e' : nsK w.params builtinsNs x = some (some (.type "zip"))) (hplain : (backTo pos (starEach [a, b] env)).any (·.1) = false := by rfl) (hd : (x == ("__debug__" : Str)) = false := by rfl) :
    SrcT w A X env Γ (.Tuple elts kt pt) (.Call (.Name x np) [a, b] [] pos) (zipV ps qs) := by
  intro s lm cm E Q I B V H k
  refine wpAny_Call_NameR (Name_function_global hE.k hk (loadBi_K hE I e e' (PySem.callWith_type hplain (evalArgs_of h hplain I B V H fun vs s1 I1 G1 hA2 => ?_))) hd)
  obtain ⟨v, u, rfl, hv, hu⟩ := all2 hA2
  have B1 := B.gr I1 G1
  obtain ⟨l1, o1, n1, xs, rfl, ho1, hc1, hd1, hAx⟩ := hv
  obtain ⟨l2, o2, n2, ys, rfl, ho2, hc2, hd2, hAy⟩ := hu
  have ho1' := of_hideAll X ho1
  have ho2' := of_hideAll X ho2
  have na1 : l1 ∉ X := fun m => by rw [hideAll_none X m] at ho1; cases ho1
  have na2 : l2 ∉ X := fun m => by rw [hideAll_none X m] at ho2; cases ho2
  have hl1 : s1.heap.IsList l1 xs := ⟨o1, ho1', hc1, n1, hd1⟩
  have hl2 : s1.heap.IsList l2 ys := ⟨o2, ho2', hc2, n2, hd2⟩
  refine call_zip_2 hl1 hl2 fun h' hz hTI hTO hi1 hi2 hsz hkp => ?_
  refine wpAny_pyIter_zip hz ?_
  generalize hN : s1.heap.objs.size = N at *
  have lt1 : @LT.lt Nat _ l1 N := hN ▸ Heap.lt_size ho1'
  have lt2 : @LT.lt Nat _ l2 N := hN ▸ Heap.lt_size ho2'
  have D : ZipApart (N + 4) (N + 2) (N + 3) N (N + 1) l1 l2 := by
    constructor <;> (intro q; have q' : @Eq Nat _ _ := q; omega)
  have W := WalksT.zip2 (prog := PG) (w := w) hA (N + 4) (N + 2) (N + 3) N (N + 1) l1 l2 D xs ys
  have newN : ∀ b, N ≤ b → s1.heap.get? b = none := fun b hb => Heap.get?_none_of_le (by rw [hN]; exact hb)
  have hXlt : ∀ y ∈ X, y < N := fun y hy => by
    obtain ⟨o, ho⟩ := B1.ex y hy
    have := Heap.lt_size ho
    rw [hN] at this; exact this
  have hwr : ∀ b ∈ [N + 4, N + 3, N, N + 1], N ≤ b := fun b hb => by
    simp only [List.mem_cons, List.not_mem_nil, or_false] at hb
    omega
  have hlx : xs.toList.length = ps.length := hAx.length
  have hly : ys.toList.length = qs.length := hAy.length
  have hlen : (zipV ps qs).length = min xs.size ys.size := by
    unfold zipV
    rw [List.length_map, List.length_zip, ← hlx, ← hly]; simp
  refine k (N + 4) [N + 4, N + 3, N, N + 1] [N + 4, N + 2, N + 3, N, N + 1, l1, l2] (fun i h => IsZip h (N + 4) (N + 2) (N + 3) .none ∧ IsPair h (N + 2) (.ref N) (.ref (N + 1)) ∧ (∃ a b, IsPair h (N + 3) a b) ∧ h.IsListIter N l1 i ∧ h.IsListIter (N + 1) l2 i ∧ h.IsList l1 xs ∧ h.IsList l2 ys) { s1 with heap := h' } (I1.keeps s1.toks hkp) (G1.trans (Gr.keeps s1.toks hkp)) (fun b hb => G1.absent I1 (newN b (hwr b hb))) ?_
  refine ⟨W.sub, W.frame, fun Y i p s₁ E Q hp hZ hY hs hex kk => ?_, fun s₁ E Q hZ kk => ?_, fun i s₁ Q E hZ hq => W.self i s₁ Q E hZ hq, ⟨hz, hTI, ⟨_, _, hTO⟩, hi1, hi2, ?_, ?_⟩, fun i h hZ b hb => ?_, fun b hb => List.mem_append_left _ hb, fun b hb => ?_⟩
  · obtain ⟨p1, q1, hp1, hq1, rfl⟩ := zipV_get hp
    obtain ⟨hi, _⟩ := List.getElem?_eq_some_iff.mp hp
    rw [hlen] at hi
    refine W.item i s₁ _ _ hi hZ fun T vals h2 tk hP hT2 hTup hMid hkp2 => ⟨_, rfl, ?_⟩
    obtain ⟨x1, y1, hx1, hy1, rfl⟩ := hP
    refine W.go elts kt pt i T _ _ _ hMid fun h3 hZ3 hkp3 => ?_
    have k2 : KeepBut [N + 4, N + 3, N, N + 1] s₁.heap h2 := fun b o hb e => hkp2 b o hb e
    have k3 : KeepBut [N + 4, N + 3, N, N + 1] h2 h3 := fun b o hb e => hkp3 b o hb e
    have hTY : T ∉ Y := fun m => by
      obtain ⟨o, ho⟩ := hex T m
      exact absurd (Heap.lt_size ho) (Nat.not_lt.mpr hT2)
    have hTw := W.apart i T h2 hMid
    refine kk (.ref T) h3 tk ?_ hZ3 (fun b o hb e => k3 b o hb (k2 b o hb e))
    obtain ⟨o, ho, hcl, n, hdd⟩ := hTup
    have hsub : Sub (hideAll s1.heap X) (hideAll h3 Y) := by
      have e1 : Sub (hideAll s1.heap X) (hideAll h' ([N + 4, N + 3, N, N + 1] ++ X)) := hid_new (fun b o e _ => hkp b o e) fun y hy => by
        rcases List.mem_append.mp hy with hy | hy
        · exact .inr (newN y (hwr y hy))
        · exact .inl hy
      exact ((e1.trans hs).trans (hid_but hY k2)).trans (hid_but hY k3)
    have hx1' : xs.toList[i]? = some x1 := by rw [Array.getElem?_toList]; exact hx1
    have hy1' : ys.toList[i]? = some y1 := by rw [Array.getElem?_toList]; exact hy1
    exact ⟨T, o, n, _, rfl, hideAll_get _ (k3 T o hTw ho) hTY, hcl, hdd, p1.st _ _ _ hsub (all2_at hAx hp1 hx1'), q1.st _ _ _ hsub (all2_at hAy hq1 hy1'), trivial⟩
  · rw [hlen] at hZ
    exact W.done s₁ _ _ hZ fun h2 tk hk2 => kk h2 tk fun b o hb e => hk2 b o hb e
  · obtain ⟨o, ho, r⟩ := hl1; exact ⟨o, hkp _ _ ho, r⟩
  · obtain ⟨o, ho, r⟩ := hl2; exact ⟨o, hkp _ _ ho, r⟩
  · obtain ⟨a1, a2, ⟨_, _, a3⟩, ⟨_, a4, _⟩, ⟨_, a5, _⟩, _⟩ := hZ
    simp only [List.mem_cons, List.not_mem_nil, or_false] at hb
    rcases hb with q | q | q | q <;> rw [q]
    · exact ⟨_, a1⟩
    · exact ⟨_, a3⟩
    · exact ⟨_, a4⟩
    · exact ⟨_, a5⟩
  · have hnot : ∀ c, c = N + 2 ∨ c = l1 ∨ c = l2 → c ∉ [N + 4, N + 3, N, N + 1] := fun c hc m => by
      have m' : @Eq Nat c (N + 4) ∨ @Eq Nat c (N + 3) ∨ @Eq Nat c N ∨ @Eq Nat c (N + 1) := by simpa using m
      have hc' : @Eq Nat c (N + 2) ∨ @Eq Nat c l1 ∨ @Eq Nat c l2 := hc
      have lt1' : @LT.lt Nat _ l1 N := lt1
      have lt2' : @LT.lt Nat _ l2 N := lt2
      omega
    simp only [List.mem_cons, List.not_mem_nil, or_false] at hb
    have h2X : N + 2 ∉ X := fun m => by have := hXlt _ m; have : @LT.lt Nat _ (N + 2) N := this; omega
    rcases hb with q | q | q | q | q | q | q
    · exact .inl (by rw [q]; simp)
    · refine .inr ⟨fun m => ?_, ⟨_, q ▸ hTI⟩⟩
      rcases List.mem_append.mp m with m | m
      · exact hnot b (.inl q) m
      · exact h2X (q ▸ m)
    · exact .inl (by rw [q]; simp)
    · exact .inl (by rw [q]; simp)
    · exact .inl (by rw [q]; simp)
    · refine .inr ⟨fun m => ?_, ⟨_, hkp _ _ (q ▸ ho1')⟩⟩
      rcases List.mem_append.mp m with m | m
      · exact hnot b (.inr (.inl q)) m
      · exact na1 (q ▸ m)
    · refine .inr ⟨fun m => ?_, ⟨_, hkp _ _ (q ▸ ho2')⟩⟩
      rcases List.mem_append.mp m with m | m
      · exact hnot b (.inr (.inr q)) m
      · exact na2 (q ▸ m)
end
end Mine
end

section
open PySem PySem.Calls PyProof.Rows PySem.W
open PySem.Builtin PySem.Builtin.List PySem.Builtin.Str
set_option Elab.async false
set_option maxRecDepth 100000
set_option linter.unusedVariables false
namespace Mine
noncomputable section
variable {w : World} {A : Around} {X : List Addr} {env : Env} {Γ : Ctxt} {s₀ : Shared} {μ μ' μ₁ : Mu}

/-! ### what the law computes, plainly -/
noncomputable def tabN : List Int := [2, 0, 1, 3, 0, 4]
noncomputable def numL (ns : List Int) (j : Nat) : Int := tabN.getD j 0 + (if decide ((j : Int) < (ns.length : Int)) then ns.getD j 0 else 0)
noncomputable def nums (ns : List Int) : List Int := (List.range 6).map (numL ns)
noncomputable def widL (ns : List Int) : Int := 6 + (3 + (ns.take 6).sum).fmod 9
noncomputable def lenL (ns : List Int) (j : Nat) : Int := 1 + (numL ns j).fmod 5
noncomputable def ltr (j : Nat) : Str := ⟨#[97 + j]⟩
noncomputable def wdL (ns : List Int) (j : Nat) : Str := Txt.mul (ltr j) (lenL ns j)
noncomputable def wds (ns : List Int) : List Str := (List.range 6).map (wdL ns)
noncomputable def segL (ns : List Int) (i j : Nat) : List Int := (((wds ns).drop i).take (j + 1 - i)).map fun (t : Str) => (t.length : Int) + 1
noncomputable def far (ns : List Int) (i j : Nat) : Bool := decide ((segL ns i j).sum > widL ns)
noncomputable def aps (ns : List Int) : List (Nat × Nat) := ((List.range 6).map fun j => ((List.range j).filter fun i => far ns i j).map fun i => (i, j)).flatten
noncomputable def vNN (z : Nat × Nat) : VP := vTup [vInt (z.1 : Int), vInt (z.2 : Int)]
noncomputable def labL (ns : List Int) (j : Nat) : Str := (if (numL ns j).fmod 2 == 1 then Str.ofString "\\)" else Str.ofString "") ++ ltr j
noncomputable def abc : Str := Str.ofString "abcdef"
noncomputable def nmsL (text : Str) : List Nat := text.cps.toList.filter fun c => Txt.contains abc ⟨#[c]⟩
noncomputable def posL (text : Str) (c : Nat) : Nat := (occurrences text ⟨#[c]⟩ 0 text.length 1).headD 0
noncomputable def dptL (text : Str) (c : Nat) : Int := depthP (Txt.slice text none (some (posL text c : Int)))
noncomputable def dpsL (text : Str) : List Int := (nmsL text).map (dptL text)
noncomputable def dueL (ns : List Int) (text : Str) (m : Nat) : List Str := (List.range (m + 1)).map fun (k : Nat) => Txt.join (Str.ofString "") ((((nmsL text).zip (dpsL text)).filter fun z => z.2 == (k : Int)).map fun z => Str.ofString " " ++ (wds ns).getD (z.1 - 97) (Str.ofString ""))
/-- what plain reckoning must show -/
structure LawFacts (ns : List Int) (M : Nat → Int) (text : Str) (m : Nat) : Prop where
  M1 : ∀ j, j < 6 → M j ∈ (-1 : Int) :: ((aps ns).filter fun z => z.2 == j).map fun z => (z.1 : Int)
  M2 : ∀ j, j < 6 → ∀ a ∈ (-1 : Int) :: ((aps ns).filter fun z => z.2 == j).map (fun z => (z.1 : Int)), a ≤ M j
  M3 : ∀ j, j < 6 → M j < (j : Int)
  tx : text = writ ((List.range 6).map (labL ns)) ((List.range 6).map M) 7 (-1)
  ok : OkS text
  tl : text.length ≤ 1000
  nl : (nmsL text).length ≤ 10
  m1 : (m : Int) ∈ dpsL text
  m2 : ∀ d ∈ dpsL text, d ≤ (m : Int)
  m3 : m < 1000
  m4 : ∀ i, i < m + 2 → ∃ d ∈ dpsL text, d = (i : Int) - 1 ∨ d = (i : Int)
  due : linesOf (widL ns) (wds ns) = dueL ns text m
  sw : Txt.join "" (sweepLines (dpsL text) (m + 2)) = opS (wds ns) (widL ns) 6
  sok : OkS (Txt.join "" (sweepLines (dpsL text) (m + 2)))
  sl : (Txt.join "" (sweepLines (dpsL text) (m + 2))).length ≤ 1000000
  c1 : checkP (Txt.join "" (sweepLines (dpsL text) (m + 2))) = true
  c2 : checkP (Txt.slice (Txt.join "" (sweepLines (dpsL text) (m + 2))) (some 1) none ++ Str.ofString "(") = false
  near : nOut (dpsL text) (dpsL text).length = 15 - ((aps ns).length : Int)

theorem lenL_bd (ns : List Int) (j : Nat) : 1 ≤ lenL ns j ∧ lenL ns j ≤ 5 := by
  unfold lenL
  have h1 := Int.fmod_nonneg_of_pos (numL ns j) (b := 5) (by decide)
  have h2 := Int.fmod_lt_of_pos (numL ns j) (b := 5) (by decide)
  omega
theorem wid_bd (ns : List Int) : 6 ≤ widL ns ∧ widL ns ≤ 14 := by
  unfold widL
  have h1 := Int.fmod_nonneg_of_pos (3 + (ns.take 6).sum) (b := 9) (by decide)
  have h2 := Int.fmod_lt_of_pos (3 + (ns.take 6).sum) (b := 9) (by decide)
  omega
theorem wdL_len (ns : List Int) (j : Nat) : ((wdL ns j).length : Int) = lenL ns j := by
  have h := lenL_bd ns j
  unfold wdL ltr
  rw [len_cl, mul_cl, List.length_replicate]
  omega
theorem item_abc {j : Nat} (h : j < 6) : Txt.item abc (j : Int) = ltr j ∧ (Txt.charAt abc (j : Int)).isSome = true := by
  match j, h with
  | 0, _ => exact ⟨by decide +kernel, by decide +kernel⟩
  | 1, _ => exact ⟨by decide +kernel, by decide +kernel⟩
  | 2, _ => exact ⟨by decide +kernel, by decide +kernel⟩
  | 3, _ => exact ⟨by decide +kernel, by decide +kernel⟩
  | 4, _ => exact ⟨by decide +kernel, by decide +kernel⟩
  | 5, _ => exact ⟨by decide +kernel, by decide +kernel⟩
theorem law_B : defB w.params 288 ["script"] = true := by kernel_rfl
theorem law_bind (vs : List Value) (h : vs.length = 1) : bindArgs (fdK w.params 288) ⟨vs, []⟩ = pure ((["script"] : List Str).zip vs) := by
  match vs, h with
  | [a], _ => kernel_rfl
theorem g_zip : nsK w.params mainGlobals "zip" = some none := by kernel_rfl
theorem b_zip : nsK w.params builtinsNs "zip" = some (some (.type "zip")) := by kernel_rfl
theorem g_depth : nsK w.params mainGlobals "_law_depth" = some (some (.ref 271)) := by kernel_rfl
theorem f_271 : isFnK w.params 271 = true := by kernel_rfl
theorem g_swept : nsK w.params mainGlobals "_law_swept" = some (some (.ref 276)) := by kernel_rfl
theorem f_276 : isFnK w.params 276 = true := by kernel_rfl
theorem g_folded : nsK w.params mainGlobals "_law_folded" = some (some (.ref 259)) := by kernel_rfl
theorem f_259 : isFnK w.params 259 = true := by kernel_rfl
theorem g_opened : nsK w.params mainGlobals "_law_opened" = some (some (.ref 252)) := by kernel_rfl
theorem f_252 : isFnK w.params 252 = true := by kernel_rfl
theorem g_near : nsK w.params mainGlobals "_law_near" = some (some (.ref 283)) := by kernel_rfl
theorem f_283 : isFnK w.params 283 = true := by kernel_rfl
theorem slice_sub {x : Str} {l u : Option Int} {c : Nat} (h : c ∈ (Txt.slice x l u).cps.toList) : c ∈ x.cps.toList := by
  unfold Txt.slice at h
  split at h
  · exact h
  · simp only [List.mem_filterMap] at h
    obtain ⟨i, _, hi⟩ := h
    exact Array.mem_toList_iff.mpr (Array.mem_of_getElem? hi)
theorem occ_pos {x : Str} {c : Nat} (h : c ∈ x.cps.toList) : ∃ r, occurrences x ⟨#[c]⟩ 0 x.length 1 = posL x c :: r := by
  have h1 := StrLaws.found_one x c
  rw [decide_eq_true h] at h1
  unfold posL
  cases q : occurrences x ⟨#[c]⟩ 0 x.length 1 with
  | nil => rw [q] at h1; cases h1
  | cons i r => exact ⟨r, rfl⟩
theorem abc_mem {c : Nat} (h : Txt.contains abc ⟨#[c]⟩ = true) : 97 ≤ c ∧ c ≤ 102 := by
  rw [contains_one, decide_eq_true_iff] at h
  have e : abc.cps.toList = [97, 98, 99, 100, 101, 102] := by decide +kernel
  rw [e] at h
  simp only [List.mem_cons, List.not_mem_nil, or_false] at h
  omega
theorem abc_idx {c : Nat} (h : 97 ≤ c ∧ c ≤ 102) : ∃ r, occurrences abc ⟨#[c]⟩ 0 abc.length 1 = (c - 97) :: r := by
  obtain ⟨h1, h2⟩ := h
  have : c = 97 ∨ c = 98 ∨ c = 99 ∨ c = 100 ∨ c = 101 ∨ c = 102 := by omega
  rcases this with rfl | rfl | rfl | rfl | rfl | rfl
  · exact ⟨[], by decide +kernel⟩
  · exact ⟨[], by decide +kernel⟩
  · exact ⟨[], by decide +kernel⟩
  · exact ⟨[], by decide +kernel⟩
  · exact ⟨[], by decide +kernel⟩
  · exact ⟨[], by decide +kernel⟩
theorem nms_mem {text : Str} {c : Nat} (h : c ∈ nmsL text) : c ∈ text.cps.toList ∧ 97 ≤ c ∧ c ≤ 102 := by
  obtain ⟨h1, h2⟩ := List.mem_filter.mp h
  exact ⟨h1, abc_mem h2⟩
theorem OkS.slice {x : Str} {l u : Option Int} (h : OkS x) : OkS (Txt.slice x l u) := fun c hc => h c (slice_sub hc)
theorem zip_map2 {α β : Type} (f : α → VP) (g : β → VP) : ∀ (xs : List α) (ys : List β), zipV (xs.map f) (ys.map g) = (xs.zip ys).map fun z => vTup [f z.1, g z.2]
  | [], _ => rfl
  | _ :: _, [] => rfl
  | x :: xs, y :: ys => by
    have ih := zip_map2 f g xs ys
    unfold zipV at ih ⊢
    simp only [List.map_cons, List.zip_cons_cons]
    rw [ih]
theorem wds_ok {ns : List Int} {t : Str} (h : t ∈ wds ns) : WordOk t := by
  obtain ⟨j, hj, rfl⟩ := List.mem_map.mp h
  have hj6 : j < 6 := by simpa using hj
  have h1 := lenL_bd ns j
  have h2 := wdL_len ns j
  refine ⟨by omega, by omega, fun c hc => ?_⟩
  unfold wdL ltr at hc
  rw [mul_cl] at hc
  have := (List.mem_replicate.mp hc).2
  omega
end
end Mine
end

section
open PySem PySem.Calls PyProof.Rows PySem.W
open PySem.Builtin PySem.Builtin.List PySem.Builtin.Str
set_option Elab.async false
set_option maxRecDepth 100000
set_option linter.unusedVariables false
namespace Mine
noncomputable section
variable {w : World} {A : Around} {X : List Addr} {env : Env} {Γ : Ctxt} {s₀ : Shared} {μ μ' μ₁ : Mu}

theorem lw_nd {L : Addr} : decide (((callEnvC (fdK w.params 288) L 288).cells.map (·.1)).Nodup) = true := by kernel_rfl
theorem lw_hcl {L : Addr} : ∀ n c, (n, c) ∈ (callEnvC (fdK w.params 288) L 288).cells → ∃ n', (callEnvC (fdK w.params 288) L 288).cells.lookup n' = some c := fun n c h => ⟨n, lookup_of_mem_nodup (of_decide_eq_true lw_nd) h⟩
theorem bd_is {c : List Stmt} {R : Flow → Shared → Prop} {Δ : Ctxt} (h : Bd w A X env s₀ μ Δ c R) (e : Γ = Δ) : Bd w A X env s₀ μ Γ c R := e ▸ h
theorem one_vis {scope : Scope} {x : Str} {p : VP} (h : (x, p) ∈ Γ) (hv : visB env scope x = true) : ∀ z ∈ [(x, p)], z ∈ Γ ∧ visB env scope z.1 = true := fun z hz => by
  rw [List.mem_singleton.mp hz]; exact ⟨h, hv⟩
theorem one_ne {ι : Type} {x y : Str} {p : VP} {q : ι → VP} (h : x ≠ y) : ∀ i : ι, ∀ z ∈ [(x, p)], ∀ u ∈ [(y, q i)], z.1 ≠ u.1 := fun i z hz u hu => by
  rw [List.mem_singleton.mp hz, List.mem_singleton.mp hu]; exact h
theorem src_range6 {x : Str} {np pos : Pos} {a : Expr} {n : Nat} (hA : A.handled = none) {target : Expr} (hE : EnvOk env) (h : EvL w A X env Γ [a] [vInt n]) (hn : n < 2 ^ 40) (hk : env.kindOf x = some .globalImplicit) (e : nsK w.params mainGlobals x = some none) (e' : nsK w.params builtinsNs x = some (some (.type "range")))
    (hplain : (backTo pos (starEach [a] env)).any (·.1) = false := by rfl) (hd : (x == ("__debug__" : Str)) = false := by rfl) : SrcT w A X env Γ target (.Call (.Name x np) [a] [] pos) ((List.range n).map fun (i : Nat) => vInt (i : Int)) := srcT_of hA (src_range1' hE h hn hk e e' hplain hd)

theorem aps_len (ns : List Int) : (aps ns).length ≤ 15 := by
  have h : ∀ j, (((List.range j).filter fun i => far ns i j).map fun i => (i, j)).length ≤ j := fun j => by
    rw [List.length_map]
    exact Nat.le_trans (List.length_filter_le ..) (by simp)
  show (List.flatten [((List.range 0).filter fun i => far ns i 0).map fun i => (i, 0), ((List.range 1).filter fun i => far ns i 1).map fun i => (i, 1), ((List.range 2).filter fun i => far ns i 2).map fun i => (i, 2), ((List.range 3).filter fun i => far ns i 3).map fun i => (i, 3), ((List.range 4).filter fun i => far ns i 4).map fun i => (i, 4), ((List.range 5).filter fun i => far ns i 5).map fun i => (i, 5)]).length ≤ 15
  simp only [List.flatten_cons, List.flatten_nil, List.length_append, List.length_nil]
  have h0 := h 0; have h1 := h 1; have h2 := h 2; have h3 := h 3; have h4 := h 4; have h5 := h 5
  omega
theorem natbeq (a b : Nat) : ((a : Int) == (b : Int)) = (a == b) := by
  rw [Bool.eq_iff_iff, beq_iff_eq, beq_iff_eq]; exact Int.ofNat_inj
theorem ltr_len (j : Nat) : (ltr j).length = 1 := rfl
theorem labL_len (ns : List Int) (j : Nat) : (labL ns j).length ≤ 3 := by
  unfold labL
  rw [str_app_len, ltr_len]
  have e2 : (Str.ofString "\\)").length = 2 := rfl
  have e0 : (Str.ofString "").length = 0 := rfl
  split
  · rw [e2]; decide
  · rw [e0]; decide
theorem wds_len {ns : List Int} {q : Str} (h : q ∈ wds ns) : 1 ≤ q.length ∧ q.length ≤ 5 := by
  obtain ⟨j, _, rfl⟩ := List.mem_map.mp h
  have h1 := lenL_bd ns j
  have h2 := wdL_len ns j
  omega

theorem wds_getD (ns : List Int) (k : Nat) : ((wds ns).getD k (Str.ofString "")).length ≤ 5 := by
  rw [List.getD_eq_getElem?_getD]
  cases q : (wds ns)[k]? with
  | none => exact Nat.zero_le _
  | some x => exact (wds_len (List.mem_of_getElem? q)).2
theorem wds_getD_ch (ns : List Int) (k : Nat) (c : Nat) (h : c ∈ ((wds ns).getD k (Str.ofString "")).cps.toList) : c ≤ 102 := by
  rw [List.getD_eq_getElem?_getD] at h
  cases q : (wds ns)[k]? with
  | none => rw [q] at h; cases h
  | some x => rw [q] at h; exact ((wds_ok (List.mem_of_getElem? q)).ch c h).2
set_option maxHeartbeats 4000000 in
theorem lw_c {ns : List Int} {M : Nat → Int} {text : Str} {m : Nat} {L : Addr} {R : Flow → Shared → Prop} (K : LawFacts ns M text m) (hA : Rm A 30) (F : Fn w (callEnvC (fdK w.params 288) L 288) X) (hR : RetM w X (callEnvC (fdK w.params 288) L 288) s₀ [] (fun _ _ => True) (vBool true) R) :
    Bd w A X (callEnvC (fdK w.params 288) L 288) s₀ .no [("swept", vStr (Txt.join "" (sweepLines (dpsL text) (m + 2)))), ("due", vList ((linesOf (widL ns) (wds ns)).map vStr)), ("depths", vList ((dpsL text).map vInt)), ("words", vList ((wds ns).map vStr)), ("apart", vList ((aps ns).map vNN)), ("width", vInt (widL ns))] ((bodyK w.params 288).drop 10) R := by
  have hwl : (wds ns).length = 6 := by simp [wds]
  have hal := aps_len ns
  have hnl := K.nl
  have hdl : (dpsL text).length = (nmsL text).length := by simp [dpsL]
  generalize hsw : Txt.join "" (sweepLines (dpsL text) (m + 2)) = sw
  have Ksw := K.sw; rw [hsw] at Ksw
  have Ksok := K.sok; rw [hsw] at Ksok
  have Ksl := K.sl; rw [hsw] at Ksl
  have Kc1 := K.c1; rw [hsw] at Kc1
  have Kc2 := K.c2; rw [hsw] at Kc2
  have hwb := wid_bd ns
  have hwne : wds ns ≠ [] := fun e => by rw [e] at hwl; cases hwl
  have hAu := hA.u
  have hstr : ∀ y ∈ linesOf (widL ns) (wds ns), PyData.strOk y = true := fun y hy => by
    rw [K.due] at hy
    obtain ⟨k, _, rfl⟩ := List.mem_map.mp hy
    unfold PyData.strOk
    rw [Array.all_eq_true']
    intro c hc
    have hc' := Array.mem_toList_iff.mpr hc
    rw [show (Str.ofString "") = ("" : Str) from rfl, join_cl, List.mem_flatten] at hc'
    obtain ⟨l, hl, hcl⟩ := hc'
    obtain ⟨p, hp, rfl⟩ := List.mem_map.mp hl
    obtain ⟨z, _, rfl⟩ := List.mem_map.mp hp
    have e : (Str.ofString " " ++ (wds ns).getD (z.1 - 97) (Str.ofString "")).cps.toList = [32] ++ ((wds ns).getD (z.1 - 97) (Str.ofString "")).cps.toList := by
      show (_ ++ _ : Array Nat).toList = _
      rw [Array.toList_append]; rfl
    rw [e] at hcl
    rcases List.mem_append.mp hcl with h | h
    · rw [List.mem_singleton.mp h]; decide
    · have := wds_getD_ch ns (z.1 - 97) c h
      exact decide_eq_true (by omega)
  have hneq : (sw.cps.toList != (opS (wds ns) (widL ns) (wds ns).length).cps.toList) = false := by
    rw [hwl, ← Ksw]; simp
  refine bd_ifF (te_of (te_or (te_cmp (ev_call F.ok (hA.mono (by decide)) (lf_ok (ts := wds ns) (room := widL ns) (fun t ht => wds_ok ht) (by omega) hwne (fun t ht => by have := wds_len ht; omega)) (evl_cons (ev_name F.ok (x := "words") (p := vList ((wds ns).map vStr)) (.tail _ (.tail _ (.tail _ (.head _))))) (evl_cons (ev_name F.ok (x := "width") (p := vInt (widL ns)) (.tail _ (.tail _ (.tail _ (.tail _ (.tail _ (.head _))))))) evl_nil)) (by kernel_rfl) g_folded f_259) (ev_name F.ok (x := "due") (p := vList ((linesOf (widL ns) (wds ns)).map vStr)) (.tail _ (.head _))) (op_neLS (by omega) hstr)) (fun _ => te_cmp (ev_name F.ok (x := "swept") (p := vStr sw) (.head _)) (ev_call F.ok (hA.mono (by decide)) (lo_ok (ts := wds ns) (room := widL ns) (fun t ht => by have := wds_len ht; omega) (by omega)) (evl_cons (ev_name F.ok (x := "words") (p := vList ((wds ns).map vStr)) (.tail _ (.tail _ (.tail _ (.head _))))) (evl_cons (ev_name F.ok (x := "width") (p := vInt (widL ns)) (.tail _ (.tail _ (.tail _ (.tail _ (.tail _ (.head _))))))) evl_nil)) (by kernel_rfl) g_opened f_252) op_neS)) (by rw [hneq]; rfl)) (fun E => bd_then ?_)
  have hs1 := Txt.slice_le sw (some 1) none
  have hs2 : (Txt.slice sw (some 1) none).length + (Str.ofString "(").length ≤ sizeLine := by
    have e1 : (Str.ofString "(").length = 1 := rfl
    rw [e1, sizeLine_eq]; omega
  have okc : OkS (Txt.slice sw (some 1) none ++ Str.ofString "(") := (Ksok.slice).app (fun c hc => by
    have e : (Str.ofString "(").cps.toList = [40] := by decide +kernel
    rw [e] at hc; rw [List.mem_singleton.mp hc]; rfl)
  refine bd_ifF (te_of (te_or (te_cmp (ev_call F.ok (hA.mono (by decide)) (cp_ok Ksok.noq Ksok.asc) (evl_cons (ev_name F.ok (x := "swept") (p := vStr sw) (.head _)) evl_nil) (by kernel_rfl) g_check f_203) ev_bool op_isNotB) (fun _ => te_cmp (ev_call F.ok (hA.mono (by decide)) (cp_ok okc.noq okc.asc) (evl_cons (ev_bin (ev_sliceS1 (i := 1) (ev_name F.ok (x := "swept") (p := vStr sw) (.head _)) ev_int (by rw [sizeLine_eq]; omega)) ev_str (op_addS hs2)) evl_nil) (by kernel_rfl) g_check f_203) ev_bool op_isNotB)) (by rw [Kc1, Kc2]; rfl)) (fun E => bd_then ?_)
  refine bd_ret (ev_is (ev_cmp (ev_call F.ok (hA.mono (by decide)) (ln_ok (ds := dpsL text) (by omega)) (evl_cons (ev_name F.ok (x := "depths") (p := vList ((dpsL text).map vInt)) (.tail _ (.tail _ (.head _)))) evl_nil) (by kernel_rfl) g_near f_283) (ev_bin ev_int (ev_bicall F.ok (evl_cons (ev_name F.ok (x := "apart") (p := vList ((aps ns).map vNN)) (.tail _ (.tail _ (.tail _ (.tail _ (.head _)))))) evl_nil) (bi_lenM (xs := aps ns) (by omega)) (by kernel_rfl) g_len b_len) op_subI) op_eqI) ?_) hR.r0
  rw [K.near]; simp
end
end Mine
end

section
open PySem PySem.Calls PyProof.Rows PySem.W
open PySem.Builtin PySem.Builtin.List PySem.Builtin.Str
set_option Elab.async false
set_option maxRecDepth 100000
set_option linter.unusedVariables false
namespace Mine
noncomputable section
variable {w : World} {A : Around} {X : List Addr} {env : Env} {Γ : Ctxt} {s₀ : Shared} {μ μ' μ₁ : Mu}
set_option maxHeartbeats 4000000 in
theorem lw_b {ns : List Int} {M : Nat → Int} {text : Str} {m : Nat} {L : Addr} {R : Flow → Shared → Prop} (K : LawFacts ns M text m) (hA : Rm A 30) (F : Fn w (callEnvC (fdK w.params 288) L 288) X) (hR : RetM w X (callEnvC (fdK w.params 288) L 288) s₀ [] (fun _ _ => True) (vBool true) R) :
    Bd w A X (callEnvC (fdK w.params 288) L 288) s₀ .no [("depths", vList ((dpsL text).map vInt)), ("names", vList ((nmsL text).map fun c => vStr ⟨#[c]⟩)), ("words", vList ((wds ns).map vStr)), ("apart", vList ((aps ns).map vNN)), ("width", vInt (widL ns))] ((bodyK w.params 288).drop 8) R := by
  have hal := aps_len ns
  have hnl := K.nl
  have hdl : (dpsL text).length = (nmsL text).length := by simp [dpsL]
  have hm3 := K.m3
  have hdk : (Str.ofString "depths") ≠ (Str.ofString "k") := by decide +kernel
  have hnk : (Str.ofString "names") ≠ (Str.ofString "k") := by decide +kernel
  have hwk : (Str.ofString "words") ≠ (Str.ofString "k") := by decide +kernel
  have hkn : (Str.ofString "k") ≠ (Str.ofString "name") := by decide +kernel
  have hkd : (Str.ofString "k") ≠ (Str.ofString "depth") := by decide +kernel
  have hwn : (Str.ofString "words") ≠ (Str.ofString "name") := by decide +kernel
  have hwd : (Str.ofString "words") ≠ (Str.ofString "depth") := by decide +kernel
  have hnd : (Str.ofString "name") ≠ (Str.ofString "depth") := by decide +kernel
  have hwl : (wds ns).length = 6 := by simp [wds]
  refine bd_comp1 (List.range (m + 1)) (fun (k : Nat) => vInt (k : Int)) (fun (k : Nat) => vStr (Txt.join (Str.ofString "") ((((nmsL text).zip (dpsL text)).filter fun z => z.2 == (k : Int)).map fun z => Str.ofString " " ++ (wds ns).getD (z.1 - 97) (Str.ofString "")))) (fun _ => true) [("depths", vList ((dpsL text).map vInt)), ("names", vList ((nmsL text).map fun c => vStr ⟨#[c]⟩)), ("words", vList ((wds ns).map vStr))] (fun (k : Nat) => [("k", vInt (k : Int))]) F hA.h (by kernel_rfl) (src_range6 (n := m + 1) hA.h F.ok (evl_cons (ev_bin (ev_bicall F.ok (evl_cons (ev_name F.ok (x := "depths") (p := vList ((dpsL text).map vInt)) (.head _)) evl_nil) (bi_max hA.h K.m1 K.m2) (by kernel_rfl) g_max b_max) ev_int op_addI) evl_nil) (by omega) (by kernel_rfl) g_range b_range) (fun z hz => ?_) (by simp; omega)
    (fun C q hl => .name (own_name (fun C => .inr ⟨by kernel_rfl, by kernel_rfl⟩) hl)) (fun i z hz u hu => ?_) (fun Y C q _ _ _ => rfl) (fun Y C q hY hE hq _ => ?_) ?_ lw_hcl
  · simp only [List.mem_cons, List.not_mem_nil, or_false] at hz
    rcases hz with q | q | q <;> rw [q]
    · exact ⟨.head _, by kernel_rfl⟩
    · exact ⟨.tail _ (.head _), by kernel_rfl⟩
    · exact ⟨.tail _ (.tail _ (.head _)), by kernel_rfl⟩
  · rw [List.mem_singleton.mp hu]
    simp only [List.mem_cons, List.not_mem_nil, or_false] at hz
    rcases hz with q | q | q <;> rw [q]
    · exact hdk
    · exact hnk
    · exact hwk
  · refine (?_ : Ev w A Y _ _ _ (vStr (Txt.join (Str.ofString "") ((((nmsL text).zip (dpsL text)).filter fun z => z.2 == (q : Int)).map fun z => Str.ofString " " ++ (wds ns).getD (z.1 - 97) (Str.ofString "")))))
    refine ev_join ev_str ?_ ?_
    rotate_left
    · have hys : ∀ y ∈ ((((nmsL text).zip (dpsL text)).filter fun z => z.2 == (q : Int)).map fun z => Str.ofString " " ++ (wds ns).getD (z.1 - 97) (Str.ofString "")), y.length ≤ 6 := fun y hy => by
        obtain ⟨z, _, rfl⟩ := List.mem_map.mp hy
        have e1 : (Str.ofString " ").length = 1 := rfl
        have := wds_getD ns (z.1 - 97)
        rw [str_app_len, e1]; omega
      have s1 := StrLaws.sumLen_le _ hys
      have s2 := List.length_filter_le (fun z => z.2 == (q : Int)) ((nmsL text).zip (dpsL text))
      have s3 : ((nmsL text).zip (dpsL text)).length ≤ 10 := by rw [List.length_zip]; omega
      have e0 : (Str.ofString "").length = 0 := rfl
      rw [List.length_map] at s1 ⊢
      rw [e0]
      omega
    refine (ev_is (ev_comp1 ((nmsL text).zip (dpsL text)) (fun z => vTup [vStr ⟨#[z.1]⟩, vInt z.2]) (fun z => vStr (Str.ofString " " ++ (wds ns).getD (z.1 - 97) (Str.ofString ""))) (fun z => z.2 == (q : Int)) [("k", vInt (q : Int)), ("words", vList ((wds ns).map vStr))] (fun z => [("depth", vInt z.2), ("name", vStr ⟨#[z.1]⟩)]) hA.h hE (by kernel_rfl) ?_ (fun z hz => ?_) ?_ (fun C z hl => .pair (own_name (fun C => .inl (by kernel_rfl)) hl) (own_name (fun C => .inl (by kernel_rfl)) hl) hnd) (fun z u hu y hy => ?_) (fun Y C z hY2 hE2 hz => ?_) (fun Y C z hY2 hE2 hz _ => ?_)) ?_)
    · rw [← zip_map2 (fun c : Nat => vStr ⟨#[c]⟩) vInt]
      exact srcT_zip hA.h hE (evl_cons (ev_name hE (x := "names") (p := vList ((nmsL text).map fun c => vStr ⟨#[c]⟩)) (.tail _ (.tail _ (.head _)))) (evl_cons (ev_name hE (x := "depths") (p := vList ((dpsL text).map vInt)) (.tail _ (.head _))) evl_nil)) (by kernel_rfl) g_zip b_zip
    · simp only [List.mem_cons, List.not_mem_nil, or_false] at hz
      rcases hz with e | e <;> rw [e]
      · exact ⟨.head _, by kernel_rfl⟩
      · exact ⟨.tail _ (.tail _ (.tail _ (.head _))), by kernel_rfl⟩
    · rw [List.length_zip]; omega
    · simp only [List.mem_cons, List.not_mem_nil, or_false] at hu hy
      rcases hu with e | e <;> rcases hy with e' | e' <;> rw [e, e']
      · exact hkd
      · exact hkn
      · exact hwd
      · exact hwn
    · exact te_cmp (ev_name hE2 (x := "depth") (p := vInt z.2) (.head _)) (ev_name hE2 (x := "k") (p := vInt (q : Int)) (.tail _ (.tail _ (.head _)))) op_eqI
    · have hz1 := (nms_mem (List.of_mem_zip (a := z.1) (b := z.2) hz).1).2
      obtain ⟨r, hoc⟩ := abc_idx hz1
      have hzi : z.1 - 97 < (wds ns).length := by omega
      have hmem : (wds ns).getD (z.1 - 97) (Str.ofString "") ∈ wds ns := by
        rw [List.getD_eq_getElem?_getD, List.getElem?_eq_getElem hzi]
        exact List.getElem_mem hzi
      refine ev_bin ev_str (ev_idxL (k := ((z.1 - 97 : Nat) : Int)) (ev_name hE2 (x := "words") (p := vList ((wds ns).map vStr)) (.tail _ (.tail _ (.tail _ (.head _))))) (ev_index (x := abc) ev_str (ev_name hE2 (x := "name") (p := vStr ⟨#[z.1]⟩) (.tail _ (.head _))) hoc) (Int.natCast_nonneg _) (getD_str hzi) (by simp [wds])) (op_addS ?_)
      have := wds_len hmem
      have e1 : (Str.ofString " ").length = 1 := rfl
      rw [sizeLine_eq]; omega
    · rw [List.map_map]; rfl
  rw [filter_true]
  have hdue : (List.range (m + 1)).map (fun (k : Nat) => vStr (Txt.join (Str.ofString "") ((((nmsL text).zip (dpsL text)).filter fun z => z.2 == (k : Int)).map fun z => Str.ofString " " ++ (wds ns).getD (z.1 - 97) (Str.ofString "")))) = (linesOf (widL ns) (wds ns)).map vStr := by
    rw [K.due]; unfold dueL; rw [List.map_map]; rfl
  rw [hdue]
  have hls := ls_ok (w := w) (ds := dpsL text) (m := m) (by omega) K.m1 K.m2 K.m3 K.m4
  refine bd_assign F (ev_call F.ok (hA.mono (by decide)) hls (evl_cons (ev_name F.ok (x := "depths") (p := vList ((dpsL text).map vInt)) (.tail _ (.head _))) evl_nil) (by kernel_rfl) g_swept f_276) ?_
  refine bd_sub (lw_c K hA F hR) (fun z hz => ?_)
  simp only [List.mem_cons, List.not_mem_nil, or_false] at hz
  rcases hz with q | q | q | q | q | q <;> rw [q]
  · exact .head _
  · exact .tail _ (.head _)
  · exact .tail _ (.tail _ (.head _))
  · exact .tail _ (.tail _ (.tail _ (.tail _ (.head _))))
  · exact .tail _ (.tail _ (.tail _ (.tail _ (.tail _ (.head _)))))
  · exact .tail _ (.tail _ (.tail _ (.tail _ (.tail _ (.tail _ (.head _))))))
end
end Mine
end

section
open PySem PySem.Calls PyProof.Rows PySem.W
open PySem.Builtin PySem.Builtin.List PySem.Builtin.Str
set_option Elab.async false
set_option maxRecDepth 100000
set_option linter.unusedVariables false
namespace Mine
noncomputable section
variable {w : World} {A : Around} {X : List Addr} {env : Env} {Γ : Ctxt} {s₀ : Shared} {μ μ' μ₁ : Mu}
set_option maxHeartbeats 4000000 in
theorem lw_ok {ns : List Int} {M : Nat → Int} {text : Str} {m : Nat} (hn : ns.length ≤ 63) (K : LawFacts ns M text m) : FnOK w 31 288 [vList (ns.map vInt)] (vBool true) := by
  refine fn_intro (ns := ["script"]) law_B rfl lim_K law_bind fun X A L s₀ R hA F hR => ?_
  have hsc : (Str.ofString "script") ≠ (Str.ofString "j") := by decide +kernel
  refine bd_assign F (ev_is (ev_comp1 (List.range 6) (fun (j : Nat) => vInt (j : Int)) (fun (j : Nat) => vInt (numL ns j)) (fun _ => true) [("script", vList (ns.map vInt))] (fun (j : Nat) => [("j", vInt (j : Int))]) hA.h F.ok (by kernel_rfl) (src_range6 (n := 6) hA.h F.ok (evl_cons ev_int evl_nil) (by decide) (by kernel_rfl) g_range b_range) (one_vis (.head _) (by kernel_rfl)) (by decide)
    (fun C q hl => .name (own_name (fun C => .inl (by kernel_rfl)) hl)) (one_ne hsc) (fun Y C q _ _ _ => rfl) (fun Y C q hY hE hq _ => ?_)) (q := vList ((nums ns).map vInt)) ?_) ?_ (by kernel_rfl) (by kernel_rfl)
  · have hq6 : q < 6 := by simpa using hq
    refine ev_bin (ev_idxT (ps := tabN.map vInt) (k := (q : Int)) (ev_tup (evl_cons ev_int (evl_cons ev_int (evl_cons ev_int (evl_cons ev_int (evl_cons ev_int (evl_cons ev_int evl_nil))))))) (ev_name hE (x := "j") (.head _)) (Int.natCast_nonneg _) (getD_get (by exact hq6)) (by decide)) (ev_if (te_cmp (ev_name hE (x := "j") (p := vInt (q : Int)) (.head _)) (ev_bicall hE (evl_cons (ev_name hE (x := "script") (p := vList (ns.map vInt)) (.tail _ (.head _))) evl_nil) (bi_lenM (xs := ns) (by omega)) (by kernel_rfl) g_len b_len) op_ltI) (fun hc => ?_) (fun hc => ?_)) op_addI
    · rw [if_pos hc]
      exact ev_idxL (k := (q : Int)) (ev_name hE (x := "script") (p := vList (ns.map vInt)) (.tail _ (.head _))) (ev_name hE (x := "j") (.head _)) (Int.natCast_nonneg _) (getD_get (by have := of_decide_eq_true hc; omega)) (by simp; omega)
    · rw [if_neg (by rw [hc]; decide)]
      exact ev_int
  · rw [filter_true]; unfold nums; rw [List.map_map]; rfl
  refine bd_assign F (ev_bin ev_int (ev_bin (ev_bin ev_int (ev_bicall F.ok (evl_cons (ev_is (ev_sliceL0 (j := 6) (ev_name F.ok (x := "script") (p := vList (ns.map vInt)) (.tail _ (.head _))) ev_int (by simp; rw [sizeLine_eq]; omega)) (by rw [← List.map_take])) evl_nil) (bi_sum (ns := ns.take 6) hA.h) (by kernel_rfl) g_sum b_sum) op_addI) ev_int (op_modI (by decide)) ) op_addI) ?_
  have hnw : (Str.ofString "numbers") ≠ (Str.ofString "j") := by decide +kernel
  refine bd_assign F (ev_is (ev_comp1 (List.range 6) (fun (j : Nat) => vInt (j : Int)) (fun (j : Nat) => vStr (wdL ns j)) (fun _ => true) [("numbers", vList ((nums ns).map vInt))] (fun (j : Nat) => [("j", vInt (j : Int))]) hA.h F.ok (by kernel_rfl) (src_range6 (n := 6) hA.h F.ok (evl_cons ev_int evl_nil) (by decide) (by kernel_rfl) g_range b_range) (one_vis (.tail _ (.head _)) (by kernel_rfl)) (by decide)
    (fun C q hl => .name (own_name (fun C => .inl (by kernel_rfl)) hl)) (one_ne hnw) (fun Y C q _ _ _ => rfl) (fun Y C q hY hE hq _ => ?_)) (q := vList ((wds ns).map vStr)) ?_) ?_ (by kernel_rfl) (by kernel_rfl)
  · have hq6 : q < 6 := by simpa using hq
    have hlb := lenL_bd ns q
    have hnq : (nums ns).getD q 0 = numL ns q := by unfold nums; rw [List.getD_eq_getElem?_getD, List.getElem?_map, List.getElem?_range hq6]; rfl
    refine ev_bin (ev_is (ev_idxS (k := (q : Int)) (x := abc) ev_str (ev_name hE (x := "j") (p := vInt (q : Int)) (.head _)) (by unfold fitsSsize; simp; omega) (item_abc hq6).2) (q := vStr (ltr q)) (by rw [(item_abc hq6).1])) (ev_bin ev_int (ev_bin (ev_is (ev_idxL (k := (q : Int)) (ev_name hE (x := "numbers") (p := vList ((nums ns).map vInt)) (.tail _ (.head _))) (ev_name hE (x := "j") (.head _)) (Int.natCast_nonneg _) (getD_get (by simp [nums]; omega)) (by simp [nums])) (q := vInt (numL ns q)) (by rw [hnq])) ev_int (op_modI (by decide))) op_addI) (op_mulS (mulOk_one (by unfold lenL at hlb; omega) (by unfold lenL at hlb; omega)))
  · rw [filter_true]; unfold wds; rw [List.map_map]; rfl
  refine bd_sub (Δ := [("words", vList ((wds ns).map vStr)), ("width", vInt (widL ns)), ("numbers", vList ((nums ns).map vInt))]) ?_ (fun z hz => by
    simp only [List.mem_cons, List.not_mem_nil, or_false] at hz
    rcases hz with q | q | q <;> rw [q]
    · exact .head _
    · exact .tail _ (.head _)
    · exact .tail _ (.tail _ (.head _)))
  have hij : (Str.ofString "j") ≠ (Str.ofString "i") := by decide +kernel
  have hwj : (Str.ofString "width") ≠ (Str.ofString "j") := by decide +kernel
  have hsj : (Str.ofString "words") ≠ (Str.ofString "j") := by decide +kernel
  have hwi : (Str.ofString "width") ≠ (Str.ofString "i") := by decide +kernel
  have hsi : (Str.ofString "words") ≠ (Str.ofString "i") := by decide +kernel
  have hfl : ((List.range 6).map fun j => ((List.range j).map fun i => if far ns i j then [vNN (i, j)] else []).flatten).flatten = (aps ns).map vNN := by
    unfold aps
    rw [List.map_flatten, List.map_map]
    congr 1
    refine List.map_congr_left fun j _ => ?_
    rw [flat_filter (fun i => far ns i j) (fun i => vNN (i, j))]
    show _ = List.map vNN (List.map _ _)
    rw [List.map_map]; rfl
  refine bd_assign F (ev_is (ev_comp ((List.range 6).map fun (j : Nat) => vInt (j : Int)) ((List.range 6).map fun j => ((List.range j).map fun i => if far ns i j then [vNN (i, j)] else []).flatten) [("width", vInt (widL ns)), ("words", vList ((wds ns).map vStr))] hA.h F.ok (by kernel_rfl) (src_range6 (n := 6) hA.h F.ok (evl_cons ev_int evl_nil) (by decide) (by kernel_rfl) g_range b_range) (fun z hz => ?_) (by simp) ?_ (fun Y D C i q out hY hE hl hq ho => ?_)) (q := vList ((aps ns).map vNN)) (by rw [hfl])) ?_ (by kernel_rfl) (by kernel_rfl)
  · simp only [List.mem_cons, List.not_mem_nil, or_false] at hz
    rcases hz with q | q <;> rw [q]
    · exact ⟨.tail _ (.head _), by kernel_rfl⟩
    · exact ⟨.head _, by kernel_rfl⟩
  · rw [hfl, List.length_map]; have := aps_len ns; omega
  · rw [List.getElem?_map, Option.map_eq_some_iff] at hq ho
    obtain ⟨j, hj, rfl⟩ := hq
    obtain ⟨j', hj', rfl⟩ := ho
    rw [hj] at hj'; cases hj'
    obtain ⟨rfl, hj6⟩ := range_get hj
    refine ⟨[("j", vInt (j : Int))], true, .name (own_name (fun C => .inl (by kernel_rfl)) hl), fun z hz y hy => ?_, rfl, fun _ => ?_, fun h => nomatch h⟩
    · simp only [List.mem_cons, List.not_mem_nil, or_false] at hz hy
      rw [hy]
      rcases hz with q | q <;> rw [q]
      · exact hwj
      · exact hsj
    · refine in_next ((List.range j).map fun (i : Nat) => vInt (i : Int)) ((List.range j).map fun i => if far ns i j then [vNN (i, j)] else []) hA.h rfl (fun g' h => nomatch h) (fun Z hZ => src_range6 (n := j) hA.h hE (evl_cons (ev_name hE (x := "j") (p := vInt (j : Int)) (.head _)) evl_nil) (by omega) (by kernel_rfl) g_range b_range) (by simp) (fun Z i2 q2 out2 hZ hq2 ho2 => ?_)
      rw [List.getElem?_map, Option.map_eq_some_iff] at hq2 ho2
      obtain ⟨a, ha, rfl⟩ := hq2
      obtain ⟨a', ha', rfl⟩ := ho2
      rw [ha] at ha'; cases ha'
      obtain ⟨rfl, haj⟩ := range_get ha
      refine ⟨[("i", vInt (a : Int))], far ns a j, .name (own_name (fun C => .inl (by kernel_rfl)) hl), fun z hz y hy => ?_, ?_, fun ht => ?_, fun ht => by rw [if_neg (by rw [ht]; decide)]⟩
      · simp only [List.singleton_append, List.mem_cons, List.not_mem_nil, or_false] at hz hy
        rw [hy]
        rcases hz with q | q | q <;> rw [q]
        · exact hij
        · exact hwi
        · exact hsi
      · show Te w A Z _ _ _ _
        have hwl : (wds ns).length = 6 := by simp [wds]
        refine te_cmp (ev_bicall hE (evl_cons (ev_is (ev_comp1 (((wds ns).drop a).take (j + 1 - a)) vStr (fun t => vInt ((t.length : Int) + 1)) (fun _ => true) [] (fun t => [("word", vStr t)]) hA.h hE (by kernel_rfl) (srcT_of hA.h (src_list (ev_is (ev_sliceLL (i := a) (j := j + 1) (ev_name hE (x := "words") (p := vList ((wds ns).map vStr)) (.tail _ (.tail _ (.tail _ (.head _))))) (ev_name hE (x := "i") (p := vInt (a : Int)) (.head _)) (ev_bin (ev_name hE (x := "j") (p := vInt (j : Int)) (.tail _ (.head _))) ev_int op_addI) (by omega) (by simp [hwl]; omega) (by simp [hwl]; rw [sizeLine_eq]; omega)) (by rw [← List.map_drop, ← List.map_take])))) (fun z hz => nomatch hz) ?_ (fun C q hl => .name (own_name (fun C => .inl (by kernel_rfl)) hl)) (fun q z hz => nomatch hz) (fun Y C q _ _ _ => rfl) (fun Y C q hY hE2 hq _ => ?_)) (q := vList ((segL ns a j).map vInt)) ?_) evl_nil) (bi_sum (ns := segL ns a j) hA.h) (by kernel_rfl) g_sum b_sum) (ev_name hE (x := "width") (p := vInt (widL ns)) (.tail _ (.tail _ (.head _)))) op_gtI
        · have := List.length_take_le (j + 1 - a) ((wds ns).drop a); omega
        · have hqw : q ∈ wds ns := List.mem_of_mem_drop (List.mem_of_mem_take hq)
          have hql := wds_len hqw
          exact ev_bin (ev_bicall hE2 (evl_cons (ev_name hE2 (x := "word") (p := vStr q) (.head _)) evl_nil) (bi_lenS (by omega)) (by kernel_rfl) g_len b_len) ev_int op_addI
        · rw [filter_true]; unfold segL; rw [List.map_map]; rfl
      · rw [if_pos ht]
        exact in_emit fun Z2 hZ2 => ev_tup (evl_cons (ev_name hE (x := "i") (p := vInt (a : Int)) (.head _)) (evl_cons (ev_name hE (x := "j") (p := vInt (j : Int)) (.tail _ (.head _))) evl_nil))
  have hG : ∀ z ∈ ([("apart", vList ((aps ns).map vNN)), ("words", vList ((wds ns).map vStr)), ("width", vInt (widL ns)), ("numbers", vList ((nums ns).map vInt))] : Ctxt), z ∈ (("apart", vList ((aps ns).map vNN)) :: dropN "apart" [("words", vList ((wds ns).map vStr)), ("width", vInt (widL ns)), ("numbers", vList ((nums ns).map vInt))] : Ctxt) := fun z hz => hz
  refine bd_sub (Δ := [("apart", vList ((aps ns).map vNN)), ("words", vList ((wds ns).map vStr)), ("width", vInt (widL ns)), ("numbers", vList ((nums ns).map vInt))]) ?_ hG
  have haj : (Str.ofString "apart") ≠ (Str.ofString "j") := by decide +kernel
  have hji : (Str.ofString "j") ≠ (Str.ofString "i") := by decide +kernel
  have hjk : (Str.ofString "j") ≠ (Str.ofString "k") := by decide +kernel
  have hik : (Str.ofString "i") ≠ (Str.ofString "k") := by decide +kernel
  have hal := aps_len ns
  refine bd_comp1 (List.range 6) (fun (j : Nat) => vInt (j : Int)) (fun (j : Nat) => vInt (M j)) (fun _ => true) [("apart", vList ((aps ns).map vNN))] (fun (j : Nat) => [("j", vInt (j : Int))]) F hA.h (by kernel_rfl) (src_range6 (n := 6) hA.h F.ok (evl_cons ev_int evl_nil) (by decide) (by kernel_rfl) g_range b_range) (one_vis (.head _) (by kernel_rfl)) (by decide)
    (fun C q hl => .name (own_name (fun C => .inr ⟨by kernel_rfl, by kernel_rfl⟩) hl)) (one_ne haj) (fun Y C q _ _ _ => rfl) (fun Y C q hY hE hq _ => ?_) ?_ lw_hcl
  · have hq6 : q < 6 := by simpa using hq
    refine ev_bicall hE (evl_cons (ev_is (ev_bin (ev_list (evl_cons (ev_neg ev_int) evl_nil)) (ev_comp1 (aps ns) vNN (fun z => vInt (z.1 : Int)) (fun z => z.2 == q) [("j", vInt (q : Int))] (fun z => [("k", vInt (z.2 : Int)), ("i", vInt (z.1 : Int))]) hA.h hE (by kernel_rfl) (srcT_of hA.h (src_list (ev_name hE (x := "apart") (p := vList ((aps ns).map vNN)) (.tail _ (.head _))))) (one_vis (.head _) (by kernel_rfl)) (by omega) (fun C z hl => .pair (own_name (fun C => .inl (by kernel_rfl)) hl) (own_name (fun C => .inl (by kernel_rfl)) hl) hik) (fun z u hu y hy => ?_) (fun Y C z hY2 hE2 hz => ?_) (fun Y C z hY2 hE2 hz _ => ev_name hE2 (x := "i") (p := vInt (z.1 : Int)) (.tail _ (.head _)))) (op_addL ?_)) (q := vList (((-1 : Int) :: ((aps ns).filter fun z => z.2 == q).map fun z => (z.1 : Int)).map vInt)) ?_) evl_nil) (bi_max hA.h (K.M1 q hq6) (K.M2 q hq6)) (by kernel_rfl) g_max b_max
    · simp only [List.mem_cons, List.not_mem_nil, or_false] at hu hy
      rw [hu]
      rcases hy with e | e <;> rw [e]
      · exact hjk
      · exact hji
    · exact te_of (te_cmp (ev_name hE2 (x := "k") (p := vInt (z.2 : Int)) (.head _)) (ev_name hE2 (x := "j") (p := vInt (q : Int)) (.tail _ (.tail _ (.head _)))) op_eqI) (natbeq _ _)
    · have := List.length_filter_le (fun z : Nat × Nat => z.2 == q) (aps ns)
      simp only [List.length_map, List.length_cons, List.length_nil]
      rw [sizeLine_eq]; omega
    · rw [List.map_cons, List.map_map]; rfl
  rw [filter_true]
  have hMp : (List.range 6).map (fun (j : Nat) => vInt (M j)) = ((List.range 6).map M).map vInt := by rw [List.map_map]; rfl
  rw [hMp]
  refine bd_sub (Δ := [("parents", vList (((List.range 6).map M).map vInt)), ("apart", vList ((aps ns).map vNN)), ("words", vList ((wds ns).map vStr)), ("width", vInt (widL ns)), ("numbers", vList ((nums ns).map vInt))]) ?_ (fun z hz => hz)
  have hMg : ∀ j, j < 6 → ((List.range 6).map M).getD j 0 = M j := fun j hj => by
    rw [List.getD_eq_getElem?_getD, List.getElem?_map, List.getElem?_range hj]; rfl
  have hwr := wr_ok (w := w) (lab := (List.range 6).map (labL ns)) (hang := (List.range 6).map M) (by simp) (by simp) (fun x hx => by
    obtain ⟨j, _, rfl⟩ := List.mem_map.mp hx
    exact labL_len ns j) (fun j hj => by
    have hj6 : j < 6 := by simpa using hj
    rw [hMg j hj6]; exact K.M3 j hj6) 6 (-1) (by decide) (by simp)
  rw [← K.tx] at hwr
  have htl : text.length ≤ 1700000 := by
    rw [K.tx]
    exact Nat.le_trans (writ_len (by simp) (fun x hx => by
      obtain ⟨j, _, rfl⟩ := List.mem_map.mp hx
      exact labL_len ns j) 7 (-1)) (writB7 7 (by decide))
  refine bd_assign F (ev_call F.ok (hA.mono (by decide)) hwr (evl_cons (ev_is (ev_comp1 (List.range 6) (fun (j : Nat) => vInt (j : Int)) (fun (j : Nat) => vStr (labL ns j)) (fun _ => true) [("numbers", vList ((nums ns).map vInt))] (fun (j : Nat) => [("j", vInt (j : Int))]) hA.h F.ok (by kernel_rfl) (src_range6 (n := 6) hA.h F.ok (evl_cons ev_int evl_nil) (by decide) (by kernel_rfl) g_range b_range) (one_vis (.tail _ (.tail _ (.tail _ (.tail _ (.head _))))) (by kernel_rfl)) (by decide)
    (fun C q hl => .name (own_name (fun C => .inl (by kernel_rfl)) hl)) (one_ne hnw) (fun Y C q _ _ _ => rfl) (fun Y C q hY hE hq _ => ?_)) (q := vList (((List.range 6).map (labL ns)).map vStr)) ?_) (evl_cons (ev_name F.ok (x := "parents") (p := vList (((List.range 6).map M).map vInt)) (.head _)) (evl_cons (ev_neg ev_int) evl_nil))) (by kernel_rfl) g_written f_264) ?_
  · have hq6 : q < 6 := by simpa using hq
    have hnq : (nums ns).getD q 0 = numL ns q := by unfold nums; rw [List.getD_eq_getElem?_getD, List.getElem?_map, List.getElem?_range hq6]; rfl
    refine ev_bin (p := vStr (if (numL ns q).fmod 2 == 1 then Str.ofString "\\)" else Str.ofString "")) (ev_if (te_cmp (ev_bin (ev_is (ev_idxL (k := (q : Int)) (ev_name hE (x := "numbers") (p := vList ((nums ns).map vInt)) (.tail _ (.head _))) (ev_name hE (x := "j") (.head _)) (Int.natCast_nonneg _) (getD_get (by simp [nums]; omega)) (by simp [nums])) (q := vInt (numL ns q)) (by rw [hnq])) ev_int (op_modI (by decide))) ev_int op_eqI) (fun hc => by rw [if_pos hc]; exact ev_str) (fun hc => by rw [if_neg (by rw [hc]; decide)]; exact ev_str)) (ev_is (ev_idxS (k := (q : Int)) (x := abc) ev_str (ev_name hE (x := "j") (p := vInt (q : Int)) (.head _)) (by unfold fitsSsize; simp; omega) (item_abc hq6).2) (q := vStr (ltr q)) (by rw [(item_abc hq6).1])) (op_addS ?_)
    have e1 := labL_len ns q
    unfold labL at e1
    rw [str_app_len] at e1
    rw [sizeLine_eq]; omega
  · rw [filter_true, List.map_map]; rfl
  refine bd_sub (Δ := [("text", vStr text), ("words", vList ((wds ns).map vStr)), ("apart", vList ((aps ns).map vNN)), ("width", vInt (widL ns))]) ?_ (fun z hz => ?_)
  rotate_left
  · simp only [List.mem_cons, List.not_mem_nil, or_false] at hz
    rcases hz with q | q | q | q <;> rw [q]
    · exact .head _
    · exact .tail _ (.tail _ (.tail _ (.head _)))
    · exact .tail _ (.tail _ (.head _))
    · exact .tail _ (.tail _ (.tail _ (.tail _ (.head _))))
  have htl2 : text.cps.toList.length ≤ 1000000 := by
    have h1 := K.tl
    rw [len_cl] at h1; omega
  refine bd_assign F (ev_is (ev_comp1 text.cps.toList (fun c => vStr ⟨#[c]⟩) (fun c => vStr ⟨#[c]⟩) (fun c => Txt.contains abc ⟨#[c]⟩) [] (fun c => [("letter", vStr ⟨#[c]⟩)]) hA.h F.ok (by kernel_rfl) (srcT_of hA.h (src_str (ev_name F.ok (x := "text") (p := vStr text) (.head _)))) (fun z hz => nomatch hz) htl2 (fun C q hl => .name (own_name (fun C => .inl (by kernel_rfl)) hl)) (fun q z hz => nomatch hz) (fun Y C q hY hE hq => te_cmp (ev_name hE (x := "letter") (p := vStr ⟨#[q]⟩) (.head _)) ev_str op_inS) (fun Y C q hY hE hq _ => ev_name hE (x := "letter") (p := vStr ⟨#[q]⟩) (.head _))) (q := vList ((nmsL text).map fun c => vStr ⟨#[c]⟩)) rfl) ?_ (by kernel_rfl) (by kernel_rfl)
  have hnl := K.nl
  have hdl : (dpsL text).length = (nmsL text).length := by simp [dpsL]
  have hxn : (Str.ofString "text") ≠ (Str.ofString "name") := by decide +kernel
  refine bd_assign F (ev_is (ev_comp1 (nmsL text) (fun c => vStr ⟨#[c]⟩) (fun c => vInt (dptL text c)) (fun _ => true) [("text", vStr text)] (fun c => [("name", vStr ⟨#[c]⟩)]) hA.h F.ok (by kernel_rfl) (srcT_of hA.h (src_list (ev_name F.ok (x := "names") (p := vList ((nmsL text).map fun c => vStr ⟨#[c]⟩)) (.head _)))) (one_vis (.tail _ (.head _)) (by kernel_rfl)) (by omega) (fun C q hl => .name (own_name (fun C => .inl (by kernel_rfl)) hl)) (one_ne hxn) (fun Y C q _ _ _ => rfl) (fun Y C q hY hE hq _ => ?_)) (q := vList ((dpsL text).map vInt)) ?_) ?_ (by kernel_rfl) (by kernel_rfl)
  · obtain ⟨hqt, _⟩ := nms_mem hq
    obtain ⟨r, hoc⟩ := occ_pos hqt
    have hsl := Txt.slice_le text none (some (posL text q : Int))
    refine ev_call hE (hA.mono (by decide)) (ld_ok (K.ok.slice (l := none) (u := some (posL text q : Int))) (by have := K.tl; omega)) (evl_cons (ev_sliceS0 (j := (posL text q : Int)) (ev_name hE (x := "text") (p := vStr text) (.tail _ (.head _))) (ev_index (ev_name hE (x := "text") (p := vStr text) (.tail _ (.head _))) (ev_name hE (x := "name") (p := vStr ⟨#[q]⟩) (.head _)) hoc) (by rw [sizeLine_eq]; omega)) evl_nil) (by kernel_rfl) g_depth f_271
  · rw [filter_true]; unfold dpsL; rw [List.map_map]; rfl
  refine bd_sub (lw_b K hA F hR) (fun z hz => ?_)
  · simp only [List.mem_cons, List.not_mem_nil, or_false] at hz
    rcases hz with q | q | q | q | q <;> rw [q]
    · exact .head _
    · exact .tail _ (.head _)
    · exact .tail _ (.tail _ (.tail _ (.head _)))
    · exact .tail _ (.tail _ (.tail _ (.tail _ (.head _))))
    · exact .tail _ (.tail _ (.tail _ (.tail _ (.tail _ (.head _)))))
end
end Mine
end

section
open PySem PySem.Calls PyProof.Rows PySem.W
open PySem.Builtin PySem.Builtin.List PySem.Builtin.Str
set_option Elab.async false
set_option maxRecDepth 100000
set_option linter.unusedVariables false
namespace Mine
noncomputable section
variable {w : World}

noncomputable def codeB (P : Params) (c t : Addr) : Bool := match KO P c with
  | some ⟨.type nm, _, .fields vs, _⟩ => nm == "code" && (match (vs[11]? : Option Value) with | some (Value.ref p) => p == t | _ => false) && (match vs.getD 11 Value.none with | .ref p => p == t | _ => false) && (match vs.getD 18 .none with | .str _ _ => true | _ => false) && (match vs.getD 7 .none with | .int _ _ => true | _ => false) && (match vs.getD 9 .none with | .bool _ => true | _ => false) && (match vs.getD 10 .none with | .int _ _ => true | _ => false)
  | _ => false
theorem c144 : codeB w.params 144 140 = true := by kernel_rfl
theorem c151 : codeB w.params 151 147 = true := by kernel_rfl
theorem t140 : KO w.params 140 = some { cls := .none, data := .fields #[] } := by kernel_rfl
theorem t147 : KO w.params 147 = some { cls := .none, data := .fields #[] } := by kernel_rfl
theorem tab_of {h : Heap} {c t : Addr} {i j : Int} (KX : (KK w.params).In h) (hc : codeB w.params c t = true) (ht : KO w.params t = some { cls := .none, data := .fields #[] }) (hne : c ≠ t) : TabAt h t c i j := by
  have gt := KX t _ ht
  unfold codeB at hc
  split at hc
  · rename_i nm d vs sl he
    have gc := KX c _ he
    simp only [Bool.and_eq_true] at hc
    obtain ⟨⟨⟨⟨⟨⟨h1, h2⟩, h3⟩, h4⟩, h5⟩, h6⟩, h7⟩ := hc
    have e1 : nm = "code" := by simpa using h1
    subst e1
    have e2 : vs[11]? = some (.ref t) := by
      split at h2
      · rename_i p hp; rw [hp]; rw [beq_iff_eq.mp h2]
      · cases h2
    have e3 : vs.getD 11 .none = .ref t := by
      split at h3
      · rename_i p hp; rw [hp]; rw [beq_iff_eq.mp h3]
      · cases h3
    obtain ⟨f, tf, e4⟩ : ∃ f tf, vs.getD 18 .none = .str f tf := by
      split at h4
      · rename_i p q hp; exact ⟨_, _, hp⟩
      · cases h4
    obtain ⟨fl, tg, e5⟩ : ∃ f tf, vs.getD 7 .none = .int f tf := by
      split at h5
      · rename_i p q hp; exact ⟨_, _, hp⟩
      · cases h5
    obtain ⟨b, e6⟩ : ∃ b, vs.getD 9 .none = .bool b := by
      split at h6
      · rename_i p hp; exact ⟨_, hp⟩
      · cases h6
    obtain ⟨x, tx, e7⟩ : ∃ f tf, vs.getD 10 .none = .int f tf := by
      split at h7
      · rename_i p q hp; exact ⟨_, _, hp⟩
      · cases h7
    refine ⟨#[], ⟨⟨_, _, gc, rfl, rfl, e2⟩, gt⟩, ⟨_, _, _, _, _, _, _, _, _, _, gc, rfl, e3, e4, e5, e6, e7, gt, rfl, ?_, hne⟩, .inl rfl⟩
    trivial
  · cases hc
theorem inv_start {s : Shared} (KX : (KK w.params).In s.heap) (hg : s.gens = #[]) : Inv w s :=
  ⟨fun a o _ _ e => KX a o e, tab_of KX c144 t140 (by decide), tab_of KX c151 t147 (by decide), .of_eq hg⟩
theorem oldK_of {s s' : Shared} (KX : (KK w.params).In s.heap) (I : Inv w s') (G : Gr s s') : OldK s.heap s'.heap := by
  have i1 : ∃ c, s.heap.TableAt c T1 #[] := by
    obtain ⟨ps, h1, h2, _⟩ := tab_of (i := 0) (j := 0) KX c144 t140 (by decide)
    have := KX T1 _ t140
    have e : ps = #[] := by
      have := Option.some.inj (h1.2.symm.trans this)
      injection this with _ _ h3; injection h3
    exact ⟨144, e ▸ h1⟩
  have i2 : ∃ c, s.heap.TableAt c T2 #[] := by
    obtain ⟨ps, h1, h2, _⟩ := tab_of (i := 0) (j := 0) KX c151 t147 (by decide)
    have := KX T2 _ t147
    have e : ps = #[] := by
      have := Option.some.inj (h1.2.symm.trans this)
      injection this with _ _ h3; injection h3
    exact ⟨151, e ▸ h1⟩
  have key : ∀ t, (∃ c, s.heap.TableAt c t #[]) → (∃ c ps, s'.heap.TableAt c t ps) → ∀ o, s.heap.get? t = some o → asItWas s.heap s'.heap t o := fun t h1 h2 o ho => by
    obtain ⟨c, h1⟩ := h1
    obtain ⟨c', ps, h2⟩ := h2
    have e : o = { cls := .none, data := .fields #[] } := Option.some.inj (ho.symm.trans h1.2)
    subst e
    exact .inr (.inl ⟨h1.isCodeTable, rfl, #[], ps, rfl, by rw [h2.2]; simp⟩)
  refine ⟨fun b o e => ?_, fun b o e => ?_⟩
  · by_cases h1 : b = T1
    · subst h1
      obtain ⟨ps, h, _⟩ := I.t1
      exact key _ i1 ⟨_, ps, h⟩ o e
    · by_cases h2 : b = T2
      · subst h2
        obtain ⟨ps, h, _⟩ := I.t2
        exact key _ i2 ⟨_, ps, h⟩ o e
      · exact .inl (G.keep b o e h1 h2)
  · by_cases h1 : b = T1
    · subst h1; exact I.t1.ex.2
    · by_cases h2 : b = T2
      · subst h2; exact I.t2.ex.2
      · exact ⟨o, G.keep b o e h1 h2⟩
end
end Mine
end

section
open PySem PySem.Calls PyProof.Rows PySem.W
open PySem.Builtin PySem.Builtin.List PySem.Builtin.Str
set_option Elab.async false
set_option maxRecDepth 100000
set_option linter.unusedVariables false
namespace Mine
noncomputable section
variable {w : World}
theorem all2_ints {g : Heap} : ∀ {ns : List Int} {vs : List Value}, IntsAre vs ns → All2 g (ns.map vInt) vs
  | _, _, .nil => trivial
  | _, _, .cons n t h => ⟨⟨t, rfl⟩, all2_ints h⟩
theorem rm_caller : Rm callerA 31 := ⟨rfl, by decide +kernel, by decide +kernel⟩
theorem fin_ok {s₁ : Shared} {a : Addr} {vs : List Value} {ns : List Int} {c : ClaimW} {cl : Str → Option Addr} {mean : ExcName → Option Value} {args : List WData} {E : Value → Shared → Prop} (KX : (KK w.params).In s₁.heap) (hg : s₁.gens = #[]) (hL : s₁.heap.IsList a vs.toArray) (hI : IntsAre vs ns) (F : FnOK w 31 288 [vList (ns.map vInt)] (vBool true))
    (hr : ∀ cls, c.raises args cls = false) (hp : c.post args (.bool true) args = true) : wpAny (model PG w) callerA (call (.ref 288) [.ref a]) (fun v s' => GoodWG c cl mean args s₁ (.ok (.ret v)) s') E s₁ := by
  have I := inv_start KX hg
  have g1 := KX T1 _ t140
  have g2 := KX T2 _ t147
  obtain ⟨o, ho, hc, n, hd⟩ := hL
  have haX : a ∉ [T1, T2] := fun m => by
    simp only [List.mem_cons, List.not_mem_nil, or_false] at m
    rcases m with e | e <;> subst e
    · rw [g1] at ho; cases ho; cases hc
    · rw [g2] at ho; cases ho; cases hc
  have B : Bel [T1, T2] s₁ := ⟨fun x hx => by
    simp only [List.mem_cons, List.not_mem_nil, or_false] at hx
    rcases hx with e | e <;> subst e
    · exact ⟨_, g1⟩
    · exact ⟨_, g2⟩, .head _, .tail _ (.head _)⟩
  refine wpAny_call (F [T1, T2] callerA s₁ _ [.ref a] rm_caller I B ⟨⟨a, o, n, vs.toArray, rfl, hideAll_get _ ho haX, hc, hd, ?_⟩, trivial⟩ fun v s' I' G' hv => ?_)
  · exact all2_ints hI
  · have hv' : v = .bool true := hv
    subst hv'
    exact ⟨.inl ⟨_, .bool true, [], rfl, hr, .bool true, hp, fun _ => ⟨.nil, fun _ ha => nomatch ha⟩⟩, oldK_of KX I' G', G'.os, I'.bare⟩
set_option maxHeartbeats 8000000 in
theorem whole (facts : ∀ ns : List Int, ∃ M text m, LawFacts ns M text m) : PySem.Challenge.rw_xp0034_01.Holds := by
  w_on
  refine holds_law said_ok fun said => ?_
  refine holds_open (q := qv) (loose := lo) (Xt := xt) (XP := XL qv []) (Yf := Hook.obs (kHook d.heap_1 KA KA_ok)) (Ya := Hook.val (kHook d.heap_1 KA KA_ok)) (YP := Hook.says (kHook d.heap_1 KA KA_ok)) (N := 3262) left (Hook.of (kHook d.heap_1 KA KA_ok)) (Hook.keeps (kHook d.heap_1 KA KA_ok)) (fun s e => xl_of s (Bool.and_eq_true_iff.mp e).1) XL.keeps (by rfl) (by rfl) (by rfl) (fun s e => recFacts_of (Bool.and_eq_true_iff.mp e).2) (by rfl) said opens_ok bare_ok ?hw ?hc
  case hw => w_witness2
  k_fill
  intro w s₀ s₁ mg mb G Y fa o pm cd doc dV kV ho hd hcd hD hmg hg args vals as hpre hlay hrd hwl hlo
  have KX := kIn_of Y
  refine Ground.open G ?_
  intro T B D TE TW
  wrow_args hpre hlay hrd hwl hlo
  x_fa T KX hmg
  rename_i ns hs hly hLy hrr hl2 a4 a3 a vs a0 hL ra w1 r0 hI hr hc1 hc2
  have hpost : PySem.Challenge.rw_xp0034_01.row.claim.post [ofPy (PyData.list (List.map PyData.int ns))] (WData.bool true) [ofPy (PyData.list (List.map PyData.int ns))] = true := by
    first | rfl | wrow_post
  obtain ⟨M, text, m, K⟩ := facts ns
  exact fin_ok KX hg hL hI (lw_ok (by omega) K) (fun _ => rfl) hpost
end
end Mine
end

section
open PySem PySem.Calls PyProof.Rows PySem.W
open PySem.Builtin PySem.Builtin.List PySem.Builtin.Str
set_option Elab.async false
set_option maxRecDepth 100000
set_option linter.unusedVariables false
namespace Mine

/-! ### the pattern of what lies apart, and what hangs on it alone -/
inductive Sym where
  | O
  | C
  | L (j : Nat)
  | E (j : Nat)
/-- a number for a sign -/
noncomputable def symN : Sym → Nat
  | .O => 0
  | .C => 1
  | .L j => 2 * j + 2
  | .E j => 2 * j + 3
theorem symN_inj : ∀ {a b : Sym}, symN a = symN b → a = b := by
  intro a b h
  cases a <;> cases b <;> simp only [symN] at h <;> first | rfl | omega | (congr 1; omega)
theorem symNs_inj : ∀ {a b : List Sym}, a.map symN = b.map symN → a = b
  | [], [], _ => rfl
  | [], _ :: _, h => by cases h
  | _ :: _, [], h => by cases h
  | x :: a, y :: b, h => by
    rw [List.map_cons, List.map_cons, List.cons.injEq] at h
    rw [symN_inj h.1, symNs_inj h.2]
noncomputable def chkS : Int → List Sym → Option Int
  | o, [] => some o
  | o, .O :: r => chkS (o + 1) r
  | o, .C :: r => if o - 1 < 0 then none else chkS (o - 1) r
  | o, .L _ :: r => chkS o r
  | o, .E _ :: r => chkS o r
noncomputable def chkB (S : List Sym) : Bool := match chkS 0 S with | none => false | some o => o == 0
noncomputable def depthS (pre : List Sym) : Int := match (List.range 7).find? (fun k => chkB (pre ++ List.replicate (k + 1) .C)) with | some k => (k : Int) | none => -1
noncomputable def writS (hang : List Int) : Nat → Int → List Sym
  | 0, _ => []
  | f + 1, top => (((List.range hang.length).filter fun j => hang.getD j 0 == top).map fun (j : Nat) => Sym.O :: Sym.L j :: (writS hang f (j : Int) ++ [Sym.C])).flatten
noncomputable def nameS : Sym → Option Nat
  | .L j => some j
  | _ => none
noncomputable def namesS (S : List Sym) : List Nat := S.filterMap nameS
noncomputable def depsS : List Sym → List Sym → List Int
  | _, [] => []
  | pre, .L j :: r => depthS pre :: depsS (pre ++ [.L j]) r
  | pre, .O :: r => depsS (pre ++ [.O]) r
  | pre, .C :: r => depsS (pre ++ [.C]) r
  | pre, .E j :: r => depsS (pre ++ [.E j]) r
noncomputable def hangQ (Q : List Nat) (j : Nat) : Int := (Q.getD j 0 : Int) - 1
noncomputable def textQ (Q : List Nat) : List Sym := writS ((List.range 6).map (hangQ Q)) 7 (-1)
noncomputable def dpsQ (Q : List Nat) : List Int := depsS [] (textQ Q)
noncomputable def farQ (Q : List Nat) (i j : Nat) : Bool := decide (i < Q.getD j 0)
noncomputable def apsQ (Q : List Nat) : List (Nat × Nat) := ((List.range 6).map fun j => ((List.range j).filter fun i => farQ Q i j).map fun i => (i, j)).flatten
noncomputable def swQ (ds : List Int) (n : Nat) : List Sym := ((List.range n).map fun (i : Nat) => (ds.map fun d => if d == (i : Int) - 1 then [Sym.C] else if d == (i : Int) - 1 + 1 then [Sym.O] else []).flatten).flatten
noncomputable def reachQ (Q : List Nat) (i : Nat) : Nat := i + ((List.range' i (6 - i)).takeWhile fun j => !farQ Q i j).length
noncomputable def dnQ (Q : List Nat) : Nat → Nat
  | 0 => 0
  | i + 1 => reachQ Q i
noncomputable def opQ (Q : List Nat) : Nat → List Sym
  | 0 => []
  | i + 1 => opQ Q i ++ List.replicate (((reachQ Q i : Int) - (dnQ Q i : Int)).toNat) Sym.O ++ [Sym.C]
noncomputable def stepQ (Q : List Nat) (st : List Nat × List (List Nat)) (j : Nat) : List Nat × List (List Nat) := if farQ Q (st.1.headD j) j then ([j], st.2 ++ [st.1]) else (st.1 ++ [j], st.2)
noncomputable def foldQ (Q : List Nat) : Nat → List Nat × List (List Nat)
  | 0 => ([], [])
  | i + 1 => stepQ Q (foldQ Q i) i
noncomputable def linesQ (Q : List Nat) : List (List Nat) := (foldQ Q 6).2 ++ [(foldQ Q 6).1]
noncomputable def mQ (Q : List Nat) : Nat := ((dpsQ Q).foldl max 0).toNat
noncomputable def dueQ (Q : List Nat) : List (List Nat) := (List.range (mQ Q + 1)).map fun (k : Nat) => (((namesS (textQ Q)).zip (dpsQ Q)).filter fun z => z.2 == (k : Int)).map (·.1)
noncomputable def goodA (Q : List Nat) : Bool := (List.range 6).all fun j => ((-1 : Int) :: ((apsQ Q).filter fun z => z.2 == j).map fun z => (z.1 : Int)).contains (hangQ Q j) && ((-1 : Int) :: ((apsQ Q).filter fun z => z.2 == j).map fun z => (z.1 : Int)).all (fun a => decide (a ≤ hangQ Q j)) && decide (hangQ Q j < (j : Int))
noncomputable def symOk : Sym → Bool
  | .L j => decide (j < 6)
  | .E _ => false
  | _ => true
noncomputable def goodB (Q : List Nat) : Bool := decide ((namesS (textQ Q)).Nodup) && decide ((namesS (textQ Q)).length ≤ 10) && decide ((textQ Q).length ≤ 100) && (textQ Q).all symOk
noncomputable def goodC (Q : List Nat) : Bool := (dpsQ Q).contains (mQ Q : Int) && (dpsQ Q).all (fun d => decide (d ≤ (mQ Q : Int))) && decide (mQ Q < 100) && (List.range (mQ Q + 2)).all fun (i : Nat) => (dpsQ Q).any fun d => d == (i : Int) - 1 || d == (i : Int)
noncomputable def goodD (Q : List Nat) : Bool := decide (linesQ Q = dueQ Q) && decide ((swQ (dpsQ Q) (mQ Q + 2)).map symN = (opQ Q 6).map symN) && chkB (opQ Q 6) && !chkB ((opQ Q 6).drop 1 ++ [Sym.O]) && decide ((opQ Q 6).length ≠ 0) && decide ((opQ Q 6).length ≤ 1000) && decide (nOut (dpsQ Q) (dpsQ Q).length = 15 - ((apsQ Q).length : Int))
noncomputable def good (Q : List Nat) : Bool := goodA Q && goodB Q && goodC Q && goodD Q
noncomputable def goodF (a b c : Nat) : Bool := (List.range 5).all fun d => (List.range 6).all fun e => !(decide (c ≤ d) && decide (d ≤ e)) || good [0, a, b, c, d, e]
theorem gf000 : goodF 0 0 0 = true := by decide +kernel
theorem gf001 : goodF 0 0 1 = true := by decide +kernel
theorem gf002 : goodF 0 0 2 = true := by decide +kernel
theorem gf003 : goodF 0 0 3 = true := by decide +kernel
theorem gf011 : goodF 0 1 1 = true := by decide +kernel
theorem gf012 : goodF 0 1 2 = true := by decide +kernel
theorem gf013 : goodF 0 1 3 = true := by decide +kernel
theorem gf022 : goodF 0 2 2 = true := by decide +kernel
theorem gf023 : goodF 0 2 3 = true := by decide +kernel
theorem gf111 : goodF 1 1 1 = true := by decide +kernel
theorem gf112 : goodF 1 1 2 = true := by decide +kernel
theorem gf113 : goodF 1 1 3 = true := by decide +kernel
theorem gf122 : goodF 1 2 2 = true := by decide +kernel
theorem gf123 : goodF 1 2 3 = true := by decide +kernel
theorem gf_all : ∀ a b c : Nat, a ≤ 1 → b ≤ 2 → c ≤ 3 → a ≤ b → b ≤ c → goodF a b c = true
  | 0, 0, 0, _, _, _, _, _ => gf000
  | 0, 0, 1, _, _, _, _, _ => gf001
  | 0, 0, 2, _, _, _, _, _ => gf002
  | 0, 0, 3, _, _, _, _, _ => gf003
  | 0, 1, 1, _, _, _, _, _ => gf011
  | 0, 1, 2, _, _, _, _, _ => gf012
  | 0, 1, 3, _, _, _, _, _ => gf013
  | 0, 2, 2, _, _, _, _, _ => gf022
  | 0, 2, 3, _, _, _, _, _ => gf023
  | 1, 1, 1, _, _, _, _, _ => gf111
  | 1, 1, 2, _, _, _, _, _ => gf112
  | 1, 1, 3, _, _, _, _, _ => gf113
  | 1, 2, 2, _, _, _, _, _ => gf122
  | 1, 2, 3, _, _, _, _, _ => gf123
  | 0, 1, 0, _, _, _, _, h => absurd h (by decide)
  | 0, 2, 0, _, _, _, _, h => absurd h (by decide)
  | 0, 2, 1, _, _, _, _, h => absurd h (by decide)
  | 1, 0, _, _, _, _, h, _ => absurd h (by decide)
  | 1, 1, 0, _, _, _, _, h => absurd h (by decide)
  | 1, 2, 0, _, _, _, _, h => absurd h (by decide)
  | 1, 2, 1, _, _, _, _, h => absurd h (by decide)
  | a + 2, _, _, h, _, _, _, _ => absurd h (by omega)
  | _, b + 3, _, _, h, _, _, _ => absurd h (by omega)
  | _, _, c + 4, _, _, h, _, _ => absurd h (by omega)
theorem good_of {a b c d e : Nat} (ha : a ≤ 1) (hb : b ≤ 2) (hc : c ≤ 3) (hd : d ≤ 4) (he : e ≤ 5) (h1 : a ≤ b) (h2 : b ≤ c) (h3 : c ≤ d) (h4 : d ≤ e) : good [0, a, b, c, d, e] = true := by
  have k3 := gf_all a b c ha hb hc h1 h2
  unfold goodF at k3
  have k4 := List.all_eq_true.mp k3 d (List.mem_range.mpr (by omega))
  have k5 := List.all_eq_true.mp k4 e (List.mem_range.mpr (by omega))
  simpa [h3, h4] using k5
end Mine
end

section
open PySem PySem.Calls PyProof.Rows PySem.W
open PySem.Builtin PySem.Builtin.List PySem.Builtin.Str
set_option Elab.async false
set_option maxRecDepth 100000
set_option linter.unusedVariables false
namespace Mine

noncomputable def escL (p : Nat → Bool) (j : Nat) : List Nat := if p j then [92, 41] else []
noncomputable def rn (p : Nat → Bool) : Sym → List Nat
  | .O => [40]
  | .C => [41]
  | .L j => escL p j ++ [97 + j]
  | .E j => escL p j
noncomputable def rnS (p : Nat → Bool) (S : List Sym) : List Nat := (S.map (rn p)).flatten
variable {p : Nat → Bool}
theorem rnS_nil : rnS p [] = [] := rfl
theorem rnS_cons (s : Sym) (S : List Sym) : rnS p (s :: S) = rn p s ++ rnS p S := rfl
theorem rnS_app (A B : List Sym) : rnS p (A ++ B) = rnS p A ++ rnS p B := by unfold rnS; rw [List.map_append, List.flatten_append]
theorem rnS_flat : ∀ (l : List (List Sym)), rnS p l.flatten = (l.map (rnS p)).flatten
  | [] => rfl
  | a :: l => by rw [List.flatten_cons, rnS_app, rnS_flat l, List.map_cons, List.flatten_cons]
theorem LP_cl : (Str.ofString "(").cps.toList = [40] := by decide +kernel
theorem RP_cl : (Str.ofString ")").cps.toList = [41] := by decide +kernel
theorem app_cl (x y : Str) : (x ++ y).cps.toList = x.cps.toList ++ y.cps.toList := by
  show (x.cps ++ y.cps).toList = _
  rw [Array.toList_append]
theorem writ_cl {lab : List Str} {hang : List Int} (hlab : ∀ j, j < hang.length → (lab.getD j (Str.ofString "")).cps.toList = rn p (.L j)) : ∀ (f : Nat) (top : Int), (writ lab hang f top).cps.toList = rnS p (writS hang f top)
  | 0, _ => rfl
  | f + 1, top => by
    show (Txt.join (Str.ofString "") _).cps.toList = rnS p (List.flatten _)
    rw [show (Str.ofString "") = ("" : Str) from rfl, join_cl, rnS_flat, List.map_map, List.map_map]
    congr 1
    refine List.map_congr_left fun j hj => ?_
    have hj6 : j < hang.length := by simpa using (List.mem_filter.mp hj).1
    show (Str.ofString "(" ++ lab.getD j (Str.ofString "") ++ writ lab hang f (j : Int) ++ Str.ofString ")").cps.toList = rnS p (Sym.O :: Sym.L j :: (writS hang f (j : Int) ++ [Sym.C]))
    rw [app_cl, app_cl, app_cl, LP_cl, RP_cl, hlab j hj6, writ_cl hlab f (j : Int), rnS_cons, rnS_cons, rnS_app]
    show _ = [40] ++ (rn p (.L j) ++ (rnS p (writS hang f (j : Int)) ++ [41]))
    simp

/-! ### the check, sign by sign -/
theorem chk_oth {o : Int} {t : Str} {r : List Str} (h1 : t.cps.toList ≠ [40]) (h2 : t.cps.toList ≠ [41]) : chk o (t :: r) = chk o r := by
  rw [chk_cons, LP_cl, RP_cl, if_neg (by simpa using h1), if_neg (by simpa using h2)]
theorem et_other {c : Nat} (h : c ≠ 92) (r : List Nat) : etoks false (c :: r) = ⟨#[c]⟩ :: etoks false r := if_neg h
theorem chk_esc (o : Int) (j : Nat) (r : List Nat) : chk o (etoks false (escL p j ++ r)) = chk o (etoks false r) := by
  unfold escL
  split
  · show chk o ((Str.ofString "\\" ++ ⟨#[41]⟩) :: etoks false r) = _
    refine chk_oth ?_ ?_
    · decide +kernel
    · decide +kernel
  · rfl
theorem chk_rn : ∀ (S : List Sym) (o : Int), chk o (etoks false (rnS p S)) = chkS o S
  | [], o => rfl
  | .O :: r, o => by
    rw [rnS_cons]
    show chk o (etoks false (40 :: rnS p r)) = chkS (o + 1) r
    rw [et_other (by decide), chk_cons, LP_cl, if_pos (by decide), chk_rn r]
  | .C :: r, o => by
    rw [rnS_cons]
    show chk o (etoks false (41 :: rnS p r)) = if o - 1 < 0 then none else chkS (o - 1) r
    rw [et_other (by decide), chk_cons, LP_cl, RP_cl, if_neg (by decide), if_pos (by decide), chk_rn r]
  | .L j :: r, o => by
    rw [rnS_cons]
    show chk o (etoks false ((escL p j ++ [97 + j]) ++ rnS p r)) = chkS o r
    rw [List.append_assoc, chk_esc]
    show chk o (etoks false ((97 + j) :: rnS p r)) = _
    rw [et_other (by omega), chk_oth (by simp; omega) (by simp; omega), chk_rn r]
  | .E j :: r, o => by
    rw [rnS_cons]
    show chk o (etoks false (escL p j ++ rnS p r)) = chkS o r
    rw [chk_esc, chk_rn r]
theorem checkP_rn {x : Str} {S : List Sym} (h : x.cps.toList = rnS p S) : checkP x = chkB S := by
  unfold checkP chkB
  rw [h, chk_rn]
  all_goals (cases chkS 0 S <;> rfl)
theorem chkS_app : ∀ (A B : List Sym) (o : Int), chkS o (A ++ B) = (chkS o A).bind fun o' => chkS o' B
  | [], B, o => rfl
  | .O :: r, B, o => chkS_app r B (o + 1)
  | .C :: r, B, o => by
    show (if o - 1 < 0 then none else chkS (o - 1) (r ++ B)) = (if o - 1 < 0 then none else chkS (o - 1) r).bind _
    split
    · rfl
    · exact chkS_app r B (o - 1)
  | .L _ :: r, B, o => chkS_app r B o
  | .E _ :: r, B, o => chkS_app r B o
theorem chkB_E (pre R : List Sym) (j : Nat) : chkB (pre ++ [Sym.E j] ++ R) = chkB (pre ++ R) := by
  unfold chkB
  rw [List.append_assoc, chkS_app, chkS_app pre R]
  rfl
theorem rnS_C (n : Nat) : rnS p (List.replicate n Sym.C) = List.replicate n 41 := by
  induction n with
  | zero => rfl
  | succ n ih => rw [List.replicate_succ, rnS_cons, ih]; rfl
theorem depthP_rn {x : Str} {pre : List Sym} {j : Nat} (h : x.cps.toList = rnS p (pre ++ [Sym.E j])) : depthP x = depthS pre := by
  unfold depthP depthS
  have e : (fun k => checkP (clF x k)) = fun k => chkB (pre ++ List.replicate (k + 1) Sym.C) := by
    funext k
    rw [← chkB_E pre _ j]
    refine checkP_rn (p := p) ?_
    unfold clF
    rw [app_cl, h, RP_eq, mul_cl, rnS_app (pre ++ [Sym.E j]), rnS_C]
    congr 2
    omega
  rw [e]
  all_goals (cases (List.range 7).find? (fun k => chkB (pre ++ List.replicate (k + 1) Sym.C)) <;> rfl)

/-! ### the letters -/
theorem abc_cl : abc.cps.toList = [97, 98, 99, 100, 101, 102] := by decide +kernel
theorem isL (c : Nat) : Txt.contains abc ⟨#[c]⟩ = decide (97 ≤ c ∧ c ≤ 102) := by
  rw [contains_one, abc_cl, decide_eq_decide]
  simp only [List.mem_cons, List.not_mem_nil, or_false]
  omega
theorem nms_rn : ∀ (S : List Sym), S.all symOk = true → (rnS p S).filter (fun c => Txt.contains abc ⟨#[c]⟩) = (namesS S).map fun j => 97 + j
  | [], _ => rfl
  | s :: S, h => by
    rw [List.all_cons, Bool.and_eq_true] at h
    have ih := nms_rn S h.2
    rw [rnS_cons, List.filter_append, ih]
    unfold namesS
    rw [List.filterMap_cons]
    cases s with
    | O => simp [rn, nameS, isL]
    | C => simp [rn, nameS, isL]
    | E j => simp [symOk] at h
    | L j =>
      have hj : j < 6 := by simpa [symOk] using h.1
      have e : (rn p (.L j)).filter (fun c => Txt.contains abc ⟨#[c]⟩) = [97 + j] := by
        show (escL p j ++ [97 + j]).filter _ = _
        unfold escL
        split
        · simp [isL]; omega
        · simp [isL]; omega
      rw [e]
      rfl
end Mine
end

section
open PySem PySem.Calls PyProof.Rows PySem.W
open PySem.Builtin PySem.Builtin.List PySem.Builtin.Str
set_option Elab.async false
set_option maxRecDepth 100000
set_option linter.unusedVariables false
namespace Mine
variable {p : Nat → Bool}

theorem pos_first {x : Str} {c : Nat} {A B : List Nat} (h : x.cps.toList = A ++ c :: B) (hA : c ∉ A) : posL x c = A.length := by
  have hm : x.cps.toList[A.length]? = some c := by rw [h, List.getElem?_append_right (Nat.le_refl _), Nat.sub_self]; rfl
  unfold posL
  rcases StrLaws.occ_head x ⟨#[c]⟩ 1 (Nat.le_refl 1) with ⟨_, hn⟩ | ⟨i, r, e, hi, hk⟩
  · exact absurd ((StrLaws.subAt_one x c A.length).mpr hm) (hn A.length)
  · rw [e]
    show i = A.length
    have h1 := (StrLaws.subAt_one x c i).mp hi
    rcases Nat.lt_trichotomy i A.length with hl | he | hg
    · rw [h, List.getElem?_append_left hl] at h1
      exact absurd (List.mem_of_getElem? h1) hA
    · exact he
    · exact absurd ((StrLaws.subAt_one x c A.length).mpr hm) (hk A.length hg)
theorem slice_to {x : Str} {A B : List Nat} (h : x.cps.toList = A ++ B) : (Txt.slice x none (some (A.length : Int))).cps.toList = A := by
  have e : Txt.slice x none (some (A.length : Int)) = StrLaws.sliceText x none (some (A.length : Int)) := rfl
  rw [e, StrLaws.sliceText_to ⟨Int.natCast_nonneg _, by rw [h, List.length_append]; omega⟩]
  show List.take _ (List.drop 0 x.cps.toList) = A
  rw [h]
  simp
theorem slice_one {x : Str} {a : Nat} {B : List Nat} (h : x.cps.toList = a :: B) : (Txt.slice x (some 1) none).cps.toList = B := by
  have e : Txt.slice x (some 1) none = StrLaws.sliceText x (some 1) none := rfl
  rw [e, StrLaws.sliceText_from ⟨by decide, by rw [h, List.length_cons]; omega⟩]
  show List.take _ (List.drop 1 x.cps.toList) = B
  rw [h]
  simp
theorem notin_rn {c : Nat} (hc : 97 ≤ c) : ∀ (S : List Sym), (∀ j, Sym.L j ∈ S → 97 + j ≠ c) → c ∉ rnS p S
  | [], _ => by simp [rnS]
  | s :: S, h => by
    rw [rnS_cons, List.mem_append]
    rintro (m | m)
    · cases s with
      | O => simp [rn] at m; omega
      | C => simp [rn] at m; omega
      | E j =>
        have m : c ∈ escL p j := m
        unfold escL at m
        split at m
        · simp at m; omega
        · simp at m
      | L j =>
        have m : c ∈ escL p j ++ [97 + j] := m
        rcases List.mem_append.mp m with m | m
        · unfold escL at m
          split at m
          · simp at m; omega
          · simp at m
        · exact h j (.head _) (List.mem_singleton.mp m).symm
    · exact notin_rn hc S (fun j hj => h j (.tail _ hj)) m
theorem mem_names {S : List Sym} {j : Nat} : Sym.L j ∈ S ↔ j ∈ namesS S := by
  unfold namesS
  rw [List.mem_filterMap]
  constructor
  · exact fun h => ⟨_, h, rfl⟩
  · rintro ⟨s, hs, e⟩
    cases s with
    | L k => cases e; exact hs
    | _ => cases e
theorem names_app (A B : List Sym) : namesS (A ++ B) = namesS A ++ namesS B := by unfold namesS; rw [List.filterMap_append]
/-- how deep a letter hangs -/
theorem dpt_rn {x : Str} {pre post : List Sym} {j : Nat} (h : x.cps.toList = rnS p (pre ++ Sym.L j :: post)) (hn : j ∉ namesS pre) : dptL x (97 + j) = depthS pre := by
  have h1 : x.cps.toList = rnS p (pre ++ [Sym.E j]) ++ (97 + j) :: rnS p post := by
    rw [h, rnS_app, rnS_app, rnS_cons]
    show _ ++ ((escL p j ++ [97 + j]) ++ _) = (_ ++ (escL p j ++ [])) ++ _
    simp
  have h2 : 97 + j ∉ rnS p (pre ++ [Sym.E j]) := by
    refine notin_rn (by omega) _ fun k hk e => ?_
    have e' : k = j := by omega
    subst e'
    rcases List.mem_append.mp hk with m | m
    · exact hn (mem_names.mp m)
    · simp at m
  unfold dptL
  rw [pos_first h1 h2]
  exact depthP_rn (p := p) (j := j) (slice_to h1)
theorem deps_rn {x : Str} : ∀ (rest pre : List Sym), x.cps.toList = rnS p (pre ++ rest) → (namesS (pre ++ rest)).Nodup → (namesS rest).map (fun j => dptL x (97 + j)) = depsS pre rest
  | [], pre, _, _ => by simp [namesS, depsS]
  | s :: rest, pre, h, hn => by
    have e : pre ++ s :: rest = (pre ++ [s]) ++ rest := by simp
    have ih := deps_rn rest (pre ++ [s]) (by rw [← e]; exact h) (by rw [← e]; exact hn)
    cases s with
    | O => exact ih
    | C => exact ih
    | E j => exact ih
    | L j =>
      show dptL x (97 + j) :: (namesS rest).map (fun j => dptL x (97 + j)) = depthS pre :: depsS (pre ++ [Sym.L j]) rest
      rw [ih, dpt_rn h ?_]
      rw [names_app] at hn
      intro m
      have := (List.nodup_append.mp hn).2.2 j m j
      exact this (by show j ∈ j :: _; exact .head _) rfl
theorem dps_rn {x : Str} {S : List Sym} (h : x.cps.toList = rnS p S) (hs : S.all symOk = true) (hn : (namesS S).Nodup) : nmsL x = (namesS S).map (fun j => 97 + j) ∧ dpsL x = depsS [] S := by
  have e : nmsL x = (namesS S).map (fun j => 97 + j) := by
    unfold nmsL
    rw [h]; exact nms_rn S hs
  refine ⟨e, ?_⟩
  unfold dpsL
  rw [e, List.map_map]
  exact deps_rn (p := p) S [] h hn
theorem ok_rn {x : Str} : ∀ {S : List Sym}, x.cps.toList = rnS p S → S.all symOk = true → OkS x := by
  intro S h hs c hc
  rw [h] at hc
  unfold rnS at hc
  rw [List.mem_flatten] at hc
  obtain ⟨l, hl, hcl⟩ := hc
  obtain ⟨s, hsS, rfl⟩ := List.mem_map.mp hl
  have h1 := List.all_eq_true.mp hs s hsS
  have esc : ∀ j, c ∈ escL p j → okCh c = true := fun j m => by
    unfold escL at m
    split at m
    · simp at m
      rcases m with rfl | rfl <;> decide
    · simp at m
  cases s with
  | O => rw [List.mem_singleton.mp hcl]; decide
  | C => rw [List.mem_singleton.mp hcl]; decide
  | E j => exact esc j hcl
  | L j =>
    have hj : j < 6 := by simpa [symOk] using h1
    rcases List.mem_append.mp hcl with m | m
    · exact esc j m
    · rw [List.mem_singleton.mp m]
      unfold okCh
      simp; omega
theorem len_rn (S : List Sym) : (rnS p S).length ≤ 3 * S.length := by
  induction S with
  | nil => exact Nat.le_refl _
  | cons s S ih =>
    rw [rnS_cons, List.length_append, List.length_cons]
    have esc : ∀ j, (escL p j).length ≤ 2 := fun j => by
      unfold escL; split <;> simp
    have : (rn p s).length ≤ 3 := by
      cases s with
      | O => show 1 ≤ 3; decide
      | C => show 1 ≤ 3; decide
      | E j => exact Nat.le_trans (esc j) (by decide)
      | L j =>
        show (escL p j ++ [97 + j]).length ≤ 3
        rw [List.length_append]; have := esc j
        show _ + 1 ≤ 3; omega
    omega
end Mine
end

section
open PySem PySem.Calls PyProof.Rows PySem.W
open PySem.Builtin PySem.Builtin.List PySem.Builtin.Str
set_option Elab.async false
set_option maxRecDepth 100000
set_option linter.unusedVariables false
namespace Mine
variable {p : Nat → Bool} {ns : List Int}

/-! ### what lies apart, by running sums -/
noncomputable def Sm (ns : List Int) : Nat → Int
  | 0 => 0
  | k + 1 => Sm ns k + (lenL ns k + 1)
theorem Sm_mono (ns : List Int) {i j : Nat} (h : i ≤ j) : Sm ns i ≤ Sm ns j := by
  induction j with
  | zero => rw [Nat.le_zero.mp h]; exact Int.le_refl _
  | succ j ih =>
    rcases Nat.lt_or_ge i (j + 1) with hl | hg
    · have h1 := ih (by omega)
      have h2 := lenL_bd ns j
      show _ ≤ Sm ns j + (lenL ns j + 1)
      omega
    · rw [show i = j + 1 by omega]; exact Int.le_refl _
theorem drop_take : ∀ i : Fin 7, ∀ k : Fin 7, i.val + k.val ≤ 6 → ((List.range 6).drop i.val).take k.val = List.range' i.val k.val := by decide
theorem wds_seg {i k : Nat} (h : i + k ≤ 6) : ((wds ns).drop i).take k = (List.range' i k).map (wdL ns) := by
  unfold wds
  rw [← List.map_drop, ← List.map_take, drop_take ⟨i, by omega⟩ ⟨k, by omega⟩ h]
theorem wds_drop {i : Nat} (h : i ≤ 6) : (wds ns).drop i = (List.range' i (6 - i)).map (wdL ns) := by
  have := wds_seg (ns := ns) (i := i) (k := 6 - i) (by omega)
  rw [← this, List.take_of_length_le]
  simp [wds]
theorem sum_seg : ∀ (n s : Nat), ((List.range' s n).map fun t => ((wdL ns t).length : Int) + 1).sum = Sm ns (s + n) - Sm ns s
  | 0, s => by simp
  | n + 1, s => by
    rw [List.range'_succ, List.map_cons, List.sum_cons, sum_seg n (s + 1), wdL_len]
    have e : Sm ns (s + 1) = Sm ns s + (lenL ns s + 1) := rfl
    rw [show s + 1 + n = s + (n + 1) by omega]
    omega
theorem far_sm {i j : Nat} (h : i ≤ j) (hj : j < 6) : far ns i j = decide (Sm ns (j + 1) - Sm ns i > widL ns) := by
  unfold far segL
  rw [wds_seg (by omega), List.map_map]
  have e := sum_seg (ns := ns) (j + 1 - i) i
  rw [show i + (j + 1 - i) = j + 1 by omega] at e
  rw [← e]; rfl
noncomputable def qq (f : Nat → Bool) : Nat → Nat
  | 0 => 0
  | j + 1 => if f j then j + 1 else qq f j
theorem qq_le (f : Nat → Bool) : ∀ j, qq f j ≤ j
  | 0 => Nat.le_refl _
  | j + 1 => by
    unfold qq
    split
    · exact Nat.le_refl _
    · exact Nat.le_succ_of_le (qq_le f j)
theorem qq_spec {f : Nat → Bool} : ∀ {j : Nat}, (∀ i k, i ≤ k → k < j → f k = true → f i = true) → ∀ i, i < j → f i = decide (i < qq f j)
  | 0, _, i, h => absurd h (Nat.not_lt_zero _)
  | j + 1, hc, i, h => by
    unfold qq
    split
    · rename_i hf
      rw [hc i j (by omega) (by omega) hf]
      exact (decide_eq_true h).symm
    · rename_i hf
      rcases Nat.lt_succ_iff_lt_or_eq.mp h with hl | rfl
      · exact qq_spec (fun a b h1 h2 => hc a b h1 (by omega)) i hl
      · have := qq_le f i
        rw [Bool.eq_false_iff.mpr hf, eq_comm, decide_eq_false_iff_not]
        omega
noncomputable def qn (ns : List Int) (j : Nat) : Nat := qq (fun i => far ns i j) j
theorem qn_le (ns : List Int) (j : Nat) : qn ns j ≤ j := qq_le _ _
theorem far_down {i k j : Nat} (h : i ≤ k) (hk : k < j) (hj : j < 6) (hf : far ns k j = true) : far ns i j = true := by
  rw [far_sm (by omega) hj, decide_eq_true_iff] at hf ⊢
  have := Sm_mono ns h
  omega
theorem far_up {i j : Nat} (h : i < j) (hj : j + 1 < 6) (hf : far ns i j = true) : far ns i (j + 1) = true := by
  rw [far_sm (by omega) (by omega), decide_eq_true_iff] at hf ⊢
  have := Sm_mono ns (i := j + 1) (j := j + 1 + 1) (by omega)
  omega
theorem far_qn {i j : Nat} (h : i < j) (hj : j < 6) : far ns i j = decide (i < qn ns j) :=
  qq_spec (f := fun i => far ns i j) (fun a b h1 h2 => far_down h1 h2 hj) i h
theorem qn_mono {j : Nat} (hj : j + 1 < 6) : qn ns j ≤ qn ns (j + 1) := by
  refine Nat.le_of_not_lt fun hl => ?_
  have h1 := qn_le ns j
  have h2 : far ns (qn ns (j + 1)) j = true := by
    rw [far_qn (by omega) (by omega)]; exact decide_eq_true hl
  have h3 := far_up (by omega) hj h2
  rw [far_qn (by omega) (by omega), decide_eq_true_iff] at h3
  exact Nat.lt_irrefl _ h3
noncomputable def Qn (ns : List Int) : List Nat := [0, qn ns 1, qn ns 2, qn ns 3, qn ns 4, qn ns 5]
theorem good_Q (ns : List Int) : good (Qn ns) = true :=
  good_of (qn_le ns 1) (qn_le ns 2) (qn_le ns 3) (qn_le ns 4) (qn_le ns 5) (qn_mono (by decide)) (qn_mono (by decide)) (qn_mono (by decide)) (qn_mono (by decide))
theorem Q_get {j : Nat} (hj : j < 6) : (Qn ns).getD j 0 = qn ns j := by
  match j, hj with
  | 0, _ => rfl
  | 1, _ => rfl
  | 2, _ => rfl
  | 3, _ => rfl
  | 4, _ => rfl
  | 5, _ => rfl
theorem farQ_far {i j : Nat} (h : i < j) (hj : j < 6) : farQ (Qn ns) i j = far ns i j := by
  unfold farQ
  rw [Q_get hj, far_qn h hj]
theorem farQ_sm {i j : Nat} (h : i ≤ j) (hj : j < 6) : farQ (Qn ns) i j = decide (Sm ns (j + 1) - Sm ns i > widL ns) := by
  rcases Nat.lt_or_eq_of_le h with hl | rfl
  · rw [farQ_far hl hj, far_sm h hj]
  · unfold farQ
    rw [Q_get hj]
    have h1 := qn_le ns i
    have h2 := lenL_bd ns i
    have h3 := wid_bd ns
    have e : Sm ns (i + 1) = Sm ns i + (lenL ns i + 1) := rfl
    rw [decide_eq_false (by omega), decide_eq_false (by omega)]
theorem aps_Q (ns : List Int) : aps ns = apsQ (Qn ns) := by
  unfold aps apsQ
  congr 1
  refine List.map_congr_left fun j hj => ?_
  have hj6 : j < 6 := by simpa using hj
  congr 1
  refine List.filter_congr fun i hi => ?_
  exact (farQ_far (by simpa using hi) hj6).symm

/-! ### what is opened -/
theorem grab_Q {i : Nat} : ∀ (n j : Nat), j + n = 6 → i ≤ j → grab (widL ns - (Sm ns j - Sm ns i)) ((List.range' j n).map (wdL ns)) = ((List.range' j n).takeWhile fun t => !farQ (Qn ns) i t).length
  | 0, j, _, _ => rfl
  | n + 1, j, hj, hi => by
    rw [List.range'_succ, List.map_cons, List.takeWhile_cons]
    unfold grab
    rw [wdL_len, farQ_sm hi (by omega)]
    have e : Sm ns (j + 1) = Sm ns j + (lenL ns j + 1) := rfl
    by_cases hc : Sm ns (j + 1) - Sm ns i > widL ns
    · rw [if_neg (by omega), decide_eq_true hc]; rfl
    · rw [if_pos (by omega), decide_eq_false hc]
      have ih := grab_Q (i := i) n (j + 1) (by omega) (by omega)
      rw [show widL ns - (Sm ns j - Sm ns i) - (lenL ns j + 1) = widL ns - (Sm ns (j + 1) - Sm ns i) by omega, ih]
      rfl
theorem reach_Q {i : Nat} (h : i ≤ 6) : reach (wds ns) (widL ns) i = reachQ (Qn ns) i := by
  unfold reach reachQ
  rw [wds_drop h]
  have := grab_Q (ns := ns) (i := i) (6 - i) i (by omega) (Nat.le_refl _)
  rw [Int.sub_self, Int.sub_zero] at this
  rw [this]
theorem dn_Q : ∀ {i : Nat}, i ≤ 6 → dn (wds ns) (widL ns) i = dnQ (Qn ns) i
  | 0, _ => rfl
  | i + 1, h => reach_Q (by omega)
theorem rnS_O (n : Nat) : rnS p (List.replicate n Sym.O) = List.replicate n 40 := by
  induction n with
  | zero => rfl
  | succ n ih => rw [List.replicate_succ, rnS_cons, ih]; rfl
theorem opS_Q : ∀ {i : Nat}, i ≤ 6 → (opS (wds ns) (widL ns) i).cps.toList = rnS p (opQ (Qn ns) i)
  | 0, _ => rfl
  | i + 1, h => by
    show (opS (wds ns) (widL ns) i ++ Txt.mul (Str.ofString "(") ((reach (wds ns) (widL ns) i : Int) - dn (wds ns) (widL ns) i) ++ Str.ofString ")").cps.toList = rnS p (opQ (Qn ns) i ++ List.replicate (((reachQ (Qn ns) i : Int) - (dnQ (Qn ns) i : Int)).toNat) Sym.O ++ [Sym.C])
    rw [app_cl, app_cl, RP_cl, LP_eq, mul_cl, reach_Q (by omega), dn_Q (by omega), opS_Q (i := i) (by omega), rnS_app, rnS_app, rnS_O]
    rfl
end Mine
end

section
open PySem PySem.Calls PyProof.Rows PySem.W
open PySem.Builtin PySem.Builtin.List PySem.Builtin.Str
set_option Elab.async false
set_option maxRecDepth 100000
set_option linter.unusedVariables false
namespace Mine
variable {p : Nat → Bool} {ns : List Int}

/-! ### the lines -/
noncomputable def prt (ns : List Int) (j : Nat) : Str × Str := (SP, wdL ns j)
noncomputable def lineF (ns : List Int) (l : List Nat) : Str := flat (l.map (prt ns))
theorem total_seg : ∀ (n s : Nat), total ((List.range' s n).map (prt ns)) = Sm ns (s + n) - Sm ns s := fun n s => by
  rw [← sum_seg n s]
  unfold total
  rw [List.map_map]
  congr 1
  refine List.map_congr_left fun j _ => ?_
  show ((SP.length : Int)) + ((wdL ns j).length : Int) = _
  have : SP.length = 1 := rfl
  rw [this]; omega
theorem total_app (a b : List (Str × Str)) : total (a ++ b) = total a + total b := by
  unfold total
  rw [List.map_append, List.sum_append]
theorem fold_Q : ∀ (i : Nat), i ≤ 6 → ∃ st, st ≤ i ∧ (i = 0 ∨ st < i) ∧ (foldQ (Qn ns) i).1 = List.range' st (i - st) ∧ fst' (widL ns) (wds ns) i = ((foldQ (Qn ns) i).1.map (prt ns), (foldQ (Qn ns) i).2.map (lineF ns))
  | 0, _ => ⟨0, Nat.le_refl _, .inl rfl, rfl, rfl⟩
  | i + 1, h => by
    obtain ⟨st, h1, h2, h3, h4⟩ := fold_Q i (by omega)
    have ht : (wds ns)[i]? = some (wdL ns i) := by unfold wds; rw [List.getElem?_map, List.getElem?_range (by omega)]; rfl
    have e1 : fst' (widL ns) (wds ns) (i + 1) = fstep (widL ns) (fst' (widL ns) (wds ns) i) (wdL ns i) := by
      show (match (wds ns)[i]? with | some t => fstep (widL ns) (fst' (widL ns) (wds ns) i) t | none => fst' (widL ns) (wds ns) i) = _
      rw [ht]
    have hhd : (foldQ (Qn ns) i).1.headD i = st := by
      rw [h3]
      rcases h2 with rfl | hl
      · have : st = 0 := by omega
        subst this; rfl
      · obtain ⟨n, hn⟩ : ∃ n, i - st = n + 1 := ⟨i - st - 1, by omega⟩
        rw [hn, List.range'_succ]; rfl
    have e2 : foldQ (Qn ns) (i + 1) = if farQ (Qn ns) st i then ([i], (foldQ (Qn ns) i).2 ++ [(foldQ (Qn ns) i).1]) else ((foldQ (Qn ns) i).1 ++ [i], (foldQ (Qn ns) i).2) := by
      show stepQ (Qn ns) (foldQ (Qn ns) i) i = _
      unfold stepQ
      rw [hhd]
    have htot : total ((foldQ (Qn ns) i).1.map (prt ns) ++ [(SP, wdL ns i)]) = Sm ns (i + 1) - Sm ns st := by
      rw [total_app, h3, total_seg]
      have e3 := total_seg (ns := ns) 1 i
      have e4 : total [(SP, wdL ns i)] = total ((List.range' i 1).map (prt ns)) := rfl
      rw [e4, e3, show st + (i - st) = i by omega]
      omega
    rw [e1, h4]
    by_cases hc : Sm ns (i + 1) - Sm ns st > widL ns
    · have f1 : farQ (Qn ns) st i = true := by rw [farQ_sm h1 (by omega)]; exact decide_eq_true hc
      have g : fstep (widL ns) ((foldQ (Qn ns) i).1.map (prt ns), (foldQ (Qn ns) i).2.map (lineF ns)) (wdL ns i) = ([(SP, wdL ns i)], (foldQ (Qn ns) i).2.map (lineF ns) ++ [flat ((foldQ (Qn ns) i).1.map (prt ns))]) := if_neg (by
        show ¬ total ((foldQ (Qn ns) i).1.map (prt ns) ++ [(SP, wdL ns i)]) ≤ widL ns
        rw [htot]; omega)
      rw [e2, if_pos f1, g]
      refine ⟨i, by omega, .inr (by omega), ?_, ?_⟩
      · rw [show i + 1 - i = 1 by omega]; rfl
      · show (_, _) = (_, _)
        rw [List.map_append]; rfl
    · have f1 : farQ (Qn ns) st i = false := by rw [farQ_sm h1 (by omega)]; exact decide_eq_false hc
      have g : fstep (widL ns) ((foldQ (Qn ns) i).1.map (prt ns), (foldQ (Qn ns) i).2.map (lineF ns)) (wdL ns i) = ((foldQ (Qn ns) i).1.map (prt ns) ++ [(SP, wdL ns i)], (foldQ (Qn ns) i).2.map (lineF ns)) := if_pos (by
        show total ((foldQ (Qn ns) i).1.map (prt ns) ++ [(SP, wdL ns i)]) ≤ widL ns
        rw [htot]; omega)
      rw [e2, if_neg (by rw [f1]; decide), g]
      refine ⟨st, by omega, .inr (by omega), ?_, ?_⟩
      · show (foldQ (Qn ns) i).1 ++ [i] = _
        rw [h3, show i + 1 - st = (i - st) + 1 by omega, List.range'_concat]
        congr 2; omega
      · show (_, _) = (_, _)
        rw [List.map_append]; rfl
theorem lines_Q (ns : List Int) : linesOf (widL ns) (wds ns) = (linesQ (Qn ns)).map (lineF ns) := by
  obtain ⟨st, _, _, _, h⟩ := fold_Q (ns := ns) 6 (Nat.le_refl _)
  unfold linesOf linesQ
  rw [show (wds ns).length = 6 by simp [wds], h, List.map_append]
  rfl
theorem SP_cl : SP.cps.toList = [32] := by decide +kernel
theorem blank_cl : (Str.ofString " ").cps.toList = [32] := by decide +kernel
theorem wds_get {j : Nat} (h : j < 6) : (wds ns).getD j (Str.ofString "") = wdL ns j := by
  unfold wds
  rw [List.getD_eq_getElem?_getD, List.getElem?_map, List.getElem?_range h]; rfl
theorem due_line {l : List Nat} (h : ∀ j ∈ l, j < 6) : Txt.join (Str.ofString "") (l.map fun j => Str.ofString " " ++ (wds ns).getD j (Str.ofString "")) = lineF ns l := by
  refine str_ext ?_
  unfold lineF
  rw [flat_cl, show (Str.ofString "") = ("" : Str) from rfl, join_cl, List.map_map, List.map_map]
  congr 1
  refine List.map_congr_left fun j hj => ?_
  show (Str.ofString " " ++ (wds ns).getD j (Str.ofString "")).cps.toList = SP.cps.toList ++ (wdL ns j).cps.toList
  rw [app_cl, wds_get (h j hj), SP_cl, blank_cl]
theorem zip_shift {β γ : Type} (b : β → Bool) (g : Nat → γ) : ∀ (xs : List Nat) (ys : List β), (((xs.map fun j => 97 + j).zip ys).filter fun z => b z.2).map (fun z => g (z.1 - 97)) = ((xs.zip ys).filter fun z => b z.2).map fun z => g z.1
  | [], _ => rfl
  | _ :: _, [] => rfl
  | x :: xs, y :: ys => by
    have ih := zip_shift b g xs ys
    simp only [List.map_cons, List.zip_cons_cons, List.filter_cons]
    split
    · simp only [List.map_cons]
      rw [ih, Nat.add_sub_cancel_left]
    · exact ih
theorem due_Q {text : Str} {Q : List Nat} (h1 : nmsL text = (namesS (textQ Q)).map fun j => 97 + j) (h2 : dpsL text = dpsQ Q) (h3 : ∀ j ∈ namesS (textQ Q), j < 6) : dueL ns text (mQ Q) = (dueQ Q).map (lineF ns) := by
  unfold dueL dueQ
  rw [List.map_map]
  refine List.map_congr_left fun k _ => ?_
  rw [h1, h2]
  show _ = lineF ns ((((namesS (textQ Q)).zip (dpsQ Q)).filter fun z => z.2 == (k : Int)).map (·.1))
  rw [← due_line (ns := ns) (l := (((namesS (textQ Q)).zip (dpsQ Q)).filter fun z => z.2 == (k : Int)).map (·.1)) (fun j hj => by
    obtain ⟨z, hz, rfl⟩ := List.mem_map.mp hj
    exact h3 _ (List.of_mem_zip (a := z.1) (b := z.2) (List.mem_filter.mp hz).1).1)]
  rw [List.map_map]
  congr 1
  exact zip_shift (fun d : Int => d == (k : Int)) (fun j => Str.ofString " " ++ (wds ns).getD j (Str.ofString "")) (namesS (textQ Q)) (dpsQ Q)

/-! ### what is swept -/
theorem sw_Q (ds : List Int) (n : Nat) : (Txt.join "" (sweepLines ds n)).cps.toList = rnS p (swQ ds n) := by
  unfold sweepLines swQ
  rw [join_cl, rnS_flat, List.map_map, List.map_map]
  congr 1
  refine List.map_congr_left fun i _ => ?_
  show (flat (sweepRow ds i)).cps.toList = rnS p (List.flatten _)
  rw [flat_cl, rnS_flat]
  unfold sweepRow
  rw [List.map_map, List.map_map]
  congr 1
  refine List.map_congr_left fun d _ => ?_
  show (sweepKept ((i : Int) - 1) d).1.cps.toList ++ (sweepKept ((i : Int) - 1) d).2.cps.toList = rnS p (if d == (i : Int) - 1 then [Sym.C] else if d == (i : Int) - 1 + 1 then [Sym.O] else [])
  unfold sweepKept
  split
  · show (Str.ofString ")").cps.toList ++ (Str.ofString "").cps.toList = _
    rw [RP_cl]; rfl
  · split
    · show (Str.ofString "").cps.toList ++ (Str.ofString "(").cps.toList = _
      rw [LP_cl]; rfl
    · rfl
end Mine
end

section
open PySem PySem.Calls PyProof.Rows PySem.W
open PySem.Builtin PySem.Builtin.List PySem.Builtin.Str
set_option Elab.async false
set_option maxRecDepth 100000
set_option linter.unusedVariables false
namespace Mine
variable {ns : List Int}

noncomputable def parP (ns : List Int) (j : Nat) : Bool := (numL ns j).fmod 2 == 1
theorem esc_cl : (Str.ofString "\\)").cps.toList = [92, 41] := by decide +kernel
theorem lab_cl (ns : List Int) {j : Nat} (h : j < 6) : (((List.range 6).map (labL ns)).getD j (Str.ofString "")).cps.toList = rn (parP ns) (.L j) := by
  rw [List.getD_eq_getElem?_getD, List.getElem?_map, List.getElem?_range h]
  show (labL ns j).cps.toList = escL (parP ns) j ++ [97 + j]
  unfold labL escL parP
  rw [app_cl]
  split
  · rw [esc_cl]; rfl
  · rfl
theorem facts (ns : List Int) : ∃ M text m, LawFacts ns M text m := by
  have G := good_Q ns
  generalize hQ : Qn ns = Q at *
  unfold good at G
  rw [Bool.and_eq_true, Bool.and_eq_true, Bool.and_eq_true] at G
  obtain ⟨⟨⟨gA, gB⟩, gC⟩, gD⟩ := G
  have hA : ∀ j, j < 6 → (((-1 : Int) :: ((apsQ Q).filter fun z => z.2 == j).map fun z => (z.1 : Int)).contains (hangQ Q j) = true ∧ ((-1 : Int) :: ((apsQ Q).filter fun z => z.2 == j).map fun z => (z.1 : Int)).all (fun a => decide (a ≤ hangQ Q j)) = true) ∧ hangQ Q j < (j : Int) := fun j hj => by
    have := List.all_eq_true.mp gA j (List.mem_range.mpr hj)
    rw [Bool.and_eq_true, Bool.and_eq_true, decide_eq_true_iff] at this
    exact this
  unfold goodB at gB
  rw [Bool.and_eq_true, Bool.and_eq_true, Bool.and_eq_true] at gB
  obtain ⟨⟨⟨b1, b2⟩, b3⟩, b4⟩ := gB
  have b1 := of_decide_eq_true b1
  have b2 := of_decide_eq_true b2
  have b3 := of_decide_eq_true b3
  unfold goodC at gC
  rw [Bool.and_eq_true, Bool.and_eq_true, Bool.and_eq_true] at gC
  obtain ⟨⟨⟨c1, c2⟩, c3⟩, c4⟩ := gC
  have c3 := of_decide_eq_true c3
  unfold goodD at gD
  rw [Bool.and_eq_true, Bool.and_eq_true, Bool.and_eq_true, Bool.and_eq_true, Bool.and_eq_true, Bool.and_eq_true] at gD
  obtain ⟨⟨⟨⟨⟨⟨d1, d2⟩, d3⟩, d4⟩, d5⟩, d6⟩, d7⟩ := gD
  have d1 := of_decide_eq_true d1
  have d2 := symNs_inj (of_decide_eq_true d2)
  have d5 := of_decide_eq_true d5
  have d6 := of_decide_eq_true d6
  have d7 := of_decide_eq_true d7
  have hap : aps ns = apsQ Q := by rw [aps_Q, hQ]
  generalize htx : writ ((List.range 6).map (labL ns)) ((List.range 6).map (hangQ Q)) 7 (-1) = text
  have hcl : text.cps.toList = rnS (parP ns) (textQ Q) := by
    rw [← htx]
    exact writ_cl (p := parP ns) (fun j hj => lab_cl ns (by simpa using hj)) 7 (-1)
  obtain ⟨hnm, hdp⟩ := dps_rn hcl b4 b1
  have hdp : dpsL text = dpsQ Q := hdp
  have hlt : ∀ j ∈ namesS (textQ Q), j < 6 := fun j hj => by
    have := List.all_eq_true.mp b4 _ (mem_names.mpr hj)
    simpa [symOk] using this
  generalize hsw : Txt.join "" (sweepLines (dpsQ Q) (mQ Q + 2)) = sw
  have hswc : sw.cps.toList = rnS (parP ns) (opQ Q 6) := by rw [← hsw, sw_Q (p := parP ns), d2]
  have hop : (opS (wds ns) (widL ns) 6).cps.toList = rnS (parP ns) (opQ Q 6) := by rw [opS_Q (p := parP ns) (Nat.le_refl _), hQ]
  have opOk : ∀ i, (opQ Q i).all symOk = true ∧ ∀ s ∈ opQ Q i, s = Sym.O ∨ s = Sym.C := fun i => by
    induction i with
    | zero => exact ⟨rfl, fun s h => nomatch h⟩
    | succ i ih =>
      have key : ∀ s ∈ opQ Q (i + 1), s = Sym.O ∨ s = Sym.C := fun s hs => by
        have hs : s ∈ opQ Q i ++ List.replicate (((reachQ Q i : Int) - (dnQ Q i : Int)).toNat) Sym.O ++ [Sym.C] := hs
        rcases List.mem_append.mp hs with h | h
        · rcases List.mem_append.mp h with h | h
          · exact ih.2 s h
          · exact .inl (List.mem_replicate.mp h).2
        · exact .inr (List.mem_singleton.mp h)
      refine ⟨List.all_eq_true.mpr fun s hs => ?_, key⟩
      rcases key s hs with rfl | rfl <;> rfl
  have len1 : sw.length ≤ 3 * (opQ Q 6).length := by rw [len_cl, hswc]; exact len_rn _
  have ok6 := opOk 6
  clear opOk d2
  generalize opQ Q 6 = T6 at hswc hop ok6 len1 d3 d4 d5 d6
  have hc2 : checkP (Txt.slice sw (some 1) none ++ Str.ofString "(") = false := by
    have d4' : chkB (T6.drop 1 ++ [Sym.O]) = false := by simpa using d4
    rw [← d4']
    have e : (Txt.slice sw (some 1) none).cps.toList = rnS (parP ns) (T6.drop 1) := by
      cases T6 with
      | nil => exact absurd rfl d5
      | cons s r =>
        have hs := ok6.2 s (.head _)
        rw [rnS_cons] at hswc
        rcases hs with rfl | rfl
        · exact slice_one (a := 40) hswc
        · exact slice_one (a := 41) hswc
    refine checkP_rn (p := parP ns) ?_
    rw [app_cl, LP_cl, rnS_app, e]
    rfl
  refine ⟨hangQ Q, text, mQ Q, ⟨fun j hj => ?_, fun j hj => ?_, fun j hj => (hA j hj).2, htx.symm, ok_rn hcl b4, ?_, ?_, ?_, ?_, by omega, ?_, ?_, ?_, ?_, ?_, ?_, ?_, ?_⟩⟩
  · rw [hap]; exact List.contains_iff_mem.mp (hA j hj).1.1
  · rw [hap]
    intro a ha
    exact of_decide_eq_true (List.all_eq_true.mp (hA j hj).1.2 a ha)
  · rw [len_cl, hcl]
    have := len_rn (p := parP ns) (textQ Q)
    omega
  · rw [hnm, List.length_map]; exact b2
  · rw [hdp]; exact List.contains_iff_mem.mp c1
  · rw [hdp]
    intro d hd
    exact of_decide_eq_true (List.all_eq_true.mp c2 d hd)
  · rw [hdp]
    intro i hi
    have := List.all_eq_true.mp c4 i (List.mem_range.mpr hi)
    obtain ⟨d, hd, h⟩ := List.any_eq_true.mp this
    rw [Bool.or_eq_true, beq_iff_eq, beq_iff_eq] at h
    exact ⟨d, hd, h⟩
  · rw [lines_Q, hQ, d1, due_Q hnm hdp hlt]
  · rw [hdp, hsw]
    exact str_ext (hswc.trans hop.symm)
  · rw [hdp, hsw]; exact ok_rn hswc ok6.1
  · rw [hdp, hsw]; omega
  · rw [hdp, hsw, checkP_rn (p := parP ns) hswc]; exact d3
  · rw [hdp, hsw]; exact hc2
  · rw [hdp, hap]; exact d7
end Mine
end

theorem PySem.Challenge.cw_xp0034_01_holds : PySem.Challenge.rw_xp0034_01.Holds :=
  Mine.whole Mine.facts
#print axioms PySem.Challenge.cw_xp0034_01_holds
