import PyProof.Rows.All
import Wide.All
import OpenK.AllK
import Wide.FinOn
import PySem.Challenge.RW_ja0037_01
set_option Elab.async false
set_option maxRecDepth 100000
set_option linter.all false
section
open PySem PySem.W PyProof.Rows
set_option Elab.async false
set_option maxRecDepth 100000
set_option maxHeartbeats 8000000
namespace Mine
theorem keepK {r : OpenRow} (K : Params → Frag) (hw : r.toRowW.promised) (hc : r.toRowW.promised → r.Holds) : r.Holds := hc hw
section
local macro_rules | `(tactic| o_head ($f:ident $k $a $e)) => do
  let hw := Lean.mkIdent `hw; let hc := Lean.mkIdent `hc
  `(tactic| refine keepK $k ?$hw ?$hc)
theorem kd (hp : PySem.Challenge.rw_ja0037_01.row.toRowW.promised) (h : PySem.Challenge.rw_ja0037_01.row.Holds) : PySem.Challenge.rw_ja0037_01.row.Holds := by
  k_head
  case hw => exact hp
  exact fun _ => h
end
def kAs : List Addr := [2, 3, 15, 17, 18, 20, 21, 22, 29, 31, 32, 34, 35, 36, 38, 39, 41, 42, 43, 45, 46, 48, 49, 50, 51, 52, 53, 54, 57, 64, 65, 67, 68, 70, 71, 72, 74, 75, 77, 78, 79, 80, 82, 83, 85, 86, 87, 88, 90, 91, 93, 94, 95, 96, 98, 99, 101, 102, 103, 104, 106, 107, 109, 110, 111, 112, 114, 115, 117, 118, 119, 120, 122, 123, 125, 126, 127, 128, 130, 131, 133, 134, 135, 136, 138, 139, 141, 142, 143, 145, 146, 148, 149, 150, 152, 153, 155, 156, 157, 159, 160, 162, 163, 164, 166, 167, 169, 170, 171, 173, 174, 176, 177, 178, 179, 181, 182, 184, 185, 186, 187, 189, 190, 192, 193, 194, 196, 197, 199, 200, 201, 202, 203, 204, 205, 208, 215, 216, 218, 219, 221, 222, 223, 225, 226, 228, 229, 230, 232, 233, 235, 236, 237, 239, 240, 242, 243, 244, 246, 247, 249, 250, 251, 253, 254, 256, 257, 258, 259, 261, 262, 264, 265, 266, 267, 269, 270, 272, 273, 274, 276, 277, 279, 280, 281, 283, 284, 286, 287, 288, 290, 291, 293, 294, 295, 297, 298, 300, 301, 302, 303, 304, 305, 306, 309, 311, 312, 314, 315, 316, 319, 324, 325, 326, 328, 329, 331, 332, 333, 335, 336, 338, 339, 340, 342, 343, 345, 346, 347, 349, 350, 352, 353, 354, 356, 357, 359, 360, 361, 364, 365, 366, 368, 369, 371, 372, 373, 374, 376, 377, 379, 380, 381, 382, 384, 385, 387, 388, 389, 390, 391, 394, 401, 403, 404, 406, 407, 408, 409, 410, 413, 420, 422, 423, 425, 426, 427, 428, 429, 432, 439, 441, 442, 444, 445, 446, 447, 448, 451, 458, 460, 461, 463, 464, 465, 466, 467, 470, 472, 473, 475, 476, 477, 479, 480, 482, 483, 484, 486, 487, 489, 490, 491, 493, 494, 496, 497, 498, 501, 502, 503, 506, 507]
noncomputable abbrev Hk : Hook := kmHook kd.heap_1 kAs (fun _ => by kernel_rfl) [341, 402]
end Mine

end
noncomputable section
open PySem PySem.W PyProof.Rows PySem.Calls
set_option Elab.async false
set_option linter.unusedVariables false
namespace Mine
noncomputable def L2 {α β : Type} (R : α → β → Prop) : List α → List β → Prop
  | [], [] => True
  | v :: vs, x :: xs => R v x ∧ L2 R vs xs
  | _, _ => False
section
variable {α β γ : Type} {R S : α → β → Prop} {vs us : List α} {xs ys : List β}
theorem L2.mono (f : ∀ v x, R v x → S v x) (h : L2 R vs xs) : L2 S vs xs := by
  induction vs generalizing xs with
  | nil => cases xs with
    | nil => exact trivial
    | cons x xs => exact h
  | cons v vs ih => cases xs with
    | nil => exact h
    | cons x xs => exact ⟨f _ _ h.1, ih h.2⟩
theorem L2.append (h : L2 R vs xs) (g : L2 R us ys) : L2 R (vs ++ us) (xs ++ ys) := by
  induction vs generalizing xs with
  | nil => cases xs with
    | nil => exact g
    | cons x xs => exact False.elim h
  | cons v vs ih => cases xs with
    | nil => exact False.elim h
    | cons x xs => exact ⟨h.1, ih h.2⟩
theorem L2.length (h : L2 R vs xs) : vs.length = xs.length := by
  induction vs generalizing xs with
  | nil => cases xs with
    | nil => rfl
    | cons x xs => exact False.elim h
  | cons v vs ih => cases xs with
    | nil => exact False.elim h
    | cons x xs => exact congrArg (· + 1) (ih h.2)
theorem L2.at {i : Nat} {v : α} (h : L2 R vs xs) (e : vs[i]? = some v) : ∃ x, R v x ∧ xs[i]? = some x := by
  induction vs generalizing xs i with
  | nil => simp at e
  | cons u vs ih => cases xs with
    | nil => exact False.elim h
    | cons x xs => cases i with
      | zero => exact ⟨x, (Option.some.inj e) ▸ h.1, rfl⟩
      | succ i => exact ih (xs := xs) (i := i) h.2 e
theorem L2.map {R : α → γ → Prop} {f : β → γ} (h : L2 (fun v x => R v (f x)) vs xs) : L2 R vs (xs.map f) := by
  induction vs generalizing xs with
  | nil => cases xs with
    | nil => exact trivial
    | cons x xs => exact False.elim h
  | cons v vs ih => cases xs with
    | nil => exact False.elim h
    | cons x xs => exact ⟨h.1, ih h.2⟩
end
def VI (vs : List Value) (is : List Int) : Prop := L2 (fun v i => ∃ t, v = Value.int i t) vs is
theorem VI.are {vs : List Value} {ns : List Int} (h : VI vs ns) : IntsAre vs ns := by
  induction vs generalizing ns with
  | nil => cases ns with
    | nil => exact .nil
    | cons => exact False.elim h
  | cons v vs ih => cases ns with
    | nil => exact False.elim h
    | cons n ns => obtain ⟨⟨t, e⟩, y⟩ := h; subst e; exact .cons n t (ih y)
theorem VI.append {vs us : List Value} {ns ms : List Int} (h : VI vs ns) (g : VI us ms) : VI (vs ++ us) (ns ++ ms) := L2.append h g
theorem VI.length {vs : List Value} {ns : List Int} (h : VI vs ns) : vs.length = ns.length := L2.length h
theorem VI.at {vs : List Value} {ns : List Int} {i : Nat} {v : Value} (h : VI vs ns) (e : vs[i]? = some v) : ∃ k t, v = .int k t ∧ ns[i]? = some k :=
  let ⟨k, ⟨t, q⟩, e'⟩ := L2.at h e; ⟨k, t, q, e'⟩
theorem VI.cut {vs : List Value} {n : Int} {ns : List Int} (h : VI vs (n :: ns)) : ∃ t us, vs = .int n t :: us ∧ VI us ns := by
  cases vs with
  | nil => exact False.elim h
  | cons v vs => obtain ⟨⟨t, e⟩, y⟩ := h; exact ⟨t, vs, by rw [e], y⟩
theorem VI.nil {vs : List Value} (h : VI vs []) : vs = [] := by
  cases vs with
  | nil => rfl
  | cons => exact False.elim h
theorem VI.two {vs : List Value} {a b : Int} (h : VI vs [a, b]) : ∃ t1 t2, vs = [.int a t1, .int b t2] := by
  obtain ⟨t1, us, e1, h1⟩ := h.cut
  obtain ⟨t2, us2, e2, h2⟩ := h1.cut
  exact ⟨t1, t2, by rw [e1, e2, h2.nil]⟩
theorem VI.three {vs : List Value} {a b c : Int} (h : VI vs [a, b, c]) : ∃ t1 t2 t3, vs = [.int a t1, .int b t2, .int c t3] := by
  obtain ⟨t1, us, e1, h1⟩ := h.cut
  obtain ⟨t2, t3, e⟩ := h1.two
  exact ⟨t1, t2, t3, by rw [e1, e]⟩
theorem VI.four {vs : List Value} {a b c d : Int} (h : VI vs [a, b, c, d]) : ∃ t1 t2 t3 t4, vs = [.int a t1, .int b t2, .int c t3, .int d t4] := by
  obtain ⟨t1, us, e1, h1⟩ := h.cut
  obtain ⟨t2, t3, t4, e⟩ := h1.three
  exact ⟨t1, t2, t3, t4, by rw [e1, e]⟩
theorem VI.six {vs : List Value} {a b c d e f : Int} (h : VI vs [a, b, c, d, e, f]) : ∃ t1 t2 t3 t4 t5 t6, vs = [.int a t1, .int b t2, .int c t3, .int d t4, .int e t5, .int f t6] := by
  obtain ⟨t1, us, e1, h1⟩ := h.cut
  obtain ⟨t2, us2, e2, h2⟩ := h1.cut
  obtain ⟨t3, t4, t5, t6, e⟩ := h2.four
  exact ⟨t1, t2, t3, t4, t5, t6, by rw [e1, e2, e]⟩
theorem absQ {α : Type} {w : World} {A : Around} {t : Sem α} {Qb : α → Shared → Prop} {E : Value → Shared → Prop} {s : Shared} (h : ∀ Q : α → Shared → Prop, (∀ f s', Qb f s' → Q f s') → wpAny (model PG w) A t Q E s) : wpAny (model PG w) A t Qb E s :=
  h Qb fun _ _ x => x
theorem absP {P : Prop} (h : ∀ G : Prop, (P → G) → G) : P := h P fun x => x
theorem absQE {α : Type} {w : World} {A : Around} {t : Sem α} {Qb : α → Shared → Prop} {Eb : Value → Shared → Prop} {s : Shared} (h : ∀ (Q : α → Shared → Prop) (E : Value → Shared → Prop), (∀ f s', Qb f s' → Q f s') → (∀ e s', Eb e s' → E e s') → wpAny (model PG w) A t Q E s) : wpAny (model PG w) A t Qb Eb s :=
  h Qb Eb (fun _ _ x => x) fun _ _ x => x
theorem absR {w : World} {A : Around} {c : Code} {Rb : Result → Shared → Prop} {s : Shared} (h : ∀ R : Result → Shared → Prop, (∀ f s', Rb f s' → R f s') → codeAny (model PG w) A c R s) : codeAny (model PG w) A c Rb s :=
  h Rb fun _ _ x => x
end Mine
end
noncomputable section
open PySem PySem.W PyProof.Rows PySem.Calls
set_option Elab.async false
set_option maxRecDepth 100000
set_option linter.unusedVariables false
namespace Mine

abbrev PG : Program := PySem.Challenge.pw_ja0037_01
noncomputable abbrev KK (w : World) : Frag := kd.heap_1 w.params

def Keep (h h' : Heap) : Prop := ∀ b o, h.get? b = some o → h'.get? b = some o
theorem Keep.refl (h : Heap) : Keep h h := fun _ _ e => e
theorem Keep.trans {a b c : Heap} (x : Keep a b) (y : Keep b c) : Keep a c := fun _ _ e => y _ _ (x _ _ e)
theorem Keep.push (h : Heap) (o : Obj) : Keep h (h.push o) := fun _ _ e => Heap.get?_push_of_some _ e

structure Glob (w : World) (h : Heap) : Prop where
  K : (KK w).In h
  lim : h.NoLimit
  blt : ∃ mb, h.Ns builtinsNs mb ∧ ∀ x : Str, x ≠ "__name__" → mb x = bootBuiltins x
  mod : ∃ ob, h.get? 4 = some ob ∧ ob.cls = .type "module" ∧ ob.dict = some builtinsNs ∧ ob.data = .plain
theorem Glob.keep {w : World} {h h' : Heap} (G : Glob w h) (k : Keep h h') : Glob w h' :=
  ⟨G.K.keeps k, G.lim.keeps k, let ⟨mb, a, b⟩ := G.blt; ⟨mb, a.keeps k, b⟩, let ⟨ob, a, b⟩ := G.mod; ⟨ob, k _ _ a, b⟩⟩

structure Up (hb h b' h' : Heap) : Prop where
  b : Keep hb b'
  h : Keep h h'
  i : Keep b' h'
theorem Up.trans {a b c d e f : Heap} (x : Up a b c d) (y : Up c d e f) : Up a b e f := ⟨x.b.trans y.b, x.h.trans y.h, y.i⟩
structure Res (b b' h h' : Heap) : Prop where
  up : Up b h b' h'
  new : ∀ a o, h.get? a = some o → b.get? a = none → b'.get? a = none
theorem Res.refl {b h : Heap} (k : Keep b h) : Res b b h h := ⟨⟨.refl _, .refl _, k⟩, fun _ _ _ e => e⟩
theorem Res.trans {a b c d e f : Heap} (x : Res a b d e) (y : Res b c e f) : Res a c d f := ⟨x.up.trans y.up, fun p o e n => y.new p o (x.up.h _ _ e) (x.new p o e n)⟩
theorem Res.grow {b h h' : Heap} (k : Keep b h) (g : Keep h h') : Res b b h h' := ⟨⟨.refl _, g, k.trans g⟩, fun _ _ _ e => e⟩

def Y {α : Type} (w : World) (A : Around) (hb h : Heap) (t : Sem α) (P : α → Heap → Prop) : Prop :=
  ∀ (s : Shared) (b : Heap), Up hb h b s.heap → ∀ (Q : α → Shared → Prop) (E : Value → Shared → Prop),
    (∀ v b' h' tk, P v b' → Res b b' s.heap h' → Q v { s with heap := h', toks := tk }) → wpAny (model PG w) A t Q E s

def IsI (i : Int) : Value → Heap → Prop := fun v _ => ∃ t, v = .int i t
def Is {α : Type} (x : α) : α → Heap → Prop := fun v _ => v = x

section
variable {α β : Type} {w : World} {A : Around} {hb h b' h' : Heap}
theorem Y.keep {t : Sem α} {P : α → Heap → Prop} (y : Y w A hb h t P) (k : Up hb h b' h') : Y w A b' h' t P := fun s b u => y s b (k.trans u)
theorem Y.mono {t : Sem α} {P P' : α → Heap → Prop} (y : Y w A hb h t P) (hp : ∀ v b', Keep hb b' → P v b' → P' v b') : Y w A hb h t P' :=
  fun s b u Q E q => y s b u Q E fun v b' h' tk p r => q v b' h' tk (hp v b' (u.b.trans r.up.b) p) r
theorem yPure {a : α} {P : α → Heap → Prop} (p : ∀ b', Keep hb b' → P a b') : Y w A hb h (pure a) P :=
  fun s b u _ _ q => wpAny_pure (q a b s.heap s.toks (p _ u.b) (.refl u.i))
theorem yBind {m : Sem α} {f : α → Sem β} {P : α → Heap → Prop} {R : β → Heap → Prop} (y : Y w A hb h m P) (z : ∀ v b' h', Up hb h b' h' → P v b' → Y w A b' h' (f v) R) : Y w A hb h (m >>= f) R :=
  fun s b u Q E q => wpAny_bind (y s b u _ E fun v b1 h1 tk p r => z v b1 h1 (u.trans r.up) p _ b1 ⟨.refl _, .refl _, r.up.i⟩ Q E fun v' b2 h2 tk' p' r' => q v' b2 h2 tk' p' (r.trans r'))
theorem Y.use {t : Sem α} {P : α → Heap → Prop} {s : Shared} {Q : α → Shared → Prop} {E : Value → Shared → Prop} (y : Y w A hb s.heap t P) (k : Keep hb s.heap)
    (q : ∀ v b' h' tk, P v b' → Res hb b' s.heap h' → Q v { s with heap := h', toks := tk }) : wpAny (model PG w) A t Q E s := y s hb ⟨.refl _, .refl _, k⟩ Q E q
theorem yHolding {t : Sem α} {vs : List Value} {P : α → Heap → Prop} (y : Y w A hb h t P) : Y w A hb h (holding vs t) P :=
  fun s b u Q E q => wpAny_holding (y s b u Q E q)
theorem ySeq_standAt {p : Pos} {t : Sem α} {P : α → Heap → Prop} (y : Y w A hb h t P) : Y w A hb h (PySem.standAt p >>= fun _ => t) P :=
  fun s b u Q E q => wpAny_bind (wpAny_standAt (y s b u Q E q))
theorem ySeq_rule {p : String} {t : Sem α} {P : α → Heap → Prop} (y : Y w A hb h t P) : Y w A hb h (PySem.rule p >>= fun _ => t) P :=
  fun s b u Q E q => wpAny_bind (wpAny_rule (y s b u Q E q))
theorem yOperate {t : Sem Value} {vs : List Value} {P : Value → Heap → Prop} (y : Y w A hb h t P) : Y w A hb h (operate vs t) P :=
  fun s b u Q E q => wpAny_operating (y s b u Q E q)
theorem yTok {t : Sem α} {P : α → Heap → Prop} (y : ∀ (s : Shared) (Q : α → Shared → Prop) (E : Value → Shared → Prop), Keep hb s.heap → Keep h s.heap → (∀ v tk, (∀ b, Keep hb b → P v b) → Q v { s with toks := tk }) → wpAny (model PG w) A t Q E s) : Y w A hb h t P :=
  fun s b u Q E q => y s Q E (u.b.trans u.i) u.h fun v tk p => q v b s.heap tk (p b u.b) (.refl u.i)
theorem yGrow {t : Sem α} {P : α → Heap → Prop} (y : ∀ (s : Shared) (Q : α → Shared → Prop) (E : Value → Shared → Prop), Keep hb s.heap → Keep h s.heap → (∀ v h' tk, (∀ b, Keep hb b → P v b) → Keep s.heap h' → Q v { s with heap := h', toks := tk }) → wpAny (model PG w) A t Q E s) : Y w A hb h t P :=
  fun s b u Q E q => y s Q E (u.b.trans u.i) u.h fun v h' tk p k => q v b h' tk (p b u.b) (.grow u.i k)
end

theorem Heap.part (h : Heap) (p : Addr → Bool) : ∃ h' : Heap, ∀ a, h'.get? a = if p a then h.get? a else none := by
  refine ⟨{ h with objs := h.objs.mapIdx fun i o => if p i then o else { o with data := .freed } }, fun a => ?_⟩
  cases e : p a with
  | true =>
    simp only [if_true]
    cases hg : h.get? a with
    | some o =>
      rw [Heap.get?_some_iff] at hg ⊢
      refine ⟨?_, hg.2⟩
      simp [hg.1, e]
    | none =>
      cases hn : Heap.get? _ a with
      | none => rfl
      | some o =>
        rw [Heap.get?_some_iff] at hn
        exfalso
        obtain ⟨h1, h2⟩ := hn
        have : h.get? a = some o := by
          rw [Heap.get?_some_iff]
          refine ⟨?_, h2⟩
          simp only [Array.getElem?_mapIdx, Option.map_eq_some_iff] at h1
          obtain ⟨o', ho', h1⟩ := h1
          rw [if_pos e] at h1
          rw [ho', h1]
        rw [hg] at this; cases this
  | false =>
    simp only [Bool.false_eq_true, if_false]
    cases hn : Heap.get? _ a with
    | none => rfl
    | some o =>
      exfalso
      rw [Heap.get?_some_iff] at hn
      obtain ⟨h1, h2⟩ := hn
      simp only [Array.getElem?_mapIdx, Option.map_eq_some_iff] at h1
      obtain ⟨o', ho', h1⟩ := h1
      rw [if_neg (by rw [e]; decide)] at h1
      subst h1
      cases h2
theorem Res.join {b h h' : Heap} (k : Keep b h) (g : Keep h h') : ∃ b', Res b b' h h' ∧ ∀ a o, h.get? a = none → h'.get? a = some o → b'.get? a = some o := by
  classical
  obtain ⟨b', e⟩ := Heap.part h' fun a => (b.get? a).isSome || (h.get? a).isNone
  refine ⟨b', ⟨⟨fun a o x => ?_, g, fun a o x => ?_⟩, fun a o x n => ?_⟩, fun a o n x => ?_⟩
  · rw [e, if_pos (by rw [x]; rfl)]; exact g _ _ (k _ _ x)
  · rw [e] at x; split at x
    · exact x
    · cases x
  · rw [e, if_neg (by rw [n, x]; simp)]
  · rw [e, if_pos (by rw [n]; simp)]; exact x
theorem yNew {α : Type} {w : World} {A : Around} {hb h : Heap} {t : Sem α} {P : α → Heap → Prop} (y : ∀ (s : Shared) (b : Heap) (Q : α → Shared → Prop) (E : Value → Shared → Prop), Keep hb b → Keep b s.heap → Keep h s.heap →
    (∀ v h' tk, (∀ b', Keep b b' → (∀ a o, s.heap.get? a = none → h'.get? a = some o → b'.get? a = some o) → P v b') → Keep s.heap h' → Q v { s with heap := h', toks := tk }) → wpAny (model PG w) A t Q E s) : Y w A hb h t P :=
  fun s b u Q E q => y s b Q E u.b u.i u.h fun v h' tk p g => by
    obtain ⟨b', r, n⟩ := Res.join u.i g
    exact q v b' h' tk (p b' r.up.b n) r

section names
variable {w : World} {A : Around} {hb h : Heap} {env : Env} {x : Str} {pos : Pos} {v : Value}
theorem yName {m : Str → Option Value} (hn : h.Ns env.locals m) (hv : m x = some v) (hk : env.scope.kind = .function := by rfl) (hl : env.kindOf x = some .local := by rfl)
    (hd : (x == ("__debug__" : Str)) = false := by decide) : Y w A hb h (eval (.Name x pos) env) (Is v) :=
  yTok fun s Q E kb ks q => wpAny_Name (wpAny_loadName_local hk hl (hn.keeps ks) hv (q v s.toks fun _ _ => rfl)) hd
theorem yCell {c : Addr} (hc : h.IsCell c (some v)) (hk : env.scope.kind = .function := by rfl) (hl : env.kindOf x = some .cell := by rfl) (hcl : env.cells.lookup x = some c := by rfl)
    (hd : (x == ("__debug__" : Str)) = false := by decide) : Y w A hb h (eval (.Name x pos) env) (Is v) :=
  yTok fun s Q E kb ks q => wpAny_Name (wpAny_loadName_cell hk hl hcl (hc.keeps ks) (q v s.toks fun _ _ => rfl)) hd
theorem yFree {c : Addr} (hc : h.IsCell c (some v)) (hk : env.scope.kind = .function := by rfl) (hl : env.kindOf x = some .free := by rfl) (hcl : env.cells.lookup x = some c := by rfl)
    (hd : (x == ("__debug__" : Str)) = false := by decide) (hn : (x == ("__classdict__" : Str)) = false := by decide) : Y w A hb h (eval (.Name x pos) env) (Is v) :=
  yTok fun s Q E kb ks q => wpAny_Name (wpAny_loadName_free hk hl hcl (hc.keeps ks) (q v s.toks fun _ _ => rfl) hn) hd
theorem yGlob (G : Glob w hb) (e : nsIn (KK w) mainGlobals x = some (some v)) (hg : env.globals = mainGlobals := by rfl) (hk : env.scope.kind = .function := by rfl) (hx : env.kindOf x = some .globalImplicit := by rfl)
    (hd : (x == ("__debug__" : Str)) = false := by decide) : Y w A hb h (eval (.Name x pos) env) (Is v) :=
  yTok fun s Q E kb ks q => Name_function_global hk hx (by
    unfold loadGlobal
    rw [hg]
    exact wpAny_bind (looks_nsIn (G.K.keeps kb) e A _ E s (fun _ _ e => e) (wpAny_pure (q v s.toks fun _ _ => rfl)))) hd
theorem yBltn (G : Glob w hb) (e : nsIn (KK w) mainGlobals x = some none) (hv : bootBuiltins x = some v) (hnm : x ≠ "__name__") (hg : env.globals = mainGlobals := by rfl) (hbl : env.builtins = builtinsNs := by rfl)
    (hk : env.scope.kind = .function := by rfl) (hx : env.kindOf x = some .globalImplicit := by rfl)
    (hd : (x == ("__debug__" : Str)) = false := by decide) : Y w A hb h (eval (.Name x pos) env) (Is v) :=
  yTok fun s Q E kb ks q => Name_function_global hk hx (by
    obtain ⟨mb, hmb, hmv⟩ := G.blt
    unfold loadGlobal
    rw [hg, hbl]
    refine wpAny_bind (looks_nsIn (G.K.keeps kb) e A _ E s (fun _ _ e => e) ?_)
    refine wpAny_bind (wpAny_nsGet (hmb.keeps kb) ?_)
    rw [hmv x hnm, hv]
    exact wpAny_pure (q v s.toks fun _ _ => rfl)) hd
theorem yInt {i : Int} {k : Nat} : Y w A hb h (eval (.Constant (.int i) k pos) env) (IsI i) := yTok fun s Q E _ _ q => wpAny_Constant_int (q _ _ fun _ _ => ⟨_, rfl⟩)
theorem yNone {k : Nat} : Y w A hb h (eval (.Constant .none k pos) env) (Is Value.none) := yTok fun s Q E _ _ q => wpAny_Constant_none (q _ s.toks fun _ _ => rfl)
theorem yBoolc {b : Bool} {k : Nat} : Y w A hb h (eval (.Constant (.bool b) k pos) env) (Is (Value.bool b)) := yTok fun s Q E _ _ q => wpAny_Constant_bool (q _ s.toks fun _ _ => rfl)
end names

section ops
variable {w : World} {A : Around} {hb h : Heap} {env : Env} {pos : Pos} {l r : Expr} {a b : Int}
theorem yBinop {op : Operator} {P1 : Value → Heap → Prop} {P2 P : Value → Heap → Prop} (y1 : Y w A hb h (eval l env) P1) (y2 : ∀ v b1 h1, Up hb h b1 h1 → P1 v b1 → Y w A b1 h1 (eval r env) P2)
    (y3 : ∀ a b b1 h1 b2 h2, Up hb h b1 h1 → Up b1 h1 b2 h2 → P1 a b1 → P2 b b2 → Y w A b2 h2 (binaryOp op a b) P) : Y w A hb h (eval (.BinOp l op r pos) env) P := by
  rw [arm_eval_BinOp]
  exact yBind y1 fun a b1 h1 k1 p1 => yBind (yHolding (y2 a b1 h1 k1 p1)) fun b b2 h2 k2 p2 => ySeq_standAt (yOperate (y3 a b b1 h1 b2 h2 k1 k2 p1 p2))
theorem yAdd (y1 : Y w A hb h (eval l env) (IsI a)) (y2 : Y w A hb h (eval r env) (IsI b)) : Y w A hb h (eval (.BinOp l .Add r pos) env) (IsI (a + b)) :=
  yBinop y1 (fun _ _ _ k _ => y2.keep k) fun _ _ _ _ _ _ _ _ ⟨_, p⟩ ⟨_, q⟩ => by subst p q; exact yTok fun s Q E _ _ q => PyProof.Rows.add_int (q _ _ fun _ _ => ⟨_, rfl⟩)
theorem ySub (y1 : Y w A hb h (eval l env) (IsI a)) (y2 : Y w A hb h (eval r env) (IsI b)) : Y w A hb h (eval (.BinOp l .Sub r pos) env) (IsI (a - b)) :=
  yBinop y1 (fun _ _ _ k _ => y2.keep k) fun _ _ _ _ _ _ _ _ ⟨_, p⟩ ⟨_, q⟩ => by subst p q; exact yTok fun s Q E _ _ q => PyProof.Rows.sub_int (q _ _ fun _ _ => ⟨_, rfl⟩)
theorem yMul (y1 : Y w A hb h (eval l env) (IsI a)) (y2 : Y w A hb h (eval r env) (IsI b)) (hm : PySem.IntMulOk a b) : Y w A hb h (eval (.BinOp l .Mult r pos) env) (IsI (a * b)) :=
  yBinop y1 (fun _ _ _ k _ => y2.keep k) fun _ _ _ _ _ _ _ _ ⟨_, p⟩ ⟨_, q⟩ => by subst p q; exact yTok fun s Q E _ _ q => PyProof.Rows.mul_int (q _ _ fun _ _ => ⟨_, rfl⟩) hm
theorem yMod (y1 : Y w A hb h (eval l env) (IsI a)) (y2 : Y w A hb h (eval r env) (IsI b)) (h0 : b ≠ 0) : Y w A hb h (eval (.BinOp l .Mod r pos) env) (IsI (a.fmod b)) :=
  yBinop y1 (fun _ _ _ k _ => y2.keep k) fun _ _ _ _ _ _ _ _ ⟨_, p⟩ ⟨_, q⟩ => by subst p q; exact yTok fun s Q E _ _ q => PyProof.Rows.mod_int h0 (q _ _ fun _ _ => ⟨_, rfl⟩)
theorem yDiv (y1 : Y w A hb h (eval l env) (IsI a)) (y2 : Y w A hb h (eval r env) (IsI b)) (h0 : b ≠ 0) (hs : b.natAbs < 1073741824) : Y w A hb h (eval (.BinOp l .FloorDiv r pos) env) (IsI (a.fdiv b)) :=
  yBinop y1 (fun _ _ _ k _ => y2.keep k) fun _ _ _ _ _ _ _ _ ⟨_, p⟩ ⟨_, q⟩ => by subst p q; exact yTok fun s Q E _ _ q => PyProof.Rows.floordiv_int h0 (q _ _ fun _ _ => ⟨_, rfl⟩) (Or.inl (PyProof.noPylong_small hs))

theorem yCompare {op : CmpOp} {P1 P2 P : Value → Heap → Prop} (y1 : Y w A hb h (eval l env) P1) (y2 : ∀ v b1 h1, Up hb h b1 h1 → P1 v b1 → Y w A b1 h1 (eval r env) P2)
    (y3 : ∀ a b b1 h1 b2 h2, Up hb h b1 h1 → Up b1 h1 b2 h2 → P1 a b1 → P2 b b2 → Y w A b2 h2 (compareOp op a b) P) (hm : behindInMarks op r = false := by with_unfolding_all rfl) : Y w A hb h (eval (.Compare l [op] [r] pos) env) P := by
  rw [eval_Compare1, markedBehindIn_of_false hm]
  exact yBind y1 fun a b1 h1 k1 p1 => yBind (yHolding (y2 a b1 h1 k1 p1)) fun b b2 h2 k2 p2 => ySeq_standAt (yOperate (y3 a b b1 h1 b2 h2 k1 k2 p1 p2))
def cmpB : CmpOp → Int → Int → Bool
  | .Lt, a, b => decide (a < b)
  | .LtE, a, b => decide (a ≤ b)
  | .Gt, a, b => decide (b < a)
  | .GtE, a, b => decide (b ≤ a)
  | .Eq, a, b => a == b
  | .NotEq, a, b => a != b
  | _, _, _ => false
def intOp : CmpOp → Bool
  | .Lt | .LtE | .Gt | .GtE | .Eq | .NotEq => true
  | _ => false
theorem yCmpInt {op : CmpOp} {t u : Tok} (ho : intOp op = true) : Y w A hb h (compareOp op (.int a t) (.int b u)) (Is (Value.bool (cmpB op a b))) :=
  yTok fun s Q E _ _ q => by
    cases op <;> first | cases ho | skip
    · exact PyProof.Rows.eq_int (q _ s.toks fun _ _ => rfl)
    · exact PyProof.Rows.ne_int (q _ s.toks fun _ _ => rfl)
    · exact PyProof.Rows.lt_int (q _ s.toks fun _ _ => rfl)
    · exact PyProof.Rows.le_int (q _ s.toks fun _ _ => rfl)
    · exact PyProof.Rows.gt_int (q _ s.toks fun _ _ => rfl)
    · exact PyProof.Rows.ge_int (q _ s.toks fun _ _ => rfl)
theorem yCmp {op : CmpOp} (y1 : Y w A hb h (eval l env) (IsI a)) (y2 : Y w A hb h (eval r env) (IsI b)) (ho : intOp op = true := by rfl) (hm : behindInMarks op r = false := by with_unfolding_all rfl) :
    Y w A hb h (eval (.Compare l [op] [r] pos) env) (Is (Value.bool (cmpB op a b))) :=
  yCompare y1 (fun _ _ _ k _ => y2.keep k) (fun _ _ _ _ _ _ _ _ ⟨_, p⟩ ⟨_, q⟩ => by subst p q; exact yCmpInt ho) hm
theorem yTruthy_bool {b : Bool} : Y w A hb h (truthy (.bool b)) (Is b) := yTok fun s Q E _ _ q => wpAny_truthy_bool (q _ s.toks fun _ _ => rfl)
theorem yTestCompare {op : CmpOp} {whole : Sem Value} {b : Bool} (y : Y w A hb h (eval (.Compare l [op] [r] pos) env) (Is (Value.bool b))) (hm : behindInMarks op r = false := by with_unfolding_all rfl) :
    Y w A hb h (isTrue (.Compare l [op] [r] pos) env whole) (Is b) := by
  rw [isTrue_Compare1]
  rw [eval_Compare1] at y
  have e : (do let a ← eval l env; let b ← PySem.holding [a] (markedBehindIn op r (eval r env)); PySem.standAt pos; let c ← PySem.operate [a, b] (compareOp op a b); PySem.holding [c] (truthy c) : Sem Bool)
     = ((do let a ← eval l env; let b ← PySem.holding [a] (markedBehindIn op r (eval r env)); PySem.standAt pos; PySem.operate [a, b] (compareOp op a b) : Sem Value) >>= fun c => PySem.holding [c] (truthy c)) := by simp only [bind_assoc]
  rw [e]
  exact yBind y fun v b1 h1 _ p => by cases p; exact yHolding yTruthy_bool
end ops
end Mine
end
noncomputable section
open PySem PySem.W PyProof.Rows PySem.Calls
set_option Elab.async false
set_option maxRecDepth 100000
set_option linter.unusedVariables false
namespace Mine

section tests
variable {w : World} {A : Around} {hb h : Heap} {env : Env} {pos : Pos} {e : Expr} {whole : Sem Value}
theorem yTest_value {P : Value → Heap → Prop} {b : Bool} (y : Y w A hb h whole P) (z : ∀ v b1 h1, Up hb h b1 h1 → P v b1 → Y w A b1 h1 (truthy v) (Is b))
    (he : isTrue e env whole = (do let v ← whole; PySem.standAt e.pos; PySem.holding [v] (truthy v)) := by rfl) : Y w A hb h (isTrue e env whole) (Is b) := by
  rw [he]; exact yBind y fun v b1 h1 k p => ySeq_standAt (yHolding (z v b1 h1 k p))
theorem yTest_bool {b : Bool} (y : Y w A hb h whole (Is (Value.bool b))) (he : isTrue e env whole = (do let v ← whole; PySem.standAt e.pos; PySem.holding [v] (truthy v)) := by rfl) : Y w A hb h (isTrue e env whole) (Is b) :=
  yTest_value y (fun v b1 h1 _ p => by cases p; exact yTruthy_bool) he
theorem yTestNot {x : Expr} {b : Bool} (y : Y w A hb h (isTrue x env (eval x env)) (Is b)) : Y w A hb h (isTrue (.UnaryOp .Not x pos) env whole) (Is (!b)) := by
  rw [arm_isTrue_UnaryOp]; exact yBind y fun v b1 h1 _ p => by cases p; exact yPure fun _ _ => rfl
theorem yAndNil : Y w A hb h (allTrue .And [] env) (Is true) := yPure fun _ _ => rfl
theorem yOrNil : Y w A hb h (allTrue .Or [] env) (Is false) := yPure fun _ _ => rfl
theorem yAndCons {x : Expr} {rest : List Expr} {b c : Bool} (y : Y w A hb h (isTrue x env (eval x env)) (Is b)) (z : b = true → Y w A hb h (allTrue .And rest env) (Is c)) : Y w A hb h (allTrue .And (x :: rest) env) (Is (b && c)) := by
  show Y w A hb h (do match BoolOp.And, ← isTrue x env (eval x env) with | .And, false => pure false | .Or, true => pure true | _, _ => allTrue .And rest env) _
  refine yBind y fun v b1 h1 k p => ?_
  cases p
  cases b
  · exact yPure fun _ _ => rfl
  · exact ((z rfl).keep k)
theorem yOrCons {x : Expr} {rest : List Expr} {b c : Bool} (y : Y w A hb h (isTrue x env (eval x env)) (Is b)) (z : b = false → Y w A hb h (allTrue .Or rest env) (Is c)) : Y w A hb h (allTrue .Or (x :: rest) env) (Is (b || c)) := by
  show Y w A hb h (do match BoolOp.Or, ← isTrue x env (eval x env) with | .And, false => pure false | .Or, true => pure true | _, _ => allTrue .Or rest env) _
  refine yBind y fun v b1 h1 k p => ?_
  cases p
  cases b
  · exact ((z rfl).keep k)
  · exact yPure fun _ _ => rfl
theorem yTestBoolOp {op : BoolOp} {values : List Expr} {b : Bool} (y : Y w A hb h (allTrue op values env) (Is b)) : Y w A hb h (isTrue (.BoolOp op values pos) env whole) (Is b) := by
  rw [arm_isTrue_BoolOp]; exact y
theorem yValAnd {t t2 : Sem Value} {rest : List (Sem Value)} {b c : Bool} (y : Y w A hb h t (Is (Value.bool b))) (z : b = true → Y w A hb h (boolOp pos .And (t2 :: rest)) (Is (Value.bool c))) :
    Y w A hb h (boolOp pos .And (t :: t2 :: rest)) (Is (Value.bool (b && c))) := by
  show Y w A hb h (do
    let v ← t
    PySem.standAt pos
    let t ← PySem.holding [v] (truthy v)
    match BoolOp.And, t with
    | .And, false | .Or, true => Pure.pure v
    | _, _ => boolOp pos .And (t2 :: rest)) _
  refine yBind y fun v b1 h1 k p => ?_
  cases p
  refine ySeq_standAt (yBind (yHolding yTruthy_bool) fun v b2 h2 k2 p => ?_)
  cases p
  cases b
  · exact yPure fun _ _ => rfl
  · exact ((z rfl).keep (k.trans k2))
theorem yBoolOp {values : List Expr} {op : BoolOp} {P : Value → Heap → Prop} (y : Y w A hb h (PySem.boolOp pos op (evalEach values env)) P) : Y w A hb h (eval (.BoolOp op values pos) env) P := by
  rw [arm_eval_BoolOp]; exact y
theorem yIfExp {test body orelse : Expr} {b : Bool} {P : Value → Heap → Prop} (y : Y w A hb h (isTrue test env (eval test env)) (Is b)) (z1 : b = true → Y w A hb h (eval body env) P) (z2 : b = false → Y w A hb h (eval orelse env) P) :
    Y w A hb h (eval (.IfExp test body orelse pos) env) P := by
  rw [arm_eval_IfExp]
  refine yBind y fun v b1 h1 k p => ?_
  cases p
  cases b
  · exact ((z2 rfl).keep k)
  · exact ((z1 rfl).keep k)
end tests

section attrs
variable {w : World} {A : Around} {hb h : Heap} {env : Env} {pos : Pos}
theorem yAttr {value : Expr} {attr : Str} {P1 P : Value → Heap → Prop} (y : Y w A hb h (eval value env) P1) (z : ∀ o b1 h1, Up hb h b1 h1 → P1 o b1 → Y w A b1 h1 (getAttr o attr true) P)
    (he : eval (.Attribute value attr pos) env = (do
      let o ← eval value env
      PySem.standAt pos.atName
      let r ← PySem.holding [o] (getAttr o attr true)
      letTemporaryGo value o r
      Pure.pure r) := by rfl) : Y w A hb h (eval (.Attribute value attr pos) env) P := by
  rw [he]
  refine yBind y fun o b1 h1 k p => ySeq_standAt ?_
  intro s b u Q E q
  refine wpAny_bind (wpAny_holding (z o b1 h1 k p s b u _ E fun v b' h' tk pv kv => ?_))
  exact wpAny_bind (wpAny_letTemporaryGo (wpAny_pure (q v b' h' tk pv kv)))

structure InstD (h : Heap) (x C dx : Addr) (m : Str → Option Value) (n : Nat) : Prop where
  obj : h.get? x = some ⟨.ref C, some dx, .plain, #[]⟩
  dict : ∃ es ep, h.get? dx = some ⟨.type "dict", none, .dict es ep, #[]⟩ ∧ StrKeys es ∧ (∀ name, nsFind es name = m name) ∧ es.size ≤ n
theorem InstD.keep {h h' : Heap} {x C dx : Addr} {m : Str → Option Value} {n : Nat} (I : InstD h x C dx m n) (k : Keep h h') : InstD h' x C dx m n :=
  ⟨k _ _ I.obj, let ⟨es, ep, b, c⟩ := I.dict; ⟨es, ep, k _ _ b, c⟩⟩
def Inst (h : Heap) (x C : Addr) (m : Str → Option Value) : Prop := ∃ dx, InstD h x C dx m 100
theorem Inst.keep {h h' : Heap} {x C : Addr} {m : Str → Option Value} (I : Inst h x C m) (k : Keep h h') : Inst h' x C m :=
  let ⟨dx, i⟩ := I; ⟨dx, i.keep k⟩
theorem lookIn_of {es : Array DictEntry} {ep : Nat} {cl : Value} {d : Option Addr} {sl : Array (Option Value)} (hk : StrKeys es) (name : Str) : lookIn name ⟨cl, d, .dict es ep, sl⟩ = some (nsFind es name) := by
  unfold lookIn nsFind findBy
  dsimp only
  rw [← Array.find?_toList]
  cases hf : es.toList.find? (·.key.isStr name) with
  | some e => rfl
  | none =>
    have : es.toList.any (·.refKey) = false := by
      rw [List.any_eq_false]; intro e he; obtain ⟨n, t, h⟩ := hk e (by simpa using he); simp [DictEntry.refKey, h]
    simp [this]
theorem InstD.at {h : Heap} {x C dx : Addr} {m : Str → Option Value} {n : Nat} (I : InstD h x C dx m n) : ∃ ox od, InstAt h x ox C (some od) ∧ ox.dict = some dx ∧ ∀ name, lookIn name od = some (m name) := by
  obtain ⟨a, es, ep, b, c, d, _⟩ := I
  exact ⟨_, _, ⟨a, rfl, rfl, b⟩, rfl, fun name => by rw [lookIn_of c, d]⟩
theorem Inst.at {h : Heap} {x C : Addr} {m : Str → Option Value} (I : Inst h x C m) : ∃ ox od, InstAt h x ox C (some od) ∧ ∀ name, lookIn name od = some (m name) := by
  obtain ⟨dx, i⟩ := I
  obtain ⟨ox, od, a, _, b⟩ := i.at
  exact ⟨ox, od, a, b⟩

structure Fld (w : World) (C : Addr) (name : Str) : Prop where
  ga : findIn (KK w) (.ref C) "__getattribute__" = some (some (.builtin "object.__getattribute__"))
  hd : hasDictIn (KK w) C = true
  no : findIn (KK w) (.ref C) name = some none
theorem yField {x C : Addr} {m : Str → Option Value} {name : Str} {v : Value} {expr : Bool} (G : Glob w hb) (I : Inst h x C m) (F : Fld w C name) (hm : m name = some v) (hh : handedIn v = true) : Y w A hb h (getAttr (.ref x) name expr) (Is v) :=
  yTok fun s Q E kb ks q => by
    obtain ⟨ox, od, I', l⟩ := (I.keep ks).at
    exact get_value (G.K.keeps kb) I' F.ga (findObj_own F.hd F.no rfl (by rw [l, hm])) hh (q v _ fun _ _ => rfl)
theorem yGetField {x C : Addr} {m : Str → Option Value} {name : Str} {v : Value} {value : Expr} (G : Glob w hb) (y : Y w A hb h (eval value env) (Is (.ref x))) (I : Inst h x C m) (F : Fld w C name) (hm : m name = some v) (hh : handedIn v = true)
    (he : eval (.Attribute value name pos) env = (do
      let o ← eval value env
      PySem.standAt pos.atName
      let r ← PySem.holding [o] (getAttr o name true)
      letTemporaryGo value o r
      Pure.pure r) := by rfl) : Y w A hb h (eval (.Attribute value name pos) env) (Is v) :=
  yAttr y (fun o b1 h1 k p => by cases p; exact yField (G.keep k.b) (I.keep k.h) F hm hh) he

structure Prp (w : World) (C : Addr) (name : Str) (f : Addr) : Prop where
  ga : findIn (KK w) (.ref C) "__getattribute__" = some (some (.builtin "object.__getattribute__"))
  gk : findIn (KK w) (.ref C) "__getattr__" = some none
  cl : (clsIn (KK w) C).isSome = true
  ex : ∃ p rest, findIn (KK w) (.ref C) name = some (some (.ref p)) ∧ specialIn (KK w) (.ref p) "__get__" = some (some (.builtin "property.__get__")) ∧ takesIn (KK w) (.ref p) = some true ∧ recIn (KK w) p "property" = some (.ref f :: rest)

def C (w : World) (A : Around) (hb h : Heap) (f : Value) (pos : List Value) (kw : List (Str × Value)) (P : Value → Heap → Prop) : Prop :=
  ∀ (s : Shared) (b : Heap), Up hb h b s.heap → ∀ (R : Result → Shared → Prop),
    (∀ v b' h' tk, P v b' → Res b b' s.heap h' → R (.ok (.ret v)) { s with heap := h', toks := tk }) → codeAny (model PG w) A (.call f ⟨pos, kw⟩) R s
theorem yCall {f : Value} {vs : List Value} {kw : List (Str × Value)} {P : Value → Heap → Prop} (c : C w A hb h f vs kw P) : Y w A hb h (call f vs kw) P :=
  fun s b u Q E q => wpAny_call (c s b u _ fun v b' h' tk p k => q v b' h' tk p k)
theorem C.keep {b' h' : Heap} {f : Value} {vs : List Value} {kw : List (Str × Value)} {P : Value → Heap → Prop} (c : C w A hb h f vs kw P) (k : Up hb h b' h') : C w A b' h' f vs kw P := fun s b u => c s b (k.trans u)
theorem yProp {x C₀ f : Addr} {m : Str → Option Value} {name : Str} {expr : Bool} {P : Value → Heap → Prop} (G : Glob w hb) (I : Inst h x C₀ m) (F : Prp w C₀ name f) (y : C w A.in1 hb h (.ref f) [.ref x] [] P) (hh : ∀ v h', P v h' → handedIn v = true) :
    Y w A hb h (getAttr (.ref x) name expr) P := by
  intro s b u Q E q
  have kb := u.b.trans u.i
  obtain ⟨ox, od, I', l⟩ := (I.keep u.h).at
  obtain ⟨p, rest, e1, e2, e3, e4⟩ := F.ex
  have G' := G.keep kb
  refine get_bind G'.K I' F.ga (findObj_data F.cl e1 e2 e3) F.gk (wpAny_call (prop_get (s := { s with toks := s.toks + 1 }) G'.K e4 ?_))
  refine y { s with toks := s.toks + 1 } b u _ fun v b' h' tk pv kv => ?_
  show wpAny _ _ (handedOut v) _ _ _
  rw [handedOut_of (hh v b' pv)]
  exact wpAny_pure (q v b' h' tk pv kv)
theorem yGetProp {x C₀ f : Addr} {m : Str → Option Value} {name : Str} {value : Expr} {P : Value → Heap → Prop} (G : Glob w hb) (y : Y w A hb h (eval value env) (Is (.ref x))) (I : Inst h x C₀ m) (F : Prp w C₀ name f) (c : C w A.in1 hb h (.ref f) [.ref x] [] P)
    (hh : ∀ v h', P v h' → handedIn v = true)
    (he : eval (.Attribute value name pos) env = (do
      let o ← eval value env
      PySem.standAt pos.atName
      let r ← PySem.holding [o] (getAttr o name true)
      letTemporaryGo value o r
      Pure.pure r) := by rfl) : Y w A hb h (eval (.Attribute value name pos) env) P :=
  yAttr y (fun o b1 h1 k p => by cases p; exact yProp (G.keep k.b) (I.keep k.h) F (c.keep k) hh) he
end attrs

section calls
variable {w : World} {A : Around} {hb h : Heap} {env : Env} {pos : Pos}
theorem yArgs_nil {R : List Value → Heap → Prop} (p : ∀ h', Keep hb h' → R [] h') : Y w A hb h (spliced (backTo pos (starEach [] env))) R :=
  fun s b u Q E q => wpAny_items_nil (q [] b s.heap s.toks (p _ u.b) (.refl u.i))
theorem yArgs_cons {e : Expr} {rest : List Expr} {P1 : Value → Heap → Prop} {R : List Value → Heap → Prop} (y : Y w A hb h (eval e env) P1)
    (z : ∀ v b1 h1, Up hb h b1 h1 → P1 v b1 → Y w A b1 h1 (spliced (backTo pos (starEach rest env))) fun vs h' => R (v :: vs) h')
    (he : starEach (e :: rest) env = (false, eval e env) :: starEach rest env := by rfl) : Y w A hb h (spliced (backTo pos (starEach (e :: rest) env))) R :=
  fun s b u Q E q => wpAny_items_cons (y s b u _ E fun v b1 h1 tk p r => z v b1 h1 (u.trans r.up) p _ b1 ⟨.refl _, .refl _, r.up.i⟩ _ E fun vs b2 h2 tk2 p2 r2 => q _ b2 h2 tk2 p2 (r.trans r2)) he
theorem yEvalArgs0 {f : Value} {R : List Value → Heap → Prop} (p : ∀ h', Keep hb h' → R [] h') : Y w A hb h (evalArgs f true (backTo pos (starEach [] env)) []) (fun a h' => a.kw = [] ∧ R a.pos h') :=
  fun s b u Q E q => evalArgs_nil3 (q ⟨[], []⟩ b s.heap s.toks ⟨rfl, p _ u.b⟩ (.refl u.i))
theorem yEvalArgs {f : Value} {e : Expr} {r : List Expr} {R : List Value → Heap → Prop} (y : Y w A hb h (spliced (backTo pos (starEach (e :: r) env))) R)
    (he : starEach (e :: r) env = (false, eval e env) :: starEach r env := by rfl) : Y w A hb h (evalArgs f true (backTo pos (starEach (e :: r) env)) []) (fun a h' => a.kw = [] ∧ R a.pos h') := by
  intro s b u Q E q
  have y' := y s b u (fun vs s' => Q ⟨vs, []⟩ s') E (fun vs b' h' tk p k => q ⟨vs, []⟩ b' h' tk ⟨rfl, p⟩ k)
  rw [he] at y' ⊢
  exact evalArgs_plain y'
def Kept (w : World) (h : Heap) (f : Value) : Prop := ∀ h', Keep h h' → ∃ k, (k = Keeper.frame ∨ k = Keeper.machine ∨ k = Keeper.boundFrame) ∧ Looks (model PG w) h' (keeperOf f) k
theorem kept_K {f : Value} (G : Glob w hb) (e : keepIn (KK w) f = true) : Kept w hb f := fun h' k => keeps_K e h' (G.K.keeps k)
theorem kept_bltn {i : String} : Kept w hb (.builtin i) := fun h' k => ⟨.machine, .inr (.inl rfl), Looks.of_pure rfl⟩
theorem kept_type {i : String} : Kept w hb (.type i) := fun h' k => ⟨.machine, .inr (.inl rfl), Looks.of_pure rfl⟩
theorem yCallWith {f : Value} {first : List Value} {args : List (Bool × Sem Value)} {kws : List (Option Str × Sem Value)} {R : Args → Heap → Prop} {P : Value → Heap → Prop} (hk : Kept w hb f)
    (ya : Y w A hb h (evalArgs f true args kws) R) (z : ∀ a b1 h1, Up hb h b1 h1 → R a b1 → Y w A b1 h1 (call f (first ++ a.pos) a.kw) P) (hplain : (args.any (·.1) || kws.any (·.1.isNone)) = false := by rfl) :
    Y w A hb h (callWith pos f first args kws) P := by
  intro s b u Q E q
  refine callWith_of (P := fun h' => Keep hb h') hplain (fun h' k => hk h' k) (ya s b u _ E fun a b1 h1 tk p r => ?_)
  exact ⟨(u.trans r.up).b.trans r.up.i, z a b1 h1 (u.trans r.up) p _ b1 ⟨.refl _, .refl _, r.up.i⟩ _ _ fun v b2 h2 tk2 p2 r2 => q v b2 h2 tk2 p2 (r.trans r2)⟩
theorem yCallName {id : Str} {p : Pos} {f : Value} {e : Expr} {r : List Expr} {R : List Value → Heap → Prop} {P : Value → Heap → Prop} (yf : Y w A hb h (eval (.Name id p) env) (Is f)) (hk : Kept w hb f)
    (ya : Y w A hb h (spliced (backTo pos (starEach (e :: r) env))) R) (z : ∀ vs b1 h1, Up hb h b1 h1 → R vs b1 → Y w A b1 h1 (call f vs []) P)
    (he : starEach (e :: r) env = (false, eval e env) :: starEach r env := by rfl) (hplain : ((backTo pos (starEach (e :: r) env)).any (·.1) || (backToKw pos (keywordEach [] env)).any (·.1.isNone)) = false := by rfl) :
    Y w A hb h (eval (.Call (.Name id p) (e :: r) [] pos) env) P := by
  rw [arm_eval_Call_Name']
  refine yBind yf fun v b1 h1 k pv => ?_
  cases pv
  refine yCallWith (fun h' k' => hk h' (k.b.trans k')) ((yEvalArgs ya he).keep k) (fun a b2 h2 k2 ⟨ak, ap⟩ => ?_) hplain
  rw [ak, List.nil_append]
  exact z a.pos b2 h2 (k.trans k2) ap
theorem yCallMeth {o : Expr} {name : Str} {apos : Pos} {pl : Sem Bool} {ov : Value} {f : Value} {first : List Value} {e : Expr} {r : List Expr} {R : List Value → Heap → Prop} {P : Value → Heap → Prop}
    (yo : Y w A hb h (eval o env) (Is ov)) (ym : Y w A hb h (getMethod ov name pl) (Is (f, first))) (hk : Kept w hb f)
    (ya : Y w A hb h (spliced (backTo pos (starEach (e :: r) env))) R) (z : ∀ vs b1 h1, Up hb h b1 h1 → R vs b1 → Y w A b1 h1 (call f (first ++ vs) []) P)
    (he : starEach (e :: r) env = (false, eval e env) :: starEach r env := by rfl) (hplain : ((backTo pos (starEach (e :: r) env)).any (·.1) || (backToKw pos (keywordEach [] env)).any (·.1.isNone)) = false := by rfl)
    (ht : eval (.Call (.Attribute o name apos) (e :: r) [] pos) env = (do
      let ov ← eval o env
      PySem.standAt apos.atName
      let (f, first) ← PySem.holding [ov] (getMethod ov name pl)
      callWith pos f first (backTo pos (starEach (e :: r) env)) (backToKw pos (keywordEach [] env))) := by rfl) :
    Y w A hb h (eval (.Call (.Attribute o name apos) (e :: r) [] pos) env) P := by
  rw [ht]
  refine yBind yo fun v b1 h1 k pv => ?_
  cases pv
  refine ySeq_standAt (yBind (yHolding (ym.keep k)) fun fx b2 h2 k2 pv => ?_)
  cases pv
  refine yCallWith (fun h' k' => hk h' ((k.trans k2).b.trans k')) ((yEvalArgs ya he).keep (k.trans k2)) (fun a b3 h3 k3 ⟨ak, ap⟩ => ?_) hplain
  rw [ak]
  exact z a.pos b3 h3 ((k.trans k2).trans k3) ap
structure Mth (w : World) (C : Addr) (name : Str) (f : Addr) : Prop where
  ga : findIn (KK w) (.ref C) "__getattribute__" = some (some (.builtin "object.__getattribute__"))
  gk : findIn (KK w) (.ref C) "__getattr__" = some none
  at_ : findIn (KK w) (.ref C) name = some (some (.ref f))
  fn : typeIn (KK w) (.ref f) = some (.type "function")
theorem yMethod {x C₀ f : Addr} {m : Str → Option Value} {name : Str} {pl : Sem Bool} (G : Glob w hb) (I : Inst h x C₀ m) (M : Mth w C₀ name f) (hm : m name = none) : Y w A hb h (getMethod (.ref x) name pl) (Is (.ref f, [.ref x])) :=
  yTok fun s Q E kb ks q => by
    obtain ⟨ox, od, I', l⟩ := (I.keep ks).at
    exact method_fn (G.K.keeps kb) I' M.ga M.gk M.at_ M.fn (by show Option.map _ (lookIn name od) = _; rw [l, hm]; rfl) (q _ s.toks fun _ _ => rfl)
end calls
end Mine
end
noncomputable section
open PySem PySem.W PyProof.Rows PySem.Calls
set_option Elab.async false
set_option maxRecDepth 100000
set_option linter.unusedVariables false
namespace Mine

inductive Own where
  | ns (m : Str → Option Value)
  | lst (xs : Array Value)
  | itr (l : Addr) (i : Nat)
  | rng (x left step : Int)
  | idc (m : Str → Option Value) (n : Nat)
  | cel (v : Option Value)
  | obj (o : Obj)
  | tab
def Own.At (h : Heap) (a : Addr) : Own → Prop
  | .ns m => h.Ns a m
  | .lst xs => h.PlainList a xs
  | .itr l i => h.IsListIter a l i
  | .rng x l s => IsRangeIter h a x l s
  | .idc m n => ∃ es ep, h.get? a = some ⟨.type "dict", none, .dict es ep, #[]⟩ ∧ StrKeys es ∧ (∀ name, nsFind es name = m name) ∧ es.size ≤ n
  | .cel v => h.IsCell a v
  | .obj o => h.get? a = some o
  | .tab => ∃ ps, h.get? a = some { cls := .none, data := .fields ps } ∧ TriplesOk ps.toList
theorem Own.At.some {h : Heap} {a : Addr} {w : Own} (x : w.At h a) : ∃ o, h.get? a = some o := by
  cases w with
  | ns m => obtain ⟨o, _, _, e, _⟩ := x; exact ⟨o, e⟩
  | lst xs => obtain ⟨n, e⟩ := x; exact ⟨_, e⟩
  | itr l i => obtain ⟨o, e, _⟩ := x; exact ⟨o, e⟩
  | rng x l s => exact ⟨_, x⟩
  | idc m n => obtain ⟨es, ep, e, _⟩ := x; exact ⟨_, e⟩
  | cel v => obtain ⟨o, e, _⟩ := x; exact ⟨o, e⟩
  | obj o => exact ⟨o, x⟩
  | tab => obtain ⟨_, e, _⟩ := x; exact ⟨_, e⟩
theorem Own.At.at {h h' : Heap} {a : Addr} {w : Own} (x : w.At h a) (k : ∀ o, h.get? a = .some o → h'.get? a = .some o) : w.At h' a := by
  cases w with
  | ns m => exact Heap.Ns.at' x k
  | lst xs => exact Heap.PlainList.at x k
  | itr l i => exact Heap.IsListIter.at x k
  | rng y l s => exact k _ x
  | idc m n => obtain ⟨es, ep, e, r⟩ := x; exact ⟨es, ep, k _ e, r⟩
  | cel v => obtain ⟨o, e, r⟩ := x; exact ⟨o, k _ e, r⟩
  | obj o => exact k _ x
  | tab => obtain ⟨ps, e, r⟩ := x; exact ⟨ps, k _ e, r⟩
theorem Own.At.keep {h h' : Heap} {a : Addr} {w : Own} (x : w.At h a) (k : Keep h h') : w.At h' a := x.at fun o e => k _ _ e

def Ext (a : Addr) (h h' : Heap) : Prop := ∀ b o, b ≠ a → h.get? b = some o → h'.get? b = some o
theorem Ext.of_same {a : Addr} {h h' : Heap} (s : Heap.SameBut a h h') : Ext a h h' := fun b o n e => (s.2 b n).trans e
theorem Ext.of_keep {a : Addr} {h h' : Heap} (s : Keep h h') : Ext a h h' := fun b o _ e => s b o e
theorem Ext.trans {a : Addr} {h h' h'' : Heap} (x : Ext a h h') (y : Ext a h' h'') : Ext a h h'' := fun b o n e => y b o n (x b o n e)

structure St (h0 hb0 hb : Heap) (O : List (Addr × Own)) (h : Heap) : Prop where
  res : Res hb0 hb h0 h
  own : ∀ p ∈ O, p.2.At h p.1 ∧ hb.get? p.1 = none ∧ h0.get? p.1 = none
  nd : (O.map (·.1)).Nodup

section
variable {h0 hb0 hb hb' h h' : Heap} {O pre post : List (Addr × Own)} {a : Addr} {o o' : Own}
theorem St.base (S : St h0 hb0 hb O h) : Keep hb h := S.res.up.i
theorem St.keep (S : St h0 hb0 hb O h) : Keep h0 h := S.res.up.h
theorem St.up (S : St h0 hb0 hb O h) (r : Res hb hb' h h') : St h0 hb0 hb' O h' :=
  ⟨S.res.trans r, fun p m => let ⟨x, y, z⟩ := S.own p m; let ⟨ob, e⟩ := x.some; ⟨x.keep r.up.h, r.new _ ob e y, z⟩, S.nd⟩
theorem St.grow (S : St h0 hb0 hb O h) (k : Keep h h') : St h0 hb0 hb O h' := S.up (.grow S.base k)
theorem St.mem (S : St h0 hb0 hb O h) {p : Addr × Own} (m : p ∈ O) : p.2.At h p.1 := (S.own p m).1
theorem St.ns {L : Addr} {m : Str → Option Value} (S : St h0 hb0 hb ((L, .ns m) :: O) h) : h.Ns L m := S.mem (.head _)
theorem St.upd (S : St h0 hb0 hb (pre ++ (a, o) :: post) h) (k : Ext a h h') (x : o'.At h' a) : St h0 hb0 hb (pre ++ (a, o') :: post) h' := by
  have ha := S.own (a, o) (List.mem_append_right _ (.head _))
  have nd := S.nd
  have nb : ∀ b ob, hb.get? b = some ob → b ≠ a := fun b ob e n => by subst n; rw [ha.2.1] at e; cases e
  have n0 : ∀ b ob, h0.get? b = some ob → b ≠ a := fun b ob e n => by subst n; rw [ha.2.2] at e; cases e
  refine ⟨⟨⟨S.res.up.b, fun b ob e => k b ob (n0 b ob e) (S.res.up.h b ob e), fun b ob e => k b ob (nb b ob e) (S.res.up.i b ob e)⟩, S.res.new⟩, fun p m => ?_, ?_⟩
  · rw [List.map_append, List.map_cons, List.nodup_append] at nd
    obtain ⟨n1, n2, n3⟩ := nd
    rw [List.nodup_cons] at n2
    have other : p ∈ pre ∨ p ∈ post → p.1 ≠ a := by
      rintro (m | m) e
      · exact n3 p.1 (List.mem_map_of_mem m) a (by simp) e
      · exact n2.1 (List.mem_map.mpr ⟨p, m, e⟩)
    rcases List.mem_append.mp m with m | m
    · obtain ⟨y, z⟩ := S.own p (List.mem_append_left _ m)
      exact ⟨y.at fun ob e => k _ ob (other (.inl m)) e, z⟩
    · rcases List.mem_cons.mp m with rfl | m
      · exact ⟨x, ha.2⟩
      · obtain ⟨y, z⟩ := S.own p (List.mem_append_right _ (.tail _ m))
        exact ⟨y.at fun ob e => k _ ob (other (.inr m)) e, z⟩
  · rw [List.map_append, List.map_cons] at nd ⊢; exact nd
theorem St.sub (S : St h0 hb0 hb O h) {O' : List (Addr × Own)} (s : O'.Sublist O) : St h0 hb0 hb O' h :=
  ⟨S.res, fun p m => S.own p (s.subset m), S.nd.sublist (s.map _)⟩
theorem St.add (S : St h0 hb0 hb (pre ++ post) h) (k : Keep h h') (n : h.get? a = none) (x : o.At h' a) : St h0 hb0 hb (pre ++ (a, o) :: post) h' := by
  have S' := S.grow k
  have hn : ∀ p ∈ pre ++ post, p.1 ≠ a := fun p m e => by obtain ⟨ob, q⟩ := (S.own p m).1.some; rw [e, n] at q; cases q
  refine ⟨S'.res, fun p m => ?_, ?_⟩
  · rcases List.mem_append.mp m with m | m
    · exact S'.own p (List.mem_append_left _ m)
    · rcases List.mem_cons.mp m with rfl | m
      · refine ⟨x, ?_, ?_⟩
        · cases e : hb.get? a with
          | none => rfl
          | some ob => have := S.base _ _ e; rw [n] at this; cases this
        · cases e : h0.get? a with
          | none => rfl
          | some ob => have := S.res.up.h _ _ e; rw [n] at this; cases this
      · exact S'.own p (List.mem_append_right _ m)
  · have nd := S.nd
    rw [List.map_append, List.nodup_append] at nd
    rw [List.map_append, List.map_cons, List.nodup_append]
    refine ⟨nd.1, List.nodup_cons.mpr ⟨fun m => ?_, nd.2.1⟩, fun x hx y hy => ?_⟩
    · obtain ⟨p, hp, e⟩ := List.mem_map.mp m; exact hn p (List.mem_append_right _ hp) e
    · rcases List.mem_cons.mp hy with rfl | hy
      · obtain ⟨p, hp, e⟩ := List.mem_map.mp hx; rw [← e]; exact hn p (List.mem_append_left _ hp)
      · exact nd.2.2 x hx y hy
theorem St.freeze (S : St h0 hb0 hb (pre ++ (a, o) :: post) h) : ∃ hb', St h0 hb0 hb' (pre ++ post) h ∧ Keep hb hb' ∧ o.At hb' a := by
  have ha := S.own (a, o) (List.mem_append_right _ (.head _))
  obtain ⟨hb', e⟩ := Heap.part h fun b => (hb.get? b).isSome || decide (b = a)
  have k : Keep hb hb' := fun b ob x => by rw [e, if_pos (by rw [x]; rfl)]; exact S.base _ _ x
  have nd := S.nd
  rw [List.map_append, List.map_cons, List.nodup_append] at nd
  obtain ⟨n1, n2, n3⟩ := nd
  rw [List.nodup_cons] at n2
  have no : ∀ p ∈ pre ++ post, p.1 ≠ a := fun p m q => by
    rcases List.mem_append.mp m with m | m
    · exact n3 p.1 (List.mem_map_of_mem m) a (by simp) q
    · exact n2.1 (List.mem_map.mpr ⟨p, m, q⟩)
  have miss : ∀ b, b ≠ a → hb.get? b = none → hb'.get? b = none := fun b n x => by rw [e, if_neg (by rw [x]; simp [n])]
  have sb : (pre ++ post).Sublist (pre ++ (a, o) :: post) := List.Sublist.append_left (List.sublist_cons_self _ _) _
  refine ⟨hb', ⟨⟨⟨S.res.up.b.trans k, S.res.up.h, fun b ob x => ?_⟩, fun b ob x n => ?_⟩, fun p m => ?_, S.nd.sublist (sb.map _)⟩, k, ha.1.at fun ob x => ?_⟩
  · rw [e] at x; split at x
    · exact x
    · cases x
  · refine miss b (fun q => ?_) (S.res.new _ _ x n)
    subst q; rw [ha.2.2] at x; cases x
  · obtain ⟨x, y, z⟩ := S.own p (sb.subset m)
    exact ⟨x, miss _ (no p m) y, z⟩
  · rw [e, if_pos (by simp)]; exact x
end

def retOf : Flow → Value
  | .ret v => v
  | _ => .none
def upd (m : Str → Option Value) (x : Str) (v : Value) : Str → Option Value := fun y => if y = x then some v else m y

def Done (h0 hb0 : Heap) (P : Value → Heap → Prop) (s0 : Shared) (fl : Flow) (s : Shared) : Prop :=
  ∃ b' h' tk, s = { s0 with heap := h', toks := tk } ∧ P (retOf fl) b' ∧ Res hb0 b' h0 h'

section
variable {w : World} {A : Around} {env : Env} {h0 hb0 hb : Heap} {L : Addr} {m : Str → Option Value} {O : List (Addr × Own)} {rest : List Stmt} {pos : Pos} {Q : Flow → Shared → Prop} {E : Value → Shared → Prop} {s : Shared}
theorem wNil (q : Q .next s) : wpAny (model PG w) A (execs [] env) Q E s := wpAny_execs_nil q
theorem wRet {e : Expr} {P : Value → Heap → Prop} (S : St h0 hb0 hb O s.heap) (y : Y w A hb s.heap (eval e env) P)
    (z : ∀ v b' h' tk, P v b' → St h0 hb0 b' O h' → Keep hb b' → Q (.ret v) { s with heap := h', toks := tk }) : wpAny (model PG w) A (execs (.Return (some e) pos :: rest) env) Q E s :=
  wpAny_execs_cons (wpAny_Return_some (y.use S.base fun v b' h' tk p r => z v b' h' tk p (S.up r) r.up.b))
theorem wLet {x : Str} {xp : Pos} {e : Expr} {P1 : Value → Heap → Prop} (S : St h0 hb0 hb ((L, .ns m) :: O) s.heap) (y : Y w A hb s.heap (eval e env) P1)
    (z : ∀ v b' h' tk, P1 v b' → St h0 hb0 b' ((L, .ns (upd m x v)) :: O) h' → Keep hb b' → wpAny (model PG w) A (execs rest env) Q E { s with heap := h', toks := tk })
    (hL : env.locals = L := by rfl) (hs : swapsWith e (some (.Name x xp)) pos.line env = pure false := by rfl) (hk : env.scope.kind = .function := by rfl) (hl : env.kindOf x = some .local := by rfl) :
    wpAny (model PG w) A (execs (.Assign [.Name x xp] e pos :: rest) env) Q E s := by
  subst hL
  refine wpAny_execs_cons (wpAny_Assign_Name (y.use S.base fun v b1 h1 tk p r => ?_) hs)
  refine wpAny_storeName_local hl ((S.up r).mem (.head _)) (fun h2 hn hb => ?_) (by rw [hk]; rfl)
  exact z v b1 h2 _ p (St.upd (pre := []) (S.up r) (Ext.of_same hb) hn) r.up.b
theorem execs_append (a b : List Stmt) (env : Env) : execs (a ++ b) env = (do match ← execs a env with | .next => execs b env | f => pure f) := by
  induction a with
  | nil => simp [execs_nil]
  | cons st a ih =>
    rw [List.cons_append, execs_cons, execs_cons, bind_assoc]
    congr 1
    funext f
    cases f <;> simp [ih]
theorem execs_if (test : Expr) (body orelse rest : List Stmt) (pos : Pos) (env : Env) : execs (.If test body orelse pos :: rest) env = (do
    standAt pos
    if ← isTrue test env (eval test env) then execs (body ++ rest) env else execs (orelse ++ rest) env) := by
  rw [execs_cons, exec_If, bind_assoc]
  congr 1
  funext _
  rw [bind_assoc]
  congr 1
  funext b
  cases b
  · exact (execs_append orelse rest env).symm
  · exact (execs_append body rest env).symm
theorem wIf {test : Expr} {body orelse : List Stmt} {b : Bool} (S : St h0 hb0 hb O s.heap) (y : Y w A hb s.heap (isTrue test env (eval test env)) (Is b))
    (z1 : b = true → ∀ b' h' tk, St h0 hb0 b' O h' → Keep hb b' → wpAny (model PG w) A (execs (body ++ rest) env) Q E { s with heap := h', toks := tk })
    (z2 : b = false → ∀ b' h' tk, St h0 hb0 b' O h' → Keep hb b' → wpAny (model PG w) A (execs (orelse ++ rest) env) Q E { s with heap := h', toks := tk }) :
    wpAny (model PG w) A (execs (.If test body orelse pos :: rest) env) Q E s := by
  rw [execs_if]
  refine wpAny_bind (wpAny_standAt (wpAny_bind (y.use S.base fun v b1 h1 tk p r => ?_)))
  cases p
  cases b
  · exact z2 rfl b1 h1 tk (S.up r) r.up.b
  · exact z1 rfl b1 h1 tk (S.up r) r.up.b
end

section
variable {w : World} {A : Around} {hb h : Heap}
structure Rm (n : Nat) (A : Around) : Prop where
  hd : A.handled = none
  dp : A.depth + n < recursionLimit
  un : A.units + 100 * n < 9000
theorem Rm.deeper {n : Nat} {A : Around} {env : Env} (R : Rm (n + 1) A) : Rm n (A.deeper env) := ⟨R.hd, by have := R.dp; show A.depth + 1 + n < _; lia, by have := R.un; show A.units + 3 + 100 * n < _; lia⟩
theorem Rm.in1 {n : Nat} {A : Around} (R : Rm (n + 1) A) : Rm n A.in1 := ⟨R.hd, by have := R.dp; show A.depth + n < _; lia, by have := R.un; show A.units + 1 + 100 * n < _; lia⟩
theorem Rm.less {n k : Nat} {A : Around} (R : Rm n A) (h : k ≤ n) : Rm k A := ⟨R.hd, by have := R.dp; lia, by have := R.un; lia⟩
theorem Rm.room {n : Nat} {A : Around} (R : Rm n A) : A.depth < recursionLimit := by have := R.dp; lia
theorem Rm.line {n : Nat} {A : Around} (R : Rm n A) : A.units + 500 < cLine := by have := R.un; show _ < 9900; lia

theorem callC {f : Addr} {pos : List Value} {kw : List (Str × Value)} {name qual : Str} {params : Arguments} {body : List Stmt} {scope : Scope} {cl : List (Str × Addr)} {dV kV doc pm cdv ct oc : Value} {an od : Option Addr} {osl : Array (Option Value)}
    {binds : List (Str × Value)} {P : Value → Heap → Prop} {n : Nat} (G : Glob w hb) (R : Rm (n + 1) A)
    (ho : (KK w).lookup f = some ⟨oc, od, .func (fnX name qual params body scope cl dV kV doc pm an cdv ct), osl⟩) (hcd : codeIn (KK w) cdv qual = true)
    (hbind : ∀ s : Shared, Glob w s.heap → BindsTo s (fnX name qual params body scope cl dV kV doc pm an cdv ct) ⟨pos, kw⟩ binds) (hloc : (binds.all fun y => decide (scope.names.lookup y.1 = some .local)) = true)
    (H : ∀ (s : Shared) (b h0 : Heap) (L : Addr), Up hb h b h0 → Glob w b → Rm n (A.deeper (envX qual scope L f cdv cl)) → St h0 b b [(L, .ns fun y => binds.reverse.lookup y)] s.heap →
      ∀ E, wpAny (model PG w) (A.deeper (envX qual scope L f cdv cl)) (execs body (envX qual scope L f cdv cl)) (Done h0 b P s) E s)
    (hcell : scope.names.all (fun x => decide (x.2 ≠ .cell)) = true := by rfl) (hco : scope.isCoroutine = false := by rfl) (hgen : scope.isGenerator = false := by rfl) (hk : scope.kind = .function := by rfl) :
    C w A hb h (.ref f) pos kw P := by
  intro s b u Q q
  have G' := G.keep u.b
  have G'' := G'.keep u.i
  refine codeAny_call_def (fd := fnX name qual params body scope cl dV kV doc pm an cdv ct) (body := body) (binds := binds) R.room (G''.K _ _ ho) rfl G''.lim (codeRec_of G''.K hcd) rfl (hbind s G'')
    (fun x hx => of_decide_eq_true (List.all_eq_true.mp hcell x hx)) (fun x hx => of_decide_eq_true (List.all_eq_true.mp hloc x hx)) (fun h₀ hns hk₀ => ?_) hco hgen hk
  have hn : s.heap.get? s.heap.objs.size = none := by
    cases e : s.heap.get? s.heap.objs.size with
    | none => rfl
    | some o => exact absurd (Heap.lt_size e) (Nat.lt_irrefl _)
  have S : St s.heap b b [(s.heap.objs.size, .ns fun y => binds.reverse.lookup y)] h₀ := St.add (pre := []) (post := []) ⟨.refl u.i, fun p m => (by cases m), .nil⟩ hk₀ hn hns
  refine wpAny_mono (H { s with heap := h₀, toks := s.toks + binds.length } b s.heap s.heap.objs.size u G' R.deeper S _) (fun fl s' d => ?_) fun _ _ e => e
  obtain ⟨b', h', tk, rfl, p, r⟩ := d
  have := q (retOf fl) b' h' tk p r
  cases fl <;> exact this
theorem locs_of {scope : Scope} {binds : List (Str × Value)} (h : (binds.all fun y => decide (scope.names.lookup y.1 = some .local)) = true) : (binds.all fun y => decide (scope.names.lookup y.1 = some .local)) = true := h
end

section
variable {w : World} {A : Around} {hb h : Heap}
structure R4 where
  x : Int
  y : Int
  w : Int
  h : Int
deriving DecidableEq
structure RMap (m : Str → Option Value) (r : R4) : Prop where
  x : ∃ t, m "x" = some (.int r.x t)
  y : ∃ t, m "y" = some (.int r.y t)
  w : ∃ t, m "width" = some (.int r.w t)
  h : ∃ t, m "height" = some (.int r.h t)
  o : m "left" = none ∧ m "right" = none ∧ m "top" = none ∧ m "bottom" = none ∧ m "contains" = none ∧ m "intersects" = none ∧ m "__class__" = none
inductive IsRect (h : Heap) (a : Addr) (r : R4) : Prop
  | mk (m : Str → Option Value) (i : Inst h a 203 m) (M : RMap m r)
theorem IsRect.keep {h h' : Heap} {a : Addr} {r : R4} (I : IsRect h a r) (k : Keep h h') : IsRect h' a r := let ⟨m, i, r⟩ := I; ⟨m, i.keep k, r⟩

theorem fld_x (w) : Fld w 203 "x" := ⟨by kernel_rfl, by kernel_rfl, by kernel_rfl⟩
theorem fld_y (w) : Fld w 203 "y" := ⟨by kernel_rfl, by kernel_rfl, by kernel_rfl⟩
theorem fld_w (w) : Fld w 203 "width" := ⟨by kernel_rfl, by kernel_rfl, by kernel_rfl⟩
theorem fld_h (w) : Fld w 203 "height" := ⟨by kernel_rfl, by kernel_rfl, by kernel_rfl⟩

variable {env : Env} {pos : Pos} {a : Addr} {r : R4} {e : Expr}
theorem yX (G : Glob w hb) (I : IsRect h a r) (y : Y w A hb h (eval e env) (Is (.ref a)))
    (he : eval (.Attribute e "x" pos) env = (do let o ← eval e env; PySem.standAt pos.atName; let r ← PySem.holding [o] (getAttr o "x" true); letTemporaryGo e o r; Pure.pure r) := by rfl) : Y w A hb h (eval (.Attribute e "x" pos) env) (IsI r.x) :=
  let ⟨m, i, M⟩ := I; let ⟨t, e1⟩ := M.x; (yGetField G y i (fld_x w) e1 rfl he).mono fun _ _ _ p => ⟨t, p⟩
theorem yY (G : Glob w hb) (I : IsRect h a r) (y : Y w A hb h (eval e env) (Is (.ref a)))
    (he : eval (.Attribute e "y" pos) env = (do let o ← eval e env; PySem.standAt pos.atName; let r ← PySem.holding [o] (getAttr o "y" true); letTemporaryGo e o r; Pure.pure r) := by rfl) : Y w A hb h (eval (.Attribute e "y" pos) env) (IsI r.y) :=
  let ⟨m, i, M⟩ := I; let ⟨t, e1⟩ := M.y; (yGetField G y i (fld_y w) e1 rfl he).mono fun _ _ _ p => ⟨t, p⟩
theorem yW (G : Glob w hb) (I : IsRect h a r) (y : Y w A hb h (eval e env) (Is (.ref a)))
    (he : eval (.Attribute e "width" pos) env = (do let o ← eval e env; PySem.standAt pos.atName; let r ← PySem.holding [o] (getAttr o "width" true); letTemporaryGo e o r; Pure.pure r) := by rfl) : Y w A hb h (eval (.Attribute e "width" pos) env) (IsI r.w) :=
  let ⟨m, i, M⟩ := I; let ⟨t, e1⟩ := M.w; (yGetField G y i (fld_w w) e1 rfl he).mono fun _ _ _ p => ⟨t, p⟩
theorem yH (G : Glob w hb) (I : IsRect h a r) (y : Y w A hb h (eval e env) (Is (.ref a)))
    (he : eval (.Attribute e "height" pos) env = (do let o ← eval e env; PySem.standAt pos.atName; let r ← PySem.holding [o] (getAttr o "height" true); letTemporaryGo e o r; Pure.pure r) := by rfl) : Y w A hb h (eval (.Attribute e "height" pos) env) (IsI r.h) :=
  let ⟨m, i, M⟩ := I; let ⟨t, e1⟩ := M.h; (yGetField G y i (fld_h w) e1 rfl he).mono fun _ _ _ p => ⟨t, p⟩

def R4.has (o i : R4) : Bool := decide (o.y ≤ i.y) && (decide (o.x ≤ i.x) && (decide (i.y + i.h ≤ o.y + o.h) && decide (i.x + i.w ≤ o.x + o.w)))
end
end Mine
end
noncomputable section
open PySem PySem.W PyProof.Rows PySem.Calls
set_option Elab.async false
set_option maxRecDepth 100000
set_option linter.unusedVariables false
namespace Mine
section
variable {w : World} {A : Around} {hb h : Heap} {a b : Addr} {ra rb : R4}

theorem c_contains (G : Glob w hb) (R : Rm 1 A) (Ia : IsRect h a ra) (Ib : IsRect h b rb) : C w A hb h (.ref 177) [.ref a, .ref b] [] (Is (Value.bool (R4.has ra rb))) := by
  refine callC G R (by rfl) (by kernel_rfl) (fun s _ => BindsTo.of_eq rfl) (locs_of rfl) fun s c h0 L u G₁ R₁ S E => ?_
  have Ia := Ia.keep (u.h.trans S.keep)
  have Ib := Ib.keep (u.h.trans S.keep)
  refine wRet S (P := Is (Value.bool (R4.has ra rb))) (yBoolOp ?_) fun v b' h' tk p S' k => ⟨b', h', tk, rfl, p, S'.res⟩
  refine yValAnd (yCmp (yY G₁ Ib (yName S.ns rfl)) (yY G₁ Ia (yName S.ns rfl))) fun _ => ?_
  refine yValAnd (yCmp (yX G₁ Ib (yName S.ns rfl)) (yX G₁ Ia (yName S.ns rfl))) fun _ => ?_
  refine yValAnd (yCmp (yAdd (yY G₁ Ib (yName S.ns rfl)) (yH G₁ Ib (yName S.ns rfl))) (yAdd (yY G₁ Ia (yName S.ns rfl)) (yH G₁ Ia (yName S.ns rfl)))) fun _ => ?_
  exact yCmp (yAdd (yX G₁ Ib (yName S.ns rfl)) (yW G₁ Ib (yName S.ns rfl))) (yAdd (yX G₁ Ia (yName S.ns rfl)) (yW G₁ Ia (yName S.ns rfl)))

theorem prp_left (w) : Prp w 203 "left" 94 := ⟨by kernel_rfl, by kernel_rfl, by kernel_rfl, 95, _, by kernel_rfl, by kernel_rfl, by kernel_rfl, by rfl⟩
theorem prp_right (w) : Prp w 203 "right" 102 := ⟨by kernel_rfl, by kernel_rfl, by kernel_rfl, 103, _, by kernel_rfl, by kernel_rfl, by kernel_rfl, by rfl⟩
theorem prp_top (w) : Prp w 203 "top" 86 := ⟨by kernel_rfl, by kernel_rfl, by kernel_rfl, 87, _, by kernel_rfl, by kernel_rfl, by kernel_rfl, by rfl⟩
theorem prp_bottom (w) : Prp w 203 "bottom" 78 := ⟨by kernel_rfl, by kernel_rfl, by kernel_rfl, 79, _, by kernel_rfl, by kernel_rfl, by kernel_rfl, by rfl⟩

theorem c_left (G : Glob w hb) (R : Rm 1 A) (I : IsRect h a ra) : C w A hb h (.ref 94) [.ref a] [] (IsI ra.x) :=
  callC G R (by rfl) (by kernel_rfl) (fun s _ => BindsTo.of_eq rfl) (locs_of rfl) fun s c h0 L u G₁ R₁ S E => have I := I.keep (u.h.trans S.keep)
    wRet S (P := IsI ra.x) (yX G₁ I (yName S.ns rfl)) fun v b' h' tk p S' k => ⟨b', h', tk, rfl, p, S'.res⟩

theorem c_bottom (G : Glob w hb) (R : Rm 1 A) (I : IsRect h a ra) : C w A hb h (.ref 78) [.ref a] [] (IsI ra.y) :=
  callC G R (by rfl) (by kernel_rfl) (fun s _ => BindsTo.of_eq rfl) (locs_of rfl) fun s c h0 L u G₁ R₁ S E => have I := I.keep (u.h.trans S.keep)
    wRet S (P := IsI ra.y) (yY G₁ I (yName S.ns rfl)) fun v b' h' tk p S' k => ⟨b', h', tk, rfl, p, S'.res⟩

theorem c_right (G : Glob w hb) (R : Rm 1 A) (I : IsRect h a ra) : C w A hb h (.ref 102) [.ref a] [] (IsI (ra.x + ra.w)) :=
  callC G R (by rfl) (by kernel_rfl) (fun s _ => BindsTo.of_eq rfl) (locs_of rfl) fun s c h0 L u G₁ R₁ S E => have I := I.keep (u.h.trans S.keep)
    wRet S (P := IsI (ra.x + ra.w)) (yAdd (yX G₁ I (yName S.ns rfl)) (yW G₁ I (yName S.ns rfl))) fun v b' h' tk p S' k => ⟨b', h', tk, rfl, p, S'.res⟩

theorem c_top (G : Glob w hb) (R : Rm 1 A) (I : IsRect h a ra) : C w A hb h (.ref 86) [.ref a] [] (IsI (ra.y + ra.h)) :=
  callC G R (by rfl) (by kernel_rfl) (fun s _ => BindsTo.of_eq rfl) (locs_of rfl) fun s c h0 L u G₁ R₁ S E => have I := I.keep (u.h.trans S.keep)
    wRet S (P := IsI (ra.y + ra.h)) (yAdd (yY G₁ I (yName S.ns rfl)) (yH G₁ I (yName S.ns rfl))) fun v b' h' tk p S' k => ⟨b', h', tk, rfl, p, S'.res⟩

variable {env : Env} {pos : Pos} {e : Expr}
theorem yEq {α : Type} {t : Sem α} {x y : α} (z : Y w A hb h t (Is x)) (e : x = y) : Y w A hb h t (Is y) := e ▸ z
theorem isI_handed {i : Int} : ∀ v (h' : Heap), IsI i v h' → handedIn v = true := fun _ _ ⟨_, p⟩ => by subst p; rfl
theorem yLeft (G : Glob w hb) (R : Rm 2 A) (I : IsRect h a ra) (y : Y w A hb h (eval e env) (Is (.ref a)))
    (he : eval (.Attribute e "left" pos) env = (do let o ← eval e env; PySem.standAt pos.atName; let r ← PySem.holding [o] (getAttr o "left" true); letTemporaryGo e o r; Pure.pure r) := by rfl) : Y w A hb h (eval (.Attribute e "left" pos) env) (IsI ra.x) :=
  let ⟨m, i, r⟩ := I; yGetProp G y i (prp_left w) (c_left (A := A.in1) G R.in1 ⟨m, i, r⟩) isI_handed he
theorem yBottom (G : Glob w hb) (R : Rm 2 A) (I : IsRect h a ra) (y : Y w A hb h (eval e env) (Is (.ref a)))
    (he : eval (.Attribute e "bottom" pos) env = (do let o ← eval e env; PySem.standAt pos.atName; let r ← PySem.holding [o] (getAttr o "bottom" true); letTemporaryGo e o r; Pure.pure r) := by rfl) : Y w A hb h (eval (.Attribute e "bottom" pos) env) (IsI ra.y) :=
  let ⟨m, i, r⟩ := I; yGetProp G y i (prp_bottom w) (c_bottom (A := A.in1) G R.in1 ⟨m, i, r⟩) isI_handed he
theorem yRight (G : Glob w hb) (R : Rm 2 A) (I : IsRect h a ra) (y : Y w A hb h (eval e env) (Is (.ref a)))
    (he : eval (.Attribute e "right" pos) env = (do let o ← eval e env; PySem.standAt pos.atName; let r ← PySem.holding [o] (getAttr o "right" true); letTemporaryGo e o r; Pure.pure r) := by rfl) : Y w A hb h (eval (.Attribute e "right" pos) env) (IsI (ra.x + ra.w)) :=
  let ⟨m, i, r⟩ := I; yGetProp G y i (prp_right w) (c_right (A := A.in1) G R.in1 ⟨m, i, r⟩) isI_handed he
theorem yTop (G : Glob w hb) (R : Rm 2 A) (I : IsRect h a ra) (y : Y w A hb h (eval e env) (Is (.ref a)))
    (he : eval (.Attribute e "top" pos) env = (do let o ← eval e env; PySem.standAt pos.atName; let r ← PySem.holding [o] (getAttr o "top" true); letTemporaryGo e o r; Pure.pure r) := by rfl) : Y w A hb h (eval (.Attribute e "top" pos) env) (IsI (ra.y + ra.h)) :=
  let ⟨m, i, r⟩ := I; yGetProp G y i (prp_top w) (c_top (A := A.in1) G R.in1 ⟨m, i, r⟩) isI_handed he

def R4.meets (r q : R4) : Bool := !(decide (q.y + q.h ≤ r.y) || (decide (r.y + r.h ≤ q.y) || (decide (q.x + q.w ≤ r.x) || (decide (r.x + r.w ≤ q.x) || false))))
theorem c_intersects (G : Glob w hb) (R : Rm 3 A) (Ia : IsRect h a ra) (Ib : IsRect h b rb) : C w A hb h (.ref 185) [.ref a, .ref b] [] (Is (Value.bool (R4.meets ra rb))) := by
  refine callC (binds := [("self", .ref a), ("rect", .ref b), ("edges", .bool false)]) G R (by rfl) (by kernel_rfl) (fun s G' => binds_K G'.K rfl (by rfl) rfl rfl rfl) (locs_of rfl) fun s c h0 L u G₁ R₁ S E => ?_
  refine wIf (b := false) S (yTest_bool (yName S.ns rfl)) (fun x => by cases x) fun _ b1 h1 tk1 S k => ?_
  have G₁ := G₁.keep k
  have Ia := Ia.keep (u.h.trans S.keep)
  have Ib := Ib.keep (u.h.trans S.keep)
  refine wIf (b := !R4.meets ra rb) S ?_ (fun hb _ _ _ S _ => wRet S (P := Is (Value.bool (R4.meets ra rb))) (yEq yBoolc (by simpa using hb)) fun v b' h' tk p S' k => ⟨b', h', tk, rfl, p, S'.res⟩)
    (fun hb _ _ _ S _ => wRet S (P := Is (Value.bool (R4.meets ra rb))) (yEq yBoolc (by simpa using hb)) fun v b' h' tk p S' k => ⟨b', h', tk, rfl, p, S'.res⟩)
  refine yEq (yTestBoolOp (yOrCons (yTestCompare (yCmp (yBottom G₁ R₁ Ia (yName S.ns rfl)) (yTop G₁ R₁ Ib (yName S.ns rfl)))) fun _ =>
      yOrCons (yTestCompare (yCmp (yTop G₁ R₁ Ia (yName S.ns rfl)) (yBottom G₁ R₁ Ib (yName S.ns rfl)))) fun _ =>
      yOrCons (yTestCompare (yCmp (yLeft G₁ R₁ Ia (yName S.ns rfl)) (yRight G₁ R₁ Ib (yName S.ns rfl)))) fun _ =>
      yOrCons (yTestCompare (yCmp (yRight G₁ R₁ Ia (yName S.ns rfl)) (yLeft G₁ R₁ Ib (yName S.ns rfl)))) fun _ => yOrNil)) ?_
  unfold R4.meets; rw [Bool.not_not]; rfl
end
end Mine
end
noncomputable section
open PySem PySem.W PyProof.Rows PySem.Calls Builtin Builtin.ObjectAttr Builtin.Getset_descriptor
set_option Elab.async false
set_option maxRecDepth 100000
set_option linter.unusedVariables false
namespace Mine

theorem put_dict {name : Str} {hs : Int} {tk : Tok} {v : Value} {cl : Value} {d : Option Addr} {sl : Array (Option Value)} {es : Array DictEntry} {ep : Nat} {m : Str → Option Value} {n : Nat}
    (hk : StrKeys es) (hm : ∀ x, nsFind es x = m x) (hn : es.size ≤ n) :
    ∃ es' ep', Obj.putName name hs (.str name tk) v ⟨cl, d, .dict es ep, sl⟩ = ⟨cl, d, .dict es' ep', sl⟩ ∧ StrKeys es' ∧ (∀ x, nsFind es' x = upd m name v x) ∧ es'.size ≤ (if (m name).isSome then n else n + 1) := by
  rw [Obj.putName_eq]
  unfold Obj.putNameByArray
  dsimp only
  cases hi : es.findIdx? (·.key.isStr name) with
  | some i =>
    refine ⟨es.modify i fun e => { e with val := v }, ep, rfl, hk.modify _ _, fun x => ?_, ?_⟩
    · rw [upd, ← hm]; exact findBy_modify (fun n v => v.isStr n) Value.isStr_inj es name x v i hi
    · have : (m name).isSome = true := by
        rw [← hm]
        unfold nsFind
        rw [findBy_of_findIdx?, hi]
        have := (Array.findIdx?_eq_some_iff_getElem.mp hi).1
        simp [this]
      rw [if_pos this, Array.size_modify]; exact hn
  | none =>
    refine ⟨es.push ⟨hs, .str name tk, v⟩, ep + 1, rfl, hk.push _ _ _ _, fun x => ?_, ?_⟩
    · rw [upd, ← hm]
      exact findBy_push (fun n v => v.isStr n) es name x _ _ v (fun y => by
        show (name == y) = decide (y = name)
        by_cases h : y = name
        · subst h; simp
        · have : ¬ name = y := fun e => h e.symm
          simp [h, this]) hi
    · rw [Array.size_push]; split <;> rename_i q
      · exfalso
        rw [← hm] at q
        unfold nsFind at q
        rw [findBy_of_findIdx?, hi] at q
        cases q
      · lia

structure SetF (w : World) (C : Addr) (name : Str) : Prop where
  sa : findIn (KK w) (.ref C) "__setattr__" = some (some (.builtin "object.__setattr__"))
  ov : plainOver (KK w) C = true
  tk : takerIn (KK w) C name = some none
  hd : (clsIn (KK w) C).any (·.hasDict) = true

theorem InstD.ne {h : Heap} {x C dx : Addr} {m : Str → Option Value} {n : Nat} (I : InstD h x C dx m n) : x ≠ dx := by
  rintro rfl
  obtain ⟨es, ep, b, _⟩ := I.dict
  rw [I.obj] at b; cases b

theorem wp_setField {w : World} {A : Around} {s : Shared} {x C dx : Addr} {m : Str → Option Value} {n : Nat} {name : Str} {v : Value} {Q : Unit → Shared → Prop} {E : Value → Shared → Prop}
    (X : (KK w).In s.heap) (I : InstD s.heap x C dx m n) (hn : n ≤ 200) (S : SetF w C name)
    (h : ∀ h' tk, InstD h' x C dx (upd m name v) (if (m name).isSome then n else n + 1) → Heap.SameBut dx s.heap h' → Q () { s with heap := h', toks := tk }) :
    wpAny (model PG w) A (setAttr (.ref x) name v) Q E s := by
  obtain ⟨ox, od, I', hd, _⟩ := I.at
  refine set_plain X I' S.sa ?_
  refine osa_open (s := { s with toks := s.toks + 1 }) X I' S.ov S.tk fun b => ?_
  obtain ⟨cd, hc, hd'⟩ := any_some S.hd
  obtain ⟨es, ep, D, hk, hm, hz⟩ := I.dict
  obtain ⟨es', ep', pe, hk', hm', hz'⟩ := put_dict (name := name) (hs := PyData.keyHash w.params name) (tk := s.toks + 1) (v := v) (cl := .type "dict") (d := none) (sl := #[]) (ep := ep) hk hm hz
  have hx := I.obj
  obtain ⟨oc, odi, oda, osl⟩ := ox
  dsimp only at hd
  have e1 := I'.at_
  rw [I.obj] at e1
  cases e1
  refine wpAny_bind (wpAny_pure (wpAny_bind (wpAny_bind (wpAny_loadPart hx (wpAny_bind (looks_clsIn X hc _ _ _ _ (fun _ _ e => e) ?_))))))
  rw [hd']
  refine wpAny_pure (a := some dx) (wpAny_bind (wpAny_pure (wpAny_bind ?_)))
  unfold nsSet
  refine wpAny_bind (wpAny_bind (wpAny_askSetting (wpAny_pure (wpAny_bind (wpAny_mkText (wpAny_bind (wpAny_loadPart D ?_)))))))
  have hany : es.any (·.refKey) = false := by
    rw [Array.any_eq_false']; intro e he; obtain ⟨n, t, h⟩ := hk e he; simp [DictEntry.refKey, h]
  have c : (!es.any (·.key.isStr name) && es.any (·.refKey)) = false := by rw [hany, Bool.and_false]
  dsimp only
  rw [aRefKeyMayBeTheName_at, c]
  have D' : (s.heap.update dx (Obj.putName name (PyData.keyHash w.params name) (.str name (s.toks + 1)) v)).get? dx = some ⟨.type "dict", none, .dict es' ep', #[]⟩ := by
    rw [← pe]; exact Heap.get?_update_self _ D (by rw [pe]; rfl)
  have SB : Heap.SameBut dx s.heap (s.heap.update dx (Obj.putName name (PyData.keyHash w.params name) (.str name (s.toks + 1)) v)) := Heap.SameBut.update ..
  refine wpAny_updatePart D ?_
  refine wpAny_bind (wpAny_lookBehind D' (pastItsLine_dict (by rw [sizeLine_eq]; split at hz' <;> lia)) ?_)
  exact wpAny_pure (h _ _ ⟨(SB.2 _ I.ne).trans I.obj, es', ep', D', hk', hm', hz'⟩ SB)

section
variable {w : World} {A : Around} {hb0 h0 hb : Heap} {O pre post : List (Addr × Own)} {env : Env} {rest : List Stmt} {pos : Pos} {s : Shared} {Q : Flow → Shared → Prop} {E : Value → Shared → Prop}
theorem wSetF {o value : Expr} {name : Str} {pos' : Pos} {x C dx : Addr} {m : Str → Option Value} {n : Nat} {P1 : Value → Heap → Prop} (S : St h0 hb0 hb (pre ++ (dx, .idc m n) :: post) s.heap) (G : Glob w hb) (Ix : s.heap.get? x = some (instObj C dx)) (hn : n ≤ 200)
    (yv : Y w A hb s.heap (eval value env) P1) (yo : ∀ b' h', St h0 hb0 b' (pre ++ (dx, .idc m n) :: post) h' → Keep hb b' → Y w A b' h' (eval o env) (Is (.ref x))) (F : SetF w C name)
    (z : ∀ v b' h' tk, (∃ b1, Keep b1 b' ∧ P1 v b1) → St h0 hb0 b' (pre ++ (dx, .idc (upd m name v) (if (m name).isSome then n else n + 1)) :: post) h' → Keep hb b' → Ext dx s.heap h' → wpAny (model PG w) A (execs rest env) Q E { s with heap := h', toks := tk })
    (hs : swapsWith value (some (.Attribute o name pos')) pos.line env = pure false := by rfl) :
    wpAny (model PG w) A (execs (.Assign [.Attribute o name pos'] value pos :: rest) env) Q E s := by
  refine wpAny_execs_cons (plainObj_wpAny_Assign_Attribute (yv.use S.base fun v b1 h1 tk p r => ?_) hs)
  have S1 := S.up r
  refine (yo b1 h1 S1 r.up.b).use S1.base fun v' b2 h2 tk2 p2 r2 => ?_
  cases p2
  have S2 := S1.up r2
  have D := S2.mem (p := (dx, .idc m n)) (by simp)
  have I : InstD h2 x C dx m n := ⟨r2.up.h _ _ (r.up.h _ _ Ix), D⟩
  refine wp_setField ((G.keep r.up.b).keep r2.up.b |>.keep S2.base).K I hn F fun h' tk' I' SB => ?_
  exact z v b2 h' tk' ⟨b1, r2.up.b, p⟩ (S2.upd (Ext.of_same SB) I'.dict) (r.up.b.trans r2.up.b) ((Ext.of_keep (r.up.h.trans r2.up.h)).trans (Ext.of_same SB))
theorem St.weak {m : Str → Option Value} {n k : Nat} {dx : Addr} {h : Heap} (S : St h0 hb0 hb (pre ++ (dx, .idc m n) :: post) h) (le : n ≤ k) : St h0 hb0 hb (pre ++ (dx, .idc m k) :: post) h :=
  S.upd (fun _ _ _ e => e) (let ⟨es, ep, a, b, c, d⟩ := S.mem (p := (dx, .idc m n)) (by simp); ⟨es, ep, a, b, c, Nat.le_trans d le⟩)
theorem wSetN {o value : Expr} {name : Str} {pos' : Pos} {x C dx : Addr} {m : Str → Option Value} {n : Nat} {P1 : Value → Heap → Prop} (S : St h0 hb0 hb (pre ++ (dx, .idc m n) :: post) s.heap) (G : Glob w hb) (Ix : s.heap.get? x = some (instObj C dx)) (hn : n ≤ 200)
    (yv : Y w A hb s.heap (eval value env) P1) (yo : ∀ b' h', St h0 hb0 b' (pre ++ (dx, .idc m n) :: post) h' → Keep hb b' → Y w A b' h' (eval o env) (Is (.ref x))) (F : SetF w C name)
    (z : ∀ v b' h' tk, (∃ b1, Keep b1 b' ∧ P1 v b1) → St h0 hb0 b' (pre ++ (dx, .idc (upd m name v) (n + 1)) :: post) h' → Keep hb b' → Ext dx s.heap h' → wpAny (model PG w) A (execs rest env) Q E { s with heap := h', toks := tk })
    (hs : swapsWith value (some (.Attribute o name pos')) pos.line env = pure false := by rfl) :
    wpAny (model PG w) A (execs (.Assign [.Attribute o name pos'] value pos :: rest) env) Q E s :=
  wSetF S G Ix hn yv yo F (fun v b' h' tk p S' k e => z v b' h' tk p (S'.weak (by split <;> lia)) k e) hs
end
end Mine
end
noncomputable section
open PySem PySem.W PyProof.Rows PySem.Calls Builtin Builtin.ObjectAttr Builtin.Getset_descriptor
set_option Elab.async false
set_option maxRecDepth 100000
set_option linter.unusedVariables false
namespace Mine
section
variable {w : World} {A : Around} {hb0 h0 hb h : Heap} {O : List (Addr × Own)} {env : Env} {rest : List Stmt} {pos : Pos} {s : Shared} {Q : Flow → Shared → Prop} {E : Value → Shared → Prop}
theorem wAssert {test : Expr} (S : St h0 hb0 hb O s.heap) (hA : A.handled = none) (y : Y w A hb s.heap (isTrue test env (eval test env)) (Is true))
    (z : ∀ b' h' tk, St h0 hb0 b' O h' → Keep hb b' → wpAny (model PG w) A (execs rest env) Q E { s with heap := h', toks := tk }) :
    wpAny (model PG w) A (execs (.Assert test none pos :: rest) env) Q E s := by
  refine wpAny_execs_cons (wpAny_Assert_new hA (y.use S.base fun v b1 h1 tk p r => ?_))
  cases p
  exact z b1 h1 tk (S.up r) r.up.b

theorem Rm.type {n : Nat} {A : Around} {C : Addr} {r : List Value} {kw : List (Str × Value)} (R : Rm (n + 1) A) : Rm n (A.under (.builtin "type.__call__" ⟨.ref C :: r, kw⟩)) := by
  refine ⟨R.hd, ?_, ?_⟩
  rotate_left
  · have e : (Code.builtin "type.__call__" ⟨.ref C :: r, kw⟩).cUnits ≤ 10 := Nat.le_of_ble_eq_true (by rfl)
    have := R.un
    show A.units + (Code.builtin "type.__call__" ⟨.ref C :: r, kw⟩).cUnits + 100 * n < _
    lia
  have := R.dp
  have e : (Code.builtin "type.__call__" ⟨.ref C :: r, kw⟩).weight = 1 := by rfl
  show A.depth + (Code.builtin "type.__call__" ⟨.ref C :: r, kw⟩).weight + n < _
  rw [e]; lia

theorem callM {f : Addr} {pos : List Value} {kw : List (Str × Value)} {name qual : Str} {params : Arguments} {body : List Stmt} {scope : Scope} {cl : List (Str × Addr)} {dV kV doc pm cdv ct oc : Value} {an od : Option Addr} {osl : Array (Option Value)}
    {binds : List (Str × Value)} {Rr : Result → Shared → Prop} {n : Nat} (S : St h0 hb0 hb O s.heap) (G : Glob w hb) (R : Rm (n + 1) A)
    (ho : (KK w).lookup f = some ⟨oc, od, .func (fnX name qual params body scope cl dV kV doc pm an cdv ct), osl⟩) (hcd : codeIn (KK w) cdv qual = true)
    (hbind : BindsTo s (fnX name qual params body scope cl dV kV doc pm an cdv ct) ⟨pos, kw⟩ binds) (hloc : (binds.all fun y => decide (scope.names.lookup y.1 = some .local)) = true)
    (H : ∀ (h' : Heap) (tk : Nat) (L : Addr), Rm n (A.deeper (envX qual scope L f cdv cl)) → St h0 hb0 hb ((L, .ns fun y => binds.reverse.lookup y) :: O) h' → Keep s.heap h' →
      ∀ E, wpAny (model PG w) (A.deeper (envX qual scope L f cdv cl)) (execs body (envX qual scope L f cdv cl)) (fun fl s' => Rr (.ok (.ret (retOf fl))) s') E { s with heap := h', toks := tk })
    (hcell : scope.names.all (fun x => decide (x.2 ≠ .cell)) = true := by rfl) (hco : scope.isCoroutine = false := by rfl) (hgen : scope.isGenerator = false := by rfl) (hk : scope.kind = .function := by rfl) :
    codeAny (model PG w) A (.call (.ref f) ⟨pos, kw⟩) Rr s := by
  have G'' := G.keep S.base
  refine codeAny_call_def (fd := fnX name qual params body scope cl dV kV doc pm an cdv ct) (body := body) (binds := binds) R.room (G''.K _ _ ho) rfl G''.lim (codeRec_of G''.K hcd) rfl hbind
    (fun x hx => of_decide_eq_true (List.all_eq_true.mp hcell x hx)) (fun x hx => of_decide_eq_true (List.all_eq_true.mp hloc x hx)) (fun h₀ hns hk₀ => ?_) hco hgen hk
  have hn : s.heap.get? s.heap.objs.size = none := by
    cases e : s.heap.get? s.heap.objs.size with
    | none => rfl
    | some o => exact absurd (Heap.lt_size e) (Nat.lt_irrefl _)
  refine wpAny_mono (H h₀ _ s.heap.objs.size R.deeper (St.add (pre := []) S hk₀ hn hns) hk₀ _) (fun fl s' d => ?_) fun _ _ e => e
  cases fl <;> exact d
theorem yNameI {m : Str → Option Value} {x : Str} {i : Int} {t : Tok} {p : Pos} (hn : h.Ns env.locals m) (hv : m x = some (.int i t)) (hk : env.scope.kind = .function := by rfl) (hl : env.kindOf x = some .local := by rfl)
    (hd : (x == ("__debug__" : Str)) = false := by decide) : Y w A hb h (eval (.Name x p) env) (IsI i) := (yName hn hv hk hl hd).mono fun _ _ _ e => ⟨t, e⟩
theorem fresh_ge {h : Heap} {a : Addr} (le : h.objs.size ≤ a) : h.get? a = none := by
  cases e : h.get? a with
  | none => rfl
  | some o => exact absurd (Heap.lt_size e) (Nat.not_lt.mpr le)
theorem fresh_size (h : Heap) : h.get? h.objs.size = none := by
  cases e : h.get? h.objs.size with
  | none => rfl
  | some o => exact absurd (Heap.lt_size e) (Nat.lt_irrefl _)

theorem setF_w (w) : SetF w 203 "width" := ⟨by kernel_rfl, by kernel_rfl, by kernel_rfl, by kernel_rfl⟩
theorem setF_h (w) : SetF w 203 "height" := ⟨by kernel_rfl, by kernel_rfl, by kernel_rfl, by kernel_rfl⟩
theorem setF_x (w) : SetF w 203 "x" := ⟨by kernel_rfl, by kernel_rfl, by kernel_rfl, by kernel_rfl⟩
theorem setF_y (w) : SetF w 203 "y" := ⟨by kernel_rfl, by kernel_rfl, by kernel_rfl, by kernel_rfl⟩
theorem setF_rid (w) : SetF w 203 "rid" := ⟨by kernel_rfl, by kernel_rfl, by kernel_rfl, by kernel_rfl⟩

structure NewRect (h b : Heap) (a dx : Addr) (m : Str → Option Value) (r : R4) : Prop where
  inst : InstD b a 203 dx m 10
  map : RMap m r
  rid : m "rid" = some .none
  na : h.get? a = none
  nd : h.get? dx = none

theorem InstD.inst {h : Heap} {x C dx : Addr} {m : Str → Option Value} {n : Nat} (I : InstD h x C dx m n) (le : n ≤ 100) : Inst h x C m := ⟨dx, I.obj, let ⟨es, ep, a, b, c, d⟩ := I.dict; ⟨es, ep, a, b, c, Nat.le_trans d le⟩⟩
theorem NewRect.isRect {h b : Heap} {a dx : Addr} {m : Str → Option Value} {r : R4} (N : NewRect h b a dx m r) : IsRect b a r := ⟨m, N.inst.inst (by decide), N.map⟩
theorem keep_none {h h' : Heap} {a : Addr} (k : Keep h h') (n : h'.get? a = none) : h.get? a = none := by
  cases e : h.get? a with
  | none => rfl
  | some o => rw [k _ _ e] at n; cases n

theorem c_rect {X Y' W H : Int} {tx ty tw th : Tok} (G : Glob w hb) (R : Rm 2 A) (hW : 0 ≤ W) (hH : 0 ≤ H) :
    C w A hb h (.ref 203) [.int X tx, .int Y' ty, .int W tw, .int H th] [] fun v b' => ∃ a dx m, v = .ref a ∧ NewRect hb b' a dx m ⟨X, Y', W, H⟩ := by
  intro s b u Rr q
  obtain ⟨hh, g, d, t, os⟩ := s
  dsimp only at u q
  have Gb := G.keep u.b
  have Gh := Gb.keep u.i
  refine make_core (init := .ref 71) (makes_of Gh.K (by kernel_rfl)) (looks_findIn Gh.K (by kernel_rfl)) (fun self => bind_fn Gh.K self (by kernel_rfl)) (.inl rfl) ?_
  have n0 := fresh_size hh
  have n1 := fresh_size (hh.push emptyDict)
  rw [Heap.size_push] at n1
  have S0 : St hh b b [] hh := ⟨.refl u.i, fun p m => (by cases m), .nil⟩
  have S1 : St hh b b [(hh.objs.size, .idc (fun _ => none) 0)] (hh.push emptyDict) := St.add (pre := []) (post := []) S0 (Keep.push _ _) n0 ⟨#[], 0, Heap.get?_push_size _ rfl, by intro e he; simp at he, fun _ => rfl, Nat.le_refl _⟩
  have S2 : St hh b b [(hh.objs.size, .idc (fun _ => none) 0), (hh.objs.size + 1, .obj (instObj 203 hh.objs.size))] ((hh.push emptyDict).push (instObj 203 hh.objs.size)) :=
    St.add (pre := [(hh.objs.size, .idc (fun _ => none) 0)]) (post := []) S1 (Keep.push _ _) n1 (by
      have := Heap.get?_push_size (hh.push emptyDict) (o := instObj 203 hh.objs.size) rfl
      rw [Heap.size_push] at this; exact this)
  refine callM (s := ⟨(hh.push emptyDict).push (instObj 203 hh.objs.size), g, d, t, os⟩) (binds := [("self", .ref (hh.objs.size + 1)), ("x", .int X tx), ("y", .int Y' ty), ("width", .int W tw), ("height", .int H th), ("rid", .none)]) S2 Gb (R.type (n := 1))
    (by rfl) (by kernel_rfl) (binds_K ((Gh.keep (Keep.push _ emptyDict)).keep (Keep.push _ _)).K rfl (by rfl) rfl rfl rfl) rfl fun h' tk L R' S k E => ?_
  have Ix := S.mem (p := (hh.objs.size + 1, .obj (instObj 203 hh.objs.size))) (by simp)
  refine wAssert S R'.hd ?_ fun b1 h1 tk1 S1 k1 => ?_
  · refine yEq (yTestBoolOp (yAndCons (yTestCompare (yCmp (yNameI S.ns rfl) yInt)) fun _ => yAndCons (yTestCompare (yCmp (yNameI S.ns rfl) yInt)) fun _ => yAndNil)) ?_
    simp [cmpB, hW, hH]
  have Ix1 := S1.mem (p := (hh.objs.size + 1, .obj (instObj 203 hh.objs.size))) (by simp)
  refine wSetN (pre := [_]) (post := [_]) S1 (Gb.keep k1) Ix1 (by lia) (yName S1.ns rfl) (fun b' h' S' _ => yName S'.ns rfl) (setF_w w) fun v1 b2 h2 tk2 p1 S2 k2 x2 => ?_
  obtain ⟨_, _, rfl⟩ := p1
  refine wSetN (pre := [_]) (post := [_]) S2 ((Gb.keep k1).keep k2) (S2.mem (p := (hh.objs.size + 1, .obj (instObj 203 hh.objs.size))) (by simp)) (by lia) (yName S2.ns rfl) (fun b' h' S' _ => yName S'.ns rfl) (setF_h w) fun v1 b3 h3 tk3 p1 S3 k3 x3 => ?_
  obtain ⟨_, _, rfl⟩ := p1
  refine wSetN (pre := [_]) (post := [_]) S3 (((Gb.keep k1).keep k2).keep k3) (S3.mem (p := (hh.objs.size + 1, .obj (instObj 203 hh.objs.size))) (by simp)) (by lia) (yName S3.ns rfl) (fun b' h' S' _ => yName S'.ns rfl) (setF_x w) fun v1 b4 h4 tk4 p1 S4 k4 x4 => ?_
  obtain ⟨_, _, rfl⟩ := p1
  refine wSetN (pre := [_]) (post := [_]) S4 ((((Gb.keep k1).keep k2).keep k3).keep k4) (S4.mem (p := (hh.objs.size + 1, .obj (instObj 203 hh.objs.size))) (by simp)) (by lia) (yName S4.ns rfl) (fun b' h' S' _ => yName S'.ns rfl) (setF_y w) fun v1 b5 h5 tk5 p1 S5 k5 x5 => ?_
  obtain ⟨_, _, rfl⟩ := p1
  refine wSetN (pre := [_]) (post := [_]) S5 (((((Gb.keep k1).keep k2).keep k3).keep k4).keep k5) (S5.mem (p := (hh.objs.size + 1, .obj (instObj 203 hh.objs.size))) (by simp)) (by lia) (yName S5.ns rfl) (fun b' h' S' _ => yName S'.ns rfl) (setF_rid w) fun v1 b6 h6 tk6 p1 S6 k6 x6 => ?_
  obtain ⟨_, _, rfl⟩ := p1
  refine wNil ?_
  obtain ⟨c1, T1, e1, D1⟩ := St.freeze (pre := [_]) S6
  obtain ⟨c2, T2, e2, D2⟩ := St.freeze (pre := [_]) T1
  obtain ⟨es, ep, a1, a2, a3, a4⟩ := D1.keep e2
  exact ⟨rfl, q _ c2 h6 tk6 ⟨hh.objs.size + 1, hh.objs.size, _, rfl, ⟨D2, es, ep, a1, a2, a3, by lia⟩, ⟨⟨_, rfl⟩, ⟨_, rfl⟩, ⟨_, rfl⟩, ⟨_, rfl⟩, rfl, rfl, rfl, rfl, rfl, rfl, rfl⟩, rfl,
    keep_none (u.b.trans u.i) (fresh_ge (Nat.le_succ _)), keep_none (u.b.trans u.i) n0⟩ T2.res⟩
end
end Mine
end
noncomputable section
open PySem PySem.W PyProof.Rows PySem.Calls Builtin Builtin.ObjectAttr Builtin.Getset_descriptor
set_option Elab.async false
set_option maxRecDepth 100000
set_option linter.unusedVariables false
namespace Mine
def Tp (h : Heap) (a : Addr) (vs : List Value) : Prop := h.get? a = some { cls := .type "tuple", data := .seq vs.toArray }
theorem Tp.keep {h h' : Heap} {a : Addr} {vs : List Value} (x : Tp h a vs) (k : Keep h h') : Tp h' a vs := k _ _ x
theorem Tp.isTuple {h : Heap} {a : Addr} {vs : List Value} (x : Tp h a vs) : h.IsTuple a vs.toArray := ⟨_, x, rfl, 0, rfl⟩
inductive ValT (P : List Value → Heap → Prop) (v : Value) (b : Heap) : Prop
  | mk (a : Addr) (vs : List Value) (b0 : Heap) (e : v = .ref a) (T : Tp b a vs) (k : Keep b0 b) (p : P vs b0)
section
variable {w : World} {A : Around} {hb h : Heap} {env : Env} {pos : Pos}
theorem yIntsNil : Y w A hb h (spliced (backTo pos (starEach [] env))) (fun vs _ => VI vs []) := yArgs_nil fun _ _ => trivial
theorem yIntsCons {e : Expr} {rest : List Expr} {i : Int} {is : List Int} (y : Y w A hb h (eval e env) (IsI i)) (z : Y w A hb h (spliced (backTo pos (starEach rest env))) fun vs _ => VI vs is)
    (he : starEach (e :: rest) env = (false, eval e env) :: starEach rest env := by rfl) : Y w A hb h (spliced (backTo pos (starEach (e :: rest) env))) fun vs _ => VI vs (i :: is) :=
  yArgs_cons y (fun v b1 h1 u p => (z.keep u).mono fun vs b' _ q => ⟨p, q⟩) he
theorem yTup {elts : List Expr} {x1 : Nat} {R : List Value → Heap → Prop} (y : Y w A hb h (spliced (backTo pos (starEach elts env))) R) (hs : ∀ vs b, R vs b → vs.length ≤ 100) : Y w A hb h (eval (.Tuple elts x1 pos) env) (ValT R) := by
  rw [arm_eval_Tuple]
  refine ySeq_standAt (yBind y fun vs b1 h1 u p => yNew fun s b Q E kb ki kh q => ?_)
  exact wpAny_newTuple (q _ _ s.toks (fun b' k n => ⟨_, vs, b1, rfl, n _ _ (fresh_size _) (Heap.get?_push_size _ rfl), kb.trans k, p⟩) (Keep.push _ _)) (by have := hs _ _ p; rw [sizeLine_eq]; lia)
inductive ValL (hb : Heap) (P : List Value → Heap → Prop) (v : Value) (b : Heap) : Prop
  | mk (D : Addr) (vs : List Value) (b0 : Heap) (e : v = .ref D) (pl : b.PlainList D vs.toArray) (k : Keep b0 b) (p : P vs b0) (nD : hb.get? D = none)
theorem yLst {elts : List Expr} {R : List Value → Heap → Prop} (y : Y w A hb h (spliced (backTo pos (starEach elts env))) R) (hs : ∀ vs b, R vs b → vs.length ≤ 100) : Y w A hb h (eval (.List elts pos) env) (ValL hb R) := by
  rw [arm_eval_List]
  refine ySeq_standAt (yBind y fun vs b1 h1 u p => yNew fun s b Q E kb ki kh q => ?_)
  refine wpAny_newList (q _ _ s.toks (fun b' k n => ⟨_, vs, b1, rfl, ⟨0, n _ _ (fresh_size _) (Heap.get?_push_size _ rfl)⟩, kb.trans k, p, keep_none (u.b.trans (kb.trans ki)) (fresh_size _)⟩) (Keep.push _ _)) (by have := hs _ _ p; rw [sizeLine_eq]; lia)
theorem yCall1 {id : Str} {p : Pos} {f : Value} {e : Expr} {P1 P : Value → Heap → Prop} (yf : Y w A hb h (eval (.Name id p) env) (Is f)) (hk : Kept w hb f) (y : Y w A hb h (eval e env) P1)
    (z : ∀ v b0 b1 h1, Up hb h b1 h1 → Keep b0 b1 → P1 v b0 → Y w A b1 h1 (call f [v] []) P)
    (he : starEach [e] env = (false, eval e env) :: starEach [] env := by rfl) (hplain : ((backTo pos (starEach [e] env)).any (·.1) || (backToKw pos (keywordEach [] env)).any (·.1.isNone)) = false := by rfl) :
    Y w A hb h (eval (.Call (.Name id p) [e] [] pos) env) P :=
  yCallName (R := fun vs b => ∃ v b0, vs = [v] ∧ Keep b0 b ∧ P1 v b0) yf hk (yArgs_cons y (fun v b1 h1 u p1 => yArgs_nil fun b' k => ⟨v, b1, rfl, k, p1⟩) he)
    (fun vs b1 h1 u ⟨v, b0, e, k, p1⟩ => by subst e; exact z v b0 b1 h1 u k p1) he hplain
theorem yCall2 {id : Str} {p : Pos} {f : Value} {e1 e2 : Expr} {P1 P2 P : Value → Heap → Prop} (yf : Y w A hb h (eval (.Name id p) env) (Is f)) (hk : Kept w hb f) (y1 : Y w A hb h (eval e1 env) P1) (y2 : ∀ v b1 h1, Up hb h b1 h1 → P1 v b1 → Y w A b1 h1 (eval e2 env) P2)
    (z : ∀ v1 v2 b1 b2 b3 h3, Up hb h b3 h3 → Keep b1 b2 → Keep b2 b3 → P1 v1 b1 → P2 v2 b2 → Y w A b3 h3 (call f [v1, v2] []) P)
    (he : starEach [e1, e2] env = (false, eval e1 env) :: starEach [e2] env := by rfl) (he2 : starEach [e2] env = (false, eval e2 env) :: starEach [] env := by rfl) (hplain : ((backTo pos (starEach [e1, e2] env)).any (·.1) || (backToKw pos (keywordEach [] env)).any (·.1.isNone)) = false := by rfl) :
    Y w A hb h (eval (.Call (.Name id p) [e1, e2] [] pos) env) P :=
  yCallName (R := fun vs b => ∃ v1 v2 b1 b2, vs = [v1, v2] ∧ Keep b1 b2 ∧ Keep b2 b ∧ P1 v1 b1 ∧ P2 v2 b2) yf hk
    (yArgs_cons y1 (fun v b1 h1 u p1 => (yArgs_cons (R := fun vs b => ∃ v2 b2, vs = [v2] ∧ Keep b1 b2 ∧ Keep b2 b ∧ P2 v2 b2) (y2 v b1 h1 u p1) (fun v2 b2 h2 u2 p2 => yArgs_nil fun b' k => ⟨v2, b2, rfl, u2.b, k, p2⟩) he2).mono fun vs b' _ ⟨v2, b2, e, k, k2, p2⟩ => ⟨v, v2, b1, b2, by rw [e], k, k2, p1, p2⟩) he)
    (fun vs b3 h3 u ⟨v1, v2, b1, b2, e, k, k2, p1, p2⟩ => by subst e; exact z v1 v2 b1 b2 b3 h3 u k k2 p1 p2) he hplain
theorem yCallInts {id : Str} {p : Pos} {f : Value} {e : Expr} {r : List Expr} {is : List Int} {P : Value → Heap → Prop} (yf : Y w A hb h (eval (.Name id p) env) (Is f)) (hk : Kept w hb f)
    (ya : Y w A hb h (spliced (backTo pos (starEach (e :: r) env))) fun vs _ => VI vs is) (z : ∀ vs b1 h1, Up hb h b1 h1 → VI vs is → Y w A b1 h1 (call f vs []) P)
    (he : starEach (e :: r) env = (false, eval e env) :: starEach r env := by rfl) (hplain : ((backTo pos (starEach (e :: r) env)).any (·.1) || (backToKw pos (keywordEach [] env)).any (·.1.isNone)) = false := by rfl) :
    Y w A hb h (eval (.Call (.Name id p) (e :: r) [] pos) env) P := yCallName yf hk ya z he hplain

theorem bltn_len : bootBuiltins "len" = some (.builtin "len") := by first | rfl | kernel_rfl
theorem bltn_abs : bootBuiltins "abs" = some (.builtin "abs") := by first | rfl | kernel_rfl
theorem bltn_min : bootBuiltins "min" = some (.builtin "min") := by first | rfl | kernel_rfl
theorem bltn_max : bootBuiltins "max" = some (.builtin "max") := by first | rfl | kernel_rfl
theorem bltn_sorted : bootBuiltins "sorted" = some (.builtin "sorted") := by first | rfl | kernel_rfl
theorem bltn_isinstance : bootBuiltins "isinstance" = some (.builtin "isinstance") := by first | rfl | kernel_rfl
theorem bltn_list : bootBuiltins "list" = some (.type "list") := by first | rfl | kernel_rfl
theorem bltn_range : bootBuiltins "range" = some (.type "range") := by first | rfl | kernel_rfl
theorem bltn_super : bootBuiltins "super" = some (.type "super") := by first | rfl | kernel_rfl

theorem yMin2 {p : Pos} {e1 e2 : Expr} {x y : Int} (G : Glob w hb) (hA : A.handled = none) (y1 : Y w A hb h (eval e1 env) (IsI x)) (y2 : Y w A hb h (eval e2 env) (IsI y)) (yf : Y w A hb h (eval (.Name "min" p) env) (Is (.builtin "min")))
    (he : starEach [e1, e2] env = (false, eval e1 env) :: starEach [e2] env := by rfl) (he2 : starEach [e2] env = (false, eval e2 env) :: starEach [] env := by rfl) (hplain : ((backTo pos (starEach [e1, e2] env)).any (·.1) || (backToKw pos (keywordEach [] env)).any (·.1.isNone)) = false := by rfl) :
    Y w A hb h (eval (.Call (.Name "min" p) [e1, e2] [] pos) env) (IsI (min x y)) :=
  yCall2 yf kept_bltn y1 (fun _ _ _ u _ => y2.keep u) (fun v1 v2 b1 b2 b3 h3 u _ _ ⟨t1, p1⟩ ⟨t2, p2⟩ => by
    subst p1 p2
    refine yGrow fun s Q E kb kh q => min_two_ints hA fun h' tk k => q _ h' tk (fun _ _ => ?_) k
    split
    · exact ⟨_, by rw [Int.min_eq_right (by lia)]⟩
    · exact ⟨_, by rw [Int.min_eq_left (by lia)]⟩) he he2 hplain
theorem yMax2 {p : Pos} {e1 e2 : Expr} {x y : Int} (G : Glob w hb) (hA : A.handled = none) (y1 : Y w A hb h (eval e1 env) (IsI x)) (y2 : Y w A hb h (eval e2 env) (IsI y)) (yf : Y w A hb h (eval (.Name "max" p) env) (Is (.builtin "max")))
    (he : starEach [e1, e2] env = (false, eval e1 env) :: starEach [e2] env := by rfl) (he2 : starEach [e2] env = (false, eval e2 env) :: starEach [] env := by rfl) (hplain : ((backTo pos (starEach [e1, e2] env)).any (·.1) || (backToKw pos (keywordEach [] env)).any (·.1.isNone)) = false := by rfl) :
    Y w A hb h (eval (.Call (.Name "max" p) [e1, e2] [] pos) env) (IsI (max x y)) :=
  yCall2 yf kept_bltn y1 (fun _ _ _ u _ => y2.keep u) (fun v1 v2 b1 b2 b3 h3 u _ _ ⟨t1, p1⟩ ⟨t2, p2⟩ => by
    subst p1 p2
    refine yGrow fun s Q E kb kh q => max_two_ints hA fun h' tk k => q _ h' tk (fun _ _ => ?_) k
    split
    · exact ⟨_, by rw [Int.max_eq_right (by lia)]⟩
    · exact ⟨_, by rw [Int.max_eq_left (by lia)]⟩) he he2 hplain
theorem yAbs {p : Pos} {e1 : Expr} {x : Int} (y1 : Y w A hb h (eval e1 env) (IsI x)) (yf : Y w A hb h (eval (.Name "abs" p) env) (Is (.builtin "abs")))
    (he : starEach [e1] env = (false, eval e1 env) :: starEach [] env := by rfl) (hplain : ((backTo pos (starEach [e1] env)).any (·.1) || (backToKw pos (keywordEach [] env)).any (·.1.isNone)) = false := by rfl) :
    Y w A hb h (eval (.Call (.Name "abs" p) [e1] [] pos) env) (IsI x.natAbs) :=
  yCall1 yf kept_bltn y1 (fun v b0 b1 h1 u _ ⟨t1, p1⟩ => by
    subst p1
    refine yTok fun s Q E kb kh q => PyProof.Rows.call_abs_int fun u tk => q _ tk fun _ _ => ?_
    split
    · exact ⟨_, by congr 1; lia⟩
    · exact ⟨_, by congr 1; lia⟩) he hplain
theorem yLen {p : Pos} {e1 : Expr} {l : Addr} {xs : Array Value} (hl : h.IsList l xs) (hz : (xs.size : Int) < 2 ^ 63) (y1 : Y w A hb h (eval e1 env) (Is (.ref l))) (yf : Y w A hb h (eval (.Name "len" p) env) (Is (.builtin "len")))
    (he : starEach [e1] env = (false, eval e1 env) :: starEach [] env := by rfl) (hplain : ((backTo pos (starEach [e1] env)).any (·.1) || (backToKw pos (keywordEach [] env)).any (·.1.isNone)) = false := by rfl) :
    Y w A hb h (eval (.Call (.Name "len" p) [e1] [] pos) env) (IsI xs.size) :=
  yCall1 yf kept_bltn y1 (fun v b0 b1 h1 u _ p1 => by
    cases p1
    exact yTok fun s Q E kb kh q => PySem.Calls.call_len_list (hl.at fun o e => kh _ _ (u.h _ _ e)) hz (q _ _ fun _ _ => ⟨_, rfl⟩)) he hplain
end
end Mine
end
noncomputable section
open PySem PySem.W PyProof.Rows PySem.Calls Builtin Builtin.ObjectAttr Builtin.Getset_descriptor
set_option Elab.async false
set_option maxRecDepth 100000
set_option linter.unusedVariables false
namespace Mine
def Rects (h : Heap) (vs : List Value) (rs : List R4) : Prop := L2 (fun v r => ∃ a, v = Value.ref a ∧ IsRect h a r) vs rs
theorem Rects.keep {h h' : Heap} (k : Keep h h') {vs : List Value} {rs : List R4} (x : Rects h vs rs) : Rects h' vs rs := L2.mono (fun _ _ ⟨a, e, I⟩ => ⟨a, e, I.keep k⟩) x
theorem Rects.append {h : Heap} {vs us : List Value} {rs qs : List R4} (x : Rects h vs rs) (y : Rects h us qs) : Rects h (vs ++ us) (rs ++ qs) := L2.append x y
theorem Rects.length {h : Heap} {vs : List Value} {rs : List R4} (x : Rects h vs rs) : vs.length = rs.length := L2.length x
theorem Rects.one {h : Heap} {a : Addr} {r : R4} (I : IsRect h a r) : Rects h [.ref a] [r] := ⟨⟨a, rfl, I⟩, trivial⟩

section
variable {w : World} {A : Around} {hb h hb0 h0 : Heap} {env : Env} {pos : Pos} {O pre post : List (Addr × Own)} {rest : List Stmt} {s : Shared} {Q : Flow → Shared → Prop} {E : Value → Shared → Prop} {L : Addr} {m : Str → Option Value}
theorem yRect {p : Pos} {e : Expr} {r : List Expr} {X Y' W H : Int} (G : Glob w hb) (R : Rm 2 A) (hW : 0 ≤ W) (hH : 0 ≤ H)
    (yf : Y w A hb h (eval (.Name "Rectangle" p) env) (Is (.ref 203))) (ya : Y w A hb h (spliced (backTo pos (starEach (e :: r) env))) fun vs _ => VI vs [X, Y', W, H])
    (he : starEach (e :: r) env = (false, eval e env) :: starEach r env := by rfl) (hplain : ((backTo pos (starEach (e :: r) env)).any (·.1) || (backToKw pos (keywordEach [] env)).any (·.1.isNone)) = false := by rfl) :
    Y w A hb h (eval (.Call (.Name "Rectangle" p) (e :: r) [] pos) env) fun v b' => ∃ a dx m, v = .ref a ∧ NewRect hb b' a dx m ⟨X, Y', W, H⟩ := by
  refine yCallInts yf (kept_K G (by kernel_rfl)) ya (fun vs b1 h1 u q => ?_) he hplain
  obtain ⟨_, _, _, _, rfl⟩ := q.four
  exact (yCall (c_rect (G.keep u.b) R hW hH)).mono fun v b' k ⟨a, dx, m, e, N⟩ => ⟨a, dx, m, e, N.inst, N.map, N.rid, keep_none u.b N.na, keep_none u.b N.nd⟩
theorem Res.fresh {b b' h h' : Heap} {a : Addr} (r : Res b b' h h') (n : b.get? a = none) (x : ∃ o, b'.get? a = some o) : h.get? a = none := by
  cases e : h.get? a with
  | none => rfl
  | some o => obtain ⟨o', e'⟩ := x; rw [r.new a o e n] at e'; cases e'
theorem wLetOwn {x : Str} {xp : Pos} {e : Expr} {R : List Value → Heap → Prop} (S : St h0 hb0 hb ((L, .ns m) :: O) s.heap) (y : Y w A hb s.heap (eval e env) (ValL hb R))
    (z : ∀ D vs b0 h' tk, R vs b0 → St h0 hb0 hb ((L, .ns (upd m x (.ref D))) :: (D, .lst vs.toArray) :: O) h' → wpAny (model PG w) A (execs rest env) Q E { s with heap := h', toks := tk })
    (hL : env.locals = L := by rfl) (hs : swapsWith e (some (.Name x xp)) pos.line env = pure false := by rfl) (hk : env.scope.kind = .function := by rfl) (hl : env.kindOf x = some .local := by rfl) :
    wpAny (model PG w) A (execs (.Assign [.Name x xp] e pos :: rest) env) Q E s := by
  subst hL
  refine wpAny_execs_cons (wpAny_Assign_Name (y.use S.base fun v b1 h1 tk p r => ?_) hs)
  obtain ⟨D, vs, b0, rfl, hD, _, pR, nD⟩ := p
  have nD' := r.fresh nD (let ⟨n, q⟩ := hD; ⟨_, q⟩)
  have S1 : St h0 hb0 hb ((env.locals, .ns m) :: (D, .lst vs.toArray) :: O) h1 := St.add (pre := [_]) (post := O) S r.up.h nD' (hD.at fun o e => r.up.i _ _ e)
  refine wpAny_storeName_local hl S1.ns (fun h2 hn hb => ?_) (by rw [hk]; rfl)
  exact z D vs b0 h2 _ pR (St.upd (pre := []) S1 (Ext.of_same hb) hn)
theorem wAppend {o elt : Expr} {apos cpos : Pos} {D : Addr} {xs : Array Value} {P1 : Value → Heap → Prop} (S : St h0 hb0 hb (pre ++ (D, .lst xs) :: post) s.heap) (hz : xs.size ≤ 1000000)
    (yo : Y w A hb s.heap (eval o env) (Is (.ref D))) (ye : ∀ b' h', St h0 hb0 b' (pre ++ (D, .lst xs) :: post) h' → Keep hb b' → Y w A b' h' (eval elt env) P1)
    (z : ∀ v b' h' tk, P1 v b' → St h0 hb0 b' (pre ++ (D, .lst (xs.push v)) :: post) h' → Keep hb b' → wpAny (model PG w) A (execs rest env) Q E { s with heap := h', toks := tk })
    (hbase : attributeBase o "append" env (eval o env) = eval o env := by rfl)
    (hfew : ((backTo cpos (starEach [elt] env)).all (fun x => !x.1) && (backToKw cpos (keywordEach [] env)).all (fun x => x.1.isSome)
      && decide (([elt] : List Expr).length + ([] : List Keyword).length + (if ([] : List Keyword).isEmpty then 0 else 1) < 30)) = true := by rfl)
    (hline : (apos.endLine == cpos.line) = true := by rfl)
    (htrees : backTo cpos (starEach [elt] env) = [(false, eval elt env)] := by rfl)
    (hi : interactive env = false := by rfl) (hs : swapsWith (.Call (.Attribute o "append" apos) [elt] [] cpos) none pos.line env = pure false := by rfl) :
    wpAny (model PG w) A (execs (.Expr (.Call (.Attribute o "append" apos) [elt] [] cpos) pos :: rest) env) Q E s := by
  refine wpAny_execs_cons (wpAny_Expr_any (wpAny_Call_append hbase hfew hline htrees (yo.use S.base fun v b1 h1 tk p r => ?_)) hi hs)
  cases p
  have S1 := S.up r
  have hD : h1.PlainList D xs := S1.mem (p := (D, .lst xs)) (by simp)
  refine ⟨D, xs, rfl, ?_, ?_⟩
  · obtain ⟨n, e⟩ := hD; exact ⟨_, n, e, rfl, rfl, rfl⟩
  refine (ye b1 h1 S1 r.up.b).use S1.base fun v b2 h2 tk2 p r2 => ?_
  have S2 := S1.up r2
  have hD2 : h2.PlainList D xs := S2.mem (p := (D, .lst xs)) (by simp)
  refine wpAny_list_append_plain hD2 (fun h3 h3D sb => ?_) (by rw [sizeLine_eq]; lia)
  exact z v b2 h3 tk2 p (S2.upd (Ext.of_same sb) h3D) (r.up.b.trans r2.up.b)
end
end Mine
end
noncomputable section
open PySem PySem.W PyProof.Rows PySem.Calls Builtin Builtin.ObjectAttr Builtin.Getset_descriptor
set_option Elab.async false
set_option maxRecDepth 100000
set_option linter.unusedVariables false
namespace Mine
def opt {α : Type} (b : Bool) (x : α) : List α := if b then [x] else []
def splits (m r : R4) : List R4 :=
  opt (decide (m.x < r.x)) ⟨m.x, m.y, r.x - m.x, m.h⟩ ++ opt (decide (r.x + r.w < m.x + m.w)) ⟨r.x + r.w, m.y, m.x + m.w - (r.x + r.w), m.h⟩ ++
  opt (decide (r.y + r.h < m.y + m.h)) ⟨m.x, r.y + r.h, m.w, m.y + m.h - (r.y + r.h)⟩ ++ opt (decide (m.y < r.y)) ⟨m.x, m.y, m.w, r.y - m.y⟩
section
variable {w : World} {A : Around} {hb h hb0 h0 : Heap} {env : Env} {pos : Pos} {O pre post : List (Addr × Own)} {rest : List Stmt} {s : Shared} {Q : Flow → Shared → Prop} {E : Value → Shared → Prop} {L : Addr} {m : Str → Option Value}
theorem wIfRect {test : Expr} {b : Bool} {o elt : Expr} {apos cpos epos : Pos} {D : Addr} {vs : List Value} {rs : List R4} {r : R4} (S : St h0 hb0 hb ((L, .ns m) :: (D, .lst vs.toArray) :: O) s.heap) (hz : vs.length ≤ 1000) (hr : Rects hb vs rs)
    (y : Y w A hb s.heap (isTrue test env (eval test env)) (Is b)) (yo : ∀ b' h', St h0 hb0 b' ((L, .ns m) :: (D, .lst vs.toArray) :: O) h' → Y w A b' h' (eval o env) (Is (.ref D)))
    (ye : b = true → ∀ b' h', St h0 hb0 b' ((L, .ns m) :: (D, .lst vs.toArray) :: O) h' → Keep hb b' → Y w A b' h' (eval elt env) fun v b'' => ∃ a, v = .ref a ∧ IsRect b'' a r)
    (z : ∀ vs' b' h' tk, St h0 hb0 b' ((L, .ns m) :: (D, .lst vs'.toArray) :: O) h' → Keep hb b' → Rects b' vs' (rs ++ opt b r) → vs'.length ≤ vs.length + 1 → wpAny (model PG w) A (execs rest env) Q E { s with heap := h', toks := tk })
    (hbase : attributeBase o "append" env (eval o env) = eval o env := by rfl)
    (hfew : ((backTo cpos (starEach [elt] env)).all (fun x => !x.1) && (backToKw cpos (keywordEach [] env)).all (fun x => x.1.isSome)
      && decide (([elt] : List Expr).length + ([] : List Keyword).length + (if ([] : List Keyword).isEmpty then 0 else 1) < 30)) = true := by rfl)
    (hline : (apos.endLine == cpos.line) = true := by rfl)
    (htrees : backTo cpos (starEach [elt] env) = [(false, eval elt env)] := by rfl)
    (hi : interactive env = false := by rfl) (hs : swapsWith (.Call (.Attribute o "append" apos) [elt] [] cpos) none epos.line env = pure false := by rfl) :
    wpAny (model PG w) A (execs (.If test [.Expr (.Call (.Attribute o "append" apos) [elt] [] cpos) epos] [] pos :: rest) env) Q E s := by
  refine wIf S y (fun hb b1 h1 tk1 S1 k1 => ?_) fun hb b1 h1 tk1 S1 k1 => ?_
  · refine wAppend (pre := [_]) (post := O) S1 (by simp; lia) (yo b1 h1 S1) (fun b' h' S' k => ye hb b' h' S' (k1.trans k)) (fun v b2 h2 tk2 p S2 k2 => ?_) hbase hfew hline htrees hi hs
    · obtain ⟨a, rfl, N⟩ := p
      refine z (vs ++ [.ref a]) b2 h2 tk2 (by simpa using S2) (k1.trans k2) ?_ (by simp)
      rw [hb]
      exact (hr.keep (k1.trans k2)).append (.one N)
  · refine z vs b1 h1 tk1 S1 k1 ?_ (Nat.le_succ _)
    rw [hb]
    have : rs ++ opt false r = rs := List.append_nil rs
    rw [this]
    exact hr.keep k1
theorem opt_length {α : Type} (b : Bool) (x : α) : (opt b x).length ≤ 1 := by cases b <;> simp [opt]
theorem yRect' {p : Pos} {e : Expr} {r : List Expr} {X Y' W H : Int} (G : Glob w hb) (R : Rm 2 A) (hW : 0 ≤ W) (hH : 0 ≤ H)
    (yf : Y w A hb h (eval (.Name "Rectangle" p) env) (Is (.ref 203))) (ya : Y w A hb h (spliced (backTo pos (starEach (e :: r) env))) fun vs _ => VI vs [X, Y', W, H])
    (he : starEach (e :: r) env = (false, eval e env) :: starEach r env := by rfl) (hplain : ((backTo pos (starEach (e :: r) env)).any (·.1) || (backToKw pos (keywordEach [] env)).any (·.1.isNone)) = false := by rfl) :
    Y w A hb h (eval (.Call (.Name "Rectangle" p) (e :: r) [] pos) env) fun v b' => ∃ a, v = .ref a ∧ IsRect b' a ⟨X, Y', W, H⟩ :=
  (yRect G R hW hH yf ya he hplain).mono fun _ _ _ ⟨a, dx, m, e, N⟩ => ⟨a, e, N.isRect⟩
theorem c_splits {a b : Addr} {ra rb : R4} (G : Glob w hb) (R : Rm 3 A) (Ia : IsRect h a ra) (Ib : IsRect h b rb) (hw : 0 ≤ ra.w) (hh : 0 ≤ ra.h) {self : Value} :
    C w A hb h (.ref 353) [self, .ref a, .ref b] [] fun v b' => ∃ D vs, v = .ref D ∧ b'.PlainList D vs.toArray ∧ Rects b' vs (splits ra rb) := by
  refine callC G R (by rfl) (by kernel_rfl) (fun s _ => BindsTo.of_eq rfl) (locs_of rfl) fun s c h0 L u G₁ R₁ S E => ?_
  have Ia := Ia.keep u.h
  have Ib := Ib.keep u.h
  have R1 := R₁.less (k := 2) (by decide)
  refine wLetOwn S (yLst (R := fun vs _ => vs = []) (yArgs_nil fun _ _ => rfl) (by rintro _ _ rfl; decide)) fun D vs b0 h1 tk1 p S => ?_
  subst p
  refine wIfRect S (by decide) (rs := []) (r := ⟨ra.x, ra.y, rb.x - ra.x, ra.h⟩) trivial (yTestCompare (yCmp (yLeft G₁ R1 (Ib.keep S.keep) (yName S.ns rfl)) (yLeft G₁ R1 (Ia.keep S.keep) (yName S.ns rfl)))) (fun b' h' S' => yName S'.ns rfl)
    (fun hb b' h' S' k' => ?_) fun vs1 b1 h1 tk1 S1 k1 hr1 l1 => ?_
  · have hb := of_decide_eq_true hb
    have Ia := Ia.keep S'.keep
    have Ib := Ib.keep S'.keep
    have G := G₁.keep k'
    exact yRect' G R₁ (by lia) hh (yGlob G (by rfl)) (yIntsCons (yLeft G R1 Ia (yName S'.ns rfl)) (yIntsCons (yBottom G R1 Ia (yName S'.ns rfl)) (yIntsCons (ySub (yLeft G R1 Ib (yName S'.ns rfl)) (yLeft G R1 Ia (yName S'.ns rfl))) (yIntsCons (yH G Ia (yName S'.ns rfl)) yIntsNil))))
  have G1 := G₁.keep k1
  refine wIfRect S1 (by simp at *; lia) (r := ⟨rb.x + rb.w, ra.y, ra.x + ra.w - (rb.x + rb.w), ra.h⟩) hr1 (yTestCompare (yCmp (yRight G1 R1 (Ib.keep S1.keep) (yName S1.ns rfl)) (yRight G1 R1 (Ia.keep S1.keep) (yName S1.ns rfl)))) (fun b' h' S' => yName S'.ns rfl)
    (fun hb b' h' S' k' => ?_) fun vs2 b2 h2 tk2 S2 k2 hr2 l2 => ?_
  · have hb := of_decide_eq_true hb
    have Ia := Ia.keep S'.keep
    have Ib := Ib.keep S'.keep
    have G := G1.keep k'
    exact yRect' G R₁ (by lia) hh (yGlob G (by rfl)) (yIntsCons (yRight G R1 Ib (yName S'.ns rfl)) (yIntsCons (yBottom G R1 Ia (yName S'.ns rfl)) (yIntsCons (ySub (yRight G R1 Ia (yName S'.ns rfl)) (yRight G R1 Ib (yName S'.ns rfl))) (yIntsCons (yH G Ia (yName S'.ns rfl)) yIntsNil))))
  have G2 := G1.keep k2
  refine wIfRect S2 (by simp at *; lia) (r := ⟨ra.x, rb.y + rb.h, ra.w, ra.y + ra.h - (rb.y + rb.h)⟩) hr2 (yTestCompare (yCmp (yTop G2 R1 (Ib.keep S2.keep) (yName S2.ns rfl)) (yTop G2 R1 (Ia.keep S2.keep) (yName S2.ns rfl)))) (fun b' h' S' => yName S'.ns rfl)
    (fun hb b' h' S' k' => ?_) fun vs3 b3 h3 tk3 S3 k3 hr3 l3 => ?_
  · have hb := of_decide_eq_true hb
    have Ia := Ia.keep S'.keep
    have Ib := Ib.keep S'.keep
    have G := G2.keep k'
    exact yRect' G R₁ hw (by lia) (yGlob G (by rfl)) (yIntsCons (yLeft G R1 Ia (yName S'.ns rfl)) (yIntsCons (yTop G R1 Ib (yName S'.ns rfl)) (yIntsCons (yW G Ia (yName S'.ns rfl)) (yIntsCons (ySub (yTop G R1 Ia (yName S'.ns rfl)) (yTop G R1 Ib (yName S'.ns rfl))) yIntsNil))))
  have G3 := G2.keep k3
  refine wIfRect S3 (by simp at *; lia) (r := ⟨ra.x, ra.y, ra.w, rb.y - ra.y⟩) hr3 (yTestCompare (yCmp (yBottom G3 R1 (Ib.keep S3.keep) (yName S3.ns rfl)) (yBottom G3 R1 (Ia.keep S3.keep) (yName S3.ns rfl)))) (fun b' h' S' => yName S'.ns rfl)
    (fun hb b' h' S' k' => ?_) fun vs4 b4 h4 tk4 S4 k4 hr4 l4 => ?_
  · have hb := of_decide_eq_true hb
    have Ia := Ia.keep S'.keep
    have Ib := Ib.keep S'.keep
    have G := G3.keep k'
    exact yRect' G R₁ hw (by lia) (yGlob G (by rfl)) (yIntsCons (yLeft G R1 Ia (yName S'.ns rfl)) (yIntsCons (yBottom G R1 Ia (yName S'.ns rfl)) (yIntsCons (yW G Ia (yName S'.ns rfl)) (yIntsCons (ySub (yBottom G R1 Ib (yName S'.ns rfl)) (yBottom G R1 Ia (yName S'.ns rfl))) yIntsNil))))
  refine wRet S4 (P := Is (.ref D)) (yName S4.ns rfl) fun v b5 h5 tk5 p S5 k5 => ?_
  cases p
  obtain ⟨b6, S6, k6, hD⟩ := St.freeze (pre := [_]) S5
  exact ⟨b6, h5, tk5, rfl, ⟨D, vs4, rfl, hD, hr4.keep (k5.trans k6)⟩, S6.res⟩
end
end Mine
end
noncomputable section
open PySem PySem.W PyProof.Rows PySem.Calls Builtin Builtin.ObjectAttr Builtin.Getset_descriptor
set_option Elab.async false
set_option maxRecDepth 100000
set_option linter.unusedVariables false
namespace Mine
structure Src (w : World) (A : Around) (I : Addr) (T : Nat → Own) (need : Heap → Prop) (n : Nat) (P : Nat → Value → Prop) : Prop where
  item : ∀ i (s : Shared) (Q : Option Value → Shared → Prop) (E : Value → Shared → Prop), i < n → (T i).At s.heap I → need s.heap →
    (∀ v h' tk, P i v → (T (i + 1)).At h' I → Ext I s.heap h' → Q (some v) { s with heap := h', toks := tk }) → wpAny (model PG w) A (pyNext (.ref I)) Q E s
  done : ∀ (s : Shared) (Q : Option Value → Shared → Prop) (E : Value → Shared → Prop), (T n).At s.heap I → need s.heap → (∀ h' tk, Ext I s.heap h' → Q none { s with heap := h', toks := tk }) → wpAny (model PG w) A (pyNext (.ref I)) Q E s
  go : ∀ i target v (s : Shared) (Q : Unit → Shared → Prop) (E : Value → Shared → Prop), (T i).At s.heap I → Q () s → wpAny (model PG w) A (letOwnedTupleGo target (.ref I) v) Q E s
  self : ∀ i (s : Shared) (Q : Value → Shared → Prop) (E : Value → Shared → Prop), (T i).At s.heap I → Q (.ref I) s → wpAny (model PG w) A (pyIter (.ref I)) Q E s
theorem go_fields {w : World} {A : Around} {I : Addr} {target : Expr} {v : Value} {s : Shared} {Q : Unit → Shared → Prop} {E : Value → Shared → Prop} {o : Obj} {n : String} {vs : Array Value} (ho : s.heap.get? I = some o) (hc : o.cls = .type n) (hd : o.data = .fields vs)
    (hn : (["enumerate", "zip", "dict_itemiterator", "dict_reverseitemiterator", "odict_iterator", "itertools.zip_longest", "itertools.pairwise"].contains n) = false) (q : Q () s) : wpAny (model PG w) A (letOwnedTupleGo target (.ref I) v) Q E s := by
  unfold letOwnedTupleGo
  split
  · cases v <;> first | exact wpAny_pure q | skip
    refine wpAny_bind (wpAny_load ho ?_)
    rw [hc, hd]
    dsimp only
    rw [hn, Bool.false_and]
    exact wpAny_pure q
  · cases v <;> first | exact wpAny_pure q | skip
    refine wpAny_bind (wpAny_load ho ?_)
    rw [hc, hd]
    dsimp only
    rw [hn, Bool.false_and]
    exact wpAny_pure q
  · exact wpAny_pure q
theorem Src.list {w : World} {A : Around} (hh : A.handled = none) (I l : Addr) (xs : Array Value) : Src w A I (.itr l) (fun h => h.IsList l xs) xs.size (fun i v => xs[i]? = some v) where
  item := fun i s Q E hi at_ nd q => wpAny_pyNext_list_item at_ nd (x := xs[i]) (by simp [hi]) fun h' hit sb => q _ h' s.toks (by simp [hi]) hit (Ext.of_same sb)
  done := fun s Q E at_ nd q => wpAny_pyNext_list_end hh at_ nd (by simp) fun h' e => q h' s.toks fun b o n x => e b o n x
  go := fun i target v s Q E at_ q => let ⟨o, ho, hc, hd⟩ := at_; go_fields ho hc hd (by decide) q
  self := fun i s Q E at_ q => wpAny_pyIter_listiter at_ q

section
variable {w : World} {A : Around} {hb0 h0 : Heap} {env : Env} {L I : Addr} {T : Nat → Own} {need : Heap → Prop} {n : Nat} {P : Nat → Value → Prop}
theorem for_core {target : Expr} {body : List Stmt} {R : Result → Shared → Prop} (X : Src w A I T need n P) (J : Nat → (Str → Option Value) → List (Addr × Own) → Heap → Prop) (Z : Shared → Prop)
    (hZ : ∀ s h' tk, Z s → Z { s with heap := h', toks := tk })
    (hneed : ∀ i m O b h, i ≤ n → J i m O b → St h0 hb0 b ((L, .ns m) :: (I, T i) :: O) h → need h)
    (step : ∀ i m O b s v E, i < n → J i m O b → Z s → P i v → St h0 hb0 b ((L, .ns m) :: (I, T (i + 1)) :: O) s.heap →
      wpAny (model PG w) A (assign target env v) (fun _ s2 => wpAny (model PG w) A (execs body env) (fun f s3 => match f with
        | .next | .cont => ∃ m' O' b', J (i + 1) m' O' b' ∧ Z s3 ∧ St h0 hb0 b' ((L, .ns m') :: (I, T (i + 1)) :: O') s3.heap
        | .brk => False
        | .ret v => R (.ok (.ret v)) s3) E s2) E s)
    (done : ∀ m O b s, J n m O b → Z s → St h0 hb0 b ((L, .ns m) :: O) s.heap → R (.ok .next) s)
    {s : Shared} {m : Str → Option Value} {O : List (Addr × Own)} {b : Heap} (j : J 0 m O b) (z : Z s) (S : St h0 hb0 b ((L, .ns m) :: (I, T 0) :: O) s.heap) :
    codeAny (model PG w) A (.forLoop target (.ref I) body [] env) R s := by
  refine codeAny_forLoop_any (fun k s' => ∃ i m O b, k = n + 1 - i ∧ i ≤ n ∧ J i m O b ∧ Z s' ∧ St h0 hb0 b ((L, .ns m) :: (I, T i) :: O) s'.heap) ?_ (n + 1) ⟨0, m, O, b, rfl, Nat.zero_le _, j, z, S⟩
  rintro k s' ⟨i, m, O, b, rfl, hi, j, z, S⟩
  have hI := S.mem (p := (I, T i)) (by simp)
  have hn := hneed i m O b _ hi j S
  by_cases hlt : i < n
  · refine X.item i s' _ _ hlt hI hn fun v h1 tk1 p at1 ex => ?_
    have S1 : St h0 hb0 b ((L, .ns m) :: (I, T (i + 1)) :: O) h1 := St.upd (pre := [_]) S ex at1
    refine X.go (i + 1) target v _ _ _ at1 ?_
    refine wpAny_mono (step i m O b _ v _ hlt j (hZ _ _ _ z) p S1) (fun _ s2 x => wpAny_mono x (fun f s3 y => ?_) fun _ _ e => e) fun _ _ e => e
    cases f with
    | next => obtain ⟨m', O', b', j', z', S'⟩ := y; exact ⟨n + 1 - (i + 1), by lia, i + 1, m', O', b', rfl, hlt, j', z', S'⟩
    | cont => obtain ⟨m', O', b', j', z', S'⟩ := y; exact ⟨n + 1 - (i + 1), by lia, i + 1, m', O', b', rfl, hlt, j', z', S'⟩
    | brk => exact y.elim
    | ret v => exact y
  · have e : i = n := by lia
    subst e
    refine X.done s' _ _ hI hn fun h1 tk1 ex => ?_
    refine wpAny_execs_nil (done m O b _ j (hZ _ _ _ z) ?_)
    have S1 : St h0 hb0 b ((L, .ns m) :: O) s'.heap := S.sub (.cons₂ _ (.cons _ (List.Sublist.refl _)))
    have hne : ∀ p ∈ (L, Own.ns m) :: O, p.1 ≠ I := fun p hp q => by
      have nd := S.nd
      simp only [List.map_cons, List.nodup_cons, List.mem_cons, not_or] at nd
      rcases List.mem_cons.mp hp with rfl | hp
      · exact nd.1.1 q
      · exact nd.2.1 (List.mem_map.mpr ⟨p, hp, q⟩)
    have hIo := S.own (I, T i) (by simp)
    have nb : ∀ c ob, b.get? c = some ob → c ≠ I := fun c ob x q => by subst q; rw [hIo.2.1] at x; cases x
    have n0 : ∀ c ob, h0.get? c = some ob → c ≠ I := fun c ob x q => by subst q; rw [hIo.2.2] at x; cases x
    exact ⟨⟨⟨S1.res.up.b, fun c ob x => ex c ob (n0 c ob x) (S1.res.up.h c ob x), fun c ob x => ex c ob (nb c ob x) (S1.res.up.i c ob x)⟩, S1.res.new⟩,
      fun p hp => ⟨(S1.own p hp).1.at fun o x => ex _ _ (hne p hp) x, (S1.own p hp).2⟩, S1.nd⟩
end

section
variable {w : World} {A : Around} {hb0 h0 : Heap} {env : Env} {L I : Addr} {T : Nat → Own} {need : Heap → Prop} {n : Nat} {P : Nat → Value → Prop}
theorem for_core2 {target : Expr} {body : List Stmt} {R : Result → Shared → Prop} (X : Src w A I T need n P) (J : Nat → (Str → Option Value) → List (Addr × Own) → Heap → Prop) (Z : Shared → Prop)
    (hZ : ∀ s h' tk, Z s → Z { s with heap := h', toks := tk })
    (hneed : ∀ i m O b h, i ≤ n → J i m O b → St h0 hb0 b ((L, .ns m) :: (I, T i) :: O) h → need h)
    (step : ∀ i m O b s v E (QA : Unit → Shared → Prop), (∀ s2, (∀ QB : Flow → Shared → Prop, (∀ m' O' b' s3, J (i + 1) m' O' b' → Z s3 → St h0 hb0 b' ((L, .ns m') :: (I, T (i + 1)) :: O') s3.heap → QB .next s3) → wpAny (model PG w) A (execs body env) QB E s2) → QA () s2) →
      i < n → J i m O b → Z s → P i v → St h0 hb0 b ((L, .ns m) :: (I, T (i + 1)) :: O) s.heap → wpAny (model PG w) A (assign target env v) QA E s)
    (done : ∀ m O b s, J n m O b → Z s → St h0 hb0 b ((L, .ns m) :: O) s.heap → R (.ok .next) s)
    {s : Shared} {m : Str → Option Value} {O : List (Addr × Own)} {b : Heap} (j : J 0 m O b) (z : Z s) (S : St h0 hb0 b ((L, .ns m) :: (I, T 0) :: O) s.heap) :
    codeAny (model PG w) A (.forLoop target (.ref I) body [] env) R s :=
  for_core X J Z hZ hneed (fun i m O b s v E hi hj hz hp S => step i m O b s v E _ (fun s2 k => k _ fun m' O' b' s3 j z S => ⟨m', O', b', j, z, S⟩) hi hj hz hp S) done j z S
end
section
variable {w : World} {A : Around} {hb0 h0 hb : Heap} {env : Env} {L : Addr} {m : Str → Option Value} {O : List (Addr × Own)} {rest : List Stmt} {pos : Pos} {s : Shared} {Q : Flow → Shared → Prop} {E : Value → Shared → Prop}
def After (w : World) (A : Around) (env : Env) (rest : List Stmt) (Q : Flow → Shared → Prop) (E : Value → Shared → Prop) (r : Result) (s' : Shared) : Prop := match r with
  | .ok .next => wpAny (model PG w) A (execs rest env) Q E s'
  | .ok f => Q f s'
  | .error e => cameBackBy (model PG w) A env E e s'
theorem wForList {target iter : Expr} {body : List Stmt} {P0 : Value → Heap → Prop} (S : St h0 hb0 hb ((L, .ns m) :: O) s.heap) (yi : Y w A hb s.heap (eval iter env) P0)
    (k : ∀ v b1 h1 tk, P0 v b1 → St h0 hb0 b1 ((L, .ns m) :: O) h1 → Keep hb b1 → ∃ l xs, v = .ref l ∧ h1.IsList l xs ∧ ∀ I h2, St h0 hb0 b1 ((L, .ns m) :: (I, .itr l 0) :: O) h2 → Keep h1 h2 →
      codeAny (model PG w) A (.forLoop target (.ref I) body [] env) (After w A env rest Q E) { s with heap := h2, toks := tk })
    (hs : ∀ x, foldedSetIterable iter env x = pure x := by intro _; rfl) :
    wpAny (model PG w) A (execs (.For target iter body [] pos :: rest) env) Q E s := by
  refine wpAny_execs_cons (wpAny_For (yi.use S.base fun v b1 h1 tk p r => ?_) hs)
  obtain ⟨l, xs, rfl, hl, k⟩ := k v b1 h1 tk p (S.up r) r.up.b
  refine wpAny_pyIter_list hl ?_
  refine codeAny_mono (k _ _ (St.add (pre := [_]) (S.up r) (Keep.push _ _) (fresh_size _) ⟨_, Heap.get?_push_size _ rfl, rfl, rfl⟩) (Keep.push _ _)) fun r' s' a => ?_
  cases r' with
  | error e => exact a
  | ok f => cases f <;> exact a
end
end Mine
end
noncomputable section
open PySem PySem.W PyProof.Rows PySem.Calls Builtin Builtin.ObjectAttr Builtin.Getset_descriptor
set_option Elab.async false
set_option maxRecDepth 100000
set_option linter.unusedVariables false
namespace Mine
theorem getMethod_extend {M : Model} {A : Around} {E : Value → Shared → Prop} {s : Shared} {l : Addr} {o : Obj} {pl : Sem Bool} {Q : Value × List Value → Shared → Prop} (ho : s.heap.get? l = some o) (hc : o.cls = .type "list") (hd : o.dict = none)
    (h : Q (.builtin "list.extend", [.ref l]) s) : wpAny M A (getMethod (.ref l) "extend" pl) Q E s := by
  have hT : s.TypeIs (.ref l) "list" := ⟨o, ho, hc⟩
  unfold getMethod
  refine wpAny_bind (wpAny_specialOf hT list_getattribute ?_)
  show wpAny M A (if (Manifest.canonical "list.__getattribute__" != "object.__getattribute__") = true then _ else _) Q E s
  rw [canon_list_getattribute, if_neg Bool.false_ne_true]
  refine wpAny_bind (wpAny_specialOf hT list_getattr_none ?_)
  refine wpAny_bind (wpAny_specialOf hT F.slot_list_extend.lookup ?_)
  refine wpAny_bind (wpAny_of_eq F.type_list_extend ?_)
  refine wpAny_bind (wpAny_load ho ?_)
  rw [hd]
  exact wpAny_bind (wpAny_rule (wpAny_pure h))
section
variable {w : World} {A : Around} {hb0 h0 hb h : Heap} {env : Env} {L : Addr} {m : Str → Option Value} {O pre post : List (Addr × Own)} {rest : List Stmt} {pos : Pos} {s : Shared} {Q : Flow → Shared → Prop} {E : Value → Shared → Prop}
theorem wExtend {o elt : Expr} {apos cpos : Pos} {pl : Sem Bool} {D : Addr} {xs : Array Value} {P1 : List Value → Heap → Prop} (S : St h0 hb0 hb (pre ++ (D, .lst xs) :: post) s.heap)
    (yo : Y w A hb s.heap (eval o env) (Is (.ref D))) (ye : ∀ b' h', St h0 hb0 b' (pre ++ (D, .lst xs) :: post) h' → Keep hb b' → Y w A b' h' (eval elt env) fun v b'' => ∃ l vs, v = .ref l ∧ b''.PlainList l vs.toArray ∧ xs.size + vs.length ≤ 1000 ∧ P1 vs b'')
    (z : ∀ vs b' h' tk, P1 vs b' → St h0 hb0 b' (pre ++ (D, .lst (xs ++ vs.toArray)) :: post) h' → Keep hb b' → wpAny (model PG w) A (execs rest env) Q E { s with heap := h', toks := tk })
    (ht : eval (.Call (.Attribute o "extend" apos) [elt] [] cpos) env = (do
      let ov ← eval o env
      PySem.standAt apos.atName
      let (f, first) ← PySem.holding [ov] (getMethod ov "extend" pl)
      callWith cpos f first (backTo cpos (starEach [elt] env)) (backToKw cpos (keywordEach [] env))) := by rfl)
    (htrees : backTo cpos (starEach [elt] env) = [(false, eval elt env)] := by rfl)
    (hi : interactive env = false := by rfl) (hs : swapsWith (.Call (.Attribute o "extend" apos) [elt] [] cpos) none pos.line env = pure false := by rfl) :
    wpAny (model PG w) A (execs (.Expr (.Call (.Attribute o "extend" apos) [elt] [] cpos) pos :: rest) env) Q E s := by
  refine wpAny_execs_cons (wpAny_Expr_any ?_ hi hs)
  rw [ht, htrees]
  refine wpAny_bind (yo.use S.base fun v b1 h1 tk p r => ?_)
  cases p
  have S1 := S.up r
  obtain ⟨n, hD⟩ := S1.mem (p := (D, .lst xs)) (by simp)
  refine wpAny_bind (wpAny_standAt (wpAny_bind (wpAny_holding (getMethod_extend hD rfl rfl ?_))))
  refine PySem.P.extend_list ((ye b1 h1 S1 r.up.b).use S1.base fun v b2 h2 tk2 p r2 => ?_)
  obtain ⟨l, vs, rfl, ⟨n2, hl⟩, hz, p⟩ := p
  have S2 := S1.up r2
  obtain ⟨n3, hD2⟩ := S2.mem (p := (D, .lst xs)) (by simp)
  have hz' : xs.size + vs.toArray.size ≤ 1000 := by simpa using hz
  refine ⟨l, xs, vs.toArray, n3, n2, by rw [sizeLine_eq]; lia, by rw [sizeLine_eq]; lia, ?_, rfl, hD2, r2.up.i _ _ hl, ?_⟩
  · unfold Builtin.List.listTooLong
    have : ¬ (xs.size + vs.toArray.size > sizeLine) := by rw [sizeLine_eq]; lia
    simp only [this, decide_false, Bool.and_false]; simp
  · refine z vs b2 _ tk2 p (S2.upd (Ext.of_same (Heap.SameBut.update ..)) ?_) (r.up.b.trans r2.up.b)
    obtain ⟨n', e'⟩ := Obj.data_mapSeq (o := { cls := .type "list", dict := none, data := .seq xs n3, slots := #[] }) rfl (· ++ vs.toArray)
    refine ⟨n', ?_⟩
    have e := Heap.get?_update_self (Obj.mapSeq (· ++ vs.toArray)) hD2 (Obj.isFreed_of_seq e')
    refine e.trans ?_
    congr 1
    simp only [Obj.mapSeq] at e' ⊢
    rw [← e']
theorem yListOf {p : Pos} {e : Expr} {l : Addr} {xs : Array Value} (hl : h.IsList l xs) (hz : xs.size ≤ 1000) (y1 : Y w A hb h (eval e env) (Is (.ref l))) (yf : Y w A hb h (eval (.Name "list" p) env) (Is (.type "list")))
    (he : starEach [e] env = (false, eval e env) :: starEach [] env := by rfl) (hplain : ((backTo pos (starEach [e] env)).any (·.1) || (backToKw pos (keywordEach [] env)).any (·.1.isNone)) = false := by rfl) :
    Y w A hb h (eval (.Call (.Name "list" p) [e] [] pos) env) (fun v b => ∃ D, v = .ref D ∧ b.PlainList D xs ∧ hb.get? D = none) :=
  yCall1 yf kept_type y1 (fun v b0 b1 h1 u _ p1 => by
    cases p1
    refine yNew fun s b Q E kb ki kh q => ?_
    obtain ⟨o, ho, hc, n, hd⟩ := hl.at fun o e => kh _ _ (u.h _ _ e)
    exact call_list_seq (hsz := by rw [sizeLine_eq]; lia) l (.inl rfl) ho hc hd fun h' c' hk hD => q _ _ s.toks (fun b' k n => ⟨_, rfl, ⟨c', n _ _ (fresh_size _) hD⟩, keep_none (u.b.trans (kb.trans ki)) (fresh_size _)⟩) hk) he hplain
end
end Mine
end
noncomputable section
open PySem PySem.W PyProof.Rows PySem.Calls Builtin Builtin.ObjectAttr Builtin.Getset_descriptor
set_option Elab.async false
set_option maxRecDepth 100000
set_option linter.unusedVariables false
namespace Mine
theorem Rects.at {h : Heap} {vs : List Value} {rs : List R4} {i : Nat} {v : Value} (x : Rects h vs rs) (e : vs[i]? = some v) : ∃ a r, v = .ref a ∧ IsRect h a r ∧ rs[i]? = some r :=
  let ⟨r, ⟨a, q, I⟩, e'⟩ := L2.at x e; ⟨a, r, q, I, e'⟩
theorem mem0 {α : Type} {a : α} {l : List α} : a ∈ a :: l := .head _
theorem mem1 {α : Type} {a b : α} {l : List α} : a ∈ b :: a :: l := .tail _ mem0
theorem mem2 {α : Type} {a b c : α} {l : List α} : a ∈ b :: c :: a :: l := .tail _ mem1
theorem mem3 {α : Type} {a b c d : α} {l : List α} : a ∈ b :: c :: d :: a :: l := .tail _ mem2
theorem mem4 {α : Type} {a b c d e : α} {l : List α} : a ∈ b :: c :: d :: e :: a :: l := .tail _ mem3
theorem take_flatMap {α β : Type} {f : α → List β} {l : List α} {i : Nat} {x : α} (e : l[i]? = some x) : (l.take (i + 1)).flatMap f = (l.take i).flatMap f ++ f x := by
  rw [List.take_add_one, e]; simp

structure Pk (w : World) (C : Addr) : Prop where
  fmr : Fld w C "_max_rects"
  smr : SetF w C "_max_rects"
  frot : Fld w C "rot"
  fw : Fld w C "width"
  fh : Fld w C "height"
  frl : Fld w C "rectangles"
  split : Mth w C "_split" 360
  gen : Mth w C "_generate_splits" 353
  rem : Mth w C "_remove_duplicates" 365
  fit : Mth w C "fitness" 372
  add : Mth w C "add_rect" 380
  rl : Mth w C "rect_list" 280
  iter : findIn (KK w) (.ref C) "__iter__" = some (some (.ref 236))
theorem pk_bl (w) : Pk w 410 := by constructor <;> first | kernel_rfl | (constructor <;> kernel_rfl)
theorem pk_bssf (w) : Pk w 429 := by constructor <;> first | kernel_rfl | (constructor <;> kernel_rfl)
theorem pk_baf (w) : Pk w 448 := by constructor <;> first | kernel_rfl | (constructor <;> kernel_rfl)
theorem pk_blsf (w) : Pk w 467 := by constructor <;> first | kernel_rfl | (constructor <;> kernel_rfl)
def packNames : List Str := ["_split", "_generate_splits", "_remove_duplicates", "_select_position", "_rect_fitness", "fitness", "add_rect", "rect_list", "reset", "__iter__", "__class__", "x"]
structure PMap (m : Str → Option Value) (l rl : Addr) (rot : Bool) (wd ht : Int) : Prop where
  mr : m "_max_rects" = some (.ref l)
  rl : m "rectangles" = some (.ref rl)
  rot : m "rot" = some (.bool rot)
  wd : ∃ t, m "width" = some (.int wd t)
  ht : ∃ t, m "height" = some (.int ht t)
  no : ∀ x ∈ packNames, m x = none
theorem PMap.set {m : Str → Option Value} {l l' rl : Addr} {rot : Bool} {wd ht : Int} (P : PMap m l rl rot wd ht) : PMap (upd m "_max_rects" (.ref l')) l' rl rot wd ht :=
  ⟨rfl, P.rl, P.rot, P.wd, P.ht, fun x hx => by
    have : x ≠ "_max_rects" := by rintro rfl; revert hx; decide
    show (if x = "_max_rects" then _ else _) = _
    rw [if_neg this]; exact P.no x hx⟩

section
variable {w : World} {A : Around} {hb0 h0 hb h : Heap} {env : Env} {L : Addr} {m : Str → Option Value} {O pre post : List (Addr × Own)} {rest : List Stmt} {pos : Pos} {s : Shared}
theorem St.inst {p C dp : Addr} {mp : Str → Option Value} {n : Nat} (S : St h0 hb0 hb O h) (ho : hb.get? p = some (instObj C dp)) (hm : (dp, .idc mp n) ∈ O) (hn : n ≤ 100) : Inst h p C mp :=
  ⟨dp, S.base _ _ ho, let ⟨es, ep, a, b, c, d⟩ := S.mem hm; ⟨es, ep, a, b, c, Nat.le_trans d hn⟩⟩
theorem aName {x : Str} {xp : Pos} {v : Value} {Q : Unit → Shared → Prop} {E : Value → Shared → Prop} (S : St h0 hb0 hb ((L, .ns m) :: O) s.heap)
    (k : ∀ h' tk, St h0 hb0 hb ((L, .ns (upd m x v)) :: O) h' → Q () { s with heap := h', toks := tk })
    (hL : env.locals = L := by rfl) (hk : env.scope.kind = .function := by rfl) (hl : env.kindOf x = some .local := by rfl) : wpAny (model PG w) A (assign (.Name x xp) env v) Q E s := by
  subst hL
  exact wpAny_assign_Name (wpAny_storeName_local hl S.ns (fun h2 hn hb => k h2 _ (St.upd (pre := []) S (Ext.of_same hb) hn)) (by rw [hk]; rfl))

theorem yMeth1 {o : Expr} {name : Str} {apos : Pos} {pl : Sem Bool} {x C₀ f : Addr} {mx : Str → Option Value} {e : Expr} {P1 P : Value → Heap → Prop} (G : Glob w hb) (yo : Y w A hb h (eval o env) (Is (.ref x))) (I : Inst h x C₀ mx) (M : Mth w C₀ name f) (hm : mx name = none)
    (hk : keepIn (KK w) (.ref f) = true) (y1 : Y w A hb h (eval e env) P1) (z : ∀ v b0 b1 h1, Up hb h b1 h1 → Keep b0 b1 → P1 v b0 → C w A b1 h1 (.ref f) [.ref x, v] [] P)
    (he : starEach [e] env = (false, eval e env) :: starEach [] env := by rfl) (hplain : ((backTo pos (starEach [e] env)).any (·.1) || (backToKw pos (keywordEach [] env)).any (·.1.isNone)) = false := by rfl)
    (ht : eval (.Call (.Attribute o name apos) [e] [] pos) env = (do
      let ov ← eval o env
      PySem.standAt apos.atName
      let (f, first) ← PySem.holding [ov] (getMethod ov name pl)
      callWith pos f first (backTo pos (starEach [e] env)) (backToKw pos (keywordEach [] env))) := by rfl) :
    Y w A hb h (eval (.Call (.Attribute o name apos) [e] [] pos) env) P :=
  yCallMeth (R := fun vs b => ∃ v b0, vs = [v] ∧ Keep b0 b ∧ P1 v b0) yo (yMethod G I M hm) (kept_K G hk) (yArgs_cons y1 (fun v b1 h1 u p1 => yArgs_nil fun b' k => ⟨v, b1, rfl, k, p1⟩) he)
    (fun vs b1 h1 u ⟨v, b0, e, k, p1⟩ => by subst e; exact yCall (z v b0 b1 h1 u k p1)) he hplain ht
theorem yMeth2 {o : Expr} {name : Str} {apos : Pos} {pl : Sem Bool} {x C₀ f : Addr} {mx : Str → Option Value} {e1 e2 : Expr} {P1 P2 P : Value → Heap → Prop} (G : Glob w hb) (yo : Y w A hb h (eval o env) (Is (.ref x))) (I : Inst h x C₀ mx) (M : Mth w C₀ name f) (hm : mx name = none)
    (hk : keepIn (KK w) (.ref f) = true) (y1 : Y w A hb h (eval e1 env) P1) (y2 : ∀ v b1 h1, Up hb h b1 h1 → P1 v b1 → Y w A b1 h1 (eval e2 env) P2)
    (z : ∀ v1 v2 b1 b2 b3 h3, Up hb h b3 h3 → Keep b1 b2 → Keep b2 b3 → P1 v1 b1 → P2 v2 b2 → C w A b3 h3 (.ref f) [.ref x, v1, v2] [] P)
    (he : starEach [e1, e2] env = (false, eval e1 env) :: starEach [e2] env := by rfl) (he2 : starEach [e2] env = (false, eval e2 env) :: starEach [] env := by rfl) (hplain : ((backTo pos (starEach [e1, e2] env)).any (·.1) || (backToKw pos (keywordEach [] env)).any (·.1.isNone)) = false := by rfl)
    (ht : eval (.Call (.Attribute o name apos) [e1, e2] [] pos) env = (do
      let ov ← eval o env
      PySem.standAt apos.atName
      let (f, first) ← PySem.holding [ov] (getMethod ov name pl)
      callWith pos f first (backTo pos (starEach [e1, e2] env)) (backToKw pos (keywordEach [] env))) := by rfl) :
    Y w A hb h (eval (.Call (.Attribute o name apos) [e1, e2] [] pos) env) P :=
  yCallMeth (R := fun vs b => ∃ v1 v2 b1 b2, vs = [v1, v2] ∧ Keep b1 b2 ∧ Keep b2 b ∧ P1 v1 b1 ∧ P2 v2 b2) yo (yMethod G I M hm) (kept_K G hk)
    (yArgs_cons y1 (fun v b1 h1 u p1 => (yArgs_cons (R := fun vs b => ∃ v2 b2, vs = [v2] ∧ Keep b1 b2 ∧ Keep b2 b ∧ P2 v2 b2) (y2 v b1 h1 u p1) (fun v2 b2 h2 u2 p2 => yArgs_nil fun b' k => ⟨v2, b2, rfl, u2.b, k, p2⟩) he2).mono fun vs b' _ ⟨v2, b2, e, k, k2, p2⟩ => ⟨v, v2, b1, b2, by rw [e], k, k2, p1, p2⟩) he)
    (fun vs b3 h3 u ⟨v1, v2, b1, b2, e, k, k2, p1, p2⟩ => by subst e; exact yCall (z v1 v2 b1 b2 b3 h3 u k k2 p1 p2)) he hplain ht
theorem mth_intersects (w) : Mth w 203 "intersects" 185 := by constructor <;> kernel_rfl
theorem mth_contains (w) : Mth w 203 "contains" 177 := by constructor <;> kernel_rfl
def cut (q r : R4) : List R4 := if R4.meets r q then splits r q else [r]
theorem cut_length (q r : R4) : (cut q r).length ≤ 4 := by
  unfold cut; split
  · unfold splits
    simp only [List.length_append]
    have := fun b (x : R4) => opt_length b x
    have h1 := this (decide (r.x < q.x)) ⟨r.x, r.y, q.x - r.x, r.h⟩
    have h2 := this (decide (q.x + q.w < r.x + r.w)) ⟨q.x + q.w, r.y, r.x + r.w - (q.x + q.w), r.h⟩
    have h3 := this (decide (q.y + q.h < r.y + r.h)) ⟨r.x, q.y + q.h, r.w, r.y + r.h - (q.y + q.h)⟩
    have h4 := this (decide (r.y < q.y)) ⟨r.x, r.y, r.w, q.y - r.y⟩
    lia
  · simp
theorem flatMap_le {α β : Type} {f : α → List β} {c : Nat} (hf : ∀ x, (f x).length ≤ c) : ∀ l : List α, (l.flatMap f).length ≤ c * l.length
  | [] => by simp
  | x :: l => by have := flatMap_le hf l; have := hf x; rw [List.flatMap_cons, List.length_append, List.length_cons, Nat.mul_succ]; lia
theorem m_split {C p dp a l rl : Addr} {mp : Str → Option Value} {n : Nat} {vs : List Value} {rs : List R4} {q : R4} {rot : Bool} {wd ht : Int} {Rr : Result → Shared → Prop} (S : St h0 hb0 hb ((dp, .idc mp n) :: O) s.heap) (G : Glob w hb) (R : Rm 4 A) (K : Pk w C)
    (ho : hb.get? p = some (instObj C dp)) (hn : n ≤ 50) (P : PMap mp l rl rot wd ht) (hl : hb.PlainList l vs.toArray) (hr : Rects hb vs rs) (hz : rs.length ≤ 100) (hpos : ∀ r ∈ rs, 0 ≤ r.w ∧ 0 ≤ r.h) (I : IsRect hb a q)
    (k : ∀ l' vs' b' h' tk, St h0 hb0 b' ((dp, .idc (upd mp "_max_rects" (.ref l')) n) :: O) h' → Keep hb b' → b'.PlainList l' vs'.toArray → Rects b' vs' (rs.flatMap (cut q)) → Rr (.ok (.ret .none)) { s with heap := h', toks := tk }) :
    codeAny (model PG w) A (.call (.ref 360) ⟨[.ref p, .ref a], []⟩) Rr s := by
  refine callM (binds := [("self", .ref p), ("rect", .ref a)]) S G R (by rfl) (by kernel_rfl) (BindsTo.of_eq rfl) rfl fun h1 tk1 L R1 S k1 E => ?_
  refine wLetOwn S (yLst (R := fun vs _ => vs = []) (yArgs_nil fun _ _ => rfl) (by rintro _ _ rfl; decide)) fun D vs0 b0 h1 tk1 e S => ?_
  subst e
  refine wForList S (yGetField G (yName S.ns rfl) (S.inst ho mem2 (by lia)) K.fmr P.mr rfl) fun v b1 h1 tk1 e S1 k1 => ?_
  cases e
  refine ⟨l, vs.toArray, rfl, (S1.base.trans (.refl _) |> fun kk => (hl.isList).at fun o e => kk _ _ (k1 _ _ e)), fun I2 h2 S2 kh => ?_⟩
  refine for_core2 (Src.list R1.hd I2 l vs.toArray) (fun i m O' b => ∃ vs', O' = (D, .lst vs'.toArray) :: (dp, .idc mp n) :: O ∧ Rects b vs' ((rs.take i).flatMap (cut q)) ∧ Keep b1 b ∧ m "self" = some (.ref p) ∧ m "rect" = some (.ref a) ∧ m "max_rects" = some (.ref D))
    (fun s' => ∃ h' tk, s' = { s with heap := h', toks := tk }) (by rintro _ h' tk ⟨_, _, rfl⟩; exact ⟨h', tk, rfl⟩) ?_ ?_ ?_ ⟨[], rfl, trivial, .refl _, rfl, rfl, rfl⟩ ⟨_, _, rfl⟩ S2
  · rintro i m O' b h _ ⟨vs', rfl, _, kb, _⟩ S3
    exact hl.isList.at fun o e => S3.base _ _ (kb _ _ (k1 _ _ e))
  · rintro i m O' b s3 v E QA kA hi ⟨vs', rfl, hr', kb, m1, m2, m3⟩ ⟨h3, tk3, rfl⟩ hv S3
    obtain ⟨a', r', rfl, Ir, hri⟩ := hr.at (v := v) (i := i) (by simpa using hv)
    have kb' := k1.trans kb
    have Gb := G.keep kb'
    have hlen : vs'.length ≤ 400 := by
      rw [hr'.length]
      refine Nat.le_trans (flatMap_le (cut_length q) _) ?_
      rw [List.length_take]; lia
    have hp' := hpos r' (List.mem_of_getElem? hri)
    have n1 : upd m "r" (.ref a') "self" = some (.ref p) := m1
    have n2 : upd m "r" (.ref a') "rect" = some (.ref a) := m2
    have n3 : upd m "r" (.ref a') "max_rects" = some (.ref D) := m3
    refine aName S3 fun h4 tk4 S4 => kA _ fun QB kQ => ?_
    have I1 : IsRect h4 a q := I.keep (kb'.trans S4.base)
    have I2 : IsRect h4 a' r' := Ir.keep (kb'.trans S4.base)
    refine wIf (b := R4.meets r' q) S4 ?_ (fun hb' b5 h5 tk5 S5 k5 => ?_) fun hb' b5 h5 tk5 S5 k5 => ?_
    · obtain ⟨m2', i2, M2⟩ := I2
      refine yTest_bool (yMeth1 Gb (yName S4.ns rfl) i2 (mth_intersects w) M2.o.2.2.2.2.2.1 (by kernel_rfl) (yName S4.ns n2) fun v b0 b1 h1 u k e => ?_)
      cases e
      exact c_intersects (Gb.keep u.b) (R1.less (by decide)) (IsRect.keep ⟨m2', i2, M2⟩ u.h) (I1.keep u.h)
    · refine wExtend (pre := [_, _]) (post := _) (P1 := fun us b => Rects b us (splits r' q)) S5 (yName S5.ns n3) (fun b' h' S' k' => ?_) (fun us b6 h6 tk6 hu S6 k6 => ?_)
      · have kb5 := kb'.trans (k5.trans k')
        have I1 : IsRect h' a q := I.keep (kb5.trans S'.base)
        have I2 : IsRect h' a' r' := Ir.keep (kb5.trans S'.base)
        refine (yMeth2 (P := fun v b' => ∃ D us, v = .ref D ∧ b'.PlainList D us.toArray ∧ Rects b' us (splits r' q)) (Gb.keep (k5.trans k')) (yName S'.ns n1) (S'.inst (kb5 _ _ ho) mem3 (by lia)) K.gen (P.no _ (by decide)) (by kernel_rfl) (yName S'.ns rfl) (fun _ _ _ u _ => (yName (S'.ns.keeps u.h) n2)) fun v1 v2 b1 b2 b3 h3 u _ _ e1 e2 => ?_).mono fun v b'' _ ⟨l, us, e, hl, hu⟩ => ⟨l, us, e, hl, ?_, hu⟩
        · cases e1; cases e2
          exact c_splits (Gb.keep ((k5.trans k').trans u.b)) (R1.less (by decide)) (I2.keep u.h) (I1.keep u.h) hp'.1 hp'.2
        · have := hu.length
          have hc := cut_length q r'
          unfold cut at hc; rw [if_pos hb'] at hc
          simp; lia
      · refine wNil (kQ (upd m "r" (.ref a')) _ b6 _ ⟨vs' ++ us, rfl, ?_, (kb.trans k5).trans k6, m1, m2, m3⟩ ⟨_, _, rfl⟩ ?_)
        · rw [take_flatMap hri]
          refine (hr'.keep (k5.trans k6)).append ?_
          unfold cut; rw [if_pos hb']; exact hu
        · simpa using S6
    · refine wAppend (pre := [_, _]) (post := _) S5 (by simp; lia) (yName S5.ns n3) (fun b' h' S' k' => yName S'.ns rfl) fun v6 b6 h6 tk6 e6 S6 k6 => ?_
      cases e6
      refine wNil (kQ (upd m "r" (.ref a')) _ b6 _ ⟨vs' ++ [.ref a'], rfl, ?_, (kb.trans k5).trans k6, m1, m2, m3⟩ ⟨_, _, rfl⟩ (by simpa using S6))
      rw [take_flatMap hri]
      refine (hr'.keep (k5.trans k6)).append ?_
      unfold cut; rw [if_neg (by rw [hb']; decide)]
      exact .one (Ir.keep ((kb'.trans k5).trans k6))
  · rintro m O' b s3 ⟨vs', rfl, hr', kb, m1, m2, m3⟩ ⟨h3, tk3, rfl⟩ S3
    have kb' := k1.trans kb
    have hlen : vs'.length ≤ 400 := by
      rw [hr'.length]
      refine Nat.le_trans (flatMap_le (cut_length q) _) ?_
      rw [List.length_take]; lia
    have hD : h3.IsList D vs'.toArray := Heap.PlainList.isList (S3.mem (p := (D, .lst vs'.toArray)) mem1)
    refine wSetF (pre := [_, _]) (post := O) S3 (G.keep kb') (S3.base _ _ (kb' _ _ ho)) (by lia) (yListOf hD (by simp; lia) (yName S3.ns m3) (yBltn (G.keep kb') (by rfl) bltn_list (by decide))) (fun b' h' S' _ => yName S'.ns m1) K.smr fun v b4 h4 tk4 e S4 k4 _ => ?_
    obtain ⟨b5, k5, l', rfl, hl', _⟩ := e
    rw [P.mr] at S4
    refine wNil (k l' vs' b4 h4 tk4 (S4.sub (.cons _ (.cons _ (.refl _)))) (kb'.trans k4) (hl'.at fun o e => k5 _ _ e) ?_)
    have e : rs.take vs.toArray.size = rs := List.take_of_length_le (by have := hr.length; simp; lia)
    rw [e] at hr'
    exact hr'.keep k4
end
end Mine
end
noncomputable section
open PySem PySem.W PyProof.Rows PySem.Calls Builtin Builtin.ObjectAttr Builtin.Getset_descriptor
set_option Elab.async false
set_option maxRecDepth 100000
set_option linter.unusedVariables false
namespace Mine
theorem IsRect.inj {h : Heap} {a : Addr} {r q : R4} (I : IsRect h a r) (J : IsRect h a q) : r = q := by
  obtain ⟨m, ⟨dx, i⟩, M⟩ := I
  obtain ⟨m', ⟨dx', i'⟩, M'⟩ := J
  have e := i.obj
  rw [i'.obj] at e
  cases e
  obtain ⟨es, ep, a1, a2, a3, _⟩ := i.dict
  obtain ⟨es', ep', b1, b2, b3, _⟩ := i'.dict
  rw [a1] at b1
  cases b1
  have mm : ∀ x, m x = m' x := fun x => (a3 x).symm.trans (b3 x)
  obtain ⟨x, y, ww, hh⟩ := r
  obtain ⟨x', y', ww', hh'⟩ := q
  have e1 := M.x; have e2 := M.y; have e3 := M.w; have e4 := M.h
  rw [mm] at e1 e2 e3 e4
  obtain ⟨_, e1⟩ := e1; obtain ⟨_, e2⟩ := e2; obtain ⟨_, e3⟩ := e3; obtain ⟨_, e4⟩ := e4
  obtain ⟨_, f1⟩ := M'.x; obtain ⟨_, f2⟩ := M'.y; obtain ⟨_, f3⟩ := M'.w; obtain ⟨_, f4⟩ := M'.h
  rw [e1] at f1; rw [e2] at f2; rw [e3] at f3; rw [e4] at f4
  cases f1; cases f2; cases f3; cases f4
  rfl
section
variable {w : World} {A : Around} {hb0 h0 hb h : Heap} {env : Env} {L : Addr} {m : Str → Option Value} {O pre post : List (Addr × Own)} {rest : List Stmt} {pos : Pos} {s : Shared} {a b : Addr} {ra rb : R4}
theorem IsRect.look {M : Model} (I : IsRect h a ra) : Looks M h (typeOf (.ref a)) (.ref 203) := by
  obtain ⟨m, I, _⟩ := I
  obtain ⟨ox, od, I', _⟩ := I.at
  exact I'.type
def eqB (ra rb : R4) : Bool := (ra.w == rb.w) && ((ra.h == rb.h) && ((ra.x == rb.x) && (ra.y == rb.y)))
theorem eqB_eq : eqB ra rb = decide (ra = rb) := by
  unfold eqB
  obtain ⟨x, y, ww, hh⟩ := ra
  obtain ⟨x', y', ww', hh'⟩ := rb
  rw [Bool.eq_iff_iff]
  simp
  constructor
  · rintro ⟨rfl, rfl, rfl, rfl⟩; exact ⟨rfl, rfl, rfl, rfl⟩
  · rintro ⟨rfl, rfl, rfl, rfl⟩; exact ⟨rfl, rfl, rfl, rfl⟩
theorem c_eq (G : Glob w hb) (R : Rm 1 A) (Ia : IsRect h a ra) (Ib : IsRect h b rb) : C w A hb h (.ref 149) [.ref a, .ref b] [] (Is (Value.bool (decide (ra = rb)))) := by
  refine callC (binds := [("self", .ref a), ("other", .ref b)]) G R (by rfl) (by kernel_rfl) (fun s _ => BindsTo.of_eq rfl) (locs_of rfl) fun s c h0 L u G₁ R₁ S E => ?_
  have Ia := Ia.keep u.h
  have Ib := Ib.keep u.h
  refine wIf (b := false) S (yTestNot (b := true) (yTest_bool (yCall2 (P1 := Is (.ref b)) (P2 := Is (.ref 203)) (yBltn G₁ (by rfl) bltn_isinstance (by decide)) kept_bltn (yName S.ns rfl) (fun _ _ _ u _ => yGlob (G₁.keep u.b) (by rfl)) fun v1 v2 b1 b2 b3 h3 u _ _ e1 e2 => ?_))) (fun x => by cases x) fun _ b1 h1 tk1 S1 k1 => ?_
  · cases e1; cases e2
    exact yTok fun s Q E kb kh q => isi_call ((G₁.keep u.b).keep kb).K (fun M => ((Ib.keep (S.keep.trans (u.h.trans kh))).look)) (by kernel_rfl) (by simp) (q _ s.toks fun _ _ => rfl)
  · have G₁ := G₁.keep k1
    have Ia := Ia.keep S1.keep
    have Ib := Ib.keep S1.keep
    rw [← eqB_eq]
    refine wRet S1 (P := Is (Value.bool (eqB ra rb))) (yBoolOp ?_) fun v b' h' tk p S' k => ⟨b', h', tk, rfl, p, S'.res⟩
    refine yValAnd (yCmp (yW G₁ Ia (yName S1.ns rfl)) (yW G₁ Ib (yName S1.ns rfl))) fun _ => ?_
    refine yValAnd (yCmp (yH G₁ Ia (yName S1.ns rfl)) (yH G₁ Ib (yName S1.ns rfl))) fun _ => ?_
    refine yValAnd (yCmp (yX G₁ Ia (yName S1.ns rfl)) (yX G₁ Ib (yName S1.ns rfl))) fun _ => ?_
    exact yCmp (yY G₁ Ia (yName S1.ns rfl)) (yY G₁ Ib (yName S1.ns rfl))
theorem yEqBool (G : Glob w hb) (R : Rm 1 A) (Ia : IsRect h a ra) (Ib : IsRect h b rb) : Y w A hb h (eqBool (.ref a) (.ref b)) (Is (decide (ra = rb))) := by
  unfold eqBool
  refine yHolding ?_
  by_cases e : a = b
  · subst e
    have := Ia.inj Ib
    subst this
    rw [if_pos (by simp)]
    refine ySeq_rule (yPure fun _ _ => by show true = _; simp)
  · rw [if_neg (by simp [e])]
    intro s c u Q E q
    have Ia := Ia.keep u.h
    have Ib := Ib.keep u.h
    obtain ⟨mm, ii, M⟩ := id Ia
    obtain ⟨ox, od, I', _⟩ := ii.at
    have Gs := (G.keep u.b).keep u.i
    have ub : Up c s.heap c s.heap := ⟨.refl _, .refl _, u.i⟩
    have one : ∀ (Q : Option Value → Shared → Prop), (∀ b' h' tk, Res c b' s.heap h' → Q (some (.bool (decide (ra = rb)))) { s with heap := h', toks := tk }) → wpAny (model PG w) A (tryCompare (.ref a) "__eq__" (.ref b)) Q E s := fun Q q => by
      unfold tryCompare
      refine wpAny_bind (ifBound_K Gs.K I' (by kernel_rfl) (f := 149) (by kernel_rfl) (wpAny_call (c_eq (G.keep u.b) R Ia Ib s c ub _ fun v b' h' tk p r => ?_)))
      cases p
      exact wpAny_pure (q b' h' tk r)
    unfold richCompare
    simp only [oneThing_ref]
    refine wpAny_bind (wpAny_holding (wpAny_bind (wpAny_cRoomFor (by have := R.line; lia) ?_)))
    refine wpAny_bind (Ia.look.here (wpAny_bind (Ib.look.here ?_)))
    rw [if_neg (by simp)]
    refine wpAny_bind (wpAny_pure ?_)
    simp only [Bool.false_eq_true, if_false]
    refine wpAny_bind (one _ fun b' h' tk r => wpAny_pure ?_)
    exact wpAny_truthy_bool (q _ b' h' tk rfl r)
end
end Mine
end
noncomputable section
open PySem PySem.W PyProof.Rows PySem.Calls Builtin Builtin.ObjectAttr Builtin.Getset_descriptor
set_option Elab.async false
set_option maxRecDepth 100000
set_option linter.unusedVariables false
namespace Mine
section
variable {w : World} {A : Around} {hb0 h0 hb h : Heap} {env : Env} {L : Addr} {m : Str → Option Value} {O pre post : List (Addr × Own)} {rest : List Stmt} {pos : Pos} {s : Shared} {a b l : Addr} {ra : R4} {vs : List Value} {rs : List R4}
theorem contains_loop_rects (G : Glob w hb) (R : Rm 2 A) (Ia : IsRect h a ra) (hl : h.IsList l vs.toArray) (hr : Rects h vs rs) : ∀ (k i : Nat), vs.length - i = k → ∀ (s : Shared) (b : Heap), Up hb h b s.heap → ∀ (Rr : Result → Shared → Prop),
    (∀ b' h' tk, Res b b' s.heap h' → Rr (.ok (.ret (.bool ((rs.drop i).any fun r => decide (r = ra))))) { s with heap := h', toks := tk }) →
    codeAny (model PG w) A (.builtin "list.__contains__.loop" ⟨[.ref l, .ref a, rawInt i], []⟩) Rr s := by
  intro k
  induction k with
  | zero =>
    intro i hk s b u Rr q
    refine codeAny_builtin MeetsSeq.entry_contains_loop ?_
    rw [Around.under_plainId MeetsSeq.plain_contains_loop _]
    obtain ⟨o, ho, hc, n, hd⟩ := hl.at fun o e => u.h _ _ e
    refine wpAny_bind (listItems_at ho hd ?_)
    have hi : vs.toArray[((i : Nat) : Int).toNat]? = none := by simp; lia
    rw [hi]
    have hdr : rs.drop i = [] := by have := hr.length; simp; lia
    have := q b s.heap s.toks (.refl u.i)
    rw [hdr] at this
    exact wpAny_pure this
  | succ k ih =>
    intro i hk s b u Rr q
    refine codeAny_builtin MeetsSeq.entry_contains_loop ?_
    rw [Around.under_plainId MeetsSeq.plain_contains_loop _]
    obtain ⟨o, ho, hc, n, hd⟩ := hl.at fun o e => u.h _ _ e
    refine wpAny_bind (listItems_at ho hd ?_)
    have hlt : i < vs.length := by lia
    have hi : vs.toArray[((i : Nat) : Int).toNat]? = some vs[i] := by simp [hlt]
    rw [hi]
    obtain ⟨a', r', e, Ir, hri⟩ := hr.at (v := vs[i]) (i := i) (by simp [hlt])
    rw [e]
    have hdr : rs.drop i = r' :: rs.drop (i + 1) := by
      obtain ⟨hlt', he⟩ := List.getElem?_eq_some_iff.mp hri
      rw [List.drop_eq_getElem_cons hlt', he]
    rw [hdr, List.any_cons] at q
    refine wpAny_bind (yEqBool G R.in1 (Ir) (Ia) s b u _ _ fun v b' h' tk p r => ?_)
    cases p
    cases hd : decide (r' = ra) with
    | true =>
      rw [hd] at q
      rw [if_pos rfl]
      exact wpAny_pure (q b' h' tk r)
    | false =>
      rw [hd] at q
      rw [if_neg (by simp)]
      have hc : ((i : Int) + 1) = ((i + 1 : Nat) : Int) := by push_cast; rfl
      rw [hc]
      exact wpAny_pure ⟨plainId_quiet MeetsSeq.plain_contains_loop _, ih (i + 1) (by lia) { s with heap := h', toks := tk } b' (u.trans r.up) _ fun b2 h2 tk2 r2 => by
        have := q b2 h2 tk2 (r.trans r2)
        rw [Bool.false_or] at this
        exact this⟩
theorem yNotInRects (G : Glob w hb) (R : Rm 3 A) (Ia : IsRect h a ra) (hl : h.IsList l vs.toArray) (hr : Rects h vs rs) : Y w A hb h (compareOp .NotIn (.ref a) (.ref l)) (Is (.bool (!(rs.any fun r => decide (r = ra))))) := by
  intro s b u Q E q
  have hT : s.TypeIs (.ref l) "list" := (hl.at fun o e => u.h _ _ e).typeIs
  show wpAny _ A (do return .bool (!(← contains (.ref l) (.ref a)))) Q E s
  refine wpAny_bind (wpAny_contains_slot hT F.slot_list_contains (wpAny_call (codeAny_call_builtin F.slot_list_contains.plain F.entry_list_contains (F.slot_list_contains.check _ _ _ _ _ _ _ _ hT (F.args_list_contains_2 _ _) ?_))))
  unfold Builtin.«list.__contains__»
  refine wpAny_bind (m := slotArgs "__contains__" 1 ⟨[.ref l, .ref a], []⟩) (wpAny_of_eq (a := (.ref l, [.ref a])) rfl ?_)
  refine wpAny_pure ⟨plainId_quiet MeetsSeq.plain_contains_loop _, ?_⟩
  refine contains_loop_rects G (R.less (by decide)) Ia hl hr _ 0 rfl s b u _ fun b' h' tk r => ?_
  exact wpAny_truthy_bool (wpAny_pure (q _ b' h' tk rfl r))
end
end Mine
end
noncomputable section
open PySem PySem.W PyProof.Rows PySem.Calls Builtin Builtin.ObjectAttr Builtin.Getset_descriptor
set_option Elab.async false
set_option maxRecDepth 100000
set_option linter.unusedVariables false
namespace Mine
def tests (env : Env) (ifs : List Expr) : Sem Bool := forIn ifs true fun c r => if r = true then do let ok ← isTrue c env (eval c env); pure (ForInStep.yield ok) else pure (ForInStep.yield r)
section
variable {w : World} {A : Around} {hb h : Heap} {env : Env}
theorem yTests0 : Y w A hb h (tests env []) (Is true) := yPure fun _ _ => rfl
theorem yTests1 {c : Expr} {b : Bool} (y : Y w A hb h (isTrue c env (eval c env)) (Is b)) : Y w A hb h (tests env [c]) (Is b) :=
  fun s b' u Q E q => wpAny_tests_one (y s b' u Q E q)
end
section
variable {w : World} {A : Around} {hb0 h0 : Heap} {elt : Expr} {gens : List Comprehension} {scope : Scope} {cpos : Pos} {env : Env} {C I D : Addr} {T : Nat → Own} {need : Heap → Prop} {n : Nat} {P : Nat → Value → Prop} {O : List (Addr × Own)}
theorem comp_core {d : Nat} {target : Expr} {ifs : List Expr} {R : Result → Shared → Prop} (body : Sem Unit) (p : Pos)
    (heq : compTurn (.ListComp elt gens scope cpos) d (.ref I) (.ref D) env = (do
      standAt p
      match ← pyNext (.ref I) with
      | none => pure (.done .next)
      | some v =>
        letOwnedTupleGo target (.ref I) v
        assign target env v
        let mut ok := true
        for c in ifs do
          if ok then ok ← isTrue c env (eval c env)
        if ok then
          body
        again (.compLoop (.ListComp elt gens scope cpos) d (.ref I) (.ref D) env)))
    (X : Src w A I T need n P) (J : Nat → (Str → Option Value) → List Value → Heap → Prop) (Z : Shared → Prop) (hZ : ∀ s h' tk, Z s → Z { s with heap := h', toks := tk })
    (hneed : ∀ i m ys b h, i ≤ n → J i m ys b → St h0 hb0 b ((C, .ns m) :: (I, T i) :: (D, .lst ys.toArray) :: O) h → need h)
    (step : ∀ i m ys b s v E, i < n → J i m ys b → Z s → P i v → St h0 hb0 b ((C, .ns m) :: (I, T (i + 1)) :: (D, .lst ys.toArray) :: O) s.heap →
      wpAny (model PG w) A (assign target env v) (fun _ s2 => wpAny (model PG w) A (tests env ifs) (fun ok s3 =>
        if ok = true then wpAny (model PG w) A body (fun _ s4 => ∃ m' ys' b', J (i + 1) m' ys' b' ∧ Z s4 ∧ St h0 hb0 b' ((C, .ns m') :: (I, T (i + 1)) :: (D, .lst ys'.toArray) :: O) s4.heap) E s3
        else ∃ m' ys' b', J (i + 1) m' ys' b' ∧ Z s3 ∧ St h0 hb0 b' ((C, .ns m') :: (I, T (i + 1)) :: (D, .lst ys'.toArray) :: O) s3.heap) E s2) E s)
    (done : ∀ m ys b s, J n m ys b → Z s → St h0 hb0 b ((C, .ns m) :: (D, .lst ys.toArray) :: O) s.heap → R (.ok .next) s)
    {s : Shared} {m : Str → Option Value} {ys : List Value} {b : Heap} (j : J 0 m ys b) (z : Z s) (S : St h0 hb0 b ((C, .ns m) :: (I, T 0) :: (D, .lst ys.toArray) :: O) s.heap) :
    codeAny (model PG w) A (.compLoop (.ListComp elt gens scope cpos) d (.ref I) (.ref D) env) R s := by
  refine codeAny_loop rfl (fun k s' => ∃ i m ys b, k = n + 1 - i ∧ i ≤ n ∧ J i m ys b ∧ Z s' ∧ St h0 hb0 b ((C, .ns m) :: (I, T i) :: (D, .lst ys.toArray) :: O) s'.heap) ?_ (n + 1) ⟨0, m, ys, b, rfl, Nat.zero_le _, j, z, S⟩
  rintro k s' ⟨i, m, ys, b, rfl, hi, j, z, S⟩
  show wpAny _ A ((compTurn (.ListComp elt gens scope cpos) d (.ref I) (.ref D) env).onRaise (fun x => do noteFrame x env; theTreesLotGoes x)) _ _ _
  refine wpAny_noted ?_
  rw [heq]
  refine wpAny_bind (wpAny_standAt (wpAny_bind ?_))
  have hI := S.mem (p := (I, T i)) (by simp)
  have hn := hneed i m ys b _ hi j S
  by_cases hlt : i < n
  · refine X.item i s' _ _ hlt hI hn fun v h1 tk1 p at1 ex => ?_
    have S1 : St h0 hb0 b ((C, .ns m) :: (I, T (i + 1)) :: (D, .lst ys.toArray) :: O) h1 := St.upd (pre := [_]) S ex at1
    refine wpAny_bind (X.go (i + 1) target v _ _ _ at1 ?_)
    refine wpAny_bind (wpAny_mono (step i m ys b _ v _ hlt j (hZ _ _ _ z) p S1) (fun _ s2 x => wpAny_bind (wpAny_mono x (fun ok s3 y => ?_) fun _ _ e => e)) fun _ _ e => e)
    have fin : ∀ s4, (∃ m' ys' b', J (i + 1) m' ys' b' ∧ Z s4 ∧ St h0 hb0 b' ((C, .ns m') :: (I, T (i + 1)) :: (D, .lst ys'.toArray) :: O) s4.heap) →
        ∃ k', k' < n + 1 - i ∧ ∃ i m ys b, k' = n + 1 - i ∧ i ≤ n ∧ J i m ys b ∧ Z s4 ∧ St h0 hb0 b ((C, .ns m) :: (I, T i) :: (D, .lst ys.toArray) :: O) s4.heap := by
      rintro s4 ⟨m', ys', b', j', z', S'⟩
      exact ⟨n + 1 - (i + 1), by lia, i + 1, m', ys', b', rfl, hlt, j', z', S'⟩
    cases ok with
    | false => exact wpAny_pure ⟨rfl, fin _ y⟩
    | true => exact wpAny_bind (wpAny_mono y (fun _ s4 y => wpAny_pure ⟨rfl, fin _ y⟩) fun _ _ e => e)
  · have e : i = n := by lia
    subst e
    refine X.done s' _ _ hI hn fun h1 tk1 ex => ?_
    refine wpAny_pure (done m ys b _ j (hZ _ _ _ z) ?_)
    have S1 : St h0 hb0 b ((C, .ns m) :: (D, .lst ys.toArray) :: O) s'.heap := S.sub (.cons₂ _ (.cons _ (List.Sublist.refl _)))
    have hne : ∀ p ∈ (C, Own.ns m) :: (D, .lst ys.toArray) :: O, p.1 ≠ I := fun p hp q => by
      have nd := S.nd
      simp only [List.map_cons, List.nodup_cons, List.mem_cons, not_or] at nd
      rcases List.mem_cons.mp hp with rfl | hp
      · exact nd.1.1 q
      · rcases List.mem_cons.mp hp with rfl | hp
        · exact nd.2.1.1 q.symm
        · exact nd.2.1.2 (List.mem_map.mpr ⟨p, hp, q⟩)
    have hIo := S.own (I, T i) (by simp)
    have nb : ∀ c ob, b.get? c = some ob → c ≠ I := fun c ob x q => by subst q; rw [hIo.2.1] at x; cases x
    have n0 : ∀ c ob, h0.get? c = some ob → c ≠ I := fun c ob x q => by subst q; rw [hIo.2.2] at x; cases x
    exact ⟨⟨⟨S1.res.up.b, fun c ob x => ex c ob (n0 c ob x) (S1.res.up.h c ob x), fun c ob x => ex c ob (nb c ob x) (S1.res.up.i c ob x)⟩, S1.res.new⟩,
      fun p hp => ⟨(S1.own p hp).1.at fun o x => ex _ _ (hne p hp) x, (S1.own p hp).2⟩, S1.nd⟩
end
end Mine
end
noncomputable section
open PySem PySem.W PyProof.Rows PySem.Calls Builtin Builtin.ObjectAttr Builtin.Getset_descriptor
set_option Elab.async false
set_option maxRecDepth 100000
set_option linter.unusedVariables false
namespace Mine
theorem St.letGo {h0 hb0 hb h h' : Heap} {a : Addr} {o : Own} {O : List (Addr × Own)} (S : St h0 hb0 hb ((a, o) :: O) h) (k : Ext a h h') : St h0 hb0 hb O h' := by
  have ha := S.own (a, o) (.head _)
  have nb : ∀ b ob, hb.get? b = some ob → b ≠ a := fun b ob e n => by subst n; rw [ha.2.1] at e; cases e
  have n0 : ∀ b ob, h0.get? b = some ob → b ≠ a := fun b ob e n => by subst n; rw [ha.2.2] at e; cases e
  have nd := S.nd
  rw [List.map_cons, List.nodup_cons] at nd
  exact ⟨⟨⟨S.res.up.b, fun b ob e => k b ob (n0 b ob e) (S.res.up.h b ob e), fun b ob e => k b ob (nb b ob e) (S.res.up.i b ob e)⟩, S.res.new⟩,
    fun p m => let ⟨x, y⟩ := S.own p (.tail _ m); ⟨x.at fun ob e => k _ ob (fun q => nd.1 (List.mem_map.mpr ⟨p, m, q⟩)) e, y⟩, nd.2⟩
structure Itr (w : World) (A : Around) (v : Value) (h1 : Heap) (T : Nat → Own) (need : Heap → Prop) (n : Nat) (P : Nat → Value → Prop) : Prop where
  start : ∀ (s : Shared) (Q : Value → Shared → Prop) (E : Value → Shared → Prop), Keep h1 s.heap → (∀ I h2 tk, s.heap.get? I = none → (T 0).At h2 I → Keep s.heap h2 → Q (.ref I) { s with heap := h2, toks := tk }) → wpAny (model PG w) A (pyIter v) Q E s
  src : ∀ I, Src w A I T need n P
theorem Itr.list {w : World} {A : Around} {h1 : Heap} {l : Addr} {xs : Array Value} (hA : A.handled = none) (hl : h1.IsList l xs) : Itr w A (.ref l) h1 (.itr l) (fun h => h.IsList l xs) xs.size (fun i v => xs[i]? = some v) :=
  ⟨fun s Q E k q => wpAny_pyIter_list (hl.at fun o e => k _ _ e) (q _ _ s.toks (fresh_size _) ⟨_, Heap.get?_push_size _ rfl, rfl, rfl⟩ (Keep.push _ _)), fun I => Src.list hA I l xs⟩
theorem Src.range {w : World} {A : Around} (hh : A.handled = none) (I : Addr) (a c : Int) (n : Nat) : Src w A I (fun i => .rng (a + (i : Nat) * c) ((n : Int) - (i : Nat)) c) (fun _ => True) n (fun i v => ∃ t, v = .int (a + i * c) t) where
  item := fun i s Q E hi at_ nd q => by
    refine wpAny_pyNext_range_item at_ (by lia) fun h' hit' hs' => ?_
    refine q _ h' _ ⟨_, rfl⟩ ?_ (Ext.of_same hs')
    have e1 : a + ((i + 1 : Nat) : Int) * c = a + (i : Int) * c + c := by push_cast; rw [Int.add_mul, Int.one_mul, Int.add_assoc]
    have e2 : (n : Int) - ((i + 1 : Nat) : Int) = (n : Int) - (i : Int) - 1 := by push_cast; lia
    show IsRangeIter h' I _ _ c
    rw [e1, e2]; exact hit'
  done := fun s Q E at_ nd q => wpAny_pyNext_range_end hh at_ (by lia) fun h' he' => q h' s.toks fun b o hb e => he' b o hb e
  go := fun i target v s Q E at_ q => go_fields at_ rfl rfl (by decide) q
  self := fun i s Q E at_ q => wpAny_pyIter_rangeiter at_ q
theorem Itr.range {w : World} {A : Around} {h1 : Heap} {r : Addr} {a b c : Int} {n : Nat} {t u v : Tok} (hA : A.handled = none) (hr : IsRange h1 r a b c t u v) (hs : Builtin.Range.small a b c = true) (hn : Builtin.Range.rangeSize a b c = n) :
    Itr w A (.ref r) h1 (fun i => .rng (a + (i : Nat) * c) ((n : Int) - (i : Nat)) c) (fun _ => True) n (fun i v => ∃ t, v = .int (a + i * c) t) :=
  ⟨fun s Q E k q => wpAny_pyIter_range (k _ _ hr) hs (q _ _ s.toks (fresh_size _) (by
    show IsRangeIter _ _ _ _ _
    have e1 : a + ((0 : Nat) : Int) * c = a := by simp
    have e2 : (n : Int) - ((0 : Nat) : Int) = n := by simp
    rw [e1, e2, ← hn]; exact Heap.get?_push_size _ rfl) (Keep.push _ _)), fun I => Src.range hA I a c n⟩

inductive KS (w : World) (A : Around) (env : Env) (elt target iter : Expr) (ifs : List Expr) (gs : List Comprehension) (scope : Scope) (pos : Pos) (cl : List (Str × Addr)) (P : Value → Heap → Prop) (v : Value) (b1 h1 : Heap) : Prop
  | mk (T : Nat → Own) (need : Heap → Prop) (n : Nat) (PI : Nat → Value → Prop) (it : Itr w A v h1 T need n PI) (run : ∀ (s : Shared) (h0 b2 : Heap) I D C (R : Result → Shared → Prop), Up b1 h1 b2 h0 → Keep h0 s.heap →
      St h0 b2 b2 [(C, .ns fun _ => none), (I, T 0), (D, .lst #[])] s.heap →
      (∀ ys m b3 h3 tk, St h0 b2 b3 [(C, .ns m), (D, .lst ys)] h3 → (∀ b4, Keep b3 b4 → b4.PlainList D ys → P (.ref D) b4) → R (.ok .next) { s with heap := h3, toks := tk }) →
      codeAny (model PG w) A (.compLoop (.ListComp elt (⟨target, iter, ifs, 0⟩ :: gs) scope pos) 0 (.ref I) (.ref D) (compEnvC scope cl C env)) R s)
inductive K1T (w : World) (A : Around) (env : Env) (elt target : Expr) (ifs : List Expr) (scope : Scope) (cl : List (Str × Addr)) (T : Nat → Own) (J : Nat → List Value → Heap → Prop) (i : Nat) (ys : List Value) (v : Value) (s : Shared) (h0 b2 b : Heap) (I D C : Addr) : Prop
  | mk (m2 : Str → Option Value) (c : Bool) (asg : ∀ (Q : Unit → Shared → Prop) E, (∀ h' tk, St h0 b2 b ((C, .ns m2) :: (I, T (i + 1)) :: [(D, .lst ys.toArray)]) h' → Q () { s with heap := h', toks := tk }) → wpAny (model PG w) A (assign target (compEnvC scope cl C env) v) Q E s)
      (tst : ∀ h', St h0 b2 b ((C, .ns m2) :: (I, T (i + 1)) :: [(D, .lst ys.toArray)]) h' → Y w A b h' (tests (compEnvC scope cl C env) ifs) (Is c))
      (cf : c = false → ∀ b', Keep b b' → J (i + 1) ys b')
      (ct : c = true → ∀ b' h', Keep b b' → St h0 b2 b' ((C, .ns m2) :: (I, T (i + 1)) :: [(D, .lst ys.toArray)]) h' → Y w A b' h' (eval elt (compEnvC scope cl C env)) fun y b'' => J (i + 1) (ys ++ [y]) b'')
inductive K1 (w : World) (A : Around) (hb : Heap) (env : Env) (elt target : Expr) (ifs : List Expr) (scope : Scope) (cl : List (Str × Addr)) (P : Value → Heap → Prop) (v : Value) (b1 h1 : Heap) : Prop
  | mk (T : Nat → Own) (need : Heap → Prop) (n : Nat) (PI : Nat → Value → Prop) (J : Nat → List Value → Heap → Prop) (it : Itr w A v h1 T need n PI) (nd : ∀ h, Keep h1 h → need h) (hz : n ≤ 1000) (j0 : ∀ b, Keep b1 b → J 0 [] b)
      (jend : ∀ ys b, J n ys b → ys.length ≤ n → ∀ D, hb.get? D = none → ∀ b', Keep b b' → b'.PlainList D ys.toArray → P (.ref D) b')
      (step : ∀ i ys v (s : Shared) (h0 b2 b : Heap) I D C m, i < n → J i ys b → PI i v → Up b1 h1 b2 h0 → Keep b2 b → St h0 b2 b ((C, .ns m) :: (I, T (i + 1)) :: [(D, .lst ys.toArray)]) s.heap → K1T w A env elt target ifs scope cl T J i ys v s h0 b2 b I D C)
section
variable {w : World} {A : Around} {hb h : Heap} {env : Env}
theorem yCompStart {elt target iter : Expr} {ifs : List Expr} {gs : List Comprehension} {scope : Scope} {pos : Pos} {cl : List (Str × Addr)} {P0 P : Value → Heap → Prop}
    (yi : Y w A hb h (eval iter env) P0)
    (k : ∀ v b1 h1, Up hb h b1 h1 → P0 v b1 → KS w A env elt target iter ifs gs scope pos cl P v b1 h1)
    (hclos : closureFor scope env = pure cl := by rfl) (hcell : ∀ y ∈ scope.names, y.2 ≠ .cell := by decide) (hkind : scope.kind = .function := by rfl)
    (hnames : ∀ y ∈ scope.names, y.2 = .local → scope.names.lookup y.1 = some .local := by decide) (hs : ∀ x, foldedSetIterable iter env x = pure x := by intro _; rfl) :
    Y w A hb h (eval (.ListComp elt (⟨target, iter, ifs, 0⟩ :: gs) scope pos) env) P := by
  intro s b u Q E q
  rw [eval_ListComp]
  refine wpAny_comprehension_free (use := none) rfl hs hclos hkind hnames (yi s b u _ _ fun v b1 h1 tk p r => ?_)
  have u1 := u.trans r.up
  obtain ⟨T, need, n, PI, it, k⟩ := k v b1 h1 u1 p
  refine it.start _ _ _ (Keep.refl _) fun I h2 tk2 f0 atI k2 => ?_
  dsimp only at f0 k2 ⊢
  have S0 : St h1 b1 b1 [] h1 := ⟨.refl r.up.i, fun p m => (by cases m), .nil⟩
  have S1 : St h1 b1 b1 [(I, T 0)] h2 := St.add (pre := []) (post := []) S0 k2 f0 atI
  refine wpAny_newObj_type (wpAny_newFunctionEnv hcell (by intro y hy; simp at hy) (fun h₁ hns₁ hsb₁ => ?_) hkind)
  dsimp only at hns₁ hsb₁ ⊢
  have fD := fresh_size h2
  have k3 := Keep.push h2 { cls := .type "list", dict := none, data := .seq ([] : List Value).toArray }
  have atD : (h2.push { cls := .type "list", dict := none, data := .seq ([] : List Value).toArray }).PlainList h2.objs.size #[] := ⟨0, Heap.get?_push_size _ rfl⟩
  generalize h2.push { cls := .type "list", dict := none, data := .seq ([] : List Value).toArray } = H2 at hns₁ hsb₁ k3 atD ⊢
  have S2 : St h1 b1 b1 [(I, T 0), (h2.objs.size, .lst #[])] H2 := St.add (pre := [_]) (post := []) S1 k3 fD atD
  have k4 : Keep H2 h₁ := fun c o e => hsb₁.extBut c o (Nat.ne_of_lt (Heap.lt_size e)) (Heap.get?_push_of_some _ e)
  have S3 : St h1 b1 b1 [(H2.objs.size, .ns fun _ => none), (I, T 0), (h2.objs.size, .lst #[])] h₁ := St.add (pre := []) S2 k4 (fresh_size H2) hns₁
  have fin : ∀ tk, codeAny (model PG w) A (.compLoop (.ListComp elt (⟨target, iter, ifs, 0⟩ :: gs) scope pos) 0 (.ref I) (.ref h2.objs.size) (compEnvC scope cl H2.objs.size env))
      (compPost (model PG w) A E none Q (.ref h2.objs.size) H2.objs.size) { s with heap := h₁, toks := tk } := fun tk => by
    refine k _ h1 b1 I h2.objs.size H2.objs.size _ ⟨.refl _, .refl _, r.up.i⟩ S3.keep S3 fun ys m b3 h3 tk3 S4 hP => ?_
    refine ⟨m, S4.ns, fun h4 sb => ?_⟩
    have S5 : St h1 b1 b3 [(h2.objs.size, .lst ys)] h4 := S4.letGo (Ext.of_same sb)
    obtain ⟨b4, S6, k5, atD'⟩ := St.freeze (pre := []) S5
    exact q (.ref h2.objs.size) b4 h4 tk3 (hP b4 k5 atD') (r.trans S6.res)
  exact codeAny_compStart_list (fin _) ((it.src I).self 0 _ _ _ (S3.mem (p := (I, T 0)) (by simp)) (fin _))
theorem comp1_k {elt target iter : Expr} {ifs : List Expr} {scope : Scope} {pos : Pos} {cl : List (Str × Addr)} {P0 P : Value → Heap → Prop}
    (k : ∀ v b1 h1, Up hb h b1 h1 → P0 v b1 → K1 w A hb env elt target ifs scope cl P v b1 h1) :
    ∀ v b1 h1, Up hb h b1 h1 → P0 v b1 → KS w A env elt target iter ifs [] scope pos cl P v b1 h1 := by
  intro v b1 h1 u p
  obtain ⟨T, need, n, PI, J, it, nd, hz, j0, jend, step⟩ := k v b1 h1 u p
  refine ⟨T, need, n, PI, it, fun s h0 b2 I D C R u2 k2 S fin => ?_⟩
  have hD : hb.get? D = none := by
    have := (S.own (D, .lst #[]) (by simp)).2.1
    exact keep_none (u.b.trans u2.b) this
  refine comp_core (O := []) (do let _ ← call (.builtin "list.append") [.ref D, ← eval elt (compEnvC scope cl C env)]) iter.pos rfl (it.src I) (fun i m ys b => J i ys b ∧ Keep b2 b ∧ ys.length ≤ i) (fun s' => ∃ h' tk, s' = { s with heap := h', toks := tk }) (by rintro _ h' tk ⟨_, _, rfl⟩; exact ⟨h', tk, rfl⟩)
    (fun i m ys b h _ _ S => nd _ (u2.h.trans S.keep)) ?_ ?_ (ys := []) (b := b2) ⟨j0 _ u2.b, .refl _, Nat.le_refl _⟩ ⟨_, _, rfl⟩ S
  · rintro i m ys b s3 v E hi ⟨j, kb, le⟩ ⟨h3, tk3, rfl⟩ hv S3
    obtain ⟨m2, c, asg, tst, cf, ct⟩ := step i ys v _ h0 b2 b I D C m hi j hv u2 kb S3
    refine asg _ _ fun h4 tk4 S4 => ?_
    refine (tst h4 S4).use S4.base fun ok b5 h5 tk5 p r => ?_
    cases p
    have S5 := S4.up r
    cases c with
    | false =>
      rw [if_neg (by simp)]
      exact ⟨m2, ys, b5, ⟨cf rfl b5 r.up.b, kb.trans r.up.b, Nat.le_succ_of_le le⟩, ⟨_, _, rfl⟩, S5⟩
    | true =>
      rw [if_pos rfl]
      refine wpAny_bind ((ct rfl b5 h5 r.up.b S5).use S5.base fun y b6 h6 tk6 jy r6 => ?_)
      have S6 := S5.up r6
      have hD6 : h6.PlainList D ys.toArray := S6.mem (p := (D, .lst ys.toArray)) (by simp)
      refine wpAny_bind (wpAny_list_append_plain hD6 (fun h7 h7D sb => ?_) (by rw [sizeLine_eq]; simp; lia))
      refine wpAny_pure ⟨m2, ys ++ [y], b6, ⟨jy, kb.trans (r.up.b.trans r6.up.b), by simp; exact le⟩, ⟨_, _, rfl⟩, ?_⟩
      exact St.upd (pre := [_, _]) (post := []) S6 (Ext.of_same sb) (by show h7.PlainList D (ys ++ [y]).toArray; simpa using h7D)
  · rintro m ys b s3 ⟨j, kb, le⟩ ⟨h3, tk3, rfl⟩ S3
    exact fin ys.toArray m b h3 tk3 S3 fun b4 k4 pl => jend ys b j le D hD b4 k4 pl
theorem yComp1 {elt target iter : Expr} {ifs : List Expr} {scope : Scope} {pos : Pos} {cl : List (Str × Addr)} {P0 P : Value → Heap → Prop}
    (yi : Y w A hb h (eval iter env) P0)
    (k : ∀ v b1 h1, Up hb h b1 h1 → P0 v b1 → K1 w A hb env elt target ifs scope cl P v b1 h1)
    (hclos : closureFor scope env = pure cl := by rfl) (hcell : ∀ y ∈ scope.names, y.2 ≠ .cell := by decide) (hkind : scope.kind = .function := by rfl)
    (hnames : ∀ y ∈ scope.names, y.2 = .local → scope.names.lookup y.1 = some .local := by decide) (hs : ∀ x, foldedSetIterable iter env x = pure x := by intro _; rfl) :
    Y w A hb h (eval (.ListComp elt [⟨target, iter, ifs, 0⟩] scope pos) env) P :=
  yCompStart yi (comp1_k k) hclos hcell hkind hnames hs
end
end Mine
end
noncomputable section
open PySem PySem.W PyProof.Rows PySem.Calls Builtin Builtin.ObjectAttr Builtin.Getset_descriptor
set_option Elab.async false
set_option maxRecDepth 100000
set_option linter.unusedVariables false
namespace Mine
theorem St.addCells {h0 hb0 hb h h' : Heap} {O : List (Addr × Own)} (S : St h0 hb0 hb O h) (k : Keep h h') {cm : Str → Option Value} : ∀ (cs : List (Str × Addr)), (∀ n c, cs.lookup n = some c → h'.IsCell c (cm n)) → (cs.Pairwise fun x y => x.2 ≠ y.2) →
    (∀ n c, (n, c) ∈ cs → h.get? c = none) → (cs.map (·.1)).Nodup → St h0 hb0 hb (cs.map (fun p => (p.2, .cel (cm p.1))) ++ O) h'
  | [], _, _, _, _ => S.grow k
  | (n, c) :: cs, hc, hp, hn, hd => by
    have hd' := List.nodup_cons.mp hd
    have ih := St.addCells S k cs (fun n' c' e => hc n' c' (by
      rw [List.lookup_cons]
      have : (n' == n) = false := by
        rw [beq_eq_false_iff_ne]; rintro rfl
        exact hd'.1 (List.mem_map.mpr ⟨(n', c'), mem_of_lookup e, rfl⟩)
      rw [this]; exact e)) (List.pairwise_cons.mp hp).2 (fun n' c' m => hn n' c' (.tail _ m)) hd'.2
    have atc : h'.IsCell c (cm n) := hc n c (by rw [List.lookup_cons, beq_self_eq_true])
    have fr := hn n c (.head _)
    refine ⟨ih.res, fun p m => ?_, ?_⟩
    · rcases List.mem_cons.mp m with rfl | m
      · refine ⟨atc, ?_, ?_⟩
        · exact keep_none S.base fr
        · exact keep_none S.keep fr
      · exact ih.own p m
    · refine List.nodup_cons.mpr ⟨fun m => ?_, ih.nd⟩
      obtain ⟨p, hpm, e⟩ := List.mem_map.mp m
      rcases List.mem_append.mp hpm with hpm | hpm
      · obtain ⟨q, hq, e'⟩ := List.mem_map.mp hpm
        exact (List.pairwise_cons.mp hp).1 q hq (by rw [← e'] at e; exact e.symm)
      · obtain ⟨ob, x⟩ := (S.own p hpm).1.some
        have e : p.1 = c := e
        rw [e, fr] at x; cases x
theorem cellsFrom_names : ∀ (n k : Nat) (names : List (Str × NameKind)) (acc acc' : List (Str × Addr)), acc.map (·.1) = acc'.map (·.1) → (cellsFrom n names acc).map (·.1) = (cellsFrom k names acc').map (·.1)
  | _, _, [], _, _, e => e
  | n, k, (name, kind) :: r, acc, acc', e => by
    unfold cellsFrom
    split
    · exact cellsFrom_names _ _ r _ _ (by simp [e])
    · exact cellsFrom_names _ _ r _ _ e
section
variable {w : World} {A : Around} {hb0 h0 hb h : Heap} {O : List (Addr × Own)} {env : Env} {rest : List Stmt} {pos : Pos} {s : Shared} {Q : Flow → Shared → Prop} {E : Value → Shared → Prop}
def envC (qual : Str) (scope : Scope) (L a : Addr) (cd : Value) : Env := newEnv scope L mainGlobals (cellsFrom (L + 1) scope.names []) (qual ++ ".<locals>.") (some a) cd none builtinsNs
theorem callMC {f : Addr} {pos : List Value} {name qual : Str} {params : Arguments} {body : List Stmt} {scope : Scope} {dV kV doc pm cdv ct oc : Value} {an od : Option Addr} {osl : Array (Option Value)}
    {binds : List (Str × Value)} {Rr : Result → Shared → Prop} {n : Nat} (S : St h0 hb0 hb O s.heap) (G : Glob w hb) (R : Rm (n + 1) A)
    (ho : (KK w).lookup f = some ⟨oc, od, .func (fnX name qual params body scope [] dV kV doc pm an cdv ct), osl⟩) (hcd : codeIn (KK w) cdv qual = true)
    (hbind : bindArgs (fnX name qual params body scope [] dV kV doc pm an cdv ct) ⟨pos, []⟩ = pure binds)
    (hkind : ∀ x ∈ binds, scope.names.lookup x.1 = some .local ∨ (scope.names.lookup x.1 = some .cell ∧ ((cellsFrom (s.heap.objs.size + 1) scope.names []).lookup x.1).isSome = true))
    (hnd : ((cellsFrom 0 scope.names []).map (·.1)).Nodup)
    (H : ∀ (h' : Heap) (tk : Nat) (L : Addr), Rm n (A.deeper (envC qual scope L f cdv)) →
      St h0 hb0 hb ((L, .ns (bindL (envC qual scope L f cdv).kindOf binds fun _ => none)) :: ((cellsFrom (L + 1) scope.names []).map (fun p => (p.2, Own.cel (bindC (envC qual scope L f cdv).kindOf binds (fun _ => none) p.1))) ++ O)) h' → Keep s.heap h' →
      ∀ E, wpAny (model PG w) (A.deeper (envC qual scope L f cdv)) (execs body (envC qual scope L f cdv)) (fun fl s' => Rr (.ok (.ret (retOf fl))) s') E { s with heap := h', toks := tk })
    (hco : scope.isCoroutine = false := by rfl) (hgen : scope.isGenerator = false := by rfl) (hk : scope.kind = .function := by rfl) :
    codeAny (model PG w) A (.call (.ref f) ⟨pos, []⟩) Rr s := by
  have G'' := G.keep S.base
  refine codeAny_call_cells (fd := fnX name qual params body scope [] dV kV doc pm an cdv ct) (body := body) (binds := binds) R.room (G''.K _ _ ho) rfl G''.lim (codeRec_of G''.K hcd) rfl hbind rfl hkind (fun s₁ x => ?_) hco hgen hk
  obtain ⟨h', tk, rfl⟩ := x.toInCall.same
  have keep : Keep s.heap h' := x.toInCall.keep
  have S1 : St h0 hb0 hb ((cellsFrom (s.heap.objs.size + 1) scope.names []).map (fun p => (p.2, Own.cel (bindC (envC qual scope s.heap.objs.size f cdv).kindOf binds (fun _ => none) p.1))) ++ O) h' :=
    St.addCells S keep _ (fun n c e => x.cell n c e) x.apart (fun n c m => fresh_ge (Nat.le_of_lt (x.above n c m))) (by rw [cellsFrom_names _ 0 _ [] [] rfl]; exact hnd)
  have S2 : St h0 hb0 hb ((s.heap.objs.size, .ns (bindL (envC qual scope s.heap.objs.size f cdv).kindOf binds fun _ => none)) :: ((cellsFrom (s.heap.objs.size + 1) scope.names []).map (fun p => (p.2, Own.cel (bindC (envC qual scope s.heap.objs.size f cdv).kindOf binds (fun _ => none) p.1))) ++ O)) h' := by
    have fr := fresh_size s.heap
    refine ⟨S1.res, fun p m => ?_, List.nodup_cons.mpr ⟨fun m => ?_, S1.nd⟩⟩
    · rcases List.mem_cons.mp m with rfl | m
      · exact ⟨x.toInCall.ns, keep_none S.base fr, keep_none S.keep fr⟩
      · exact S1.own p m
    · obtain ⟨p, hpm, e⟩ := List.mem_map.mp m
      rcases List.mem_append.mp hpm with hpm | hpm
      · obtain ⟨q, hq, e'⟩ := List.mem_map.mp hpm
        have lt := x.above q.1 q.2 hq
        have e2 : q.2 = s.heap.objs.size := by rw [← e'] at e; exact e
        rw [e2] at lt
        exact Nat.lt_irrefl _ lt
      · obtain ⟨ob, x⟩ := (S.own p hpm).1.some
        have e : p.1 = s.heap.objs.size := e
        rw [e, fr] at x; cases x
  refine wpAny_mono (H h' tk s.heap.objs.size R.deeper S2 keep _) (fun fl s' d => ?_) fun _ _ e => e
  cases fl <;> exact d
end
end Mine
end
noncomputable section
open PySem PySem.W PyProof.Rows PySem.Calls Builtin Builtin.ObjectAttr Builtin.Getset_descriptor
set_option Elab.async false
set_option maxRecDepth 100000
set_option linter.unusedVariables false
namespace Mine
theorem St.perm {h0 hb0 hb h : Heap} {O O' : List (Addr × Own)} (S : St h0 hb0 hb O h) (p : O.Perm O') : St h0 hb0 hb O' h :=
  ⟨S.res, fun q m => S.own q (p.mem_iff.mpr m), (p.map _).nodup_iff.mp S.nd⟩
inductive K2U (w : World) (A : Around) (env : Env) (elt t2 : Expr) (ifs : List Expr) (scope : Scope) (cl : List (Str × Addr)) (TI : Own) (T' : Nat → Own) (J' : Nat → (Str → Option Value) → List Value → Heap → Prop) (j : Nat) (ys' : List Value) (v : Value) (s : Shared) (h0 b2 b'' : Heap) (I' I D C : Addr) : Prop
  | mk (m3 : Str → Option Value) (c : Bool) (asg : ∀ (Q : Unit → Shared → Prop) E, (∀ h' tk, St h0 b2 b'' ((C, .ns m3) :: (I', T' (j + 1)) :: (D, .lst ys'.toArray) :: [(I, TI)]) h' → Q () { s with heap := h', toks := tk }) → wpAny (model PG w) A (assign t2 (compEnvC scope cl C env) v) Q E s)
      (tst : ∀ h', St h0 b2 b'' ((C, .ns m3) :: (I', T' (j + 1)) :: (D, .lst ys'.toArray) :: [(I, TI)]) h' → Y w A b'' h' (tests (compEnvC scope cl C env) ifs) (Is c))
      (cf : c = false → ∀ b3, Keep b'' b3 → J' (j + 1) m3 ys' b3)
      (ct : c = true → ∀ b3 h', Keep b'' b3 → St h0 b2 b3 ((C, .ns m3) :: (I', T' (j + 1)) :: (D, .lst ys'.toArray) :: [(I, TI)]) h' → Y w A b3 h' (eval elt (compEnvC scope cl C env)) fun y b4 => J' (j + 1) m3 (ys' ++ [y]) b4)
inductive K2V (w : World) (A : Around) (env : Env) (elt t2 : Expr) (ifs : List Expr) (scope : Scope) (cl : List (Str × Addr)) (TI : Own) (Jn : List Value → Heap → Prop) (m2 : Str → Option Value) (ys : List Value) (h0 b2 : Heap) (I D C : Addr) (v' : Value) (b' h' : Heap) : Prop
  | mk (T' : Nat → Own) (need' : Heap → Prop) (n' : Nat) (PI' : Nat → Value → Prop) (J' : Nat → (Str → Option Value) → List Value → Heap → Prop) (it' : Itr w A v' h' T' need' n' PI')
      (nd' : ∀ j m ys' b'' h'', J' j m ys' b'' → Keep b' b'' → Keep b'' h'' → need' h'') (j0' : J' 0 m2 ys b') (jend' : ∀ m ys' b'', J' n' m ys' b'' → Jn ys' b'') (hz' : ∀ j m ys' b'', J' j m ys' b'' → ys'.length ≤ 1000000)
      (step' : ∀ j ys' v (s : Shared) (b'' : Heap) I' m, j < n' → J' j m ys' b'' → PI' j v → Keep b' b'' → St h0 b2 b'' ((C, .ns m) :: (I', T' (j + 1)) :: (D, .lst ys'.toArray) :: [(I, TI)]) s.heap → K2U w A env elt t2 ifs scope cl TI T' J' j ys' v s h0 b2 b'' I' I D C)
inductive K2T (w : World) (A : Around) (env : Env) (elt t1 t2 i2 : Expr) (ifs : List Expr) (scope : Scope) (cl : List (Str × Addr)) (TI : Own) (Jn : List Value → Heap → Prop) (ys : List Value) (v : Value) (s : Shared) (h0 b2 b : Heap) (I D C : Addr) : Prop
  | mk (m2 : Str → Option Value) (P1 : Value → Heap → Prop) (asg : ∀ (Q : Unit → Shared → Prop) E, (∀ h' tk, St h0 b2 b ((C, .ns m2) :: (I, TI) :: [(D, .lst ys.toArray)]) h' → Q () { s with heap := h', toks := tk }) → wpAny (model PG w) A (assign t1 (compEnvC scope cl C env) v) Q E s)
      (yi2 : ∀ h', St h0 b2 b ((C, .ns m2) :: (I, TI) :: [(D, .lst ys.toArray)]) h' → Y w A b h' (eval i2 (compEnvC scope cl C env)) P1)
      (k' : ∀ v' b' h', P1 v' b' → Keep b b' → St h0 b2 b' ((C, .ns m2) :: (I, TI) :: [(D, .lst ys.toArray)]) h' → K2V w A env elt t2 ifs scope cl TI Jn m2 ys h0 b2 I D C v' b' h')
inductive K2 (w : World) (A : Around) (hb : Heap) (env : Env) (elt t1 t2 i2 : Expr) (ifs : List Expr) (scope : Scope) (cl : List (Str × Addr)) (P : Value → Heap → Prop) (v : Value) (b1 h1 : Heap) : Prop
  | mk (T : Nat → Own) (need : Heap → Prop) (n : Nat) (PI : Nat → Value → Prop) (J : Nat → List Value → Heap → Prop) (it : Itr w A v h1 T need n PI) (nd : ∀ h, Keep h1 h → need h) (j0 : ∀ b, Keep b1 b → J 0 [] b)
      (jend : ∀ ys b, J n ys b → ∀ D, hb.get? D = none → ∀ b', Keep b b' → b'.PlainList D ys.toArray → P (.ref D) b')
      (step : ∀ i ys v (s : Shared) (h0 b2 b : Heap) I D C m, i < n → J i ys b → PI i v → Up b1 h1 b2 h0 → Keep b2 b → St h0 b2 b ((C, .ns m) :: (I, T (i + 1)) :: [(D, .lst ys.toArray)]) s.heap → K2T w A env elt t1 t2 i2 ifs scope cl (T (i + 1)) (J (i + 1)) ys v s h0 b2 b I D C)
section
variable {w : World} {A : Around} {hb h : Heap} {env : Env}
theorem yRange1 {p pos : Pos} {e1 : Expr} {x : Int} (y1 : Y w A hb h (eval e1 env) (IsI x)) (yf : Y w A hb h (eval (.Name "range" p) env) (Is (.type "range")))
    (he : starEach [e1] env = (false, eval e1 env) :: starEach [] env := by rfl) (hplain : ((backTo pos (starEach [e1] env)).any (·.1) || (backToKw pos (keywordEach [] env)).any (·.1.isNone)) = false := by rfl) :
    Y w A hb h (eval (.Call (.Name "range" p) [e1] [] pos) env) fun v b => ∃ r t u z, v = .ref r ∧ IsRange b r 0 x 1 t u z :=
  yCall1 yf kept_type y1 (fun v b0 b1 h1 u _ ⟨t1, p1⟩ => by
    subst p1
    refine yNew fun s b Q E kb ki kh q => call_range_1 (q _ _ _ (fun b' k n => ⟨_, _, _, _, rfl, n _ _ (fresh_size _) (Heap.get?_push_size _ rfl)⟩) (Keep.push _ _))) he hplain
theorem yRange2 {p pos : Pos} {e1 e2 : Expr} {x y : Int} (y1 : Y w A hb h (eval e1 env) (IsI x)) (y2 : Y w A hb h (eval e2 env) (IsI y)) (yf : Y w A hb h (eval (.Name "range" p) env) (Is (.type "range")))
    (he : starEach [e1, e2] env = (false, eval e1 env) :: starEach [e2] env := by rfl) (he2 : starEach [e2] env = (false, eval e2 env) :: starEach [] env := by rfl) (hplain : ((backTo pos (starEach [e1, e2] env)).any (·.1) || (backToKw pos (keywordEach [] env)).any (·.1.isNone)) = false := by rfl) :
    Y w A hb h (eval (.Call (.Name "range" p) [e1, e2] [] pos) env) fun v b => ∃ r t u z, v = .ref r ∧ IsRange b r x y 1 t u z :=
  yCall2 yf kept_type y1 (fun _ _ _ u _ => y2.keep u) (fun v1 v2 b1 b2 b3 h3 u _ _ ⟨t1, p1⟩ ⟨t2, p2⟩ => by
    subst p1 p2
    refine yNew fun s b Q E kb ki kh q => call_range_2 (q _ _ _ (fun b' k n => ⟨_, _, _, _, rfl, n _ _ (fresh_size _) (Heap.get?_push_size _ rfl)⟩) (Keep.push _ _))) he he2 hplain

theorem start2 {elt : Expr} {g1 : Comprehension} {t2 i2 : Expr} {ifs : List Expr} {scope : Scope} {pos : Pos} {it acc : Value} {R : Result → Shared → Prop} {s : Shared}
    (h0 : codeAny (model PG w) A (.compLoop (.ListComp elt [g1, ⟨t2, i2, ifs, 0⟩] scope pos) 1 it acc env) R s)
    (h : wpAny (model PG w) A (pyIter it) (fun it' s' => codeAny (model PG w) A (.compLoop (.ListComp elt [g1, ⟨t2, i2, ifs, 0⟩] scope pos) 1 it' acc env) R s')
      (notedBy (model PG w) A env fun x s' => R (.error x) s') s) :
    codeAny (model PG w) A (.compStart (.ListComp elt [g1, ⟨t2, i2, ifs, 0⟩] scope pos) 1 it acc env) R s := by
  refine codeAny_of_tree ?_
  show wpAny _ _ ((compStart (.ListComp elt [g1, ⟨t2, i2, ifs, 0⟩] scope pos) 1 it acc env).onRaise (fun x => do noteFrame x env; standAt theWindowsPlace)) _ _ s
  refine wpAny_notedAt ?_
  unfold compStart
  show wpAny _ _ (ask >>= _) _ _ s
  refine wpAny_bind (wpAny_askSetting (wpAny_ite ?_))
  split
  · first
      | exact wpAny_bind (wpAny_pure (wpAny_pure (And.intro rfl h0)))
      | exact wpAny_pure (And.intro rfl h0)
  · first
      | exact wpAny_bind (wpAny_rule (wpAny_bind (wpAny_standAt (wpAny_bind (wpAny_mono h (fun it' s' h' => wpAny_pure (And.intro rfl h')) fun _ _ x => x)))))
      | (refine wpAny_bind (wpAny_rule ?_); show wpAny _ _ (standAt i2.pos >>= _) _ _ s; exact wpAny_bind (wpAny_standAt (wpAny_bind (wpAny_mono h (fun it' s' h' => wpAny_pure (And.intro rfl h')) fun _ _ x => x))))
theorem turn2 (elt t1 t2 i1 i2 : Expr) (ifs : List Expr) (scope : Scope) (pos : Pos) (it acc : Value) (env : Env) : compTurn (.ListComp elt [⟨t1, i1, [], 0⟩, ⟨t2, i2, ifs, 0⟩] scope pos) 0 it acc env = (do
      standAt i1.pos
      match ← pyNext it with
      | none => pure (.done .next)
      | some v =>
        letOwnedTupleGo t1 it v
        assign t1 env v
        let mut ok := true
        for c in ([] : List Expr) do
          if ok then ok ← isTrue c env (eval c env)
        if ok then
          (do
            let x ← eval i2 env
            standAt i2.pos
            let x ← foldedSetIterable i2 env x
            let _ ← runOwn (.compStart (.ListComp elt [⟨t1, i1, [], 0⟩, ⟨t2, i2, ifs, 0⟩] scope pos) 1 (← holding [x] (pyIter x)) acc env) env)
        again (.compLoop (.ListComp elt [⟨t1, i1, [], 0⟩, ⟨t2, i2, ifs, 0⟩] scope pos) 0 it acc env)) := by
  refine Eq.trans (b := (do
      standAt i1.pos
      match ← pyNext it with
      | none => pure (.done .next)
      | some v =>
        letOwnedTupleGo t1 it v
        assign t1 env v
        let mut ok := true
        for c in ([] : List Expr) do
          if ok then ok ← isTrue c env (eval c env)
        if ok then
          let x ← eval i2 env
          standAt i2.pos
          let x ← foldedSetIterable i2 env x
          let _ ← runOwn (.compStart (.ListComp elt [⟨t1, i1, [], 0⟩, ⟨t2, i2, ifs, 0⟩] scope pos) 1 (← holding [x] (pyIter x)) acc env) env
        again (.compLoop (.ListComp elt [⟨t1, i1, [], 0⟩, ⟨t2, i2, ifs, 0⟩] scope pos) 0 it acc env))) rfl ?_
  simp only [bind_assoc, pure_bind]
theorem comp2_k {elt t1 t2 i1 i2 : Expr} {ifs : List Expr} {scope : Scope} {pos : Pos} {cl : List (Str × Addr)} {P0 P : Value → Heap → Prop}
    (k : ∀ v b1 h1, Up hb h b1 h1 → P0 v b1 → K2 w A hb env elt t1 t2 i2 ifs scope cl P v b1 h1)
    (hs2 : ∀ C x, foldedSetIterable i2 (compEnvC scope cl C env) x = pure x := by intro _ _; rfl) (hclos : closureFor scope env = pure cl := by rfl) :
    ∀ v b1 h1, Up hb h b1 h1 → P0 v b1 → KS w A env elt t1 i1 [] [⟨t2, i2, ifs, 0⟩] scope pos cl P v b1 h1 := by
  intro v b1 h1 u p
  obtain ⟨T, need, n, PI, J, it, nd, j0, jend, step⟩ := k v b1 h1 u p
  refine ⟨T, need, n, PI, it, fun s h0 b2 I D C R u2 k2 S fin => ?_⟩
  have hD : hb.get? D = none := by
    have := (S.own (D, .lst #[]) (by simp)).2.1
    exact keep_none (u.b.trans u2.b) this
  refine comp_core (O := []) (target := t1) (ifs := []) (do
      let x ← eval i2 (compEnvC scope cl C env)
      standAt i2.pos
      let x ← foldedSetIterable i2 (compEnvC scope cl C env) x
      let _ ← runOwn (.compStart (.ListComp elt [⟨t1, i1, [], 0⟩, ⟨t2, i2, ifs, 0⟩] scope pos) 1 (← holding [x] (pyIter x)) (.ref D) (compEnvC scope cl C env)) (compEnvC scope cl C env)) i1.pos (turn2 ..) (it.src I) (fun i m ys b => J i ys b ∧ Keep b2 b) (fun s' => ∃ h' tk, s' = { s with heap := h', toks := tk }) (by rintro _ h' tk ⟨_, _, rfl⟩; exact ⟨h', tk, rfl⟩)
    (fun i m ys b h _ _ S => nd _ (u2.h.trans S.keep)) ?_ ?_ (ys := []) (b := b2) ⟨j0 _ u2.b, .refl _⟩ ⟨_, _, rfl⟩ S
  · rintro i m ys b s3 v E hi ⟨j, kb⟩ ⟨h3, tk3, rfl⟩ hv S3
    obtain ⟨m2, P1, asg, yi2, k'⟩ := step i ys v _ h0 b2 b I D C m hi j hv u2 kb S3
    refine asg _ _ fun h4 tk4 S4 => ?_
    refine yTests0.use S4.base fun ok b5 h5 tk5 p r => ?_
    cases p
    have S5 := S4.up r
    rw [if_pos rfl]
    refine wpAny_bind (((yi2 h4 S4).keep r.up).use S5.base fun v' b6 h6 tk6 p1 r6 => ?_)
    have S6 := S5.up r6
    obtain ⟨T', need', n', PI', J', it', nd', j0', jend', hz', step'⟩ := k' v' b6 h6 p1 (r.up.b.trans r6.up.b) S6
    refine wpAny_bind (wpAny_standAt (wpAny_bind (wpAny_of_eq (hs2 C v') (wpAny_bind (wpAny_holding (it'.start _ _ _ (Keep.refl _) fun I' h7 tk7 f7 at7 k7 => ?_))))))
    have S7 : St h0 b2 b6 ((C, .ns m2) :: (I', T' 0) :: (D, .lst ys.toArray) :: [(I, T (i + 1))]) h7 := by
      have Sa : St h0 b2 b6 ([(C, Own.ns m2)] ++ (I', T' 0) :: [(I, T (i + 1)), (D, .lst ys.toArray)]) h7 := St.add (pre := [(C, .ns m2)]) (post := [(I, T (i + 1)), (D, .lst ys.toArray)]) S6 k7 f7 at7
      exact Sa.perm (.cons _ (.cons _ (.swap _ _ _)))
    have inner : ∀ tk, codeAny (model PG w) A (.compLoop (.ListComp elt [⟨t1, i1, [], 0⟩, ⟨t2, i2, ifs, 0⟩] scope pos) 1 (.ref I') (.ref D) (compEnvC scope cl C env)) (fun r s' => match r with
        | .ok f => wpAny (model PG w) A (pure () : Sem Unit) (fun _ s4 => ∃ m' ys' b', (J (i + 1) ys' b' ∧ Keep b2 b') ∧ (∃ h' tk, s4 = { s with heap := h', toks := tk }) ∧ St h0 b2 b' ((C, .ns m') :: (I, T (i + 1)) :: (D, .lst ys'.toArray) :: []) s4.heap) E s'
        | .error e => cameBackBy (model PG w) A (compEnvC scope cl C env) E e s') { s with heap := h7, toks := tk } := fun tk => by
      refine comp_core (O := [(I, T (i + 1))]) (target := t2) (ifs := ifs) (do let _ ← call (.builtin "list.append") [.ref D, ← eval elt (compEnvC scope cl C env)]) i2.pos rfl (it'.src I') (fun j m ys b => J' j m ys b ∧ Keep b6 b) (fun s' => ∃ h' tk, s' = { s with heap := h', toks := tk }) (by rintro _ h' tk ⟨_, _, rfl⟩; exact ⟨h', tk, rfl⟩)
        (fun j m ys b h _ q S => nd' j m ys b h q.1 q.2 S.base) ?_ ?_ (ys := ys) (b := b6) ⟨j0', .refl _⟩ ⟨_, _, rfl⟩ S7
      · rintro j m ys' b s3 v E hi ⟨jj, kb6⟩ ⟨h3, tk3, rfl⟩ hv S3
        obtain ⟨m3, c, asg, tst, cf, ct⟩ := step' j ys' v _ b I' m hi jj hv kb6 S3
        refine asg _ _ fun h4 tk4 S4 => ?_
        refine (tst h4 S4).use S4.base fun ok b5 h5 tk5 p r => ?_
        cases p
        have S5 := S4.up r
        cases c with
        | false =>
          rw [if_neg (by simp)]
          exact ⟨m3, ys', b5, ⟨cf rfl b5 r.up.b, kb6.trans r.up.b⟩, ⟨_, _, rfl⟩, S5⟩
        | true =>
          rw [if_pos rfl]
          refine wpAny_bind ((ct rfl b5 h5 r.up.b S5).use S5.base fun y b6 h6 tk6 jy r6 => ?_)
          have S6 := S5.up r6
          have hD6 : h6.PlainList D ys'.toArray := S6.mem (p := (D, .lst ys'.toArray)) (by simp)
          have := hz' j m ys' b jj
          refine wpAny_bind (wpAny_list_append_plain hD6 (fun h7 h7D sb => ?_) (by rw [sizeLine_eq]; simp; lia))
          refine wpAny_pure ⟨m3, ys' ++ [y], b6, ⟨jy, kb6.trans (r.up.b.trans r6.up.b)⟩, ⟨_, _, rfl⟩, ?_⟩
          exact St.upd (pre := [_, _]) S6 (Ext.of_same sb) (by show h7.PlainList D (ys' ++ [y]).toArray; simpa using h7D)
      · rintro m ys' b s3 ⟨jj, kb6⟩ ⟨h3, tk3, rfl⟩ S3
        exact wpAny_pure ⟨m, ys', b, ⟨jend' m ys' b jj, kb.trans (r.up.b.trans (r6.up.b.trans kb6))⟩, ⟨_, _, rfl⟩, S3.perm (.cons _ (.swap _ _ _))⟩
    refine wpAny_bind (wpAny_runOwn ?_)
    refine codeAny_mono (start2 (inner _) ((it'.src I').self 0 _ _ _ (S7.mem (p := (I', T' 0)) (by simp)) (inner _))) fun r s' x => ?_
    cases r <;> exact x
  · rintro m ys b s3 ⟨j, kb⟩ ⟨h3, tk3, rfl⟩ S3
    exact fin ys.toArray m b h3 tk3 S3 fun b4 k4 pl => jend ys b j D hD b4 k4 pl

theorem yComp2 {elt t1 t2 i1 i2 : Expr} {ifs : List Expr} {scope : Scope} {pos : Pos} {cl : List (Str × Addr)} {P0 P : Value → Heap → Prop}
    (yi : Y w A hb h (eval i1 env) P0)
    (k : ∀ v b1 h1, Up hb h b1 h1 → P0 v b1 → K2 w A hb env elt t1 t2 i2 ifs scope cl P v b1 h1)
    (hclos : closureFor scope env = pure cl := by rfl) (hcell : ∀ y ∈ scope.names, y.2 ≠ .cell := by decide) (hkind : scope.kind = .function := by rfl)
    (hnames : ∀ y ∈ scope.names, y.2 = .local → scope.names.lookup y.1 = some .local := by decide) (hs : ∀ x, foldedSetIterable i1 env x = pure x := by intro _; rfl)
    (hs2 : ∀ C x, foldedSetIterable i2 (compEnvC scope cl C env) x = pure x := by intro _ _; rfl) :
    Y w A hb h (eval (.ListComp elt [⟨t1, i1, [], 0⟩, ⟨t2, i2, ifs, 0⟩] scope pos) env) P :=
  yCompStart yi (comp2_k k hs2 hclos) hclos hcell hkind hnames hs
end
end Mine
end
noncomputable section
open PySem PySem.W PyProof.Rows PySem.Calls Builtin Builtin.ObjectAttr Builtin.Getset_descriptor
set_option Elab.async false
set_option maxRecDepth 100000
set_option linter.unusedVariables false
namespace Mine
section
variable {w : World} {A : Around} {hb h : Heap} {env : Env} {pos : Pos}
theorem yItem {T id : String} {value slice : Expr} {P0 P1 P : Value → Heap → Prop} (y1 : Y w A hb h (eval value env) P0) (y2 : ∀ v b1 h1, Up hb h b1 h1 → P0 v b1 → Y w A b1 h1 (eval slice env) P1) (hlook : typeLookup (.type T) "__getitem__" = pure (some (.builtin id)))
    (z : ∀ o i b1 h1 b2 h2, Up hb h b1 h1 → Up b1 h1 b2 h2 → P0 o b1 → P1 i b2 → (∀ s : Shared, Keep h2 s.heap → s.TypeIs o T) ∧ Y w A b2 h2 (getItem o i) P)
    (hsub : ∀ o i, subscripted slice false o i = operate [o, i] (getItem o i) := by intro _ _; rfl) : Y w A hb h (eval (.Subscript value slice pos) env) P := by
  rw [arm_eval_Subscript]
  refine yBind y1 fun o b1 h1 u1 p1 => yBind (yHolding (y2 o b1 h1 u1 p1)) fun i b2 h2 u2 p2 => ySeq_standAt ?_
  obtain ⟨hT, yg⟩ := z o i b1 h1 b2 h2 u1 u2 p1 p2
  intro s b u Q E q
  have hT' := hT s u.h
  refine wpAny_bind ?_
  rw [getitemInPython_of_ne hT'.not_modules]
  refine wpAny_bind (wpAny_specialOf hT' hlook ?_)
  have fin : wpAny (model PG w) A (operate [o, i] (getItem o i)) (fun r s₃ => wpAny (model PG w) A (letTemporaryGo value o r >>= fun _ => pure r) Q E s₃) E s :=
    wpAny_operating (yg s b u _ E fun v b' h' tk p r => wpAny_bind (wpAny_letTemporaryGo (wpAny_pure (q v b' h' tk p r))))
  rw [← hsub] at fin
  first
    | exact wpAny_pure (wpAny_bind fin)
    | exact wpAny_bind (wpAny_pure (wpAny_bind fin))
    | exact wpAny_bind fin
noncomputable def updAll (m : Str → Option Value) : List Str → List Value → Str → Option Value
  | x :: xs, v :: vs => updAll (upd m x v) xs vs
  | _, _ => m
theorem assignEach_names (env : Env) : ∀ xs : List (Str × Pos), assignEach (xs.map fun x => Expr.Name x.1 x.2) env = xs.map fun x => (false, assign (.Name x.1 x.2) env)
  | [] => rfl
  | x :: xs => by
    show (false, assign (.Name x.1 x.2) env) :: assignEach (xs.map fun x => Expr.Name x.1 x.2) env = _
    rw [assignEach_names env xs]; rfl
variable {h0 hb0 : Heap} {L : Addr} {O pre post : List (Addr × Own)} {s : Shared} {rest : List Stmt}
theorem aNames {E : Value → Shared → Prop} (hL : env.locals = L) (hk : env.scope.kind = .function) : ∀ (xs : List (Str × Pos)) (vs : List Value) (m : Str → Option Value) (s : Shared) (Q : Unit → Shared → Prop), xs.length = vs.length → (∀ x ∈ xs, env.kindOf x.1 = some .local) → St h0 hb0 hb ((L, .ns m) :: O) s.heap →
    (∀ h' tk, St h0 hb0 hb ((L, .ns (updAll m (xs.map (·.1)) vs)) :: O) h' → Q () { s with heap := h', toks := tk }) → wpAny (model PG w) A (assignInOrder (xs.map fun x => assign (.Name x.1 x.2) env) vs) Q E s
  | [], vs, m, s, Q, _, _, S, q => wpAny_pure (q s.heap s.toks S)
  | x :: xs, [], m, s, Q, l, _, S, q => by cases l
  | x :: xs, v :: vs, m, s, Q, l, hx, S, q => by
    refine wpAny_bind (wpAny_holding (aName S (fun h1 tk1 S1 => ?_) hL hk (hx x (.head _))))
    exact aNames hL hk xs vs _ _ Q (Nat.succ.inj l) (fun y hy => hx y (.tail _ hy)) S1 fun h2 tk2 S2 => q h2 tk2 S2
theorem aTup {elts : List Expr} {x1 : Nat} {t : Addr} {m : Str → Option Value} (xs : List (Str × Pos)) (vs : List Value) {Q : Unit → Shared → Prop} {E : Value → Shared → Prop} (S : St h0 hb0 hb ((L, .ns m) :: O) s.heap) (hA : A.handled = none) (ht : Tp s.heap t vs)
    (k : ∀ h' tk, St h0 hb0 hb ((L, .ns (updAll m (xs.map (·.1)) vs)) :: O) h' → Q () { s with heap := h', toks := tk }) (he : elts = xs.map (fun x => Expr.Name x.1 x.2) := by rfl) (hl : xs.length = vs.length := by rfl)
    (hL : env.locals = L := by rfl) (hk : env.scope.kind = .function := by rfl) (hx : xs.all (fun x => env.kindOf x.1 == some .local) = true := by rfl) : wpAny (model PG w) A (assign (.Tuple elts x1 pos) env (.ref t)) Q E s := by
  subst he
  refine wpAny_assign_Tuple hA ht.isTuple (by rw [assignEach_names]; simpa using hl) (by rw [assignEach_names]; simp) fun h' ex => ?_
  rw [assignEach_names]
  have k' : Keep s.heap h' := fun b o e => ex b o (Nat.ne_of_lt (Heap.lt_size e)) e
  have e : (xs.map fun x => (false, assign (.Name x.1 x.2) env)).map (·.2) = xs.map fun x => assign (.Name x.1 x.2) env := by simp [Function.comp_def]
  rw [e]
  exact aNames hL hk xs _ m _ Q (by simpa using hl) (fun x m => by simpa using List.all_eq_true.mp hx x m) (S.grow k') fun h2 tk2 S2 => k h2 tk2 S2
theorem wLetOwnC {x : Str} {xp : Pos} {e : Expr} {c : Addr} {v0 : Option Value} {R : List Value → Heap → Prop} {Q : Flow → Shared → Prop} {E : Value → Shared → Prop} (S : St h0 hb0 hb (pre ++ (c, .cel v0) :: post) s.heap) (y : Y w A hb s.heap (eval e env) (ValL hb R))
    (z : ∀ D vs b0 h' tk, R vs b0 → St h0 hb0 hb (pre ++ (c, .cel (some (.ref D))) :: (D, .lst vs.toArray) :: post) h' → wpAny (model PG w) A (execs rest env) Q E { s with heap := h', toks := tk })
    (hc : env.cells.lookup x = some c := by rfl) (hs : swapsWith e (some (.Name x xp)) pos.line env = pure false := by rfl) (hk : env.scope.kind = .function := by rfl) (hl : env.kindOf x = some .cell := by rfl) :
    wpAny (model PG w) A (execs (.Assign [.Name x xp] e pos :: rest) env) Q E s := by
  refine wpAny_execs_cons (wpAny_Assign_Name (y.use S.base fun v b1 h1 tk p r => ?_) hs)
  obtain ⟨D, vs, b0, rfl, hD, _, pR, nD⟩ := p
  have nD' := r.fresh nD (let ⟨n, q⟩ := hD; ⟨_, q⟩)
  have S1 : St h0 hb0 hb (pre ++ (c, .cel v0) :: (D, .lst vs.toArray) :: post) h1 := by
    have Sa : St h0 hb0 hb ((pre ++ [(c, .cel v0)]) ++ (D, .lst vs.toArray) :: post) h1 := St.add (o := .lst vs.toArray) (pre := pre ++ [(c, .cel v0)]) (post := post) (by simpa using S) r.up.h nD' (hD.at fun o e => r.up.i _ _ e)
    simpa using Sa
  refine wpAny_storeName_cell hk hl hc (S1.mem (p := (c, .cel v0)) (by simp)) (fun h2 hn sb => ?_)
  exact z D vs b0 h2 _ pR (St.upd S1 (Ext.of_same sb) hn)
theorem wLetC {x : Str} {xp : Pos} {e : Expr} {c : Addr} {v0 : Option Value} {P1 : Value → Heap → Prop} {Q : Flow → Shared → Prop} {E : Value → Shared → Prop} (S : St h0 hb0 hb (pre ++ (c, .cel v0) :: post) s.heap) (y : Y w A hb s.heap (eval e env) P1)
    (z : ∀ v b' h' tk, P1 v b' → St h0 hb0 b' (pre ++ (c, .cel (some v)) :: post) h' → Keep hb b' → wpAny (model PG w) A (execs rest env) Q E { s with heap := h', toks := tk })
    (hc : env.cells.lookup x = some c := by rfl) (hs : swapsWith e (some (.Name x xp)) pos.line env = pure false := by rfl) (hk : env.scope.kind = .function := by rfl) (hl : env.kindOf x = some .cell := by rfl) :
    wpAny (model PG w) A (execs (.Assign [.Name x xp] e pos :: rest) env) Q E s := by
  refine wpAny_execs_cons (wpAny_Assign_Name (y.use S.base fun v b1 h1 tk p r => ?_) hs)
  have S1 := S.up r
  refine wpAny_storeName_cell hk hl hc (S1.mem (p := (c, .cel v0)) (by simp)) (fun h2 hn sb => ?_)
  exact z v b1 h2 _ p (St.upd S1 (Ext.of_same sb) hn) r.up.b
end
end Mine
end
noncomputable section
open PySem PySem.W PyProof.Rows PySem.Calls Builtin Builtin.ObjectAttr Builtin.Getset_descriptor
set_option Elab.async false
set_option maxRecDepth 100000
set_option linter.unusedVariables false
namespace Mine
def z4 : R4 := ⟨0, 0, 0, 0⟩
def rowTo (rs : List R4) (i k : Nat) : List (R4 × R4) := (List.range k).map fun j => (rs.getD i z4, rs.getD (i + 1 + j) z4)
def pairsTo (rs : List R4) (i : Nat) : List (R4 × R4) := (List.range i).flatMap fun i => rowTo rs i (rs.length - (i + 1))
def dup (p : R4 × R4) : List R4 := if R4.has p.1 p.2 then [p.2] else if R4.has p.2 p.1 then [p.1] else []
def dups (rs : List R4) : List R4 := (pairsTo rs rs.length).flatMap dup
def prune (rs : List R4) : List R4 := rs.filter fun r => !((dups rs).any fun q => decide (q = r))
theorem dup_length (p : R4 × R4) : (dup p).length ≤ 1 := by unfold dup; split <;> (try split) <;> simp

def PV (h : Heap) (vs : List Value) (rs : List (R4 × R4)) : Prop := L2 (fun v p => ∃ t a b, v = Value.ref t ∧ Tp h t [.ref a, .ref b] ∧ IsRect h a p.1 ∧ IsRect h b p.2) vs rs
theorem PV.keep {h h' : Heap} (k : Keep h h') {vs : List Value} {rs : List (R4 × R4)} (x : PV h vs rs) : PV h' vs rs := L2.mono (fun _ _ ⟨t, a, b, e, T, I, J⟩ => ⟨t, a, b, e, T.keep k, I.keep k, J.keep k⟩) x
theorem PV.append {h : Heap} {vs us : List Value} {rs qs : List (R4 × R4)} (x : PV h vs rs) (y : PV h us qs) : PV h (vs ++ us) (rs ++ qs) := L2.append x y
theorem PV.length {h : Heap} {vs : List Value} {rs : List (R4 × R4)} (x : PV h vs rs) : vs.length = rs.length := L2.length x
theorem PV.at {h : Heap} {vs : List Value} {rs : List (R4 × R4)} {i : Nat} {v : Value} (x : PV h vs rs) (e : vs[i]? = some v) : ∃ t a b p, v = .ref t ∧ Tp h t [.ref a, .ref b] ∧ IsRect h a p.1 ∧ IsRect h b p.2 ∧ rs[i]? = some p :=
  let ⟨p, ⟨t, a, b, q, T, I, J⟩, e'⟩ := L2.at x e; ⟨t, a, b, p, q, T, I, J, e'⟩
theorem Rects.get {h : Heap} {vs : List Value} {rs : List R4} (x : Rects h vs rs) {i : Nat} (hi : i < rs.length) : ∃ a, vs[i]? = some (.ref a) ∧ IsRect h a (rs.getD i z4) := by
  have hv : i < vs.length := by have := x.length; lia
  obtain ⟨a, r, e, I, er⟩ := x.at (v := vs[i]) (i := i) (by simp [hv])
  refine ⟨a, by rw [← e]; simp [hv], ?_⟩
  have : rs.getD i z4 = r := by rw [List.getD_eq_getElem?_getD, er]; rfl
  rw [this]; exact I
theorem rowTo_length (rs : List R4) (i k : Nat) : (rowTo rs i k).length = k := by simp [rowTo]
theorem rowTo_succ (rs : List R4) (i k : Nat) : rowTo rs i (k + 1) = rowTo rs i k ++ [(rs.getD i z4, rs.getD (i + 1 + k) z4)] := by simp [rowTo, List.range_succ]
theorem pairsTo_succ (rs : List R4) (i : Nat) : pairsTo rs (i + 1) = pairsTo rs i ++ rowTo rs i (rs.length - (i + 1)) := by simp [pairsTo, List.range_succ]
theorem pairsTo_le (rs : List R4) (i : Nat) : (pairsTo rs i).length ≤ rs.length * i := by
  have := flatMap_le (f := fun i => rowTo rs i (rs.length - (i + 1))) (c := rs.length) (fun i => by rw [rowTo_length]; lia) (List.range i)
  rw [List.length_range] at this
  exact this
section
variable {w : World} {A : Around} {hb h : Heap} {env : Env} {pos : Pos}
theorem yItemL {value slice : Expr} {l : Addr} {xs : List Value} {q : Nat} {v : Value} {hx : Heap} (hl : hx.IsList l xs.toArray) (hq : q < 2 ^ 62) (hv : xs[q]? = some v) (kk : Keep hx h) (y2 : ∀ b1 h1, Up hb h b1 h1 → Y w A b1 h1 (eval slice env) (IsI q)) (y1 : Y w A hb h (eval value env) (Is (.ref l)))
    (hsub : ∀ o i, subscripted slice false o i = operate [o, i] (getItem o i) := by intro _ _; rfl) : Y w A hb h (eval (.Subscript value slice pos) env) (Is v) :=
  yItem (T := "list") y1 (fun v b1 h1 u e => y2 b1 h1 u) F.slot_list_getitem.lookup (fun o i b1 h1 b2 h2 u1 u2 e1 e2 => by
    cases e1
    obtain ⟨t, rfl⟩ := e2
    have kk' : Keep hx h2 := kk.trans (u1.trans u2).h
    exact ⟨fun s ks => (hl.at fun o e => ks _ _ (kk' _ _ e)).typeIs, yTok fun s Q E kb ks qq => wpAny_getItem_list (hl.at fun o e => ks _ _ (kk' _ _ e)) (by lia) (by lia) (by simpa using hv) (qq _ s.toks fun _ _ => rfl)⟩) hsub
end
section
variable {w : World} {A : Around} {hb0 h0 hb h : Heap} {env : Env} {L : Addr} {m : Str → Option Value} {O pre post : List (Addr × Own)} {rest : List Stmt} {pos : Pos} {s : Shared}
theorem m_prune {C p dp l rl : Addr} {mp : Str → Option Value} {n : Nat} {vs : List Value} {rs : List R4} {rot : Bool} {wd ht : Int} {Rr : Result → Shared → Prop} (S : St h0 hb0 hb ((dp, .idc mp n) :: O) s.heap) (G : Glob w hb) (R : Rm 5 A) (K : Pk w C)
    (ho : hb.get? p = some (instObj C dp)) (hn : n ≤ 50) (P : PMap mp l rl rot wd ht) (hl : hb.PlainList l vs.toArray) (hr : Rects hb vs rs) (hz : rs.length ≤ 400)
    (k : ∀ l' vs' b' h' tk, St h0 hb0 b' ((dp, .idc (upd mp "_max_rects" (.ref l')) n) :: O) h' → Keep hb b' → b'.PlainList l' vs'.toArray → Rects b' vs' (prune rs) → Rr (.ok (.ret .none)) { s with heap := h', toks := tk }) :
    codeAny (model PG w) A (.call (.ref 365) ⟨[.ref p], []⟩) Rr s := by
  refine callMC (binds := [("self", .ref p)]) S G R (by rfl) (by kernel_rfl) rfl (by intro x hx; simp at hx; subst hx; right; exact ⟨by rfl, by rfl⟩) (by decide) fun h1 tk1 L R1 S k1 E => ?_
  have S : St h0 hb0 hb ((L, .ns fun _ => none) :: (L + 1 + 1, .cel none) :: (L + 1, .cel (some (.ref p))) :: (dp, .idc mp n) :: O) h1 := S
  refine wLetOwnC (pre := [_]) (post := _) S (yLst (R := fun vs _ => vs = []) (yArgs_nil fun _ _ => rfl) (by rintro _ _ rfl; decide)) fun D vs0 b0 h1 tk1 e S => ?_
  subst e
  have S : St h0 hb0 hb ((L, .ns fun _ => none) :: (L + 1 + 1, .cel (some (.ref D))) :: (D, .lst #[]) :: (L + 1, .cel (some (.ref p))) :: (dp, .idc mp n) :: O) h1 := S
  have hcell : h1.IsCell (L + 1) (some (.ref p)) := S.mem (p := (L + 1, .cel (some (.ref p)))) mem3
  have hinst : Inst h1 p C mp := S.inst ho mem4 (by lia)
  have hlist : h1.IsList l vs.toArray := hl.isList.at fun o e => S.base _ _ e
  have hsz : vs.length = rs.length := hr.length
  refine wForList S (P0 := fun v b => ∃ D' ys, v = .ref D' ∧ b.PlainList D' ys.toArray ∧ PV b ys (pairsTo rs rs.length)) (yComp2 (P0 := fun v b => ∃ r t u z, v = .ref r ∧ IsRange b r 0 rs.length 1 t u z) ?_ ?_) fun v b1 h1 tk1 e S1 k1 => ?_
  · refine yRange1 ?_ (yBltn G (by rfl) bltn_range (by decide))
    refine (yLen hlist (by simp; lia) (yGetField G (yCell hcell) hinst K.fmr P.mr rfl) (yBltn G (by rfl) bltn_len (by decide))).mono fun v b _ e => ?_
    rw [← hsz]; simpa using e
  · rintro v b1 h2 u1 ⟨r, t, u, z, rfl, hrng⟩
    have hrs : Builtin.Range.rangeSize 0 (rs.length : Int) 1 = rs.length := by rw [rangeSize_one]; split <;> lia
    refine ⟨_, _, rs.length, _, fun i ys b => PV b ys (pairsTo rs i), Itr.range R1.hd (hrng.trans (by rfl) |> fun q => u1.i _ _ hrng) (small_one (by decide) (by decide) (by lia) (by lia)) hrs, fun _ _ => trivial, fun b _ => trivial, fun ys b j D' _ b' kb pl => ⟨D', ys, rfl, pl, j.keep kb⟩, ?_⟩
    rintro i ys v s0 h0' b2 b I D' C m hi j ⟨t, rfl⟩ u2 kb S0
    have kh : Keep h1 h0' := u1.h.trans u2.h
    have kbb : Keep hb b := u1.b.trans (u2.b.trans kb)
    have ei : (0 + (i : Int) * 1) = i := by lia
    rw [ei]
    have n1 : upd m "i" (.int i t) "i" = some (.int i t) := rfl
    refine ⟨upd m "i" (.int i t), fun v b => ∃ r t u z, v = .ref r ∧ IsRange b r (i + 1) rs.length 1 t u z, fun Q E q => aName S0 (fun h' tk S' => q h' tk S'), fun h' S' => ?_, ?_⟩
    · have kk := kh.trans S'.keep
      refine yRange2 (yAdd (yNameI S'.ns n1) yInt) ?_ (yBltn (G.keep kbb) (by rfl) bltn_range (by decide))
      refine (yLen (hlist.at fun o e => kk _ _ e) (by simp; lia) (yGetField (G.keep kbb) (yCell (hcell.keeps kk)) (hinst.keep kk) K.fmr P.mr rfl) (yBltn (G.keep kbb) (by rfl) bltn_len (by decide))).mono fun v b _ e => ?_
      rw [← hsz]; simpa using e
    · rintro v' b' h' ⟨r', t', u', z', rfl, hrng'⟩ kb' S'
      have hrs' : Builtin.Range.rangeSize ((i : Int) + 1) (rs.length : Int) 1 = ((rs.length - (i + 1) : Nat) : Int) := by rw [rangeSize_one]; split <;> lia
      refine ⟨_, _, rs.length - (i + 1), _, fun k m ys b => ((∃ t, m "i" = some (.int i t)) ∧ k ≤ rs.length) ∧ PV b ys (pairsTo rs i ++ rowTo rs i k), Itr.range R1.hd (S'.base _ _ hrng') (small_one (by lia) (by lia) (by lia) (by lia)) hrs', fun _ _ _ _ _ _ _ _ => trivial, ⟨⟨⟨t, rfl⟩, Nat.zero_le _⟩, ?_⟩, fun m ys' b'' q => ?_, fun k m ys' b'' q => ?_, ?_⟩
      · have e : rowTo rs i 0 = [] := rfl
        rw [e, List.append_nil]; exact j.keep kb'
      · show PV b'' ys' (pairsTo rs (i + 1)); rw [pairsTo_succ]; exact q.2
      · have l1 := q.2.length
        have l2 := pairsTo_le rs i
        rw [List.length_append, rowTo_length] at l1
        have l3 := q.1.2
        have l4 : rs.length * i ≤ 400 * 400 := Nat.mul_le_mul hz (by lia)
        lia
      rintro k ys' v s1 b'' I' m' hk ⟨⟨⟨ti, mi⟩, _⟩, pv⟩ ⟨tj, rfl⟩ kb'' S1
      have ej : ((i : Int) + 1 + (k : Int) * 1) = ((i + 1 + k : Nat) : Int) := by push_cast; lia
      rw [ej]
      have mj : upd m' "j" (.int ((i + 1 + k : Nat) : Int) tj) "j" = some (.int ((i + 1 + k : Nat) : Int) tj) := rfl
      have mi' : upd m' "j" (.int ((i + 1 + k : Nat) : Int) tj) "i" = some (.int i ti) := mi
      refine ⟨upd m' "j" (.int ((i + 1 + k : Nat) : Int) tj), true, fun Q E q => aName S1 (fun h' tk S' => q h' tk S'), fun h' S' => yTests0, fun x => (by cases x), fun _ b3 h3 kb3 S3 => ?_⟩
      have kb3' : Keep hb b3 := kbb.trans (kb'.trans (kb''.trans kb3))
      have kk : Keep h1 h3 := kh.trans S3.keep
      obtain ⟨a1, e1, I1⟩ := hr.get hi
      obtain ⟨a2, e2, I2⟩ := hr.get (i := i + 1 + k) (by lia)
      refine (yTup (R := fun vs _ => vs = [.ref a1, .ref a2]) (yArgs_cons (P1 := Is (.ref a1)) (yItemL (xs := vs) (q := i) hlist (by lia) e1 kk (fun b4 h4 u4 => yNameI (S3.ns.keeps u4.h) mi') (yGetField (G.keep kb3') (yCell (hcell.keeps kk)) (hinst.keep kk) K.fmr P.mr rfl)) fun v b4 h4 u4 e => yArgs_cons (P1 := Is (.ref a2)) (yItemL (xs := vs) (q := i + 1 + k) hlist (by lia) e2 (kk.trans u4.h) (fun b5 h5 u5 => yNameI (S3.ns.keeps (u4.trans u5).h) mj) (yGetField (G.keep (kb3'.trans u4.b)) (yCell (hcell.keeps (kk.trans u4.h))) (hinst.keep (kk.trans u4.h)) K.fmr P.mr rfl)) fun v2 b5 h5 u5 e2 => yArgs_nil fun _ _ => by cases e; cases e2; rfl) (by rintro _ _ rfl; simp)).mono fun v b4 k4 e => ?_
      obtain ⟨tt, _, b0, rfl, T, _, rfl⟩ := e
      refine ⟨⟨⟨ti, mi'⟩, by lia⟩, ?_⟩
      rw [rowTo_succ, ← List.append_assoc]
      exact (pv.keep (kb3.trans k4)).append ⟨⟨tt, a1, a2, rfl, T, I1.keep (kb3'.trans k4), I2.keep (kb3'.trans k4)⟩, trivial⟩
  obtain ⟨D', ys, rfl, pl, pv⟩ := e
  refine ⟨D', ys.toArray, rfl, pl.isList.at fun o e => S1.base _ _ e, fun I2 h2 S2 kh => ?_⟩
  refine for_core2 (Src.list R1.hd I2 D' ys.toArray) (fun i m O' b => (∃ ds, O' = (L + 1 + 1, .cel (some (.ref D))) :: (D, .lst ds.toArray) :: (L + 1, .cel (some (.ref p))) :: (dp, .idc mp n) :: O ∧ Rects b ds (((pairsTo rs rs.length).take i).flatMap dup)) ∧ Keep b1 b)
    (fun s' => ∃ h' tk, s' = { s with heap := h', toks := tk }) (by rintro _ h' tk ⟨_, _, rfl⟩; exact ⟨h', tk, rfl⟩) ?_ ?_ ?_ ⟨⟨[], rfl, trivial⟩, .refl _⟩ ⟨_, _, rfl⟩ S2
  · rintro i m O' b h _ ⟨_, kb⟩ S3
    exact pl.isList.at fun o e => S3.base _ _ (kb _ _ e)
  · rintro i m O' b s3 v E QA kA hi ⟨⟨ds, rfl, hd⟩, kb⟩ ⟨h3, tk3, rfl⟩ hv S3
    obtain ⟨t, a1, a2, pr, rfl, T, I1, I2', hpr⟩ := pv.at (v := v) (i := i) (by simpa using hv)
    have kb' := k1.trans kb
    have Gb := G.keep kb'
    have hlen : ds.length ≤ 200000 := by
      rw [hd.length]
      refine Nat.le_trans (flatMap_le dup_length _) ?_
      rw [List.length_take]
      have l2 := pairsTo_le rs rs.length
      have l4 : rs.length * rs.length ≤ 400 * 400 := Nat.mul_le_mul hz hz
      lia
    refine aTup [("m1", _), ("m2", _)] [.ref a1, .ref a2] S3 R1.hd (T.keep (kb.trans S3.base)) fun h4 tk4 S4 => kA _ fun QB kQ => ?_
    have S4 : St h0 hb0 b ((L, .ns (upd (upd m "m1" (.ref a1)) "m2" (.ref a2))) :: (I2, .itr D' (i + 1)) :: (L + 1 + 1, .cel (some (.ref D))) :: (D, .lst ds.toArray) :: (L + 1, .cel (some (.ref p))) :: (dp, .idc mp n) :: O) h4 := S4
    have n1 : upd (upd m "m1" (.ref a1)) "m2" (.ref a2) "m1" = some (.ref a1) := rfl
    have n2 : upd (upd m "m1" (.ref a1)) "m2" (.ref a2) "m2" = some (.ref a2) := rfl
    generalize upd (upd m "m1" (.ref a1)) "m2" (.ref a2) = mm at S4 n1 n2
    have J1 := I1.keep (kb.trans S4.base)
    have J2 := I2'.keep (kb.trans S4.base)
    refine wIf (b := R4.has pr.1 pr.2) S4 ?_ (fun hb' b5 h5 tk5 S5 k5 => ?_) fun hb' b5 h5 tk5 S5 k5 => ?_
    · obtain ⟨mx, i1, M1⟩ := id J1
      refine yTest_bool (yMeth1 Gb (yName S4.ns n1) i1 (mth_contains w) M1.o.2.2.2.2.1 (by kernel_rfl) (yName S4.ns n2) fun v b0 b1 h1 u k e => ?_)
      cases e
      exact c_contains (Gb.keep u.b) (R1.less (by decide)) (J1.keep u.h) (J2.keep u.h)
    · refine wAppend (pre := [_, _, _]) (post := _) S5 (by simp; lia) (yCell (S5.mem (p := (L + 1 + 1, .cel (some (.ref D)))) mem2)) (fun b' h' S' k' => yName S'.ns n2) fun v6 b6 h6 tk6 e6 S6 k6 => ?_
      cases e6
      refine wNil (kQ mm _ b6 _ ⟨⟨ds ++ [.ref a2], rfl, ?_⟩, (kb.trans k5).trans k6⟩ ⟨_, _, rfl⟩ (by simpa using S6))
      rw [take_flatMap hpr]
      refine (hd.keep (k5.trans k6)).append ?_
      unfold dup; rw [if_pos hb']
      exact .one (I2'.keep ((kb.trans k5).trans k6))
    · have kb5 := kb'.trans k5
      have J1 := I1.keep (kb.trans (k5.trans S5.base))
      have J2 := I2'.keep (kb.trans (k5.trans S5.base))
      refine wIf (b := R4.has pr.2 pr.1) S5 ?_ (fun hb2 b6 h6 tk6 S6 k6 => ?_) fun hb2 b6 h6 tk6 S6 k6 => ?_
      · obtain ⟨mx, i1, M1⟩ := id J2
        refine yTest_bool (yMeth1 (G.keep kb5) (yName S5.ns n2) i1 (mth_contains w) M1.o.2.2.2.2.1 (by kernel_rfl) (yName S5.ns n1) fun v b0 b1 h1 u k e => ?_)
        cases e
        exact c_contains ((G.keep kb5).keep u.b) (R1.less (by decide)) (J2.keep u.h) (J1.keep u.h)
      · refine wAppend (pre := [_, _, _]) (post := _) S6 (by simp; lia) (yCell (S6.mem (p := (L + 1 + 1, .cel (some (.ref D)))) mem2)) (fun b' h' S' k' => yName S'.ns n1) fun v6 b7 h7 tk7 e6 S7 k7 => ?_
        cases e6
        refine wNil (kQ mm _ b7 _ ⟨⟨ds ++ [.ref a1], rfl, ?_⟩, (kb.trans (k5.trans k6)).trans k7⟩ ⟨_, _, rfl⟩ (by simpa using S7))
        rw [take_flatMap hpr]
        refine (hd.keep ((k5.trans k6).trans k7)).append ?_
        unfold dup; rw [if_neg (by rw [hb']; decide), if_pos hb2]
        exact .one (I1.keep ((kb.trans (k5.trans k6)).trans k7))
      · refine wNil (kQ mm _ b6 _ ⟨⟨ds, rfl, ?_⟩, kb.trans (k5.trans k6)⟩ ⟨_, _, rfl⟩ S6)
        rw [take_flatMap hpr]
        have e : dup pr = [] := by unfold dup; rw [if_neg (by rw [hb']; decide), if_neg (by rw [hb2]; decide)]
        rw [e, List.append_nil]
        exact hd.keep (k5.trans k6)
  · rintro m O' b s3 ⟨⟨ds, rfl, hd⟩, kb⟩ ⟨h3, tk3, rfl⟩ S3
    have kb' := k1.trans kb
    have e : (pairsTo rs rs.length).take ys.toArray.size = pairsTo rs rs.length := List.take_of_length_le (by have := pv.length; simp; lia)
    rw [e] at hd
    have Ss : h3.IsCell (L + 1) (some (.ref p)) := S3.mem (p := (L + 1, .cel (some (.ref p)))) mem3
    have Sc : h3.IsCell (L + 1 + 1) (some (.ref D)) := S3.mem (p := (L + 1 + 1, .cel (some (.ref D)))) mem1
    have Sd : h3.IsList D ds.toArray := Heap.PlainList.isList (S3.mem (p := (D, .lst ds.toArray)) mem2)
    refine wSetF (pre := [_, _, _, _]) (post := O) (P1 := fun v b => ∃ l' vs', v = .ref l' ∧ b.PlainList l' vs'.toArray ∧ Rects b vs' (prune rs)) S3 (G.keep kb') (S3.base _ _ (kb' _ _ ho)) (by lia) ?_ (fun b' h' S' _ => yCell (S'.mem (p := (L + 1, .cel (some (.ref p)))) mem3)) K.smr fun v b4 h4 tk4 e S4 k4 _ => ?_
    · have hinst3 : Inst h3 p C mp := S3.inst (kb' _ _ ho) (.tail _ mem3) (by lia)
      refine yComp1 (P0 := Is (.ref l)) (yGetField (G.keep kb') (yCell Ss) hinst3 K.fmr P.mr rfl) ?_
      rintro v c1 h4 u1 rfl
      have hll : h4.IsList l vs.toArray := hl.isList.at fun o e => u1.i _ _ (u1.b _ _ (kb' _ _ e))
      refine ⟨_, _, _, _, fun i ys b => Rects b ys ((rs.take i).filter fun r => !((dups rs).any fun q => decide (q = r))), Itr.list R1.hd hll, fun h kk => hll.at fun o e => kk _ _ e, by simp; lia, fun _ _ => trivial, fun ys b jj _ D' _ b' kb2 pl2 => ⟨D', ys, rfl, pl2, ?_⟩, ?_⟩
      · have e : rs.take vs.toArray.size = rs := List.take_of_length_le (by simp; lia)
        try dsimp only at jj
        rw [e] at jj
        exact jj.keep kb2
      · rintro i ys v s0 h0' c2 b' I' D' C' m' hi jj hv u2 kb2 S0
        obtain ⟨a', r', rfl, Ir, hri⟩ := hr.at (v := v) (i := i) (by simpa using hv)
        have kbb : Keep hb b' := kb'.trans (u1.b.trans (u2.b.trans kb2))
        have kh : Keep h3 h0' := u1.h.trans u2.h
        have n1 : upd m' "m" (.ref a') "m" = some (.ref a') := rfl
        have tk1 : (rs.take (i + 1)).filter (fun r => !((dups rs).any fun q => decide (q = r))) = (rs.take i).filter (fun r => !((dups rs).any fun q => decide (q = r))) ++ (if (!((dups rs).any fun q => decide (q = r'))) = true then [r'] else []) := by
          rw [List.take_add_one, hri, List.filter_append]
          congr 1
          simp only [Option.toList_some, List.filter_cons, List.filter_nil]
        refine ⟨upd m' "m" (.ref a'), !((dups rs).any fun q => decide (q = r')), fun Q E q => aName S0 (fun h' tk S' => q h' tk S'), fun h' S' => ?_, fun hc b3 kb3 => ?_, fun hc b3 h' kb3 S' => ?_⟩
        · have kk : Keep h3 h' := kh.trans S'.keep
          refine yTests1 (yTestCompare (yCompare (P1 := Is (.ref a')) (P2 := Is (.ref D)) (yName S'.ns n1) (fun _ _ _ u _ => yCell (Sc.keeps (kk.trans u.h))) fun v1 v2 b1 h1 b2 h2 u u' e1 e2 => ?_))
          cases e1; cases e2
          have k2 : Keep h' h2 := u.h.trans u'.h
          have kbx : Keep b' b2 := u.b.trans u'.b
          exact yNotInRects (G.keep (kbb.trans kbx)) (R1.less (by decide)) (Ir.keep (kbb.trans (kbx.trans u'.i))) (Sd.at fun o e => k2 _ _ (kk _ _ e)) (hd.keep (fun o e x => k2 _ _ (kk _ _ (S3.base _ _ x))))
        · try dsimp only
          rw [tk1, if_neg (by rw [hc]; decide), List.append_nil]
          exact jj.keep kb3
        · refine (yName S'.ns n1).mono fun y b4 k4 e => ?_
          cases e
          rw [tk1, if_pos hc]
          exact (jj.keep (kb3.trans k4)).append (.one (Ir.keep (kbb.trans (kb3.trans k4))))
    · obtain ⟨b5, k5, l', vs', rfl, hl', hr'⟩ := e
      rw [P.mr] at S4
      refine wNil (k l' vs' b4 h4 tk4 (S4.sub (.cons _ (.cons _ (.cons _ (.cons _ (.refl _)))))) (kb'.trans k4) (hl'.at fun o e => k5 _ _ e) (hr'.keep k5))
end
end Mine
end
noncomputable section
open PySem PySem.W PyProof.Rows PySem.Calls Builtin Builtin.ObjectAttr Builtin.Getset_descriptor
set_option Elab.async false
set_option maxRecDepth 100000
set_option linter.unusedVariables false
namespace Mine
def R4.fits (r : R4) (a b : Int) : Bool := decide (a ≤ r.w) && decide (b ≤ r.h)
def val (way : Nat) (r : R4) (a b : Int) : Int := match way with
  | 0 => 0
  | 1 => min (r.w - a) (r.h - b)
  | 2 => r.w * r.h - a * b
  | _ => max (r.w - a) (r.h - b)
def fitW (way : Nat) (r : R4) (a b : Int) : Option Int := if r.fits a b then some (val way r a b) else none
def IsO (o : Option Int) : Value → Heap → Prop := fun v _ => match o with
  | some i => ∃ t, v = .int i t
  | none => v = .none
section
variable {w : World} {A : Around} {hb h : Heap} {a : Addr} {ra : R4} {x y : Int} {tx ty : Tok} {self : Value}
def fitFn (way : Nat) : Addr := match way with
  | 0 => 339
  | 1 => 426
  | 2 => 445
  | _ => 464
theorem c_fit0 (G : Glob w hb) (R : Rm 1 A) (I : IsRect h a ra) : C w A hb h (.ref 339) [self, .ref a, .int x tx, .int y ty] [] (IsO (fitW 0 ra x y)) := by
  refine callC (binds := [("self", self), ("max_rect", .ref a), ("width", .int x tx), ("height", .int y ty)]) G R (by rfl) (by kernel_rfl) (fun s _ => BindsTo.of_eq rfl) (locs_of rfl) fun s c h0 L u G₁ R₁ S E => ?_
  have I := I.keep u.h
  refine wIf (b := ra.fits x y) S ?_ (fun hb b1 h1 tk1 S k => wRet S (P := IsI 0) yInt fun v b' h' tk p S' k => ⟨b', h', tk, rfl, ?_, S'.res⟩) fun hb b1 h1 tk1 S k => wRet S (P := Is .none) yNone fun v b' h' tk p S' k => ⟨b', h', tk, rfl, ?_, S'.res⟩
  · refine yEq (yTestBoolOp (yAndCons (yTestCompare (yCmp (yNameI S.ns rfl) (yW G₁ (I.keep S.keep) (yName S.ns rfl)))) fun _ => yAndCons (yTestCompare (yCmp (yNameI S.ns rfl) (yH G₁ (I.keep S.keep) (yName S.ns rfl)))) fun _ => yAndNil)) ?_
    unfold R4.fits cmpB; simp
  · unfold fitW; rw [if_pos hb]; exact p
  · unfold fitW; rw [if_neg (by rw [hb]; decide)]; exact p
theorem test_or (G : Glob w hb) {env : Env} {p1 p2 p3 p4 p5 p6 pos1 pos2 pos : Pos} {L : Addr} {m : Str → Option Value} (hL : env.locals = L) (hn : h.Ns L m) (I : IsRect h a ra) (hw : m "width" = some (.int x tx)) (hh : m "height" = some (.int y ty)) (hr : m "max_rect" = some (.ref a)) (hk : env.scope.kind = .function)
    (l1 : env.kindOf "width" = some .local) (l2 : env.kindOf "height" = some .local) (l3 : env.kindOf "max_rect" = some .local) {whole : Sem Value}
    (e1 : eval (.Attribute (.Name "max_rect" p2) "width" p3) env = (do let o ← eval (.Name "max_rect" p2) env; PySem.standAt p3.atName; let r ← PySem.holding [o] (getAttr o "width" true); letTemporaryGo (.Name "max_rect" p2) o r; Pure.pure r) := by rfl)
    (e2 : eval (.Attribute (.Name "max_rect" p5) "height" p6) env = (do let o ← eval (.Name "max_rect" p5) env; PySem.standAt p6.atName; let r ← PySem.holding [o] (getAttr o "height" true); letTemporaryGo (.Name "max_rect" p5) o r; Pure.pure r) := by rfl) :
    Y w A hb h (isTrue (.BoolOp .Or [.Compare (.Name "width" p1) [.Gt] [.Attribute (.Name "max_rect" p2) "width" p3] pos1, .Compare (.Name "height" p4) [.Gt] [.Attribute (.Name "max_rect" p5) "height" p6] pos2] pos) env whole) (Is (!(ra.fits x y))) := by
  subst hL
  refine yEq (yTestBoolOp (yOrCons (yTestCompare (yCmp (yNameI hn hw hk l1) (yW G I (yName hn hr hk l3) e1))) fun _ => yOrCons (yTestCompare (yCmp (yNameI hn hh hk l2) (yH G I (yName hn hr hk l3) e2))) fun _ => yOrNil)) ?_
  unfold R4.fits cmpB
  simp only [Bool.or_false, Bool.not_and]
  congr 1 <;> simp [← Int.not_le]
theorem c_fit1 (G : Glob w hb) (R : Rm 1 A) (I : IsRect h a ra) : C w A hb h (.ref 426) [self, .ref a, .int x tx, .int y ty] [] (IsO (fitW 1 ra x y)) := by
  refine callC (binds := [("self", self), ("max_rect", .ref a), ("width", .int x tx), ("height", .int y ty)]) G R (by rfl) (by kernel_rfl) (fun s _ => BindsTo.of_eq rfl) (locs_of rfl) fun s c h0 L u G₁ R₁ S E => ?_
  have I := I.keep u.h
  refine wIf (b := !(ra.fits x y)) S (test_or G₁ rfl S.ns (I.keep S.keep) rfl rfl rfl rfl rfl rfl rfl) (fun hb b1 h1 tk1 S k => wRet S (P := Is .none) yNone fun v b' h' tk p S' k => ⟨b', h', tk, rfl, ?_, S'.res⟩) fun hb b1 h1 tk1 S k => ?_
  · unfold fitW; rw [if_neg (by simpa using hb)]; exact p
  · have G₁ := G₁.keep k
    have I := I.keep S.keep
    refine wRet S (P := IsI (min (ra.w - x) (ra.h - y))) (yMin2 G₁ R₁.hd (ySub (yW G₁ I (yName S.ns rfl)) (yNameI S.ns rfl)) (ySub (yH G₁ I (yName S.ns rfl)) (yNameI S.ns rfl)) (yBltn G₁ (by rfl) bltn_min (by decide))) fun v b' h' tk p S' k => ⟨b', h', tk, rfl, ?_, S'.res⟩
    unfold fitW; rw [if_pos (by simpa using hb)]; exact p
theorem c_fit3 (G : Glob w hb) (R : Rm 1 A) (I : IsRect h a ra) : C w A hb h (.ref 464) [self, .ref a, .int x tx, .int y ty] [] (IsO (fitW 3 ra x y)) := by
  refine callC (binds := [("self", self), ("max_rect", .ref a), ("width", .int x tx), ("height", .int y ty)]) G R (by rfl) (by kernel_rfl) (fun s _ => BindsTo.of_eq rfl) (locs_of rfl) fun s c h0 L u G₁ R₁ S E => ?_
  have I := I.keep u.h
  refine wIf (b := !(ra.fits x y)) S (test_or G₁ rfl S.ns (I.keep S.keep) rfl rfl rfl rfl rfl rfl rfl) (fun hb b1 h1 tk1 S k => wRet S (P := Is .none) yNone fun v b' h' tk p S' k => ⟨b', h', tk, rfl, ?_, S'.res⟩) fun hb b1 h1 tk1 S k => ?_
  · unfold fitW; rw [if_neg (by simpa using hb)]; exact p
  · have G₁ := G₁.keep k
    have I := I.keep S.keep
    refine wRet S (P := IsI (max (ra.w - x) (ra.h - y))) (yMax2 G₁ R₁.hd (ySub (yW G₁ I (yName S.ns rfl)) (yNameI S.ns rfl)) (ySub (yH G₁ I (yName S.ns rfl)) (yNameI S.ns rfl)) (yBltn G₁ (by rfl) bltn_max (by decide))) fun v b' h' tk p S' k => ⟨b', h', tk, rfl, ?_, S'.res⟩
    unfold fitW; rw [if_pos (by simpa using hb)]; exact p
theorem c_fit2 (G : Glob w hb) (R : Rm 1 A) (I : IsRect h a ra) (m1 : IntMulOk ra.w ra.h) (m2 : IntMulOk x y) : C w A hb h (.ref 445) [self, .ref a, .int x tx, .int y ty] [] (IsO (fitW 2 ra x y)) := by
  refine callC (binds := [("self", self), ("max_rect", .ref a), ("width", .int x tx), ("height", .int y ty)]) G R (by rfl) (by kernel_rfl) (fun s _ => BindsTo.of_eq rfl) (locs_of rfl) fun s c h0 L u G₁ R₁ S E => ?_
  have I := I.keep u.h
  refine wIf (b := !(ra.fits x y)) S (test_or G₁ rfl S.ns (I.keep S.keep) rfl rfl rfl rfl rfl rfl rfl) (fun hb b1 h1 tk1 S k => wRet S (P := Is .none) yNone fun v b' h' tk p S' k => ⟨b', h', tk, rfl, ?_, S'.res⟩) fun hb b1 h1 tk1 S k => ?_
  · unfold fitW; rw [if_neg (by simpa using hb)]; exact p
  · have G₁ := G₁.keep k
    have I := I.keep S.keep
    refine wRet S (P := IsI (ra.w * ra.h - x * y)) (ySub (yMul (yW G₁ I (yName S.ns rfl)) (yH G₁ I (yName S.ns rfl)) m1) (yMul (yNameI S.ns rfl) (yNameI S.ns rfl) m2)) fun v b' h' tk p S' k => ⟨b', h', tk, rfl, ?_, S'.res⟩
    unfold fitW; rw [if_pos (by simpa using hb)]; exact p
theorem c_fit (way : Nat) (hway : way < 4) (G : Glob w hb) (R : Rm 1 A) (I : IsRect h a ra) (m1 : IntMulOk ra.w ra.h) (m2 : IntMulOk x y) : C w A hb h (.ref (fitFn way)) [self, .ref a, .int x tx, .int y ty] [] (IsO (fitW way ra x y)) := by
  match way, hway with
  | 0, _ => exact c_fit0 G R I
  | 1, _ => exact c_fit1 G R I
  | 2, _ => exact c_fit2 G R I m1 m2
  | 3, _ => exact c_fit3 G R I
end
end Mine
end
noncomputable section
open PySem PySem.W PyProof.Rows PySem.Calls Builtin Builtin.ObjectAttr Builtin.Getset_descriptor
set_option Elab.async false
set_option maxRecDepth 100000
set_option linter.unusedVariables false
namespace Mine
def Ext2 (a c : Addr) (h h' : Heap) : Prop := ∀ b o, b ≠ a → b ≠ c → h.get? b = some o → h'.get? b = some o
theorem Ext2.trans {a c : Addr} {h h' h'' : Heap} (x : Ext2 a c h h') (y : Ext2 a c h' h'') : Ext2 a c h h'' := fun b o n m e => y b o n m (x b o n m e)
theorem Ext2.of_keep {a c : Addr} {h h' : Heap} (k : Keep h h') : Ext2 a c h h' := fun b o _ _ e => k b o e
theorem Ext2.left {a c : Addr} {h h' : Heap} (k : Ext a h h') : Ext2 a c h h' := fun b o n _ e => k b o n e
theorem Ext2.right {a c : Addr} {h h' : Heap} (k : Ext c h h') : Ext2 a c h h' := fun b o _ n e => k b o n e
theorem Ext2.keepF {a c : Addr} {hF h h' : Heap} (k : Keep hF h) (x : Ext2 a c h h') (n1 : hF.get? a = none) (n2 : hF.get? c = none) : Keep hF h' := fun b o e =>
  x b o (fun q => by subst q; rw [n1] at e; cases e) (fun q => by subst q; rw [n2] at e; cases e) (k b o e)

structure GInv (hF : Heap) (C I l : Addr) (i : Nat) (h : Heap) : Prop where
  ns : ∃ m, h.Ns C m
  it : h.IsListIter I l i
  k : Keep hF h
def GY (hb hF : Heap) (C I l : Addr) (pz : Nat → Bool) (n0 : Nat) (F : Nat → Value → Heap → Prop) : Protocol := fun m s0 v s kap =>
  ∃ i, i < n0 ∧ pz i = true ∧ (passing pz n0 (i + 1)).length = m ∧ (∃ h' tk, s = { s0 with heap := h', toks := tk }) ∧ Ext2 C I s0.heap s.heap ∧ GInv hF C I l (i + 1) s.heap ∧
    (∀ b', Keep hb b' → (∀ a o, s0.heap.get? a = none → s.heap.get? a = some o → b'.get? a = some o) → F i v b') ∧ ∀ s'' : Shared, GInv hF C I l (i + 1) s''.heap → kap (.send .none) s''
def GR (C I : Addr) : GenEnd := fun n s0 r s1 => r = .ok .next ∧ (n = 0 ∧ (∃ h' tk, s1 = { s0 with heap := h', toks := tk }) ∧ Ext2 C I s0.heap s1.heap)

section
variable {w : World} {A : Around}
theorem Rm.over {n : Nat} {c : Code} (R : Rm (n + 1) A) (hw : c.weight ≤ 1) (hu : c.cUnits ≤ 10) : Rm n (A.over c []) := by
  refine ⟨R.hd, ?_, ?_⟩
  · have := R.dp
    show A.depth + 0 + c.weight + n < _
    lia
  · have := R.un
    show A.units + 0 + c.cUnits + 100 * n < _
    lia
theorem Res.upto {b b' h h' b'' : Heap} {s0 : Heap} (r : Res b b' h h') (k : Keep b b'') (n : ∀ a o, s0.get? a = none → h'.get? a = some o → b''.get? a = some o) (hs : ∀ a, h.get? a = none → s0.get? a = none) : Keep b' b'' := fun a o e => by
  cases hb : b.get? a with
  | some ob =>
    have := r.up.b _ _ hb
    rw [e] at this; cases this
    exact k _ _ hb
  | none => exact n a o (hs a (r.fresh hb ⟨o, e⟩)) (r.up.i _ _ e)

theorem seg_gen {elt iter : Expr} {x : Str} {px : Pos} {ifs : List Expr} {scope : Scope} {pos : Pos} {I l : Addr} {xs : Array Value} {cenv : Env} {r : Nat} (hb hF : Heap) (pz : Nat → Bool) (F : Nat → Value → Heap → Prop) (Rm0 : Rm (r + 1) A)
    (hsub : Keep hb hF) (hl : hF.IsList l xs) (nC : hF.get? cenv.locals = none) (nI : hF.get? I = none) (hCI : cenv.locals ≠ I) (mono : ∀ i y b b', Keep b b' → F i y b → F i y b')
    (hx : cenv.kindOf x = some .local) (hp : (cenv.scope.kind == .class || (cenv.scope.kind == .module && cenv.locals != cenv.globals)) = false) (hco : cenv.scope.isCoroutine = false)
    (hT : ∀ A', Rm r A' → ∀ i v h m, xs[i]? = some v → h.Ns cenv.locals m → m x = some v → Keep hF h → Y w A' hb h (tests cenv ifs) (Is (pz i)))
    (hE : ∀ A', Rm r A' → ∀ i v h m, pz i = true → xs[i]? = some v → h.Ns cenv.locals m → m x = some v → Keep hF h → Y w A' hb h (eval elt cenv) (F i)) :
    ∀ (k i : Nat) (s0 s : Shared), xs.size - i = k → i ≤ xs.size → GInv hF cenv.locals I l i s.heap → (∃ h' tk, s = { s0 with heap := h', toks := tk }) → Ext2 cenv.locals I s0.heap s.heap → (∀ a, s.heap.get? a = none → s0.heap.get? a = none) →
      Seg (model PG w) A (GR cenv.locals I) (GY hb hF cenv.locals I l pz xs.size F) (passing pz xs.size i).length s0 (.compLoop (.GeneratorExp elt [⟨.Name x px, iter, ifs, 0⟩] scope pos) 0 (.ref I) .none cenv)
        ((model PG w).den (.compLoop (.GeneratorExp elt [⟨.Name x px, iter, ifs, 0⟩] scope pos) 0 (.ref I) .none cenv)) [] s := by
  have Ro : Rm r (A.over (.compLoop (.GeneratorExp elt [⟨.Name x px, iter, ifs, 0⟩] scope pos) 0 (.ref I) .none cenv) []) := Rm0.over (Nat.le_of_ble_eq_true (by rfl)) (Nat.le_of_ble_eq_true (by rfl))
  intro k
  induction k with
  | zero =>
    rintro i s0 s hk hi ⟨ns, it, kF⟩ ⟨h', tk, rfl⟩ ex fr
    have e : i = xs.size := by lia
    subst e
    show Seg _ A _ _ _ s0 _ ((compTurn (.GeneratorExp elt [⟨.Name x px, iter, ifs, 0⟩] scope pos) 0 (.ref I) .none cenv).onRaise (leaving cenv)) [] _
    rw [compTurn_gen, Sem.onRaise_eq_wrap]
    refine seg_bind_wrap (wpAny_standAt ?_)
    refine seg_bind_wrap (wpAny_pyNext_list_end Ro.hd it (hl.at fun o e => kF _ _ e) (by simp) fun h2 ex2 => ?_)
    exact seg_end (.ok .next) ⟨rfl, by rw [passing_end]; rfl, ⟨h2, tk, rfl⟩, ex.trans (Ext2.right fun b o n e => ex2 b o n e)⟩
  | succ k ih =>
    rintro i s0 s hk hi ⟨⟨m, ns⟩, it, kF⟩ ⟨h', tk, rfl⟩ ex fr
    have hlt : i < xs.size := by lia
    show Seg _ A _ _ _ s0 _ ((compTurn (.GeneratorExp elt [⟨.Name x px, iter, ifs, 0⟩] scope pos) 0 (.ref I) .none cenv).onRaise (leaving cenv)) [] _
    rw [compTurn_gen, Sem.onRaise_eq_wrap]
    refine seg_bind_wrap (wpAny_standAt ?_)
    have hv : xs[i]? = some xs[i] := by simp [hlt]
    refine seg_bind_wrap (wpAny_pyNext_list_item it (hl.at fun o e => kF _ _ e) hv fun h1 it1 sb1 => ?_)
    refine seg_bind_wrap (wpAny_of_eq (rfl : letOwnedTupleGo (.Name x px) (.ref I) xs[i] = pure ()) ?_)
    have ns1 : h1.Ns cenv.locals m := ns.sameBut sb1 hCI
    refine seg_bind_wrap (wpAny_assign_Name (wpAny_storeName_local hx ns1 (fun h2 ns2 sb2 => ?_) hp))
    have ex2 : Ext2 cenv.locals I h' h2 := (Ext2.right (Ext.of_same sb1)).trans (Ext2.left (Ext.of_same sb2))
    have kF2 : Keep hF h2 := ex2.keepF kF nC nI
    have it2 : h2.IsListIter I l (i + 1) := it1.at fun o e => (sb2.2 I hCI.symm).trans e
    have fr2 : ∀ a, h2.get? a = none → h'.get? a = none := fun a e => by
      by_cases q1 : a = cenv.locals
      · subst q1; obtain ⟨o, _, _, q, _⟩ := ns2; rw [e] at q; cases q
      · by_cases q2 : a = I
        · subst q2; obtain ⟨o, q, _⟩ := it2; rw [e] at q; cases q
        · rw [sb2.2 a q1, sb1.2 a q2] at e; exact e
    have mx : (fun y => if y = x then some xs[i] else m y) x = some xs[i] := by simp
    refine seg_bind_wrap ((hT _ Ro i _ h2 _ hv ns2 mx kF2).use (hsub.trans kF2) fun ok b3 h3 tk3 p r3 => ?_)
    cases p
    have kF3 : Keep hF h3 := kF2.trans r3.up.h
    cases hpz : pz i with
    | false =>
      rw [passing_false hlt hpz]
      simp only [Bool.false_eq_true, if_false]
      exact seg_again rfl (ih (i + 1) s0 _ (by lia) hlt ⟨⟨_, ns2.keeps r3.up.h⟩, it2.at fun o e => r3.up.h _ _ e, kF3⟩ ⟨_, _, rfl⟩ ((ex.trans ex2).trans (Ext2.of_keep r3.up.h)) fun a e => fr a (fr2 a (keep_none r3.up.h e)))
    | true =>
      rw [passing_true hlt hpz, List.length_cons]
      simp only [if_true]
      have hy : ∀ v, yieldOut cenv v = yieldValue v := fun v => by simp only [yieldOut, hco, Bool.false_eq_true, if_false]
      simp only [hy]
      rw [Sem.bind_eq_wrap', Sem.bind_eq_wrap', Sem.wrap_wrap, Sem.wrap_wrap]
      refine seg_wrap ((hE _ Ro i _ h3 _ hpz hv (ns2.keeps r3.up.h) mx kF3).use (hsub.trans kF3) fun y b4 h4 tk4 p r4 => ?_)
      have G4 : GInv hF cenv.locals I l (i + 1) h4 := ⟨⟨_, (ns2.keeps r3.up.h).keeps r4.up.h⟩, it2.at fun o e => r4.up.h _ _ (r3.up.h _ _ e), kF3.trans r4.up.h⟩
      refine seg_at (seg_yield rfl rfl rfl ⟨i, hlt, hpz, rfl, ⟨_, _, rfl⟩, ((ex.trans ex2).trans (Ext2.of_keep r3.up.h)).trans (Ext2.of_keep r4.up.h), G4, fun b' kb n => ?_, fun s'' inv => ?_⟩)
      · exact mono i y b4 b' (r4.upto kb n fun a e => fr a (fr2 a (keep_none r3.up.h e))) p
      · exact seg_again rfl (ih (i + 1) s'' s'' (by lia) hlt inv ⟨_, _, rfl⟩ (fun _ _ _ _ e => e) fun _ e => e)
end
end Mine
end
noncomputable section
open PySem PySem.W PyProof.Rows PySem.Calls Builtin Builtin.ObjectAttr Builtin.Getset_descriptor
set_option Elab.async false
set_option maxRecDepth 100000
set_option linter.unusedVariables false
namespace Mine
structure GenIs (w : World) (A : Around) (hb hF : Heap) (C I l : Addr) (n : Nat) (pz : Nat → Bool) (F : Nat → Value → Heap → Prop) (a g i : Nat) (s : Shared) : Prop where
  obj : s.heap.IsGen a g
  go : ∃ gs, s.gens[g]? = some gs ∧ ∀ s'' : Shared, GInv hF C I l i s''.heap → gs.Goes (model PG w) A.in1 (GR C I) (GY hb hF C I l pz n F) (passing pz n i).length (.send .none) s''
theorem passing_eq {pz : Nat → Bool} {n i i' : Nat} (hlt : i' < n) (hp : pz i' = true) (hl : (passing pz n i').length = (passing pz n i).length) : passing pz n i = i' :: passing pz n (i' + 1) := by
  rw [← passing_true hlt hp]
  rcases Nat.le_total i i' with h | h
  · unfold passing at hl ⊢
    have : (List.range n).drop i' = ((List.range n).drop i).drop (i' - i) := by rw [List.drop_drop]; congr 1; lia
    rw [this] at hl ⊢
    exact ((List.Sublist.filter _ (List.drop_sublist _ _)).eq_of_length hl).symm
  · unfold passing at hl ⊢
    have : (List.range n).drop i = ((List.range n).drop i').drop (i - i') := by rw [List.drop_drop]; congr 1; lia
    rw [this] at hl ⊢
    exact (List.Sublist.filter _ (List.drop_sublist _ _)).eq_of_length hl.symm
section
variable {w : World} {A : Around} {hb hF : Heap} {C I l : Addr} {n : Nat} {pz : Nat → Bool} {F : Nat → Value → Heap → Prop} {a g i : Nat} {s : Shared}
theorem gen_next (hh : A.handled = none) (hroom : A.depth < recursionLimit) (lim : s.heap.NoLimit) (aC : a ≠ C) (aI : a ≠ I) (Gi : GenIs w A hb hF C I l n pz F a g i s) (inv : GInv hF C I l i s.heap) {Q : Option Value → Shared → Prop} {E : Value → Shared → Prop}
    (q1 : ∀ i' v h' tk gs', passing pz n i = i' :: passing pz n (i' + 1) → Ext2 C I s.heap h' → GInv hF C I l (i' + 1) h' → (∀ b', Keep hb b' → (∀ a o, s.heap.get? a = none → h'.get? a = some o → b'.get? a = some o) → F i' v b') →
      GenIs w A hb hF C I l n pz F a g (i' + 1) { s with heap := h', toks := tk, gens := gs' } → (AllBare s.gens → AllBare gs') → GenOnly g s.gens gs' → Q (some v) { s with heap := h', toks := tk, gens := gs' })
    (q2 : ∀ h' tk gs', passing pz n i = [] → Ext2 C I s.heap h' → (AllBare s.gens → AllBare gs') → GenOnly g s.gens gs' → Q none { s with heap := h', toks := tk, gens := gs' }) :
    wpAny (model PG w) A (pyNext (.ref a)) Q E s := by
  obtain ⟨gs, hgs, go⟩ := Gi.go
  have glt : g < s.gens.size := by
    by_cases h : g < s.gens.size
    · exact h
    · rw [Array.getElem?_eq_none (by lia)] at hgs; cases hgs
  have bareSet : ∀ x : GenState, x.bare = true → AllBare s.gens → AllBare (s.gens.setIfInBounds g x) := fun x hx ab y hy => by
    obtain ⟨j, hj, e⟩ := Array.mem_iff_getElem.mp hy
    rw [Array.getElem_setIfInBounds] at e
    · split at e
      · rw [← e]; exact hx
      · rw [← e]; exact ab _ (Array.getElem_mem _)
    · simpa using hj
  have twice : ∀ x y : GenState, (s.gens.setIfInBounds g x).setIfInBounds g y = s.gens.setIfInBounds g y := fun x y => by simp
  refine wpAny_pyNext_genexpQ (P := fun n s0 s1 => n = 0 ∧ (∃ h' tk, s1 = { s0 with heap := h', toks := tk }) ∧ Ext2 C I s0.heap s1.heap) (Y := GY hb hF C I l pz n F) hh lim hroom Gi.obj hgs (go (s.setGen g .running) inv) (fun v s1 gs' hbare y => ?_) (fun s1 p h' k => ?_)
  · obtain ⟨i', hlt, hp, hlen, ⟨h', tk, rfl⟩, ex, G', hF', kap⟩ := y
    have hpos : 0 < (passing pz n i).length := by
      cases hz : (passing pz n i).length with
      | zero =>
        rw [hz] at kap
        exact (kap _ G').elim
      | succ m => exact Nat.succ_pos _
    have pe : passing pz n i = i' :: passing pz n (i' + 1) := passing_eq hlt hp (by rw [passing_true hlt hp, List.length_cons, hlen]; lia)
    rw [pe, List.length_cons] at kap
    have e : (({ s.setGen g .running with heap := h', toks := tk } : Shared).setGen g gs') = { s with heap := h', toks := tk, gens := s.gens.setIfInBounds g gs' } := by
      show ({ s with heap := h', toks := tk, gens := (s.gens.setIfInBounds g .running).setIfInBounds g gs' } : Shared) = _
      rw [twice]
    rw [e]
    refine q1 i' v h' tk _ pe ex G' hF' ⟨?_, gs', by simp [glt], kap⟩ (bareSet gs' hbare) ⟨by simp, fun k hk => by simp [Ne.symm hk]⟩
    obtain ⟨o, nm, qn, ho, r⟩ := Gi.obj
    exact ⟨o, nm, qn, ex a o aC aI ho, r⟩
  · obtain ⟨hz, ⟨h1, tk, rfl⟩, ex⟩ := p
    have e : ({ (({ s.setGen g .running with heap := h1, toks := tk } : Shared).setGen g .finished) with heap := h' } : Shared) = { s with heap := h', toks := tk, gens := s.gens.setIfInBounds g .finished } := by
      show ({ s with heap := h', toks := tk, gens := (s.gens.setIfInBounds g .running).setIfInBounds g .finished } : Shared) = _
      rw [twice]
    rw [e]
    exact q2 h' tk _ (List.eq_nil_of_length_eq_zero hz) (fun b o n1 n2 x => k b o (ex b o n1 n2 x)) (bareSet _ rfl) ⟨by simp, fun k hk => by simp [Ne.symm hk]⟩
end
end Mine
end
noncomputable section
open PySem PySem.W PyProof.Rows PySem.Calls Builtin Builtin.ObjectAttr Builtin.Getset_descriptor
set_option Elab.async false
set_option maxRecDepth 100000
set_option linter.unusedVariables false
namespace Mine
theorem St.join2 {h0 hb0 b h h' : Heap} {C I : Addr} {oC oC' oI oI' : Own} {O : List (Addr × Own)} (S : St h0 hb0 b ((C, oC) :: (I, oI) :: O) h) (ex : Ext2 C I h h') (atC : oC'.At h' C) (atI : oI'.At h' I) :
    ∃ b', St h0 hb0 b' ((C, oC') :: (I, oI') :: O) h' ∧ Keep b b' ∧ ∀ a o, h.get? a = none → h'.get? a = some o → b'.get? a = some o := by
  have hC := S.own (C, oC) (.head _)
  have hI := S.own (I, oI) (.tail _ (.head _))
  obtain ⟨b', e⟩ := Heap.part h' fun a => (b.get? a).isSome || (h.get? a).isNone
  have nb : ∀ a o, b.get? a = some o → a ≠ C ∧ a ≠ I := fun a o x => ⟨fun q => (by subst q; rw [hC.2.1] at x; cases x), fun q => (by subst q; rw [hI.2.1] at x; cases x)⟩
  have n0 : ∀ a o, h0.get? a = some o → a ≠ C ∧ a ≠ I := fun a o x => ⟨fun q => (by subst q; rw [hC.2.2] at x; cases x), fun q => (by subst q; rw [hI.2.2] at x; cases x)⟩
  have k : Keep b b' := fun a o x => by rw [e, if_pos (by rw [x]; rfl)]; exact ex a o (nb a o x).1 (nb a o x).2 (S.base _ _ x)
  have miss : ∀ a o, h.get? a = some o → b.get? a = none → b'.get? a = none := fun a o x n => by rw [e, if_neg (by rw [n, x]; simp)]
  have nd := S.nd
  simp only [List.map_cons, List.nodup_cons, List.mem_cons, not_or] at nd
  refine ⟨b', ⟨⟨⟨S.res.up.b.trans k, fun a o x => ex a o (n0 a o x).1 (n0 a o x).2 (S.keep _ _ x), fun a o x => ?_⟩, fun a o x n => ?_⟩, fun p m => ?_, S.nd⟩, k, fun a o n x => by rw [e, if_pos (by rw [n]; simp)]; exact x⟩
  · rw [e] at x; split at x
    · exact x
    · cases x
  · exact miss a o (S.keep _ _ x) (S.res.new a o x n)
  · rcases List.mem_cons.mp m with rfl | m
    · obtain ⟨o, q⟩ := hC.1.some; exact ⟨atC, miss _ o q hC.2.1, hC.2.2⟩
    · rcases List.mem_cons.mp m with rfl | m
      · obtain ⟨o, q⟩ := hI.1.some; exact ⟨atI, miss _ o q hI.2.1, hI.2.2⟩
      · have hp := S.own p (.tail _ (.tail _ m))
        obtain ⟨o, q⟩ := hp.1.some
        refine ⟨hp.1.at fun o x => ex _ _ (fun q => nd.1.2 (List.mem_map.mpr ⟨p, m, q⟩)) (fun q => nd.2.1 (List.mem_map.mpr ⟨p, m, q⟩)) x, miss _ o q hp.2.1, hp.2.2⟩
theorem St.letGo2 {h0 hb0 b h h' : Heap} {C I : Addr} {oC oI : Own} {O : List (Addr × Own)} (S : St h0 hb0 b ((C, oC) :: (I, oI) :: O) h) (ex : Ext2 C I h h') : St h0 hb0 b O h' := by
  have hC := S.own (C, oC) (.head _)
  have hI := S.own (I, oI) (.tail _ (.head _))
  have nb : ∀ a o, b.get? a = some o → a ≠ C ∧ a ≠ I := fun a o x => ⟨fun q => (by subst q; rw [hC.2.1] at x; cases x), fun q => (by subst q; rw [hI.2.1] at x; cases x)⟩
  have n0 : ∀ a o, h0.get? a = some o → a ≠ C ∧ a ≠ I := fun a o x => ⟨fun q => (by subst q; rw [hC.2.2] at x; cases x), fun q => (by subst q; rw [hI.2.2] at x; cases x)⟩
  have nd := S.nd
  simp only [List.map_cons, List.nodup_cons, List.mem_cons, not_or] at nd
  exact ⟨⟨⟨S.res.up.b, fun a o x => ex a o (n0 a o x).1 (n0 a o x).2 (S.keep _ _ x), fun a o x => ex a o (nb a o x).1 (nb a o x).2 (S.base _ _ x)⟩, S.res.new⟩,
    fun p m => let hp := S.own p (.tail _ (.tail _ m)); ⟨hp.1.at fun o x => ex _ _ (fun q => nd.1.2 (List.mem_map.mpr ⟨p, m, q⟩)) (fun q => nd.2.1 (List.mem_map.mpr ⟨p, m, q⟩)) x, hp.2⟩, nd.2.2⟩
def FL (F : Nat → Value → Heap → Prop) (b : Heap) (vs : List Value) (is : List Nat) : Prop := L2 (fun v i => F i v b) vs is
theorem FL.keep {F : Nat → Value → Heap → Prop} (mono : ∀ i y b b', Keep b b' → F i y b → F i y b') {b b' : Heap} (k : Keep b b') {vs : List Value} {is : List Nat} (x : FL F b vs is) : FL F b' vs is := L2.mono (fun v i x => mono i v b b' k x) x
theorem FL.append {F : Nat → Value → Heap → Prop} {b : Heap} {vs us : List Value} {is js : List Nat} (x : FL F b vs is) (y : FL F b us js) : FL F b (vs ++ us) (is ++ js) := L2.append x y
theorem FL.length {F : Nat → Value → Heap → Prop} {b : Heap} {vs : List Value} {is : List Nat} (x : FL F b vs is) : vs.length = is.length := L2.length x
theorem passing_le_n (pz : Nat → Bool) (n i : Nat) : (passing pz n i).length ≤ n := by
  unfold passing
  refine Nat.le_trans (List.length_filter_le _ _) ?_
  simp
section
variable {w : World} {A : Around} {hbG : Heap} {C I l : Addr} {n : Nat} {pz : Nat → Bool} {F : Nat → Value → Heap → Prop} {a g : Nat} {h0 hb0 : Heap} {O : List (Addr × Own)}
theorem extend_loop {D : Addr} {res : Value} (mono : ∀ i y b b', Keep b b' → F i y b → F i y b') (hn : n ≤ 1000) (hh : A.handled = none) (hroom : A.depth < recursionLimit) :
    ∀ (k i : Nat) (acc : List Value) (dn : List Nat) (b : Heap) (mC : Str → Option Value) (s : Shared) (R : Result → Shared → Prop), (passing pz n i).length = k → Glob w b → Keep hbG b → hbG.IsGen a g →
      St h0 hb0 b ((C, .ns mC) :: (I, .itr l i) :: (D, .lst acc.toArray) :: O) s.heap → GenIs w A.in1 hbG hbG C I l n pz F a g i s → FL F b acc dn → dn ++ passing pz n i = passing pz n 0 →
      (∀ acc' b' h' tk gs', St h0 hb0 b' ((D, .lst acc'.toArray) :: O) h' → Keep b b' → FL F b' acc' (passing pz n 0) → (AllBare s.gens → AllBare gs') → GenOnly g s.gens gs' → R (.ok (.ret res)) { s with heap := h', toks := tk, gens := gs' }) →
      codeAny (model PG w) A (.builtin "list.extend.loop" ⟨[.ref D, .ref a, res], []⟩) R s := by
  intro k
  induction k with
  | zero =>
    intro i acc dn b mC s R hk G kG ga S Gi fl hd q
    refine codeAny_builtin PySem.F.entry_extend_loop ?_
    rw [Around.under_plainId PySem.F.plain_extend_loop _]
    show wpAny _ A.in1 (pyNext (.ref a) >>= _) _ _ s
    have aC : a ≠ C := fun e => by have := (S.own (C, .ns mC) (.head _)).2.1; obtain ⟨o, _, _, x, _⟩ := ga; rw [e] at x; rw [kG _ _ x] at this; cases this
    have aI : a ≠ I := fun e => by have := (S.own (I, .itr l i) mem1).2.1; obtain ⟨o, _, _, x, _⟩ := ga; rw [e] at x; rw [kG _ _ x] at this; cases this
    refine wpAny_bind (gen_next (A := A.in1) hh hroom (G.keep S.base).lim aC aI Gi ⟨⟨mC, S.ns⟩, S.mem (p := (I, .itr l i)) mem1, kG.trans S.base⟩ (fun i' v h' tk gs' pe => by rw [pe] at hk; simp at hk) fun h' tk gs' pe ex bare only => ?_)
    have S' : St h0 hb0 b ((D, .lst acc.toArray) :: O) h' := S.letGo2 ex
    refine wpAny_pure (q acc b h' tk gs' S' (.refl _) ?_ bare only)
    rw [pe, List.append_nil] at hd
    rw [← hd]; exact fl
  | succ k ih =>
    intro i acc dn b mC s R hk G kG ga S Gi fl hd q
    refine codeAny_builtin PySem.F.entry_extend_loop ?_
    rw [Around.under_plainId PySem.F.plain_extend_loop _]
    show wpAny _ A.in1 (pyNext (.ref a) >>= _) _ _ s
    have aC : a ≠ C := fun e => by have := (S.own (C, .ns mC) (.head _)).2.1; obtain ⟨o, _, _, x, _⟩ := ga; rw [e] at x; rw [kG _ _ x] at this; cases this
    have aI : a ≠ I := fun e => by have := (S.own (I, .itr l i) mem1).2.1; obtain ⟨o, _, _, x, _⟩ := ga; rw [e] at x; rw [kG _ _ x] at this; cases this
    refine wpAny_bind (gen_next (A := A.in1) hh hroom (G.keep S.base).lim aC aI Gi ⟨⟨mC, S.ns⟩, S.mem (p := (I, .itr l i)) mem1, kG.trans S.base⟩ (fun i' v h' tk gs' pe ex inv hF Gi' bare only => ?_) fun h' tk gs' pe => by rw [pe] at hk; simp at hk)
    obtain ⟨m', ns'⟩ := inv.ns
    obtain ⟨b', S', kb, news⟩ := S.join2 (oC' := .ns m') (oI' := .itr l (i' + 1)) ex ns' inv.it
    obtain ⟨c, hD⟩ := S'.mem (p := (D, .lst acc.toArray)) mem2
    show wpAny _ A.in1 (updateSeq D (·.push v) >>= _) _ _ _
    have hlen : acc.length ≤ 1000 := by
      rw [fl.length]
      have := passing_le_n pz n 0
      rw [← hd, List.length_append] at this
      lia
    refine wpAny_bind ?_
    have hup := Heap.get?_update_self (Obj.mapSeq (·.push v)) hD rfl
    have S2 : St h0 hb0 b' ((C, .ns m') :: (I, .itr l (i' + 1)) :: (D, .lst (acc ++ [v]).toArray) :: O) (h'.update D (Obj.mapSeq (·.push v))) :=
      St.upd (pre := [_, _]) S' (Ext.of_same (Heap.SameBut.update ..)) (by
        refine ⟨c + 1, hup.trans ?_⟩
        rw [Obj.mapSeq_push_plain]; simp)
    have kD : ∀ b o, b ≠ D → h'.get? b = some o → (h'.update D (Obj.mapSeq (·.push v))).get? b = some o := fun b o n e => (Heap.get?_update_other _ _ (Ne.symm n)).trans e
    have aD : a ≠ D := fun e => by have := (S.own (D, .lst acc.toArray) mem2).2.1; obtain ⟨o, _, _, x, _⟩ := ga; rw [e] at x; rw [kG _ _ x] at this; cases this
    refine wpAny_updateSeq hD rfl (wpAny_pure ⟨plainId_quiet PySem.F.plain_extend_loop _, ih (i' + 1) (acc ++ [v]) (dn ++ [i']) b' m' _ _ (by rw [pe] at hk; simpa using hk) (G.keep kb) (kG.trans kb) ga S2 ⟨?_, Gi'.go⟩ ((fl.keep mono kb).append ⟨hF b' (kG.trans kb) news, trivial⟩) (by rw [List.append_assoc, ← hd, pe]; rfl) fun acc' b2 h2 tk2 gs2 S3 k3 fl3 bare3 only3 => ?_⟩) (by rw [sizeLine_eq]; simp; lia) (by rw [sizeLine_eq]; simp; lia)
    · obtain ⟨o, nm, qn, ho, r⟩ := Gi'.obj
      exact ⟨o, nm, qn, kD a o aD ho, r⟩
    · exact q acc' b2 h2 tk2 gs2 S3 (kb.trans k3) fl3 (fun ab => bare3 (bare ab)) (only.trans only3)
theorem list_gen {E : Value → Shared → Prop} {Q : Value → Shared → Prop} {b : Heap} {mC : Str → Option Value} {s : Shared} (mono : ∀ i y b b', Keep b b' → F i y b → F i y b') (hn : n ≤ 1000) (hh : A.handled = none) (hroom : A.depth < recursionLimit) (G : Glob w b) (kG : Keep hbG b) (ga : hbG.IsGen a g)
    (S : St h0 hb0 b ((C, .ns mC) :: (I, .itr l 0) :: O) s.heap) (Gi : GenIs w A.in1.in1 hbG hbG C I l n pz F a g 0 s)
    (q : ∀ D ys b' h' tk gs', St h0 hb0 b' O h' → Keep b b' → b'.PlainList D ys.toArray → b.get? D = none → FL F b' ys (passing pz n 0) → (AllBare s.gens → AllBare gs') → GenOnly g s.gens gs' → Q (.ref D) { s with heap := h', toks := tk, gens := gs' }) :
    wpAny (model PG w) A (call (.type "list") [.ref a]) Q E s := by
  have hTa : ∀ h : Heap, Keep b h → ∀ s : Shared, s.heap = h → s.TypeIs (.ref a) "generator" := fun h k s e => by
    obtain ⟨o, nm, qn, ho, hc, r⟩ := ga
    exact ⟨o, by rw [e]; exact k _ _ (kG _ _ ho), hc⟩
  refine callType_codes (Q₁ := fun obj s₁ => obj = .ref s.heap.objs.size ∧ s₁ = { s with heap := s.heap.push { cls := .type "list", data := .seq #[] } }) PySem.F.called_list (PySem.F.typeCall_list_1 _) PySem.F.entry_list_init
    (code_list_new _ ⟨rfl, rfl⟩) fun obj s₁ h₁ => ?_
  obtain ⟨rfl, rfl⟩ := h₁
  generalize hD : s.heap.objs.size = D
  have nD : s.heap.get? D = none := hD ▸ fresh_size _
  have hS : (s.heap.push { cls := .type "list", data := .seq #[] }).get? D = some { cls := .type "list", data := .seq #[] } := hD ▸ Heap.get?_push_size _ rfl
  have k1 := Keep.push s.heap { cls := .type "list", data := .seq #[] }
  generalize hH : s.heap.push { cls := .type "list", data := .seq #[] } = H at hS k1
  have S1 : St h0 hb0 b ((C, .ns mC) :: (I, .itr l 0) :: (D, .lst #[]) :: O) H := St.add (pre := [_, _]) (post := O) S k1 nD ⟨0, hS⟩
  have aD : a ≠ D := fun e => by obtain ⟨o, _, _, x, _⟩ := ga; rw [e] at x; rw [S.base _ _ (kG _ _ x)] at nD; cases nD
  refine ⟨⟨_, hS, rfl⟩, PySem.F.args_list_init_2 _ _, ?_⟩
  show wpAny _ A.in1.in1 (do let old ← Builtin.List.listItems (.ref D); Builtin.List.listUpdate (.ref D) (fun _ => #[]); letGo old.toList.reverse; Builtin.List.listExtendWith (.ref D) (.ref a) .none) _ _ _
  refine wpAny_bind ?_
  unfold Builtin.List.listItems
  refine wpAny_bind (wpAny_seqItems hS rfl (wpAny_pure ?_))
  show wpAny _ A.in1.in1 (updateSeq D (fun _ => #[]) >>= fun _ => letGo (#[] : Array Value).toList.reverse >>= fun _ => Builtin.List.listExtendWith (.ref D) (.ref a) .none) _ _ _
  refine wpAny_bind (wpAny_updateSeq hS rfl ?_)
  have hS2 := Heap.get?_update_self (Obj.mapSeq (fun _ => (#[] : Array Value))) hS rfl
  have S2 : St h0 hb0 b ((C, .ns mC) :: (I, .itr l 0) :: (D, .lst #[]) :: O) (H.update D (Obj.mapSeq fun _ => (#[] : Array Value))) := St.upd (pre := [_, _]) S1 (Ext.of_same (Heap.SameBut.update ..)) ⟨_, hS2⟩
  refine wpAny_bind (wpAny_letGo ?_)
  have gI : ∀ h' : Heap, Keep b h' → ∀ tk, GenIs w A.in1.in1 hbG hbG C I l n pz F a g 0 { s with heap := h', toks := tk } := fun h' k tk => by
    obtain ⟨o, nm, qn, ho, r⟩ := ga
    exact ⟨⟨o, nm, qn, k _ _ (kG _ _ ho), r⟩, Gi.go⟩
  have hDa : D ≠ a := aD.symm
  generalize hH2 : H.update D (Obj.mapSeq fun _ => (#[] : Array Value)) = H2 at hS2 S2
  unfold Builtin.List.listExtendWith
  refine wpAny_bind (wpAny_typeOf (hTa H2 S2.base _ rfl) ?_)
  have e1 : Builtin.List.listSameRef (.ref D) (.ref a) = false := by simp [Builtin.List.listSameRef, hDa]
  have e2 : (Value.type "generator" == Value.type "list") = false := by decide
  have e3 : (Value.type "generator" == Value.type "tuple") = false := by decide
  simp only [e1, e2, e3, Bool.or_false, Bool.false_eq_true, if_false]
  refine wpAny_bind (wpAny_pyIter_gen (gI H2 S2.base s.toks).obj ?_)
  refine wpAny_bind (wpAny_holding ?_)
  unfold Builtin.List.listLengthHint
  refine wpAny_bind (wpAny_specialOf (hTa H2 S2.base _ rfl) PySem.F.gen_no_len ?_)
  show wpAny _ _ (specialOf (Value.ref a) (Str.ofString "__length_hint__") >>= _) _ _ _
  refine wpAny_bind (wpAny_specialOf (hTa H2 S2.base _ rfl) PySem.F.gen_no_hint ?_)
  refine wpAny_pure ?_
  show wpAny _ _ (rule "list.extend.makes-room" >>= fun _ => Builtin.List.listTouch (.ref D) >>= fun _ => again (.builtin "list.extend.loop" ⟨[.ref D, .ref a, .none], []⟩)) _ _ _
  refine wpAny_bind (wpAny_rule ?_)
  refine wpAny_bind ?_
  show wpAny _ _ (updateSeq D (·.push .none) >>= fun _ => updateSeq D (·.pop)) _ _ _
  refine wpAny_bind (wpAny_updateSeq hS2 rfl ?_)
  have hS3 := Heap.get?_update_self (Obj.mapSeq (·.push Value.none)) hS2 rfl
  refine wpAny_updateSeq (hz := by seq_fits) hS3 rfl ?_
  have hS4 := Heap.get?_update_self (Obj.mapSeq (·.pop)) hS3 rfl
  have ex : Ext D H2 ((H2.update D (Obj.mapSeq (·.push .none))).update D (Obj.mapSeq (·.pop))) := (Ext.of_same (Heap.SameBut.update ..)).trans (Ext.of_same (Heap.SameBut.update ..))
  have S4 : St h0 hb0 b ((C, .ns mC) :: (I, .itr l 0) :: (D, .lst ([] : List Value).toArray) :: O) ((H2.update D (Obj.mapSeq (·.push .none))).update D (Obj.mapSeq (·.pop))) := St.upd (pre := [_, _]) S2 ex ⟨_, hS4⟩
  refine wpAny_pure ⟨plainId_quiet PySem.F.plain_extend_loop _, extend_loop (A := A.in1) mono hn hh hroom _ 0 [] [] b mC { s with heap := (H2.update D (Obj.mapSeq (·.push .none))).update D (Obj.mapSeq (·.pop)) } _ rfl G kG ga S4 (gI _ S4.base s.toks) trivial rfl fun acc' b' h' tk gs' S5 k5 fl bare only => ?_⟩
  obtain ⟨b2, S6, k6, pl⟩ := St.freeze (pre := []) S5
  exact ⟨rfl, q D acc' b2 h' tk gs' S6 (k5.trans k6) pl (keep_none S.base nD) (fl.keep mono k6) bare only⟩
end
end Mine
end
noncomputable section
open PySem PySem.W PyProof.Rows PySem.Calls Builtin Builtin.ObjectAttr Builtin.Getset_descriptor
set_option Elab.async false
set_option maxRecDepth 100000
set_option linter.unusedVariables false
namespace Mine
inductive CodeAt (h : Heap) (c P : Addr) : Prop
  | mk (o : Obj) (vs : Array Value) (file : Str) (tf : Tok) (flags : Int) (tg : Tok) (inF : Bool) (text : Int) (tt : Tok) (ho : h.get? c = some o) (hd : o.data = .fields vs) (h11 : vs.getD 11 .none = .ref P) (h18 : vs.getD 18 .none = .str file tf)
      (h7 : vs.getD 7 .none = .int flags tg) (h9 : vs.getD 9 .none = .bool inF) (h10 : vs.getD 10 .none = .int text tt) (hcls : o.cls = .type "code") (h11' : vs[11]? = some (.ref P))
theorem CodeAt.keep {h h' : Heap} {c P : Addr} (x : CodeAt h c P) (k : Keep h h') : CodeAt h' c P := by
  obtain ⟨o, vs, file, tf, flags, tg, inF, text, tt, ho, r1, r2, r3, r4, r5, r6, r7, r8⟩ := x
  exact ⟨o, vs, file, tf, flags, tg, inF, text, tt, k _ _ ho, r1, r2, r3, r4, r5, r6, r7, r8⟩
theorem isCode_trip {h : Heap} {c P : Addr} {ps : Array Value} : h.IsCode c P ps → PySem.TriplesOk ps.toList := by
  rintro ⟨_, _, _, _, _, _, _, _, _, _, x⟩
  exact x.2.2.2.2.2.2.2.2.2.1
section
variable {w : World} {A : Around} {hb0 h0 hb : Heap} {env : Env} {L : Addr} {m : Str → Option Value} {O : List (Addr × Own)} {rest : List Stmt} {pos : Pos} {s : Shared} {Q : Flow → Shared → Prop} {E : Value → Shared → Prop}
theorem yBuiltinsFor (G : Glob w hb) {h : Heap} {running : Addr} : Y w A hb h (builtinsFor mainGlobals running) (Is builtinsNs) :=
  yTok fun s Q E kb kh q => by
    have G' := G.keep kb
    obtain ⟨ob, e1, e2, e3, e4⟩ := G'.mod
    have e : nsIn (KK w) mainGlobals "__builtins__" = some (some (.ref 4)) := by rfl
    unfold builtinsFor
    refine wpAny_bind (looks_nsIn G'.K e A _ E s (fun _ _ e => e) ?_)
    show wpAny _ A (if (4 == builtinsNs) = true then _ else _) Q E s
    rw [if_neg (by decide)]
    refine wpAny_bind (wpAny_load e1 ?_)
    rw [e4, e3, e2]
    exact wpAny_pure (q _ s.toks fun _ _ => rfl)
theorem seg_start {elt iter : Expr} {x : Str} {px : Pos} {ifs : List Expr} {scope : Scope} {pos : Pos} {I : Addr} {cenv : Env} {R : GenEnd} {Yp : Protocol} {n : Nat} {l : Addr} {i : Nat} {s0 s : Shared} (it : s.heap.IsListIter I l i)
    (loop : Seg (model PG w) A R Yp n s0 (.compLoop (.GeneratorExp elt [⟨.Name x px, iter, ifs, 0⟩] scope pos) 0 (.ref I) .none cenv) ((model PG w).den (.compLoop (.GeneratorExp elt [⟨.Name x px, iter, ifs, 0⟩] scope pos) 0 (.ref I) .none cenv)) [] s) :
    Seg (model PG w) A R Yp n s0 (.compStart (.GeneratorExp elt [⟨.Name x px, iter, ifs, 0⟩] scope pos) 0 (.ref I) .none cenv) ((model PG w).den (.compStart (.GeneratorExp elt [⟨.Name x px, iter, ifs, 0⟩] scope pos) 0 (.ref I) .none cenv)) [] s := by
  show Seg _ A _ _ _ s0 _ ((compStart (.GeneratorExp elt [⟨.Name x px, iter, ifs, 0⟩] scope pos) 0 (.ref I) .none cenv).onRaise (leaving cenv)) [] s
  unfold compStart
  rw [Sem.onRaise_eq_wrap]
  show Seg _ A _ _ _ s0 _ ((ask >>= _).wrap _ _ _ _) [] s
  refine seg_bind_wrap (wpAny_askSetting ?_)
  split
  · exact seg_again rfl loop
  · first
      | exact seg_bind_wrap (wpAny_rule (seg_bind_wrap (wpAny_standAt (seg_bind_wrap (wpAny_pyIter_listiter it (seg_again rfl loop))))))
      | (refine seg_bind_wrap (wpAny_rule ?_); show Seg _ A _ _ _ s0 _ ((standAt iter.pos >>= _).wrap _ _ _ _) [] s; exact seg_bind_wrap (wpAny_standAt (seg_bind_wrap (wpAny_pyIter_listiter it (seg_again rfl loop)))))
theorem wpGenCode {c P : Addr} {ps : Array Value} {qualname : Str} {scope : Scope} {Q : Value → Shared → Prop} (hc : env.code = .ref c) (hok : s.heap.IsCode c P ps) (htab : s.heap.TableAt c P ps)
    (hQ : ∀ code h' tk ps', Heap.ExtBut P s.heap h' → h'.IsCode c P ps' → h'.TableAt c P ps' → Q code { s with heap := h', toks := tk }) : wpAny (model PG w) A (genexprCode env pos qualname scope) Q E s := by
  cases hnf : codeAmong pos ps.toList with
  | some cv => exact wpAny_genexprCode_hit hc hok hnf (hQ cv s.heap s.toks ps (Heap.ExtBut.refl _ _) hok htab)
  | none => exact wpAny_genexprCodeX hc hok htab hnf fun c' h' tk ex _ _ ok _ tab _ => hQ _ h' tk _ ex ok tab
theorem wLetGen {x : Str} {xp px gpos : Pos} {elt iter : Expr} {v : Str} {ifs : List Expr} {scope : Scope} {cl : List (Str × Addr)} {c P l : Addr} {xs : Array Value} {r : Nat} (pz : Nat → Bool) (F : Nat → Value → Heap → Prop) (mono : ∀ i y b b', Keep b b' → F i y b → F i y b')
    (S : St h0 hb0 hb ((L, .ns m) :: (P, .tab) :: O) s.heap) (G : Glob w hb) (hA : A.handled = none) (hroom : A.depth < recursionLimit) (hcd : CodeAt hb c P) (yi : Y w A hb s.heap (eval iter env) (Is (.ref l))) (hl : hb.IsList l xs)
    (hT : ∀ b', Keep hb b' → ∀ A', Rm r A' → ∀ C code i u h mm, xs[i]? = some u → h.Ns C mm → mm v = some u → Keep b' h → Y w A' b' h (tests (genEnv scope cl C code builtinsNs env) ifs) (Is (pz i)))
    (hE : ∀ b', Keep hb b' → ∀ A', Rm r A' → ∀ C code i u h mm, pz i = true → xs[i]? = some u → h.Ns C mm → mm v = some u → Keep b' h → Y w A' b' h (eval elt (genEnv scope cl C code builtinsNs env)) (F i))
    (z : ∀ a C I mC b' h' tk gs, St h0 hb0 b' ((L, .ns (upd m x (.ref a))) :: (P, .tab) :: (C, .ns mC) :: (I, .itr l 0) :: O) h' → Keep hb b' → b'.IsGen a s.gens.size → gs.bare = true →
      (∀ A', Rm (r + 2) A' → GenIs w A' b' b' C I l xs.size pz F a s.gens.size 0 { s with heap := h', toks := tk, gens := s.gens.push gs }) →
      wpAny (model PG w) A (execs rest env) Q E { s with heap := h', toks := tk, gens := s.gens.push gs })
    (hL : env.locals = L := by rfl) (hc : env.code = .ref c := by rfl) (hg : env.globals = mainGlobals := by rfl) (hk : env.scope.kind = .function := by rfl) (hkx : env.kindOf x = some .local := by rfl)
    (hclos : closureFor scope env = pure cl := by rfl) (hco : scope.isCoroutine = false := by rfl) (hcell : ∀ y ∈ scope.names, y.2 ≠ .cell := by decide) (hz : scope.names.lookup (".0" : Str) = some NameKind.local := by rfl)
    (hv : scope.names.lookup v = some .local := by rfl) (hkind : scope.kind = .function := by rfl) (hfold : ∀ y, genFold iter env y = pure y := by intro _; rfl)
    (hs : swapsWith (.GeneratorExp elt [⟨.Name v px, iter, ifs, 0⟩] scope gpos) (some (.Name x xp)) pos.line env = pure false := by rfl) :
    wpAny (model PG w) A (execs (.Assign [.Name x xp] (.GeneratorExp elt [⟨.Name v px, iter, ifs, 0⟩] scope gpos) pos :: rest) env) Q E s := by
  subst hL
  refine wpAny_execs_cons (wpAny_Assign_Name ?_ hs)
  refine wpAny_GeneratorExp_make hco hclos hcell hz hkind hroom (yi.use S.base fun xv b1 h1 tk1 p r1 => ?_) hfold
  cases p
  have S1 := S.up r1
  have hl1 : b1.IsList l xs := hl.at fun o e => r1.up.b _ _ e
  refine wpAny_pyIter_list (hl1.at fun o e => S1.base _ _ e) ⟨((G.keep r1.up.b).keep (S1.base.trans (Keep.push _ _))).lim, ?_⟩
  have fI := fresh_size h1
  generalize hI : h1.objs.size = I at fI
  have k2 := Keep.push h1 { cls := .type "list_iterator", data := .fields #[.ref l, .int 0 0] }
  have atI : (h1.push { cls := .type "list_iterator", data := .fields #[.ref l, .int 0 0] }).IsListIter I l 0 := ⟨_, hI ▸ Heap.get?_push_size _ rfl, rfl, rfl⟩
  dsimp only
  generalize h1.push { cls := .type "list_iterator", data := .fields #[.ref l, .int 0 0] } = h2 at k2 atI
  have S2 : St h0 hb0 b1 ((env.locals, .ns m) :: (P, .tab) :: (I, .itr l 0) :: O) h2 := St.add (pre := [_, _]) S1 k2 fI atI
  obtain ⟨o, vs, file, tf, flags, tg, inF, text, tt, ho, hd, h11, h18, h7, h9, h10, hcls, h11'⟩ := (hcd.keep r1.up.b).keep S2.base
  obtain ⟨ps, hop, htr⟩ := S2.mem (p := (P, .tab)) mem1
  have cP : c ≠ P := fun e => by
    have := (S1.own (P, .tab) mem1).2.1
    obtain ⟨o', _, _, _, _, _, _, _, _, ho', _, _, _, _, _, _, _, _⟩ := hcd.keep r1.up.b
    rw [e] at ho'; rw [ho'] at this; cases this
  refine wpGenCode hc ⟨o, vs, file, tf, flags, tg, inF, text, tt, _, ho, hd, h11, h18, h7, h9, h10, hop, rfl, htr, cP⟩ ⟨⟨o, vs, ho, hcls, hd, h11'⟩, hop⟩ fun code h3 tk3 ps' ex3 ok3 tab3 => ?_
  have S3 : St h0 hb0 b1 ((env.locals, .ns m) :: (P, .tab) :: (I, .itr l 0) :: O) h3 := St.upd (pre := [_]) (o' := .tab) S2 (fun b o n e => ex3 b o n e) ⟨ps', tab3.2, isCode_trip ok3⟩
  rw [hg]
  refine (yBuiltinsFor (G.keep r1.up.b)).use S3.base fun bi b4 h4 tk4 p r4 => ?_
  cases p
  have S4 := S3.up r4
  intro h5 hns5 sb5
  dsimp only at hns5 sb5 ⊢
  have k5 : Keep h4 h5 := fun b o e => sb5.extBut b o (Nat.ne_of_lt (Heap.lt_size e)) (Heap.get?_push_of_some _ e)
  have S5 : St h0 hb0 b4 ((env.locals, .ns m) :: (P, .tab) :: (h4.objs.size, .ns fun y => if y = ".0" then some (.ref I) else none) :: (I, .itr l 0) :: O) h5 := St.add (pre := [_, _]) S4 k5 (fresh_size _) hns5
  generalize hob : ({ cls := .type "generator", data := .fields #[.int s.gens.size 0, .str "<genexpr>" (tk4 + 1), .str (env.qual ++ "<genexpr>") (tk4 + 1 + 1)] } : Obj) = ob
  have k6 := Keep.push h5 ob
  have S6 : St h0 hb0 b4 ((env.locals, .ns m) :: (P, .tab) :: (h5.objs.size, .obj ob) :: (h4.objs.size, .ns fun y => if y = ".0" then some (.ref I) else none) :: (I, .itr l 0) :: O) (h5.push ob) := St.add (pre := [_, _]) S5 k6 (fresh_size _) (by subst hob; exact Heap.get?_push_size _ rfl)
  obtain ⟨b7, S7, k7, at7⟩ := St.freeze (pre := [_, _]) S6
  have ga : b7.IsGen h5.objs.size s.gens.size := by subst hob; exact ⟨_, _, _, at7, rfl, rfl, rfl⟩
  refine wpAny_storeName_local hkx S7.ns (fun h8 hn8 sb8 => ?_) (by rw [hk]; rfl)
  have S8 : St h0 hb0 b7 ((env.locals, .ns (upd m x (.ref h5.objs.size))) :: (P, .tab) :: (h4.objs.size, .ns fun y => if y = ".0" then some (.ref I) else none) :: (I, .itr l 0) :: O) h8 := St.upd (pre := []) S7 (Ext.of_same sb8) hn8
  have kb : Keep hb b7 := r1.up.b.trans (r4.up.b.trans k7)
  refine z h5.objs.size h4.objs.size I _ b7 h8 _ _ S8 kb ga rfl fun A' R' => ⟨?_, _, Array.getElem?_push_size .., fun s'' inv => ⟨rfl, ?_⟩⟩
  · obtain ⟨o, nm, qn, x1, x2⟩ := ga
    exact ⟨o, nm, qn, S8.base _ _ x1, x2⟩
  · refine seg_start inv.it ?_
    have nd := S8.nd
    simp only [List.map_cons, List.nodup_cons, List.mem_cons, not_or] at nd
    exact seg_gen (r := r) (cenv := genEnv scope cl h4.objs.size code builtinsNs env) b7 b7 pz F (R'.in1) (Keep.refl _) (hl.at fun o e => kb _ _ e) (S8.own (h4.objs.size, _) mem2).2.1 (S8.own (I, _) mem3).2.1 nd.2.2.1.1 mono hv (by simp [genEnv, hkind]) hco
      (fun A' R' i u h mm e1 e2 e3 e4 => hT b7 kb A' R' _ _ i u h mm e1 e2 e3 e4) (fun A' R' i u h mm e0 e1 e2 e3 e4 => hE b7 kb A' R' _ _ i u h mm e0 e1 e2 e3 e4) xs.size 0 s'' s'' (Nat.sub_zero _) (Nat.zero_le _) inv ⟨_, _, rfl⟩ (fun _ _ _ _ e => e) (fun _ e => e)
end
end Mine
end
noncomputable section
open PySem PySem.W PyProof.Rows PySem.Calls Builtin Builtin.ObjectAttr Builtin.Getset_descriptor
set_option Elab.async false
set_option maxRecDepth 100000
set_option linter.unusedVariables false
namespace Mine
theorem nodup_fst {l : List (Addr × Own)} {a : Addr} {x y : Own} (nd : (l.map (·.1)).Nodup) (hx : (a, x) ∈ l) (hy : (a, y) ∈ l) : x = y := by
  induction l with
  | nil => cases hx
  | cons p l ih =>
    rw [List.map_cons, List.nodup_cons] at nd
    rcases List.mem_cons.mp hx with e | hx
    · rcases List.mem_cons.mp hy with e' | hy
      · rw [← e] at e'; exact (Prod.mk.inj e').2.symm
      · exact absurd (List.mem_map.mpr ⟨(a, y), hy, by rw [← e]⟩) nd.1
    · rcases List.mem_cons.mp hy with e' | hy
      · exact absurd (List.mem_map.mpr ⟨(a, x), hx, by rw [← e']⟩) nd.1
      · exact ih nd.2 hx hy
theorem St.slots {h0 hb0 hb h h' : Heap} {O : List (Addr × Own)} {fr : List Addr} (S : St h0 hb0 hb O h) (k : ∀ b o, b ∉ fr → h.get? b = some o → h'.get? b = some o) (u : h.UpToSlots h') (hf : ∀ a ∈ fr, ∃ m, (a, Own.ns m) ∈ O) : St h0 hb0 hb O h' := by
  have nb : ∀ b ob, hb.get? b = some ob → b ∉ fr := fun b ob e m => by obtain ⟨m', hm⟩ := hf b m; have := (S.own _ hm).2.1; dsimp only at this; rw [e] at this; cases this
  have n0 : ∀ b ob, h0.get? b = some ob → b ∉ fr := fun b ob e m => by obtain ⟨m', hm⟩ := hf b m; have := (S.own _ hm).2.2; dsimp only at this; rw [e] at this; cases this
  refine ⟨⟨⟨S.res.up.b, fun b ob e => k b ob (n0 b ob e) (S.keep b ob e), fun b ob e => k b ob (nb b ob e) (S.base b ob e)⟩, S.res.new⟩, fun p m => ?_, S.nd⟩
  obtain ⟨a, o⟩ := p
  have hp := S.own (a, o) m
  by_cases q : a ∈ fr
  · obtain ⟨m', hm⟩ := hf a q
    have e := nodup_fst S.nd m hm
    subst e
    exact ⟨u.ns (S.mem hm), hp.2⟩
  · exact ⟨hp.1.at fun o e => k _ o q e, hp.2⟩
section
variable {w : World} {A : Around} {hb0 h0 hb : Heap} {env : Env} {outer : List Env} {O : List (Addr × Own)} {s : Shared} {Q : Flow → Shared → Prop}
def Frames (envs : List Env) (O : List (Addr × Own)) : Prop := ∀ env ∈ envs, env.scope.kind ≠ .module ∧ ∃ L m, env.frame = some L ∧ (L, Own.ns m) ∈ O
theorem caught {e : Addr} {h' : Heap} {tk : Nat} {x : Str} {Xs Ts : String} {np hpos : Pos} {b₀ : Stmt} {suite : List Stmt} {L : Addr} (S : St h0 hb0 hb O s.heap) (G : Glob w hb) (N : Heap.NewExc s.heap h' e Xs) (hfr : A.frames = some (env :: outer)) (Fs : Frames (env :: outer) O) (hf : env.frame = some L)
    (hexc : isSubtype (.type Ts) (.type "BaseException") = pure true) (hnt : isSubtype (.type ((Manifest.find? Ts).elim "type" fun x => x.metatype)) (.type "tuple") = pure false) (hsub : isSubtype (.type Xs) (.type Ts) = pure true)
    (yx : ∀ (s1 : Shared) (Q' : Value → Shared → Prop) (E' : Value → Shared → Prop), Keep hb s1.heap → (∀ tk, Q' (.type Ts) { s1 with toks := tk }) → wpAny (model PG w) (A.mark (some (.ref e))) (eval (.Name x np) env) Q' E' s1)
    (k : ∀ h2 tk, St h0 hb0 hb O h2 → wpAny (model PG w) (A.mark (some (.ref e))) (execs (b₀ :: suite) env) Q (fun _ _ => False) { s with heap := h2, toks := tk }) :
    wpAny (model PG w) A (noteFrame (.ref e) env) (fun _ s₂ => wpAny (model PG w) A (setFlight (.ref e) none) (fun _ s₃ => wpAny (model PG w) A (handleBy (.ref e) env [.ExceptHandler (some (.Name x np)) none (b₀ :: suite) hpos]) Q (fun _ _ => False) s₃) (fun _ _ => False) s₂) (fun _ _ => False)
      { s with heap := h', toks := tk } := by
  have S' : St h0 hb0 hb O h' := S.grow N.keeps
  have neF : ∀ p ∈ O, p.1 ≠ e := fun p m q => by obtain ⟨o, x⟩ := (S.own p m).1.some; rw [q, N.new] at x; cases x
  have frO : ∀ a ∈ (env :: outer).filterMap (·.frame), ∃ m, (a, Own.ns m) ∈ O := fun a ha => by
    obtain ⟨ev, hev, hfa⟩ := List.mem_filterMap.mp ha
    obtain ⟨_, L', m, hL', hm⟩ := Fs ev hev
    rw [hfa] at hL'; cases hL'
    exact ⟨m, hm⟩
  obtain ⟨base, hbase⟩ := Heap.part h' fun a => !(((env :: outer).filterMap (·.frame)).contains a) && !(a == e)
  have bget : ∀ a o, h'.get? a = some o → a ∉ (env :: outer).filterMap (·.frame) → a ≠ e → base.get? a = some o := fun a o x n1 n2 => by
    have n1' : (((env :: outer).filterMap (·.frame)).contains a) = false := by
      cases q : ((env :: outer).filterMap (·.frame)).contains a with
      | false => rfl
      | true => exact absurd (List.contains_iff_mem.mp q) n1
    rw [hbase, n1', if_pos (by simp [n2])]; exact x
  have bstay : base.StaysIn h' := fun a o x => by
    rw [hbase] at x; split at x
    · exact x
    · cases x
  have be : base.get? e = none := by rw [hbase, if_neg (by simp)]
  have bfr : ∀ a ∈ (env :: outer).filterMap (·.frame), base.get? a = none := fun a ha => by
    have n1' : (((env :: outer).filterMap (·.frame)).contains a) = true := List.contains_iff_mem.mpr ha
    rw [hbase, n1']; simp
  have ff : ∀ l : List Env, (∀ ev ∈ l, ev ∈ env :: outer) → h'.FunFrames base l := fun l => by
    induction l with
    | nil => intro _; trivial
    | cons ev l ih =>
      intro hl
      obtain ⟨hk, L', m, hL', hm⟩ := Fs ev (hl ev (.head _))
      obtain ⟨o, es, ep, ho, hd, _⟩ := S'.mem hm
      exact ⟨hk, ⟨L', o, hL', bfr L' (List.mem_filterMap.mpr ⟨ev, hl ev (.head _), hL'⟩), ho, fun vs q => by rw [hd] at q; cases q⟩, ih fun z hz => hl z (.tail _ hz)⟩
  obtain ⟨ob, t, he, hcls, hdat⟩ := N.there
  have done : ∀ h2, base.StaysIn h2 → h'.UpToSlots h2 → St h0 hb0 hb O h2 := fun h2 st up =>
    S.slots (fr := (env :: outer).filterMap (·.frame)) (fun b o n x => st b o (bget b o (N.keeps b o x) n fun q => by subst q; rw [N.new] at x; cases x)) ((Heap.UpToSlots.of_keeps N.keeps).trans up) frO
  have step1 : wpAny (model PG w) A (noteFrame (.ref e) env) (fun _ s₂ => ∃ h2, s₂ = { s with heap := h2, toks := tk } ∧ Heap.HeldW base (env :: outer) e (.type Xs) t L h2 ∧ h'.UpToSlots h2) (fun _ _ => False) { s with heap := h', toks := tk } := by
    unfold noteFrame
    simp only [hf]
    refine wpAny_bind (wpAny_field he hdat rfl ?_)
    rw [if_neg (by simp)]
    refine wpAny_entryW hfr (ff _ fun _ h => h) hf he bstay be hdat (by simp) (a0 := t) rfl fun h2 hN => ?_
    obtain ⟨k1, k2, k3, k4⟩ := hN
    rw [hcls] at k3
    exact ⟨h2, rfl, ⟨k1, be, k2, k3⟩, k4⟩
  refine wpAny_mono step1 (fun _ s2 hs2 => ?_) fun _ _ e => e
  obtain ⟨h2, rfl, held, up2⟩ := hs2
  refine wpAny_landsW held fun h3 fl3 up3 => ?_
  have up3' := up2.trans up3
  obtain ⟨ob3, hob3, hoc3⟩ := fl3.there
  have S3 := done h3 fl3.1 up3'
  refine wpAny_handleBy_builtin (b := true) (X := Xs) (T := Ts) hexc hnt hsub (yx _ _ _ S3.base fun tk4 => ?_)
  refine ⟨rfl, ⟨ob3, hob3, hoc3⟩, ?_⟩
  rw [if_pos rfl]
  refine lands_againW fl3 fun h5 fl5 up5 => ?_
  have S5 := done h5 fl5.1 (up3'.trans up5)
  exact wpAny_passesOwnAt PassesOwnAt.never (k h5 tk4 S5)
theorem bltnRaw {x : Str} {p : Pos} {v : Value} {A' : Around} (G : Glob w hb) (e : nsIn (KK w) mainGlobals x = some none) (hv : bootBuiltins x = some v) (hnm : x ≠ "__name__") (s1 : Shared) (Q' : Value → Shared → Prop) (E' : Value → Shared → Prop) (ks : Keep hb s1.heap) (q : ∀ tk, Q' v { s1 with toks := tk })
    (hg : env.globals = mainGlobals := by rfl) (hbl : env.builtins = builtinsNs := by rfl) (hk : env.scope.kind = .function := by rfl) (hx : env.kindOf x = some .globalImplicit := by rfl) (hd : (x == ("__debug__" : Str)) = false := by decide) :
    wpAny (model PG w) A' (eval (.Name x p) env) Q' E' s1 := Name_function_global hk hx (by
    obtain ⟨mb, hmb, hmv⟩ := G.blt
    unfold loadGlobal
    rw [hg, hbl]
    refine wpAny_bind (looks_nsIn (G.K.keeps ks) e A' _ E' s1 (fun _ _ e => e) ?_)
    refine wpAny_bind (wpAny_nsGet (hmb.keeps ks) ?_)
    rw [hmv x hnm, hv]
    exact wpAny_pure (q s1.toks)) hd
end
end Mine
end
noncomputable section
open PySem PySem.W PyProof.Rows PySem.Calls Builtin Builtin.ObjectAttr Builtin.Getset_descriptor
set_option Elab.async false
set_option maxRecDepth 100000
set_option linter.unusedVariables false
namespace Mine
section
variable {w : World} {A : Around} {hb0 h0 hb h : Heap} {env : Env} {O : List (Addr × Own)} {s : Shared} {L : Addr} {m : Str → Option Value}
theorem yItemT {value slice : Expr} {pos : Pos} {t : Addr} {vs : List Value} {q : Nat} {v : Value} (ht : Tp h t vs) (hq : q < 2 ^ 62) (hv : vs[q]? = some v) (y2 : ∀ b1 h1, Up hb h b1 h1 → Y w A b1 h1 (eval slice env) (IsI q)) (y1 : Y w A hb h (eval value env) (Is (.ref t)))
    (hsub : ∀ o i, subscripted slice false o i = operate [o, i] (getItem o i) := by intro _ _; rfl) : Y w A hb h (eval (.Subscript value slice pos) env) (Is v) :=
  yItem (T := "tuple") y1 (fun v b1 h1 u e => y2 b1 h1 u) PySem.F.slot_tuple_getitem.lookup (fun o i b1 h1 b2 h2 u1 u2 e1 e2 => by
    cases e1
    obtain ⟨t', rfl⟩ := e2
    have kk' := (u1.trans u2).h
    refine ⟨fun s ks => ⟨_, ks _ _ (kk' _ _ ht), rfl⟩, yTok fun s Q E kb ks qq => ?_⟩
    exact PyProof.Rows.getItem_tuple (j := q) (x := v) ⟨_, ks _ _ (kk' _ _ ht), rfl, 0, rfl⟩ (by lia) (by lia) (by
      have : q < vs.toArray.size := by
        obtain ⟨hl, _⟩ := List.getElem?_eq_some_iff.mp hv
        simpa using hl
      unfold seqIndex?
      split <;> (try split) <;> simp_all <;> lia) (by simpa using hv) (qq _ s.toks fun _ _ => rfl)) hsub
theorem c_first {t : Addr} {k : Int} {τ : Tok} {rs : List Value} (G : Glob w hb) (R : Rm 1 A) (T : Tp h t (.int k τ :: rs)) : C w A hb h (.ref 315) [.ref t] [] (IsI k) := by
  refine callC (binds := [("one", .ref t)]) G R (by rfl) (by kernel_rfl) (fun s _ => BindsTo.of_eq rfl) (locs_of rfl) fun s c h0 L u G₁ R₁ S E => ?_
  refine wRet S (P := IsI k) ((yItemT (q := 0) (T.keep (u.h.trans S.keep)) (by decide) rfl (fun _ _ _ => yInt) (yName S.ns rfl)).mono fun v _ _ e => ⟨τ, e⟩) fun v b' h' tk p S' kk => ⟨b', h', tk, rfl, p, S'.res⟩
theorem min_some {E : Value → Shared → Prop} {Q : Value → Shared → Prop} {l : Addr} {vs : List Value} (kf : Nat → Int) (S : St h0 hb0 hb ((L, .ns m) :: O) s.heap) (G : Glob w hb) (R : Rm 3 A) (hl : hb.IsList l vs.toArray) (hne : 0 < vs.length)
    (ht : ∀ i v, vs[i]? = some v → ∃ t τ rs, v = .ref t ∧ Tp hb t (.int (kf i) τ :: rs))
    (q : ∀ i v h' tk, vs[i]? = some v → (∀ j, j < vs.length → kf i ≤ kf j ∧ (j < i → kf i < kf j)) → St h0 hb0 hb ((L, .ns m) :: O) h' → Q v { s with heap := h', toks := tk }) :
    wpAny (model PG w) A (call (.builtin "min") [.ref l] [(Str.ofString "key", .ref 315)]) Q E s := by
  have LB : hb.get? L = none := (S.own (L, .ns m) (.head _)).2.1
  have lL : @LT.lt Nat _ L s.heap.objs.size := S.ns.lt
  let H0 : Heap := { s.heap with objs := s.heap.objs.extract 0 L }
  have hsz : H0.objs.size = L := by show (s.heap.objs.extract 0 L).size = L; rw [Array.size_extract]; exact Nat.min_eq_left (Nat.le_of_lt lL)
  have hget : ∀ b o, H0.get? b = some o → s.heap.get? b = some o ∧ @LT.lt Nat _ b L := fun b o e => by
    rw [Heap.get?_some_iff] at e ⊢
    obtain ⟨e1, e2⟩ := e
    have : @LT.lt Nat _ b L := by
      have := (Array.getElem?_eq_some_iff.mp e1).1
      rw [hsz] at this; exact this
    refine ⟨⟨?_, e2⟩, this⟩
    have e1' : (s.heap.objs.extract 0 L)[b]? = some o := e1
    rw [Array.getElem?_extract] at e1'
    split at e1'
    · simpa using e1'
    · cases e1'
  have hput : ∀ b o, s.heap.get? b = some o → @LT.lt Nat _ b L → H0.get? b = some o := fun b o e lt => by
    rw [Heap.get?_some_iff] at e ⊢
    refine ⟨?_, e.2⟩
    show (s.heap.objs.extract 0 L)[b]? = some o
    rw [Array.getElem?_extract]
    rw [if_pos (by rw [Nat.min_eq_left (Nat.le_of_lt lL)]; exact lt)]
    simpa using e.1
  have F0 : Fr H0 L s.heap m := ⟨S.ns, fun b o e => (hget b o e).1, Nat.le_of_eq hsz⟩
  let news : List (Addr × Obj) := (List.range s.heap.objs.size).filterMap fun b => if L < b then (s.heap.get? b).map fun o => (b, o) else none
  have N0 : News H0 L s.heap news := fun p hp => by
    obtain ⟨b, _, e⟩ := List.mem_filterMap.mp hp
    split at e
    · rename_i lt
      cases eo : s.heap.get? b with
      | none => rw [eo] at e; cases e
      | some o =>
        rw [eo] at e
        have : p = (b, o) := by simpa using e.symm
        subst this
        refine ⟨eo, fun q => (by subst q; exact Nat.lt_irrefl _ lt), ?_⟩
        cases ez : H0.get? b with
        | none => rfl
        | some o' => exact absurd (hget b o' ez).2 (Nat.lt_asymm lt)
    · cases e
  have ext : ∀ h, Fr H0 L h m → News H0 L h news → Ext L s.heap h := fun h F N b o n e => by
    rcases Nat.lt_trichotomy b L with lt | rfl | gt
    · exact F.keep b o (hput b o e lt)
    · exact absurd rfl n
    · exact (N (b, o) (List.mem_filterMap.mpr ⟨b, List.mem_range.mpr (Heap.lt_size e), by rw [if_pos gt, e]; rfl⟩)).1
  have kb : ∀ h, Ext L s.heap h → Keep hb h := fun h x b o e => x b o (fun q => by subst q; rw [LB] at e; cases e) (S.base b o e)
  refine kmk_min kf R.hd F0 N0 (fun h F N => hl.at fun o e => kb h (ext h F N) _ _ e) hne (fun i v hv h tk own F N => ?_) (fun i v h' tk hv hm F N => ?_)
  · obtain ⟨t, τ, rs, rfl, T⟩ := ht i v hv
    have x := ext h F fun p hp => N p (List.mem_append_left _ hp)
    refine (yCall (c_first (h := h) G (R.in1.less (by decide)) (T.keep (kb h x)))).use (s := { s with heap := h, toks := tk }) (kb h x) fun v' b' h2 tk2 p r => ?_
    obtain ⟨t2, rfl⟩ := p
    exact ⟨h2, tk2, t2, rfl, rfl, F.keeps r.up.h, N.grown r.up.h⟩
  · exact q i v h' tk hv hm (St.upd (pre := []) S (ext h' F N) F.ns)
theorem min_none {E : Value → Shared → Prop} {Q : Value → Shared → Prop} {l : Addr} (hA : A.handled = none) (hl : s.heap.IsList l #[]) (q : ∀ e h' tk, Heap.NewExc s.heap h' e "ValueError" → E (.ref e) { s with heap := h', toks := tk }) :
    wpAny (model PG w) A (call (.builtin "min") [.ref l] [(Str.ofString "key", .ref 315)]) Q E s := by
  have hname : (toString "min" ++ toString ".loop" : String) = "min.loop" := by decide
  refine kmk_tree PySem.F.kind_min PySem.F.plain_min PySem.F.entry_min (kmk_min_key _ _) ?_
  show wpAny _ A.in1 (Builtin.Builtins.bindParams "min" ["key", "default"] 0 ⟨[], [(Str.ofString "key", .ref 315)]⟩ >>= _) _ _ s
  refine wpAny_bind (wpAny_of_eq (show Builtin.Builtins.bindParams "min" ["key", "default"] 0 ⟨[], [(Str.ofString "key", .ref 315)]⟩ = pure [some (.ref 315), none] from rfl) ?_)
  refine wpAny_bind (wpAny_pure ?_)
  refine wpAny_bind (wpAny_pyIter_list hl ?_)
  have atI : (s.heap.push { cls := .type "list_iterator", data := .fields #[.ref l, .int 0 0] }).IsListIter s.heap.objs.size l 0 := ⟨_, Heap.get?_push_size _ rfl, rfl, rfl⟩
  have k1 := Keep.push s.heap { cls := .type "list_iterator", data := .fields #[.ref l, .int 0 0] }
  generalize s.heap.push { cls := .type "list_iterator", data := .fields #[.ref l, .int 0 0] } = h1 at atI k1
  refine wpAny_bind (wpAny_newList ?_ (Nat.zero_le _))
  rw [hname]
  have k2 := Keep.push h1 { cls := .type "list", data := .seq ([] : List Value).toArray }
  have gS : (h1.push { cls := .type "list", data := .seq ([] : List Value).toArray }).get? h1.objs.size = some { cls := .type "list", data := .seq ([] : List Value).toArray } := Heap.get?_push_size _ rfl
  refine wpAny_pure ⟨plainId_quiet PySem.F.plain_min_loop _, codeAny_builtin PySem.F.entry_min_loop ?_⟩
  rw [Around.under_plainId PySem.F.plain_min_loop _]
  show wpAny _ A.in1 (seqItems? (.ref _) >>= _) _ _ _
  refine wpAny_bind (wpAny_seqItems gS rfl ?_)
  show wpAny _ A.in1 (tryCatch (pyNext (.ref s.heap.objs.size)) _ >>= _) _ _ _
  refine wpAny_bind (wpAny_tryCatch (wpAny_pyNext_list_end hA (atI.at fun o e => k2 _ _ e) (hl.at fun o e => k2 _ _ (k1 _ _ e)) (by simp) fun h3 ex => ?_))
  refine wpAny_bind (wpAny_rule ?_)
  have kk : Keep s.heap h3 := fun b o e => ex b o (Nat.ne_of_lt (Heap.lt_size e)) (k2 _ _ (k1 _ _ e))
  have conv : ∀ h' e, Heap.NewExc h3 h' e "ValueError" → Heap.NewExc s.heap h' e "ValueError" := fun h' e N => ⟨fun b o x => N.keeps b o (kk b o x), keep_none kk N.new, N.there⟩
  first
    | exact wpAny_raiseErrorWords plainExc_ValueError hA fun h' tk e N => q e h' tk (conv h' e N)
    | exact wpAny_raiseErrorMade plainExc_ValueError hA (fun h' tk e N => q e h' tk (conv h' e N)) (by decide)
    | exact wpAny_raiseErrorMade plainExc_ValueError hA (fun h' tk e N => q e h' tk (conv h' e N)) (by rw [sizeLine_eq]; decide)
end
end Mine
end
noncomputable section
open PySem PySem.W PyProof.Rows PySem.Calls Builtin Builtin.ObjectAttr Builtin.Getset_descriptor
set_option Elab.async false
set_option maxRecDepth 100000
set_option linter.unusedVariables false
namespace Mine
theorem St.thaw {h0 hb0 hb h : Heap} {O : List (Addr × Own)} {a : Addr} {o : Own} (S : St h0 hb0 hb O h) (at_ : o.At hb a) (n0 : h0.get? a = none) (nb : hb0.get? a = none) :
    ∃ hb', St h0 hb0 hb' ((a, o) :: O) h ∧ (∀ b ob, b ≠ a → hb.get? b = some ob → hb'.get? b = some ob) ∧ Keep hb' hb := by
  obtain ⟨hb', e⟩ := Heap.part hb fun b => !(b == a)
  have k : ∀ b ob, b ≠ a → hb.get? b = some ob → hb'.get? b = some ob := fun b ob n x => by rw [e, if_pos (by simpa using n)]; exact x
  have k' : Keep hb' hb := fun b ob x => by
    rw [e] at x; split at x
    · exact x
    · cases x
  have na : hb'.get? a = none := by rw [e, if_neg (by simp)]
  refine ⟨hb', ⟨⟨⟨fun b ob x => k b ob (fun q => by subst q; rw [nb] at x; cases x) (S.res.up.b _ _ x), S.keep, k'.trans S.base⟩, fun b ob x n => ?_⟩, fun p m => ?_, ?_⟩, k, k'⟩
  · exact keep_none k' (S.res.new b ob x n)
  · rcases List.mem_cons.mp m with rfl | m
    · exact ⟨at_.keep S.base, na, n0⟩
    · exact ⟨(S.own p m).1, keep_none k' (S.own p m).2.1, (S.own p m).2.2⟩
  · refine List.nodup_cons.mpr ⟨fun m => ?_, S.nd⟩
    obtain ⟨p, hp, q⟩ := List.mem_map.mp m
    obtain ⟨ob, x⟩ := at_.some
    have := (S.own p hp).2.1
    rw [show p.1 = a from q, x] at this; cases this
section
variable {w : World} {A : Around} {hb0 h0 hb h : Heap} {env : Env} {O : List (Addr × Own)} {s : Shared} {L : Addr} {m : Str → Option Value} {pos : Pos}
theorem yIsNil : Y w A hb h (spliced (backTo pos (starEach [] env))) (Is ([] : List Value)) := yArgs_nil fun _ _ => rfl
theorem yIsCons {e : Expr} {rest : List Expr} {v : Value} {vs : List Value} (y : Y w A hb h (eval e env) (Is v)) (z : Y w A hb h (spliced (backTo pos (starEach rest env))) (Is vs))
    (he : starEach (e :: rest) env = (false, eval e env) :: starEach rest env := by rfl) : Y w A hb h (spliced (backTo pos (starEach (e :: rest) env))) (Is (v :: vs)) :=
  yArgs_cons y (fun v' b1 h1 u p => (z.keep u).mono fun vs' b' _ q => by cases p; cases q; rfl) he
theorem yMethIs {o : Expr} {name : Str} {apos : Pos} {pl : Sem Bool} {x C₀ f : Addr} {mx : Str → Option Value} {e : Expr} {r : List Expr} {vs : List Value} {P : Value → Heap → Prop} (G : Glob w hb) (yo : Y w A hb h (eval o env) (Is (.ref x))) (I : Inst h x C₀ mx) (M : Mth w C₀ name f) (hm : mx name = none)
    (hk : keepIn (KK w) (.ref f) = true) (ya : Y w A hb h (spliced (backTo pos (starEach (e :: r) env))) (Is vs)) (z : ∀ b1 h1, Up hb h b1 h1 → C w A b1 h1 (.ref f) (.ref x :: vs) [] P)
    (he : starEach (e :: r) env = (false, eval e env) :: starEach r env := by rfl) (hplain : ((backTo pos (starEach (e :: r) env)).any (·.1) || (backToKw pos (keywordEach [] env)).any (·.1.isNone)) = false := by rfl)
    (ht : eval (.Call (.Attribute o name apos) (e :: r) [] pos) env = (do
      let ov ← eval o env
      PySem.standAt apos.atName
      let (f, first) ← PySem.holding [ov] (getMethod ov name pl)
      callWith pos f first (backTo pos (starEach (e :: r) env)) (backToKw pos (keywordEach [] env))) := by rfl) :
    Y w A hb h (eval (.Call (.Attribute o name apos) (e :: r) [] pos) env) P :=
  yCallMeth yo (yMethod G I M hm) (kept_K G hk) ya (fun vs' b1 h1 u e => by cases e; exact yCall (z b1 h1 u)) he hplain ht
theorem yIsNotNone {o : Option Int} {v : Value} (p : IsO o v hb) : Y w A hb h (compareOp .IsNot v .none) (Is (.bool o.isSome)) :=
  yTok fun s Q E kb kh q => by
    cases o with
    | none => cases (show v = .none from p); exact PyProof.Rows.isnot_none_none (q _ s.toks fun _ _ => rfl)
    | some i => obtain ⟨t, rfl⟩ := p; exact PyProof.Rows.isnot_int_none (q _ s.toks fun _ _ => rfl)
theorem yTruthyList {l : Addr} {xs : Array Value} (hl : h.IsList l xs) (hz : (xs.size : Int) < 2 ^ 63) : Y w A hb h (truthy (.ref l)) (Is (!xs.isEmpty)) :=
  yTok fun s Q E kb kh q => wpAny_truthy_list (hl.at fun o e => kh _ _ e) hz (q _ _ fun _ _ => rfl)
theorem yAddLists {l1 l2 : Addr} {xs ys : List Value} (h1 : h.PlainList l1 xs.toArray) (h2 : h.PlainList l2 ys.toArray) (hz : xs.length + ys.length ≤ 10000) : Y w A hb h (binaryOp .Add (.ref l1) (.ref l2)) (fun v b => ∃ D, v = .ref D ∧ b.PlainList D (xs ++ ys).toArray ∧ hb.get? D = none) :=
  yNew fun s b Q E kb ki kh q => by
    obtain ⟨n1, e1⟩ := h1
    obtain ⟨n2, e2⟩ := h2
    refine PySem.P.add_list (kh _ _ e1) (kh _ _ e2) (q _ _ s.toks (fun b' k n => ⟨_, rfl, ⟨0, ?_⟩, keep_none (kb.trans ki) (fresh_size _)⟩) (Keep.push _ _)) (by rw [sizeLine_eq]; simp; lia)
    have e : xs.toArray ++ ys.toArray = (xs ++ ys).toArray := by simp
    rw [← e]
    exact n _ _ (fresh_size _) (Heap.get?_push_size _ rfl)
theorem wpCall1 {id : Str} {p : Pos} {f v : Value} {e : Expr} {Q : Value → Shared → Prop} {E : Value → Shared → Prop} (S : St h0 hb0 hb O s.heap) (yf : Y w A hb s.heap (eval (.Name id p) env) (Is f)) (hk : Kept w hb f) (y : ∀ b' h', Up hb s.heap b' h' → Y w A b' h' (eval e env) (Is v))
    (k : ∀ b' h' tk, St h0 hb0 b' O h' → Keep hb b' → wpAny (model PG w) A (call f [v] []) Q E { s with heap := h', toks := tk })
    (he : starEach [e] env = (false, eval e env) :: starEach [] env := by rfl) (hplain : ((backTo pos (starEach [e] env)).any (·.1) || (backToKw pos (keywordEach [] env)).any (·.1.isNone)) = false := by rfl) :
    wpAny (model PG w) A (eval (.Call (.Name id p) [e] [] pos) env) Q E s := by
  rw [arm_eval_Call_Name']
  refine wpAny_bind (yf.use S.base fun f' b1 h1 tk1 e1 r1 => ?_)
  cases e1
  have S1 := S.up r1
  refine callWith_of (P := fun h' => Keep b1 h') hplain (fun h' kk => hk h' (r1.up.b.trans kk)) ((yEvalArgs (R := fun vs _ => vs = [v]) (yArgs_cons (y b1 h1 r1.up) (fun v' b h u e => yArgs_nil fun _ _ => by cases e; rfl) he) he).use S1.base fun a b2 h2 tk2 p2 r2 => ?_)
  obtain ⟨ek, ep⟩ := p2
  have S2 := S1.up r2
  refine ⟨r2.up.b.trans S2.base, ?_⟩
  rw [ek, ep]
  exact k b2 h2 tk2 S2 (r1.up.b.trans r2.up.b)
end
end Mine
end
noncomputable section
open PySem PySem.W PyProof.Rows PySem.Calls Builtin Builtin.ObjectAttr Builtin.Getset_descriptor
set_option Elab.async false
set_option maxRecDepth 100000
set_option linter.unusedVariables false
namespace Mine
theorem codeAt_345 {w : World} {h : Heap} (G : Glob w h) : CodeAt h 345 341 := ⟨_, _, _, _, _, _, _, _, _, G.K _ _ (by rfl), rfl, rfl, rfl, rfl, rfl, rfl, rfl, rfl⟩
theorem codeAt_406 {w : World} {h : Heap} (G : Glob w h) : CodeAt h 406 402 := ⟨_, _, _, _, _, _, _, _, _, G.K _ _ (by rfl), rfl, rfl, rfl, rfl, rfl, rfl, rfl, rfl⟩
def selFn (way : Nat) : Addr := match way with
  | 0 => 407
  | _ => 346
structure PkW (w : World) (C : Addr) (way : Nat) : Prop extends Pk w C where
  fitm : Mth w C "_rect_fitness" (fitFn way)
  selm : Mth w C "_select_position" (selFn way)
theorem pkw0 (w) : PkW w 410 0 := ⟨pk_bl w, by constructor <;> kernel_rfl, by constructor <;> kernel_rfl⟩
theorem pkw1 (w) : PkW w 429 1 := ⟨pk_bssf w, by constructor <;> kernel_rfl, by constructor <;> kernel_rfl⟩
theorem pkw2 (w) : PkW w 448 2 := ⟨pk_baf w, by constructor <;> kernel_rfl, by constructor <;> kernel_rfl⟩
theorem pkw3 (w) : PkW w 467 3 := ⟨pk_blsf w, by constructor <;> kernel_rfl, by constructor <;> kernel_rfl⟩
theorem keepFit (w) (way : Nat) : keepIn (KK w) (.ref (fitFn way)) = true := by
  match way with
  | 0 => kernel_rfl
  | 1 => kernel_rfl
  | 2 => kernel_rfl
  | (n + 3) => kernel_rfl

structure Cand where
  k : Int
  a : Int
  b : Int
  r : R4
def key (way : Nat) (r : R4) (a b : Int) : Int := if way = 0 then r.y + b else val way r a b
def candsOf (way : Nat) (rs : List R4) (a b : Int) : List Cand := (rs.filter fun r => r.fits a b).map fun r => ⟨key way r a b, a, b, r⟩
def cands (way : Nat) (rot : Bool) (rs : List R4) (a b : Int) : List Cand := candsOf way rs a b ++ if rot then candsOf way rs b a else []

inductive Cand4 (b : Heap) (v : Value) (c : Cand) : Prop
  | mk (t : Addr) (τ ua ub : Tok) (am : Addr) (e : v = .ref t) (T : Tp b t [.int c.k τ, .int c.a ua, .int c.b ub, .ref am]) (I : IsRect b am c.r)
theorem Cand4.keep {b b' : Heap} {v : Value} {c : Cand} (k : Keep b b') : Cand4 b v c → Cand4 b' v c := fun ⟨t, τ, ua, ub, am, e, T, I⟩ => ⟨t, τ, ua, ub, am, e, T.keep k, I.keep k⟩
theorem filter_range {α : Type} (d : α) (p : α → Bool) (l : List α) : ((List.range l.length).filter fun i => p (l.getD i d)).map (fun i => l.getD i d) = l.filter p := by
  have e : (List.range l.length).map (fun i => l.getD i d) = l := by
    apply List.ext_getElem
    · simp
    · intro i h1 h2
      simp [List.getD_eq_getElem?_getD]
      have : i < l.length := h2
      simp [this]
  conv => rhs; rw [← e]
  rw [List.filter_map]
  rfl
section
variable {w : World} {A : Around} {hb0 h0 hb h : Heap} {env : Env} {O : List (Addr × Own)} {s : Shared} {L : Addr} {m : Str → Option Value} {pos : Pos}
theorem yRectFit {C p a : Addr} {mp : Str → Option Value} {way : Nat} {r : R4} {x y : Int} {tx ty : Tok} {o e1 e2 e3 : Expr} {apos : Pos} {pl : Sem Bool} (hway : way < 4) (G : Glob w hb) (R : Rm 2 A) (K : PkW w C way) (I : Inst h p C mp) (hm : mp "_rect_fitness" = none) (J : IsRect h a r)
    (m1 : IntMulOk r.w r.h) (m2 : IntMulOk x y) (yo : Y w A hb h (eval o env) (Is (.ref p))) (y1 : Y w A hb h (eval e1 env) (Is (.ref a))) (y2 : Y w A hb h (eval e2 env) (Is (.int x tx))) (y3 : Y w A hb h (eval e3 env) (Is (.int y ty)))
    (he1 : starEach [e1, e2, e3] env = (false, eval e1 env) :: starEach [e2, e3] env := by rfl) (he2 : starEach [e2, e3] env = (false, eval e2 env) :: starEach [e3] env := by rfl) (he3 : starEach [e3] env = (false, eval e3 env) :: starEach [] env := by rfl)
    (hplain : ((backTo pos (starEach [e1, e2, e3] env)).any (·.1) || (backToKw pos (keywordEach [] env)).any (·.1.isNone)) = false := by rfl)
    (ht : eval (.Call (.Attribute o "_rect_fitness" apos) [e1, e2, e3] [] pos) env = (do
      let ov ← eval o env
      PySem.standAt apos.atName
      let (f, first) ← PySem.holding [ov] (getMethod ov "_rect_fitness" pl)
      callWith pos f first (backTo pos (starEach [e1, e2, e3] env)) (backToKw pos (keywordEach [] env))) := by rfl) :
    Y w A hb h (eval (.Call (.Attribute o "_rect_fitness" apos) [e1, e2, e3] [] pos) env) (IsO (fitW way r x y)) :=
  yMethIs G yo I K.fitm hm (keepFit w way) (yIsCons y1 (yIsCons y2 (yIsCons y3 yIsNil he3) he2) he1) (fun b1 h1 u => c_fit way hway (G.keep u.b) (R.less (by decide)) (J.keep u.h) m1 m2) he1 hplain ht
end
def Odd (h : Heap) (x : Addr) : Prop := ∃ ob, h.get? x = some ob ∧ ((∃ v, ob.data = .cell v) ∨ ∃ es ep, ob.data = .dict es ep ∧ nsFind es "x" = none)
def Off (x : Addr) (h h' : Heap) : Prop := ∀ b ob, b ≠ x → h.get? b = some ob → h'.get? b = some ob
theorem Odd.ne_seq {h : Heap} {x t : Addr} {ob : Obj} {xs : Array Value} {n : Nat} (o : Odd h x) (e : h.get? t = some ob) (d : ob.data = .seq xs n) : t ≠ x := fun q => by
  obtain ⟨ob', e', r⟩ := o
  rw [← q, e] at e'
  cases e'
  rcases r with ⟨v, r⟩ | ⟨es, ep, r, _⟩ <;> (rw [d] at r; cases r)
theorem Tp.off {h h' : Heap} {x t : Addr} {vs : List Value} (T : Tp h t vs) (o : Odd h x) (k : Off x h h') : Tp h' t vs := k t _ (o.ne_seq T rfl) T
theorem plain_off {h h' : Heap} {x t : Addr} {xs : Array Value} (T : h.PlainList t xs) (o : Odd h x) (k : Off x h h') : h'.PlainList t xs := let ⟨n, e⟩ := T; ⟨n, k t _ (o.ne_seq e rfl) e⟩
theorem IsRect.off {h h' : Heap} {x a : Addr} {r : R4} (I : IsRect h a r) (o : Odd h x) (k : Off x h h') : IsRect h' a r := by
  obtain ⟨m, ⟨dx, i⟩, M⟩ := I
  obtain ⟨ob', e', rr⟩ := o
  have n1 : a ≠ x := fun q => by
    rw [← q, i.obj] at e'
    cases e'
    rcases rr with ⟨v, r⟩ | ⟨es, ep, r, _⟩ <;> cases r
  have n2 : dx ≠ x := fun q => by
    obtain ⟨es, ep, b1, b2, b3, _⟩ := i.dict
    rw [← q, b1] at e'
    cases e'
    rcases rr with ⟨v, r⟩ | ⟨es', ep', r, nx⟩
    · cases r
    · cases r
      obtain ⟨t, e⟩ := M.x
      rw [← b3, nx] at e
      cases e
  exact ⟨m, ⟨dx, k _ _ n1 i.obj, let ⟨es, ep, b1, c⟩ := i.dict; ⟨es, ep, k _ _ n2 b1, c⟩⟩, M⟩
theorem Cand4.off {h h' : Heap} {x : Addr} {v : Value} {c : Cand} (o : Odd h x) (k : Off x h h') : Cand4 h v c → Cand4 h' v c := fun ⟨t, τ, ua, ub, am, e, T, I⟩ => ⟨t, τ, ua, ub, am, e, T.off o k, I.off o k⟩
theorem odd_cell {h : Heap} {x : Addr} {v : Option Value} (c : h.IsCell x v) : Odd h x := let ⟨ob, e, r⟩ := c; ⟨ob, e, .inl ⟨v, r⟩⟩
theorem odd_idc {h : Heap} {x : Addr} {m : Str → Option Value} {n : Nat} (c : (Own.idc m n).At h x) (hx : m "x" = none) : Odd h x := let ⟨es, ep, e, _, r, _⟩ := c; ⟨_, e, .inr ⟨es, ep, rfl, (r _).trans hx⟩⟩
theorem Own.At.off {h h' : Heap} {x a : Addr} {o : Own} (at_ : o.At h a) (n : a ≠ x) (k : Off x h h') : o.At h' a := at_.at fun ob e => k a ob n e
section
variable {w : World} {A : Around} {hb0 h0 hb : Heap} {env : Env} {O pre post : List (Addr × Own)} {s : Shared}
theorem aCell {x : Str} {xp : Pos} {v : Value} {c : Addr} {v0 : Option Value} {Q : Unit → Shared → Prop} {E : Value → Shared → Prop} (S : St h0 hb0 hb (pre ++ (c, .cel v0) :: post) s.heap)
    (k : ∀ h' tk, St h0 hb0 hb (pre ++ (c, .cel (some v)) :: post) h' → Q () { s with heap := h', toks := tk })
    (hc : env.cells.lookup x = some c := by rfl) (hk : env.scope.kind = .function := by rfl) (hl : env.kindOf x = some .cell := by rfl) : wpAny (model PG w) A (assign (.Name x xp) env v) Q E s :=
  wpAny_assign_Name (wpAny_storeName_cell hk hl hc (S.mem (p := (c, .cel v0)) (by simp)) fun h2 hn sb => k h2 s.toks (St.upd S (Ext.of_same sb) hn))
end
end Mine
end
noncomputable section
open PySem PySem.W PyProof.Rows PySem.Calls Builtin Builtin.ObjectAttr Builtin.Getset_descriptor
set_option Elab.async false
set_option maxRecDepth 100000
set_option linter.unusedVariables false
namespace Mine
theorem wIfJ {w : World} {A : Around} {hb0 h0 hb : Heap} {env : Env} {O : List (Addr × Own)} {rest : List Stmt} {pos : Pos} {s : Shared} {Q : Flow → Shared → Prop} {E : Value → Shared → Prop} {test : Expr} {body orelse : List Stmt} {b : Bool} {post : Shared → Prop} (S : St h0 hb0 hb O s.heap) (y : Y w A hb s.heap (isTrue test env (eval test env)) (Is b))
    (z1 : b = true → ∀ b' h' tk, St h0 hb0 b' O h' → Keep hb b' → wpAny (model PG w) A (execs body env) (fun f s' => f = .next ∧ post s') E { s with heap := h', toks := tk })
    (z2 : b = false → ∀ b' h' tk, St h0 hb0 b' O h' → Keep hb b' → wpAny (model PG w) A (execs orelse env) (fun f s' => f = .next ∧ post s') E { s with heap := h', toks := tk })
    (z3 : ∀ s', post s' → wpAny (model PG w) A (execs rest env) Q E s') : wpAny (model PG w) A (execs (.If test body orelse pos :: rest) env) Q E s := by
  refine wIf S y (fun hb b' h' tk S' k => ?_) fun hb b' h' tk S' k => ?_
  · rw [execs_append]
    refine wpAny_bind (wpAny_mono (z1 hb b' h' tk S' k) (fun f s' p => ?_) fun _ _ e => e)
    obtain ⟨rfl, p⟩ := p
    exact z3 s' p
  · rw [execs_append]
    refine wpAny_bind (wpAny_mono (z2 hb b' h' tk S' k) (fun f s' p => ?_) fun _ _ e => e)
    obtain ⟨rfl, p⟩ := p
    exact z3 s' p
def CL (b : Heap) (vs : List Value) (cs : List Cand) : Prop := L2 (fun v c => Cand4 b v c) vs cs
theorem CL.keep {b b' : Heap} (k : Keep b b') {vs : List Value} {cs : List Cand} (x : CL b vs cs) : CL b' vs cs := L2.mono (fun _ _ x => x.keep k) x
theorem CL.append {b : Heap} {vs us : List Value} {cs ds : List Cand} (x : CL b vs cs) (y : CL b us ds) : CL b (vs ++ us) (cs ++ ds) := L2.append x y
theorem CL.at {b : Heap} {vs : List Value} {cs : List Cand} {i : Nat} {v : Value} (x : CL b vs cs) (e : vs[i]? = some v) : ∃ c, cs[i]? = some c ∧ Cand4 b v c :=
  let ⟨c, q, e'⟩ := L2.at x e; ⟨c, e', q⟩
theorem CL.length {b : Heap} {vs : List Value} {cs : List Cand} (x : CL b vs cs) : vs.length = cs.length := L2.length x
theorem CL.off {b b' : Heap} {x : Addr} (o : Odd b x) (k : Off x b b') {vs : List Value} {cs : List Cand} (y : CL b vs cs) : CL b' vs cs := L2.mono (fun _ _ p => p.off o k) y
theorem perm5 {α : Type} (a b c d e : α) (l : List α) : (a :: b :: c :: d :: e :: l).Perm (d :: b :: a :: e :: c :: l) :=
  (List.perm_middle (l₁ := [a, b, c]) (l₂ := e :: l)).trans (.cons _ ((List.Perm.swap b a _).trans (.cons _ (.cons _ (.swap e c _)))))
theorem FL.toCL {f : Nat → Cand} {b : Heap} {vs : List Value} {is : List Nat} (x : FL (fun i y b => Cand4 b y (f i)) b vs is) : CL b vs (is.map f) := L2.map x
theorem GenIs.move {w : World} {A : Around} {hb hF : Heap} {C I l : Addr} {n : Nat} {pz : Nat → Bool} {F : Nat → Value → Heap → Prop} {a g i : Nat} {s s' : Shared} (x : GenIs w A hb hF C I l n pz F a g i s) (h : s'.heap.IsGen a g) (e : s'.gens[g]? = s.gens[g]?) : GenIs w A hb hF C I l n pz F a g i s' :=
  ⟨h, let ⟨gs, q, r⟩ := x.go; ⟨gs, e.trans q, r⟩⟩
theorem cands_length (way : Nat) (rot : Bool) (rs : List R4) (a b : Int) (hz : rs.length ≤ 100) : (cands way rot rs a b).length ≤ 200 := by
  unfold cands candsOf
  have h1 := List.length_filter_le (fun r => R4.fits r a b) rs
  have h2 := List.length_filter_le (fun r => R4.fits r b a) rs
  cases rot
  · simp; lia
  · simp; lia
theorem yCallList {w : World} {A : Around} {hb h : Heap} {l : Addr} {xs : Array Value} (hl : h.IsList l xs) (hz : xs.size ≤ 1000) : Y w A hb h (call (.type "list") [.ref l]) (fun v b => ∃ D, v = .ref D ∧ b.PlainList D xs ∧ hb.get? D = none) :=
  yNew fun s b Q E kb ki kh q => by
    obtain ⟨o, ho, hc, n, hd⟩ := hl.at fun o e => kh _ _ e
    exact call_list_seq (hsz := by rw [sizeLine_eq]; lia) l (.inl rfl) ho hc hd fun h' c' hk hD => q _ _ s.toks (fun b' k n => ⟨_, rfl, ⟨c', n _ _ (fresh_size _) hD⟩, keep_none (kb.trans ki) (fresh_size _)⟩) hk
theorem bltn_ValueError : bootBuiltins "ValueError" = some (.type "ValueError") := by first | rfl | kernel_rfl
theorem isExc_ValueError : isSubtype (.type "ValueError") (.type "BaseException") = pure true := PySem.F.isExc_ValueError
theorem notTuple_ValueError : isSubtype (.type ((Manifest.find? "ValueError").elim "type" fun x => x.metatype)) (.type "tuple") = pure false := PySem.F.notTuple_ValueError
theorem sub_ValueError : isSubtype (.type "ValueError") (.type "ValueError") = pure true := by rw [isSubtype_type]; kernel_rfl
inductive SelRes (hb : Heap) (cs : List Cand) (v : Value) (b : Heap) : Prop
  | mk (t : Addr) (u1 u2 : Value) (e : v = .ref t) (T : Tp b t [u1, u2]) (r : ((cs = [] ∧ u1 = .none ∧ u2 = .none) ∨ ∃ (i : Nat) (c : Cand) (rect dx : Addr) (mm : Str → Option Value) (am : Addr), cs[i]? = some c ∧ (∀ (j : Nat) (c' : Cand), cs[j]? = some c' → c.k ≤ c'.k) ∧ u1 = .ref rect ∧ NewRect hb b rect dx mm ⟨c.r.x, c.r.y, c.a, c.b⟩ ∧ u2 = .ref am ∧ IsRect b am c.r))
section
variable {w : World} {A : Around} {hb0 h0 hb h : Heap} {env : Env} {O : List (Addr × Own)} {s : Shared} {L : Addr} {m : Str → Option Value} {pos : Pos}
theorem m_selB {C p dp l rl : Addr} {mp : Str → Option Value} {n : Nat} {vs : List Value} {rs : List R4} {rot : Bool} {wd ht a b : Int} {ta tb : Tok} {way : Nat} {Rr : Result → Shared → Prop} {outer : List Env} (hway : way < 4) (hw0 : way ≠ 0)
    (S : St h0 hb0 hb ((341, .tab) :: (dp, .idc mp n) :: O) s.heap) (G : Glob w hb) (R : Rm 12 A) (K : PkW w C way) (hfr : A.frames = some outer) (Fs : Frames outer O)
    (ho : hb.get? p = some (instObj C dp)) (hn : n ≤ 50) (P : PMap mp l rl rot wd ht) (hl : hb.PlainList l vs.toArray) (hr : Rects hb vs rs) (hz : rs.length ≤ 100) (hm : ∀ r ∈ rs, IntMulOk r.w r.h ∧ 0 ≤ r.w ∧ 0 ≤ r.h) (hab : IntMulOk a b ∧ IntMulOk b a) (ha : 0 ≤ a) (hbp : 0 ≤ b)
    (k : ∀ v b' h' tk gs, St h0 hb0 b' ((341, .tab) :: (dp, .idc mp n) :: O) h' → Keep hb b' → SelRes hb (cands way rot rs a b) v b' → (AllBare s.gens → AllBare gs) → Rr (.ok (.ret v)) { s with heap := h', toks := tk, gens := gs }) :
    codeAny (model PG w) A (.call (.ref 346) ⟨[.ref p, .int a ta, .int b tb], []⟩) Rr s := by
  refine callMC (binds := [("self", .ref p), ("w", .int a ta), ("h", .int b tb)]) S G R (by rfl) (by kernel_rfl) rfl (by intro x hx; simp at hx; rcases hx with rfl | rfl | rfl <;> (right; exact ⟨by rfl, by rfl⟩)) (by decide) fun h1 tk1 L R1 S k1 E => ?_
  have S : St h0 hb0 hb ((L, .ns fun _ => none) :: (L + 1 + 1 + 1, .cel (some (.int b tb))) :: (L + 1 + 1, .cel (some (.int a ta))) :: (L + 1, .cel (some (.ref p))) :: (341, .tab) :: (dp, .idc mp n) :: O) h1 := S
  refine wpAny_mono (E := fun _ _ => False) ?_ (fun _ _ x => x) fun _ _ f => f.elim
  obtain ⟨c1, S1, kc1, at1⟩ := St.freeze (pre := [_]) S
  obtain ⟨c2, S2, kc2, at2⟩ := St.freeze (pre := [_]) S1
  obtain ⟨c3, S3, kc3, at3⟩ := St.freeze (pre := [_]) S2
  obtain ⟨c4, S4, kc4, at4⟩ := St.freeze (pre := [_, _]) S3
  have S4 : St h0 hb0 c4 ((L, .ns fun _ => none) :: (341, .tab) :: O) h1 := S4
  have kc : Keep hb c4 := kc1.trans (kc2.trans (kc3.trans kc4))
  have Ch : c4.IsCell (L + 1 + 1 + 1) (some (.int b tb)) := Heap.IsCell.keeps (Heap.IsCell.keeps (Heap.IsCell.keeps at1 kc2) kc3) kc4
  have Cw : c4.IsCell (L + 1 + 1) (some (.int a ta)) := Heap.IsCell.keeps (Heap.IsCell.keeps at2 kc3) kc4
  have Cs : c4.IsCell (L + 1) (some (.ref p)) := Heap.IsCell.keeps at3 kc4
  have Ip : Inst c4 p C mp := ⟨dp, kc _ _ ho, let ⟨es, ep, a1, a2, a3, a4⟩ := at4; ⟨es, ep, a1, a2, a3, by lia⟩⟩
  have Gc := G.keep kc
  have hlc : c4.IsList l vs.toArray := hl.isList.at fun o e => kc _ _ e
  have hrc : Rects c4 vs rs := hr.keep kc
  have hlen := hr.length
  refine wIf (b := rs.isEmpty) S4 ?_ (fun hb' c5 h5 tk5 S5 k5 => ?_) fun hb' c5 h5 tk5 S5 k5 => ?_
  · refine yEq (yTestNot (b := !vs.toArray.isEmpty) (yTest_value (yGetField Gc (yCell (Cs.keeps S4.base)) (Ip.keep S4.base) K.fmr P.mr rfl) fun v b1 h2 u e => ?_)) ?_
    · cases e
      exact yTruthyList (hlc.at fun o e => u.h _ _ (S4.base _ _ e)) (by simp; lia)
    · rw [Bool.not_not]
      cases vs <;> cases rs <;> simp_all
  · have hnil : rs = [] := by cases rs <;> simp_all
    have hcn : cands way rot rs a b = [] := by subst hnil; cases rot <;> rfl
    refine wRet S5 (P := ValT fun vs _ => vs = [.none, .none]) (yTup (yArgs_cons yNone fun v b1 h1 u e => yArgs_cons yNone fun v2 b2 h2 u2 e2 => yArgs_nil fun _ _ => by cases e; cases e2; rfl) (by rintro _ _ rfl; decide)) fun v c6 h6 tk6 e S6 k6 => ?_
    obtain ⟨t, _, b0, rfl, T, _, rfl⟩ := e
    obtain ⟨c7, S7, ex7, k7⟩ := S6.thaw (a := dp) (o := .idc mp n) (Own.At.keep at4 (k5.trans k6)) (S.own (dp, _) (.tail _ (.tail _ mem3))).2.2 (keep_none S.res.up.b (S.own (dp, _) (.tail _ (.tail _ mem3))).2.1)
    have tdp : t ≠ dp := fun q => by obtain ⟨es, ep, e, _⟩ := Own.At.keep at4 (k5.trans k6); rw [← q, T] at e; simp at e
    have S8 : St h0 hb0 c7 ((341, .tab) :: (dp, .idc mp n) :: O) h6 := (S7.sub (.cons₂ _ (.cons _ (.refl _)))).perm (.swap _ _ _)
    refine k (.ref t) c7 h6 tk6 s.gens S8 (fun x ob e => ex7 x ob (fun q => ?_) ((kc.trans (k5.trans k6)) x ob e)) ⟨t, .none, .none, rfl, ex7 t _ tdp T, .inl ⟨hcn, rfl, rfl⟩⟩ id
    subst q; rw [(S.own (x, _) (.tail _ (.tail _ mem3))).2.1] at e; cases e
  · have k45 : Keep c4 c5 := k5
    have vget : ∀ (i : Nat) (u : Value), vs.toArray[i]? = some u → ∃ am, u = .ref am ∧ i < rs.length ∧ IsRect c5 am (rs.getD i z4) := fun i u hu => by
      have hi : i < rs.length := by have := (Array.getElem?_eq_some_iff.mp hu).1; simp at this; lia
      obtain ⟨am, e, I⟩ := (hrc.keep k45).get hi
      rw [List.getElem?_toArray, e] at hu
      cases hu
      exact ⟨am, rfl, hi, I⟩
    have hmi : ∀ i, i < rs.length → IntMulOk (rs.getD i z4).w (rs.getD i z4).h := fun i hi => by
      have : rs.getD i z4 ∈ rs := by rw [List.getD_eq_getElem?_getD, List.getElem?_eq_getElem hi]; exact List.getElem_mem hi
      exact (hm _ this).1
    have some_fits : ∀ r x y, (fitW way r x y).isSome = r.fits x y := fun r x y => by unfold fitW; split <;> simp_all
    have keyv : ∀ r x y, key way r x y = val way r x y := fun r x y => by unfold key; rw [if_neg hw0]
    refine wLetGen (r := 4) (l := l) (xs := vs.toArray) (fun i => (rs.getD i z4).fits a b) (fun i y b' => Cand4 b' y ⟨key way (rs.getD i z4) a b, a, b, rs.getD i z4⟩) (fun i y b b' k => Cand4.keep k) S5 (Gc.keep k5) R1.hd R1.room (codeAt_345 (Gc.keep k5)) (yGetField (Gc.keep k5) (yCell (Cs.keeps (k5.trans S5.base))) (Ip.keep (k5.trans S5.base)) K.fmr P.mr rfl) (hlc.at fun o e => k5 _ _ e)
      (fun b' kb A' RA C' code i u h' mm hu hns hv kh => ?_) (fun b' kb A' RA C' code i u h' mm hp hu hns hv kh => ?_) fun g1 D1 I1 m1 c6 h6 tk6 gs1 S6 k6 ga1 bare1 Gi1 => ?_
    · obtain ⟨am, rfl, hi, I⟩ := vget i u hu
      have kk : Keep c4 h' := k45.trans (kb.trans kh)
      refine yEq (yTests1 (yTestCompare (yCompare (P1 := IsO (fitW way (rs.getD i z4) a b)) (P2 := Is .none) (yRectFit hway (Gc.keep (k45.trans kb)) (RA.less (by decide)) K (Ip.keep kk) (P.no _ (by decide)) (I.keep (kb.trans kh)) (hmi i hi) hab.1 (yFree (Cs.keeps kk)) (yName hns hv) (yFree (Cw.keeps kk)) (yFree (Ch.keeps kk))) (fun _ _ _ _ _ => yNone) fun v1 v2 b1 h1 b2 h2 u1 u2 e1 e2 => ?_))) (some_fits _ _ _)
      cases e2
      exact yIsNotNone e1
    · obtain ⟨am, rfl, hi, I⟩ := vget i u hu
      have kk : Keep c4 h' := k45.trans (kb.trans kh)
      refine (yTup (R := fun vs _ => ∃ τ, vs = [.int (val way (rs.getD i z4) a b) τ, .int a ta, .int b tb, .ref am]) (yArgs_cons (P1 := IsO (fitW way (rs.getD i z4) a b)) (yRectFit hway (Gc.keep (k45.trans kb)) (RA.less (by decide)) K (Ip.keep kk) (P.no _ (by decide)) (I.keep (kb.trans kh)) (hmi i hi) hab.1 (yFree (Cs.keeps kk)) (yName hns hv) (yFree (Cw.keeps kk)) (yFree (Ch.keeps kk))) fun v b1 h1 u e => ?_) ?_).mono fun y b2 k2 e => ?_
      · refine (yIsCons (yFree (Cw.keeps (kk.trans u.h))) (yIsCons (yFree (Ch.keeps (kk.trans u.h))) (yIsCons (yName (hns.keeps u.h) hv) yIsNil))).mono fun vs' _ _ e' => ?_
        cases e'
        unfold fitW at e; rw [if_pos hp] at e
        obtain ⟨τ, rfl⟩ := e
        exact ⟨τ, rfl⟩
      · rintro _ _ ⟨τ, rfl⟩; simp
      · obtain ⟨t, _, b0, rfl, T, _, τ, rfl⟩ := e
        exact ⟨t, τ, ta, tb, am, rfl, by rw [keyv]; exact T, I.keep (kb.trans k2)⟩
    · have k46 := k45.trans k6
      have vget6 : ∀ (i : Nat) (u : Value), vs.toArray[i]? = some u → ∃ am, u = .ref am ∧ i < rs.length ∧ IsRect c6 am (rs.getD i z4) := fun i u hu => by
        obtain ⟨am, e, hi, I⟩ := vget i u hu
        exact ⟨am, e, hi, I.keep k6⟩
      refine wLetGen (r := 4) (l := l) (xs := vs.toArray) (fun i => (rs.getD i z4).fits b a) (fun i y b' => Cand4 b' y ⟨key way (rs.getD i z4) b a, b, a, rs.getD i z4⟩) (fun i y b b' k => Cand4.keep k) S6 (Gc.keep k46) R1.hd R1.room (codeAt_345 (Gc.keep k46)) (yGetField (Gc.keep k46) (yCell (Cs.keeps (k46.trans S6.base))) (Ip.keep (k46.trans S6.base)) K.fmr P.mr rfl) (hlc.at fun o e => k46 _ _ e)
        (fun b' kb A' RA C' code i u h' mm hu hns hv kh => ?_) (fun b' kb A' RA C' code i u h' mm hp hu hns hv kh => ?_) fun g2 D2 I2 m2 c7 h7 tk7 gs2 S7 k7 ga2 bare2 Gi2 => ?_
      · obtain ⟨am, rfl, hi, I⟩ := vget6 i u hu
        have kk : Keep c4 h' := k46.trans (kb.trans kh)
        refine yEq (yTests1 (yTestCompare (yCompare (P1 := IsO (fitW way (rs.getD i z4) b a)) (P2 := Is .none) (yRectFit hway (Gc.keep (k46.trans kb)) (RA.less (by decide)) K (Ip.keep kk) (P.no _ (by decide)) (I.keep (kb.trans kh)) (hmi i hi) hab.2 (yFree (Cs.keeps kk)) (yName hns hv) (yFree (Ch.keeps kk)) (yFree (Cw.keeps kk))) (fun _ _ _ _ _ => yNone) fun v1 v2 b1 h1 b2 h2 u1 u2 e1 e2 => ?_))) (some_fits _ _ _)
        cases e2
        exact yIsNotNone e1
      · obtain ⟨am, rfl, hi, I⟩ := vget6 i u hu
        have kk : Keep c4 h' := k46.trans (kb.trans kh)
        refine (yTup (R := fun vs _ => ∃ τ, vs = [.int (val way (rs.getD i z4) b a) τ, .int b tb, .int a ta, .ref am]) (yArgs_cons (P1 := IsO (fitW way (rs.getD i z4) b a)) (yRectFit hway (Gc.keep (k46.trans kb)) (RA.less (by decide)) K (Ip.keep kk) (P.no _ (by decide)) (I.keep (kb.trans kh)) (hmi i hi) hab.2 (yFree (Cs.keeps kk)) (yName hns hv) (yFree (Ch.keeps kk)) (yFree (Cw.keeps kk))) fun v b1 h1 u e => ?_) ?_).mono fun y b2 k2 e => ?_
        · refine (yIsCons (yFree (Ch.keeps (kk.trans u.h))) (yIsCons (yFree (Cw.keeps (kk.trans u.h))) (yIsCons (yName (hns.keeps u.h) hv) yIsNil))).mono fun vs' _ _ e' => ?_
          cases e'
          unfold fitW at e; rw [if_pos hp] at e
          obtain ⟨τ, rfl⟩ := e
          exact ⟨τ, rfl⟩
        · rintro _ _ ⟨τ, rfl⟩; simp
        · obtain ⟨t, _, b0, rfl, T, _, τ, rfl⟩ := e
          exact ⟨t, τ, tb, ta, am, rfl, by rw [keyv]; exact T, I.keep (kb.trans k2)⟩
      · have k47 := k46.trans k7
        refine wIfJ (b := !rot) (post := fun s' => ∃ mm d h' tk x, s' = { s with heap := h', toks := tk, gens := (s.gens.push gs1).push gs2 } ∧ St h0 hb0 d ((L, .ns mm) :: (341, .tab) :: (D2, .ns m2) :: (I2, .itr l 0) :: (D1, .ns m1) :: (I1, .itr l 0) :: O) h' ∧ Keep c7 d ∧
            mm "fitn" = some (.ref g1) ∧ mm "fitr" = some (.ref x) ∧ ((rot = true ∧ x = g2) ∨ (rot = false ∧ d.PlainList x #[]))) S7 (yTestNot (yTest_bool (yGetField (Gc.keep k47) (yCell (Cs.keeps (k47.trans S7.base))) (Ip.keep (k47.trans S7.base)) K.frot P.rot rfl))) (fun hrot c8 h8 tk8 S8 k8 => ?_) (fun hrot c8 h8 tk8 S8 k8 => ?_) ?_
        · have hrot : rot = false := by cases rot <;> simp_all
          refine absQ fun QJ kQJ => ?_
          refine wLet S8 (P1 := ValL c8 fun vs _ => vs = []) (yLst (R := fun vs _ => vs = []) (yArgs_nil fun _ _ => rfl) (by rintro _ _ rfl; decide)) fun v c9 h9 tk9 e S9 k9 => ?_
          obtain ⟨D0, _, b0, rfl, pl0, _, rfl, _⟩ := e
          exact wNil (kQJ _ _ ⟨rfl, _, c9, h9, tk9, D0, rfl, S9, k8.trans k9, rfl, rfl, .inr ⟨hrot, pl0⟩⟩)
        · have hrot : rot = true := by cases rot <;> simp_all
          exact wNil ⟨rfl, _, c8, h8, tk8, g2, rfl, S8, k8, rfl, rfl, .inl ⟨hrot, rfl⟩⟩
        · rintro _ ⟨mm, d, h8, tk8, x, rfl, S8, k8, n1, n2, hx⟩
          have k4d : Keep c4 d := k47.trans k8
          have Gd := Gc.keep k4d
          have ga1' : d.IsGen g1 s.gens.size := (ga1.keeps k7).keeps k8
          have hn1000 : vs.toArray.size ≤ 1000 := by simp; lia
          have mk : ∀ (x y : Int) (b' : Heap) (ys : List Value), FL (fun i y' b' => Cand4 b' y' ⟨key way (rs.getD i z4) x y, x, y, rs.getD i z4⟩) b' ys (passing (fun i => (rs.getD i z4).fits x y) vs.toArray.size 0) → CL b' ys (candsOf way rs x y) := fun x y b' ys fl => by
            have e : candsOf way rs x y = (passing (fun i => (rs.getD i z4).fits x y) vs.toArray.size 0).map fun i => ⟨key way (rs.getD i z4) x y, x, y, rs.getD i z4⟩ := by
              unfold candsOf passing
              rw [← filter_range z4 (fun r => r.fits x y) rs, List.map_map]
              have : vs.toArray.size = rs.length := by simp; lia
              rw [this]; rfl
            rw [e]; exact fl.toCL
          refine wpAny_execs_cons (wpAny_Assign_Name (absQ fun QA kQA => ?_) rfl)
          rw [arm_eval_BinOp]
          refine wpAny_bind (wpCall1 S8 (yBltn Gd (by rfl) bltn_list (by decide)) kept_type (fun b' h' u => yName (S8.ns.keeps u.h) n1) fun d1 h9 tk9 S9 k9 => ?_)
          have Rl : Rm 6 (A.deeper (envC "MaxRects._select_position" _ L 346 (.ref 345))).in1.in1 := ((R1.less (k := 8) (by decide)).in1).in1
          have pm : ((L, Own.ns mm) :: (341, .tab) :: (D2, .ns m2) :: (I2, .itr l 0) :: (D1, .ns m1) :: (I1, .itr l 0) :: O).Perm ((D1, .ns m1) :: (I1, .itr l 0) :: (L, Own.ns mm) :: (341, .tab) :: (D2, .ns m2) :: (I2, .itr l 0) :: O) :=
            List.Perm.append_right O (List.perm_append_comm (l₁ := [(L, Own.ns mm), (341, .tab), (D2, .ns m2), (I2, .itr l 0)]) (l₂ := [(D1, .ns m1), (I1, .itr l 0)]))
          have Gi1' := (Gi1 _ Rl).move (s' := { s with heap := h9, toks := tk9, gens := (s.gens.push gs1).push gs2 }) ((ga1'.keeps k9).keeps S9.base) (by simp [Array.getElem?_push])
          refine list_gen (F := fun i y b' => Cand4 b' y ⟨key way (rs.getD i z4) a b, a, b, rs.getD i z4⟩) (pz := fun i => (rs.getD i z4).fits a b) (hbG := c6) (C := D1) (I := I1) (l := l) (n := vs.toArray.size) (fun i y b b' k => Cand4.keep k) hn1000 R1.hd R1.room (Gd.keep k9) ((k7.trans k8).trans k9) ga1 (mC := m1) (S9.perm pm) Gi1' fun E1 ys1 d2 h10 tk10 gs10 S10 k10 pl1 _ fl1 bare10 only10 => ?_
          have cl1 := mk a b d2 ys1 fl1
          dsimp only at only10 bare10 ⊢
          have k9d2 := k9.trans k10
          refine wpAny_bind (wpAny_holding (wpCall1 S10 (yBltn (Gd.keep k9d2) (by rfl) bltn_list (by decide)) kept_type (fun b' h' u => yName (S10.ns.keeps u.h) n2) fun d3 h11 tk11 S11 k11 => ?_))
          refine wpAny_mono (Q := fun v s' => ∃ E2 ys2 d4 h12 tk12 gs12 O2, v = .ref E2 ∧ s' = { s with heap := h12, toks := tk12, gens := gs12 } ∧ St h0 hb0 d4 ((L, .ns mm) :: (341, .tab) :: O2) h12 ∧ O.Sublist O2 ∧ Keep d3 d4 ∧ d4.PlainList E2 (ys2 : List Value).toArray ∧
            CL d4 ys2 (if rot then candsOf way rs b a else []) ∧ (AllBare s.gens → AllBare gs12)) ?_ (fun v s' mid => ?_) fun _ _ e => e
          · rcases hx with ⟨hrot, rfl⟩ | ⟨hrot, plx⟩
            · have S11' : St h0 hb0 d3 ((D2, .ns m2) :: (I2, .itr l 0) :: (L, Own.ns mm) :: (341, .tab) :: O) h11 := S11.perm (List.Perm.append_right O (List.perm_append_comm (l₁ := [(L, Own.ns mm), (341, .tab)]) (l₂ := [(D2, .ns m2), (I2, .itr l 0)])))
              have k7d3 : Keep c7 d3 := k8.trans (k9d2.trans k11)
              have Gi2' := (Gi2 _ Rl).move (s' := { s with heap := h11, toks := tk11, gens := gs10 }) ((ga2.keeps k7d3).keeps S11.base) (by
                have := only10.2 (s.gens.size + 1) (by lia)
                simpa using this)
              refine list_gen (F := fun i y b' => Cand4 b' y ⟨key way (rs.getD i z4) b a, b, a, rs.getD i z4⟩) (pz := fun i => (rs.getD i z4).fits b a) (hbG := c7) (C := D2) (I := I2) (l := l) (n := vs.toArray.size) (fun i y b b' k => Cand4.keep k) hn1000 R1.hd R1.room (Gd.keep (k9d2.trans k11)) k7d3 ga2 (mC := m2) S11' Gi2' fun E2 ys2 d4 h12 tk12 gs12 S12 k12 pl2 _ fl2 bare12 only12 => ?_
              exact ⟨E2, ys2, d4, h12, tk12, gs12, O, rfl, rfl, S12, .refl _, k12, pl2, by rw [hrot]; exact mk b a d4 ys2 fl2, fun ab => bare12 (bare10 (AllBare.push (AllBare.push ab bare1) bare2))⟩
            · refine (yCallList (h := h11) (Heap.PlainList.isList (plx.at fun o e => S11.base _ _ ((k9d2.trans k11) _ _ e))) (by simp)).use S11.base fun v d4 h12 tk12 e r12 => ?_
              obtain ⟨E2, rfl, pl2, _⟩ := e
              exact ⟨E2, [], d4, h12, tk12, gs10, _, rfl, rfl, S11.up r12, .cons _ (.cons _ (.refl _)), r12.up.b, pl2, by rw [hrot]; trivial, fun ab => bare10 (AllBare.push (AllBare.push ab bare1) bare2)⟩
          · obtain ⟨E2, ys2, d4, h12, tk12, gs12, O2, rfl, rfl, S12, sub, k12, pl2, cl2, bare12⟩ := mid
            have cl : CL d4 (ys1 ++ ys2) (cands way rot rs a b) := (cl1.keep (k11.trans k12)).append cl2
            have pl1' : h12.PlainList E1 ys1.toArray := pl1.at fun o e => S12.base _ _ (k12 _ _ (k11 _ _ e))
            have clen := cl.length
            have cmax : (cands way rot rs a b).length ≤ 200 := cands_length way rot rs a b hz
            rw [List.length_append] at clen
            refine wpAny_bind (wpAny_standAt (wpAny_operating ((yAddLists pl1' (pl2.at fun o e => S12.base _ _ e) (by lia)).use S12.base fun v d5 h13 tk13 e r13 => ?_)))
            obtain ⟨E3, rfl, pl3, _⟩ := e
            have S13 := S12.up r13
            refine kQA _ _ ?_
            refine wpAny_storeName_local rfl S13.ns (fun h14 hn14 sb14 => ?_) rfl
            have S14 : St h0 hb0 d5 ((L, .ns (upd mm "fit" (.ref E3))) :: (341, .tab) :: O2) h14 := St.upd (pre := []) S13 (Ext.of_same sb14) hn14
            have k45d : Keep c4 d5 := k4d.trans (k9d2.trans (k11.trans (k12.trans r13.up.b)))
            have atD : (Own.idc mp n).At d5 dp := Own.At.keep at4 k45d
            have at1d : (Own.cel (some (.int b tb))).At d5 (L + 1 + 1 + 1) := Ch.keeps k45d
            have at2d : (Own.cel (some (.int a ta))).At d5 (L + 1 + 1) := Cw.keeps k45d
            have at3d : (Own.cel (some (.ref p))).At d5 (L + 1) := Cs.keeps k45d
            have oD := odd_idc atD (P.no "x" (by decide))
            have o1 := odd_cell (Ch.keeps k45d)
            have o2 := odd_cell (Cw.keeps k45d)
            have ow1 := S.own (L + 1 + 1 + 1, .cel (some (.int b tb))) mem1
            have ow2 := S.own (L + 1 + 1, .cel (some (.int a ta))) mem2
            have ow3 := S.own (L + 1, .cel (some (.ref p))) mem3
            have owD := S.own (dp, .idc mp n) (.tail _ (.tail _ mem3))
            have nd := S.nd
            simp only [List.map_cons, List.nodup_cons, List.mem_cons, not_or] at nd
            obtain ⟨e1, T1, off1, kk1⟩ := S14.thaw (a := dp) (o := .idc mp n) atD owD.2.2 (keep_none S.res.up.b owD.2.1)
            obtain ⟨e2, T2, off2, kk2⟩ := T1.thaw (a := L + 1 + 1 + 1) (o := .cel (some (.int b tb))) (at1d.off nd.2.1.2.2.2.1 off1) ow1.2.2 (keep_none S.res.up.b ow1.2.1)
            obtain ⟨e3, T3, off3, kk3⟩ := T2.thaw (a := L + 1 + 1) (o := .cel (some (.int a ta))) ((at2d.off nd.2.2.1.2.2.1 off1).off (Ne.symm nd.2.1.1) off2) ow2.2.2 (keep_none S.res.up.b ow2.2.1)
            have od2 : Odd e1 (L + 1 + 1 + 1) := odd_cell (v := some (.int b tb)) (at1d.off nd.2.1.2.2.2.1 off1)
            have at2e : (Own.cel (some (.int a ta))).At e2 (L + 1 + 1) := (at2d.off nd.2.2.1.2.2.1 off1).off (Ne.symm nd.2.1.1) off2
            have od3 : Odd e2 (L + 1 + 1) := odd_cell (v := some (.int a ta)) at2e
            have pl : e3.PlainList E3 (ys1 ++ ys2).toArray := plain_off (plain_off (plain_off pl3 oD off1) od2 off2) od3 off3
            have cl3 : CL e3 (ys1 ++ ys2) (cands way rot rs a b) := ((((cl.keep r13.up.b).off oD off1).off od2 off2).off od3 off3)
            have ke : Keep hb e3 := fun x ob e => off3 x ob (fun q => by subst q; rw [ow2.2.1] at e; cases e) (off2 x ob (fun q => by subst q; rw [ow1.2.1] at e; cases e) (off1 x ob (fun q => by subst q; rw [owD.2.1] at e; cases e) ((kc.trans k45d) x ob e)))
            have Ge := G.keep ke
            have T4 : St h0 hb0 e3 ((L, .ns (upd mm "fit" (.ref E3))) :: (L + 1 + 1 + 1, .cel (some (.int b tb))) :: (L + 1 + 1, .cel (some (.int a ta))) :: (341, .tab) :: (dp, .idc mp n) :: O) h14 := by
              refine (T3.sub (O' := (L + 1 + 1, .cel (some (.int a ta))) :: (L + 1 + 1 + 1, .cel (some (.int b tb))) :: (dp, .idc mp n) :: (L, .ns (upd mm "fit" (.ref E3))) :: (341, .tab) :: O) (.cons_cons _ (.cons_cons _ (.cons_cons _ (.cons_cons _ (.cons_cons _ sub)))))).perm (perm5 _ _ _ _ _ _)
            refine wpAny_execs_cons (absQ fun QZ kQZ => wpAny_Try_except (wpAny_execs_cons (absQ fun QY kQY => Assign_Tuple ?_)))
            rw [arm_eval_Call_Name']
            refine wpAny_bind ((yBltn Ge (by rfl) bltn_min (by decide)).use T4.base fun f e4 h15 tk15 ef r15 => ?_)
            cases ef
            have T5 := T4.up r15
            refine callWith_kw ((yIsCons (yName T5.ns rfl) yIsNil).use T5.base fun vs' e5 h16 tk16 ev r16 => ?_)
            cases ev
            have T6 := T5.up r16
            refine kws_cons ((yGlob (Ge.keep (r15.up.b.trans r16.up.b)) (by rfl)).use T6.base fun v' e6 h17 tk17 ev r17 => kws_nil ?_)
            cases ev
            have T7 := T6.up r17
            have k36 : Keep e3 e6 := r15.up.b.trans (r16.up.b.trans r17.up.b)
            have pl6 : e6.IsList E3 (ys1 ++ ys2).toArray := (pl.isList).at fun o e => k36 _ _ e
            have cl6 := cl3.keep k36
            have kfin : ∀ v d' h' tk mL vh vw, St h0 hb0 d' ((L, .ns mL) :: (L + 1 + 1 + 1, .cel vh) :: (L + 1 + 1, .cel vw) :: (341, .tab) :: (dp, .idc mp n) :: O) h' → Keep e6 d' → SelRes hb (cands way rot rs a b) v d' → Rr (.ok (.ret v)) { s with heap := h', toks := tk, gens := gs12 } := fun v d' h' tk mL vh vw S' k' sr =>
              k v d' h' tk gs12 (S'.sub (.cons _ (.cons _ (.cons _ (.refl _))))) (ke.trans (k36.trans k')) sr bare12
            by_cases hc0 : cands way rot rs a b = []
            · have hy : ys1 ++ ys2 = [] := by
                rw [hc0] at cl6
                cases hys : ys1 ++ ys2 with
                | nil => rfl
                | cons v vs' => rw [hys] at cl6; exact cl6.elim
              rw [hy] at pl6
              refine min_none R1.hd (pl6.at fun o e => T7.base _ _ e) fun e h18 tk18 N => ?_
              refine caught (outer := outer) (L := L) T7 (Ge.keep k36) N (by show A.frames.map _ = _; rw [hfr]; rfl) (fun ev hev => ?_) rfl isExc_ValueError notTuple_ValueError sub_ValueError (fun s1 Q' E' ks q => bltnRaw (Ge.keep k36) (by rfl) bltn_ValueError (by decide) s1 Q' E' ks q) fun h19 tk19 T8 => ?_
              · rcases List.mem_cons.mp hev with rfl | hev
                · exact ⟨(by intro q; cases q), L, _, rfl, .head _⟩
                · obtain ⟨q1, L', m', q2, q3⟩ := Fs ev hev
                  exact ⟨q1, L', m', q2, .tail _ (.tail _ (.tail _ (.tail _ (.tail _ q3))))⟩
              · refine wRet T8 (P := ValT fun vs _ => vs = [.none, .none]) (yTup (yArgs_cons yNone fun v b1 h1 u e => yArgs_cons yNone fun v2 b2 h2 u2 e2 => yArgs_nil fun _ _ => by cases e; cases e2; rfl) (by rintro _ _ rfl; decide)) fun v d7 h20 tk20 e T9 k79 => ?_
                obtain ⟨t, _, b0, rfl, T, _, rfl⟩ := e
                exact kQZ _ _ (kfin _ d7 h20 tk20 _ _ _ T9 k79 ⟨t, .none, .none, rfl, T, .inl ⟨hc0, rfl, rfl⟩⟩)
            · have hlen : (ys1 ++ ys2).length = (cands way rot rs a b).length := cl6.length
              have hpos : 0 < (ys1 ++ ys2).length := by
                rw [hlen]; exact List.length_pos_iff.mpr hc0
              let kf : Nat → Int := fun i => ((cands way rot rs a b)[i]?.map (·.k)).getD 0
              refine min_some kf T7 (Ge.keep k36) (R1.less (by decide)) pl6 hpos (fun i v hv => ?_) fun i v h18 tk18 hv hmin T8 => ?_
              · obtain ⟨c, hc, t, τ, ua, ub, am, e, T, I⟩ := cl6.at hv
                have : kf i = c.k := by show ((cands way rot rs a b)[i]?.map (·.k)).getD 0 = _; rw [hc]; rfl
                rw [this]
                exact ⟨t, τ, _, e, T⟩
              · obtain ⟨c, hc, t, τ, ua, ub, am, rfl, T, I⟩ := cl6.at hv
                have hbest : ∀ (j : Nat) (c' : Cand), (cands way rot rs a b)[j]? = some c' → c.k ≤ c'.k := fun j c' hj => by
                  have hj' : j < (ys1 ++ ys2).length := by rw [hlen]; exact (List.getElem?_eq_some_iff.mp hj).1
                  have := (hmin j hj').1
                  have e1 : kf i = c.k := by show ((cands way rot rs a b)[i]?.map (·.k)).getD 0 = _; rw [hc]; rfl
                  have e2 : kf j = c'.k := by show ((cands way rot rs a b)[j]?.map (·.k)).getD 0 = _; rw [hj]; rfl
                  rw [e1, e2] at this; exact this
                have hcr : 0 ≤ c.a ∧ 0 ≤ c.b := by
                  have hmem := List.mem_of_getElem? hc
                  unfold cands candsOf at hmem
                  rcases List.mem_append.mp hmem with hm1 | hm1
                  · obtain ⟨r0, _, rfl⟩ := List.mem_map.mp hm1
                    exact ⟨ha, hbp⟩
                  · cases rot
                    · cases hm1
                    · obtain ⟨r0, _, rfl⟩ := List.mem_map.mp hm1
                      exact ⟨hbp, ha⟩
                refine absQE fun QT ET kT _ => ?_
                refine wpAny_assign_Tuple R1.hd (T.keep T8.base).isTuple (by rfl) (by rfl) fun h19 ex => ?_
                have T9 := T8.grow (h' := h19) (fun x o e => ex x o (Nat.ne_of_lt (Heap.lt_size e)) e)
                refine wpAny_bind (wpAny_holding (aName T9 fun h20 tk20 T10 => ?_))
                refine wpAny_bind (wpAny_holding (aCell (pre := [_, _]) T10 fun h21 tk21 T11 => ?_))
                refine wpAny_bind (wpAny_holding (aCell (pre := [_]) T11 fun h22 tk22 T12 => ?_))
                refine wpAny_bind (wpAny_holding (aName T12 fun h23 tk23 T13 => ?_))
                refine wpAny_pure (kT _ _ ?_)
                try dsimp only
                refine kQY _ _ ?_
                try dsimp only
                refine wNil ?_
                try dsimp only
                refine wNil ?_
                try dsimp only
                refine kQZ _ _ ?_
                try dsimp only
                have T13' : St h0 hb0 e6 ((L, .ns (upd (upd (upd mm "fit" (.ref E3)) "_" (.int c.k τ)) "m" (.ref am))) :: (L + 1 + 1 + 1, .cel (some (.int c.b ub))) :: (L + 1 + 1, .cel (some (.int c.a ua))) :: (341, .tab) :: (dp, .idc mp n) :: O) h23 := T13
                have G6 := Ge.keep k36
                have I6 : IsRect h23 am c.r := I.keep T13'.base
                have ch := T13'.mem (p := (L + 1 + 1 + 1, .cel (some (.int c.b ub)))) mem1
                have cw := T13'.mem (p := (L + 1 + 1, .cel (some (.int c.a ua)))) mem2
                refine wRet T13' (P := ValT fun vs b => ∃ rect dx mm, vs = [.ref rect, .ref am] ∧ NewRect hb b rect dx mm ⟨c.r.x, c.r.y, c.a, c.b⟩) ?_ fun v d7 h24 tk24 e T14 k14 => ?_
                · refine yTup (yArgs_cons (yRect G6 (R1.less (by decide)) hcr.1 hcr.2 (yGlob G6 (by rfl)) (yIntsCons (yX G6 I6 (yName T13'.ns rfl)) (yIntsCons (yY G6 I6 (yName T13'.ns rfl)) (yIntsCons ((yCell cw).mono fun _ _ _ e => ⟨ua, e⟩) (yIntsCons ((yCell ch).mono fun _ _ _ e => ⟨ub, e⟩) yIntsNil))))) fun v b1 h1 u e => yArgs_cons (yName (T13'.ns.keeps u.h) rfl) fun v2 b2 h2 u2 e2 => yArgs_nil fun b3 k3 => ?_) ?_
                  · cases e2
                    obtain ⟨rect, dx, mm', rfl, N⟩ := e
                    exact ⟨rect, dx, mm', rfl, N.inst.keep (u2.b.trans k3), N.map, N.rid, keep_none (ke.trans k36) N.na, keep_none (ke.trans k36) N.nd⟩
                  · rintro _ _ ⟨_, _, _, rfl, _⟩; simp
                · obtain ⟨t', vs', b0, rfl, T', kb0, rect, dx, mm', rfl, N⟩ := e
                  exact kfin _ d7 h24 tk24 _ _ _ T14 k14 ⟨t', _, _, rfl, T', .inr ⟨i, c, rect, dx, mm', am, hc, hbest, rfl, ⟨N.inst.keep kb0, N.map, N.rid, N.na, N.nd⟩, rfl, I.keep k14⟩⟩
end
end Mine
end
noncomputable section
open PySem PySem.W PyProof.Rows PySem.Calls Builtin Builtin.ObjectAttr Builtin.Getset_descriptor
set_option Elab.async false
set_option maxRecDepth 100000
set_option linter.unusedVariables false
namespace Mine
inductive Cand5 (b : Heap) (v : Value) (c : Cand) : Prop
  | mk (t : Addr) (τ τx ua ub : Tok) (am : Addr) (e : v = .ref t) (T : Tp b t [.int c.k τ, .int c.r.x τx, .int c.a ua, .int c.b ub, .ref am]) (I : IsRect b am c.r)
theorem Cand5.keep {b b' : Heap} {v : Value} {c : Cand} (k : Keep b b') : Cand5 b v c → Cand5 b' v c := fun ⟨t, τ, τx, ua, ub, am, e, T, I⟩ => ⟨t, τ, τx, ua, ub, am, e, T.keep k, I.keep k⟩
theorem Cand5.off {h h' : Heap} {x : Addr} {v : Value} {c : Cand} (o : Odd h x) (k : Off x h h') : Cand5 h v c → Cand5 h' v c := fun ⟨t, τ, τx, ua, ub, am, e, T, I⟩ => ⟨t, τ, τx, ua, ub, am, e, T.off o k, I.off o k⟩
def CL5 (b : Heap) (vs : List Value) (cs : List Cand) : Prop := L2 (fun v c => Cand5 b v c) vs cs
theorem CL5.keep {b b' : Heap} (k : Keep b b') {vs : List Value} {cs : List Cand} (x : CL5 b vs cs) : CL5 b' vs cs := L2.mono (fun _ _ x => x.keep k) x
theorem CL5.append {b : Heap} {vs us : List Value} {cs ds : List Cand} (x : CL5 b vs cs) (y : CL5 b us ds) : CL5 b (vs ++ us) (cs ++ ds) := L2.append x y
theorem CL5.at {b : Heap} {vs : List Value} {cs : List Cand} {i : Nat} {v : Value} (x : CL5 b vs cs) (e : vs[i]? = some v) : ∃ c, cs[i]? = some c ∧ Cand5 b v c :=
  let ⟨c, q, e'⟩ := L2.at x e; ⟨c, e', q⟩
theorem CL5.length {b : Heap} {vs : List Value} {cs : List Cand} (x : CL5 b vs cs) : vs.length = cs.length := L2.length x
theorem CL5.off {b b' : Heap} {x : Addr} (o : Odd b x) (k : Off x b b') {vs : List Value} {cs : List Cand} (y : CL5 b vs cs) : CL5 b' vs cs := L2.mono (fun _ _ p => p.off o k) y
theorem FL.toCL5 {f : Nat → Cand} {b : Heap} {vs : List Value} {is : List Nat} (x : FL (fun i y b => Cand5 b y (f i)) b vs is) : CL5 b vs (is.map f) := L2.map x
section
variable {w : World} {A : Around} {hb0 h0 hb h : Heap} {env : Env} {O : List (Addr × Own)} {s : Shared} {L : Addr} {m : Str → Option Value} {pos : Pos}
theorem m_selBl {C p dp l rl : Addr} {mp : Str → Option Value} {n : Nat} {vs : List Value} {rs : List R4} {rot : Bool} {wd ht a b : Int} {ta tb : Tok} {Rr : Result → Shared → Prop} {outer : List Env} 
    (S : St h0 hb0 hb ((402, .tab) :: (dp, .idc mp n) :: O) s.heap) (G : Glob w hb) (R : Rm 12 A) (K : PkW w C 0) (hfr : A.frames = some outer) (Fs : Frames outer O)
    (ho : hb.get? p = some (instObj C dp)) (hn : n ≤ 50) (P : PMap mp l rl rot wd ht) (hl : hb.PlainList l vs.toArray) (hr : Rects hb vs rs) (hz : rs.length ≤ 100) (hm : ∀ r ∈ rs, IntMulOk r.w r.h ∧ 0 ≤ r.w ∧ 0 ≤ r.h) (hab : IntMulOk a b ∧ IntMulOk b a) (ha : 0 ≤ a) (hbp : 0 ≤ b)
    (k : ∀ v b' h' tk gs, St h0 hb0 b' ((402, .tab) :: (dp, .idc mp n) :: O) h' → Keep hb b' → SelRes hb (cands 0 rot rs a b) v b' → (AllBare s.gens → AllBare gs) → Rr (.ok (.ret v)) { s with heap := h', toks := tk, gens := gs }) :
    codeAny (model PG w) A (.call (.ref 407) ⟨[.ref p, .int a ta, .int b tb], []⟩) Rr s := by
  refine callMC (binds := [("self", .ref p), ("w", .int a ta), ("h", .int b tb)]) S G R (by rfl) (by kernel_rfl) rfl (by intro x hx; simp at hx; rcases hx with rfl | rfl | rfl <;> (right; exact ⟨by rfl, by rfl⟩)) (by decide) fun h1 tk1 L R1 S k1 E => ?_
  have S : St h0 hb0 hb ((L, .ns fun _ => none) :: (L + 1 + 1 + 1, .cel (some (.int b tb))) :: (L + 1 + 1, .cel (some (.int a ta))) :: (L + 1, .cel (some (.ref p))) :: (402, .tab) :: (dp, .idc mp n) :: O) h1 := S
  refine wpAny_mono (E := fun _ _ => False) ?_ (fun _ _ x => x) fun _ _ f => f.elim
  obtain ⟨c1, S1, kc1, at1⟩ := St.freeze (pre := [_]) S
  obtain ⟨c2, S2, kc2, at2⟩ := St.freeze (pre := [_]) S1
  obtain ⟨c3, S3, kc3, at3⟩ := St.freeze (pre := [_]) S2
  obtain ⟨c4, S4, kc4, at4⟩ := St.freeze (pre := [_, _]) S3
  have S4 : St h0 hb0 c4 ((L, .ns fun _ => none) :: (402, .tab) :: O) h1 := S4
  have kc : Keep hb c4 := kc1.trans (kc2.trans (kc3.trans kc4))
  have Ch : c4.IsCell (L + 1 + 1 + 1) (some (.int b tb)) := Heap.IsCell.keeps (Heap.IsCell.keeps (Heap.IsCell.keeps at1 kc2) kc3) kc4
  have Cw : c4.IsCell (L + 1 + 1) (some (.int a ta)) := Heap.IsCell.keeps (Heap.IsCell.keeps at2 kc3) kc4
  have Cs : c4.IsCell (L + 1) (some (.ref p)) := Heap.IsCell.keeps at3 kc4
  have Ip : Inst c4 p C mp := ⟨dp, kc _ _ ho, let ⟨es, ep, a1, a2, a3, a4⟩ := at4; ⟨es, ep, a1, a2, a3, by lia⟩⟩
  have Gc := G.keep kc
  have hlc : c4.IsList l vs.toArray := hl.isList.at fun o e => kc _ _ e
  have hrc : Rects c4 vs rs := hr.keep kc
  have hlen := hr.length
  have k45 : Keep c4 c4 := .refl _
  have vget : ∀ (i : Nat) (u : Value), vs.toArray[i]? = some u → ∃ am, u = .ref am ∧ i < rs.length ∧ IsRect c4 am (rs.getD i z4) := fun i u hu => by
    have hi : i < rs.length := by have := (Array.getElem?_eq_some_iff.mp hu).1; simp at this; lia
    obtain ⟨am, e, I⟩ := hrc.get hi
    rw [List.getElem?_toArray, e] at hu
    cases hu
    exact ⟨am, rfl, hi, I⟩
  have hmi : ∀ i, i < rs.length → IntMulOk (rs.getD i z4).w (rs.getD i z4).h := fun i hi => by
    have : rs.getD i z4 ∈ rs := by rw [List.getD_eq_getElem?_getD, List.getElem?_eq_getElem hi]; exact List.getElem_mem hi
    exact (hm _ this).1
  have some_fits : ∀ r x y, (fitW 0 r x y).isSome = r.fits x y := fun r x y => by unfold fitW; split <;> simp_all
  refine wLetGen (r := 4) (l := l) (xs := vs.toArray) (fun i => (rs.getD i z4).fits a b) (fun i y b' => Cand5 b' y ⟨key 0 (rs.getD i z4) a b, a, b, rs.getD i z4⟩) (fun i y b b' k => Cand5.keep k) S4 Gc R1.hd R1.room (codeAt_406 Gc) (yGetField Gc (yCell (Cs.keeps S4.base)) (Ip.keep S4.base) K.fmr P.mr rfl) hlc
    (fun b' kb A' RA C' code i u h' mm hu hns hv kh => ?_) (fun b' kb A' RA C' code i u h' mm hp hu hns hv kh => ?_) fun g1 D1 I1 m1 c6 h6 tk6 gs1 S6 k6 ga1 bare1 Gi1 => ?_
  · obtain ⟨am, rfl, hi, I⟩ := vget i u hu
    have kk : Keep c4 h' := k45.trans (kb.trans kh)
    refine yEq (yTests1 (yTestCompare (yCompare (P1 := IsO (fitW 0 (rs.getD i z4) a b)) (P2 := Is .none) (yRectFit (by decide) (Gc.keep (k45.trans kb)) (RA.less (by decide)) K (Ip.keep kk) (P.no _ (by decide)) (I.keep (kb.trans kh)) (hmi i hi) hab.1 (yFree (Cs.keeps kk)) (yName hns hv) (yFree (Cw.keeps kk)) (yFree (Ch.keeps kk))) (fun _ _ _ _ _ => yNone) fun v1 v2 b1 h1 b2 h2 u1 u2 e1 e2 => ?_))) (some_fits _ _ _)
    cases e2
    exact yIsNotNone e1
  · obtain ⟨am, rfl, hi, I⟩ := vget i u hu
    have kk : Keep c4 h' := k45.trans (kb.trans kh)
    refine (yTup (R := fun vs _ => ∃ τ τx, vs = [.int ((rs.getD i z4).y + b) τ, .int (rs.getD i z4).x τx, .int a ta, .int b tb, .ref am]) (yArgs_cons (P1 := IsI ((rs.getD i z4).y + b)) (yAdd (yY (Gc.keep (k45.trans kb)) (I.keep (kb.trans kh)) (yName hns hv)) ((yFree (Ch.keeps kk)).mono fun _ _ _ e => ⟨tb, e⟩)) fun v b1 h1 u e => yArgs_cons (P1 := IsI (rs.getD i z4).x) (yX ((Gc.keep (k45.trans kb)).keep u.b) (I.keep ((kb.trans kh).trans u.h)) (yName (hns.keeps u.h) hv)) fun v' b1' h1' u' e2 => ?_) ?_).mono fun y b2 k2 e => ?_
    · refine (yIsCons (yFree (Cw.keeps (kk.trans (u.h.trans u'.h)))) (yIsCons (yFree (Ch.keeps (kk.trans (u.h.trans u'.h)))) (yIsCons (yName (hns.keeps (u.h.trans u'.h)) hv) yIsNil))).mono fun vs' _ _ e' => ?_
      cases e'
      obtain ⟨τ, rfl⟩ := e
      obtain ⟨τx, rfl⟩ := e2
      exact ⟨τ, τx, rfl⟩
    · rintro _ _ ⟨τ, τx, rfl⟩; simp
    · obtain ⟨t, _, b0, rfl, T, _, τ, τx, rfl⟩ := e
      exact ⟨t, τ, τx, ta, tb, am, rfl, T, I.keep (kb.trans k2)⟩
  · have k46 := k45.trans k6
    have vget6 : ∀ (i : Nat) (u : Value), vs.toArray[i]? = some u → ∃ am, u = .ref am ∧ i < rs.length ∧ IsRect c6 am (rs.getD i z4) := fun i u hu => by
      obtain ⟨am, e, hi, I⟩ := vget i u hu
      exact ⟨am, e, hi, I.keep k6⟩
    refine wLetGen (r := 4) (l := l) (xs := vs.toArray) (fun i => (rs.getD i z4).fits b a) (fun i y b' => Cand5 b' y ⟨key 0 (rs.getD i z4) b a, b, a, rs.getD i z4⟩) (fun i y b b' k => Cand5.keep k) S6 (Gc.keep k46) R1.hd R1.room (codeAt_406 (Gc.keep k46)) (yGetField (Gc.keep k46) (yCell (Cs.keeps (k46.trans S6.base))) (Ip.keep (k46.trans S6.base)) K.fmr P.mr rfl) (hlc.at fun o e => k46 _ _ e)
      (fun b' kb A' RA C' code i u h' mm hu hns hv kh => ?_) (fun b' kb A' RA C' code i u h' mm hp hu hns hv kh => ?_) fun g2 D2 I2 m2 c7 h7 tk7 gs2 S7 k7 ga2 bare2 Gi2 => ?_
    · obtain ⟨am, rfl, hi, I⟩ := vget6 i u hu
      have kk : Keep c4 h' := k46.trans (kb.trans kh)
      refine yEq (yTests1 (yTestCompare (yCompare (P1 := IsO (fitW 0 (rs.getD i z4) b a)) (P2 := Is .none) (yRectFit (by decide) (Gc.keep (k46.trans kb)) (RA.less (by decide)) K (Ip.keep kk) (P.no _ (by decide)) (I.keep (kb.trans kh)) (hmi i hi) hab.2 (yFree (Cs.keeps kk)) (yName hns hv) (yFree (Ch.keeps kk)) (yFree (Cw.keeps kk))) (fun _ _ _ _ _ => yNone) fun v1 v2 b1 h1 b2 h2 u1 u2 e1 e2 => ?_))) (some_fits _ _ _)
      cases e2
      exact yIsNotNone e1
    · obtain ⟨am, rfl, hi, I⟩ := vget6 i u hu
      have kk : Keep c4 h' := k46.trans (kb.trans kh)
      refine (yTup (R := fun vs _ => ∃ τ τx, vs = [.int ((rs.getD i z4).y + a) τ, .int (rs.getD i z4).x τx, .int b tb, .int a ta, .ref am]) (yArgs_cons (P1 := IsI ((rs.getD i z4).y + a)) (yAdd (yY (Gc.keep (k46.trans kb)) (I.keep (kb.trans kh)) (yName hns hv)) ((yFree (Cw.keeps kk)).mono fun _ _ _ e => ⟨ta, e⟩)) fun v b1 h1 u e => yArgs_cons (P1 := IsI (rs.getD i z4).x) (yX ((Gc.keep (k46.trans kb)).keep u.b) (I.keep ((kb.trans kh).trans u.h)) (yName (hns.keeps u.h) hv)) fun v' b1' h1' u' e2 => ?_) ?_).mono fun y b2 k2 e => ?_
      · refine (yIsCons (yFree (Ch.keeps (kk.trans (u.h.trans u'.h)))) (yIsCons (yFree (Cw.keeps (kk.trans (u.h.trans u'.h)))) (yIsCons (yName (hns.keeps (u.h.trans u'.h)) hv) yIsNil))).mono fun vs' _ _ e' => ?_
        cases e'
        obtain ⟨τ, rfl⟩ := e
        obtain ⟨τx, rfl⟩ := e2
        exact ⟨τ, τx, rfl⟩
      · rintro _ _ ⟨τ, τx, rfl⟩; simp
      · obtain ⟨t, _, b0, rfl, T, _, τ, τx, rfl⟩ := e
        exact ⟨t, τ, τx, tb, ta, am, rfl, T, I.keep (kb.trans k2)⟩
    · have k47 := k46.trans k7
      refine wIfJ (b := !rot) (post := fun s' => ∃ mm d h' tk x, s' = { s with heap := h', toks := tk, gens := (s.gens.push gs1).push gs2 } ∧ St h0 hb0 d ((L, .ns mm) :: (402, .tab) :: (D2, .ns m2) :: (I2, .itr l 0) :: (D1, .ns m1) :: (I1, .itr l 0) :: O) h' ∧ Keep c7 d ∧
          mm "fitn" = some (.ref g1) ∧ mm "fitr" = some (.ref x) ∧ ((rot = true ∧ x = g2) ∨ (rot = false ∧ d.PlainList x #[]))) S7 (yTestNot (yTest_bool (yGetField (Gc.keep k47) (yCell (Cs.keeps (k47.trans S7.base))) (Ip.keep (k47.trans S7.base)) K.frot P.rot rfl))) (fun hrot c8 h8 tk8 S8 k8 => ?_) (fun hrot c8 h8 tk8 S8 k8 => ?_) ?_
      · have hrot : rot = false := by cases rot <;> simp_all
        refine absQ fun QJ kQJ => ?_
        refine wLet S8 (P1 := ValL c8 fun vs _ => vs = []) (yLst (R := fun vs _ => vs = []) (yArgs_nil fun _ _ => rfl) (by rintro _ _ rfl; decide)) fun v c9 h9 tk9 e S9 k9 => ?_
        obtain ⟨D0, _, b0, rfl, pl0, _, rfl, _⟩ := e
        exact wNil (kQJ _ _ ⟨rfl, _, c9, h9, tk9, D0, rfl, S9, k8.trans k9, rfl, rfl, .inr ⟨hrot, pl0⟩⟩)
      · have hrot : rot = true := by cases rot <;> simp_all
        exact wNil ⟨rfl, _, c8, h8, tk8, g2, rfl, S8, k8, rfl, rfl, .inl ⟨hrot, rfl⟩⟩
      · rintro _ ⟨mm, d, h8, tk8, x, rfl, S8, k8, n1, n2, hx⟩
        have k4d : Keep c4 d := k47.trans k8
        have Gd := Gc.keep k4d
        have ga1' : d.IsGen g1 s.gens.size := (ga1.keeps k7).keeps k8
        have hn1000 : vs.toArray.size ≤ 1000 := by simp; lia
        have mk : ∀ (x y : Int) (b' : Heap) (ys : List Value), FL (fun i y' b' => Cand5 b' y' ⟨key 0 (rs.getD i z4) x y, x, y, rs.getD i z4⟩) b' ys (passing (fun i => (rs.getD i z4).fits x y) vs.toArray.size 0) → CL5 b' ys (candsOf 0 rs x y) := fun x y b' ys fl => by
          have e : candsOf 0 rs x y = (passing (fun i => (rs.getD i z4).fits x y) vs.toArray.size 0).map fun i => ⟨key 0 (rs.getD i z4) x y, x, y, rs.getD i z4⟩ := by
            unfold candsOf passing
            rw [← filter_range z4 (fun r => r.fits x y) rs, List.map_map]
            have : vs.toArray.size = rs.length := by simp; lia
            rw [this]; rfl
          rw [e]; exact fl.toCL5
        refine wpAny_execs_cons (wpAny_Assign_Name (absQ fun QA kQA => ?_) rfl)
        rw [arm_eval_BinOp]
        refine wpAny_bind (wpCall1 S8 (yBltn Gd (by rfl) bltn_list (by decide)) kept_type (fun b' h' u => yName (S8.ns.keeps u.h) n1) fun d1 h9 tk9 S9 k9 => ?_)
        have Rl : Rm 6 (A.deeper (envC "MaxRectsBl._select_position" _ L 407 (.ref 406))).in1.in1 := ((R1.less (k := 8) (by decide)).in1).in1
        have pm : ((L, Own.ns mm) :: (402, .tab) :: (D2, .ns m2) :: (I2, .itr l 0) :: (D1, .ns m1) :: (I1, .itr l 0) :: O).Perm ((D1, .ns m1) :: (I1, .itr l 0) :: (L, Own.ns mm) :: (402, .tab) :: (D2, .ns m2) :: (I2, .itr l 0) :: O) :=
          List.Perm.append_right O (List.perm_append_comm (l₁ := [(L, Own.ns mm), (402, .tab), (D2, .ns m2), (I2, .itr l 0)]) (l₂ := [(D1, .ns m1), (I1, .itr l 0)]))
        have Gi1' := (Gi1 _ Rl).move (s' := { s with heap := h9, toks := tk9, gens := (s.gens.push gs1).push gs2 }) ((ga1'.keeps k9).keeps S9.base) (by simp [Array.getElem?_push])
        refine list_gen (F := fun i y b' => Cand5 b' y ⟨key 0 (rs.getD i z4) a b, a, b, rs.getD i z4⟩) (pz := fun i => (rs.getD i z4).fits a b) (hbG := c6) (C := D1) (I := I1) (l := l) (n := vs.toArray.size) (fun i y b b' k => Cand5.keep k) hn1000 R1.hd R1.room (Gd.keep k9) ((k7.trans k8).trans k9) ga1 (mC := m1) (S9.perm pm) Gi1' fun E1 ys1 d2 h10 tk10 gs10 S10 k10 pl1 _ fl1 bare10 only10 => ?_
        have cl1 := mk a b d2 ys1 fl1
        dsimp only at only10 bare10 ⊢
        have k9d2 := k9.trans k10
        refine wpAny_bind (wpAny_holding (wpCall1 S10 (yBltn (Gd.keep k9d2) (by rfl) bltn_list (by decide)) kept_type (fun b' h' u => yName (S10.ns.keeps u.h) n2) fun d3 h11 tk11 S11 k11 => ?_))
        refine wpAny_mono (Q := fun v s' => ∃ E2 ys2 d4 h12 tk12 gs12 O2, v = .ref E2 ∧ s' = { s with heap := h12, toks := tk12, gens := gs12 } ∧ St h0 hb0 d4 ((L, .ns mm) :: (402, .tab) :: O2) h12 ∧ O.Sublist O2 ∧ Keep d3 d4 ∧ d4.PlainList E2 (ys2 : List Value).toArray ∧
          CL5 d4 ys2 (if rot then candsOf 0 rs b a else []) ∧ (AllBare s.gens → AllBare gs12)) ?_ (fun v s' mid => ?_) fun _ _ e => e
        · rcases hx with ⟨hrot, rfl⟩ | ⟨hrot, plx⟩
          · have S11' : St h0 hb0 d3 ((D2, .ns m2) :: (I2, .itr l 0) :: (L, Own.ns mm) :: (402, .tab) :: O) h11 := S11.perm (List.Perm.append_right O (List.perm_append_comm (l₁ := [(L, Own.ns mm), (402, .tab)]) (l₂ := [(D2, .ns m2), (I2, .itr l 0)])))
            have k7d3 : Keep c7 d3 := k8.trans (k9d2.trans k11)
            have Gi2' := (Gi2 _ Rl).move (s' := { s with heap := h11, toks := tk11, gens := gs10 }) ((ga2.keeps k7d3).keeps S11.base) (by
              have := only10.2 (s.gens.size + 1) (by lia)
              simpa using this)
            refine list_gen (F := fun i y b' => Cand5 b' y ⟨key 0 (rs.getD i z4) b a, b, a, rs.getD i z4⟩) (pz := fun i => (rs.getD i z4).fits b a) (hbG := c7) (C := D2) (I := I2) (l := l) (n := vs.toArray.size) (fun i y b b' k => Cand5.keep k) hn1000 R1.hd R1.room (Gd.keep (k9d2.trans k11)) k7d3 ga2 (mC := m2) S11' Gi2' fun E2 ys2 d4 h12 tk12 gs12 S12 k12 pl2 _ fl2 bare12 only12 => ?_
            exact ⟨E2, ys2, d4, h12, tk12, gs12, O, rfl, rfl, S12, .refl _, k12, pl2, by rw [hrot]; exact mk b a d4 ys2 fl2, fun ab => bare12 (bare10 (AllBare.push (AllBare.push ab bare1) bare2))⟩
          · refine (yCallList (h := h11) (Heap.PlainList.isList (plx.at fun o e => S11.base _ _ ((k9d2.trans k11) _ _ e))) (by simp)).use S11.base fun v d4 h12 tk12 e r12 => ?_
            obtain ⟨E2, rfl, pl2, _⟩ := e
            exact ⟨E2, [], d4, h12, tk12, gs10, _, rfl, rfl, S11.up r12, .cons _ (.cons _ (.refl _)), r12.up.b, pl2, by rw [hrot]; trivial, fun ab => bare10 (AllBare.push (AllBare.push ab bare1) bare2)⟩
        · obtain ⟨E2, ys2, d4, h12, tk12, gs12, O2, rfl, rfl, S12, sub, k12, pl2, cl2, bare12⟩ := mid
          have cl : CL5 d4 (ys1 ++ ys2) (cands 0 rot rs a b) := (cl1.keep (k11.trans k12)).append cl2
          have pl1' : h12.PlainList E1 ys1.toArray := pl1.at fun o e => S12.base _ _ (k12 _ _ (k11 _ _ e))
          have clen := cl.length
          have cmax : (cands 0 rot rs a b).length ≤ 200 := cands_length 0 rot rs a b hz
          rw [List.length_append] at clen
          refine wpAny_bind (wpAny_standAt (wpAny_operating ((yAddLists pl1' (pl2.at fun o e => S12.base _ _ e) (by lia)).use S12.base fun v d5 h13 tk13 e r13 => ?_)))
          obtain ⟨E3, rfl, pl3, _⟩ := e
          have S13 := S12.up r13
          refine kQA _ _ ?_
          refine wpAny_storeName_local rfl S13.ns (fun h14 hn14 sb14 => ?_) rfl
          have S14 : St h0 hb0 d5 ((L, .ns (upd mm "fit" (.ref E3))) :: (402, .tab) :: O2) h14 := St.upd (pre := []) S13 (Ext.of_same sb14) hn14
          have k45d : Keep c4 d5 := k4d.trans (k9d2.trans (k11.trans (k12.trans r13.up.b)))
          have atD : (Own.idc mp n).At d5 dp := Own.At.keep at4 k45d
          have at1d : (Own.cel (some (.int b tb))).At d5 (L + 1 + 1 + 1) := Ch.keeps k45d
          have at2d : (Own.cel (some (.int a ta))).At d5 (L + 1 + 1) := Cw.keeps k45d
          have at3d : (Own.cel (some (.ref p))).At d5 (L + 1) := Cs.keeps k45d
          have oD := odd_idc atD (P.no "x" (by decide))
          have o1 := odd_cell (Ch.keeps k45d)
          have o2 := odd_cell (Cw.keeps k45d)
          have ow1 := S.own (L + 1 + 1 + 1, .cel (some (.int b tb))) mem1
          have ow2 := S.own (L + 1 + 1, .cel (some (.int a ta))) mem2
          have ow3 := S.own (L + 1, .cel (some (.ref p))) mem3
          have owD := S.own (dp, .idc mp n) (.tail _ (.tail _ mem3))
          have nd := S.nd
          simp only [List.map_cons, List.nodup_cons, List.mem_cons, not_or] at nd
          obtain ⟨e1, T1, off1, kk1⟩ := S14.thaw (a := dp) (o := .idc mp n) atD owD.2.2 (keep_none S.res.up.b owD.2.1)
          obtain ⟨e2, T2, off2, kk2⟩ := T1.thaw (a := L + 1 + 1 + 1) (o := .cel (some (.int b tb))) (at1d.off nd.2.1.2.2.2.1 off1) ow1.2.2 (keep_none S.res.up.b ow1.2.1)
          obtain ⟨e3, T3, off3, kk3⟩ := T2.thaw (a := L + 1 + 1) (o := .cel (some (.int a ta))) ((at2d.off nd.2.2.1.2.2.1 off1).off (Ne.symm nd.2.1.1) off2) ow2.2.2 (keep_none S.res.up.b ow2.2.1)
          have od2 : Odd e1 (L + 1 + 1 + 1) := odd_cell (v := some (.int b tb)) (at1d.off nd.2.1.2.2.2.1 off1)
          have at2e : (Own.cel (some (.int a ta))).At e2 (L + 1 + 1) := (at2d.off nd.2.2.1.2.2.1 off1).off (Ne.symm nd.2.1.1) off2
          have od3 : Odd e2 (L + 1 + 1) := odd_cell (v := some (.int a ta)) at2e
          have pl : e3.PlainList E3 (ys1 ++ ys2).toArray := plain_off (plain_off (plain_off pl3 oD off1) od2 off2) od3 off3
          have cl3 : CL5 e3 (ys1 ++ ys2) (cands 0 rot rs a b) := ((((cl.keep r13.up.b).off oD off1).off od2 off2).off od3 off3)
          have ke : Keep hb e3 := fun x ob e => off3 x ob (fun q => by subst q; rw [ow2.2.1] at e; cases e) (off2 x ob (fun q => by subst q; rw [ow1.2.1] at e; cases e) (off1 x ob (fun q => by subst q; rw [owD.2.1] at e; cases e) ((kc.trans k45d) x ob e)))
          have Ge := G.keep ke
          have T4 : St h0 hb0 e3 ((L, .ns (upd mm "fit" (.ref E3))) :: (L + 1 + 1 + 1, .cel (some (.int b tb))) :: (L + 1 + 1, .cel (some (.int a ta))) :: (402, .tab) :: (dp, .idc mp n) :: O) h14 := by
            refine (T3.sub (O' := (L + 1 + 1, .cel (some (.int a ta))) :: (L + 1 + 1 + 1, .cel (some (.int b tb))) :: (dp, .idc mp n) :: (L, .ns (upd mm "fit" (.ref E3))) :: (402, .tab) :: O) (.cons_cons _ (.cons_cons _ (.cons_cons _ (.cons_cons _ (.cons_cons _ sub)))))).perm (perm5 _ _ _ _ _ _)
          refine wpAny_execs_cons (absQ fun QZ kQZ => wpAny_Try_except (wpAny_execs_cons (absQ fun QY kQY => Assign_Tuple ?_)))
          rw [arm_eval_Call_Name']
          refine wpAny_bind ((yBltn Ge (by rfl) bltn_min (by decide)).use T4.base fun f e4 h15 tk15 ef r15 => ?_)
          cases ef
          have T5 := T4.up r15
          refine callWith_kw ((yIsCons (yName T5.ns rfl) yIsNil).use T5.base fun vs' e5 h16 tk16 ev r16 => ?_)
          cases ev
          have T6 := T5.up r16
          refine kws_cons ((yGlob (Ge.keep (r15.up.b.trans r16.up.b)) (by rfl)).use T6.base fun v' e6 h17 tk17 ev r17 => kws_nil ?_)
          cases ev
          have T7 := T6.up r17
          have k36 : Keep e3 e6 := r15.up.b.trans (r16.up.b.trans r17.up.b)
          have pl6 : e6.IsList E3 (ys1 ++ ys2).toArray := (pl.isList).at fun o e => k36 _ _ e
          have cl6 := cl3.keep k36
          have kfin : ∀ v d' h' tk mL vh vw, St h0 hb0 d' ((L, .ns mL) :: (L + 1 + 1 + 1, .cel vh) :: (L + 1 + 1, .cel vw) :: (402, .tab) :: (dp, .idc mp n) :: O) h' → Keep e6 d' → SelRes hb (cands 0 rot rs a b) v d' → Rr (.ok (.ret v)) { s with heap := h', toks := tk, gens := gs12 } := fun v d' h' tk mL vh vw S' k' sr =>
            k v d' h' tk gs12 (S'.sub (.cons _ (.cons _ (.cons _ (.refl _))))) (ke.trans (k36.trans k')) sr bare12
          by_cases hc0 : cands 0 rot rs a b = []
          · have hy : ys1 ++ ys2 = [] := by
              rw [hc0] at cl6
              cases hys : ys1 ++ ys2 with
              | nil => rfl
              | cons v vs' => rw [hys] at cl6; exact cl6.elim
            rw [hy] at pl6
            refine min_none R1.hd (pl6.at fun o e => T7.base _ _ e) fun e h18 tk18 N => ?_
            refine caught (outer := outer) (L := L) T7 (Ge.keep k36) N (by show A.frames.map _ = _; rw [hfr]; rfl) (fun ev hev => ?_) rfl isExc_ValueError notTuple_ValueError sub_ValueError (fun s1 Q' E' ks q => bltnRaw (Ge.keep k36) (by rfl) bltn_ValueError (by decide) s1 Q' E' ks q) fun h19 tk19 T8 => ?_
            · rcases List.mem_cons.mp hev with rfl | hev
              · exact ⟨(by intro q; cases q), L, _, rfl, .head _⟩
              · obtain ⟨q1, L', m', q2, q3⟩ := Fs ev hev
                exact ⟨q1, L', m', q2, .tail _ (.tail _ (.tail _ (.tail _ (.tail _ q3))))⟩
            · refine wRet T8 (P := ValT fun vs _ => vs = [.none, .none]) (yTup (yArgs_cons yNone fun v b1 h1 u e => yArgs_cons yNone fun v2 b2 h2 u2 e2 => yArgs_nil fun _ _ => by cases e; cases e2; rfl) (by rintro _ _ rfl; decide)) fun v d7 h20 tk20 e T9 k79 => ?_
              obtain ⟨t, _, b0, rfl, T, _, rfl⟩ := e
              exact kQZ _ _ (kfin _ d7 h20 tk20 _ _ _ T9 k79 ⟨t, .none, .none, rfl, T, .inl ⟨hc0, rfl, rfl⟩⟩)
          · have hlen : (ys1 ++ ys2).length = (cands 0 rot rs a b).length := cl6.length
            have hpos : 0 < (ys1 ++ ys2).length := by
              rw [hlen]; exact List.length_pos_iff.mpr hc0
            let kf : Nat → Int := fun i => ((cands 0 rot rs a b)[i]?.map (·.k)).getD 0
            refine min_some kf T7 (Ge.keep k36) (R1.less (by decide)) pl6 hpos (fun i v hv => ?_) fun i v h18 tk18 hv hmin T8 => ?_
            · obtain ⟨c, hc, t, τ, τx, ua, ub, am, e, T, I⟩ := cl6.at hv
              have : kf i = c.k := by show ((cands 0 rot rs a b)[i]?.map (·.k)).getD 0 = _; rw [hc]; rfl
              rw [this]
              exact ⟨t, τ, _, e, T⟩
            · obtain ⟨c, hc, t, τ, τx, ua, ub, am, rfl, T, I⟩ := cl6.at hv
              have hbest : ∀ (j : Nat) (c' : Cand), (cands 0 rot rs a b)[j]? = some c' → c.k ≤ c'.k := fun j c' hj => by
                have hj' : j < (ys1 ++ ys2).length := by rw [hlen]; exact (List.getElem?_eq_some_iff.mp hj).1
                have := (hmin j hj').1
                have e1 : kf i = c.k := by show ((cands 0 rot rs a b)[i]?.map (·.k)).getD 0 = _; rw [hc]; rfl
                have e2 : kf j = c'.k := by show ((cands 0 rot rs a b)[j]?.map (·.k)).getD 0 = _; rw [hj]; rfl
                rw [e1, e2] at this; exact this
              have hcr : 0 ≤ c.a ∧ 0 ≤ c.b := by
                have hmem := List.mem_of_getElem? hc
                unfold cands candsOf at hmem
                rcases List.mem_append.mp hmem with hm1 | hm1
                · obtain ⟨r0, _, rfl⟩ := List.mem_map.mp hm1
                  exact ⟨ha, hbp⟩
                · cases rot
                  · cases hm1
                  · obtain ⟨r0, _, rfl⟩ := List.mem_map.mp hm1
                    exact ⟨hbp, ha⟩
              refine absQE fun QT ET kT _ => ?_
              refine wpAny_assign_Tuple R1.hd (T.keep T8.base).isTuple (by rfl) (by rfl) fun h19 ex => ?_
              have T9 := T8.grow (h' := h19) (fun x o e => ex x o (Nat.ne_of_lt (Heap.lt_size e)) e)
              refine wpAny_bind (wpAny_holding (aName T9 fun h20' tk20' T9' => ?_))
              refine wpAny_bind (wpAny_holding (aName T9' fun h20 tk20 T10 => ?_))
              refine wpAny_bind (wpAny_holding (aCell (pre := [_, _]) T10 fun h21 tk21 T11 => ?_))
              refine wpAny_bind (wpAny_holding (aCell (pre := [_]) T11 fun h22 tk22 T12 => ?_))
              refine wpAny_bind (wpAny_holding (aName T12 fun h23 tk23 T13 => ?_))
              refine wpAny_pure (kT _ _ ?_)
              try dsimp only
              refine kQY _ _ ?_
              try dsimp only
              refine wNil ?_
              try dsimp only
              refine wNil ?_
              try dsimp only
              refine kQZ _ _ ?_
              try dsimp only
              have T13' : St h0 hb0 e6 ((L, .ns (upd (upd (upd (upd mm "fit" (.ref E3)) "_" (.int c.k τ)) "_" (.int c.r.x τx)) "m" (.ref am))) :: (L + 1 + 1 + 1, .cel (some (.int c.b ub))) :: (L + 1 + 1, .cel (some (.int c.a ua))) :: (402, .tab) :: (dp, .idc mp n) :: O) h23 := T13
              have G6 := Ge.keep k36
              have I6 : IsRect h23 am c.r := I.keep T13'.base
              have ch := T13'.mem (p := (L + 1 + 1 + 1, .cel (some (.int c.b ub)))) mem1
              have cw := T13'.mem (p := (L + 1 + 1, .cel (some (.int c.a ua)))) mem2
              refine wRet T13' (P := ValT fun vs b => ∃ rect dx mm, vs = [.ref rect, .ref am] ∧ NewRect hb b rect dx mm ⟨c.r.x, c.r.y, c.a, c.b⟩) ?_ fun v d7 h24 tk24 e T14 k14 => ?_
              · refine yTup (yArgs_cons (yRect G6 (R1.less (by decide)) hcr.1 hcr.2 (yGlob G6 (by rfl)) (yIntsCons (yX G6 I6 (yName T13'.ns rfl)) (yIntsCons (yY G6 I6 (yName T13'.ns rfl)) (yIntsCons ((yCell cw).mono fun _ _ _ e => ⟨ua, e⟩) (yIntsCons ((yCell ch).mono fun _ _ _ e => ⟨ub, e⟩) yIntsNil))))) fun v b1 h1 u e => yArgs_cons (yName (T13'.ns.keeps u.h) rfl) fun v2 b2 h2 u2 e2 => yArgs_nil fun b3 k3 => ?_) ?_
                · cases e2
                  obtain ⟨rect, dx, mm', rfl, N⟩ := e
                  exact ⟨rect, dx, mm', rfl, N.inst.keep (u2.b.trans k3), N.map, N.rid, keep_none (ke.trans k36) N.na, keep_none (ke.trans k36) N.nd⟩
                · rintro _ _ ⟨_, _, _, rfl, _⟩; simp
              · obtain ⟨t', vs', b0, rfl, T', kb0, rect, dx, mm', rfl, N⟩ := e
                exact kfin _ d7 h24 tk24 _ _ _ T14 k14 ⟨t', _, _, rfl, T', .inr ⟨i, c, rect, dx, mm', am, hc, hbest, rfl, ⟨N.inst.keep kb0, N.map, N.rid, N.na, N.nd⟩, rfl, I.keep k14⟩⟩
end
end Mine
end
noncomputable section
open PySem PySem.W PyProof.Rows PySem.Calls Builtin Builtin.ObjectAttr Builtin.Getset_descriptor
set_option Elab.async false
set_option maxRecDepth 100000
set_option linter.unusedVariables false
namespace Mine
theorem AllBare_id {gs : Array GenState} : AllBare gs → AllBare gs := id
theorem Frames.mono {envs : List Env} {O O' : List (Addr × Own)} (F : Frames envs O) (h : ∀ p ∈ O, p ∈ O') : Frames envs O' := fun e he => let ⟨a, L, m, b, c⟩ := F e he; ⟨a, L, m, b, h _ c⟩
section
variable {w : World} {A : Around} {hb0 h0 hb h : Heap} {env : Env} {O : List (Addr × Own)} {s : Shared} {L : Addr} {m : Str → Option Value} {pos : Pos}
theorem yTruthyInst {x C : Addr} {m : Str → Option Value} (G : Glob w hb) (I : Inst h x C m) (hs : findIn (KK w) (.ref C) "__bool__" = some none) (hl : findIn (KK w) (.ref C) "__len__" = some none) : Y w A hb h (truthy (.ref x)) (Is true) :=
  yTok fun s Q E kb ks q => by
    obtain ⟨ox, od, I', _⟩ := (I.keep ks).at
    have X := G.K.keeps kb
    unfold truthy
    refine wpAny_bind (m := callSpecial? (.ref x) (Str.ofString "__bool__")) (wpAny_bind (wpAny_bind (I'.type.here ((looks_findIn X hs).here (wpAny_pure ?_)))))
    refine wpAny_bind (wpAny_bind (I'.type.here ((looks_findIn X hl).here ?_)))
    exact wpAny_pure (q _ s.toks fun _ _ => rfl)
theorem wpMethIs {o : Expr} {name : Str} {apos : Pos} {pl : Sem Bool} {x C₀ f : Addr} {mx : Str → Option Value} {e : Expr} {r : List Expr} {vs : List Value} {Q : Value → Shared → Prop} {E : Value → Shared → Prop} (S : St h0 hb0 hb O s.heap) (G : Glob w hb)
    (yo : Y w A hb s.heap (eval o env) (Is (.ref x))) (I : Inst s.heap x C₀ mx) (M : Mth w C₀ name f) (hm : mx name = none)
    (hk : keepIn (KK w) (.ref f) = true) (ya : ∀ b' h', Up hb s.heap b' h' → Y w A b' h' (spliced (backTo pos (starEach (e :: r) env))) (Is vs))
    (k : ∀ b' h' tk, St h0 hb0 b' O h' → Keep hb b' → codeAny (model PG w) A (.call (.ref f) ⟨.ref x :: vs, []⟩) (fun r s' => match r with | .ok (.ret v) => Q v s' | .ok _ => False | .error e => E e s') { s with heap := h', toks := tk })
    (he : starEach (e :: r) env = (false, eval e env) :: starEach r env := by rfl) (hplain : ((backTo pos (starEach (e :: r) env)).any (·.1) || (backToKw pos (keywordEach [] env)).any (·.1.isNone)) = false := by rfl)
    (ht : eval (.Call (.Attribute o name apos) (e :: r) [] pos) env = (do
      let ov ← eval o env
      PySem.standAt apos.atName
      let (f, first) ← PySem.holding [ov] (getMethod ov name pl)
      callWith pos f first (backTo pos (starEach (e :: r) env)) (backToKw pos (keywordEach [] env))) := by rfl) :
    wpAny (model PG w) A (eval (.Call (.Attribute o name apos) (e :: r) [] pos) env) Q E s := by
  rw [ht]
  refine wpAny_bind (yo.use S.base fun v b1 h1 tk1 e1 r1 => ?_)
  cases e1
  have S1 := S.up r1
  refine wpAny_bind (wpAny_standAt (wpAny_bind ((yHolding (yMethod (G.keep r1.up.b) (I.keep r1.up.h) M hm)).use S1.base fun fx b2 h2 tk2 e2 r2 => ?_)))
  cases e2
  have S2 := S1.up r2
  refine callWith_of (P := fun h' => Keep b2 h') hplain (fun h' kk => kept_K G hk h' ((r1.up.b.trans r2.up.b).trans kk)) ((yEvalArgs (ya b2 h2 (r1.up.trans r2.up)) he).use S2.base fun a b3 h3 tk3 p3 r3 => ?_)
  obtain ⟨ek, ep⟩ := p3
  have S3 := S2.up r3
  refine ⟨r3.up.b.trans S3.base, ?_⟩
  rw [ek]
  cases ep
  exact wpAny_call (k b3 h3 tk3 S3 ((r1.up.b.trans r2.up.b).trans r3.up.b))
theorem wpMeth0 {o : Expr} {name : Str} {apos : Pos} {pl : Sem Bool} {x C₀ f : Addr} {mx : Str → Option Value} {Q : Value → Shared → Prop} {E : Value → Shared → Prop} (S : St h0 hb0 hb O s.heap) (G : Glob w hb)
    (yo : Y w A hb s.heap (eval o env) (Is (.ref x))) (I : Inst s.heap x C₀ mx) (M : Mth w C₀ name f) (hm : mx name = none) (hk : keepIn (KK w) (.ref f) = true)
    (k : ∀ b' h' tk, St h0 hb0 b' O h' → Keep hb b' → codeAny (model PG w) A (.call (.ref f) ⟨[.ref x], []⟩) (fun r s' => match r with | .ok (.ret v) => Q v s' | .ok _ => False | .error e => E e s') { s with heap := h', toks := tk })
    (ht : eval (.Call (.Attribute o name apos) [] [] pos) env = (do
      let ov ← eval o env
      PySem.standAt apos.atName
      let (f, first) ← PySem.holding [ov] (getMethod ov name pl)
      callWith pos f first (backTo pos (starEach [] env)) (backToKw pos (keywordEach [] env))) := by rfl) :
    wpAny (model PG w) A (eval (.Call (.Attribute o name apos) [] [] pos) env) Q E s := by
  rw [ht]
  refine wpAny_bind (yo.use S.base fun v b1 h1 tk1 e1 r1 => ?_)
  cases e1
  have S1 := S.up r1
  refine wpAny_bind (wpAny_standAt (wpAny_bind ((yHolding (yMethod (G.keep r1.up.b) (I.keep r1.up.h) M hm)).use S1.base fun fx b2 h2 tk2 e2 r2 => ?_)))
  cases e2
  have S2 := S1.up r2
  refine callWith_of (P := fun h' => Keep b2 h') rfl (fun h' kk => kept_K G hk h' ((r1.up.b.trans r2.up.b).trans kk)) (((yEvalArgs0 (R := fun vs _ => vs = []) fun _ _ => rfl).keep (r1.up.trans r2.up)).use S2.base fun a b3 h3 tk3 p3 r3 => ?_)
  obtain ⟨ek, ep⟩ := p3
  have S3 := S2.up r3
  refine ⟨r3.up.b.trans S3.base, ?_⟩
  rw [ek, ep, List.append_nil]
  exact wpAny_call (k b3 h3 tk3 S3 ((r1.up.b.trans r2.up.b).trans r3.up.b))
theorem m_sel {C p dp l rl : Addr} {mp : Str → Option Value} {n : Nat} {vs : List Value} {rs : List R4} {rot : Bool} {wd ht a b : Int} {ta tb : Tok} {way : Nat} {Rr : Result → Shared → Prop} {outer : List Env} (hway : way < 4)
    (S : St h0 hb0 hb ((341, .tab) :: (402, .tab) :: (dp, .idc mp n) :: O) s.heap) (G : Glob w hb) (R : Rm 12 A) (K : PkW w C way) (hfr : A.frames = some outer) (Fs : Frames outer O)
    (ho : hb.get? p = some (instObj C dp)) (hn : n ≤ 50) (P : PMap mp l rl rot wd ht) (hl : hb.PlainList l vs.toArray) (hr : Rects hb vs rs) (hz : rs.length ≤ 100) (hm : ∀ r ∈ rs, IntMulOk r.w r.h ∧ 0 ≤ r.w ∧ 0 ≤ r.h) (hab : IntMulOk a b ∧ IntMulOk b a) (ha : 0 ≤ a) (hbp : 0 ≤ b)
    (k : ∀ v b' h' tk gs, St h0 hb0 b' ((341, .tab) :: (402, .tab) :: (dp, .idc mp n) :: O) h' → Keep hb b' → SelRes hb (cands way rot rs a b) v b' → (AllBare s.gens → AllBare gs) → Rr (.ok (.ret v)) { s with heap := h', toks := tk, gens := gs }) :
    codeAny (model PG w) A (.call (.ref (selFn way)) ⟨[.ref p, .int a ta, .int b tb], []⟩) Rr s := by
  have Ft : ∀ q : Addr × Own, Frames outer (q :: O) := fun q => Fs.mono fun _ m => .tail _ m
  have p1 : ((341, Own.tab) :: (402, .tab) :: (dp, .idc mp n) :: O).Perm ((341, .tab) :: (dp, .idc mp n) :: (402, .tab) :: O) := .cons _ (.swap _ _ _)
  have p2 : ((341, Own.tab) :: (402, .tab) :: (dp, .idc mp n) :: O).Perm ((402, .tab) :: (dp, .idc mp n) :: (341, .tab) :: O) := (List.Perm.swap _ _ _).trans (.cons _ (.swap _ _ _))
  by_cases h0' : way = 0
  · subst h0'
    exact m_selBl (S.perm p2) G R K hfr (Ft _) ho hn P hl hr hz hm hab ha hbp fun v b' h' tk gs S' => k v b' h' tk gs (S'.perm p2.symm)
  · have e : selFn way = 346 := by
      match way, h0' with
      | n + 1, _ => rfl
    rw [e]
    exact m_selB hway h0' (S.perm p1) G R K hfr (Ft _) ho hn P hl hr hz hm hab ha hbp fun v b' h' tk gs S' => k v b' h' tk gs (S'.perm p1.symm)
end
end Mine
end
noncomputable section
open PySem PySem.W PyProof.Rows PySem.Calls Builtin Builtin.ObjectAttr Builtin.Getset_descriptor
set_option Elab.async false
set_option maxRecDepth 100000
set_option linter.unusedVariables false
namespace Mine
theorem cand_mem {way : Nat} {rot : Bool} {rs : List R4} {a b : Int} {c : Cand} (h : c ∈ cands way rot rs a b) : c.r ∈ rs ∧ c.r.fits c.a c.b = true ∧ c.k = key way c.r c.a c.b ∧ ((c.a = a ∧ c.b = b) ∨ (rot = true ∧ c.a = b ∧ c.b = a)) := by
  unfold cands candsOf at h
  rcases List.mem_append.mp h with hm1 | hm1
  · obtain ⟨r0, hr, rfl⟩ := List.mem_map.mp hm1
    obtain ⟨q1, q2⟩ := List.mem_filter.mp hr
    exact ⟨q1, q2, rfl, .inl ⟨rfl, rfl⟩⟩
  · cases rot
    · cases hm1
    · obtain ⟨r0, hr, rfl⟩ := List.mem_map.mp hm1
      obtain ⟨q1, q2⟩ := List.mem_filter.mp hr
      exact ⟨q1, q2, rfl, .inr ⟨rfl, rfl, rfl⟩⟩
def Best (cs : List Cand) (c : Cand) : Prop := c ∈ cs ∧ ∀ c' ∈ cs, c.k ≤ c'.k
theorem best_of {cs : List Cand} {i : Nat} {c : Cand} (hi : cs[i]? = some c) (h : ∀ (j : Nat) (c' : Cand), cs[j]? = some c' → c.k ≤ c'.k) : Best cs c :=
  ⟨List.mem_of_getElem? hi, fun c' m => let ⟨j, e⟩ := List.mem_iff_getElem?.mp m; h j c' e⟩
def FitRes (way : Nat) (cs : List Cand) (v : Value) : Prop := (cs = [] ∧ v = .none) ∨ ∃ c t, Best cs c ∧ v = .int (val way c.r c.a c.b) t
section
variable {w : World} {A : Around} {hb0 h0 hb h : Heap} {env : Env} {O : List (Addr × Own)} {s : Shared} {L : Addr} {m : Str → Option Value} {pos : Pos}
theorem yIsNone {v : Value} : Y w A hb h (compareOp .Is v .none) (Is (.bool (v == .none))) := yTok fun s Q E kb kh q => PyProof.Rows.is_none_gen (q _ s.toks fun _ _ => rfl)
theorem fit_perm {α : Type} (x a b c : α) (l : List α) : (x :: a :: b :: c :: l).Perm (a :: b :: c :: x :: l) := (List.Perm.swap _ _ _).trans (.cons _ ((List.Perm.swap _ _ _).trans (.cons _ (.swap _ _ _))))
theorem m_fitness {C p dp l rl : Addr} {mp : Str → Option Value} {n : Nat} {vs : List Value} {rs : List R4} {rot : Bool} {wd ht a b : Int} {ta tb : Tok} {way : Nat} {Rr : Result → Shared → Prop} {outer : List Env} (hway : way < 4)
    (S : St h0 hb0 hb ((341, .tab) :: (402, .tab) :: (dp, .idc mp n) :: O) s.heap) (G : Glob w hb) (R : Rm 13 A) (K : PkW w C way) (hfr : A.frames = some outer) (Fs : Frames outer O)
    (ho : hb.get? p = some (instObj C dp)) (hn : n ≤ 50) (P : PMap mp l rl rot wd ht) (hl : hb.PlainList l vs.toArray) (hr : Rects hb vs rs) (hz : rs.length ≤ 100) (hm : ∀ r ∈ rs, IntMulOk r.w r.h ∧ 0 ≤ r.w ∧ 0 ≤ r.h) (hab : IntMulOk a b ∧ IntMulOk b a) (ha : 0 < a) (hbp : 0 < b)
    (k : ∀ v b' h' tk gs, St h0 hb0 b' ((341, .tab) :: (402, .tab) :: (dp, .idc mp n) :: O) h' → Keep hb b' → FitRes way (cands way rot rs a b) v → (AllBare s.gens → AllBare gs) → Rr (.ok (.ret v)) { s with heap := h', toks := tk, gens := gs }) :
    codeAny (model PG w) A (.call (.ref 372) ⟨[.ref p, .int a ta, .int b tb], []⟩) Rr s := by
  refine callM (binds := [("self", .ref p), ("width", .int a ta), ("height", .int b tb)]) S G R (by rfl) (by kernel_rfl) (BindsTo.of_eq rfl) rfl fun h1 tk1 L R1 S k1 E => ?_
  refine wpAny_mono (E := fun _ _ => False) ?_ (fun _ _ x => x) fun _ _ f => f.elim
  refine wAssert S R1.hd ?_ fun b1 h1 tk1 S1 k1 => ?_
  · refine yEq (yTestBoolOp (yAndCons (yTestCompare (yCmp (yNameI S.ns rfl) yInt)) fun _ => yAndCons (yTestCompare (yCmp (yNameI S.ns rfl) yInt)) fun _ => yAndNil)) ?_
    simp [cmpB, ha, hbp]
  have I1 : Inst h1 p C mp := S1.inst (k1 _ _ ho) mem3 (by lia)
  have G1 := G.keep k1
  refine wpAny_execs_cons (Assign_Tuple ?_)
  refine wpMethIs S1 G1 (yName S1.ns rfl) I1 K.selm (P.no _ (by decide)) (by unfold selFn; split <;> kernel_rfl) (fun b' h' u => yIsCons (yName (S1.ns.keeps u.h) rfl) (yIsCons (yName (S1.ns.keeps u.h) rfl) yIsNil)) fun b2 h2 tk2 S2 k2 => ?_
  have k12 := k1.trans k2
  refine m_sel (s := { s with heap := h2, toks := tk2 }) hway (S2.perm (fit_perm _ _ _ _ _)) (G.keep k12) R1 K (by show A.frames.map _ = _; rw [hfr]; rfl) (fun ev hev => ?_) (k12 _ _ ho) hn P (hl.at fun o e => k12 _ _ e) (hr.keep k12) hz hm hab (Int.le_of_lt ha) (Int.le_of_lt hbp) fun v b3 h3 tk3 gs S3 k3 sr bare => ?_
  · rcases List.mem_cons.mp hev with rfl | hev
    · exact ⟨(by intro q; cases q), L, _, rfl, .head _⟩
    · obtain ⟨q1, L', m', q2, q3⟩ := Fs ev hev
      exact ⟨q1, L', m', q2, .tail _ q3⟩
  have S3 := S3.perm (fit_perm _ _ _ _ _).symm
  obtain ⟨t, u1, u2, rfl, T, sr⟩ := sr
  dsimp only
  refine aTup [("rect", _), ("max_rect", _)] [u1, u2] S3 R1.hd (T.keep S3.base) fun h4 tk4 S4 => ?_
  have k13 := k12.trans k3
  have n1 : updAll (fun y => List.lookup y (([("self", .ref p), ("width", .int a ta), ("height", .int b tb)] : List (Str × Value)).reverse)) ["rect", "max_rect"] [u1, u2] "rect" = some u1 := rfl
  refine wIf (b := u1 == .none) S4 (yTestCompare (yCompare (P1 := Is u1) (P2 := Is .none) (yName S4.ns rfl) (fun _ _ _ _ _ => yNone) fun v1 v2 b1 h1 b2 h2 _ _ e1 e2 => by cases e1; cases e2; exact yIsNone)) (fun hb' b5 h5 tk5 S5 k5 => ?_) fun hb' b5 h5 tk5 S5 k5 => ?_
  · rcases sr with ⟨e1, rfl, rfl⟩ | ⟨i, c, rect, dx, mm, am, _, _, rfl, _⟩
    · refine wRet S5 (P := Is .none) yNone fun v b6 h6 tk6 e S6 k6 => ?_
      cases e
      exact k _ _ _ _ _ (S6.sub (.cons _ (.refl _))) (k13.trans (k5.trans k6)) (.inl ⟨e1, rfl⟩) bare
    · cases hb'
  · rcases sr with ⟨e1, rfl, rfl⟩ | ⟨i, c, rect, dx, mm, am, hi, hmin, rfl, N, rfl, I⟩
    · cases hb'
    · have hb' := best_of hi hmin
      obtain ⟨q1, q2, q3, q4⟩ := cand_mem hb'.1
      have Nr := N.inst.keep k5
      have I5 := I.keep k5
      obtain ⟨tw, ew⟩ := N.map.w
      obtain ⟨th, eh⟩ := N.map.h
      have ic : IntMulOk c.a c.b := by rcases q4 with ⟨e1, e2⟩ | ⟨_, e1, e2⟩ <;> rw [e1, e2] <;> first | exact hab.1 | exact hab.2
      have G5 := G.keep (k13.trans k5)
      refine wRet S5 (yRectFit hway G5 (R1.less (by decide)) K (S5.inst ((k13.trans k5) _ _ ho) (.tail _ mem2) (by lia)) (P.no _ (by decide)) (I5.keep S5.base) (hm _ q1).1 ic (yName S5.ns rfl) (yName S5.ns rfl) (yGetField G5 (yName S5.ns rfl) ((Nr.inst (by decide)).keep S5.base) (fld_w w) ew rfl) (yGetField G5 (yName S5.ns rfl) ((Nr.inst (by decide)).keep S5.base) (fld_h w) eh rfl)) fun v b6 h6 tk6 e S6 k6 => ?_
      refine k _ _ _ _ _ (S6.sub (.cons _ (.refl _))) (k13.trans (k5.trans k6)) (.inr ?_) bare
      unfold fitW at e; rw [if_pos q2] at e
      obtain ⟨τ, rfl⟩ := e
      exact ⟨c, τ, hb', rfl⟩
end
end Mine
end
noncomputable section
open PySem PySem.W PyProof.Rows PySem.Calls Builtin Builtin.ObjectAttr Builtin.Getset_descriptor
set_option Elab.async false
set_option maxRecDepth 100000
set_option linter.unusedVariables false
namespace Mine
theorem RMap.rid {m : Str → Option Value} {r : R4} {v : Value} (M : RMap m r) : RMap (upd m "rid" v) r := ⟨M.x, M.y, M.w, M.h, M.o⟩
theorem idc_ne {h : Heap} {a dx C d : Addr} {m : Str → Option Value} {n : Nat} (D : (Own.idc m n).At h dx) (e : h.get? a = some ⟨.ref C, some d, .plain, #[]⟩) : a ≠ dx := fun q => by
  obtain ⟨es, ep, e', _⟩ := D
  rw [q, e'] at e; cases e
theorem plain_ne {h : Heap} {a dx : Addr} {xs : Array Value} {m : Str → Option Value} {n : Nat} (D : (Own.idc m n).At h dx) (e : h.PlainList a xs) : a ≠ dx := fun q => by
  obtain ⟨es, ep, e', _⟩ := D
  obtain ⟨k, e⟩ := e
  rw [q, e'] at e; simp at e
theorem IsRect.rid {b c : Heap} {a dx : Addr} {r : R4} {mm : Str → Option Value} {v : Value} (I : IsRect b a r) (D : (Own.idc mm 10).At b dx) (D' : (Own.idc (upd mm "rid" v) 10).At c dx) (off : Off dx b c) : IsRect c a r := by
  obtain ⟨m, ⟨d, i⟩, M⟩ := I
  have na := idc_ne D i.obj
  by_cases h : d = dx
  · subst h
    obtain ⟨es, ep, b1, b2, b3, b4⟩ := i.dict
    obtain ⟨es', ep', c1, c2, c3, c4⟩ := D
    rw [b1] at c1; cases c1
    have e : m = mm := funext fun x => (b3 x).symm.trans (c3 x)
    subst e
    obtain ⟨fs, fp, d1, d2, d3, d4⟩ := D'
    exact ⟨_, ⟨d, off _ _ na i.obj, fs, fp, d1, d2, d3, by lia⟩, M.rid⟩
  · obtain ⟨es, ep, b1, b2⟩ := i.dict
    exact ⟨m, ⟨d, off _ _ na i.obj, es, ep, off _ _ h b1, b2⟩, M⟩
theorem Rects.rid {b c : Heap} {dx : Addr} {mm : Str → Option Value} {v : Value} (D : (Own.idc mm 10).At b dx) (D' : (Own.idc (upd mm "rid" v) 10).At c dx) (off : Off dx b c) {vs : List Value} {rs : List R4} (x : Rects b vs rs) : Rects c vs rs :=
  L2.mono (fun _ _ ⟨a, e, I⟩ => ⟨a, e, I.rid D D' off⟩) x
inductive IsLaid (b : Heap) (a : Addr) (r : R4) (k : Int) : Prop
  | mk (m : Str → Option Value) (i : Inst b a 203 m) (M : RMap m r) (t : ∃ t, m "rid" = some (.int k t))
theorem IsLaid.keep {b c : Heap} {a : Addr} {r : R4} {k : Int} (x : IsLaid b a r k) (q : Keep b c) : IsLaid c a r k := let ⟨m, i, M, t⟩ := x; ⟨m, i.keep q, M, t⟩
theorem IsLaid.rect {b : Heap} {a : Addr} {r : R4} {k : Int} (x : IsLaid b a r k) : IsRect b a r := let ⟨m, i, M, t⟩ := x; ⟨m, i, M⟩
def Cand.at_ (c : Cand) : R4 := ⟨c.r.x, c.r.y, c.a, c.b⟩
section
variable {w : World} {A : Around} {hb0 h0 hb h : Heap} {env : Env} {O : List (Addr × Own)} {s : Shared} {L : Addr} {m : Str → Option Value} {pos : Pos}
theorem m_add {C p dp l rl : Addr} {mp : Str → Option Value} {n : Nat} {vs : List Value} {rs : List R4} {rot : Bool} {wd ht a b kk : Int} {ta tb tk0 : Tok} {way : Nat} {xs : Array Value} {Rr : Result → Shared → Prop} {outer : List Env} (hway : way < 4)
    (S : St h0 hb0 hb ((341, .tab) :: (402, .tab) :: (dp, .idc mp n) :: (rl, .lst xs) :: O) s.heap) (G : Glob w hb) (R : Rm 13 A) (K : PkW w C way) (hfr : A.frames = some outer) (Fs : Frames outer O)
    (ho : hb.get? p = some (instObj C dp)) (hn : n ≤ 50) (P : PMap mp l rl rot wd ht) (hl : hb.PlainList l vs.toArray) (hr : Rects hb vs rs) (hz : rs.length ≤ 100) (hm : ∀ r ∈ rs, IntMulOk r.w r.h ∧ 0 ≤ r.w ∧ 0 ≤ r.h) (hab : IntMulOk a b ∧ IntMulOk b a) (ha : 0 < a) (hbp : 0 < b) (hxs : xs.size ≤ 1000)
    (k0 : ∀ b' h' tk gs, St h0 hb0 b' ((341, .tab) :: (402, .tab) :: (dp, .idc mp n) :: (rl, .lst xs) :: O) h' → Keep hb b' → cands way rot rs a b = [] → (AllBare s.gens → AllBare gs) → Rr (.ok (.ret .none)) { s with heap := h', toks := tk, gens := gs })
    (k : ∀ c rect l' vs' b' h' tk gs, Best (cands way rot rs a b) c → St h0 hb0 b' ((341, .tab) :: (402, .tab) :: (dp, .idc (upd mp "_max_rects" (.ref l')) n) :: (rl, .lst (xs.push (.ref rect))) :: O) h' → Keep hb b' → b'.PlainList l' vs'.toArray →
      Rects b' vs' (prune (rs.flatMap (cut c.at_))) → IsLaid b' rect c.at_ kk → (AllBare s.gens → AllBare gs) → Rr (.ok (.ret (.ref rect))) { s with heap := h', toks := tk, gens := gs }) :
    codeAny (model PG w) A (.call (.ref 380) ⟨[.ref p, .int a ta, .int b tb, .int kk tk0], []⟩) Rr s := by
  have Gs := G.keep S.base
  refine callM (binds := [("self", .ref p), ("width", .int a ta), ("height", .int b tb), ("rid", .int kk tk0)]) S G R (by rfl) (by kernel_rfl) (binds_K Gs.K rfl (by rfl) rfl rfl rfl) rfl fun h1 tk1 L R1 S k1 E => ?_
  refine wpAny_mono (E := fun _ _ => False) ?_ (fun _ _ x => x) fun _ _ f => f.elim
  refine wAssert S R1.hd ?_ fun b1 h1 tk1 S1 k1 => ?_
  · refine yEq (yTestBoolOp (yAndCons (yTestCompare (yCmp (yNameI S.ns rfl) yInt)) fun _ => yAndCons (yTestCompare (yCmp (yNameI S.ns rfl) yInt)) fun _ => yAndNil)) ?_
    simp [cmpB, ha, hbp]
  have I1 : Inst h1 p C mp := S1.inst (k1 _ _ ho) mem3 (by lia)
  have G1 := G.keep k1
  refine wpAny_execs_cons (Assign_Tuple ?_)
  refine wpMethIs S1 G1 (yName S1.ns rfl) I1 K.selm (P.no _ (by decide)) (by unfold selFn; split <;> kernel_rfl) (fun b' h' u => yIsCons (yName (S1.ns.keeps u.h) rfl) (yIsCons (yName (S1.ns.keeps u.h) rfl) yIsNil)) fun b2 h2 tk2 S2 k2 => ?_
  have k12 := k1.trans k2
  refine m_sel (s := { s with heap := h2, toks := tk2 }) hway (S2.perm (fit_perm _ _ _ _ _)) (G.keep k12) R1 K (by show A.frames.map _ = _; rw [hfr]; rfl) (fun ev hev => ?_) (k12 _ _ ho) hn P (hl.at fun o e => k12 _ _ e) (hr.keep k12) hz hm hab (Int.le_of_lt ha) (Int.le_of_lt hbp) fun v b3 h3 tk3 gs S3 k3 sr bare => ?_
  · rcases List.mem_cons.mp hev with rfl | hev
    · exact ⟨(by intro q; cases q), L, _, rfl, .head _⟩
    · obtain ⟨q1, L', m', q2, q3⟩ := Fs ev hev
      exact ⟨q1, L', m', q2, .tail _ (.tail _ q3)⟩
  have S3 := S3.perm (fit_perm _ _ _ _ _).symm
  obtain ⟨t, u1, u2, rfl, T, sr⟩ := sr
  dsimp only
  refine aTup [("rect", _), ("_", _)] [u1, u2] S3 R1.hd (T.keep S3.base) fun h4 tk4 S4 => ?_
  have k13 := k12.trans k3
  have n1 : updAll (fun y => List.lookup y (([("self", .ref p), ("width", .int a ta), ("height", .int b tb), ("rid", .int kk tk0)] : List (Str × Value)).reverse)) ["rect", "_"] [u1, u2] "rect" = some u1 := rfl
  refine wIf (b := u1 == .none) S4 (yEq (yTestNot (b := !(u1 == .none)) (yTest_value (P := Is u1) (yName S4.ns rfl) fun v b1 h1 u e => ?_)) (Bool.not_not _)) (fun hb' b5 h5 tk5 S5 k5 => ?_) fun hb' b5 h5 tk5 S5 k5 => ?_
  · cases e
    rcases sr with ⟨e1, rfl, rfl⟩ | ⟨i, c, rect, dx, mm, am, _, _, rfl, N, _⟩
    · exact yTok fun s Q E kb kh q => truthy_none (q _ s.toks fun _ _ => rfl)
    · exact yTruthyInst (G.keep (k13.trans u.b)) (((N.inst.inst (by decide)).keep S4.base).keep u.h) (by kernel_rfl) (by kernel_rfl)
  · rcases sr with ⟨e1, rfl, rfl⟩ | ⟨i, c, rect, dx, mm, am, _, _, rfl, _⟩
    · refine wRet S5 (P := Is .none) yNone fun v b6 h6 tk6 e S6 k6 => ?_
      cases e
      exact k0 _ _ _ _ (S6.sub (.cons _ (.refl _))) (k13.trans (k5.trans k6)) e1 bare
    · cases hb'
  · rcases sr with ⟨e1, rfl, rfl⟩ | ⟨i, c, rect, dx, mm, am, hi, hmin, rfl, N, rfl, I⟩
    · cases hb'
    · have best := best_of hi hmin
      obtain ⟨q1, q2, q3, q4⟩ := cand_mem best.1
      have k15 := k13.trans k5
      have G5 := G.keep k15
      have N5 : IsRect b5 rect c.at_ := N.isRect.keep k5
      have lsp : (rs.flatMap (cut c.at_)).length ≤ 400 := by
        have := flatMap_le (cut_length c.at_) rs; lia
      have pm : ∀ {α : Type} (x a b d : α) (l : List α), (x :: a :: b :: d :: l).Perm (d :: x :: a :: b :: l) := fun x a b d l => List.perm_middle (l₁ := [x, a, b])
      refine wpAny_execs_cons (wpAny_Expr_any (wpMethIs S5 G5 (yName S5.ns rfl) (S5.inst (k15 _ _ ho) mem3 (by lia)) K.split (P.no _ (by decide)) (by kernel_rfl) (fun b' h' u => yIsCons (yName (S5.ns.keeps u.h) n1) yIsNil) fun b6 h6 tk6 S6 k6 => ?_))
      have k16 := k15.trans k6
      refine m_split (s := { s with heap := h6, toks := tk6, gens := gs }) (S6.perm (pm _ _ _ _ _)) (G.keep k16) (R1.less (by decide)) K.toPk (k16 _ _ ho) hn P (hl.at fun o e => k16 _ _ e) (hr.keep k16) hz (fun r hr => (hm r hr).2) (N5.keep k6) fun l1 vs1 b7 h7 tk7 S7 k7 hl7 hr7 => ?_
      have S7 := S7.perm (pm _ _ _ _ _).symm
      have k17 := k16.trans k7
      have P7 : PMap (upd mp "_max_rects" (.ref l1)) l1 rl rot wd ht := P.set
      dsimp only
      refine wpAny_execs_cons (wpAny_Expr_any (wpMeth0 S7 (G.keep k17) (yName S7.ns rfl) (S7.inst (k17 _ _ ho) mem3 (by lia)) K.rem (P7.no _ (by decide)) (by kernel_rfl) fun b8 h8 tk8 S8 k8 => ?_))
      have k18 := k17.trans k8
      refine m_prune (s := { s with heap := h8, toks := tk8, gens := gs }) (S8.perm (pm _ _ _ _ _)) (G.keep k18) (R1.less (by decide)) K.toPk (k18 _ _ ho) hn P7 (hl7.at fun o e => k8 _ _ e) (hr7.keep k8) lsp fun l2 vs2 b9 h9 tk9 S9 k9 hl9 hr9 => ?_
      have S9 := S9.perm (pm _ _ _ _ _).symm
      have k19 := k18.trans k9
      dsimp only
      have k39 : Keep b3 b9 := k5.trans (k6.trans (k7.trans (k8.trans k9)))
      have N9 := N.inst.keep k39
      have hd : hb.get? dx = none := keep_none k12 N.nd
      have hd0 : hb0.get? dx = none := keep_none S.res.up.b hd
      have D9 : (Own.idc mm 10).At b9 dx := N9.dict
      obtain ⟨od, hod⟩ := D9.some
      have h0n : h0.get? dx = none := by
        cases e : h0.get? dx with
        | none => rfl
        | some o => rw [S9.res.new dx o e hd0] at hod; cases hod
      obtain ⟨c1, T1, off1, kk1⟩ := S9.thaw (a := dx) (o := .idc mm 10) D9 h0n hd0
      have kc1 : Keep hb c1 := fun x ob e => off1 x ob (fun q => by subst q; rw [hd] at e; cases e) (k19 x ob e)
      have Gc := G.keep kc1
      have rc1 : c1.get? rect = some (instObj 203 dx) := off1 _ _ (idc_ne D9 N9.obj) N9.obj
      refine wSetF (pre := []) (x := rect) (n := 10) T1 Gc (T1.base _ _ rc1) (by decide) (yName (T1.mem (p := (L, _)) mem1) rfl) (fun b' h' S' _ => yName (S'.mem (p := (L, _)) mem1) n1) (setF_rid w) fun v b10 h10 tk10 e S10 k10 _ => ?_
      obtain ⟨_, _, rfl⟩ := e
      rw [N.rid] at S10
      obtain ⟨b11, S11, k11, D11⟩ := St.freeze (pre := []) S10
      have kc11 := k10.trans k11
      have off : Off dx b9 b11 := fun x ob n e => kc11 _ _ (off1 x ob n e)
      have k111 := kc1.trans kc11
      have S11 : St h0 hb0 b11 ((L, .ns _) :: (341, .tab) :: (402, .tab) :: (dp, .idc (upd (upd mp "_max_rects" (.ref l1)) "_max_rects" (.ref l2)) n) :: (rl, .lst xs) :: O) h10 := S11
      have P9 : PMap (upd (upd mp "_max_rects" (.ref l1)) "_max_rects" (.ref l2)) l2 rl rot wd ht := P7.set
      have laid : IsLaid b11 rect c.at_ kk := ⟨upd mm "rid" (.int kk tk0), ⟨dx, kc11 _ _ rc1, let ⟨es, ep, a1, a2, a3, a4⟩ := D11; ⟨es, ep, a1, a2, a3, Nat.le_trans a4 (by decide)⟩⟩, N.map.rid, tk0, rfl⟩
      have hr11 : Rects b11 vs2 (prune (rs.flatMap (cut c.at_))) := hr9.rid D9 D11 off
      have hl11 : b11.PlainList l2 vs2.toArray := let ⟨nn, e⟩ := hl9; ⟨nn, off _ _ (plain_ne D9 hl9) e⟩
      refine wAppend (pre := [_, _, _, _]) (post := O) S11 (by lia) (yGetField (G.keep k111) (yName S11.ns rfl) (S11.inst (k111 _ _ ho) mem3 (by lia)) K.frl P9.rl rfl) (fun b' h' S' _ => yName S'.ns n1) fun v b12 h12 tk12 e S12 k12' => ?_
      cases e
      refine wRet S12 (P := Is (.ref rect)) (yName S12.ns n1) fun v b13 h13 tk13 e S13 k13' => ?_
      cases e
      have kf := k12'.trans k13'
      have eu : upd (upd mp "_max_rects" (.ref l1)) "_max_rects" (.ref l2) = upd mp "_max_rects" (.ref l2) := by funext x; unfold upd; split <;> rfl
      rw [eu] at S13
      exact k c rect l2 vs2 b13 h13 tk13 gs best (S13.sub (.cons _ (.refl _))) (k111.trans kf) (hl11.at fun o e => kf _ _ e) (hr11.keep kf) (laid.keep kf) bare
end
end Mine
end
noncomputable section
open PySem PySem.W PyProof.Rows PySem.Calls Builtin Builtin.ObjectAttr Builtin.Getset_descriptor
set_option Elab.async false
set_option maxRecDepth 100000
set_option linter.unusedVariables false
namespace Mine
def FY (hF : Heap) (C I l : Addr) (xs : Array Value) : Protocol := fun m s0 v s kap =>
  ∃ i, xs[i]? = some v ∧ m = xs.size - (i + 1) ∧ (∃ h' tk, s = { s0 with heap := h', toks := tk }) ∧ Ext2 C I s0.heap s.heap ∧ GInv hF C I l (i + 1) s.heap ∧ ∀ s'' : Shared, GInv hF C I l (i + 1) s''.heap → kap (.send .none) s''
def FR (C I : Addr) : GenEnd := fun n s0 r s1 => r = .ok (.ret .none) ∧ (n = 0 ∧ (∃ h' tk, s1 = { s0 with heap := h', toks := tk }) ∧ Ext2 C I s0.heap s1.heap)
section
variable {w : World} {A : Around}
theorem seg_for {hF : Heap} {C I l : Addr} {xs : Array Value} {env : Env} {x : Str} {px py pe pp : Pos} {F : Frame} {kf : Result → Sem Fin} {c0 : Code}
    (hh : ∀ c, (A.over c [F]).handled = none) (hF1 : splitAtGen [F] = none) (hF2 : [F].any Frame.guarded = false) (hFk : ∃ g l' p, F = .ret kf none g l' c0 p [])
    (hend : ∀ s0 s, (∃ h' tk, s = { s0 with heap := h', toks := tk }) → Ext2 C I s0.heap s.heap → Seg (model PG w) A (FR C I) (FY hF C I l xs) 0 s0 c0 (kf (.ok .next)) [] s)
    (hl : hF.IsList l xs) (nC : hF.get? C = none) (nI : hF.get? I = none) (hCI : C ≠ I) (hC : env.locals = C)
    (hx : env.kindOf x = some .local) (hk : env.scope.kind = .function) (hco : env.scope.isCoroutine = false) (hi : interactive env = false) (hd : (x == ("__debug__" : Str)) = false) :
    ∀ (k i : Nat) (s0 s : Shared), xs.size - i = k → i ≤ xs.size → GInv hF C I l i s.heap → (∃ h' tk, s = { s0 with heap := h', toks := tk }) → Ext2 C I s0.heap s.heap →
      Seg (model PG w) A (FR C I) (FY hF C I l xs) k s0 (.forLoop (.Name x px) (.ref I) [.Expr (.Yield (some (.Name x pe)) py) pp] [] env)
        ((model PG w).den (.forLoop (.Name x px) (.ref I) [.Expr (.Yield (some (.Name x pe)) py) pp] [] env)) [F] s := by
  subst hC
  obtain ⟨g0, l0, p0, rfl⟩ := hFk
  intro k
  induction k with
  | zero =>
    rintro i s0 s hk' hi' ⟨ns, it, kF⟩ ⟨h', tk, rfl⟩ ex
    have e : i = xs.size := by lia
    subst e
    show Seg _ A _ _ _ s0 _ ((forTurn _ _ _ _ env).onRaise _) _ _
    rw [Sem.onRaise_eq_wrap]
    unfold forTurn
    refine seg_bind_wrap (wpAny_standAt ?_)
    refine seg_bind_wrap (wpAny_onRaise (wpAny_pyNext_list_end (hh _) it (hl.at fun o e => kF _ _ e) (by simp) fun h2 ex2 => ?_))
    dsimp only
    refine seg_again rfl ?_
    refine seg_leaf (.ok .next) (hend _ _ ⟨h2, tk, rfl⟩ (ex.trans (Ext2.right fun b o n e => ex2 b o n e)))
  | succ k ih =>
    rintro i s0 s hk' hi' ⟨⟨m, ns⟩, it, kF⟩ ⟨h', tk, rfl⟩ ex
    have hlt : i < xs.size := by lia
    show Seg _ A _ _ _ s0 _ ((forTurn _ _ _ _ env).onRaise _) _ _
    rw [Sem.onRaise_eq_wrap]
    unfold forTurn
    refine seg_bind_wrap (wpAny_standAt ?_)
    have hv : xs[i]? = some xs[i] := by simp [hlt]
    refine seg_bind_wrap (wpAny_onRaise (wpAny_pyNext_list_item it (hl.at fun o e => kF _ _ e) hv fun h1 it1 sb1 => ?_))
    dsimp only
    refine seg_bind_wrap (wpAny_of_eq (rfl : letOwnedTupleGo (.Name x px) (.ref I) xs[i] = pure ()) ?_)
    have ns1 : h1.Ns env.locals m := ns.sameBut sb1 hCI
    refine seg_bind_wrap (wpAny_assign_Name (wpAny_storeName_local hx ns1 (fun h2 ns2 sb2 => ?_) (by rw [hk]; rfl)))
    have ex2 : Ext2 env.locals I h' h2 := (Ext2.right (Ext.of_same sb1)).trans (Ext2.left (Ext.of_same sb2))
    have kF2 : Keep hF h2 := ex2.keepF kF nC nI
    have it2 : h2.IsListIter I l (i + 1) := it1.at fun o e => (sb2.2 I hCI.symm).trans e
    rw [Sem.bind_eq_wrap', Sem.wrap_wrap]
    refine seg_execs_cons (seg_Expr_Yield hF1 rfl hF2 ?_ hco hi)
    refine wpAny_Name (wpAny_loadName_local (v := xs[i]) hk hx ns2 (by simp) fun kap hkap => ?_) hd
    refine ⟨i, hv, by lia, ⟨_, _, rfl⟩, ex.trans ex2, ⟨⟨_, ns2⟩, it2, kF2⟩, fun s'' inv => hkap .none s'' ?_⟩
    exact seg_execs_nil (seg_again rfl (ih (i + 1) s'' s'' (by lia) hlt inv ⟨_, _, rfl⟩ fun _ _ _ _ e => e))
theorem seg_iter {hF : Heap} {C l : Addr} {xs : Array Value} {env : Env} {x : Str} {px py pe pp pos : Pos} {iter : Expr} {s : Shared}
    (hh : A.handled = none) (hF0 : Keep hF s.heap) (hns : ∃ m, s.heap.Ns C m) (lim : s.heap.NoLimit)
    (yi : ∀ A' (Q : Value → Shared → Prop) (E : Value → Shared → Prop), (∀ tk, Q (.ref l) { s with toks := tk }) → wpAny (model PG w) A' (eval iter env) Q E s)
    (hl : hF.IsList l xs) (nC : hF.get? C = none) (hC : env.locals = C)
    (hx : env.kindOf x = some .local) (hk : env.scope.kind = .function) (hco : env.scope.isCoroutine = false) (hi : interactive env = false) (hd : (x == ("__debug__" : Str)) = false) (hs : ∀ x, foldedSetIterable iter env x = pure x) :
    Seg (model PG w) A (FR C s.heap.objs.size) (FY hF C s.heap.objs.size l xs) xs.size s (.func [.For (.Name x px) iter [.Expr (.Yield (some (.Name x pe)) py) pp] [] pos] env)
      ((model PG w).den (.func [.For (.Name x px) iter [.Expr (.Yield (some (.Name x pe)) py) pp] [] pos] env)) [] s := by
  refine seg_func (seg_execs_cons ?_)
  rw [exec_For]
  refine seg_bind_wrap (wpAny_standAt (seg_bind_wrap (yi _ _ _ fun tk => ?_)))
  rw [hs]
  refine seg_bind_wrap (wpAny_pure (seg_bind_wrap (wpAny_standAt (seg_bind_wrap (wpAny_holding (wpAny_pyIter_list (hl.at fun o e => hF0 _ _ e) ?_))))))
  refine seg_call fun p => ?_
  have hov : ∀ c kf g l c0 p, (A.over c [.ret kf none g l c0 p []]).handled = none := fun c kf g l c0 p => hh
  have nI : hF.get? s.heap.objs.size = none := keep_none hF0 (fresh_size _)
  have hCI : C ≠ s.heap.objs.size := by
    obtain ⟨m, o, _, _, e, _⟩ := hns
    exact Nat.ne_of_lt (Heap.lt_size e)
  have kp := Keep.push s.heap { cls := .type "list_iterator", data := .fields #[.ref l, .int 0 0] }
  refine seg_for (fun c => (hov c _ _ _ _ _)) rfl rfl ⟨_, _, _, rfl⟩ (fun s0 s1 q1 q2 => ?_) hl nC nI hCI hC hx hk hco hi hd xs.size 0 s _ rfl (Nat.zero_le _) ⟨?_, ?_, hF0.trans kp⟩ ⟨_, _, rfl⟩ (Ext2.of_keep kp)
  · exact seg_execs_nil (env := env) (seg_end (.ok (.ret .none)) ⟨rfl, rfl, q1, q2⟩)
  · obtain ⟨m, h⟩ := hns; exact ⟨m, h.keeps kp⟩
  · exact ⟨_, Heap.get?_push_size _ rfl, rfl, rfl⟩
end
end Mine
end
noncomputable section
open PySem PySem.W PyProof.Rows PySem.Calls Builtin Builtin.ObjectAttr Builtin.Getset_descriptor
set_option Elab.async false
set_option maxRecDepth 100000
set_option linter.unusedVariables false
namespace Mine
structure FGenIs (w : World) (A : Around) (hF : Heap) (C I l : Addr) (xs : Array Value) (a g i : Nat) (s : Shared) : Prop where
  obj : s.heap.IsGen a g
  go : ∃ gs, s.gens[g]? = some gs ∧ ∀ s'' : Shared, GInv hF C I l i s''.heap → gs.Goes (model PG w) A.in1 (FR C I) (FY hF C I l xs) (xs.size - i) (.send .none) s''
section
variable {w : World} {A : Around} {hF : Heap} {C I l : Addr} {xs : Array Value} {a g i : Nat} {s : Shared}
theorem fgen_next (hh : A.handled = none) (hroom : A.depth < recursionLimit) (lim : s.heap.NoLimit) (aC : a ≠ C) (aI : a ≠ I) (hg : s.heap.IsGen a g) {gs : GenState} (hgs : s.gens[g]? = some gs) {Q : Option Value → Shared → Prop} {E : Value → Shared → Prop}
    (go : gs.Goes (model PG w) A.in1 (FR C I) (FY hF C I l xs) (xs.size - i) (.send .none) (s.setGen g .running))
    (q1 : ∀ v h' tk gs', xs[i]? = some v → Ext2 C I s.heap h' → GInv hF C I l (i + 1) h' → FGenIs w A hF C I l xs a g (i + 1) { s with heap := h', toks := tk, gens := gs' } → GenOnly g s.gens gs' → Q (some v) { s with heap := h', toks := tk, gens := gs' })
    (q2 : ∀ h' tk, xs.size ≤ i → Ext2 C I s.heap h' → Q none { s with heap := h', toks := tk, gens := s.gens.setIfInBounds g .finished }) :
    wpAny (model PG w) A (pyNext (.ref a)) Q E s := by
  have glt : g < s.gens.size := by
    by_cases h : g < s.gens.size
    · exact h
    · rw [Array.getElem?_eq_none (by lia)] at hgs; cases hgs
  have twice : ∀ x y : GenState, (s.gens.setIfInBounds g x).setIfInBounds g y = s.gens.setIfInBounds g y := fun x y => by simp
  refine wpAny_pyNext_gen (P := fun n s0 s1 => n = 0 ∧ (∃ h' tk, s1 = { s0 with heap := h', toks := tk }) ∧ Ext2 C I s0.heap s1.heap) (Y := FY hF C I l xs) hh lim hroom hg hgs go (fun v s1 gs' y => ?_) (fun s1 p h' k => ?_)
  · obtain ⟨i', hv, hlen, ⟨h', tk, rfl⟩, ex, G', kap⟩ := y
    have hlt : i' < xs.size := (Array.getElem?_eq_some_iff.mp hv).1
    have hpos : 0 < xs.size - i := by
      cases hz : xs.size - i with
      | zero => rw [hz] at kap; exact (kap _ G').elim
      | succ m => exact Nat.succ_pos _
    have e : i' = i := by lia
    subst e
    have e1 : xs.size - i' = (xs.size - (i' + 1)) + 1 := by lia
    rw [e1] at kap
    have e : (({ s.setGen g .running with heap := h', toks := tk } : Shared).setGen g gs') = { s with heap := h', toks := tk, gens := s.gens.setIfInBounds g gs' } := by
      show ({ s with heap := h', toks := tk, gens := (s.gens.setIfInBounds g .running).setIfInBounds g gs' } : Shared) = _
      rw [twice]
    rw [e]
    refine q1 v h' tk _ hv ex G' ⟨?_, gs', by simp [glt], kap⟩ ⟨by simp, fun k hk => by simp [Ne.symm hk]⟩
    obtain ⟨o, nm, qn, ho, r⟩ := hg
    exact ⟨o, nm, qn, ex a o aC aI ho, r⟩
  · obtain ⟨hz, ⟨h1, tk, rfl⟩, ex⟩ := p
    have e : ({ (({ s.setGen g .running with heap := h1, toks := tk } : Shared).setGen g .finished) with heap := h' } : Shared) = { s with heap := h', toks := tk, gens := s.gens.setIfInBounds g .finished } := by
      show ({ s with heap := h', toks := tk, gens := (s.gens.setIfInBounds g .running).setIfInBounds g .finished } : Shared) = _
      rw [twice]
    rw [e]
    exact q2 h' tk (by lia) fun b o n1 n2 x => k b o (ex b o n1 n2 x)
theorem pyIter_inst {x K0 f : Addr} {m : Str → Option Value} {Q : Value → Shared → Prop} {E : Value → Shared → Prop} (X : (KK w).In s.heap) (Ii : Inst s.heap x K0 m) (hs : findIn (KK w) (.ref K0) "__iter__" = some (some (.ref f))) (hf : typeIn (KK w) (.ref f) = some (.type "function"))
    (h : wpAny (model PG w) A (call (.ref f) [.ref x]) (fun v s' => ∃ a g, v = .ref a ∧ s'.heap.IsGen a g ∧ Q v s') E s) : wpAny (model PG w) A (pyIter (.ref x)) Q E s := by
  obtain ⟨ox, od, I', _⟩ := Ii.at
  have res : ∀ refuse : Sem Value, wpAny (model PG w) A (callSpecialIfBoundUnlessNone? (.ref x) "__iter__" refuse) (fun r s' => ∃ a g, r = some (.ref a) ∧ s'.heap.IsGen a g ∧ Q (.ref a) s') E s := fun refuse => by
    have fin : wpAny (model PG w) A (call (.ref f) [.ref x] >>= fun v => pure (some v)) (fun r s' => ∃ a g, r = some (.ref a) ∧ s'.heap.IsGen a g ∧ Q (.ref a) s') E s :=
      wpAny_bind (wpAny_mono h (fun v s' q => by obtain ⟨a, g, rfl, q1, q2⟩ := q; exact wpAny_pure ⟨a, g, rfl, q1, q2⟩) fun _ _ z => z)
    simp only [callSpecialIfBoundUnlessNone?, bindSpecialIfBound?]
    refine wpAny_holding (wpAny_bind (wpAny_bind (wpAny_bind (I'.type.here ((looks_findIn X hs).here ?_)))))
    refine wpAny_bind (wpAny_askSetting (wpAny_ite ?_))
    split
    · exact wpAny_bind ((bind_fn X _ hf).here (wpAny_pure (by exact fin)))
    · exact wpAny_tryCatch (wpAny_bind ((bind_fn X _ hf).here (wpAny_pure (by exact fin))))
  unfold pyIter
  refine wpAny_bind (wpAny_bind (I'.type.here ((looks_findIn X hs).here ?_)))
  show wpAny _ A (callSpecialIfBoundUnlessNone? (.ref x) "__iter__" _ >>= _) Q E s
  refine wpAny_bind (wpAny_mono (res _) (fun r s' hr => ?_) fun _ _ z => z)
  obtain ⟨a', g', rfl, q1, q2⟩ := hr
  refine wpAny_bind (wpAny_specialOf q1.typeIs slot_gen_next.lookup ?_)
  exact wpAny_pure q2
end
end Mine
end
noncomputable section
open PySem PySem.W PyProof.Rows PySem.Calls Builtin Builtin.ObjectAttr Builtin.Getset_descriptor
set_option Elab.async false
set_option maxRecDepth 100000
set_option linter.unusedVariables false
namespace Mine
section
variable {w : World} {A : Around} {hb0 h0 hb h : Heap} {env : Env} {O : List (Addr × Own)} {s : Shared} {L : Addr} {m : Str → Option Value} {pos : Pos}
theorem callGen {f : Addr} {pos : List Value} {kw : List (Str × Value)} {name qual : Str} {params : Arguments} {body : List Stmt} {scope : Scope} {cl : List (Str × Addr)} {dV kV doc pm cdv ct oc : Value} {an od : Option Addr} {osl : Array (Option Value)}
    {binds : List (Str × Value)} {Rr : Result → Shared → Prop} {n : Nat} (S : St h0 hb0 hb O s.heap) (G : Glob w hb) (R : Rm (n + 1) A)
    (ho : (KK w).lookup f = some ⟨oc, od, .func (fnX name qual params body scope cl dV kV doc pm an cdv ct), osl⟩) (hcd : codeIn (KK w) cdv qual = true)
    (hbind : bindArgs (fnX name qual params body scope cl dV kV doc pm an cdv ct) ⟨pos, kw⟩ = pure binds) (hloc : (binds.all fun y => decide (scope.names.lookup y.1 = some .local)) = true)
    (k : ∀ C a b' h' tk, St h0 hb0 b' ((C, .ns fun y => binds.reverse.lookup y) :: O) h' → Keep hb b' → b'.IsGen a s.gens.size →
      Rr (.ok (.ret (.ref a))) { s with heap := h', toks := tk, gens := s.gens.push (.fresh (.func body (envX qual scope C f cdv cl))) })
    (hcell : scope.names.all (fun x => decide (x.2 ≠ .cell)) = true := by rfl) (hco : scope.isCoroutine = false := by rfl) (hgen : scope.isGenerator = true := by rfl) (hk : scope.kind = .function := by rfl) :
    codeAny (model PG w) A (.call (.ref f) ⟨pos, kw⟩) Rr s := by
  have G'' := G.keep S.base
  refine codeAny_call_generator (fd := fnX name qual params body scope cl dV kV doc pm an cdv ct) (body := body) R.room (G''.K _ _ ho) rfl hco hgen rfl (codeRec_of G''.K hcd) ?_
  refine wpAny_of_eq hbind ?_
  refine wpAny_newFunctionEnv (fun x hx => of_decide_eq_true (List.all_eq_true.mp hcell x hx)) (fun x hx => of_decide_eq_true (List.all_eq_true.mp hloc x hx)) (fun h1 hns sb => ?_) hk
  have k1 : Keep s.heap h1 := fun b o e => sb.extBut b o (Nat.ne_of_lt (Heap.lt_size e)) (Heap.get?_push_of_some _ e)
  have S1 : St h0 hb0 hb ((s.heap.objs.size, .ns fun y => binds.reverse.lookup y) :: O) h1 := St.add (pre := []) S k1 (fresh_size _) hns
  refine ⟨(G.keep S1.base).lim, ?_⟩
  dsimp only
  generalize hob : ({ cls := .type "generator", data := .fields #[.int s.gens.size 0, .str (fnX name qual params body scope cl dV kV doc pm an cdv ct).name (s.toks + binds.length), .str (fnX name qual params body scope cl dV kV doc pm an cdv ct).qualname (s.toks + binds.length + 1)] } : Obj) = ob
  have S2 : St h0 hb0 hb ((s.heap.objs.size, .ns fun y => binds.reverse.lookup y) :: (h1.objs.size, .obj ob) :: O) (h1.push ob) := St.add (pre := [_]) S1 (Keep.push _ _) (fresh_size _) (by subst hob; exact Heap.get?_push_size _ rfl)
  obtain ⟨b3, S3, k3, at3⟩ := St.freeze (pre := [_]) S2
  exact k _ _ b3 _ _ S3 k3 (by subst hob; exact ⟨_, _, _, at3, rfl, rfl, rfl⟩)
inductive TupI (b : Heap) (v : Value) (is : List Int) : Prop
  | mk (t : Addr) (vs : List Value) (e : v = .ref t) (T : Tp b t vs) (q : VI vs is)
theorem TupI.keep {b c : Heap} {v : Value} {is : List Int} (x : TupI b v is) (k : Keep b c) : TupI c v is := let ⟨t, vs, e, T, q⟩ := x; ⟨t, vs, e, T.keep k, q⟩
def TupIs (b : Heap) (vs : List Value) (rs : List (List Int)) : Prop := L2 (fun v r => TupI b v r) vs rs
theorem TupIs.keep {b c : Heap} (k : Keep b c) {vs : List Value} {rs : List (List Int)} (x : TupIs b vs rs) : TupIs c vs rs := L2.mono (fun _ _ x => x.keep k) x
theorem TupIs.append {b : Heap} {vs us : List Value} {rs qs : List (List Int)} (x : TupIs b vs rs) (y : TupIs b us qs) : TupIs b (vs ++ us) (rs ++ qs) := L2.append x y
theorem TupIs.length {b : Heap} {vs : List Value} {rs : List (List Int)} (x : TupIs b vs rs) : vs.length = rs.length := L2.length x
def Laid (b : Heap) (vs : List Value) (rs : List (R4 × Int)) : Prop := L2 (fun v r => ∃ a, v = Value.ref a ∧ IsLaid b a r.1 r.2) vs rs
theorem Laid.keep {b c : Heap} (k : Keep b c) {vs : List Value} {rs : List (R4 × Int)} (x : Laid b vs rs) : Laid c vs rs := L2.mono (fun _ _ ⟨a, e, x⟩ => ⟨a, e, x.keep k⟩) x
theorem Laid.append {b : Heap} {vs us : List Value} {rs qs : List (R4 × Int)} (x : Laid b vs rs) (y : Laid b us qs) : Laid b (vs ++ us) (rs ++ qs) := L2.append x y
theorem Laid.length {b : Heap} {vs : List Value} {rs : List (R4 × Int)} (x : Laid b vs rs) : vs.length = rs.length := L2.length x
theorem Laid.at {b : Heap} {vs : List Value} {rs : List (R4 × Int)} {i : Nat} {v : Value} (x : Laid b vs rs) (e : vs[i]? = some v) : ∃ a r, v = .ref a ∧ IsLaid b a r.1 r.2 ∧ rs[i]? = some r :=
  let ⟨r, ⟨a, q, I⟩, e'⟩ := L2.at x e; ⟨a, r, q, I, e'⟩
def row5 (r : R4 × Int) : List Int := [r.1.x, r.1.y, r.1.w, r.1.h, r.2]
end
end Mine
end
noncomputable section
open PySem PySem.W PyProof.Rows PySem.Calls Builtin Builtin.ObjectAttr Builtin.Getset_descriptor
set_option Elab.async false
set_option maxRecDepth 100000
set_option linter.unusedVariables false
namespace Mine
theorem fld_rid (w) : Fld w 203 "rid" := ⟨by kernel_rfl, by kernel_rfl, by kernel_rfl⟩
theorem St.start2 {h0 hb0 b h h' : Heap} {C I : Addr} {oC oC' oI : Own} {O : List (Addr × Own)} (S : St h0 hb0 b ((C, oC) :: O) h) (fI : h.get? I = none) (ex : Ext2 C I h h') (atC : oC'.At h' C) (atI : oI.At h' I) : St h0 hb0 b ((C, oC') :: (I, oI) :: O) h' := by
  have hC := S.own (C, oC) (.head _)
  have nb : ∀ a o, b.get? a = some o → a ≠ C ∧ a ≠ I := fun a o x => ⟨fun q => (by subst q; rw [hC.2.1] at x; cases x), fun q => (by subst q; have := S.base _ _ x; rw [fI] at this; cases this)⟩
  have n0 : ∀ a o, h0.get? a = some o → a ≠ C ∧ a ≠ I := fun a o x => ⟨fun q => (by subst q; rw [hC.2.2] at x; cases x), fun q => (by subst q; have := S.keep _ _ x; rw [fI] at this; cases this)⟩
  have nI : ∀ p ∈ (C, oC) :: O, p.1 ≠ I := fun p m q => by obtain ⟨o, x⟩ := (S.own p m).1.some; rw [q, fI] at x; cases x
  have nd := S.nd
  simp only [List.map_cons, List.nodup_cons] at nd
  refine ⟨⟨⟨S.res.up.b, fun a o x => ex a o (n0 a o x).1 (n0 a o x).2 (S.keep _ _ x), fun a o x => ex a o (nb a o x).1 (nb a o x).2 (S.base _ _ x)⟩, S.res.new⟩, fun p m => ?_, ?_⟩
  · rcases List.mem_cons.mp m with rfl | m
    · exact ⟨atC, hC.2⟩
    · rcases List.mem_cons.mp m with rfl | m
      · exact ⟨atI, keep_none S.base fI, keep_none S.keep fI⟩
      · have hp := S.own p (.tail _ m)
        exact ⟨hp.1.at fun o x => ex _ _ (fun q => nd.1 (List.mem_map.mpr ⟨p, m, q⟩)) (nI p (.tail _ m)) x, hp.2⟩
  · simp only [List.map_cons, List.nodup_cons, List.mem_cons, not_or]
    refine ⟨⟨nI (C, oC) (.head _), nd.1⟩, fun q => ?_, nd.2⟩
    obtain ⟨p, m, e⟩ := List.mem_map.mp q
    exact nI p (.tail _ m) e
theorem St.letGoF {h0 hb0 b h h' : Heap} {C I : Addr} {oC : Own} {O : List (Addr × Own)} (S : St h0 hb0 b ((C, oC) :: O) h) (fI : h.get? I = none) (ex : Ext2 C I h h') : St h0 hb0 b O h' := by
  have hC := S.own (C, oC) (.head _)
  have nb : ∀ a o, b.get? a = some o → a ≠ C ∧ a ≠ I := fun a o x => ⟨fun q => (by subst q; rw [hC.2.1] at x; cases x), fun q => (by subst q; have := S.base _ _ x; rw [fI] at this; cases this)⟩
  have n0 : ∀ a o, h0.get? a = some o → a ≠ C ∧ a ≠ I := fun a o x => ⟨fun q => (by subst q; rw [hC.2.2] at x; cases x), fun q => (by subst q; have := S.keep _ _ x; rw [fI] at this; cases this)⟩
  have nd := S.nd
  simp only [List.map_cons, List.nodup_cons] at nd
  exact ⟨⟨⟨S.res.up.b, fun a o x => ex a o (n0 a o x).1 (n0 a o x).2 (S.keep _ _ x), fun a o x => ex a o (nb a o x).1 (nb a o x).2 (S.base _ _ x)⟩, S.res.new⟩, fun p m => 
    ⟨(S.own p (.tail _ m)).1.at fun o x => ex _ _ (fun q => nd.1 (List.mem_map.mpr ⟨p, m, q⟩)) (fun q => by rw [q, fI] at x; cases x) x, (S.own p (.tail _ m)).2⟩, nd.2⟩
theorem bare_end {G0 gs' : Array GenState} {x : GenState} (h : GenOnly G0.size (G0.push x) gs') : AllBare G0 → AllBare (gs'.setIfInBounds G0.size .finished) := fun ab y hy => by
  obtain ⟨j, hj, e⟩ := Array.mem_iff_getElem.mp hy
  rw [Array.getElem_setIfInBounds] at e
  · split at e
    · rw [← e]; rfl
    · rename_i hne
      have hj' : j < gs'.size := by simpa using hj
      have := h.2 j (Ne.symm hne)
      rw [Array.getElem?_eq_getElem hj'] at this
      have hjs : j < G0.size := by
        have hz := h.1
        simp at hz
        have : j ≠ G0.size := Ne.symm hne
        lia
      rw [Array.getElem?_push_lt hjs] at this
      rw [← e, Option.some.inj this]
      exact ab _ (Array.getElem_mem _)
  · simpa using hj
section
variable {w : World} {A : Around} {hb0 h0 hb h : Heap} {env : Env} {O : List (Addr × Own)} {s : Shared} {L : Addr} {m : Str → Option Value} {pos : Pos}
theorem wpField {x C : Addr} {m : Str → Option Value} {name : Str} {v : Value} {value : Expr} {Q : Value → Shared → Prop} {E : Value → Shared → Prop} (X : (KK w).In s.heap) (I : Inst s.heap x C m) (F : Fld w C name) (hm : m name = some v) (hh : handedIn v = true)
    (y : ∀ (Q : Value → Shared → Prop) (E : Value → Shared → Prop), Q (.ref x) s → wpAny (model PG w) A (eval value env) Q E s) (q : ∀ tk, Q v { s with toks := tk })
    (he : eval (.Attribute value name pos) env = (do
      let o ← eval value env
      PySem.standAt pos.atName
      let r ← PySem.holding [o] (getAttr o name true)
      letTemporaryGo value o r
      Pure.pure r) := by rfl) : wpAny (model PG w) A (eval (.Attribute value name pos) env) Q E s := by
  rw [he]
  obtain ⟨ox, od, I', l⟩ := I.at
  exact wpAny_bind (y _ _ (wpAny_bind (wpAny_standAt (wpAny_bind (wpAny_holding (get_value X I' F.ga (findObj_own F.hd F.no rfl (by rw [l, hm])) hh (wpAny_bind (wpAny_letTemporaryGo (wpAny_pure (q _)))))))))) 
theorem perm_gen {α : Type} (a b c d : α) (l : List α) : (a :: b :: c :: d :: l).Perm (c :: d :: a :: b :: l) := List.perm_append_comm (l₁ := [a, b]) (l₂ := [c, d]) |>.append_right l
inductive FGJ (w : World) (A : Around) (h0 hb0 : Heap) (L Cg rl a : Addr) (xs : Array Value) (G0 : Array GenState) (fr : GenState) (b3 : Heap) (s3 : Shared) (J : Nat → (Str → Option Value) → List (Addr × Own) → Heap → Prop) (k : Nat) (s' : Shared) : Prop
  | first (hk : k = xs.size + 2) (hs : s' = s3)
  | next (i : Nat) (I : Addr) (mL mC : Str → Option Value) (O : List (Addr × Own)) (b h' : Heap) (tk : Nat) (gs' : Array GenState) (hk : k = xs.size + 1 - i) (hi : i ≤ xs.size) (hs : s' = { s3 with heap := h', toks := tk, gens := gs' })
      (S : St h0 hb0 b ((Cg, .ns mC) :: (I, .itr rl i) :: (L, .ns mL) :: O) h') (kb : Keep b3 b) (j : J i mL O b) (nI : b3.get? I = none) (Gi : FGenIs w A b3 Cg I rl xs a G0.size i s') (Go : GenOnly G0.size (G0.push fr) gs')
theorem for_gen {target : Expr} {body : List Stmt} {R : Result → Shared → Prop} {fr : GenState} {G0 : Array GenState} {s3 : Shared} {xs : Array Value} {b3 : Heap} {a Cg rl : Addr} {mC : Str → Option Value}
    (hh : A.handled = none) (hroom : A.depth < recursionLimit) (Gl : Glob w b3) (J : Nat → (Str → Option Value) → List (Addr × Own) → Heap → Prop) (ga : b3.IsGen a G0.size) (hgs : s3.gens = G0.push fr)
    (first : ∀ s' : Shared, s'.heap = s3.heap → fr.Goes (model PG w) A.in1 (FR Cg s3.heap.objs.size) (FY b3 Cg s3.heap.objs.size rl xs) (xs.size - 0) (.send .none) s')
    (step : ∀ i m O b s v E p q, xs[i]? = some v → J i m O b → Keep b3 b → St h0 hb0 b ((L, .ns m) :: p :: q :: O) s.heap →
      wpAny (model PG w) A (assign target env v) (fun _ s2 => wpAny (model PG w) A (execs body env) (fun f s' => match f with
        | .next | .cont => ∃ m' O' b' h' tk, J (i + 1) m' O' b' ∧ Keep b b' ∧ s' = { s with heap := h', toks := tk } ∧ St h0 hb0 b' ((L, .ns m') :: p :: q :: O') h'
        | .brk => False
        | .ret v => False) E s2) E s)
    (jk : ∀ i m O b b', Keep b b' → J i m O b → J i m O b')
    (done : ∀ m O b h' tk gs', J xs.size m O b → Keep b3 b → St h0 hb0 b ((L, .ns m) :: O) h' → (AllBare G0 → AllBare gs') → R (.ok .next) { s3 with heap := h', toks := tk, gens := gs' })
    (j : J 0 m O b3) (S : St h0 hb0 b3 ((L, .ns m) :: (Cg, .ns mC) :: O) s3.heap) : codeAny (model PG w) A (.forLoop target (.ref a) body [] env) R s3 := by
  have nCg := (S.own (Cg, _) mem1).2.1
  have aCg : a ≠ Cg := fun q => by
    obtain ⟨o, nm, qn, e, _⟩ := ga
    rw [q, nCg] at e; cases e
  refine codeAny_forLoop_any (fun k s' => FGJ w A h0 hb0 L Cg rl a xs G0 fr b3 s3 J k s') ?_ (xs.size + 2) (.first rfl rfl)
  have item : ∀ (k i : Nat) (I : Addr) (mL mC : Str → Option Value) (O : List (Addr × Own)) (b h' : Heap) (tk : Nat) (gs' : Array GenState) (v : Value), xs.size + 1 - (i + 1) < k → xs[i]? = some v →
      St h0 hb0 b ((Cg, .ns mC) :: (I, .itr rl (i + 1)) :: (L, .ns mL) :: O) h' → Keep b3 b → J i mL O b → b3.get? I = none → FGenIs w A b3 Cg I rl xs a G0.size (i + 1) { s3 with heap := h', toks := tk, gens := gs' } → GenOnly G0.size (G0.push fr) gs' →
      ∀ E, wpAny (model PG w) A (letOwnedTupleGo target (.ref a) v) (fun _ s1' =>
          wpAny (model PG w) A (assign target env v) (fun _ s₂ => wpAny (model PG w) A (execs body env) (fun f s₃ => match f with
            | .next | .cont => ∃ m, m < k ∧ FGJ w A h0 hb0 L Cg rl a xs G0 fr b3 s3 J m s₃
            | .brk => R (.ok .next) s₃
            | .ret v => R (.ok (.ret v)) s₃) E s₂) E s1') E { s3 with heap := h', toks := tk, gens := gs' } := by
    intro k i I mL mC O b h' tk gs' v hk hv S kb j nI Gi Go E
    obtain ⟨o, nm, qn, hO, hc, hd, _⟩ := (ga.keeps kb).keeps S.base
    refine go_fields hO hc hd (by decide) ?_
    have S' := S.perm ((perm_gen (L, Own.ns mL) (L, Own.ns mL) (Cg, Own.ns mC) (I, Own.itr rl (i + 1)) O).symm.trans (.refl _) |> fun _ => (List.perm_middle (l₁ := [(Cg, Own.ns mC), (I, .itr rl (i + 1))]) (a := (L, Own.ns mL)) (l₂ := O)))
    refine wpAny_mono (step i mL O b _ v E _ _ hv j kb S') (fun _ s2 x => wpAny_mono x (fun f s4 y => ?_) fun _ _ e => e) fun _ _ e => e
    have fin : (∃ m' O' b' h'' tk', J (i + 1) m' O' b' ∧ Keep b b' ∧ s4 = { s3 with heap := h'', toks := tk', gens := gs' } ∧ St h0 hb0 b' ((L, .ns m') :: (Cg, .ns mC) :: (I, .itr rl (i + 1)) :: O') h'') →
        ∃ m, m < k ∧ FGJ w A h0 hb0 L Cg rl a xs G0 fr b3 s3 J m s4 := fun ⟨m', O', b', h'', tk', j', kb', e, S4⟩ => by
      subst e
      have hlt := (Array.getElem?_eq_some_iff.mp hv).1
      exact ⟨_, hk, .next (i + 1) I m' mC O' b' h'' tk' gs' rfl hlt rfl (S4.perm (List.perm_middle (l₁ := [(Cg, Own.ns mC), (I, .itr rl (i + 1))]) (a := (L, Own.ns m')) (l₂ := O')).symm) (kb.trans kb') (j') (nI) (⟨(ga.keeps (kb.trans kb')).keeps S4.base, Gi.go⟩) (Go)⟩
    cases f with
    | next => exact fin y
    | cont => exact fin y
    | brk => exact y.elim
    | ret v => exact y.elim
  rintro k s' (⟨rfl, rfl⟩ | ⟨i, I, mL, mC', O', b, h', tk, gs', rfl, hi, rfl, S', kb, j', nI, Gi, Go⟩)
  · have S' := S.perm (.swap _ _ _)
    have fI := fresh_size s'.heap
    have nI : b3.get? s'.heap.objs.size = none := keep_none S.base fI
    have aI : a ≠ s'.heap.objs.size := fun q => by
      obtain ⟨o, nm, qn, e, _⟩ := ga
      rw [q, nI] at e; cases e
    refine fgen_next (i := 0) hh hroom (Gl.keep S.base).lim aCg aI (ga.keeps S.base) (gs := fr) (by rw [hgs]; simp) (first _ rfl) (fun v h' tk gs' hv ex Gv Gi Go => ?_) fun h' tk hz ex => ?_
    · obtain ⟨⟨mC1, ns1⟩, it1, _⟩ := Gv
      have S1 := S'.start2 (oC' := .ns mC1) (oI := .itr rl (0 + 1)) fI ex ns1 it1
      rw [hgs] at Go
      exact item _ 0 _ _ _ _ b3 h' tk gs' v (by lia) hv S1 (.refl _) j nI Gi Go _
    · have e0 : xs.size = 0 := by lia
      have S1 := S'.letGoF fI ex
      have hb' : AllBare G0 → AllBare ((G0.push fr).setIfInBounds G0.size .finished) := bare_end ⟨rfl, fun _ _ => rfl⟩
      rw [hgs]
      exact wpAny_execs_nil (done m O b3 h' tk _ (by rw [e0]; exact j) (.refl _) S1 hb')
  · have aI : a ≠ I := fun q => by
      obtain ⟨o, nm, qn, e, _⟩ := ga
      rw [q, nI] at e; cases e
    obtain ⟨gs, hgs', go⟩ := Gi.go
    refine fgen_next (i := i) hh hroom (Gl.keep (kb.trans S'.base)).lim aCg aI Gi.obj hgs' (go _ ⟨⟨_, S'.mem (p := (Cg, .ns mC')) mem0⟩, S'.mem (p := (I, .itr rl i)) mem1, kb.trans S'.base⟩) (fun v h'' tk' gs'' hv ex Gv Gi' Go' => ?_) fun h'' tk' hz ex => ?_
    · obtain ⟨⟨mC1, ns1⟩, it1, _⟩ := Gv
      obtain ⟨b', S1, kb', _⟩ := S'.join2 (oC' := .ns mC1) (oI' := .itr rl (i + 1)) ex ns1 it1
      have hlt := (Array.getElem?_eq_some_iff.mp hv).1
      exact item _ i I mL mC1 O' b' h'' tk' gs'' v (by lia) hv S1 (kb.trans kb') (jk _ _ _ _ _ kb' j') nI Gi' ⟨Go'.1.trans Go.1, fun k hk => (Go'.2 k hk).trans (Go.2 k hk)⟩ _
    · have e0 : i = xs.size := by lia
      subst e0
      exact wpAny_execs_nil (done mL O' b h'' tk' _ j' kb (S'.letGo2 ex) (bare_end Go))
theorem TupIs.off {b c : Heap} {l : Addr} {xs : Array Value} (pl : b.PlainList l xs) (off : Off l b c) {vs : List Value} {rs : List (List Int)} (x : TupIs b vs rs) : TupIs c vs rs :=
  L2.mono (fun _ _ ⟨t, us, e, T, q⟩ => ⟨t, us, e, off _ _ (fun z => by
      obtain ⟨n, e⟩ := pl
      have T' : b.get? t = _ := T
      rw [z, e] at T'; simp at T') T, q⟩) x
theorem m_rect_list {C p dp l rl : Addr} {mp : Str → Option Value} {n : Nat} {xs : List Value} {rows : List (R4 × Int)} {rot : Bool} {wd ht : Int} {Rr : Result → Shared → Prop}
    (S : St h0 hb0 hb ((dp, .idc mp n) :: (rl, .lst xs.toArray) :: O) s.heap) (G : Glob w hb) (R : Rm 6 A) (K : Pk w C) (ho : hb.get? p = some (instObj C dp)) (hn : n ≤ 50) (P : PMap mp l rl rot wd ht) (hr : Laid hb xs rows) (hz : xs.length ≤ 100)
    (k : ∀ D vs b' h' tk gs, St h0 hb0 b' ((dp, .idc mp n) :: (rl, .lst xs.toArray) :: O) h' → Keep hb b' → b'.PlainList D vs.toArray → TupIs b' vs (rows.map row5) → (AllBare s.gens → AllBare gs) → Rr (.ok (.ret (.ref D))) { s with heap := h', toks := tk, gens := gs }) :
    codeAny (model PG w) A (.call (.ref 280) ⟨[.ref p], []⟩) Rr s := by
  refine callM (binds := [("self", .ref p)]) S G R (by rfl) (by kernel_rfl) (BindsTo.of_eq rfl) rfl fun h1 tk1 L R1 S k1 E => ?_
  refine wpAny_mono (E := fun _ _ => False) ?_ (fun _ _ x => x) fun _ _ f => f.elim
  refine wLetOwn S (yLst (R := fun vs _ => vs = []) (yArgs_nil fun _ _ => rfl) (by rintro _ _ rfl; decide)) fun D vs0 b0 h1 tk1 e S => ?_
  subst e
  obtain ⟨c1, S1, kc1, atl⟩ := St.freeze (pre := [_, _, _]) S
  have S1 : St h0 hb0 c1 ((L, .ns (upd _ "rectangle_list" (.ref D))) :: (D, .lst #[]) :: (dp, .idc mp n) :: O) h1 := S1
  have G1 := G.keep kc1
  have hl1 : c1.PlainList rl xs.toArray := atl
  refine wpAny_execs_cons (wpAny_For ((yName S1.ns rfl).use S1.base fun v b2 h2 tk2 e r2 => ?_))
  cases e
  have S2 := S1.up r2
  have G2 := G1.keep r2.up.b
  have Ip : Inst h2 p C mp := S2.inst (r2.up.b _ _ (kc1 _ _ ho)) mem2 (by lia)
  refine pyIter_inst (G2.keep S2.base).K Ip K.iter (by kernel_rfl) (wpAny_call ?_)
  refine callGen (binds := [("self", .ref p)]) (s := { s with heap := h2, toks := tk2 }) S2 G2 (R1.less (k := 3) (by decide)) (by rfl) (by kernel_rfl) rfl rfl fun Cg a b3 h3 tk3 S3 k3 ga => ?_
  refine ⟨a, _, rfl, ga.keeps S3.base, ?_⟩
  have kcb : Keep c1 b3 := r2.up.b.trans k3
  have G3 := G.keep (kc1.trans kcb)
  have hlF : b3.IsList rl xs.toArray := Heap.PlainList.isList (let ⟨nn, e⟩ := hl1; ⟨nn, kcb _ _ e⟩)
  have hown := (S3.own (Cg, _) mem0).2.1
  have hrL : Laid b3 xs rows := hr.keep (kc1.trans kcb)
  have hlen := hr.length
  have ho3 : b3.get? p = some (instObj C dp) := kcb _ _ (kc1 _ _ ho)
  dsimp only
  generalize hfr : GenState.fresh _ = fr
  refine for_gen (L := L) (xs := xs.toArray) (b3 := b3) (Cg := Cg) (rl := rl) R1.hd R1.room G3 (fun i m O' b => ∃ acc : List Value, O' = (D, .lst acc.toArray) :: (dp, .idc mp n) :: O ∧ acc.length ≤ i ∧ TupIs b acc ((rows.take i).map row5) ∧ m "rectangle_list" = some (.ref D)) ga rfl
    (fun s' hs' => ?_) (fun i m O' b s' v E' pp qq hv hj kb S' => ?_) (fun i m O' b b' kb hj => ?_) (fun m O' b h' tk gs' hj kb S' bare => ?_) ⟨[], rfl, Nat.zero_le _, trivial, rfl⟩ (S3.perm (.swap _ _ _))
  · subst hfr
    obtain ⟨hh', g', d', t', o'⟩ := s'
    dsimp only at hs'
    subst hs'
    refine ⟨rfl, seg_iter (s := ⟨_, g', d', t', o'⟩) R1.hd S3.base ⟨_, S3.ns⟩ (G3.keep S3.base).lim (fun A' Q E q => ?_) hlF hown rfl rfl rfl rfl rfl (by decide) (by intro _; rfl)⟩
    exact wpField (G3.keep S3.base).K (S3.inst ho3 mem3 (by lia)) K.frl P.rl rfl (fun Q E q => wpAny_Name (wpAny_loadName_local rfl rfl S3.ns rfl q) (by decide)) q
  · obtain ⟨acc, rfl, hac, ht, hm⟩ := hj
    obtain ⟨ar, r, rfl, Lr, hri⟩ := hrL.at (by simpa using hv)
    have hi : i < xs.length := by
      have := (Array.getElem?_eq_some_iff.mp hv).1; simpa using this
    refine aName S' fun h4 tk4 S4 => ?_
    refine absQ fun QB kQ => ?_
    have hm' : upd m "r" (.ref ar) "rectangle_list" = some (.ref D) := hm
    refine wAppend (pre := [_, _, _]) (post := _) (P1 := fun v b => TupI b v (row5 r)) S4 (by simp; lia) (yName S4.ns hm') (fun b' h' S5 k5 => ?_) fun v b6 h6 tk6 e S6 k6 => ?_
    · have Lr' := Lr.keep ((kb.trans k5).trans S5.base)
      have Gb := G3.keep (kb.trans k5)
      have I' := Lr'.rect
      obtain ⟨mr, ir, Mr, tr, er⟩ := Lr'
      refine (yTup (R := fun vs _ => VI vs (row5 r)) (yIntsCons (yX Gb I' (yName S5.ns rfl)) (yIntsCons (yY Gb I' (yName S5.ns rfl)) (yIntsCons (yW Gb I' (yName S5.ns rfl)) (yIntsCons (yH Gb I' (yName S5.ns rfl)) (yIntsCons ((yGetField Gb (yName S5.ns rfl) ir (fld_rid w) er rfl).mono fun _ _ _ e => ⟨tr, e⟩) yIntsNil))))) ?_).mono fun v b k' e => ?_
      · intro vs b q
        have := VI.length q; simp [row5] at this; lia
      · obtain ⟨t, vs, b0, rfl, T, _, q⟩ := e
        exact ⟨t, vs, rfl, T, q⟩
    · refine wNil (kQ _ _ ⟨_, _, b6, h6, tk6, ⟨acc ++ [v], rfl, by simp; lia, ?_, hm'⟩, k6, rfl, by simpa using S6⟩)
      rw [List.take_add_one, hri]
      simp only [Option.toList, List.map_append, List.map_cons, List.map_nil]
      exact (ht.keep k6).append ⟨e, trivial⟩
  · obtain ⟨acc, rfl, hac, ht, hm⟩ := hj
    exact ⟨acc, rfl, hac, ht.keep kb, hm⟩
  · obtain ⟨acc, rfl, hac, ht, hm⟩ := hj
    dsimp only
    refine wRet S' (P := Is (.ref D)) (yName S'.ns hm) fun v b7 h7 tk7 e S7 k7 => ?_
    cases e
    obtain ⟨c8, S8, k8, atD⟩ := St.freeze (pre := [_]) S7
    have kk : Keep b3 c8 := kb.trans (k7.trans k8)
    have pl8 : c8.PlainList rl xs.toArray := let ⟨nn, e⟩ := hl1; ⟨nn, kk _ _ (kcb _ _ e)⟩
    have orl := S.own (rl, .lst xs.toArray) mem3
    obtain ⟨c9, S9, off, _⟩ := S8.thaw (a := rl) (o := .lst xs.toArray) pl8 orl.2.2 (keep_none S.res.up.b orl.2.1)
    have nd := S.nd
    simp only [List.map_cons, List.nodup_cons, List.mem_cons, not_or] at nd
    have S9' : St h0 hb0 c9 ((rl, .lst xs.toArray) :: (L, .ns m) :: (dp, .idc mp n) :: O) h7 := S9
    have S10 : St h0 hb0 c9 ((dp, .idc mp n) :: (rl, .lst xs.toArray) :: O) h7 := (S9'.sub (.cons_cons _ (.cons _ (.refl _)))).perm (.swap _ _ _)
    refine k D acc c9 h7 tk7 gs' S10 (fun x ob e => off x ob (fun q => by subst q; rw [orl.2.1] at e; cases e) ((kc1.trans (kcb.trans kk)) x ob e)) ?_ ?_ bare
    · obtain ⟨nn, e⟩ := atD
      exact ⟨nn, off _ _ nd.2.1.2.1 e⟩
    · rw [List.take_of_length_le (by simp; lia)] at ht
      exact (ht.keep (k7.trans k8)).off pl8 off
end
end Mine
end
noncomputable section
open PySem PySem.W PyProof.Rows PySem.Calls Builtin Builtin.ObjectAttr Builtin.Getset_descriptor
set_option Elab.async false
set_option maxRecDepth 100000
set_option linter.unusedVariables false
namespace Mine
structure SupM (w : World) (C D : Addr) (name : Str) (f : Addr) : Prop where
  dcls : (clsIn (KK w) D).isSome = true
  sub : mroIn (KK w) C (.ref D) = some true
  find : ks_superIn (KK w) C D name = some (some (.ref f))
  fn : typeIn (KK w) (.ref f) = some (.type "function")
  isf : ∃ o fd, (KK w).lookup f = some o ∧ o.data = .func fd
  opq : nsIn (KK w) cStatics "thirdparty.any" = some none
section
variable {w : World} {A : Around} {hb0 h0 hb h : Heap} {env : Env} {O : List (Addr × Own)} {s : Shared} {L : Addr} {m : Str → Option Value} {pos : Pos}
theorem ySuperNew {x C D f dx : Addr} {name : Str} (G : Glob w hb) (U : SupM w C D name f) (Ix : h.get? x = some (instObj C dx)) :
    Y w A hb h (call (.type "super") [.ref D, .ref x]) (fun v b => ∃ so, v = .ref so ∧ b.get? so = some (ks_superObj D x C)) :=
  yNew fun s b Q E kb ki kh q => by
    have X := G.K.keeps (kb.trans ki)
    obtain ⟨hh, g, d, t, os⟩ := s
    dsimp only at ki kh q X ⊢
    cases hD : clsIn (KK w) D with
    | none => have := U.dcls; rw [hD] at this; cases this
    | some cd =>
      obtain ⟨oD, hD1, hD2⟩ : ∃ oD, hh.get? D = some oD ∧ oD.data = .cls cd := by
        unfold clsIn at hD
        split at hD
        · rename_i ho
          cases hD
          exact ⟨_, X _ _ ho, rfl⟩
        · cases hD
      refine ks_wpAny_call_super hD1 hD2 (kh _ _ Ix) rfl (fun c e => by cases e) (looks_mroIn X U.sub) fun h' e k => ?_
      exact q _ h' t (fun b' k' n => ⟨_, rfl, n _ _ (fresh_size _) e⟩) k
theorem ySuperMeth {x C D f dx so : Addr} {name : Str} {pl : Sem Bool} (G : Glob w hb) (U : SupM w C D name f) (Ix : h.get? x = some (instObj C dx)) (Hs : h.get? so = some (ks_superObj D x C)) (hn : (name == ("__class__" : Str)) = false := by decide) :
    Y w A hb h (getMethod (.ref so) name pl) (fun v b => ∃ q, v = (.ref q, []) ∧ b.get? q = some (methodObj (.ref f) (.ref x))) :=
  yNew fun s b Q E kb ki kh q => by
    have X := G.K.keeps (kb.trans ki)
    obtain ⟨hh, g, d, t, os⟩ := s
    dsimp only at ki kh q X ⊢
    cases hc : clsIn (KK w) C with
    | none => have := U.find; unfold ks_superIn at this; rw [hc] at this; cases this
    | some cd =>
      have hm := U.find
      unfold ks_superIn at hm
      rw [hc] at hm
      obtain ⟨of, hof, hofc⟩ : ∃ of, hh.get? f = some of ∧ of.cls = .type "function" := by
        have ht' : ((KK w).lookup f).map (·.cls) = some (.type "function") := U.fn
        cases z : (KK w).lookup f with
        | none => rw [z] at ht'; cases ht'
        | some of => rw [z] at ht'; exact ⟨of, X _ _ z, Option.some.inj ht'⟩
      have xC : x ≠ C := by
        rintro rfl
        unfold clsIn at hc
        split at hc
        · rename_i ho
          have e := X _ _ ho
          rw [kh _ _ Ix] at e; cases e
        · cases hc
      refine ks_wpAny_getMethod_super (kh _ _ Hs) (looks_opaque X U.opq) (l₀ := cd.mro) (fun A Q E s k q => wpAny_bind ((looks_clsIn X hc) A _ E s k (wpAny_pure q))) rfl X hm hof hofc xC hn ?_
      exact q _ _ (t + 1) (fun b' k' n => ⟨_, rfl, n _ _ (fresh_size _) (Heap.get?_push_at rfl rfl)⟩) (Keep.push _ _)
theorem kept_method {q f x : Addr} (G : Glob w hb) (hf : ∃ o fd, (KK w).lookup f = some o ∧ o.data = .func fd) (hq : hb.get? q = some (methodObj (.ref f) (.ref x))) : Kept w hb (.ref q) := fun h' k => ⟨.boundFrame, .inr (.inr rfl), fun A Q E s ks hQ => by
  obtain ⟨o, fd, e1, e2⟩ := hf
  unfold keeperOf
  refine wpAny_bind (wpAny_load (ks _ _ (k _ _ hq)) ?_)
  dsimp only
  rw [if_neg (by decide)]
  refine wpAny_bind (wpAny_load (ks _ _ (k _ _ (G.K _ _ e1))) ?_)
  rw [e2]
  exact wpAny_pure hQ⟩
end
end Mine
end
noncomputable section
open PySem PySem.W PyProof.Rows PySem.Calls Builtin Builtin.ObjectAttr Builtin.Getset_descriptor
set_option Elab.async false
set_option maxRecDepth 100000
set_option linter.unusedVariables false
namespace Mine
section
variable {w : World} {A : Around} {hb0 h0 hb h : Heap} {env : Env} {O : List (Addr × Own)} {s : Shared} {L : Addr} {m : Str → Option Value} {pos : Pos}
theorem ySuper {x C D f dx : Addr} {name : Str} {p p1 p2 p3 : Pos} {dn sn : Str} (G : Glob w hb) (U : SupM w C D name f) (Ix : h.get? x = some (instObj C dx)) (hns : h.Ns env.locals m) (hsn : m sn = some (.ref x))
    (hsup : Y w A hb h (eval (.Name "super" p) env) (Is (.type "super"))) (hdn : Y w A hb h (eval (.Name dn p1) env) (Is (.ref D))) (hk : env.scope.kind = .function := by rfl) (hl : env.kindOf sn = some .local := by rfl) (hd : (sn == ("__debug__" : Str)) = false := by decide) :
    Y w A hb h (eval (.Call (.Name "super" p) [.Name dn p1, .Name sn p2] [] p3) env) (fun v b => ∃ so, v = .ref so ∧ b.get? so = some (ks_superObj D x C)) := by
  refine yCallName (R := fun vs b => vs = [.ref D, .ref x]) hsup kept_type (yArgs_cons hdn fun v b1 h1 u e => yArgs_cons (yName (hns.keeps u.h) hsn hk hl hd) fun v2 b2 h2 u2 e2 => yArgs_nil fun b3 k3 => by cases e; cases e2; rfl) fun vs b1 h1 u e => ?_
  subst e
  exact ySuperNew (G.keep u.b) U (u.h _ _ Ix)
theorem wpSuper0 {o : Expr} {x C D f dx : Addr} {name : Str} {apos : Pos} {pl : Sem Bool} {Q : Value → Shared → Prop} {E : Value → Shared → Prop} (S : St h0 hb0 hb O s.heap) (G : Glob w hb) (U : SupM w C D name f) (Ix : hb.get? x = some (instObj C dx))
    (yo : Y w A hb s.heap (eval o env) (fun v b => ∃ so, v = .ref so ∧ b.get? so = some (ks_superObj D x C)))
    (k : ∀ b' h' tk, St h0 hb0 b' O h' → Keep hb b' → codeAny (model PG w) A (.call (.ref f) ⟨[.ref x], []⟩) (fun r s' => match r with | .ok (.ret v) => Q v s' | .ok _ => False | .error e => E e s') { s with heap := h', toks := tk })
    (hn : (name == ("__class__" : Str)) = false := by decide)
    (ht : eval (.Call (.Attribute o name apos) [] [] pos) env = (do
      let ov ← eval o env
      PySem.standAt apos.atName
      let (f, first) ← PySem.holding [ov] (getMethod ov name pl)
      callWith pos f first (backTo pos (starEach [] env)) (backToKw pos (keywordEach [] env))) := by rfl) :
    wpAny (model PG w) A (eval (.Call (.Attribute o name apos) [] [] pos) env) Q E s := by
  rw [ht]
  refine wpAny_bind (yo.use S.base fun v b1 h1 tk1 e1 r1 => ?_)
  obtain ⟨so, rfl, hso⟩ := e1
  have S1 := S.up r1
  refine wpAny_bind (wpAny_standAt (wpAny_bind ((yHolding (ySuperMeth (G.keep r1.up.b) U (S1.base _ _ (r1.up.b _ _ Ix)) (S1.base _ _ hso) hn)).use S1.base fun fx b2 h2 tk2 e2 r2 => ?_)))
  obtain ⟨q, rfl, hq⟩ := e2
  have S2 := S1.up r2
  have G2 := G.keep (r1.up.b.trans r2.up.b)
  refine callWith_of (P := fun h' => Keep b2 h') rfl (fun h' kk => kept_method G2 U.isf hq h' kk) (((yEvalArgs0 (R := fun vs _ => vs = []) fun _ _ => rfl)).use S2.base fun a b3 h3 tk3 p3 r3 => ?_)
  obtain ⟨ek, ep⟩ := p3
  have S3 := S2.up r3
  refine ⟨r3.up.b.trans S3.base, ?_⟩
  rw [ek, ep, List.append_nil]
  exact wpAny_call (ks_codeAny_call_bound (S3.base _ _ (r3.up.b _ _ hq)) (k b3 h3 tk3 S3 ((r1.up.b.trans r2.up.b).trans r3.up.b)))
theorem m_reset1 {C p dp : Addr} {mp : Str → Option Value} {n : Nat} {Rr : Result → Shared → Prop} (S : St h0 hb0 hb ((dp, .idc mp n) :: O) s.heap) (G : Glob w hb) (R : Rm 2 A) (ho : hb.get? p = some (instObj C dp)) (hn : n ≤ 50) (F : SetF w C "rectangles")
    (k : ∀ D b' h' tk, St h0 hb0 b' ((dp, .idc (upd mp "rectangles" (.ref D)) (n + 1)) :: O) h' → Keep hb b' → b'.PlainList D #[] → hb.get? D = none → Rr (.ok (.ret .none)) { s with heap := h', toks := tk }) :
    codeAny (model PG w) A (.call (.ref 301) ⟨[.ref p], []⟩) Rr s := by
  refine callM (binds := [("self", .ref p)]) S G R (by rfl) (by kernel_rfl) (BindsTo.of_eq rfl) rfl fun h1 tk1 L R1 S k1 E => ?_
  refine wSetN (pre := [_]) (post := O) (P1 := ValL hb fun vs _ => vs = []) S G (S.base _ _ ho) (by lia) (yLst (R := fun vs _ => vs = []) (yArgs_nil fun _ _ => rfl) (by rintro _ _ rfl; decide)) (fun b' h' S' _ => yName S'.ns rfl) F fun v b2 h2 tk2 e S2 k2 _ => ?_
  obtain ⟨b1, kb, D, vs, b0, rfl, pl, _, rfl, nD⟩ := e
  exact wNil (k D b2 h2 tk2 (S2.sub (.cons _ (.refl _))) k2 (let ⟨nn, e⟩ := pl; ⟨nn, kb _ _ e⟩) nD)
theorem m_reset2 {C p dp : Addr} {mp : Str → Option Value} {n : Nat} {wd ht : Int} {tw th : Tok} {Rr : Result → Shared → Prop} (S : St h0 hb0 hb ((dp, .idc mp n) :: O) s.heap) (G : Glob w hb) (R : Rm 4 A) (ho : hb.get? p = some (instObj C dp)) (hn : n ≤ 40) (F : SetF w C "rectangles") (F2 : SetF w C "_max_rects") (Fw : Fld w C "width") (Fh : Fld w C "height")
    (U : SupM w C 391 "reset" 301) (hw : mp "width" = some (.int wd tw)) (hh : mp "height" = some (.int ht th)) (pw : 0 ≤ wd) (ph : 0 ≤ ht)
    (k : ∀ D l a b' h' tk, St h0 hb0 b' ((dp, .idc (upd (upd mp "rectangles" (.ref D)) "_max_rects" (.ref l)) (n + 2)) :: O) h' → Keep hb b' → b'.PlainList D #[] → hb.get? D = none → b'.PlainList l #[.ref a] → IsRect b' a ⟨0, 0, wd, ht⟩ → Rr (.ok (.ret .none)) { s with heap := h', toks := tk }) :
    codeAny (model PG w) A (.call (.ref 388) ⟨[.ref p], []⟩) Rr s := by
  refine callM (binds := [("self", .ref p)]) S G R (by rfl) (by kernel_rfl) (BindsTo.of_eq rfl) rfl fun h1 tk1 L R1 S k1 E => ?_
  refine wpAny_execs_cons (wpAny_Expr_any (wpSuper0 S G U ho (ySuper G U (S.base _ _ ho) S.ns rfl (yBltn G (by rfl) bltn_super (by decide)) (yGlob G (by rfl))) fun b2 h2 tk2 S2 k2 => ?_))
  refine m_reset1 (s := { s with heap := h2, toks := tk2 }) (S2.perm (.swap _ _ _)) (G.keep k2) (R1.less (by decide)) (k2 _ _ ho) (by lia) F fun D b3 h3 tk3 S3 k3 pl nD => ?_
  have S3 := S3.perm (.swap _ _ _)
  have k13 := k2.trans k3
  have G3 := G.keep k13
  dsimp only
  have Ip : Inst h3 p C (upd mp "rectangles" (.ref D)) := S3.inst (k13 _ _ ho) mem1 (by lia)
  have hw' : upd mp "rectangles" (.ref D) "width" = some (.int wd tw) := hw
  have hh' : upd mp "rectangles" (.ref D) "height" = some (.int ht th) := hh
  refine wSetN (pre := [_]) (post := O) (P1 := ValL b3 fun vs b => ∃ a, vs = [.ref a] ∧ IsRect b a ⟨0, 0, wd, ht⟩) S3 G3 (S3.base _ _ (k13 _ _ ho)) (by lia)
    (yLst (yArgs_cons (yRect' G3 (R1.less (by decide)) pw ph (yGlob G3 (by rfl)) (yIntsCons yInt (yIntsCons yInt (yIntsCons ((yGetField G3 (yName S3.ns rfl) Ip Fw hw' rfl).mono fun _ _ _ e => ⟨tw, e⟩) (yIntsCons ((yGetField G3 (yName S3.ns rfl) Ip Fh hh' rfl).mono fun _ _ _ e => ⟨th, e⟩) yIntsNil)))))
      fun v b1 h1 u e => yArgs_nil fun b2 k2 => by obtain ⟨a, rfl, I⟩ := e; exact ⟨a, rfl, I.keep k2⟩) (by rintro _ _ ⟨a, rfl, _⟩; simp)) (fun b' h' S' _ => yName S'.ns rfl) F2 fun v b4 h4 tk4 e S4 k4 _ => ?_
  obtain ⟨b5, kb, l, vs, b0, rfl, pl2, kb0, ⟨a, rfl, I⟩, _⟩ := e
  refine wNil (k D l a b4 h4 tk4 (S4.sub (.cons _ (.refl _))) (k13.trans k4) (let ⟨nn, e⟩ := pl; ⟨nn, k4 _ _ e⟩) (keep_none k2 nD) (let ⟨nn, e⟩ := pl2; ⟨nn, kb _ _ e⟩) (I.keep (kb0.trans kb)))
end
end Mine
end
noncomputable section
open PySem PySem.W PyProof.Rows PySem.Calls Builtin Builtin.ObjectAttr Builtin.Getset_descriptor
set_option Elab.async false
set_option maxRecDepth 100000
set_option linter.unusedVariables false
namespace Mine
section
variable {w : World} {A : Around} {hb0 h0 hb h : Heap} {env : Env} {O : List (Addr × Own)} {s : Shared} {L : Addr} {m : Str → Option Value} {pos : Pos}
theorem callMB {f : Addr} {pos : List Value} {kw : List (Str × Value)} {name qual : Str} {params : Arguments} {body : List Stmt} {scope : Scope} {cl : List (Str × Addr)} {dV kV doc pm cdv ct oc : Value} {an od : Option Addr} {osl : Array (Option Value)}
    {Rr : Result → Shared → Prop} {n : Nat} {Pb : List (Str × Value) → Heap → Prop} (S : St h0 hb0 hb O s.heap) (G : Glob w hb) (R : Rm (n + 1) A)
    (ho : (KK w).lookup f = some ⟨oc, od, .func (fnX name qual params body scope cl dV kV doc pm an cdv ct), osl⟩) (hcd : codeIn (KK w) cdv qual = true)
    (yb : Y w A.in1 hb s.heap (bindArgs (fnX name qual params body scope cl dV kV doc pm an cdv ct) ⟨pos, kw⟩) Pb) (hloc : ∀ binds b, Pb binds b → (binds.all fun y => decide (scope.names.lookup y.1 = some .local)) = true)
    (H : ∀ (h' : Heap) (tk : Nat) (L : Addr) (b' : Heap) (binds : List (Str × Value)), Pb binds b' → Rm n (A.deeper (envX qual scope L f cdv cl)) → St h0 hb0 b' ((L, .ns fun y => binds.reverse.lookup y) :: O) h' → Keep hb b' →
      ∀ E, wpAny (model PG w) (A.deeper (envX qual scope L f cdv cl)) (execs body (envX qual scope L f cdv cl)) (fun fl s' => Rr (.ok (.ret (retOf fl))) s') E { s with heap := h', toks := tk })
    (hcell : scope.names.all (fun x => decide (x.2 ≠ .cell)) = true := by rfl) (hco : scope.isCoroutine = false := by rfl) (hgen : scope.isGenerator = false := by rfl) (hk : scope.kind = .function := by rfl) :
    codeAny (model PG w) A (.call (.ref f) ⟨pos, kw⟩) Rr s := by
  have G'' := G.keep S.base
  refine codeAny_call_function (fd := fnX name qual params body scope cl dV kV doc pm an cdv ct) (body := body) R.room (G''.K _ _ ho) rfl hco hgen rfl (codeRec_of G''.K hcd) ?_
  refine yb.use S.base fun binds b1 h1 tk1 p r1 => ?_
  have S1 := S.up r1
  have hl := hloc binds b1 p
  refine wpAny_newFunctionEnv (fun x hx => of_decide_eq_true (List.all_eq_true.mp hcell x hx)) (fun x hx => of_decide_eq_true (List.all_eq_true.mp hl x hx)) (fun h2 hns sb => ?_) hk
  have k2 : Keep h1 h2 := fun b o e => sb.extBut b o (Nat.ne_of_lt (Heap.lt_size e)) (Heap.get?_push_of_some _ e)
  have S2 : St h0 hb0 b1 ((h1.objs.size, .ns fun y => binds.reverse.lookup y) :: O) h2 := St.add (pre := []) S1 k2 (fresh_size _) hns
  refine ⟨((G.keep r1.up.b).keep S2.base).lim, codeAny_func ?_⟩
  refine wpAny_mono (H h2 _ h1.objs.size b1 binds p R.deeper S2 r1.up.b _) (fun fl s' d => ?_) fun _ _ e => e
  cases fl <;> exact d
theorem yNewTup0 : Y w A hb h (newTuple []) (fun v b => ∃ t, v = .ref t ∧ Tp b t []) :=
  yNew fun s b Q E kb ki kh q => wpAny_newTuple (q _ _ s.toks (fun b' k n => ⟨_, rfl, n _ _ (fresh_size _) (Heap.get?_push_size _ rfl)⟩) (Keep.push _ _)) (by simp)
theorem yAllocDict : Y w A hb h (alloc { cls := .type "dict", data := .dict #[] }) (fun a b => b.get? a = some { cls := .type "dict", data := .dict #[] } ∧ ∀ c o, hb.get? c = some o → @LT.lt Nat _ c a) :=
  yNew fun s b Q E kb ki kh q => wpAny_alloc (q _ _ s.toks (fun b' k n => ⟨n _ _ (fresh_size _) (Heap.get?_push_size _ rfl), fun c o e => Heap.lt_size (ki _ _ (kb _ _ e))⟩) (Keep.push _ _))
theorem yBindStar {fd : FuncData} {args : Args} {T : Addr} {o : Obj} {items : Array Value} {n : Nat} {k : Option (Array Value) → Sem (List (Str × Value))} {binds : Value → Value → List (Str × Value)} (G : Glob w hb) (hd : fd.defaults = .ref T) (ho : (KK w).lookup T = some o) (hs : o.data = .seq items n)
    (h₁ : bindArgs fd args = seqItems? fd.defaults >>= k) (h₂ : k (some items) = (newTuple [] >>= fun t => alloc { cls := .type "dict", data := .dict #[] } >>= fun d => pure (binds t (.ref d)))) :
    Y w A hb h (bindArgs fd args) (fun bs b => ∃ t d, bs = binds (.ref t) (.ref d) ∧ Tp b t [] ∧ b.get? d = some { cls := .type "dict", data := .dict #[] } ∧ ∀ c o, hb.get? c = some o → @LT.lt Nat _ c d) := by
  rw [h₁, hd]
  refine yBind (P := Is (some items)) (yTok fun s Q E kb kh q => wpAny_seqItems (kb _ _ (G.K _ _ ho)) hs (q _ s.toks fun _ _ => rfl)) fun v b1 h1 u e => ?_
  cases e
  rw [h₂]
  refine yBind yNewTup0 fun v b2 h2 u2 e2 => yBind yAllocDict fun a b3 h3 u3 e3 => ?_
  obtain ⟨t, rfl, T⟩ := e2
  exact yPure fun _ k => ⟨t, a, rfl, T.keep (u3.b.trans k), k _ _ e3.1, fun c o e => e3.2 c o (u2.b _ _ (u.b _ _ e))⟩
structure PkI (w : World) (C : Addr) : Prop where
  sw : SetF w C "width"
  sh : SetF w C "height"
  sr : SetF w C "rot"
  srl : SetF w C "rectangles"
  sb : SetF w C "bid"
  ss : SetF w C "_surface"
  smr : SetF w C "_max_rects"
  fw : Fld w C "width"
  fh : Fld w C "height"
  reset : Mth w C "reset" 388
  sup1 : SupM w C 391 "reset" 301
  sup2 : SupM w C 391 "__init__" 222
theorem pki_bl (w) : PkI w 410 := by constructor <;> first | kernel_rfl | (constructor <;> first | kernel_rfl | exact ⟨_, _, by rfl, rfl⟩)
theorem pki_bssf (w) : PkI w 429 := by constructor <;> first | kernel_rfl | (constructor <;> first | kernel_rfl | exact ⟨_, _, by rfl, rfl⟩)
theorem pki_baf (w) : PkI w 448 := by constructor <;> first | kernel_rfl | (constructor <;> first | kernel_rfl | exact ⟨_, _, by rfl, rfl⟩)
theorem pki_blsf (w) : PkI w 467 := by constructor <;> first | kernel_rfl | (constructor <;> first | kernel_rfl | exact ⟨_, _, by rfl, rfl⟩)
theorem m_init1 {C p dp : Addr} {Rr : Result → Shared → Prop} {wd ht : Int} {tw th : Tok} {rot : Bool} (S : St h0 hb0 hb ((dp, .idc (fun _ => none) 0) :: O) s.heap) (G : Glob w hb) (R : Rm 6 A) (K : PkI w C) (ho : hb.get? p = some (instObj C dp)) (pw : 0 ≤ wd) (ph : 0 ≤ ht)
    (k : ∀ D l a b' h' tk mp n, St h0 hb0 b' ((dp, .idc mp n) :: O) h' → Keep hb b' → n ≤ 20 → PMap mp l D rot wd ht → b'.PlainList D #[] → hb.get? D = none → b'.PlainList l #[.ref a] → IsRect b' a ⟨0, 0, wd, ht⟩ → Rr (.ok (.ret .none)) { s with heap := h', toks := tk }) :
    codeAny (model PG w) A (.call (.ref 222) ⟨[.ref p, .int wd tw, .int ht th, .bool rot], []⟩) Rr s := by
  refine callMB S G R (by rfl) (by kernel_rfl) (yBindStar (binds := fun t d => [("self", .ref p), ("width", .int wd tw), ("height", .int ht th), ("rot", .bool rot), ("bid", .none), ("args", t), ("kwargs", d)]) G rfl (by rfl) rfl rfl rfl) (by rintro _ _ ⟨t, d, rfl, _⟩; rfl) fun h1 tk1 L b1 binds e R1 S1 k1 E => ?_
  obtain ⟨t, d, rfl, _⟩ := e
  have S1 : St h0 hb0 b1 ((L, .ns _) :: (dp, .idc (fun _ => none) 0) :: O) h1 := S1
  have G1 := G.keep k1
  refine wSetN (pre := [_]) (post := O) (P1 := Is (.int wd tw)) S1 G1 (S1.base _ _ (k1 _ _ ho)) (by lia) (yName S1.ns rfl) (fun b' h' S' _ => yName S'.ns rfl) K.sw fun v b2 h2 tk2 e S2 k2 _ => ?_
  obtain ⟨_, _, rfl⟩ := e
  have k12 := k1.trans k2
  refine wSetN (pre := [_]) (post := O) (P1 := Is (.int ht th)) S2 (G.keep k12) (S2.base _ _ (k12 _ _ ho)) (by lia) (yName S2.ns rfl) (fun b' h' S' _ => yName S'.ns rfl) K.sh fun v b3 h3 tk3 e S3 k3 _ => ?_
  obtain ⟨_, _, rfl⟩ := e
  have k13 := k12.trans k3
  refine wSetN (pre := [_]) (post := O) (P1 := Is (.bool rot)) S3 (G.keep k13) (S3.base _ _ (k13 _ _ ho)) (by lia) (yName S3.ns rfl) (fun b' h' S' _ => yName S'.ns rfl) K.sr fun v b4 h4 tk4 e S4 k4 _ => ?_
  obtain ⟨_, _, rfl⟩ := e
  have k14 := k13.trans k4
  refine wSetN (pre := [_]) (post := O) (P1 := ValL b4 fun vs _ => vs = []) S4 (G.keep k14) (S4.base _ _ (k14 _ _ ho)) (by lia) (yLst (R := fun vs _ => vs = []) (yArgs_nil fun _ _ => rfl) (by rintro _ _ rfl; decide)) (fun b' h' S' _ => yName S'.ns rfl) K.srl fun v b5 h5 tk5 e S5 k5 _ => ?_
  obtain ⟨_, _, D0, vs, b0, rfl, _⟩ := e
  have k15 := k14.trans k5
  refine wSetN (pre := [_]) (post := O) (P1 := Is .none) S5 (G.keep k15) (S5.base _ _ (k15 _ _ ho)) (by lia) (yName S5.ns rfl) (fun b' h' S' _ => yName S'.ns rfl) K.sb fun v b6 h6 tk6 e S6 k6 _ => ?_
  obtain ⟨_, _, rfl⟩ := e
  have k16 := k15.trans k6
  have G6 := G.keep k16
  refine wSetN (pre := [_]) (post := O) S6 G6 (S6.base _ _ (k16 _ _ ho)) (by lia) (yRect' G6 (R1.less (by decide)) pw ph (yGlob G6 (by rfl)) (yIntsCons yInt (yIntsCons yInt (yIntsCons (yNameI S6.ns rfl) (yIntsCons (yNameI S6.ns rfl) yIntsNil))))) (fun b' h' S' _ => yName S'.ns rfl) K.ss fun v b7 h7 tk7 e S7 k7 _ => ?_
  obtain ⟨_, _, sa, rfl, _⟩ := e
  have k17 := k16.trans k7
  have G7 := G.keep k17
  refine wpAny_execs_cons (wpAny_Expr_any (wpMeth0 S7 G7 (yName S7.ns rfl) (S7.inst (k17 _ _ ho) mem1 (by lia)) K.reset rfl (by kernel_rfl) fun b8 h8 tk8 S8 k8 => ?_))
  have k18 := k17.trans k8
  refine m_reset2 (s := { s with heap := h8, toks := tk8 }) (tw := tw) (th := th) (S8.perm (.swap _ _ _)) (G.keep k18) (R1.less (by decide)) (k18 _ _ ho) (by lia) K.srl K.smr K.fw K.fh K.sup1 rfl rfl pw ph fun D l a b9 h9 tk9 S9 k9 pl nD pl2 I => ?_
  have S9 := S9.perm (.swap _ _ _)
  refine wNil (k D l a b9 h9 tk9 _ _ (S9.sub (.cons _ (.refl _))) (k18.trans k9) (by lia) ⟨rfl, rfl, rfl, ⟨tw, rfl⟩, ⟨th, rfl⟩, ?_⟩ pl (keep_none k18 nD) pl2 I)
  intro x hx
  simp only [packNames, List.mem_cons, List.not_mem_nil, or_false] at hx
  rcases hx with rfl | rfl | rfl | rfl | rfl | rfl | rfl | rfl | rfl | rfl | rfl | rfl <;> rfl
end
end Mine
end
noncomputable section
open PySem PySem.W PyProof.Rows PySem.Calls Builtin Builtin.ObjectAttr Builtin.Getset_descriptor
set_option Elab.async false
set_option maxRecDepth 100000
set_option linter.unusedVariables false
namespace Mine
section
variable {w : World} {A : Around} {hb0 h0 hb h : Heap} {env : Env} {O : List (Addr × Own)} {s : Shared} {L : Addr} {m : Str → Option Value} {pos : Pos}
theorem callWith_star {f : Value} {first : List Value} {args : List (Bool × Sem Value)} {kws : List (Option Str × Sem Value)} {Q : Value → Shared → Prop} {E : Value → Shared → Prop} {b : Heap} (hst : (args.any (·.1) || kws.any (·.1.isNone)) = true) (hk : Kept w b f)
    (h : wpAny (model PG w) A (evalArgs f true args kws) (fun a s₁ => Keep b s₁.heap ∧ wpAny (model PG w) A (call f (first ++ a.pos) a.kw) Q E s₁) E s) : wpAny (model PG w) A (callWith pos f first args kws) Q E s := by
  unfold callWith
  refine wpAny_bind (wpAny_holding (wpAny_mono h (fun a s₁ h₁ => wpAny_bind (wpAny_standAt ?_)) fun _ _ x => x))
  obtain ⟨k, hk', L⟩ := hk _ h₁.1
  simp only [hst]
  refine wpAny_bind (L.here ?_)
  have tail : ∀ {t : Sem Value}, wpAny (model PG w) A t Q E s₁ → wpAny (model PG w) A (t >>= fun r => holding [r] point >>= fun _ => pure r) Q E s₁ :=
    fun ht => wpAny_bind (wpAny_mono ht (fun r s₂ hr => wpAny_bind (wpAny_holding (wpAny_point (wpAny_pure hr)))) fun _ _ x => x)
  have marked (mk : Value) : wpAny (model PG w) A (callMarked mk f (first ++ a.pos) a.kw) Q E s₁ := by unfold callMarked; exact Calls.wpAny_keep h₁.2
  rcases hk' with rfl | rfl | rfl <;> dsimp only <;> first | exact tail (marked _) | exact tail (wpAny_operating h₁.2) | exact tail h₁.2
theorem yCollect0 {t : Addr} (T : Tp h t []) : Y w A hb h (collect (.ref t)) (Is ([] : List Value)) :=
  yGrow fun s Q E kb kh q => wpAny_collect_seq t (.inr rfl) (kh _ _ T) rfl rfl (fun h' k => q _ h' s.toks (fun _ _ => rfl) k) (by simp)
theorem wpMergeEmpty {d kd : Addr} {s : Shared} {Q : Unit → Shared → Prop} {E : Value → Shared → Prop} (hs : kd ≠ sysModules) (hd : s.heap.get? d = some { cls := .type "dict", data := .dict #[] }) (hk : s.heap.get? kd = some { cls := .type "dict", data := .dict #[] }) (q : Q () s) :
    wpAny (model PG w) A (mergeMapping d (.ref kd) true) Q E s := by
  unfold mergeMapping
  have T : s.TypeIs (.ref kd) "dict" := ⟨_, hk, rfl⟩
  refine wpAny_bind (wpAny_isInstance T F.sub_dict_dict ?_)
  dsimp only
  rw [if_pos rfl]
  refine wpAny_bind (wpAny_specialOf T F.slot_dict_iter.lookup ?_)
  refine wpAny_bind (wpAny_pure ?_)
  have e1 : (some (Value.builtin "dict.__iter__") == some (Value.builtin "dict.__iter__")) = true := by simp
  rw [e1]
  dsimp only
  rw [if_neg (show ¬ (kd == sysModules) = true by simpa using hs)]
  refine wpAny_bind (wpAny_dictEntries hd rfl ?_)
  rw [if_pos (show (#[] : Array DictEntry).isEmpty = true from rfl)]
  refine wpAny_bind (wpAny_dictEntries hk rfl ?_)
  refine wpAny_bind ?_
  rw [← Array.forIn_toList]
  show wpAny (model PG w) A (forIn ([] : List DictEntry) PUnit.unit _) _ _ _
  rw [List.forIn_nil]
  refine wpAny_pure ?_
  refine wpAny_bind (wpAny_dictEntries hk rfl ?_)
  refine wpAny_bind (wpAny_dictEpoch hk rfl ?_)
  show wpAny (model PG w) A (forIn [] PUnit.unit _ >>= fun _ => pure ()) _ _ _
  rw [List.forIn_nil]
  exact wpAny_bind (wpAny_pure (wpAny_pure q))
theorem wpMerged {f : Value} {x : Sem Value} {Q : Addr → Shared → Prop} {E : Value → Shared → Prop} {kd : Addr} (hx : ∀ s', Keep s.heap s'.heap → ∀ (Q : Value → Shared → Prop) E, (∀ h' tk, Keep s'.heap h' → h'.get? kd = some { cls := .type "dict", data := .dict #[] } → Q (.ref kd) { s' with heap := h', toks := tk }) → wpAny (model PG w) A x Q E s') (hs : kd ≠ sysModules)
    (q : ∀ d h' tk, Keep s.heap h' → h'.get? d = some { cls := .type "dict", data := .dict #[] } → Q d { s with heap := h', toks := tk }) : wpAny (model PG w) A (mergedKeywords f [(none, x)]) Q E s := by
  unfold mergedKeywords
  refine wpAny_bind (wpAny_alloc ?_)
  refine wpAny_bind (wpAny_holding ?_)
  refine wpAny_bind ?_
  rw [List.forIn_cons]
  refine wpAny_bind ?_
  dsimp only
  refine wpAny_bind ?_
  refine wpAny_of_eq (if_pos (show List.isEmpty (α := Str × Sem Value) [] = true from rfl)) ?_
  refine wpAny_bind (hx _ (Keep.push _ _) _ _ fun h1 tk1 k1 hkd => ?_)
  have hd : h1.get? s.heap.objs.size = some { cls := .type "dict", data := .dict #[] } := k1 _ _ (Heap.get?_push_size _ rfl)
  refine wpAny_bind (wpAny_onRaise (wpAny_holding (wpAny_tryCatch (wpAny_onRaise (wpMergeEmpty hs hd hkd ?_)))))
  refine wpAny_pure ?_
  dsimp only
  rw [List.forIn_nil]
  refine wpAny_pure ?_
  refine wpAny_of_eq (if_pos (show List.isEmpty (α := Str × Sem Value) [] = true from rfl)) ?_
  exact wpAny_pure (q _ h1 tk1 ((Keep.push _ _).trans k1) hd)
theorem ySplicedStar {t : Addr} {x : Sem Value} (y : Y w A hb h x (fun v b => v = .ref t ∧ Tp b t [])) : Y w A hb h (spliced [(true, x)]) (Is ([] : List Value)) := by
  show Y w A hb h (x >>= fun v => (do
    let here ← if true then do
        if ← notIterableAtAll v then
          rule "star.not-iterable"; raiseError "TypeError" s!"Value after * must be an iterable, not {← typeNameOf v}"
        collect v
      else pure [v]
    return here ++ (← holding here (spliced [])) : Sem (List Value))) _
  refine yBind y fun v b1 h1 u e => ?_
  obtain ⟨rfl, T⟩ := e
  intro s b u1 Q E q
  have T' : s.heap.get? t = _ := (u1.b.trans u1.i) _ _ T
  have ty : s.TypeIs (.ref t) "tuple" := ⟨_, T', rfl⟩
  dsimp only
  rw [if_pos rfl]
  unfold notIterableAtAll
  refine wpAny_bind (wpAny_bind (wpAny_specialOf ty F.slot_tuple_iter.lookup ?_))
  refine wpAny_of_eq (if_pos rfl) ?_
  rw [if_neg (by decide)]
  refine wpAny_bind ((yCollect0 (hb := b) (h := s.heap) T').use u1.i fun v b2 h2 tk2 e r2 => ?_)
  cases e
  exact wpAny_bind (wpAny_holding (wpAny_pure (wpAny_pure (q [] b2 h2 tk2 rfl r2))))
theorem wpKwIn {f : Value} {d : Addr} {Q : List (Str × Value) → Shared → Prop} {E : Value → Shared → Prop} {s : Shared} (hd : s.heap.get? d = some { cls := .type "dict", data := .dict #[] }) (q : Q [] s) : wpAny (model PG w) A (keywordsIn f d) Q E s := by
  unfold keywordsIn
  refine wpAny_bind (wpAny_dictEntries hd rfl ?_)
  refine wpAny_bind ?_
  rw [← Array.forIn_toList]
  show wpAny (model PG w) A (forIn ([] : List DictEntry) _ _) _ _ _
  rw [List.forIn_nil]
  exact wpAny_pure (wpAny_pure q)
theorem yArgsStar {f : Value} {args : List (Bool × Sem Value)} {x : Sem Value} {kd : Addr} {vs : List Value} (ya : Y w A hb h (spliced args) (Is vs)) (hlone : 2 ≤ args.length) (hs : kd ≠ sysModules) (hkd : h.get? kd = some { cls := .type "dict", data := .dict #[] })
    (yx : ∀ b' h', Up hb h b' h' → Y w A b' h' x (Is (.ref kd))) : Y w A hb h (evalArgs f true args [(none, x)]) (fun a _ => a.pos = vs ∧ a.kw = []) := by
  intro s b u Q E q
  match args, hlone with
  | ⟨st, x0⟩ :: a2 :: rest, _ =>
    unfold evalArgs
    cases st
    all_goals
      dsimp only
      refine wpAny_bind (ya s b u _ _ fun v b1 h1 tk1 e r1 => wpAny_bind (wpAny_pure ?_))
      cases e
      dsimp only
      refine wpAny_holding ?_
      rw [if_neg (by simp)]
      have u1 : Up hb h b1 h1 := u.trans r1.up
      refine wpAny_bind (wpMerged (kd := kd) (s := { s with heap := h1, toks := tk1 }) (fun s' ks Q' E' q' => ?_) hs fun d h2 tk2 k2 hd2 => ?_)
      · exact (yx b1 h1 u1).keep ⟨.refl _, ks, r1.up.i.trans ks⟩ |>.use (r1.up.i.trans ks) fun v b' h' tk e r => by
          cases e
          exact q' h' tk r.up.h (r.up.h _ _ (ks _ _ (u1.h _ _ hkd)))
      · refine wpAny_bind (wpAny_pure ?_)
        refine wpAny_bind (wpAny_holding (wpKwIn hd2 (wpAny_pure ?_)))
        exact q _ b1 h2 tk2 ⟨rfl, rfl⟩ (r1.trans (.grow r1.up.i k2))
end
end Mine
end
noncomputable section
open PySem PySem.W PyProof.Rows PySem.Calls Builtin Builtin.ObjectAttr Builtin.Getset_descriptor
set_option Elab.async false
set_option maxRecDepth 100000
set_option linter.unusedVariables false
namespace Mine
section
variable {w : World} {A : Around} {hb0 h0 hb h : Heap} {env : Env} {O : List (Addr × Own)} {s : Shared} {L : Addr} {m : Str → Option Value} {pos : Pos}
theorem ySuperAttr {x C D f dx so : Addr} {name : Str} (G : Glob w hb) (U : SupM w C D name f) (Ix : h.get? x = some (instObj C dx)) (Hs : h.get? so = some (ks_superObj D x C)) (hn : (name == ("__class__" : Str)) = false := by decide) :
    Y w A hb h (getAttr (.ref so) name true) (fun v b => ∃ q, v = .ref q ∧ b.get? q = some (methodObj (.ref f) (.ref x))) :=
  yNew fun s b Q E kb ki kh q => by
    have X := G.K.keeps (kb.trans ki)
    obtain ⟨hh, g, d, t, os⟩ := s
    dsimp only at ki kh q X ⊢
    cases hc : clsIn (KK w) C with
    | none => have := U.find; unfold ks_superIn at this; rw [hc] at this; cases this
    | some cd =>
      have hm := U.find
      unfold ks_superIn at hm
      rw [hc] at hm
      obtain ⟨of, hof, hofc⟩ : ∃ of, hh.get? f = some of ∧ of.cls = .type "function" := by
        have ht' : ((KK w).lookup f).map (·.cls) = some (.type "function") := U.fn
        cases z : (KK w).lookup f with
        | none => rw [z] at ht'; cases ht'
        | some of => rw [z] at ht'; exact ⟨of, X _ _ z, Option.some.inj ht'⟩
      have xC : x ≠ C := by
        rintro rfl
        unfold clsIn at hc
        split at hc
        · rename_i ho
          have e := X _ _ ho
          rw [kh _ _ Ix] at e; cases e
        · cases hc
      have hT : ∀ t', (⟨hh, g, d, t', os⟩ : Shared).TypeIs (.ref so) "super" := fun _ => ⟨_, kh _ _ Hs, rfl⟩
      have hlk := F.ks_slot_super_ga.lookup
      unfold getAttr getAttrBy
      refine wpAny_bind (wpAny_mkText (wpAny_holding (wpAny_bind (wpAny_typeOf (hT _) (wpAny_bind (wpAny_of_eq hlk ?_))))))
      dsimp only
      unfold getAttrByItsOwn hookBefore callGetattribute boundAndCalled
      refine wpAny_bind (wpAny_of_eq (show (if onTheHeap (.type "super") then typeLookup (.type "super") "__getattr__" else pure none) = pure none from rfl) ?_)
      refine wpAny_bind (wpAny_attempt (wpAny_holding ?_))
      refine wpAny_bind (wpAny_of_eq (F.ks_slot_super_ga.bind _) ?_)
      refine wpAny_mono (Q := fun v s' => v = .ref hh.objs.size ∧ s' = ⟨hh.push (methodObj (.ref f) (.ref x)), g, d, t + 1, os⟩) (E := fun _ _ => False)
        (wpAny_call_entry F.ks_slot_super_ga (hT _) F.ks_entry_super_ga (ks_wpAny_super_ga (kh _ _ Hs) (looks_opaque X U.opq) (l₀ := cd.mro) (fun A Q E s k q => wpAny_bind ((looks_clsIn X hc) A _ E s k (wpAny_pure q))) rfl X hm hof hofc xC hn ⟨_, rfl, rfl, rfl⟩) (F.ks_gaArgs_super _ _)) (fun v s' hv => ?_) fun _ _ z => z.elim
      obtain ⟨rfl, rfl⟩ := hv
      refine wpAny_pure ?_
      exact q _ _ (t + 1) (fun b' k' n => ⟨_, rfl, n _ _ (fresh_size _) (Heap.get?_push_at rfl rfl)⟩) (Keep.push _ _)
theorem wpSuperStar {o : Expr} {x C D f dx kd : Addr} {name : Str} {apos : Pos} {args : List Expr} {kws : List Keyword} {xk : Sem Value} {vs : List Value} {Q : Value → Shared → Prop} {E : Value → Shared → Prop} (S : St h0 hb0 hb O s.heap) (G : Glob w hb) (U : SupM w C D name f) (Ix : hb.get? x = some (instObj C dx))
    (yo : Y w A hb s.heap (eval o env) (fun v b => ∃ so, v = .ref so ∧ b.get? so = some (ks_superObj D x C)))
    (ya : ∀ b' h', Up hb s.heap b' h' → Y w A b' h' (spliced (backTo pos (starEach args env))) (Is vs)) (yk : ∀ b' h', Up hb s.heap b' h' → Y w A b' h' xk (Is (.ref kd))) (hkd : s.heap.get? kd = some { cls := .type "dict", data := .dict #[] }) (hsm : kd ≠ sysModules)
    (k : ∀ b' h' tk, St h0 hb0 b' O h' → Keep hb b' → codeAny (model PG w) A (.call (.ref f) ⟨.ref x :: vs, []⟩) (fun r s' => match r with | .ok (.ret v) => Q v s' | .ok _ => False | .error e => E e s') { s with heap := h', toks := tk })
    (hlone : 2 ≤ (backTo pos (starEach args env)).length := by exact Nat.le_of_ble_eq_true (by rfl)) (hkw : backToKw pos (keywordEach kws env) = [(none, xk)] := by rfl)
    (hn : (name == ("__class__" : Str)) = false := by decide)
    (ht : eval (.Call (.Attribute o name apos) args kws pos) env = (do
      let ov ← eval o env
      PySem.standAt apos.atName
      let g ← PySem.holding [ov] (getAttr ov name true >>= fun g => pure (g, ([] : List Value)))
      callWith pos g.1 g.2 (backTo pos (starEach args env)) (backToKw pos (keywordEach kws env))) := by rfl) :
    wpAny (model PG w) A (eval (.Call (.Attribute o name apos) args kws pos) env) Q E s := by
  rw [ht]
  refine wpAny_bind (yo.use S.base fun v b1 h1 tk1 e1 r1 => ?_)
  obtain ⟨so, rfl, hso⟩ := e1
  have S1 := S.up r1
  refine wpAny_bind (wpAny_standAt (wpAny_bind ((yHolding (yBind (P := fun v b => ∃ q, v = Value.ref q ∧ b.get? q = some (methodObj (.ref f) (.ref x))) (R := fun v b => ∃ q, v = (Value.ref q, []) ∧ b.get? q = some (methodObj (.ref f) (.ref x))) (ySuperAttr (G.keep r1.up.b) U (S1.base _ _ (r1.up.b _ _ Ix)) (S1.base _ _ hso) hn) fun v b h' u ⟨q, e, hq⟩ => yPure fun b' k => ⟨q, by rw [e], k _ _ hq⟩)).use S1.base fun fx b2 h2 tk2 e2 r2 => ?_)))
  obtain ⟨q, rfl, hq⟩ := e2
  have S2 := S1.up r2
  have G2 := G.keep (r1.up.b.trans r2.up.b)
  have u2 : Up hb s.heap b2 h2 := r1.up.trans r2.up
  rw [hkw]
  refine callWith_star (b := b2) (by simp) (kept_method G2 U.isf hq) ((yArgsStar (ya b2 h2 u2) hlone hsm (u2.h _ _ hkd) fun b' h' u => yk b' h' (u2.trans u)).use S2.base fun a b3 h3 tk3 p3 r3 => ?_)
  obtain ⟨ep, ek⟩ := p3
  have S3 := S2.up r3
  refine ⟨r3.up.b.trans S3.base, ?_⟩
  rw [ek, ep, List.nil_append]
  exact wpAny_call (ks_codeAny_call_bound (S3.base _ _ (r3.up.b _ _ hq)) (k b3 h3 tk3 S3 ((r1.up.b.trans r2.up.b).trans r3.up.b)))
theorem m_init2 {C p dp : Addr} {Rr : Result → Shared → Prop} {wd ht : Int} {tw th : Tok} {rot : Bool} (S : St h0 hb0 hb ((dp, .idc (fun _ => none) 0) :: O) s.heap) (G : Glob w hb) (R : Rm 8 A) (K : PkI w C) (ho : hb.get? p = some (instObj C dp)) (pw : 0 ≤ wd) (ph : 0 ≤ ht)
    (k : ∀ D l a b' h' tk mp n, St h0 hb0 b' ((dp, .idc mp n) :: O) h' → Keep hb b' → n ≤ 20 → PMap mp l D rot wd ht → b'.PlainList D #[] → hb.get? D = none → b'.PlainList l #[.ref a] → IsRect b' a ⟨0, 0, wd, ht⟩ → Rr (.ok (.ret .none)) { s with heap := h', toks := tk }) :
    codeAny (model PG w) A (.call (.ref 332) ⟨[.ref p, .int wd tw, .int ht th, .bool rot], []⟩) Rr s := by
  refine callMB S G R (by rfl) (by kernel_rfl) (yBindStar (binds := fun t d => [("self", .ref p), ("width", .int wd tw), ("height", .int ht th), ("rot", .bool rot), ("args", t), ("kwargs", d)]) G rfl (by rfl) rfl rfl rfl) (by rintro _ _ ⟨t, d, rfl, _⟩; rfl) fun h1 tk1 L b1 binds e R1 S1 k1 E => ?_
  obtain ⟨t, d, rfl, T, hd, hlt⟩ := e
  have S1 : St h0 hb0 b1 ((L, .ns _) :: (dp, .idc (fun _ => none) 0) :: O) h1 := S1
  have G1 := G.keep k1
  have hsm : d ≠ sysModules := fun q => by
    have h5 := hlt 203 _ (G.K 203 _ (by rfl))
    rw [q, show sysModules = 1 from rfl] at h5
    exact absurd h5 (by decide)
  refine wpAny_execs_cons (wpAny_Expr_any (wpSuperStar (kd := d) (vs := [.int wd tw, .int ht th, .bool rot]) S1 G1 K.sup2 (k1 _ _ ho) (ySuper G1 K.sup2 (S1.base _ _ (k1 _ _ ho)) S1.ns rfl (yBltn G1 (by rfl) bltn_super (by decide)) (yGlob G1 (by rfl)))
    (fun b' h' u => yIsCons (yName (S1.ns.keeps u.h) rfl) (yIsCons (yName (S1.ns.keeps u.h) rfl) (yIsCons (yName (S1.ns.keeps u.h) rfl) ?_))) (fun b' h' u => ?_) (S1.base _ _ hd) hsm fun b2 h2 tk2 S2 k2 => ?_))
  · exact ySplicedStar (t := t) (yBind (yName (S1.ns.keeps u.h) rfl) fun v b2 h2 u2 e => by cases e; exact ySeq_standAt (yPure fun b3 k3 => ⟨rfl, T.keep (u.b.trans (u2.b.trans k3))⟩))
  · exact yBind (yName (S1.ns.keeps u.h) rfl) fun v b2 h2 u2 e => by cases e; exact ySeq_standAt (yPure fun b3 k3 => rfl)
  · have k12 := k1.trans k2
    refine m_init1 (s := { s with heap := h2, toks := tk2 }) (S2.perm (.swap _ _ _)) (G.keep k12) (R1.less (by decide)) K (k12 _ _ ho) pw ph fun D l a b3 h3 tk3 mp n S3 k3 hn P pl nD pl2 I => ?_
    have S3 := S3.perm (.swap _ _ _)
    exact wNil (k D l a b3 h3 tk3 mp n (S3.sub (.cons _ (.refl _))) (k12.trans k3) hn P pl (keep_none k12 nD) pl2 I)
structure NewPack (hb b : Heap) (C p dp l D a : Addr) (mp : Str → Option Value) (n : Nat) (rot : Bool) (wd ht : Int) : Prop where
  obj : b.get? p = some (instObj C dp)
  dict : (Own.idc mp n).At b dp
  few : n ≤ 20
  map : PMap mp l D rot wd ht
  rl : b.PlainList D #[]
  mr : b.PlainList l #[.ref a]
  rect : IsRect b a ⟨0, 0, wd, ht⟩
  np : hb.get? p = none
  nd : hb.get? dp = none
  nD : hb.get? D = none
theorem c_pack {C : Addr} {wd ht : Int} {tw th : Tok} {rot : Bool} (G : Glob w hb) (R : Rm 9 A) (K : PkI w C) (mk : makesIn (KK w) C = true) (hi : findIn (KK w) (.ref C) "__init__" = some (some (.ref 332))) (pw : 0 ≤ wd) (ph : 0 ≤ ht) :
    Mine.C w A hb h (.ref C) [.int wd tw, .int ht th, .bool rot] [] fun v b' => ∃ p dp l D a mp n, v = .ref p ∧ NewPack hb b' C p dp l D a mp n rot wd ht := by
  intro s b u Rr q
  obtain ⟨hh, g, d, t, os⟩ := s
  dsimp only at u q
  have Gb := G.keep u.b
  have Gh := Gb.keep u.i
  refine make_core (init := .ref 332) (makes_of Gh.K mk) (looks_findIn Gh.K hi) (fun self => bind_fn Gh.K self (by kernel_rfl)) (.inl rfl) ?_
  have n0 := fresh_size hh
  have n1 := fresh_size (hh.push emptyDict)
  rw [Heap.size_push] at n1
  have S0 : St hh b b [] hh := ⟨.refl u.i, fun p m => (by cases m), .nil⟩
  have S1 : St hh b b [(hh.objs.size, .idc (fun _ => none) 0)] (hh.push emptyDict) := St.add (pre := []) (post := []) S0 (Keep.push _ _) n0 ⟨#[], 0, Heap.get?_push_size _ rfl, by intro e he; simp at he, fun _ => rfl, Nat.le_refl _⟩
  have S2 : St hh b b [(hh.objs.size, .idc (fun _ => none) 0), (hh.objs.size + 1, .obj (instObj C hh.objs.size))] ((hh.push emptyDict).push (instObj C hh.objs.size)) :=
    St.add (pre := [(hh.objs.size, .idc (fun _ => none) 0)]) (post := []) S1 (Keep.push _ _) n1 (by
      have := Heap.get?_push_size (hh.push emptyDict) (o := instObj C hh.objs.size) rfl
      rw [Heap.size_push] at this; exact this)
  obtain ⟨c1, T1, e1, D1⟩ := St.freeze (pre := [_]) S2
  have T1 : St hh b c1 [(hh.objs.size, .idc (fun _ => none) 0)] ((hh.push emptyDict).push (instObj C hh.objs.size)) := T1
  refine m_init2 (s := ⟨(hh.push emptyDict).push (instObj C hh.objs.size), g, d, t, os⟩) T1 (Gb.keep e1) (R.type (n := 8)) K D1 pw ph fun D l a b' h' tk mp n S3 k3 hn P pl nD pl2 I => ?_
  obtain ⟨c2, T2, e2, D2⟩ := St.freeze (pre := []) S3
  refine ⟨rfl, q _ c2 h' tk ⟨hh.objs.size + 1, hh.objs.size, l, D, a, mp, n, rfl, e2 _ _ (k3 _ _ D1), D2, hn, P, ?_, ?_, I.keep e2, keep_none (u.b.trans u.i) (fresh_ge (Nat.le_succ _)), keep_none (u.b.trans u.i) n0, keep_none (u.b.trans e1) nD⟩ T2.res⟩
  · obtain ⟨nn, e⟩ := pl; exact ⟨nn, e2 _ _ e⟩
  · obtain ⟨nn, e⟩ := pl2; exact ⟨nn, e2 _ _ e⟩
end
end Mine
end
noncomputable section
open PySem PySem.W PyProof.Rows PySem.Calls Builtin Builtin.ObjectAttr Builtin.Getset_descriptor
set_option Elab.async false
set_option maxRecDepth 100000
set_option linter.unusedVariables false
namespace Mine
def side (number most : Int) : Int := 1 + (((number.natAbs : Int).fdiv 3).fmod (most + 1)).fdiv (1 + (number.natAbs : Int).fmod 3)
section
variable {w : World} {A : Around} {hb h : Heap}
theorem c_side {number most : Int} {t1 t2 : Tok} (G : Glob w hb) (R : Rm 2 A) (hm : 0 ≤ most) : C w A hb h (.ref 483) [.int number t1, .int most t2] [] (IsI (side number most)) := by
  refine callC (binds := [("number", .int number t1), ("most", .int most t2)]) G R (by rfl) (by kernel_rfl) (fun s _ => BindsTo.of_eq rfl) (locs_of rfl) fun s c h0 L u G₁ R₁ S E => ?_
  refine wLet S (P1 := IsI number.natAbs) (yAbs (yNameI S.ns rfl) (yBltn G₁ (by rfl) bltn_abs (by decide))) fun v b1 h1 tk1 e S k1 => ?_
  obtain ⟨t, rfl⟩ := e
  have h3 : 0 ≤ (number.natAbs : Int).fmod 3 := Int.fmod_nonneg_of_pos _ (by decide)
  have h4 : (number.natAbs : Int).fmod 3 < 3 := Int.fmod_lt_of_pos _ (by decide)
  refine wRet S (P := IsI (side number most)) (yAdd yInt (yDiv (yMod (yDiv (yNameI S.ns rfl) yInt (by decide) (by decide)) (yAdd (yNameI S.ns rfl) yInt) (by lia)) (yAdd yInt (yMod (yNameI S.ns rfl) yInt (by decide))) (by lia) (by lia))) fun v b' h' tk p S' k => ⟨b', h', tk, rfl, p, S'.res⟩
def measure (way : Nat) (y w h a b : Int) : Int := match way with
  | 0 => y + b
  | 1 => min (w - a) (h - b)
  | 2 => w * h - a * b
  | _ => max (w - a) (h - b)
theorem c_at {sc : Addr} {vs : List Value} {k : Nat} {o : Int} {tk to : Tok} {r : Int} (G : Glob w hb) (R : Rm 2 A) (hl : h.IsList sc vs.toArray) (hz : vs.length ≤ 1000) (hr : ∀ v, vs[k]? = some v → ∃ t, v = .int r t) (hr' : vs.length ≤ k → r = o) :
    C w A hb h (.ref 476) [.ref sc, .int k tk, .int o to] [] (IsI r) := by
  refine callC (binds := [("script", .ref sc), ("k", .int k tk), ("other", .int o to)]) G R (by rfl) (by kernel_rfl) (fun s _ => BindsTo.of_eq rfl) (locs_of rfl) fun s c h0 L u G₁ R₁ S E => ?_
  have hl1 : s.heap.IsList sc vs.toArray := hl.at fun o e => S.keep _ _ (u.h _ _ e)
  refine wRet S (P := IsI r) (yIfExp (b := decide ((k : Int) < vs.toArray.size)) ?_ (fun hb => ?_) fun hb => ?_) fun v b' h' tk p S' k => ⟨b', h', tk, rfl, p, S'.res⟩
  · exact yEq (yTestCompare (yCmp (yLen hl1 (by simp; lia) (yName S.ns rfl) (yBltn G₁ (by rfl) bltn_len (by decide))) (yNameI S.ns rfl))) (by simp [cmpB])
  · have hk : k < vs.length := by simp at hb; lia
    obtain ⟨t, e⟩ := hr _ (List.getElem?_eq_getElem hk)
    exact (yItemL hl1 (by lia) (List.getElem?_eq_getElem hk) (.refl _) (fun b1 h1 u => yNameI (S.ns.keeps u.h) rfl) (yName S.ns rfl)).mono fun v b _ q => ⟨t, q.trans e⟩
  · have : vs.length ≤ k := by simp at hb; lia
    rw [hr' this]
    exact yNameI S.ns rfl
theorem c_measure {way y wd ht a b : Int} {n : Nat} {tw t1 t2 t3 t4 t5 : Tok} (hn : way = n) (hn4 : n < 4) (G : Glob w hb) (R : Rm 2 A) (m1 : IntMulOk wd ht) (m2 : IntMulOk a b) :
    C w A hb h (.ref 497) [.int way tw, .int y t1, .int wd t2, .int ht t3, .int a t4, .int b t5] [] (IsI (measure n y wd ht a b)) := by
  refine callC (binds := [("way", .int way tw), ("y", .int y t1), ("w", .int wd t2), ("h", .int ht t3), ("a", .int a t4), ("b", .int b t5)]) G R (by rfl) (by kernel_rfl) (fun s _ => BindsTo.of_eq rfl) (locs_of rfl) fun s c h0 L u G₁ R₁ S E => ?_
  have fin : ∀ {v : Value} {b' h' : Heap} {tk : Nat} {x : Int}, IsI x v b' → x = measure n y wd ht a b → IsI (measure n y wd ht a b) v b' := fun p e => e ▸ p
  refine wIf (b := decide (way = 0)) S (yTestCompare (yCmp (yNameI S.ns rfl) yInt)) (fun hb b1 h1 tk1 S k => wRet S (P := IsI (y + b)) (yAdd (yNameI S.ns rfl) (yNameI S.ns rfl)) fun v b' h' tk p S' k => ⟨b', h', tk, rfl, ?_, S'.res⟩) fun hb b1 h1 tk1 S k => ?_
  · have : n = 0 := by simp at hb; lia
    subst this; exact p
  have G1 := G₁.keep k
  refine wIf (b := decide (way = 1)) S (yTestCompare (yCmp (yNameI S.ns rfl) yInt)) (fun hb b1 h1 tk1 S k => wRet S (P := IsI (min (wd - a) (ht - b))) (yMin2 (G1.keep k) R₁.hd (ySub (yNameI S.ns rfl) (yNameI S.ns rfl)) (ySub (yNameI S.ns rfl) (yNameI S.ns rfl)) (yBltn (G1.keep k) (by rfl) bltn_min (by decide))) fun v b' h' tk p S' k => ⟨b', h', tk, rfl, ?_, S'.res⟩) fun hb2 b1 h1 tk1 S k => ?_
  · have : n = 1 := by simp at hb; lia
    subst this; exact p
  have G2 := G1.keep k
  refine wIf (b := decide (way = 2)) S (yTestCompare (yCmp (yNameI S.ns rfl) yInt)) (fun hb b1 h1 tk1 S k => wRet S (P := IsI (wd * ht - a * b)) (ySub (yMul (yNameI S.ns rfl) (yNameI S.ns rfl) m1) (yMul (yNameI S.ns rfl) (yNameI S.ns rfl) m2)) fun v b' h' tk p S' k => ⟨b', h', tk, rfl, ?_, S'.res⟩) fun hb3 b1 h1 tk1 S k => ?_
  · have : n = 2 := by simp at hb; lia
    subst this; exact p
  have G3 := G2.keep k
  refine wRet S (P := IsI (max (wd - a) (ht - b))) (yMax2 G3 R₁.hd (ySub (yNameI S.ns rfl) (yNameI S.ns rfl)) (ySub (yNameI S.ns rfl) (yNameI S.ns rfl)) (yBltn G3 (by rfl) bltn_max (by decide))) fun v b' h' tk p S' k => ⟨b', h', tk, rfl, ?_, S'.res⟩
  have : n = 3 := by simp at hb hb2 hb3; lia
  subst this; exact p
end
end Mine
end
noncomputable section
open PySem PySem.W PyProof.Rows PySem.Calls Builtin Builtin.ObjectAttr Builtin.Getset_descriptor
set_option Elab.async false
set_option maxRecDepth 100000
set_option linter.unusedVariables false
namespace Mine
def packCls (n : Nat) : Addr := match n with
  | 0 => 410
  | 1 => 429
  | 2 => 448
  | _ => 467
section
variable {w : World} {A : Around} {hb h : Heap} {env : Env} {pos : Pos}
inductive IsPack (hb : Heap) (C : Addr) (rot : Bool) (wd ht : Int) (v : Value) (b : Heap) : Prop
  | mk (p dp l D a : Addr) (mp : Str → Option Value) (n : Nat) (e : v = .ref p) (N : NewPack hb b C p dp l D a mp n rot wd ht)
theorem NewPack.base {hb0 hb b : Heap} {C p dp l D a : Addr} {mp : Str → Option Value} {n : Nat} {rot : Bool} {wd ht : Int} (N : NewPack hb b C p dp l D a mp n rot wd ht) (k : Keep hb0 hb) : NewPack hb0 b C p dp l D a mp n rot wd ht :=
  ⟨N.obj, N.dict, N.few, N.map, N.rl, N.mr, N.rect, keep_none k N.np, keep_none k N.nd, keep_none k N.nD⟩
theorem yPack {C : Addr} {p : Pos} {id : Str} {e1 e2 e3 : Expr} {wd ht : Int} {tw th : Tok} {rot : Bool} (G : Glob w hb) (R : Rm 9 A) (K : PkI w C) (mk : makesIn (KK w) C = true) (hi : findIn (KK w) (.ref C) "__init__" = some (some (.ref 332))) (hkp : keepIn (KK w) (.ref C) = true) (pw : 0 ≤ wd) (ph : 0 ≤ ht)
    (yf : Y w A hb h (eval (.Name id p) env) (Is (.ref C))) (ya : Y w A hb h (spliced (backTo pos (starEach [e1, e2, e3] env))) (Is [.int wd tw, .int ht th, .bool rot]))
    (he : starEach [e1, e2, e3] env = (false, eval e1 env) :: starEach [e2, e3] env := by rfl) (hplain : ((backTo pos (starEach [e1, e2, e3] env)).any (·.1) || (backToKw pos (keywordEach [] env)).any (·.1.isNone)) = false := by rfl) :
    Y w A hb h (eval (.Call (.Name id p) [e1, e2, e3] [] pos) env) (IsPack hb C rot wd ht) :=
  yCallName yf (kept_K G hkp) ya (fun vs b1 h1 u e => by
    cases e
    exact (yCall (c_pack (G.keep u.b) R K mk hi pw ph)).mono fun v b' k ⟨p, dp, l, D, a, mp, n, e, N⟩ => ⟨p, dp, l, D, a, mp, n, e, N.base u.b⟩) he hplain
theorem c_bin {way wd ht : Int} {n : Nat} {t1 t2 t3 : Tok} {rot : Bool} (hn : way = n) (hn4 : n < 4) (G : Glob w hb) (R : Rm 11 A) (pw : 0 ≤ wd) (ph : 0 ≤ ht) :
    C w A hb h (.ref 490) [.int way t1, .int wd t2, .int ht t3, .bool rot] [] (IsPack hb (packCls n) rot wd ht) := by
  refine callC (binds := [("way", .int way t1), ("wide", .int wd t2), ("high", .int ht t3), ("turn", .bool rot)]) G R (by rfl) (by kernel_rfl) (fun s _ => BindsTo.of_eq rfl) (locs_of rfl) fun s c h0 L u G₁ R₁ S E => ?_
  have back : ∀ {C : Addr} {c' : Heap} {v : Value} {b : Heap}, Keep c c' → IsPack c' C rot wd ht v b → IsPack hb C rot wd ht v b := fun k ⟨p, dp, l, D, a, mp, n, e, N⟩ => ⟨p, dp, l, D, a, mp, n, e, N.base (u.b.trans k)⟩
  have R9 : Rm 9 _ := R₁.less (k := 9) (by decide)
  refine wIf (b := decide (way = 0)) S (yTestCompare (yCmp (yNameI S.ns rfl) yInt)) (fun hb b1 h1 tk1 S k => wRet S (P := IsPack b1 410 rot wd ht) (yPack (G₁.keep k) R9 (pki_bl w) (by kernel_rfl) (by kernel_rfl) (by kernel_rfl) pw ph (yGlob (G₁.keep k) (by rfl)) (yIsCons (yName S.ns rfl) (yIsCons (yName S.ns rfl) (yIsCons (yName S.ns rfl) yIsNil)))) fun v b' h' tk p S' k' => ⟨b', h', tk, rfl, ?_, S'.res⟩) fun hb b1 h1 tk1 S k => ?_
  · have : n = 0 := by simp at hb; lia
    subst this; exact back k p
  have k1 := k
  refine wIf (b := decide (way = 1)) S (yTestCompare (yCmp (yNameI S.ns rfl) yInt)) (fun hb b1 h1 tk1 S k => wRet S (P := IsPack b1 429 rot wd ht) (yPack ((G₁.keep k1).keep k) R9 (pki_bssf w) (by kernel_rfl) (by kernel_rfl) (by kernel_rfl) pw ph (yGlob ((G₁.keep k1).keep k) (by rfl)) (yIsCons (yName S.ns rfl) (yIsCons (yName S.ns rfl) (yIsCons (yName S.ns rfl) yIsNil)))) fun v b' h' tk p S' k' => ⟨b', h', tk, rfl, ?_, S'.res⟩) fun hb2 b1 h1 tk1 S k => ?_
  · have : n = 1 := by simp at hb; lia
    subst this; exact back (k1.trans k) p
  have k2 := k1.trans k
  refine wIf (b := decide (way = 2)) S (yTestCompare (yCmp (yNameI S.ns rfl) yInt)) (fun hb b1 h1 tk1 S k => wRet S (P := IsPack b1 448 rot wd ht) (yPack ((G₁.keep k2).keep k) R9 (pki_baf w) (by kernel_rfl) (by kernel_rfl) (by kernel_rfl) pw ph (yGlob ((G₁.keep k2).keep k) (by rfl)) (yIsCons (yName S.ns rfl) (yIsCons (yName S.ns rfl) (yIsCons (yName S.ns rfl) yIsNil)))) fun v b' h' tk p S' k' => ⟨b', h', tk, rfl, ?_, S'.res⟩) fun hb3 b1 h1 tk1 S k => ?_
  · have : n = 2 := by simp at hb; lia
    subst this; exact back (k2.trans k) p
  have k3 := k2.trans k
  refine wRet S (P := IsPack b1 467 rot wd ht) (yPack (G₁.keep k3) R9 (pki_blsf w) (by kernel_rfl) (by kernel_rfl) (by kernel_rfl) pw ph (yGlob (G₁.keep k3) (by rfl)) (yIsCons (yName S.ns rfl) (yIsCons (yName S.ns rfl) (yIsCons (yName S.ns rfl) yIsNil)))) fun v b' h' tk p S' k' => ⟨b', h', tk, rfl, ?_, S'.res⟩
  have : n = 3 := by simp at hb hb2 hb3; lia
  subst this; exact back k3 p
end
end Mine
end
noncomputable section
open PySem PySem.W PyProof.Rows PySem.Calls
set_option Elab.async false
set_option linter.unusedVariables false
namespace Mine
noncomputable def Spec {α : Type} (K : Nat → Int) (n : Nat) : KasT α → (α → Prop) → Prop
  | .ret a, P => P a
  | .ask i j k, P => i < n ∧ j < n ∧ Spec K n (k (decide (K i < K j))) P
theorem Spec.bind {α β : Type} {K : Nat → Int} {n : Nat} {P : β → Prop} {f : α → KasT β} : ∀ {t : KasT α}, Spec K n t (fun a => Spec K n (f a) P) → Spec K n (t.bind f) P
  | .ret a, h => h
  | .ask i j k, ⟨a, b, h⟩ => ⟨a, b, h.bind⟩
theorem Spec.wp {α : Type} {K : Nat → Int} {n : Nat} {cmp : Nat → Nat → (Bool → Shared → Prop) → Shared → Prop} {I : Shared → Prop} {P : α → Prop} {Q : α → Shared → Prop}
    (hc : ∀ i j C s, i < n → j < n → I s → (∀ s', I s' → C (decide (K i < K j)) s') → cmp i j C s) (hq : ∀ a s, P a → I s → Q a s) : ∀ {t : KasT α} {s : Shared}, Spec K n t P → I s → t.kasWp cmp Q s
  | .ret a, s, h, hi => hq a s h hi
  | .ask i j k, s, ⟨a, b, h⟩, hi => hc i j _ s a b hi fun s' hi' => h.wp hc hq hi'
section
variable {K : Nat → Int} {n : Nat}
def PI (n : Nat) (p : Array Nat) : Prop := p.Perm (List.toArray (List.range n))
theorem PI.size {p : Array Nat} (h : PI n p) : p.size = n := by have := h.size_eq; simpa using this
theorem PI.lt {p : Array Nat} (h : PI n p) {i : Nat} (hi : i < n) : p.getD i 0 < n := by
  have hs := h.size
  have hi' : i < p.size := by lia
  have e : p.getD i 0 = p[i] := by simp [Array.getD, hi']
  have m : p[i] ∈ p.toList := by simp
  have m2 := (Array.perm_iff_toList_perm.mp h).mem_iff.mp m
  rw [e]; simpa using m2
def KP (K : Nat → Int) (p : Array Nat) (i : Nat) : Int := K (p.getD i 0)
def Asc (K : Nat → Int) (p : Array Nat) (m : Nat) : Prop := ∀ i j, i ≤ j → j < m → KP K p i ≤ KP K p j
def Desc (K : Nat → Int) (p : Array Nat) (m : Nat) : Prop := ∀ i j, i ≤ j → j < m → KP K p j ≤ KP K p i
theorem asc_ok {p : Array Nat} (h : PI n p) : ∀ (f m : Nat) (P : Nat → Prop), 1 ≤ m → m + f ≤ n → Asc K p m → (∀ m', m ≤ m' → m' ≤ m + f → Asc K p m' → (m' < m + f → KP K p m' < KP K p (m' - 1)) → P m') → Spec K n (kas_asc p f m) P
  | 0, m, P, h1, hn, ha, q => q m (Nat.le_refl _) (Nat.le_refl _) ha (fun z => absurd z (Nat.lt_irrefl _))
  | f + 1, m, P, h1, hn, ha, q => by
    refine ⟨h.lt (by lia), h.lt (by lia), ?_⟩
    by_cases c : K (p.getD m 0) < K (p.getD (m - 1) 0)
    · rw [show decide (K (p.getD m 0) < K (p.getD (m - 1) 0)) = true from decide_eq_true c]
      exact q m (Nat.le_refl _) (by lia) ha fun _ => c
    · rw [show decide (K (p.getD m 0) < K (p.getD (m - 1) 0)) = false from decide_eq_false c]
      refine asc_ok h f (m + 1) P (by lia) (by lia) (fun i j hij hj => ?_) fun m' a b hA hl => q m' (by lia) (by lia) hA fun z => hl (by lia)
      by_cases e : j < m
      · exact ha i j hij e
      · have : j = m := by lia
        subst this
        by_cases e2 : i = j
        · subst e2; exact Int.le_refl _
        · have := ha i (j - 1) (by lia) (by lia)
          have c' : KP K p (j - 1) ≤ KP K p j := by unfold KP; lia
          exact Int.le_trans this c'
theorem KP_rev {p : Array Nat} {i j : Nat} (hj : j ≤ p.size) (k : Nat) : KP K (kas_rev p i j) k = if i ≤ k ∧ k < j then KP K p (i + j - 1 - k) else KP K p k := by
  unfold KP kas_rev
  rw [Array.getD_eq_getD_getElem?, getElem?_mirror_all hj k]
  split <;> rw [Array.getD_eq_getD_getElem?]
theorem PI.rev {p : Array Nat} (h : PI n p) (i j : Nat) : PI n (kas_rev p i j) := (mirror_perm _ _ _ _).trans h
theorem tail3_ok {p : Array Nat} (h : PI n p) {m nrem : Nat} {P : Nat × Array Nat → Prop} (h1 : 1 ≤ m) (hm : m ≤ nrem) (hn : nrem ≤ n) (hd : Desc K p m) (q : ∀ m' p', PI n p' → 1 ≤ m' → m' ≤ nrem → Asc K p' m' → P (m', p')) :
    Spec K n (kas_tail3 m nrem p) P := by
  have hr := h.rev 0 m
  have hs := h.size
  refine Spec.bind (asc_ok hr (nrem - m) m _ h1 (by lia) (fun i j hij hj => ?_) fun m' a b hA _ => q m' _ hr (by lia) (by lia) hA)
  rw [KP_rev (by lia), KP_rev (by lia), if_pos (by lia), if_pos (by lia)]
  exact hd _ _ (by lia) (by lia)
theorem desc_ok : ∀ (f : Nat) (p : Array Nat) (m q : Nat) (P : Array Nat × Nat × Nat → Prop), PI n p → 1 ≤ m → m + f ≤ n → q + 1 ≤ m → Desc K p m → (∀ i, m - (q + 1) ≤ i → i < m → KP K p i = KP K p (m - 1)) →
    (∀ p' m' q', PI n p' → m ≤ m' → m' ≤ m + f → q' + 1 ≤ m' → Desc K p' m' → (∀ i, m' - (q' + 1) ≤ i → i < m' → KP K p' i = KP K p' (m' - 1)) → P (p', m', q')) → Spec K n (kas_desc f p m q) P
  | 0, p, m, q, P, h, h1, hn, hq, hd, he, k => k p m q h (Nat.le_refl _) (Nat.le_refl _) hq hd he
  | f + 1, p, m, q, P, h, h1, hn, hq, hd, he, k => by
    have hs := h.size
    have next : ∀ {x : Int}, KP K p m ≤ KP K p (m - 1) → Desc K p (m + 1) := fun {x} hle i j hij hj => by
      by_cases e : j < m
      · exact hd i j hij e
      · have : j = m := by lia
        subst this
        by_cases e2 : i = j
        · subst e2; exact Int.le_refl _
        · exact Int.le_trans hle (hd i (j - 1) (by lia) (by lia))
    refine ⟨h.lt (by lia), h.lt (by lia), ?_⟩
    by_cases c : K (p.getD m 0) < K (p.getD (m - 1) 0)
    · rw [show decide (K (p.getD m 0) < K (p.getD (m - 1) 0)) = true from decide_eq_true c]
      dsimp only; rw [if_pos rfl]
      have hle : KP K p m ≤ KP K p (m - 1) := Int.le_of_lt c
      by_cases hq0 : q > 0
      · rw [if_pos hq0]
        have same : ∀ x, KP K (kas_rev p (m - (q + 1)) m) x = KP K p x := fun x => by
          rw [KP_rev (by lia)]
          split
          · rw [he _ (by lia) (by lia), he x (by lia) (by lia)]
          · rfl
        refine desc_ok f _ (m + 1) 0 P (h.rev _ _) (by lia) (by lia) (by lia) (fun i j hij hj => ?_) (fun i a b => by congr 1; lia) fun p' m' q' a b c' => k p' m' q' a (by lia) (by lia)
        rw [same, same]; exact next (x := 0) hle i j hij hj
      · rw [if_neg hq0]
        exact desc_ok f p (m + 1) 0 P h (by lia) (by lia) (by lia) (next (x := 0) hle) (fun i a b => by congr 1; lia) fun p' m' q' a b c' => k p' m' q' a (by lia) (by lia)
    · rw [show decide (K (p.getD m 0) < K (p.getD (m - 1) 0)) = false from decide_eq_false c]
      dsimp only; rw [if_neg (by decide)]
      refine ⟨h.lt (by lia), h.lt (by lia), ?_⟩
      by_cases c2 : K (p.getD (m - 1) 0) < K (p.getD m 0)
      · rw [show decide (K (p.getD (m - 1) 0) < K (p.getD m 0)) = true from decide_eq_true c2]
        dsimp only; rw [if_pos rfl]
        exact k p m q h (Nat.le_refl _) (by lia) hq hd he
      · rw [show decide (K (p.getD (m - 1) 0) < K (p.getD m 0)) = false from decide_eq_false c2]
        dsimp only; rw [if_neg (by decide)]
        have heq : KP K p m = KP K p (m - 1) := by unfold KP; lia
        refine desc_ok f p (m + 1) (q + 1) P h (by lia) (by lia) (by lia) (next (x := 0) (by lia)) (fun i a b => ?_) fun p' m' q' a b c' => k p' m' q' a (by lia) (by lia)
        rw [show m + 1 - 1 = m by lia]
        by_cases e : i = m
        · rw [e]
        · rw [heq]; exact he i (by lia) (by lia)
theorem descPart_ok {p : Array Nat} (h : PI n p) {m nrem : Nat} {P : Nat × Array Nat → Prop} (hm : m + 1 ≤ nrem) (hn : nrem ≤ n) (hd : Desc K p (m + 1)) (q : ∀ m' p', PI n p' → 1 ≤ m' → m' ≤ nrem → Asc K p' m' → P (m', p')) :
    Spec K n (kas_descPart m nrem p) P := by
  refine Spec.bind (desc_ok _ p (m + 1) 0 _ h (by lia) (by lia) (by lia) hd (fun i a b => by congr 1; lia) fun p' m' q' hp a b hq hd' he => ?_)
  have hs := hp.size
  dsimp only
  by_cases hq0 : q' > 0
  · rw [if_pos hq0]
    have same : ∀ x, KP K (kas_rev p' (m' - (q' + 1)) m') x = KP K p' x := fun x => by
      rw [KP_rev (by lia)]
      split
      · rw [he _ (by lia) (by lia), he x (by lia) (by lia)]
      · rfl
    exact tail3_ok (hp.rev _ _) (by lia) (by lia) hn (fun i j hij hj => by rw [same, same]; exact hd' i j hij hj) q
  · rw [if_neg hq0]
    exact tail3_ok hp (by lia) (by lia) hn hd' q
theorem count_ok {p : Array Nat} (h : PI n p) {nrem : Nat} {P : Nat × Array Nat → Prop} (h1 : 1 ≤ nrem) (hn : nrem ≤ n) (q : ∀ m' p', PI n p' → 1 ≤ m' → m' ≤ nrem → Asc K p' m' → P (m', p')) : Spec K n (kas_count nrem p) P := by
  have a1 : Asc K p 1 := fun i j hij hj => by
    have e1 : i = 0 := by lia
    have e2 : j = 0 := by lia
    subst e1 e2; exact Int.le_refl _
  unfold kas_count
  refine Spec.bind (asc_ok h (nrem - 1) 1 _ (Nat.le_refl _) (by lia) a1 fun m a b hA hl => ?_)
  by_cases c : m = nrem
  · rw [if_pos (by simpa using c)]; exact q m p h a (by lia) hA
  · rw [if_neg (by simpa using c)]
    have hs := h.size
    have hlt := hl (by lia)
    have dsc : (∀ i, i < m → KP K p i = KP K p (m - 1)) → Spec K n (kas_descPart m nrem (kas_rev p 0 m)) P := fun he => by
      have same : ∀ x, KP K (kas_rev p 0 m) x = KP K p x := fun x => by
        rw [KP_rev (by lia)]
        split
        · rw [he _ (by lia), he x (by lia)]
        · rfl
      refine descPart_ok (h.rev _ _) (by lia) hn (fun i j hij hj => ?_) q
      rw [same, same]
      by_cases e : j < m
      · rw [he i (by lia), he j e]; exact Int.le_refl _
      · have : j = m := by lia
        subst this
        by_cases e2 : i = j
        · rw [e2]; exact Int.le_refl _
        · rw [he i (by lia)]; exact Int.le_of_lt hlt
    by_cases c1 : m > 1
    · rw [if_pos c1]
      refine ⟨h.lt (by lia), h.lt (by lia), ?_⟩
      by_cases c2 : K (p.getD 0 0) < K (p.getD (m - 1) 0)
      · rw [show decide (K (p.getD 0 0) < K (p.getD (m - 1) 0)) = true from decide_eq_true c2]
        dsimp only; rw [if_pos rfl]
        exact q m p h a (by lia) hA
      · rw [show decide (K (p.getD 0 0) < K (p.getD (m - 1) 0)) = false from decide_eq_false c2]
        dsimp only; rw [if_neg (by decide)]
        refine dsc fun i hi => ?_
        have q1 := hA 0 i (by lia) hi
        have q2 := hA i (m - 1) (by lia) (by lia)
        have q3 : KP K p (m - 1) ≤ KP K p 0 := Int.not_lt.mp c2
        lia
    · rw [if_neg c1]
      have e1 : m = 1 := by lia
      subst e1
      have dp := descPart_ok (P := P) h (m := 1) (nrem := nrem) (by lia) hn (fun i j hij hj => by
        by_cases e : j = 1
        · subst e
          by_cases e2 : i = 1
          · rw [e2]; exact Int.le_refl _
          · rw [show i = 0 by lia]; exact Int.le_of_lt hlt
        · rw [show j = 0 by lia, show i = 0 by lia]; exact Int.le_refl _) q
      exact dp
theorem place_ok {p : Array Nat} (h : PI n p) {k : Nat} (hk : k < n) (ha : Asc K p k) : ∀ (f l r : Nat) (P : Nat → Prop), l ≤ r → r ≤ k → r - l ≤ f → (∀ i, i < l → KP K p i ≤ KP K p k) → (∀ i, r ≤ i → i < k → KP K p k < KP K p i) →
    (∀ l', l' ≤ k → (∀ i, i < l' → KP K p i ≤ KP K p k) → (∀ i, l' ≤ i → i < k → KP K p k < KP K p i) → P l') → Spec K n (kas_place p k f l r) P
  | 0, l, r, P, hlr, hrk, hf, hl, hr, q => q l (by lia) hl fun i a b => hr i (by lia) b
  | f + 1, l, r, P, hlr, hrk, hf, hl, hr, q => by
    unfold kas_place
    by_cases c : l ≥ r
    · rw [if_pos c]; exact q l (by lia) hl fun i a b => hr i (by lia) b
    · rw [if_neg c]
      refine ⟨h.lt hk, h.lt (by lia), ?_⟩
      by_cases c1 : K (p.getD k 0) < K (p.getD ((l + r) / 2) 0)
      · rw [show decide (K (p.getD k 0) < K (p.getD ((l + r) / 2) 0)) = true from decide_eq_true c1]
        dsimp only; rw [if_pos rfl]
        refine place_ok h hk ha f l ((l + r) / 2) P (by lia) (by lia) (by lia) hl (fun i a b => ?_) q
        have := ha ((l + r) / 2) i a b
        exact Int.lt_of_lt_of_le c1 this
      · rw [show decide (K (p.getD k 0) < K (p.getD ((l + r) / 2) 0)) = false from decide_eq_false c1]
        dsimp only; rw [if_neg (by decide)]
        refine place_ok h hk ha f ((l + r) / 2 + 1) r P (by lia) hrk (by lia) (fun i a => ?_) hr q
        have := ha i ((l + r) / 2) (by lia) (by lia)
        exact Int.le_trans this (Int.not_lt.mp c1)
theorem getD_eq (p : Array Nat) (i : Nat) : p.getD i 0 = p[i]?.getD 0 := Array.getD_eq_getD_getElem?
theorem KP_bubble {p : Array Nat} {k l : Nat} (hk : k < p.size) (hl : l ≤ k) (x : Nat) : KP K (bubble p k (k - l)) x = if x = l then KP K p k else if l < x ∧ x ≤ k then KP K p (x - 1) else KP K p x := by
  unfold KP
  simp only [getD_eq]
  rw [getElem?_bubble hk (k - l) (by lia) x, show k - (k - l) = l by lia]
  by_cases c : x = l
  · rw [if_pos c, if_pos c]
  · rw [if_neg c, if_neg c]
    by_cases c2 : l < x ∧ x ≤ k
    · rw [if_pos c2, if_pos c2]
    · rw [if_neg c2, if_neg c2]
theorem bin_ok : ∀ (f : Nat) (p : Array Nat) (k : Nat) (P : Array Nat → Prop), PI n p → k + f ≤ n → Asc K p k → (∀ p', PI n p' → Asc K p' (k + f) → P p') → Spec K n (kas_bin f p k) P
  | 0, p, k, P, h, hn, ha, q => q p h ha
  | f + 1, p, k, P, h, hn, ha, q => by
    have hs := h.size
    refine Spec.bind (place_ok h (by lia) ha k 0 k _ (by lia) (Nat.le_refl _) (by lia) (fun i a => by lia) (fun i a b => by lia) fun l hl h1 h2 => ?_)
    refine bin_ok f _ (k + 1) P ((bubble_perm _ _ _).trans h) (by lia) (fun i j hij hj => ?_) fun p' a b => q p' a (by rw [show k + (f + 1) = k + 1 + f by lia]; exact b)
    rw [KP_bubble (by lia) hl, KP_bubble (by lia) hl]
    repeat' split
    all_goals first
      | exact Int.le_refl _
      | (exfalso; lia)
      | exact Int.le_of_lt (h2 _ (by lia) (by lia))
      | exact h1 _ (by lia)
      | exact ha _ _ (by lia) (by lia)
theorem sort_ok (h2 : 1 ≤ n) {P : Array Nat → Prop} (q : ∀ p, PI n p → Asc K p n → P p) : Spec K n (kas_sort n) P := by
  have h0 : PI n (List.toArray (List.range n)) := .refl _
  refine Spec.bind (count_ok h0 h2 (Nat.le_refl _) fun m p hp a b hA => ?_)
  dsimp only
  by_cases c : m < n
  · rw [if_pos c, show max m 1 = m by lia]
    exact bin_ok _ _ _ _ hp (by lia) hA fun p' a' b' => q p' a' (by rw [show m + (n - m) = n by lia] at b'; exact b')
  · rw [if_neg c]
    exact q p hp (by rw [show n = m by lia]; exact hA)
end
end Mine
end
noncomputable section
open PySem PySem.W PyProof.Rows PySem.Calls Builtin Builtin.ObjectAttr Builtin.Getset_descriptor
set_option Elab.async false
set_option maxRecDepth 100000
set_option linter.unusedVariables false
namespace Mine
noncomputable def lexLt : List Int → List Int → Bool
  | [], [] => false
  | [], _ :: _ => true
  | _ :: _, [] => false
  | a :: as, b :: bs => decide (a < b) || (decide (a = b) && lexLt as bs)
section
variable {w : World} {A : Around}
theorem lex_go {Q : Bool → Shared → Prop} {s : Shared} : ∀ (as bs : List Int) (us vs : List Value) (i : Nat), VI us as → VI vs bs → as.length = bs.length → Q (lexLt as bs) s → KatLex (PG) w A true false Q (us.zip vs) i s
  | [], [], us, vs, i, x, y, _, q => by
    cases us with
    | nil => exact kat_nil q
    | cons u us => cases u <;> exact x.elim
  | a :: as, b :: bs, us, vs, i, x, y, hl, q => by
    cases us with
    | nil => exact x.elim
    | cons u us =>
      cases vs with
      | nil => exact y.elim
      | cons v vs =>
        obtain ⟨⟨t, e1⟩, x⟩ := x
        obtain ⟨⟨t', e2⟩, y⟩ := y
        subst e1 e2
        refine kat_cons (wpAny_eqBool_int ?_)
        by_cases c : a = b
        · subst c
          rw [beq_self_eq_true]
          refine kat_yes (lex_go as bs us vs (i + 1) x y (by simpa using hl) ?_)
          have : lexLt (a :: as) (a :: bs) = lexLt as bs := by simp [lexLt]
          rw [this] at q; exact q
        · rw [show (a == b) = false by simpa using c]
          have : lexLt (a :: as) (b :: bs) = decide (a < b) := by simp [lexLt, c]
          rw [this] at q
          refine kat_no ?_
          cases i with
          | zero => exact oneLt_int q
          | succ i =>
            rw [show (true && (i + 1 == 0)) = false by simp]
            exact kat_one _ _ (PyProof.Rows.lt_int q)
  | [], b :: bs, us, vs, i, x, y, hl, q => by simp at hl
  | a :: as, [], us, vs, i, x, y, hl, q => by simp at hl
end
end Mine
end
noncomputable section
open PySem PySem.W PyProof.Rows PySem.Calls
set_option Elab.async false
set_option linter.unusedVariables false
namespace Mine
theorem lexLt_irrefl : ∀ a : List Int, lexLt a a = false
  | [] => rfl
  | a :: as => by simp [lexLt, lexLt_irrefl as]
theorem lexLt_trans : ∀ {a b c : List Int}, lexLt a b = true → lexLt b c = true → lexLt a c = true
  | [], [], _, h, _ => by cases h
  | [], _ :: _, [], _, h => by cases h
  | [], _ :: _, _ :: _, _, _ => rfl
  | _ :: _, [], _, h, _ => by cases h
  | _ :: _, _ :: _, [], _, h => by cases h
  | a :: as, b :: bs, c :: cs, h1, h2 => by
    simp only [lexLt, Bool.or_eq_true, Bool.and_eq_true, decide_eq_true_eq] at h1 h2 ⊢
    rcases h1 with h1 | ⟨h1, r1⟩
    · rcases h2 with h2 | ⟨h2, r2⟩
      · left; lia
      · left; lia
    · rcases h2 with h2 | ⟨h2, r2⟩
      · left; lia
      · exact .inr ⟨by lia, lexLt_trans r1 r2⟩
theorem lexLt_total : ∀ {a b : List Int}, a.length = b.length → lexLt a b = false → lexLt b a = false → a = b
  | [], [], _, _, _ => rfl
  | [], _ :: _, h, _, _ => by simp at h
  | _ :: _, [], h, _, _ => by simp at h
  | a :: as, b :: bs, h, h1, h2 => by
    simp only [lexLt, Bool.or_eq_false_iff, Bool.and_eq_false_imp, decide_eq_false_iff_not, decide_eq_true_eq] at h1 h2
    have e : a = b := by lia
    subst e
    rw [lexLt_total (by simpa using h) (h1.2 rfl) (h2.2 rfl)]
def LexS (l : List (List Int)) : Prop := l.Pairwise fun a b => lexLt b a = false
theorem lexLt_asymm {a b : List Int} (h : lexLt a b = true) : lexLt b a = false := by
  cases e : lexLt b a with
  | false => rfl
  | true => have := lexLt_trans h e; rw [lexLt_irrefl] at this; cases this
theorem lex_uniq {c : Nat} : ∀ {a b : List (List Int)}, a.Perm b → (∀ r ∈ a, r.length = c) → LexS a → LexS b → a = b
  | [], _, p, _, _, _ => p.nil_eq
  | x :: r, b, p, hc, ha, hb => by
    cases b with
    | nil => exact absurd p.length_eq (by simp)
    | cons y t =>
      have hx : x ∈ y :: t := p.mem_iff.mp (.head _)
      have hy : y ∈ x :: r := p.mem_iff.mpr (.head _)
      have e : x = y := by
        rcases List.mem_cons.mp hx with h | h
        · exact h
        · rcases List.mem_cons.mp hy with h' | h'
          · exact h'.symm
          · exact lexLt_total ((hc x (.head _)).trans (hc y hy).symm) ((List.pairwise_cons.mp hb).1 x h) ((List.pairwise_cons.mp ha).1 y h')
      subst e
      rw [lex_uniq (List.Perm.cons_inv p) (fun r' m => hc r' (.tail _ m)) (List.pairwise_cons.mp ha).2 (List.pairwise_cons.mp hb).2]
def rank (rows : List (List Int)) (a : List Int) : Nat := rows.countP fun x => lexLt x a
theorem rank_lt {rows : List (List Int)} {a b : List Int} (ha : a ∈ rows) (h : lexLt a b = true) : rank rows a < rank rows b := by
  have hle : ∀ l : List (List Int), rank l a ≤ rank l b := fun l => List.countP_mono_left fun x _ hx => lexLt_trans hx h
  induction rows with
  | nil => cases ha
  | cons x l ih =>
    rcases List.mem_cons.mp ha with e | e
    · subst e
      have := hle l
      simp only [rank, List.countP_cons, lexLt_irrefl, h] at this ⊢
      simp; lia
    · have := ih e
      simp only [rank, List.countP_cons] at this ⊢
      cases hx : lexLt x a with
      | true => rw [lexLt_trans hx h]; simp; exact this
      | false => simp; lia
theorem rank_iff {rows : List (List Int)} {c : Nat} (hc : ∀ r ∈ rows, r.length = c) {a b : List Int} (ha : a ∈ rows) (hb : b ∈ rows) : decide ((rank rows a : Int) < rank rows b) = lexLt a b := by
  cases h : lexLt a b with
  | true => have := rank_lt ha h; simp; exact this
  | false =>
    cases h2 : lexLt b a with
    | true => have := rank_lt hb h2; simp; lia
    | false =>
      have := lexLt_total ((hc a ha).trans (hc b hb).symm) h h2
      subst this; simp
def rowsBy (rows : List (List Int)) (p : Array Nat) : List (List Int) := p.toList.map fun i => rows.getD i []
theorem range_map_getD {α : Type} (d : α) (l : List α) : (List.range l.length).map (fun i => l.getD i d) = l := by
  apply List.ext_getElem
  · simp
  · intro i h1 h2
    simp at h1 ⊢
    rw [List.getElem?_eq_getElem h2]; rfl
theorem rowsBy_perm {rows : List (List Int)} {p : Array Nat} (h : PI rows.length p) : (rowsBy rows p).Perm rows := by
  have := (Array.perm_iff_toList_perm.mp h).map fun i => rows.getD i []
  unfold rowsBy
  refine this.trans ?_
  rw [range_map_getD]
theorem rowsBy_asc {rows : List (List Int)} {c : Nat} (hc : ∀ r ∈ rows, r.length = c) {p : Array Nat} (h : PI rows.length p) (ha : Asc (fun i => (rank rows (rows.getD i []) : Int)) p rows.length) : LexS (rowsBy rows p) := by
  have hs := h.size
  unfold LexS rowsBy
  rw [List.pairwise_map, List.pairwise_iff_getElem]
  intro i j hi hj hij
  simp only [Array.length_toList] at hi hj
  have := ha i j (by lia) (by lia)
  unfold KP at this
  have m1 := h.lt (i := i) (by lia)
  have m2 := h.lt (i := j) (by lia)
  have e : ∀ k (hk : k < p.size), p.getD k 0 = p.toList[k]'(by simpa using hk) := fun k hk => by simp [Array.getD, hk]
  rw [e i hi, e j hj] at this
  rw [e i hi] at m1
  rw [e j hj] at m2
  have mem : ∀ k, k < rows.length → rows.getD k [] ∈ rows := fun k hk => by
    rw [List.getD_eq_getElem?_getD, List.getElem?_eq_getElem hk]; exact List.getElem_mem hk
  rw [← rank_iff hc (mem _ m2) (mem _ m1)]
  exact decide_eq_false (Int.not_lt.mpr this)
end Mine
end
noncomputable section
open PySem PySem.W PyProof.Rows PySem.Calls
set_option Elab.async false
set_option maxRecDepth 100000
set_option linter.unusedVariables false
namespace Mine
theorem TupIs.get {b : Heap} {vs : List Value} {rs : List (List Int)} {i : Nat} (x : TupIs b vs rs) (h : i < vs.length) : TupI b (vs.getD i Value.none) (rs.getD i []) := by
  obtain ⟨r, t, e⟩ := L2.at x (i := i) (v := vs.getD i .none) (by rw [List.getD_eq_getElem?_getD, List.getElem?_eq_getElem h]; rfl)
  have : rs.getD i [] = r := by rw [List.getD_eq_getElem?_getD, e]; rfl
  rw [this]; exact t
theorem TupIs.byIdx {b : Heap} {vs : List Value} {rs : List (List Int)} (h : TupIs b vs rs) : ∀ (is : List Nat), (∀ i ∈ is, i < vs.length) → TupIs b (is.map fun i => vs.getD i Value.none) (is.map fun i => rs.getD i [])
  | [], _ => trivial
  | i :: is, hi => ⟨h.get (hi i (.head _)), h.byIdx is fun j m => hi j (.tail _ m)⟩
theorem TupIs.kat {b h : Heap} (k : Keep b h) : ∀ {vs : List Value} {rs : List (List Int)}, TupIs b vs rs → (∀ r ∈ rs, 0 < r.length) → ∃ fs, KatTups h vs fs ∧ fs.length = rs.length ∧ ∀ v ∈ fs, ∃ i t, v = .int i t
  | [], [], _, _ => ⟨[], KatTups.nil, rfl, fun _ m => nomatch m⟩
  | v :: vs, r :: rs, ⟨⟨t, us, e, T, q⟩, y⟩, hp => by
    obtain ⟨fs, a, b', c⟩ := TupIs.kat k y fun r m => hp r (.tail _ m)
    subst e
    match r, us, q, hp r (.head _) with
    | i :: is, u :: us, ⟨⟨tk, e⟩, _⟩, _ =>
      subst e
      exact ⟨.int i tk :: fs, KatTups.cons (k _ _ T) rfl rfl (by simp) a, by simp [b'], fun v m => by
        rcases List.mem_cons.mp m with rfl | m
        · exact ⟨i, tk, rfl⟩
        · exact c v m⟩
    | [], _, _, h => simp at h
section
variable {w : World} {A : Around} {hb h : Heap} {s : Shared} {E : Value → Shared → Prop}
theorem tup_ask {vs : List Value} {rows : List (List Int)} {c : Nat} (T : TupIs s.heap vs rows) (hc : ∀ r ∈ rows, r.length = c) {i j : Nat} {C : Bool → Shared → Prop} (hi : i < rows.length) (hj : j < rows.length)
    (q : C (lexLt (rows.getD i []) (rows.getD j [])) s) : kas_ask PG w A (tuples' true) vs i j C s := by
  have hl := T.length
  obtain ⟨t1, us, e1, T1, v1⟩ := T.get (i := i) (by lia)
  obtain ⟨t2, us2, e2, T2, v2⟩ := T.get (i := j) (by lia)
  unfold kas_ask
  rw [e1, e2]
  have mem : ∀ k, k < rows.length → rows.getD k [] ∈ rows := fun k hk => by
    rw [List.getD_eq_getElem?_getD, List.getElem?_eq_getElem hk]; exact List.getElem_mem hk
  have l1 := v1.length
  have l2 := v2.length
  have e := hc _ (mem i hi)
  have e' := hc _ (mem j hj)
  refine kat_lt T1 rfl T2 rfl ?_
  have hs : decide (us.toArray.size < us2.toArray.size) = false := by simp; lia
  rw [hs]
  exact lex_go _ _ _ _ 0 v1 v2 (by lia) q
theorem sort_tup {a : Addr} {vs : List Value} {rows : List (List Int)} {c n : Nat} {P : Fin → Shared → Prop} (ho : s.heap.get? a = some (seqObj "list" vs.toArray n)) (k : Keep hb s.heap) (ha : hb.get? a = none) (T : TupIs hb vs rows) (hc : ∀ r ∈ rows, r.length = c) (h0 : 0 < c) (h64 : vs.length < 64)
    (h : ∀ (out : List Value) (rows' : List (List Int)), TupIs hb out rows' → rows'.Perm rows → LexS rows' → P (.done (.ret .none)) { s with heap := sortedHeap s.heap a vs out.toArray }) :
    wpAny (model PG w) A (Builtin.«list.sort» ⟨[.ref a], []⟩) P E s := by
  rw [list_sort_plain]
  have hlt : a < s.heap.objs.size := Heap.lt_size ho
  refine wpAny_bind (listItems_at ho rfl ?_)
  refine wpAny_bind (listUpdate_at ho rfl ?_)
  have sb := Heap.SameBut.update s.heap a (Obj.mapSeq fun _ => (#[] : Array Value))
  obtain ⟨e1, ho1⟩ : ∃ e1, (s.heap.update a (Obj.mapSeq fun _ => #[])).get? a = some (seqObj "list" #[] e1) := ⟨_, get?_update_seq ho (fun _ => #[])⟩
  refine wpAny_bind (seqEpoch_at ho1 rfl ?_)
  refine wpAny_bind (wpAny_newTuple ?_)
  refine wpAny_bind (wpAny_newList ?_)
  refine wpAny_holding ?_
  have ho6 : (((s.heap.update a (Obj.mapSeq fun _ => #[])).push (seqObj "tuple" vs.toArray 0)).push (seqObj "list" #[] 0)).get? a = some (seqObj "list" #[] e1) := by
    rw [Heap.get?_push_ne _ _ _ (by rw [size_push', Heap.size_update]; exact Nat.ne_of_lt (Nat.lt_succ_of_lt hlt)), Heap.get?_push_ne _ _ _ (by rw [Heap.size_update]; exact Nat.ne_of_lt hlt)]
    exact ho1
  have k6 : Keep hb (((s.heap.update a (Obj.mapSeq fun _ => #[])).push (seqObj "tuple" vs.toArray 0)).push (seqObj "list" #[] 0)) := fun b o e =>
    Heap.get?_push_of_some _ (Heap.get?_push_of_some _ ((sb.2 b fun q => by subst q; rw [ha] at e; cases e).trans (k b o e)))
  show wpAny (model PG w) A _ P E { s with heap := ((s.heap.update a (Obj.mapSeq fun _ => #[])).push (seqObj "tuple" vs.toArray 0)).push (seqObj "list" #[] 0) }
  dsimp only
  have hsz : vs.toArray.size = vs.length := by simp
  have hl := T.length
  by_cases h2 : vs.toArray.size < 2
  · rw [if_pos h2, if_pos h2]
    refine wpAny_bind (wpAny_pure ?_)
    rw [StateT.run_pure]
    refine wpAny_bind (wpAny_pure ?_)
    dsimp only
    refine wpAny_bind (seqEpoch_at ho6 rfl ?_)
    refine wpAny_bind (listUpdate_at ho6 rfl ?_ (hsz2 := by rw [Array.size_map]; show (pairsOf vs).size ≤ _; rw [pairsOf_size, sizeLine_eq]; lia))
    simp only [bne_self_eq_false, Bool.false_eq_true, if_false]
    have eo : (arrOf (SortSt.mk' general' (vs.toArray.zip vs.toArray) #[] 7 none)).map (·.2) = vs.toArray := by
      show ((vs.toArray.zip vs.toArray).map (·.2)) = _
      apply Array.ext
      · simp
      · intro i h1 h2; simp
    rw [eo]
    refine wpAny_pure (h vs rows T (.refl _) ?_)
    match rows, hl with
    | [], _ => exact List.Pairwise.nil
    | [r], _ => exact List.pairwise_singleton _ _
    | _ :: _ :: _, hl => simp at hl; lia
  · rw [if_neg h2, if_neg h2]
    have T6 := T.keep k6
    obtain ⟨fs, kt, fl, fi⟩ := T.kat k6 fun r m => by rw [hc r m]; exact h0
    refine wpAny_bind (kat_kind (T := .type "int") kt (by lia) (fun v m => ?_) (by rfl) ?_)
    · obtain ⟨i, t, rfl⟩ := fi v m
      exact Looks.of_pure rfl
    have hT : (Value.type "int" != Value.type "tuple") = true := by rfl
    rw [hT]
    refine wpAny_bind (wpAny_mono (kat_run (vs := vs) (ks := vs) (G := fun p s' => s' = { s with heap := ((s.heap.update a (Obj.mapSeq fun _ => #[])).push (seqObj "tuple" vs.toArray 0)).push (seqObj "list" #[] 0) } ∧ PI vs.length p ∧ Asc (fun i => (rank rows (rows.getD i []) : Int)) p vs.length)
      (Q := fun st' s' => ∃ p : Array Nat, arrOf st' = p.map (kas_item (vs.toArray.zip vs.toArray)) ∧ failedOf st' = none ∧ s' = { s with heap := ((s.heap.update a (Obj.mapSeq fun _ => #[])).push (seqObj "tuple" vs.toArray 0)).push (seqObj "list" #[] 0) } ∧ PI vs.length p ∧ Asc (fun i => (rank rows (rows.getD i []) : Int)) p vs.length)
      rfl (by lia) h64 (fun p st' s' a1 a2 a3 a4 => ⟨p, a2, a3, a4⟩) ?_) ?_ fun _ _ e => e)
    · refine Spec.wp (K := fun i => (rank rows (rows.getD i []) : Int)) (I := fun s' => s' = { s with heap := ((s.heap.update a (Obj.mapSeq fun _ => #[])).push (seqObj "tuple" vs.toArray 0)).push (seqObj "list" #[] 0) }) (P := fun p => PI vs.length p ∧ Asc (fun i => (rank rows (rows.getD i []) : Int)) p vs.length) (n := vs.length)
        (fun i j C s' hi hj e q => ?_) (fun p s' hp e => ⟨e, hp⟩) (sort_ok (by lia) fun p a b => ⟨a, b⟩) rfl
      subst e
      have mem : ∀ k, k < rows.length → rows.getD k [] ∈ rows := fun k hk => by
        rw [List.getD_eq_getElem?_getD, List.getElem?_eq_getElem hk]; exact List.getElem_mem hk
      have q := q _ rfl
      rw [rank_iff hc (mem i (by lia)) (mem j (by lia))] at q
      exact tup_ask T6 hc (by lia) (by lia) q
    · rintro ⟨⟨⟩, st'⟩ s' ⟨p, har, hf, rfl, hp, hA⟩
      dsimp only
      have eo : (arrOf st').map (·.2) = (p.toList.map fun i => vs.getD i Value.none).toArray := kat_snds rfl har
      rw [eo]
      refine wpAny_bind (seqEpoch_at ho6 rfl ?_)
      refine wpAny_bind (listUpdate_at ho6 rfl ?_ (hsz2 := by
        rw [List.size_toArray, List.length_map, Array.length_toList, hp.size, sizeLine_eq]; lia))
      rw [hf]
      simp only [bne_self_eq_false, Bool.false_eq_true, if_false]
      rw [hl] at hp hA
      refine wpAny_pure (h _ (rowsBy rows p) (T.byIdx _ fun i m => ?_) (rowsBy_perm hp) (rowsBy_asc hc hp hA))
      have := (Array.perm_iff_toList_perm.mp hp).mem_iff.mp m
      rw [hl]; simpa using this
theorem keep_sorted (h : Heap) (vs : List Value) (out : Array Value) : Keep h (sortedAll h vs out) ∧ ∃ n, (sortedAll h vs out).get? (h.objs.size + 1) = some (seqObj "list" out n) := ⟨fun _ _ => sortedAll_old, sortedAll_at h vs out⟩
inductive RowsL (hb : Heap) (rows : List (List Int)) (v : Value) (b : Heap) : Prop
  | mk (D : Addr) (vs : List Value) (e : v = .ref D) (pl : b.PlainList D vs.toArray) (T : TupIs b vs rows) (nD : hb.get? D = none)
theorem ySorted {l : Addr} {vs : List Value} {rows : List (List Int)} {c : Nat} (hl : h.IsList l vs.toArray) (T : TupIs hb vs rows) (hc : ∀ r ∈ rows, r.length = c) (h0 : 0 < c) (h64 : vs.length < 64) :
    Y w A hb h (call (.builtin "sorted") [.ref l]) fun v b' => ∃ rows', RowsL hb rows' v b' ∧ rows'.Perm rows ∧ LexS rows' := by
  refine yNew fun s b Q E kb ki kh q => ?_
  have hl := hl.at fun o e => kh _ _ e
  refine Calls.call_function_entry kind_sorted plain_sorted entry_sorted (args_sorted1 _) ?_
  unfold Builtin.«sorted»
  refine wpAny_bind (m := checkCount "sorted" 1 1 _) (wpAny_pure ?_)
  refine wpAny_bind (collect_list hl ?_)
  refine wpAny_bind (wpAny_newList ?_)
  have hsz : ((s.heap.push (seqObj "list" #[] 0)).update s.heap.objs.size (Obj.mapSeq (· ++ vs.toArray))).objs.size = s.heap.objs.size + 1 := by
    rw [Heap.size_update, size_push']
  have hoL : (((s.heap.push (seqObj "list" #[] 0)).update s.heap.objs.size (Obj.mapSeq (· ++ vs.toArray))).push (seqObj "list" vs.toArray 0)).get? (s.heap.objs.size + 1) = some (seqObj "list" vs.toArray 0) := by
    rw [← hsz]; exact Heap.get?_push_size _ rfl
  have k1 : Keep s.heap (((s.heap.push (seqObj "list" #[] 0)).update s.heap.objs.size (Obj.mapSeq (· ++ vs.toArray))).push (seqObj "list" vs.toArray 0)) := fun b o e =>
    Heap.get?_push_of_some _ (((Heap.SameBut.update ..).2 b (Nat.ne_of_lt (Heap.lt_size e))).trans (Heap.get?_push_of_some _ e))
  show wpAny _ _ _ _ _ { s with heap := ((s.heap.push (seqObj "list" #[] 0)).update s.heap.objs.size (Obj.mapSeq (· ++ vs.toArray))).push (seqObj "list" vs.toArray 0) }
  rw [hsz]
  refine wpAny_bind (wpAny_holding (wpAny_call_entry slot_list_sort ⟨_, hoL, rfl⟩ entry_list_sort (sort_tup (hb := b) (s := { s with heap := _ }) hoL (ki.trans k1) (keep_none ki (fresh_ge (Nat.le_succ _))) (T.keep kb) hc h0 h64 fun out rows' a1 a2 a3 => ⟨_, rfl, ?_⟩) (args_list_sort _)))
  have kk := keep_sorted s.heap vs out.toArray
  refine wpAny_pure ⟨_, rfl, q _ (sortedAll s.heap vs out.toArray) s.toks (fun b' kb' n => ⟨rows', ⟨_, out, rfl, ?_, a1.keep kb', keep_none (kb.trans ki) (fresh_ge (Nat.le_succ _))⟩, a2, a3⟩) kk.1⟩
  obtain ⟨n', e⟩ := kk.2
  exact ⟨n', n _ _ (fresh_ge (Nat.le_succ _)) e⟩
end
end Mine
end
noncomputable section
open PySem PySem.W PyProof.Rows PySem.Calls
set_option Elab.async false
set_option linter.unusedVariables false
namespace Mine
def lexLe (a b : List Int) : Bool := !lexLt b a
theorem lexLe_total (a b : List Int) : (lexLe a b || lexLe b a) = true := by
  unfold lexLe
  cases h : lexLt b a with
  | false => rfl
  | true => rw [lexLt_asymm h]; rfl
theorem lexLt_cases : ∀ (a b : List Int), lexLt a b = true ∨ a = b ∨ lexLt b a = true
  | [], [] => .inr (.inl rfl)
  | [], _ :: _ => .inl rfl
  | _ :: _, [] => .inr (.inr rfl)
  | a :: as, b :: bs => by
    simp only [lexLt, Bool.or_eq_true, Bool.and_eq_true, decide_eq_true_eq, List.cons.injEq]
    rcases Int.lt_trichotomy a b with h | h | h
    · exact .inl (.inl h)
    · rcases lexLt_cases as bs with q | q | q
      · exact .inl (.inr ⟨h, q⟩)
      · exact .inr (.inl ⟨h, q⟩)
      · exact .inr (.inr (.inr ⟨h.symm, q⟩))
    · exact .inr (.inr (.inl h))
theorem lexLe_trans (a b c : List Int) (h1 : lexLe a b = true) (h2 : lexLe b c = true) : lexLe a c = true := by
  unfold lexLe at *
  rcases lexLt_cases a b with q | q | q
  · rcases lexLt_cases b c with r | r | r
    · rw [lexLt_asymm (lexLt_trans q r)]; rfl
    · subst r; rw [lexLt_asymm q]; rfl
    · rw [r] at h2; cases h2
  · subst q; exact h2
  · rw [q] at h1; cases h1
def sortR (l : List (List Int)) : List (List Int) := l.mergeSort lexLe
theorem sortR_perm (l : List (List Int)) : (sortR l).Perm l := List.mergeSort_perm l lexLe
theorem sortR_asc (l : List (List Int)) : LexS (sortR l) := by
  have := List.pairwise_mergeSort lexLe_trans lexLe_total l
  unfold LexS
  refine this.imp fun {a b} h => ?_
  unfold lexLe at h
  simpa using h
theorem sortR_eq {c : Nat} {l r : List (List Int)} (hc : ∀ x ∈ l, x.length = c) (p : r.Perm l) (s : LexS r) : r = sortR l :=
  lex_uniq (c := c) (p.trans (sortR_perm l).symm) (fun x m => hc x (p.mem_iff.mp m)) s (sortR_asc l)
theorem sortR_length (l : List (List Int)) : (sortR l).length = l.length := (sortR_perm l).length_eq
def row4 (r : R4) : List Int := [r.x, r.y, r.w, r.h]
def lefts (rows : List R4) : List Int := rows.foldl (fun a r => if a.any (· == r.x + r.w) then a else a ++ [r.x + r.w]) [0]
def rights (rows : List R4) (wide : Int) : List Int := rows.foldl (fun a r => if a.any (· == r.x) then a else a ++ [r.x]) [wide]
def inStrip (left right : Int) (r : R4) : Bool := decide (r.x < right) && decide (left < r.x + r.w)
def strip (rows : List R4) (left right : Int) : List (List Int) := (rows.filter (inStrip left right)).map fun r => [r.y, r.y + r.h]
def atLeft (left floor low : Int) (r : R4) : Bool := (r.x + r.w == left) && (decide (r.y < low) && decide (floor < r.y + r.h))
def atRight (right floor low : Int) (r : R4) : Bool := (r.x == right) && (decide (r.y < low) && decide (floor < r.y + r.h))
def isGap (rows : List R4) (wide left right floor low : Int) : Bool := decide (floor < low) && ((left == 0 || rows.any (atLeft left floor low)) && (right == wide || rows.any (atRight right floor low)))
def gapF (floor : Int) (p : List Int) : Int := max floor (p.getD 1 0)
def gapR (rows : List R4) (wide left right floor : Int) (p : List Int) : List (List Int) := if isGap rows wide left right floor (p.getD 0 0) then [[left, floor, right - left, p.getD 0 0 - floor]] else []
def gap (rows : List R4) (wide left right : Int) (st : Int × List (List Int)) (p : List Int) : Int × List (List Int) := (gapF st.1 p, st.2 ++ gapR rows wide left right st.1 p)
def strips (rows : List R4) (high left right : Int) : List (List Int) := sortR (strip rows left right) ++ [[high, high]]
def scan (rows : List R4) (wide high left : Int) (f : List (List Int)) (right : Int) : List (List Int) := if left < right then ((strips rows high left right).foldl (gap rows wide left right) (0, f)).2 else f
def scanL (rows : List R4) (wide high : Int) (f : List (List Int)) (left : Int) : List (List Int) := (rights rows wide).foldl (scan rows wide high left) f
def founds (rows : List R4) (wide high : Int) : List (List Int) := (lefts rows).foldl (scanL rows wide high) []
theorem gapR_len (rows : List R4) (wide left right floor : Int) (p : List Int) : (gapR rows wide left right floor p).length ≤ 1 := by unfold gapR; split <;> simp
theorem gaps_len (rows : List R4) (wide left right : Int) : ∀ (ps : List (List Int)) (st : Int × List (List Int)), (ps.foldl (gap rows wide left right) st).2.length ≤ st.2.length + ps.length
  | [], st => by simp
  | p :: ps, st => by
    rw [List.foldl_cons]
    refine Nat.le_trans (gaps_len rows wide left right ps _) ?_
    have := gapR_len rows wide left right st.1 p
    simp only [gap, List.length_append, List.length_cons]
    lia
theorem strips_len (rows : List R4) (high left right : Int) : (strips rows high left right).length ≤ rows.length + 1 := by
  unfold strips strip
  rw [List.length_append, sortR_length, List.length_map]
  have := List.length_filter_le (inStrip left right) rows
  simp; lia
theorem scan_len (rows : List R4) (wide high left : Int) (f : List (List Int)) (right : Int) : (scan rows wide high left f right).length ≤ f.length + (rows.length + 1) := by
  unfold scan
  split
  · refine Nat.le_trans (gaps_len rows wide left right _ _) ?_
    have := strips_len rows high left right
    simp only; lia
  · lia
theorem fold_len {α β : Type} {g : List β → α → List β} {c : Nat} (hg : ∀ f a, (g f a).length ≤ f.length + c) : ∀ (l : List α) (f : List β), (l.foldl g f).length ≤ f.length + l.length * c
  | [], f => by simp
  | a :: l, f => by
    rw [List.foldl_cons]
    refine Nat.le_trans (fold_len hg l _) ?_
    have := hg f a
    rw [List.length_cons, Nat.add_mul, Nat.one_mul]; lia
theorem lefts_len (rows : List R4) : (lefts rows).length ≤ rows.length + 1 := by
  have := fold_len (c := 1) (g := fun (a : List Int) (r : R4) => if a.any (· == r.x + r.w) then a else a ++ [r.x + r.w]) (fun f r => by split <;> simp) rows [0]
  unfold lefts
  simp at this ⊢; lia
theorem rights_len (rows : List R4) (wide : Int) : (rights rows wide).length ≤ rows.length + 1 := by
  have := fold_len (c := 1) (g := fun (a : List Int) (r : R4) => if a.any (· == r.x) then a else a ++ [r.x]) (fun f r => by split <;> simp) rows [wide]
  unfold rights
  simp at this ⊢; lia
theorem scanL_len (rows : List R4) (wide high : Int) (f : List (List Int)) (left : Int) : (scanL rows wide high f left).length ≤ f.length + (rows.length + 1) * (rows.length + 1) := by
  unfold scanL
  refine Nat.le_trans (fold_len (scan_len rows wide high left) _ _) ?_
  have := Nat.mul_le_mul_right (rows.length + 1) (rights_len rows wide)
  lia
theorem foldl_take_succ {α β : Type} (g : β → α → β) (l : List α) (b : β) {i : Nat} {x : α} (h : l[i]? = some x) : (l.take (i + 1)).foldl g b = g ((l.take i).foldl g b) x := by
  rw [List.take_add_one, h]
  simp [List.foldl_append]
end Mine
end
noncomputable section
open PySem PySem.W PyProof.Rows PySem.Calls Builtin Builtin.ObjectAttr Builtin.Getset_descriptor
set_option Elab.async false
set_option maxRecDepth 100000
set_option linter.unusedVariables false
namespace Mine
theorem TupIs.at {b : Heap} {vs : List Value} {rs : List (List Int)} {i : Nat} {v : Value} (x : TupIs b vs rs) (e : vs[i]? = some v) : ∃ r, TupI b v r ∧ rs[i]? = some r := L2.at x e
def LR {β : Type} (R : Value → β → Heap → Prop) (b : Heap) (vs : List Value) (xs : List β) : Prop := L2 (fun v x => R v x b) vs xs
theorem LR.keep {β : Type} {R : Value → β → Heap → Prop} {b c : Heap} (hR : ∀ v x b c, Keep b c → R v x b → R v x c) (k : Keep b c) {vs : List Value} {xs : List β} (h : LR R b vs xs) : LR R c vs xs := L2.mono (fun v x p => hR v x b c k p) h
theorem LR.append {β : Type} {R : Value → β → Heap → Prop} {b : Heap} {vs us : List Value} {xs ys : List β} (x : LR R b vs xs) (y : LR R b us ys) : LR R b (vs ++ us) (xs ++ ys) := L2.append x y
theorem LR.length {β : Type} {R : Value → β → Heap → Prop} {b : Heap} {vs : List Value} {xs : List β} (x : LR R b vs xs) : vs.length = xs.length := L2.length x
theorem LR.ints {b : Heap} {vs : List Value} {xs : List Int} (x : LR (fun v x _ => ∃ t, v = .int x t) b vs xs) : VI vs xs := x
theorem LR.tups {b : Heap} {vs : List Value} {xs : List (List Int)} (x : LR (fun v x b => TupI b v x) b vs xs) : TupIs b vs xs := x
section
variable {w : World} {A : Around} {hb h h0 hb0 : Heap} {env : Env} {pos : Pos} {O pre post : List (Addr × Own)} {L : Addr} {m : Str → Option Value} {s : Shared}
theorem yNotInInts {k : Int} {l : Addr} {vs : List Value} {ns : List Int} {e1 e2 : Expr} (hl : h.IsList l vs.toArray) (hi : VI vs ns) (y1 : Y w A hb h (eval e1 env) (IsI k)) (y2 : Y w A hb h (eval e2 env) (Is (.ref l)))
    (hm : behindInMarks .NotIn e2 = false := by with_unfolding_all rfl) : Y w A hb h (eval (.Compare e1 [.NotIn] [e2] pos) env) (Is (.bool (!(ns.any (· == k))))) :=
  yCompare y1 (fun _ _ _ u _ => y2.keep u) (fun v1 v2 b1 h1 b2 h2 u1 u2 ⟨t, e⟩ e2 => by
    subst e; cases e2
    exact yTok fun s Q E kb kh q => notin_list_ints (hl.at fun o e => kh _ _ (u2.h _ _ (u1.h _ _ e))) hi.are (q _ s.toks fun _ _ => rfl)) hm
theorem yNeNil {l : Addr} {vs : List Value} {ns : List Int} {e1 : Expr} {lp : Pos} (hA : A.units + 64 < cLine) (hl : h.IsList l vs.toArray) (hi : VI vs ns) (y1 : Y w A hb h (eval e1 env) (Is (.ref l)))
    (hm : behindInMarks .NotEq (.List [] lp) = false := by with_unfolding_all rfl) : Y w A hb h (eval (.Compare e1 [.NotEq] [.List [] lp] pos) env) (Is (.bool (!ns.isEmpty))) :=
  yCompare (P1 := Is (.ref l)) (P2 := fun v b => ∃ D, v = .ref D ∧ b.PlainList D #[]) y1 (fun _ b1 h1 u _ => (yLst (R := fun vs _ => vs = []) (yArgs_nil fun _ _ => rfl) (by rintro _ _ rfl; decide)).mono fun v b k p => by
      obtain ⟨D, us, b0, e2, pl, _, e3, _⟩ := p
      subst e3; exact ⟨D, e2, pl⟩) (fun v1 v2 b1 h1 b2 h2 u1 u2 e1 ⟨D, e2, pl⟩ => by
    subst e2; cases e1
    refine yTok fun s Q E kb kh q => ?_
    refine PySem.W.ke_ne_ints (ys := []) (hl.at fun o e => kh _ _ (u2.h _ _ (u1.h _ _ e))) (pl.isList.at fun o e => kb _ _ e) hi.are .nil hA ?_
    have : (!decide (ns = [])) = !ns.isEmpty := by cases ns <;> simp
    rw [this]; exact q _ s.toks fun _ _ => rfl) hm
theorem aPairCL {x y : Str} {xp yp : Pos} {x1 : Nat} {t c : Addr} {v1 v2 : Value} {v0 : Option Value} {Q : Unit → Shared → Prop} {E : Value → Shared → Prop} (S : St h0 hb0 hb ((L, .ns m) :: (pre ++ (c, .cel v0) :: post)) s.heap) (hA : A.handled = none) (ht : Tp s.heap t [v1, v2])
    (k : ∀ h' tk, St h0 hb0 hb ((L, .ns (upd m y v2)) :: (pre ++ (c, .cel (some v1)) :: post)) h' → Q () { s with heap := h', toks := tk })
    (hL : env.locals = L := by rfl) (hk : env.scope.kind = .function := by rfl) (hx : env.kindOf x = some .cell := by rfl) (hc : env.cells.lookup x = some c := by rfl) (hy : env.kindOf y = some .local := by rfl) : wpAny (model PG w) A (assign (.Tuple [.Name x xp, .Name y yp] x1 pos) env (.ref t)) Q E s := by
  refine wpAny_assign_Tuple hA ht.isTuple (by rfl) (by rfl) fun h' ex => ?_
  have k' : Keep s.heap h' := fun b o e => ex b o (Nat.ne_of_lt (Heap.lt_size e)) e
  have S1 := S.grow k'
  show wpAny _ A (assignInOrder [assign (.Name x xp) env, assign (.Name y yp) env] [v1, v2]) Q E _
  refine wpAny_bind (wpAny_holding (aCell (pre := (L, .ns m) :: pre) (post := post) S1 (fun h2 tk2 S2 => ?_) hc hk hx))
  refine wpAny_bind (wpAny_holding (aName S2 (fun h3 tk3 S3 => ?_) hL hk hy))
  exact wpAny_pure (k h3 tk3 S3)
theorem St.comp {h1 h3 b1 b3 : Heap} {O2 : List (Addr × Own)} (S : St h0 hb0 b1 O h1) (S2 : St h1 b1 b3 O2 h3) : St h0 hb0 b3 (O2 ++ O) h3 := by
  refine ⟨S.res.trans S2.res, fun p m => ?_, ?_⟩
  · rcases List.mem_append.mp m with m | m
    · obtain ⟨x, y, z⟩ := S2.own p m
      exact ⟨x, y, keep_none S.keep z⟩
    · obtain ⟨x, y, z⟩ := S.own p m
      obtain ⟨o, e⟩ := x.some
      exact ⟨x.keep S2.keep, S2.res.new _ o e y, z⟩
  · rw [List.map_append, List.nodup_append]
    refine ⟨S2.nd, S.nd, fun a ha b hb' e => ?_⟩
    obtain ⟨p, hp, rfl⟩ := List.mem_map.mp ha
    obtain ⟨q, hq, rfl⟩ := List.mem_map.mp hb'
    obtain ⟨o, x⟩ := (S.own q hq).1.some
    rw [← e, (S2.own p hp).2.2] at x; cases x
theorem wLetComp {x : Str} {xp : Pos} {elt target iter : Expr} {ifs : List Expr} {gs : List Comprehension} {scope : Scope} {cpos : Pos} {cl : List (Str × Addr)} {P0 P : Value → Heap → Prop} {rest : List Stmt} {Q : Flow → Shared → Prop} {E : Value → Shared → Prop}
    (S : St h0 hb0 hb ((L, .ns m) :: O) s.heap) (yi : Y w A hb s.heap (eval iter env) P0)
    (k : ∀ v b1 h1, Up hb s.heap b1 h1 → P0 v b1 → KS w A env elt target iter ifs gs scope cpos cl P v b1 h1)
    (z : ∀ v b' h' tk, P v b' → St h0 hb0 b' ((L, .ns (upd m x v)) :: O) h' → Keep hb b' → wpAny (model PG w) A (execs rest env) Q E { s with heap := h', toks := tk })
    (hL : env.locals = L := by rfl) (hsw : swapsWith (.ListComp elt (⟨target, iter, ifs, 0⟩ :: gs) scope cpos) (some (.Name x xp)) pos.line env = pure true := by rfl) (hk : env.scope.kind = .function := by rfl) (hl : env.kindOf x = some .local := by rfl)
    (hclos : closureFor scope env = pure cl := by rfl) (hcell : ∀ y ∈ scope.names, y.2 ≠ .cell := by decide) (hkind : scope.kind = .function := by rfl)
    (hnames : ∀ y ∈ scope.names, y.2 = .local → scope.names.lookup y.1 = some .local := by decide) (hs : ∀ x, foldedSetIterable iter env x = pure x := by intro _; rfl) :
    wpAny (model PG w) A (execs (.Assign [.Name x xp] (.ListComp elt (⟨target, iter, ifs, 0⟩ :: gs) scope cpos) pos :: rest) env) Q E s := by
  subst hL
  refine wpAny_execs_cons ?_
  rw [exec_Assign_Name_used _ _ _ _ hsw]
  refine wpAny_bind (wpAny_standAt (wpAny_bind ?_))
  show wpAny _ A (do let _ ← comprehension (.ListComp elt (⟨target, iter, ifs, 0⟩ :: gs) scope cpos) scope env _ (newList []) false (eval iter env) (some (assign (.Name x xp) env))) _ _ s
  refine wpAny_bind (wpAny_mono (wpAny_comprehension_free (use := some (assign (.Name x xp) env)) (Q := fun _ s' => wpAny (model PG w) A (execs rest env) Q E s') rfl hs hclos hkind hnames (yi.use S.base fun v b1 h1 tk p r => ?_)) (fun _ s' hq => wpAny_pure (wpAny_pure hq)) fun _ _ e => e)
  have Sa := S.up r
  have u1 : Up hb s.heap b1 h1 := r.up
  obtain ⟨T, need, n, PI, it, k⟩ := k v b1 h1 u1 p
  refine it.start _ _ _ (Keep.refl _) fun I h2 tk2 f0 atI k2 => ?_
  dsimp only at f0 k2 ⊢
  have S0 : St h1 b1 b1 [] h1 := ⟨.refl r.up.i, fun p m => (by cases m), .nil⟩
  have S1 : St h1 b1 b1 [(I, T 0)] h2 := St.add (pre := []) (post := []) S0 k2 f0 atI
  refine wpAny_newObj_type (wpAny_newFunctionEnv hcell (by intro y hy; simp at hy) (fun h₁ hns₁ hsb₁ => ?_) hkind)
  dsimp only at hns₁ hsb₁ ⊢
  have fD := fresh_size h2
  have k3 := Keep.push h2 { cls := .type "list", dict := none, data := .seq ([] : List Value).toArray }
  have atD : (h2.push { cls := .type "list", dict := none, data := .seq ([] : List Value).toArray }).PlainList h2.objs.size #[] := ⟨0, Heap.get?_push_size _ rfl⟩
  generalize h2.push { cls := .type "list", dict := none, data := .seq ([] : List Value).toArray } = H2 at hns₁ hsb₁ k3 atD ⊢
  have S2 : St h1 b1 b1 [(I, T 0), (h2.objs.size, .lst #[])] H2 := St.add (pre := [_]) (post := []) S1 k3 fD atD
  have k4 : Keep H2 h₁ := fun c o e => hsb₁.extBut c o (Nat.ne_of_lt (Heap.lt_size e)) (Heap.get?_push_of_some _ e)
  have S3 : St h1 b1 b1 [(H2.objs.size, .ns fun _ => none), (I, T 0), (h2.objs.size, .lst #[])] h₁ := St.add (pre := []) S2 k4 (fresh_size H2) hns₁
  have fin : ∀ tk (E2 : Value → Shared → Prop), codeAny (model PG w) A (.compLoop (.ListComp elt (⟨target, iter, ifs, 0⟩ :: gs) scope cpos) 0 (.ref I) (.ref h2.objs.size) (compEnvC scope cl H2.objs.size env))
      (compPost (model PG w) A E2 (some (assign (.Name x xp) env)) (fun _ s' => wpAny (model PG w) A (execs rest env) Q E s') (.ref h2.objs.size) H2.objs.size) { s with heap := h₁, toks := tk } := fun tk E2 => by
    refine k _ h1 b1 I h2.objs.size H2.objs.size _ ⟨.refl _, .refl _, r.up.i⟩ S3.keep S3 fun ys m' b3 h3 tk3 S4 hP => ?_
    have S5 := (Sa.comp S4).perm (List.perm_middle (l₁ := [(H2.objs.size, Own.ns m'), (h2.objs.size, .lst ys)]) (a := (env.locals, Own.ns m)) (l₂ := O))
    refine wpAny_assign_Name (wpAny_storeName_local hl S5.ns (fun h5 hn sb => ?_) (by rw [hk]; rfl))
    have S6 : St h0 hb0 b3 ((env.locals, .ns (upd m x (.ref h2.objs.size))) :: (H2.objs.size, .ns m') :: (h2.objs.size, .lst ys) :: O) h5 := St.upd (pre := []) S5 (Ext.of_same sb) hn
    have S6 := S6.perm (.swap _ _ _)
    refine ⟨m', S6.ns, fun h6 sb6 => ?_⟩
    have S7 := S6.letGo (Ext.of_same sb6)
    obtain ⟨b4, S8, k5, atD'⟩ := St.freeze (pre := [_]) S7
    exact z _ b4 h6 _ (hP b4 k5 atD') S8 (r.up.b.trans (S4.res.up.b.trans k5))
  exact codeAny_compStart_list (fin _ _) ((it.src I).self 0 _ _ _ (S3.mem (p := (I, T 0)) (by simp)) (fin _ _))
theorem compRows_k {β : Type} {R : Value → β → Heap → Prop} (hR : ∀ v x b c, Keep b c → R v x b → R v x c) {f : R4 → β} {c : R4 → Bool} {elt test : Expr} {scope : Scope} {cl : List (Str × Addr)} {tp px py pw ph : Pos} {x1 : Nat} {l : Addr} {vs : List Value} {rows : List R4} (hA : A.handled = none)
    (hl : h.IsList l vs.toArray) (T : TupIs hb vs (rows.map row4)) (hz : rows.length ≤ 1000)
    (step : ∀ (r : R4) (m2 : Str → Option Value) (C : Addr) (b' h' : Heap), Up hb h b' h' → h'.Ns C m2 → (∃ t1, m2 "x" = some (.int r.x t1)) → (∃ t2, m2 "y" = some (.int r.y t2)) → (∃ t3, m2 "w" = some (.int r.w t3)) → (∃ t4, m2 "h" = some (.int r.h t4)) →
      Y w A b' h' (isTrue test (compEnvC scope cl C env) (eval test (compEnvC scope cl C env))) (Is (c r)) ∧ Y w A b' h' (eval elt (compEnvC scope cl C env)) fun v b'' => R v (f r) b'')
    (hlx : ∀ C, ([("x", px), ("y", py), ("w", pw), ("h", ph)] : List (Str × Pos)).all (fun x => (compEnvC scope cl C env).kindOf x.1 == some .local) = true := by intro _; rfl) (hkf : ∀ C, (compEnvC scope cl C env).scope.kind = .function := by intro _; rfl) (hloc : ∀ C, (compEnvC scope cl C env).locals = C := by intro _; rfl) :
    ∀ v b1 h1, Up hb h b1 h1 → Is (.ref l) v b1 → K1 w A hb env elt (.Tuple [.Name "x" px, .Name "y" py, .Name "w" pw, .Name "h" ph] x1 tp) [test] scope cl (fun v b => ∃ D ys, v = .ref D ∧ hb.get? D = none ∧ b.PlainList D ys.toArray ∧ LR R b ys ((rows.filter c).map f)) v b1 h1 := by
  intro v b1 h1 u e
  cases e
  have hl1 : h1.IsList l vs.toArray := hl.at fun o e => u.h _ _ e
  have hlen : vs.length = rows.length := by have := T.length; simpa using this
  refine ⟨_, _, vs.toArray.size, _, fun i ys b => LR R b ys (((rows.take i).filter c).map f), Itr.list hA hl1, fun h2 k => hl1.at fun o e => k _ _ e, by simp; lia, fun b _ => trivial, fun ys b j _ D nD b' kb pl => ⟨D, ys, rfl, nD, pl, ?_⟩, ?_⟩
  · have : rows.take vs.toArray.size = rows := List.take_of_length_le (by simp; lia)
    have j' : LR R b ys (((rows.take vs.toArray.size).filter c).map f) := j
    rw [this] at j'
    exact LR.keep hR kb j'
  rintro i ys v s0 h0' b2 b I D C m hi j hv u2 kb S0
  obtain ⟨r, ⟨t, us, rfl, Tt, vi⟩, hr⟩ := T.at (by simpa using hv)
  obtain ⟨q, hq, rfl⟩ : ∃ q, rows[i]? = some q ∧ row4 q = r := by simpa using hr
  have kbb : Keep hb b := u.b.trans (u2.b.trans kb)
  obtain ⟨t1, t2, t3, t4, rfl⟩ := vi.four
  refine ⟨updAll m ["x", "y", "w", "h"] [.int q.x t1, .int q.y t2, .int q.w t3, .int q.h t4], c q, fun Q E k => ?_, fun h' S' => ?_, fun e b' kb' => ?_, fun e b' h' kb' S' => ?_⟩
  · exact aTup [("x", px), ("y", py), ("w", pw), ("h", ph)] _ S0 hA (Tt.keep (kbb.trans S0.base)) (fun h' tk S' => k h' tk S') rfl rfl (hloc C) (hkf C) (hlx C)
  · exact yTests1 (step q _ C b h' ⟨kbb, u.h.trans (u2.h.trans S'.keep), S'.base⟩ S'.ns ⟨t1, rfl⟩ ⟨t2, rfl⟩ ⟨t3, rfl⟩ ⟨t4, rfl⟩).1
  · show LR R b' ys (((rows.take (i + 1)).filter c).map f)
    rw [List.take_add_one, hq]
    simp only [Option.toList, List.filter_append, List.map_append]
    have : [q].filter c = [] := by simp [List.filter, e]
    rw [this, List.map_nil, List.append_nil]
    exact LR.keep hR kb' j
  · refine (step q _ C b' h' ⟨kbb.trans kb', u.h.trans (u2.h.trans S'.keep), S'.base⟩ S'.ns ⟨t1, rfl⟩ ⟨t2, rfl⟩ ⟨t3, rfl⟩ ⟨t4, rfl⟩).2.mono fun v b'' k'' p => ?_
    show LR R b'' (ys ++ [v]) (((rows.take (i + 1)).filter c).map f)
    rw [List.take_add_one, hq]
    simp only [Option.toList, List.filter_append, List.map_append]
    have : [q].filter c = [q] := by simp [List.filter, e]
    rw [this]
    exact LR.append (LR.keep hR (kb'.trans k'') j) ⟨p, trivial⟩
theorem yCompRows {β : Type} {R : Value → β → Heap → Prop} (hR : ∀ v x b c, Keep b c → R v x b → R v x c) {f : R4 → β} {c : R4 → Bool} {elt iter test : Expr} {scope : Scope} {cl : List (Str × Addr)} {tp px py pw ph : Pos} {x1 : Nat} {l : Addr} {vs : List Value} {rows : List R4} (hA : A.handled = none)
    (hl : h.IsList l vs.toArray) (T : TupIs hb vs (rows.map row4)) (hz : rows.length ≤ 1000) (yi : Y w A hb h (eval iter env) (Is (.ref l)))
    (step : ∀ (r : R4) (m2 : Str → Option Value) (C : Addr) (b' h' : Heap), Up hb h b' h' → h'.Ns C m2 → (∃ t1, m2 "x" = some (.int r.x t1)) → (∃ t2, m2 "y" = some (.int r.y t2)) → (∃ t3, m2 "w" = some (.int r.w t3)) → (∃ t4, m2 "h" = some (.int r.h t4)) →
      Y w A b' h' (isTrue test (compEnvC scope cl C env) (eval test (compEnvC scope cl C env))) (Is (c r)) ∧ Y w A b' h' (eval elt (compEnvC scope cl C env)) fun v b'' => R v (f r) b'')
    (hclos : closureFor scope env = pure cl := by rfl) (hcell : ∀ y ∈ scope.names, y.2 ≠ .cell := by decide) (hkind : scope.kind = .function := by rfl)
    (hnames : ∀ y ∈ scope.names, y.2 = .local → scope.names.lookup y.1 = some .local := by decide) (hs : ∀ x, foldedSetIterable iter env x = pure x := by intro _; rfl)
    (hlx : ∀ C, ([("x", px), ("y", py), ("w", pw), ("h", ph)] : List (Str × Pos)).all (fun x => (compEnvC scope cl C env).kindOf x.1 == some .local) = true := by intro _; rfl) (hkf : ∀ C, (compEnvC scope cl C env).scope.kind = .function := by intro _; rfl) (hloc : ∀ C, (compEnvC scope cl C env).locals = C := by intro _; rfl) :
    Y w A hb h (eval (.ListComp elt [⟨.Tuple [.Name "x" px, .Name "y" py, .Name "w" pw, .Name "h" ph] x1 tp, iter, [test], 0⟩] scope pos) env) fun v b => ∃ D ys, v = .ref D ∧ hb.get? D = none ∧ b.PlainList D ys.toArray ∧ LR R b ys ((rows.filter c).map f) :=
  yComp1 yi (compRows_k hR hA hl T hz step hlx hkf hloc) hclos hcell hkind hnames hs
end
end Mine
end
noncomputable section
open PySem PySem.W PyProof.Rows PySem.Calls Builtin Builtin.ObjectAttr Builtin.Getset_descriptor
set_option Elab.async false
set_option maxRecDepth 100000
set_option linter.unusedVariables false
namespace Mine
theorem addL (i : Nat) {rows : List R4} {r : R4} (h : rows[i]? = some r) : lefts (rows.take (i + 1)) = if (lefts (rows.take i)).any (· == r.x + r.w) then lefts (rows.take i) else lefts (rows.take i) ++ [r.x + r.w] := by
  unfold lefts; rw [foldl_take_succ _ _ _ h]
theorem addR (i : Nat) {rows : List R4} {wide : Int} {r : R4} (h : rows[i]? = some r) : rights (rows.take (i + 1)) wide = if (rights (rows.take i) wide).any (· == r.x) then rights (rows.take i) wide else rights (rows.take i) wide ++ [r.x] := by
  unfold rights; rw [foldl_take_succ _ _ _ h]
section
variable {w : World} {A : Around} {hb0 h0 hb h : Heap} {env : Env} {L : Addr} {m : Str → Option Value} {O pre post : List (Addr × Own)} {rest : List Stmt} {pos : Pos} {s : Shared} {Q : Flow → Shared → Prop} {E : Value → Shared → Prop}
theorem wIfAppend {test o elt : Expr} {apos cpos ep : Pos} {b : Bool} {D : Addr} {xs : Array Value} {P1 : Value → Heap → Prop} (S : St h0 hb0 hb (pre ++ (D, .lst xs) :: post) s.heap) (hz : xs.size ≤ 1000000)
    (yt : Y w A hb s.heap (isTrue test env (eval test env)) (Is b))
    (yo : ∀ b' h', St h0 hb0 b' (pre ++ (D, .lst xs) :: post) h' → Keep hb b' → Y w A b' h' (eval o env) (Is (.ref D))) (ye : ∀ b' h', St h0 hb0 b' (pre ++ (D, .lst xs) :: post) h' → Keep hb b' → Y w A b' h' (eval elt env) P1)
    (z : ∀ zs b' h' tk, (b = false ∧ zs = xs ∨ b = true ∧ ∃ v, P1 v b' ∧ zs = xs.push v) → St h0 hb0 b' (pre ++ (D, .lst zs) :: post) h' → Keep hb b' → wpAny (model PG w) A (execs rest env) Q E { s with heap := h', toks := tk })
    (hbase : attributeBase o "append" env (eval o env) = eval o env := by rfl)
    (hfew : ((backTo cpos (starEach [elt] env)).all (fun x => !x.1) && (backToKw cpos (keywordEach [] env)).all (fun x => x.1.isSome)
      && decide (([elt] : List Expr).length + ([] : List Keyword).length + (if ([] : List Keyword).isEmpty then 0 else 1) < 30)) = true := by rfl)
    (hline : (apos.endLine == cpos.line) = true := by rfl)
    (htrees : backTo cpos (starEach [elt] env) = [(false, eval elt env)] := by rfl)
    (hi : interactive env = false := by rfl) (hs : swapsWith (.Call (.Attribute o "append" apos) [elt] [] cpos) none ep.line env = pure false := by rfl) :
    wpAny (model PG w) A (execs (.If test [.Expr (.Call (.Attribute o "append" apos) [elt] [] cpos) ep] [] pos :: rest) env) Q E s := by
  refine wIf S yt (fun hb' b1 h1 tk1 S1 k1 => ?_) fun hb' b1 h1 tk1 S1 k1 => ?_
  · exact wAppend S1 hz (yo b1 h1 S1 k1) (fun b' h' S' k' => ye b' h' S' (k1.trans k')) (fun v b' h' tk p S' k' => z _ b' h' tk (.inr ⟨hb', v, p, rfl⟩) S' (k1.trans k')) hbase hfew hline htrees hi hs
  · exact z _ b1 h1 tk1 (.inl ⟨hb', rfl⟩) S1 k1
theorem wIfM {test : Expr} {body : List Stmt} {b : Bool} {Mid : Shared → Prop} (S : St h0 hb0 hb O s.heap) (y : Y w A hb s.heap (isTrue test env (eval test env)) (Is b))
    (z1 : b = true → ∀ b' h' tk, St h0 hb0 b' O h' → Keep hb b' → wpAny (model PG w) A (execs body env) (fun fl s' => fl = .next ∧ Mid s') E { s with heap := h', toks := tk })
    (z2 : b = false → ∀ b' h' tk, St h0 hb0 b' O h' → Keep hb b' → Mid { s with heap := h', toks := tk })
    (z : ∀ s', Mid s' → wpAny (model PG w) A (execs rest env) Q E s') : wpAny (model PG w) A (execs (.If test body [] pos :: rest) env) Q E s := by
  refine wIf S y (fun e b1 h1 tk1 S1 k1 => ?_) fun e b1 h1 tk1 S1 k1 => z _ (z2 e b1 h1 tk1 S1 k1)
  rw [execs_append]
  refine wpAny_bind (wpAny_mono (z1 e b1 h1 tk1 S1 k1) (fun fl s' p => ?_) fun _ _ x => x)
  obtain ⟨rfl, p⟩ := p
  exact z s' p
theorem yCellI {x : Str} {c : Addr} {i : Int} {t : Tok} (hc : h.IsCell c (some (.int i t))) (hk : env.scope.kind = .function := by rfl) (hl : env.kindOf x = some .cell := by rfl) (hcl : env.cells.lookup x = some c := by rfl)
    (hd : (x == ("__debug__" : Str)) = false := by decide) : Y w A hb h (eval (.Name x pos) env) (IsI i) := (yCell hc hk hl hcl hd).mono fun _ _ _ e => ⟨t, e⟩
end
theorem any_filter {α β : Type} (c : α → Bool) (f : α → β) : ∀ l : List α, (!((l.filter c).map f).isEmpty) = l.any c
  | [] => rfl
  | a :: l => by
    rw [List.filter_cons, List.any_cons]
    cases c a with
    | true => simp
    | false => simpa using any_filter c f l
theorem fold_all {α β : Type} {g : List β → α → List β} {p : β → Prop} (hg : ∀ f a, (∀ x ∈ f, p x) → ∀ x ∈ g f a, p x) : ∀ (l : List α) (f : List β), (∀ x ∈ f, p x) → ∀ x ∈ l.foldl g f, p x
  | [], f, h => h
  | a :: l, f, h => fold_all hg l _ (hg f a h)
theorem gaps_all {rows : List R4} {wide left right : Int} {p : List Int → Prop} (hp : ∀ fl q, ∀ x ∈ gapR rows wide left right fl q, p x) : ∀ (ps : List (List Int)) (st : Int × List (List Int)), (∀ x ∈ st.2, p x) → ∀ x ∈ (ps.foldl (gap rows wide left right) st).2, p x
  | [], st, h => h
  | q :: ps, st, h => gaps_all hp ps _ fun x m => by
    rcases List.mem_append.mp (show x ∈ st.2 ++ gapR rows wide left right st.1 q from m) with m | m
    · exact h x m
    · exact hp _ _ x m
theorem founds_four (rows : List R4) (wide high : Int) : ∀ r ∈ founds rows wide high, r.length = 4 := by
  refine fold_all (p := fun r : List Int => r.length = 4) (fun f left h => ?_) _ _ (fun x m => by cases m)
  refine fold_all (p := fun r : List Int => r.length = 4) (fun f right h => ?_) _ _ h
  unfold scan
  split
  · refine gaps_all (p := fun r : List Int => r.length = 4) (fun fl q x m => ?_) _ _ h
    unfold gapR at m
    split at m
    · simp at m; subst m; rfl
    · cases m
  · exact h
theorem strips_two {rows : List R4} {high left right : Int} {r : List Int} (h : r ∈ strips rows high left right) : ∃ lo hi, r = [lo, hi] := by
  unfold strips at h
  rcases List.mem_append.mp h with h | h
  · have := (sortR_perm _).mem_iff.mp h
    unfold strip at this
    obtain ⟨q, _, rfl⟩ := List.mem_map.mp this
    exact ⟨_, _, rfl⟩
  · simp at h; exact ⟨_, _, h⟩
structure EN (laid Dr Df : Addr) (wide high : Int) (t1 t2 : Tok) (m : Str → Option Value) : Prop where
  m1 : m "rights" = some (.ref Dr)
  m2 : m "laid" = some (.ref laid)
  m3 : m "wide" = some (.int wide t1)
  m4 : m "high" = some (.int high t2)
  m5 : m "found" = some (.ref Df)
structure EN1 (laid Dl Dr : Addr) (wide high : Int) (t1 t2 : Tok) (m : Str → Option Value) : Prop where
  m1 : m "lefts" = some (.ref Dl)
  m2 : m "rights" = some (.ref Dr)
  m3 : m "laid" = some (.ref laid)
  m4 : m "wide" = some (.int wide t1)
  m5 : m "high" = some (.int high t2)
inductive EJ1 (laid Dl Dr L : Addr) (wide high : Int) (t1 t2 : Tok) (rows : List R4) (c1 : Heap) (i : Nat) (m : Str → Option Value) (O' : List (Addr × Own)) (b' : Heap) : Prop
  | mk (ls rs : List Value) (e : O' = (Dr, .lst rs.toArray) :: (Dl, .lst ls.toArray) :: (L + 1 + 1 + 1 + 1, .cel none) :: (L + 1 + 1 + 1, .cel none) :: (L + 1 + 1, .cel none) :: (L + 1, .cel none) :: [])
      (vl : VI ls (lefts (rows.take i))) (vr : VI rs (rights (rows.take i) wide)) (n : EN1 laid Dl Dr wide high t1 t2 m) (kb : Keep c1 b')
inductive EJ2 (laid Dr Df L : Addr) (wide high : Int) (t1 t2 : Tok) (rows : List R4) (c5 : Heap) (i : Nat) (m : Str → Option Value) (O' : List (Addr × Own)) (b' : Heap) : Prop
  | mk (fs : List Value) (v4 v3 v2 v1 : Option Value) (e : O' = (Df, .lst fs.toArray) :: (L + 1 + 1 + 1 + 1, .cel v4) :: (L + 1 + 1 + 1, .cel v3) :: (L + 1 + 1, .cel v2) :: (L + 1, .cel v1) :: [])
      (tf : TupIs b' fs (((lefts rows).take i).foldl (scanL rows wide high) [])) (n : EN laid Dr Df wide high t1 t2 m) (kb : Keep c5 b')
inductive EJ3 (laid Dr Df L I Dl : Addr) (i : Nat) (left : Int) (tl : Tok) (wide high : Int) (t1 t2 : Tok) (rows : List R4) (F0 : List (List Int)) (c9 : Heap) (k : Nat) (m : Str → Option Value) (O' : List (Addr × Own)) (b' : Heap) : Prop
  | mk (fs : List Value) (v4 v3 v2 : Option Value) (e : O' = (I, .itr Dl (i + 1)) :: (Df, .lst fs.toArray) :: (L + 1 + 1 + 1 + 1, .cel v4) :: (L + 1 + 1 + 1, .cel v3) :: (L + 1 + 1, .cel v2) :: (L + 1, .cel (some (.int left tl))) :: [])
      (tf : TupIs b' fs (((rights rows wide).take k).foldl (scan rows wide high left) F0)) (n : EN laid Dr Df wide high t1 t2 m) (kb : Keep c9 b')
inductive EJ4 (laid Dr Df L I2 I Dl : Addr) (k i : Nat) (right : Int) (tr : Tok) (left : Int) (tl : Tok) (wide high : Int) (t1 t2 : Tok) (rows : List R4) (F1 : List (List Int)) (c16 : Heap) (p : Nat) (m : Str → Option Value) (O' : List (Addr × Own)) (b' : Heap) : Prop
  | mk (fs : List Value) (v4 : Option Value) (fl : Int) (tf : Tok) (e : O' = (I2, .itr Dr (k + 1)) :: (I, .itr Dl (i + 1)) :: (Df, .lst fs.toArray) :: (L + 1 + 1 + 1 + 1, .cel v4) :: (L + 1 + 1 + 1, .cel (some (.int fl tf))) :: (L + 1 + 1, .cel (some (.int right tr))) :: (L + 1, .cel (some (.int left tl))) :: [])
      (hf : fl = (((strips rows high left right).take p).foldl (gap rows wide left right) (0, F1)).1) (tt : TupIs b' fs (((strips rows high left right).take p).foldl (gap rows wide left right) (0, F1)).2) (n : EN laid Dr Df wide high t1 t2 m) (kb : Keep c16 b')
section
variable {w : World} {A : Around} {hb h : Heap}
theorem c_empty {laid : Addr} {vs : List Value} {rows : List R4} {wide high : Int} {t1 t2 : Tok} (G : Glob w hb) (R : Rm 3 A) (hl : h.IsList laid vs.toArray) (T : TupIs hb vs (rows.map row4)) (hz : rows.length ≤ 30) (h64 : (founds rows wide high).length < 64) :
    C w A hb h (.ref 502) [.ref laid, .int wide t1, .int high t2] [] (RowsL hb (sortR (founds rows wide high))) := by
  intro s b u Rr q
  have S0 : St s.heap b b [] s.heap := ⟨.refl u.i, fun p m => (by cases m), .nil⟩
  have Gb := G.keep u.b
  have hlen : vs.length = rows.length := by have := T.length; simpa using this
  refine callMC (O := []) (binds := [("laid", .ref laid), ("wide", .int wide t1), ("high", .int high t2)]) S0 Gb R (by rfl) (by kernel_rfl) rfl
    (by intro x hx; simp at hx; rcases hx with rfl | rfl | rfl <;> exact .inl (by rfl)) (by decide) fun h1 tk1 L R1 S k1 E => ?_
  generalize hm0 : bindL _ [("laid", Value.ref laid), ("wide", Value.int wide t1), ("high", Value.int high t2)] (fun _ => none) = m0 at S
  have n1 : m0 "laid" = some (.ref laid) := by rw [← hm0]; rfl
  have n2 : m0 "wide" = some (.int wide t1) := by rw [← hm0]; rfl
  have n3 : m0 "high" = some (.int high t2) := by rw [← hm0]; rfl
  have S : St s.heap b b ((L, .ns m0) :: (L + 1 + 1 + 1 + 1, .cel none) :: (L + 1 + 1 + 1, .cel none) :: (L + 1 + 1, .cel none) :: (L + 1, .cel none) :: []) h1 := S
  clear hm0
  refine wLetOwn S (yLst (R := fun vs _ => VI vs [0]) (yIntsCons yInt yIntsNil) (by intro vs _ q; have := VI.length q; simp at this; lia)) fun Dl ls0 b0 h2 tk2 e0 S => ?_
  refine wLetOwn S (yLst (R := fun vs _ => VI vs [wide]) (yIntsCons (yNameI S.ns n2) yIntsNil) (by intro vs _ q; have := VI.length q; simp at this; lia)) fun Dr rs0 b0' h3 tk3 e1 S => ?_
  refine wForList S (yName S.ns n1) fun v c1 h4 tk4 e S4 kc1 => ?_
  cases e
  refine ⟨laid, vs.toArray, rfl, hl.at fun o e => S4.keep _ _ (u.h _ _ e), fun I h5 S5 k5 => ?_⟩
  refine for_core2 (m := upd (upd m0 "lefts" (.ref Dl)) "rights" (.ref Dr)) (Src.list R1.hd I laid vs.toArray) (EJ1 laid Dl Dr L wide high t1 t2 rows c1)
    (fun s' => ∃ h' tk, s' = { s with heap := h', toks := tk }) (by rintro _ h' tk ⟨_, _, rfl⟩; exact ⟨h', tk, rfl⟩) ?_ ?_ ?_ ⟨ls0, rs0, rfl, e0, e1, ⟨rfl, rfl, n1, n2, n3⟩, .refl _⟩ ⟨_, _, rfl⟩ S5
  · rintro i m O' b' h' _ _ S'
    exact hl.at fun o e => S'.keep _ _ (u.h _ _ e)
  · rintro i m O' b' s3 v E QA kA hi ⟨ls, rs, rfl, vl, vr, ⟨m1, m2, m3, m4, m5⟩, kb⟩ ⟨h3, tk3, rfl⟩ hv S3
    obtain ⟨r, ⟨t, us, rfl, Tt, vi⟩, hr⟩ := T.at (by simpa using hv)
    obtain ⟨q, hq, rfl⟩ : ∃ q, rows[i]? = some q ∧ row4 q = r := by simpa using hr
    have kbb : Keep hb b' := u.b.trans (kc1.trans kb)
    have hll := lefts_len (rows.take i)
    have hlr := rights_len (rows.take i) wide
    have := vl.length
    have := vr.length
    have : (rows.take i).length ≤ 30 := by rw [List.length_take]; lia
    obtain ⟨x1, x2, x3, x4, rfl⟩ := vi.four
    refine aTup [("x", _), ("y", _), ("w", _), ("h", _)] _ S3 R1.hd (Tt.keep (kbb.trans S3.base)) fun h4 tk4 S4 => kA _ fun QB1 kQ1 => ?_
    generalize hmm : updAll m _ _ = mm at S4
    have f1 : mm "lefts" = some (.ref Dl) := by rw [← hmm]; exact m1
    have f2 : mm "rights" = some (.ref Dr) := by rw [← hmm]; exact m2
    have f3 : mm "laid" = some (.ref laid) := by rw [← hmm]; exact m3
    have f4 : mm "wide" = some (.int wide t1) := by rw [← hmm]; exact m4
    have f5 : mm "high" = some (.int high t2) := by rw [← hmm]; exact m5
    have fx : mm "x" = some (.int q.x x1) := by rw [← hmm]; rfl
    have fw : mm "w" = some (.int q.w x3) := by rw [← hmm]; rfl
    have kl : h4.IsList Dl ls.toArray := Heap.PlainList.isList (S4.mem (p := (Dl, .lst ls.toArray)) mem3)
    clear hmm
    refine wIfAppend (b := !((lefts (rows.take i)).any (· == q.x + q.w))) (pre := [_, _, _]) (post := _) (P1 := IsI (q.x + q.w)) S4 (by simp; lia) (yTestCompare (yNotInInts kl vl (yAdd (yNameI S4.ns fx) (yNameI S4.ns fw)) (yName S4.ns f1))) (fun b' h' S' k' => yName S'.ns f1)
      (fun b' h' S' k' => yAdd (yNameI S'.ns fx) (yNameI S'.ns fw)) fun zs b5 h5 tk5 e5 S5 k5 => ?_
    have S5 : St s.heap b b5 ((L, .ns mm) :: (I, .itr laid (i + 1)) :: (Dr, .lst rs.toArray) :: (Dl, .lst zs) :: (L + 1 + 1 + 1 + 1, .cel none) :: (L + 1 + 1 + 1, .cel none) :: (L + 1 + 1, .cel none) :: (L + 1, .cel none) :: []) h5 := S5
    obtain ⟨ls2, rfl, vl2⟩ : ∃ ls2 : List Value, zs = ls2.toArray ∧ VI ls2 (lefts (rows.take (i + 1))) := by
      rw [addL i hq]
      rcases e5 with ⟨e, rfl⟩ | ⟨e, v, ⟨t, rfl⟩, rfl⟩
      · exact ⟨ls, rfl, by rw [if_pos (by simpa using e)]; exact vl⟩
      · exact ⟨ls ++ [.int (q.x + q.w) t], by simp, by rw [if_neg (by rw [Bool.not_eq_true'] at e; rw [e]; decide)]; exact vl.append ⟨⟨t, rfl⟩, trivial⟩⟩
    have kr : h5.IsList Dr rs.toArray := Heap.PlainList.isList (S5.mem (p := (Dr, .lst rs.toArray)) mem2)
    refine wIfAppend (b := !((rights (rows.take i) wide).any (· == q.x))) (pre := [_, _]) (post := _) (P1 := IsI q.x) S5 (by simp; lia) (yTestCompare (yNotInInts kr vr (yNameI S5.ns fx) (yName S5.ns f2))) (fun b' h' S' k' => yName S'.ns f2)
      (fun b' h' S' k' => yNameI S'.ns fx) fun zs b6 h6 tk6 e6 S6 k6 => ?_
    obtain ⟨rs2, rfl, vr2⟩ : ∃ rs2 : List Value, zs = rs2.toArray ∧ VI rs2 (rights (rows.take (i + 1)) wide) := by
      rw [addR i hq]
      rcases e6 with ⟨e, rfl⟩ | ⟨e, v, ⟨t, rfl⟩, rfl⟩
      · exact ⟨rs, rfl, by rw [if_pos (by simpa using e)]; exact vr⟩
      · exact ⟨rs ++ [.int q.x t], by simp, by rw [if_neg (by rw [Bool.not_eq_true'] at e; rw [e]; decide)]; exact vr.append ⟨⟨t, rfl⟩, trivial⟩⟩
    exact wNil (kQ1 mm _ b6 _ ⟨ls2, rs2, rfl, vl2, vr2, ⟨f1, f2, f3, f4, f5⟩, (kb.trans k5).trans k6⟩ ⟨_, _, rfl⟩ S6)
  · rintro m O' b2 s3 ⟨ls, rs, rfl, vl, vr, ⟨m1, m2, m3, m4, m5⟩, kb⟩ ⟨h3, tk3, rfl⟩ S3
    have hrt : rows.take vs.toArray.size = rows := List.take_of_length_le (by simp; lia)
    rw [hrt] at vl vr
    obtain ⟨b3, S4, kb3, atR⟩ := St.freeze (pre := [_]) S3
    obtain ⟨b4, S4, kb4, atL⟩ := St.freeze (pre := [_]) S4
    have atR := atR.keep kb4
    refine wLetOwn S4 (yLst (R := fun vs _ => vs = []) (yArgs_nil fun _ _ => rfl) (by rintro _ _ rfl; decide)) fun Df fs0 b0 h5 tk5 e5 S5 => ?_
    subst e5
    have atL5 : h5.IsList Dl ls.toArray := Heap.PlainList.isList (atL.at fun o e => S5.base _ _ e)
    refine wForList S5 (yName S5.ns m1) fun v c5 h6 tk6 e S6 kc5 => ?_
    cases e
    have kc4 : Keep b c5 := kc1.trans (kb.trans (kb3.trans (kb4.trans kc5)))
    have hlen2 : ls.length = (lefts rows).length := vl.length
    have hlen3 : rs.length = (rights rows wide).length := vr.length
    have hll := lefts_len rows
    have hlr := rights_len rows wide
    refine ⟨Dl, ls.toArray, rfl, Heap.PlainList.isList (atL.at fun o e => S6.base _ _ (kc5 _ _ e)), fun I h7 S7 k7 => ?_⟩
    refine for_core2 (m := upd m "found" (.ref Df)) (Src.list R1.hd I Dl ls.toArray) (EJ2 laid Dr Df L wide high t1 t2 rows c5)
      (fun s' => ∃ h' tk, s' = { s with heap := h', toks := tk }) (by rintro _ h' tk ⟨_, _, rfl⟩; exact ⟨h', tk, rfl⟩) ?_ ?_ ?_ ⟨[], none, none, none, none, rfl, trivial, ⟨m2, m3, m4, m5, rfl⟩, .refl _⟩ ⟨_, _, rfl⟩ S7
    · rintro i m O' b' h' _ ⟨_, _, _, _, _, _, _, _, kb⟩ S'
      exact Heap.PlainList.isList (atL.at fun o e => S'.base _ _ (kb _ _ (kc5 _ _ e)))
    · rintro i m O' b8 s8 v E QA kA hi ⟨fs, v4, v3, v2, v1, rfl, tf, ⟨m1, m2, m3, m4, m5⟩, kb8⟩ ⟨h8, tk8, rfl⟩ hv S8
      obtain ⟨left, tl, rfl, hleft⟩ := vl.at (by simpa using hv)
      refine aCell (pre := [_, _, _, _, _, _]) (post := []) S8 fun h9 tk9 S9 => kA _ fun QB2 kQ2 => ?_
      have S9 : St s.heap b b8 ((L, .ns m) :: (I, .itr Dl (i + 1)) :: (Df, .lst fs.toArray) :: (L + 1 + 1 + 1 + 1, .cel v4) :: (L + 1 + 1 + 1, .cel v3) :: (L + 1 + 1, .cel v2) :: (L + 1, .cel (some (.int left tl))) :: []) h9 := S9
      refine wForList S9 (yName S9.ns m1) fun v c9 h10 tk10 e S10 kc9 => ?_
      cases e
      refine ⟨Dr, rs.toArray, rfl, Heap.PlainList.isList (atR.at fun o e => S10.base _ _ (kc9 _ _ (kb8 _ _ (kc5 _ _ e)))), fun I2 h11 S11 k11 => ?_⟩
      generalize hF0 : ((lefts rows).take i).foldl (scanL rows wide high) [] = F0 at tf
      have lF0 : F0.length ≤ 30 * 31 * 31 := by
        rw [← hF0]
        refine Nat.le_trans (fold_len (scanL_len rows wide high) _ _) ?_
        rw [List.length_take, List.length_nil, Nat.zero_add]
        have e1 : (rows.length + 1) * (rows.length + 1) ≤ 31 * 31 := Nat.mul_le_mul (by lia) (by lia)
        have e2 : min i (lefts rows).length ≤ 30 := by
          have : i < ls.length := by simpa using hi
          lia
        exact Nat.le_trans (Nat.mul_le_mul e2 e1) (by decide)
      refine for_core2 (m := m) (Src.list R1.hd I2 Dr rs.toArray) (EJ3 laid Dr Df L I Dl i left tl wide high t1 t2 rows F0 c9)
        (fun s' => ∃ h' tk, s' = { s with heap := h', toks := tk }) (by rintro _ h' tk ⟨_, _, rfl⟩; exact ⟨h', tk, rfl⟩) ?_ ?_ ?_ ⟨fs, v4, v3, v2, rfl, tf.keep kc9, ⟨m1, m2, m3, m4, m5⟩, .refl _⟩ ⟨_, _, rfl⟩ S11
      · rintro k m O' b' h' _ ⟨_, _, _, _, _, _, _, kb⟩ S'
        exact Heap.PlainList.isList (atR.at fun o e => S'.base _ _ (kb _ _ (kc9 _ _ (kb8 _ _ (kc5 _ _ e)))))
      · rintro k m O' b12 s12 v E QA kA hk ⟨fs, v4, v3, v2, rfl, tf, ⟨m1, m2, m3, m4, m5⟩, kb12⟩ ⟨h12, tk12, rfl⟩ hv S12
        obtain ⟨right, tr, rfl, hright⟩ := vr.at (by simpa using hv)
        refine aCell (pre := [_, _, _, _, _, _]) (post := [_]) S12 fun h13 tk13 S13 => kA _ fun QB3 kQ3 => ?_
        have S13 : St s.heap b b12 ((L, .ns m) :: (I2, .itr Dr (k + 1)) :: (I, .itr Dl (i + 1)) :: (Df, .lst fs.toArray) :: (L + 1 + 1 + 1 + 1, .cel v4) :: (L + 1 + 1 + 1, .cel v3) :: (L + 1 + 1, .cel (some (.int right tr))) :: (L + 1, .cel (some (.int left tl))) :: []) h13 := S13
        have sc : ((rights rows wide).take (k + 1)).foldl (scan rows wide high left) F0 = scan rows wide high left (((rights rows wide).take k).foldl (scan rows wide high left) F0) right := foldl_take_succ _ _ _ hright
        generalize hF1 : ((rights rows wide).take k).foldl (scan rows wide high left) F0 = F1 at tf sc
        have lF1 : F1.length ≤ 30 * 31 * 31 + 30 * 31 := by
          rw [← hF1]
          refine Nat.le_trans (fold_len (scan_len rows wide high left) _ _) ?_
          rw [List.length_take]
          have e2 : min k (rights rows wide).length ≤ 30 := by
            have : k < rs.length := by simpa using hk
            lia
          have e1 : rows.length + 1 ≤ 31 := by lia
          have := Nat.mul_le_mul e2 e1
          lia
        have cl13 : h13.IsCell (L + 1) (some (.int left tl)) := S13.mem (p := (L + 1, .cel (some (.int left tl)))) (.tail _ (.tail _ (.tail _ mem4)))
        have cr13 : h13.IsCell (L + 1 + 1) (some (.int right tr)) := S13.mem (p := (L + 1 + 1, .cel (some (.int right tr)))) (.tail _ (.tail _ mem4))
        refine wIf (b := decide (left < right)) S13 (yTestCompare (yCmp (yCellI cl13) (yCellI cr13))) (fun hlt b14 h14 tk14 S14 k14 => ?_) fun hlt b14 h14 tk14 S14 k14 => ?_
        · have hlt : left < right := of_decide_eq_true hlt
          have sc2 : scan rows wide high left F1 right = ((strips rows high left right).foldl (gap rows wide left right) (0, F1)).2 := by unfold scan; rw [if_pos hlt]
          refine wLetC (pre := [_, _, _, _, _]) (post := [_, _]) (P1 := IsI 0) S14 yInt fun v b15 h15 tk15 e S15 k15 => ?_
          obtain ⟨t0, rfl⟩ := e
          have S15 : St s.heap b b15 ((L, .ns m) :: (I2, .itr Dr (k + 1)) :: (I, .itr Dl (i + 1)) :: (Df, .lst fs.toArray) :: (L + 1 + 1 + 1 + 1, .cel v4) :: (L + 1 + 1 + 1, .cel (some (.int 0 t0))) :: (L + 1 + 1, .cel (some (.int right tr))) :: (L + 1, .cel (some (.int left tl))) :: []) h15 := S15
          have cl15 : h15.IsCell (L + 1) (some (.int left tl)) := S15.mem (p := (L + 1, .cel (some (.int left tl)))) (.tail _ (.tail _ (.tail _ mem4)))
          have cr15 : h15.IsCell (L + 1 + 1) (some (.int right tr)) := S15.mem (p := (L + 1 + 1, .cel (some (.int right tr)))) (.tail _ (.tail _ mem4))
          have kb15 : Keep b b15 := kc4.trans (kb8.trans (kc9.trans (kb12.trans (k14.trans k15))))
          have hl15 : h15.IsList laid vs.toArray := hl.at fun o e => S15.keep _ _ (u.h _ _ e)
          have T15 : TupIs b15 vs (rows.map row4) := T.keep (u.b.trans kb15)
          have G15 := Gb.keep kb15
          refine wForList (P0 := fun v b => ∃ D xs, v = .ref D ∧ b.PlainList D xs.toArray ∧ TupIs b xs (strips rows high left right)) S15 ?_ fun v c16 h16 tk16 e S16 kc16 => ?_
          · refine yBinop (P1 := RowsL b15 (sortR (strip rows left right))) (P2 := RowsL b15 [[high, high]]) ?_ (fun v1 b1 h1 u1 _ => ?_) fun v1 v2 b1 h1 b2 h2 u1 u2 p1 p2 => ?_
            · refine yCall1 (P1 := fun v b => ∃ D ys, v = .ref D ∧ b15.get? D = none ∧ b.PlainList D ys.toArray ∧ LR (fun v x b => TupI b v x) b ys ((rows.filter (inStrip left right)).map fun r => [r.y, r.y + r.h])) (yBltn G15 (by rfl) bltn_sorted (by decide)) kept_bltn
                (yCompRows (fun v x b c k p => p.keep k) R1.hd hl15 T15 (by lia) (yName S15.ns m2) fun r m2 C b' h' u' hns ⟨x1, e1⟩ ⟨x2, e2⟩ ⟨x3, e3⟩ ⟨x4, e4⟩ => ?_) fun v b0 b1 h1 u1 k0 ⟨D, ys, e, nD, pl, lr⟩ => ?_
              · have cl' := cl15.keeps u'.h
                have cr' := cr15.keeps u'.h
                refine ⟨?_, ?_⟩
                · refine yEq (yTestBoolOp (yAndCons (yTestCompare (yCmp (yNameI hns e1) (yCellI cr'))) fun _ => yAndCons (yTestCompare (yCmp (yCellI cl') (yAdd (yNameI hns e1) (yNameI hns e3)))) fun _ => yAndNil)) ?_
                  simp [cmpB, inStrip]
                · refine (yTup (R := fun vs _ => VI vs [r.y, r.y + r.h]) (yIntsCons (yNameI hns e2) (yIntsCons (yAdd (yNameI hns e2) (yNameI hns e4)) yIntsNil)) ?_).mono fun v b k' e => ?_
                  · intro vs b q; have := VI.length q; simp at this; lia
                  · obtain ⟨t, vs, b0, rfl, T, _, q⟩ := e
                    exact ⟨t, vs, rfl, T, q⟩
              · subst e
                have lys := lr.length
                have := List.length_filter_le (inStrip left right) rows
                refine (ySorted (c := 2) (pl.isList.at fun o e => u1.i _ _ (k0 _ _ e)) (lr.tups.keep k0) ?_ (by decide) (by rw [List.length_map] at lys; lia)).mono fun v b' k' p => ?_
                · intro r hr
                  obtain ⟨q, _, rfl⟩ := List.mem_map.mp hr
                  rfl
                · obtain ⟨rows', ⟨D', vs', e, pl', tt, nD'⟩, pm, ls⟩ := p
                  have er := sortR_eq (c := 2) (l := strip rows left right) (by
                    intro r hr
                    obtain ⟨q, _, rfl⟩ := List.mem_map.mp hr
                    rfl) pm ls
                  rw [er] at tt
                  exact ⟨D', vs', e, pl', tt, keep_none u1.b nD'⟩
            · have hns := S15.ns.keeps u1.h
              refine (yLst (R := fun vs b => TupIs b vs [[high, high]]) (yArgs_cons (P1 := fun v b => TupI b v [high, high]) ((yTup (R := fun vs _ => VI vs [high, high]) (yIntsCons (yNameI hns m4) (yIntsCons (yNameI hns m4) yIntsNil)) (by intro vs b q; have := VI.length q; simp at this; lia)).mono fun v b k' e => by
                  obtain ⟨t, vs, b0, rfl, T, _, q⟩ := e
                  exact ⟨t, vs, rfl, T, q⟩) fun v b2 h2 u2 p => yArgs_nil fun b' k' => ⟨p.keep k', trivial⟩) (by intro vs b q; have := q.length; simp at this; lia)).mono fun v b k' e => ?_
              obtain ⟨D, vs, b0, e, pl, kk, tt, nD⟩ := e
              exact ⟨D, vs, e, pl, tt.keep kk, keep_none u1.b nD⟩
            · obtain ⟨D1, vs1, rfl, pl1, tt1, _⟩ := p1
              obtain ⟨D2, vs2, rfl, pl2, tt2, _⟩ := p2
              have l1 := tt1.length
              have l2 := tt2.length
              have l3 := strips_len rows high left right
              have l4 : (strips rows high left right).length = (sortR (strip rows left right)).length + 1 := by unfold strips; simp
              refine (yAddLists (pl1.at fun o e => u2.i _ _ (u2.b _ _ e)) (pl2.at fun o e => u2.i _ _ e) (by simp at l2; lia)).mono fun v b' k' ⟨D, e, pl, _⟩ => ⟨D, _, e, pl, ?_⟩
              unfold strips
              exact (tt1.keep (u2.b.trans k')).append (tt2.keep k')
          obtain ⟨D4, xs4, rfl, pl4, tt4⟩ := e
          have hl4 := tt4.length
          have hs4 := strips_len rows high left right
          refine ⟨D4, xs4.toArray, rfl, pl4.isList.at fun o e => S16.base _ _ e, fun I4 h17 S17 k17 => ?_⟩
          refine for_core2 (m := m) (Src.list R1.hd I4 D4 xs4.toArray) (EJ4 laid Dr Df L I2 I Dl k i right tr left tl wide high t1 t2 rows F1 c16)
            (fun s' => ∃ h' tk, s' = { s with heap := h', toks := tk }) (by rintro _ h' tk ⟨_, _, rfl⟩; exact ⟨h', tk, rfl⟩) ?_ ?_ ?_ ⟨fs, v4, 0, t0, rfl, rfl, tf.keep (k14.trans (k15.trans kc16)), ⟨m1, m2, m3, m4, m5⟩, .refl _⟩ ⟨_, _, rfl⟩ S17
          · rintro p m O' b' h' _ ⟨_, _, _, _, _, _, _, _, kb⟩ S'
            exact pl4.isList.at fun o e => S'.base _ _ (kb _ _ e)
          · rintro p m O' b18 s18 v E QA kA hp ⟨fs, v4, fl, tfl, rfl, hfl, tf, ⟨m1, m2, m3, m4, m5⟩, kb18⟩ ⟨h18, tk18, rfl⟩ hv S18
            obtain ⟨r, ⟨t, us, rfl, Tt, vi⟩, hr⟩ := tt4.at (by simpa using hv)
            obtain ⟨lo, hi', rfl⟩ := strips_two (List.mem_of_getElem? hr)
            have sg : ((strips rows high left right).take (p + 1)).foldl (gap rows wide left right) (0, F1) = gap rows wide left right (((strips rows high left right).take p).foldl (gap rows wide left right) (0, F1)) [lo, hi'] := foldl_take_succ _ _ _ hr
            have lF2 := gaps_len rows wide left right ((strips rows high left right).take p) (0, F1)
            rw [List.length_take] at lF2
            simp only at lF2
            generalize ((strips rows high left right).take p).foldl (gap rows wide left right) (0, F1) = st2 at hfl tf sg lF2
            subst hfl
            have lfs := tf.length
            obtain ⟨tlo, thi, rfl⟩ := vi.two
            refine aPairCL (pre := [_, _, _, _]) (post := [_, _, _]) S18 R1.hd (Tt.keep (kb18.trans S18.base)) fun h19 tk19 S19 => kA _ fun QB4 kQ4 => ?_
            have S19 : St s.heap b b18 ((L, .ns (upd m "top" (.int hi' thi))) :: (I4, .itr D4 (p + 1)) :: (I2, .itr Dr (k + 1)) :: (I, .itr Dl (i + 1)) :: (Df, .lst fs.toArray) :: (L + 1 + 1 + 1 + 1, .cel (some (.int lo tlo))) :: (L + 1 + 1 + 1, .cel (some (.int st2.1 tfl))) :: (L + 1 + 1, .cel (some (.int right tr))) :: (L + 1, .cel (some (.int left tl))) :: []) h19 := S19
            have f1 : upd m "top" (.int hi' thi) "rights" = some (.ref Dr) := m1
            have f2 : upd m "top" (.int hi' thi) "laid" = some (.ref laid) := m2
            have f3 : upd m "top" (.int hi' thi) "wide" = some (.int wide t1) := m3
            have f4 : upd m "top" (.int hi' thi) "high" = some (.int high t2) := m4
            have f5 : upd m "top" (.int hi' thi) "found" = some (.ref Df) := m5
            have f6 : upd m "top" (.int hi' thi) "top" = some (.int hi' thi) := rfl
            generalize upd m "top" (.int hi' thi) = mm at S19 f1 f2 f3 f4 f5 f6
            have kb19 : Keep b b18 := kb15.trans (kc16.trans kb18)
            have cw : h19.IsCell (L + 1 + 1 + 1 + 1) (some (.int lo tlo)) := S19.mem (p := (L + 1 + 1 + 1 + 1, .cel (some (.int lo tlo)))) (.tail _ mem4)
            have cf : h19.IsCell (L + 1 + 1 + 1) (some (.int st2.1 tfl)) := S19.mem (p := (L + 1 + 1 + 1, .cel (some (.int st2.1 tfl)))) (.tail _ (.tail _ mem4))
            have cr : h19.IsCell (L + 1 + 1) (some (.int right tr)) := S19.mem (p := (L + 1 + 1, .cel (some (.int right tr)))) (.tail _ (.tail _ (.tail _ mem4)))
            have cl : h19.IsCell (L + 1) (some (.int left tl)) := S19.mem (p := (L + 1, .cel (some (.int left tl)))) (.tail _ (.tail _ (.tail _ (.tail _ mem4))))
            refine wIfM (b := decide (st2.1 < lo)) (Mid := fun s' => ∃ (m' : Str → Option Value) (fs' : List Value) (b' h' : Heap) (tk : Nat), s' = { s with heap := h', toks := tk } ∧ St s.heap b b' ((L, .ns m') :: (I4, .itr D4 (p + 1)) :: (I2, .itr Dr (k + 1)) :: (I, .itr Dl (i + 1)) :: (Df, .lst fs'.toArray) :: (L + 1 + 1 + 1 + 1, .cel (some (.int lo tlo))) :: (L + 1 + 1 + 1, .cel (some (.int st2.1 tfl))) :: (L + 1 + 1, .cel (some (.int right tr))) :: (L + 1, .cel (some (.int left tl))) :: []) h' ∧
              Keep b18 b' ∧ TupIs b' fs' (st2.2 ++ gapR rows wide left right st2.1 [lo, hi']) ∧ EN laid Dr Df wide high t1 t2 m' ∧ m' "top" = some (.int hi' thi)) S19 (yTestCompare (yCmp (yCellI cf) (yCellI cw))) (fun hb' b20 h20 tk20 S20 k20 => ?_) (fun hb' b20 h20 tk20 S20 k20 => ?_) ?_
            · have hlo : st2.1 < lo := of_decide_eq_true hb'
              refine absQ fun QB5 kQ5 => ?_
              have hl20 : h20.IsList laid vs.toArray := hl.at fun o e => S20.keep _ _ (u.h _ _ e)
              have T20 : TupIs b20 vs (rows.map row4) := T.keep (u.b.trans (kb19.trans k20))
              have cw : h20.IsCell (L + 1 + 1 + 1 + 1) (some (.int lo tlo)) := S20.mem (p := (L + 1 + 1 + 1 + 1, .cel (some (.int lo tlo)))) (.tail _ mem4)
              have cf : h20.IsCell (L + 1 + 1 + 1) (some (.int st2.1 tfl)) := S20.mem (p := (L + 1 + 1 + 1, .cel (some (.int st2.1 tfl)))) (.tail _ (.tail _ mem4))
              have cr : h20.IsCell (L + 1 + 1) (some (.int right tr)) := S20.mem (p := (L + 1 + 1, .cel (some (.int right tr)))) (.tail _ (.tail _ (.tail _ mem4)))
              have cl : h20.IsCell (L + 1) (some (.int left tl)) := S20.mem (p := (L + 1, .cel (some (.int left tl)))) (.tail _ (.tail _ (.tail _ (.tail _ mem4))))
              refine wLetComp (P0 := Is (.ref laid)) (P := fun v b => ∃ D ys, v = .ref D ∧ b20.get? D = none ∧ b.PlainList D ys.toArray ∧ LR (fun v x _ => ∃ t, v = .int x t) b ys ((rows.filter (atLeft left st2.1 lo)).map R4.x)) S20 (yName S20.ns f2) ?_ fun v b21 h21 tk21 e S21 k21 => ?_
              · refine comp1_k (P0 := Is (.ref laid)) (P := fun v b => ∃ D ys, v = .ref D ∧ b20.get? D = none ∧ b.PlainList D ys.toArray ∧ LR (fun v x _ => ∃ t, v = .int x t) b ys ((rows.filter (atLeft left st2.1 lo)).map R4.x)) ?_
                refine compRows_k (R := fun v x _ => ∃ t, v = .int x t) (f := R4.x) (c := atLeft left st2.1 lo) (fun v x b c k p => p) R1.hd hl20 T20 (by lia) fun r m2 C b' h' u' hns ⟨x1, e1⟩ ⟨x2, e2⟩ ⟨x3, e3⟩ ⟨x4, e4⟩ => ⟨?_, yNameI hns e1⟩
                refine yEq (yTestBoolOp (yAndCons (yTestCompare (yCmp (yAdd (yNameI hns e1) (yNameI hns e3)) (yCellI (cl.keeps u'.h)))) fun _ => yAndCons (yTestCompare (yCmp (yNameI hns e2) (yCellI (cw.keeps u'.h)))) fun _ => yAndCons (yTestCompare (yCmp (yCellI (cf.keeps u'.h)) (yAdd (yNameI hns e2) (yNameI hns e4)))) fun _ => yAndNil)) ?_
                simp [cmpB, atLeft]
              obtain ⟨Dol, yol, rfl, nDol, plol, lrol⟩ := e
              have hl21 : h21.IsList laid vs.toArray := hl.at fun o e => S21.keep _ _ (u.h _ _ e)
              have T21 : TupIs b21 vs (rows.map row4) := T20.keep k21
              have cw : h21.IsCell (L + 1 + 1 + 1 + 1) (some (.int lo tlo)) := S21.mem (p := (L + 1 + 1 + 1 + 1, .cel (some (.int lo tlo)))) (.tail _ mem4)
              have cf : h21.IsCell (L + 1 + 1 + 1) (some (.int st2.1 tfl)) := S21.mem (p := (L + 1 + 1 + 1, .cel (some (.int st2.1 tfl)))) (.tail _ (.tail _ mem4))
              have cr : h21.IsCell (L + 1 + 1) (some (.int right tr)) := S21.mem (p := (L + 1 + 1, .cel (some (.int right tr)))) (.tail _ (.tail _ (.tail _ mem4)))
              have cl : h21.IsCell (L + 1) (some (.int left tl)) := S21.mem (p := (L + 1, .cel (some (.int left tl)))) (.tail _ (.tail _ (.tail _ (.tail _ mem4))))
              refine wLetComp (P0 := Is (.ref laid)) (P := fun v b => ∃ D ys, v = .ref D ∧ b21.get? D = none ∧ b.PlainList D ys.toArray ∧ LR (fun v x _ => ∃ t, v = .int x t) b ys ((rows.filter (atRight right st2.1 lo)).map R4.x)) S21 (yName S21.ns (show upd mm "onleft" (.ref Dol) "laid" = _ from f2)) ?_ fun v b22 h22 tk22 e S22 k22 => ?_
              · refine comp1_k (P0 := Is (.ref laid)) (P := fun v b => ∃ D ys, v = .ref D ∧ b21.get? D = none ∧ b.PlainList D ys.toArray ∧ LR (fun v x _ => ∃ t, v = .int x t) b ys ((rows.filter (atRight right st2.1 lo)).map R4.x)) ?_
                refine compRows_k (R := fun v x _ => ∃ t, v = .int x t) (f := R4.x) (c := atRight right st2.1 lo) (fun v x b c k p => p) R1.hd hl21 T21 (by lia) fun r m2 C b' h' u' hns ⟨x1, e1⟩ ⟨x2, e2⟩ ⟨x3, e3⟩ ⟨x4, e4⟩ => ⟨?_, yNameI hns e1⟩
                refine yEq (yTestBoolOp (yAndCons (yTestCompare (yCmp (yNameI hns e1) (yCellI (cr.keeps u'.h)))) fun _ => yAndCons (yTestCompare (yCmp (yNameI hns e2) (yCellI (cw.keeps u'.h)))) fun _ => yAndCons (yTestCompare (yCmp (yCellI (cf.keeps u'.h)) (yAdd (yNameI hns e2) (yNameI hns e4)))) fun _ => yAndNil)) ?_
                simp [cmpB, atRight]
              obtain ⟨Dor, yor, rfl, nDor, plor, lror⟩ := e
              have S22 : St s.heap b b22 ((L, .ns (upd (upd mm "onleft" (.ref Dol)) "onright" (.ref Dor))) :: (I4, .itr D4 (p + 1)) :: (I2, .itr Dr (k + 1)) :: (I, .itr Dl (i + 1)) :: (Df, .lst fs.toArray) :: (L + 1 + 1 + 1 + 1, .cel (some (.int lo tlo))) :: (L + 1 + 1 + 1, .cel (some (.int st2.1 tfl))) :: (L + 1 + 1, .cel (some (.int right tr))) :: (L + 1, .cel (some (.int left tl))) :: []) h22 := S22
              have g1 : upd (upd mm "onleft" (.ref Dol)) "onright" (.ref Dor) "rights" = some (.ref Dr) := f1
              have g2 : upd (upd mm "onleft" (.ref Dol)) "onright" (.ref Dor) "laid" = some (.ref laid) := f2
              have g3 : upd (upd mm "onleft" (.ref Dol)) "onright" (.ref Dor) "wide" = some (.int wide t1) := f3
              have g4 : upd (upd mm "onleft" (.ref Dol)) "onright" (.ref Dor) "high" = some (.int high t2) := f4
              have g5 : upd (upd mm "onleft" (.ref Dol)) "onright" (.ref Dor) "found" = some (.ref Df) := f5
              have g6 : upd (upd mm "onleft" (.ref Dol)) "onright" (.ref Dor) "top" = some (.int hi' thi) := f6
              have g7 : upd (upd mm "onleft" (.ref Dol)) "onright" (.ref Dor) "onleft" = some (.ref Dol) := rfl
              have g8 : upd (upd mm "onleft" (.ref Dol)) "onright" (.ref Dor) "onright" = some (.ref Dor) := rfl
              generalize upd (upd mm "onleft" (.ref Dol)) "onright" (.ref Dor) = m22 at S22 g1 g2 g3 g4 g5 g6 g7 g8
              have cells : ∀ {b' h'}, St s.heap b b' ((L, .ns m22) :: (I4, .itr D4 (p + 1)) :: (I2, .itr Dr (k + 1)) :: (I, .itr Dl (i + 1)) :: (Df, .lst fs.toArray) :: (L + 1 + 1 + 1 + 1, .cel (some (.int lo tlo))) :: (L + 1 + 1 + 1, .cel (some (.int st2.1 tfl))) :: (L + 1 + 1, .cel (some (.int right tr))) :: (L + 1, .cel (some (.int left tl))) :: []) h' →
                  h'.IsCell (L + 1 + 1 + 1 + 1) (some (.int lo tlo)) ∧ h'.IsCell (L + 1 + 1 + 1) (some (.int st2.1 tfl)) ∧ h'.IsCell (L + 1 + 1) (some (.int right tr)) ∧ h'.IsCell (L + 1) (some (.int left tl)) := fun S =>
                ⟨S.mem (p := (L + 1 + 1 + 1 + 1, .cel (some (.int lo tlo)))) (.tail _ mem4), S.mem (p := (L + 1 + 1 + 1, .cel (some (.int st2.1 tfl)))) (.tail _ (.tail _ mem4)), S.mem (p := (L + 1 + 1, .cel (some (.int right tr)))) (.tail _ (.tail _ (.tail _ mem4))), S.mem (p := (L + 1, .cel (some (.int left tl)))) (.tail _ (.tail _ (.tail _ (.tail _ mem4))))⟩
              obtain ⟨cw, cf, cr, cl⟩ := cells S22
              have hun : A.units + 64 < cLine ∧ R1.line = R1.line := ⟨by have := R.line; lia, rfl⟩
              have pol : h22.IsList Dol yol.toArray := plol.isList.at fun o e => S22.base _ _ (k22 _ _ e)
              have por : h22.IsList Dor yor.toArray := plor.isList.at fun o e => S22.base _ _ e
              refine wIfAppend (b := (left == 0 || rows.any (atLeft left st2.1 lo)) && (right == wide || rows.any (atRight right st2.1 lo))) (pre := [_, _, _, _]) (post := _) (P1 := fun v b => TupI b v [left, st2.1, right - left, lo - st2.1]) S22 (by have : fs.length ≤ 1000000 := by { rw [lfs]; lia }; simpa using this) ?_ (fun b' h' S' k' => yName S'.ns g5) (fun b' h' S' k' => ?_) fun zs b23 h23 tk23 e S23 k23 => ?_
              · refine yEq (yTestBoolOp (yAndCons (yTestBoolOp (yOrCons (yTestCompare (yCmp (yCellI cl) yInt)) fun _ => yOrCons (yTestCompare (yNeNil (by have := R1.line; lia) pol lrol.ints (yName S22.ns g7))) fun _ => yOrNil)) fun _ => yAndCons (yTestBoolOp (yOrCons (yTestCompare (yCmp (yCellI cr) (yNameI S22.ns g3))) fun _ => yOrCons (yTestCompare (yNeNil (by have := R1.line; lia) por lror.ints (yName S22.ns g8))) fun _ => yOrNil)) fun _ => yAndNil)) ?_
                rw [any_filter, any_filter]
                simp [cmpB]
              · obtain ⟨cw, cf, cr, cl⟩ := cells S'
                refine (yTup (R := fun vs _ => VI vs [left, st2.1, right - left, lo - st2.1]) (yIntsCons (yCellI cl) (yIntsCons (yCellI cf) (yIntsCons (ySub (yCellI cr) (yCellI cl)) (yIntsCons (ySub (yCellI cw) (yCellI cf)) yIntsNil)))) (by intro vs b q; have := VI.length q; simp at this; lia)).mono fun v b k' e => by
                  obtain ⟨t, vs, b0, rfl, T, _, q⟩ := e
                  exact ⟨t, vs, rfl, T, q⟩
              · obtain ⟨fs2, rfl, tf2⟩ : ∃ fs2 : List Value, zs = fs2.toArray ∧ TupIs b23 fs2 (st2.2 ++ gapR rows wide left right st2.1 [lo, hi']) := by
                  have kk : Keep b18 b23 := k20.trans (k21.trans (k22.trans k23))
                  have eg : isGap rows wide left right st2.1 ([lo, hi'].getD 0 0) = ((left == 0 || rows.any (atLeft left st2.1 lo)) && (right == wide || rows.any (atRight right st2.1 lo))) := by
                    unfold isGap
                    rw [show ([lo, hi'] : List Int).getD 0 0 = lo from rfl, decide_eq_true hlo, Bool.true_and]
                  unfold gapR
                  rw [eg]
                  rcases e with ⟨e, rfl⟩ | ⟨e, v, pv, rfl⟩
                  · exact ⟨fs, rfl, by rw [e, if_neg (by decide), List.append_nil]; exact tf.keep kk⟩
                  · exact ⟨fs ++ [v], by simp, by rw [e, if_pos rfl]; exact (tf.keep kk).append ⟨pv, trivial⟩⟩
                exact wNil (kQ5 _ _ ⟨rfl, m22, fs2, b23, h23, tk23, rfl, S23, k20.trans (k21.trans (k22.trans k23)), tf2, ⟨g1, g2, g3, g4, g5⟩, g6⟩)
            · have hlo : ¬ st2.1 < lo := of_decide_eq_false hb'
              refine ⟨mm, fs, b20, h20, tk20, rfl, S20, k20, ?_, ⟨f1, f2, f3, f4, f5⟩, f6⟩
              have eg : gapR rows wide left right st2.1 [lo, hi'] = [] := by
                unfold gapR isGap
                rw [show ([lo, hi'] : List Int).getD 0 0 = lo from rfl, decide_eq_false hlo, Bool.false_and, if_neg (by decide)]
              rw [eg, List.append_nil]; exact tf.keep k20
            · rintro s' ⟨m', fs', b20, h20, tk20, rfl, S20, k20, tf', ⟨g1, g2, g3, g4, g5⟩, g6⟩
              have cf : h20.IsCell (L + 1 + 1 + 1) (some (.int st2.1 tfl)) := S20.mem (p := (L + 1 + 1 + 1, .cel (some (.int st2.1 tfl)))) (.tail _ (.tail _ mem4))
              refine wLetC (pre := [_, _, _, _, _, _]) (post := [_, _]) (P1 := IsI (max st2.1 hi')) S20 (yMax2 (Gb.keep (kb19.trans k20)) R1.hd (yCellI cf) (yNameI S20.ns g6) (yBltn (Gb.keep (kb19.trans k20)) (by rfl) bltn_max (by decide))) fun v b21 h21 tk21 e S21 k21 => ?_
              obtain ⟨tm, rfl⟩ := e
              refine wNil (kQ4 m' _ b21 _ ⟨fs', _, _, tm, rfl, ?_, ?_, ⟨g1, g2, g3, g4, g5⟩, kb18.trans (k20.trans k21)⟩ ⟨_, _, rfl⟩ S21)
              · rw [sg]; rfl
              · rw [sg]; exact tf'.keep k21
          · rintro m O' b18 s18 ⟨fs, v4, fl, tfl, rfl, hfl, tf, ⟨m1, m2, m3, m4, m5⟩, kb18⟩ ⟨h18, tk18, rfl⟩ S18
            have hrt : (strips rows high left right).take xs4.toArray.size = strips rows high left right := List.take_of_length_le (by simp; lia)
            rw [hrt] at tf
            refine wNil (kQ3 m _ b18 _ ⟨fs, v4, _, _, rfl, ?_, ⟨m1, m2, m3, m4, m5⟩, ((kb12.trans k14).trans (k15.trans kc16)).trans kb18⟩ ⟨_, _, rfl⟩ S18)
            rw [sc, sc2]; exact tf
        · have hlt : ¬ left < right := of_decide_eq_false hlt
          have sc2 : scan rows wide high left F1 right = F1 := by unfold scan; rw [if_neg hlt]
          refine wNil (kQ3 m _ b14 _ ⟨fs, v4, v3, some (.int right tr), rfl, ?_, ⟨m1, m2, m3, m4, m5⟩, kb12.trans k14⟩ ⟨_, _, rfl⟩ S14)
          rw [sc, sc2]; exact tf.keep k14
      · rintro m O' b12 s12 ⟨fs, v4, v3, v2, rfl, tf, ⟨m1, m2, m3, m4, m5⟩, kb12⟩ ⟨h12, tk12, rfl⟩ S12
        have hrt : (rights rows wide).take rs.toArray.size = rights rows wide := List.take_of_length_le (by simp; lia)
        rw [hrt] at tf
        refine wNil (kQ2 m _ b12 _ ⟨fs, v4, v3, v2, _, rfl, ?_, ⟨m1, m2, m3, m4, m5⟩, kb8.trans (kc9.trans kb12)⟩ ⟨_, _, rfl⟩ S12)
        rw [foldl_take_succ _ _ _ hleft, hF0]
        exact tf
    · rintro m O' b8 s8 ⟨fs, v4, v3, v2, v1, rfl, tf, ⟨m1, m2, m3, m4, m5⟩, kb8⟩ ⟨h8, tk8, rfl⟩ S8
      have hrt : (lefts rows).take ls.toArray.size = lefts rows := List.take_of_length_le (by simp; lia)
      rw [hrt] at tf
      have lfs := tf.length
      have plf : h8.IsList Df fs.toArray := Heap.PlainList.isList (S8.mem (p := (Df, .lst fs.toArray)) mem1)
      have four : ∀ r ∈ founds rows wide high, r.length = 4 := founds_four rows wide high
      refine wRet S8 (P := fun v b' => RowsL b8 (sortR (founds rows wide high)) v b') (yCall1 (P1 := Is (.ref Df)) (yBltn (Gb.keep (kc4.trans kb8)) (by rfl) bltn_sorted (by decide)) kept_bltn (yName S8.ns m5) fun v b0 b1 h1 u1 k0 e => ?_) fun v b' h' tk p S' k => q v b' h' tk ?_ ?_
      · cases e
        refine (ySorted (c := 4) (plf.at fun o e => u1.h _ _ e) (tf.keep u1.b) four (by decide) (by unfold founds at h64; lia)).mono fun v b' k' p => ?_
        obtain ⟨rows', ⟨D', vs', e, pl', tt, nD'⟩, pm, ls⟩ := p
        have er := sortR_eq (c := 4) four pm ls
        rw [er] at tt
        exact ⟨D', vs', e, pl', tt, keep_none u1.b nD'⟩
      · obtain ⟨D', vs', e, pl', tt, nD'⟩ := p
        exact ⟨D', vs', e, pl', tt, keep_none (u.b.trans (kc4.trans kb8)) nD'⟩
      · exact S'.res
end
end Mine
end
noncomputable section
open PySem PySem.W PyProof.Rows PySem.Calls
set_option Elab.async false
set_option linter.unusedVariables false
namespace Mine
def Meets (r q : R4) : Prop := r.y < q.y + q.h ∧ q.y < r.y + r.h ∧ r.x < q.x + q.w ∧ q.x < r.x + r.w
def Ins (a b : R4) : Prop := b.x ≤ a.x ∧ b.y ≤ a.y ∧ a.x + a.w ≤ b.x + b.w ∧ a.y + a.h ≤ b.y + b.h
def Posi (r : R4) : Prop := 0 < r.w ∧ 0 < r.h
structure InBin (W H : Int) (e : R4) : Prop where
  w : 0 < e.w
  h : 0 < e.h
  x0 : 0 ≤ e.x
  y0 : 0 ≤ e.y
  x1 : e.x + e.w ≤ W
  y1 : e.y + e.h ≤ H
structure Free (laid : List R4) (W H : Int) (e : R4) : Prop extends InBin W H e where
  no : ∀ r ∈ laid, ¬ Meets e r
structure Inv (F laid : List R4) (W H : Int) : Prop where
  bin : ∀ r ∈ laid, InBin W H r
  free : ∀ e ∈ F, Free laid W H e
  cov : ∀ e, Free laid W H e → ∃ f ∈ F, Ins e f
  anti : ∀ e ∈ F, ∀ f ∈ F, Ins e f → e = f
  nd : F.Nodup
theorem meets_iff (r q : R4) : R4.meets r q = true ↔ Meets r q := by
  unfold R4.meets Meets
  simp only [Bool.not_eq_true', Bool.or_false, Bool.or_eq_false_iff, decide_eq_false_iff_not, Int.not_le]
theorem has_iff (o i : R4) : R4.has o i = true ↔ Ins i o := by
  unfold R4.has Ins
  simp only [Bool.and_eq_true, decide_eq_true_eq]
  constructor
  · rintro ⟨a, b, c, d⟩; exact ⟨b, a, d, c⟩
  · rintro ⟨a, b, c, d⟩; exact ⟨b, a, d, c⟩
theorem Ins.refl (a : R4) : Ins a a := ⟨Int.le_refl _, Int.le_refl _, Int.le_refl _, Int.le_refl _⟩
theorem Ins.trans {a b c : R4} (x : Ins a b) (y : Ins b c) : Ins a c := ⟨Int.le_trans y.1 x.1, Int.le_trans y.2.1 x.2.1, Int.le_trans x.2.2.1 y.2.2.1, Int.le_trans x.2.2.2 y.2.2.2⟩
theorem R4.ext' {a b : R4} (h1 : a.x = b.x) (h2 : a.y = b.y) (h3 : a.w = b.w) (h4 : a.h = b.h) : a = b := by
  cases a; cases b; simp at *; exact ⟨h1, h2, h3, h4⟩
theorem Ins.antisymm {a b : R4} (x : Ins a b) (y : Ins b a) : a = b := by
  obtain ⟨a1, a2, a3, a4⟩ := x
  obtain ⟨b1, b2, b3, b4⟩ := y
  exact R4.ext' (by lia) (by lia) (by lia) (by lia)
inductive Piece (A r : R4) : R4 → Prop
  | l : A.x < r.x → Piece A r ⟨A.x, A.y, r.x - A.x, A.h⟩
  | r : r.x + r.w < A.x + A.w → Piece A r ⟨r.x + r.w, A.y, A.x + A.w - (r.x + r.w), A.h⟩
  | t : r.y + r.h < A.y + A.h → Piece A r ⟨A.x, r.y + r.h, A.w, A.y + A.h - (r.y + r.h)⟩
  | b : A.y < r.y → Piece A r ⟨A.x, A.y, A.w, r.y - A.y⟩
theorem mem_opt {α : Type} {b : Bool} {x y : α} : y ∈ opt b x ↔ b = true ∧ y = x := by
  cases b <;> simp [opt]
theorem mem_splits {A r p : R4} : p ∈ splits A r ↔ Piece A r p := by
  unfold splits
  simp only [List.mem_append, mem_opt, decide_eq_true_eq]
  constructor
  · rintro (((⟨h, rfl⟩ | ⟨h, rfl⟩) | ⟨h, rfl⟩) | ⟨h, rfl⟩)
    · exact .l h
    · exact .r h
    · exact .t h
    · exact .b h
  · intro h
    cases h with
    | l h => exact .inl (.inl (.inl ⟨h, rfl⟩))
    | r h => exact .inl (.inl (.inr ⟨h, rfl⟩))
    | t h => exact .inl (.inr ⟨h, rfl⟩)
    | b h => exact .inr ⟨h, rfl⟩
theorem mem_cut {A r p : R4} : p ∈ cut r A ↔ (Meets A r ∧ Piece A r p) ∨ (¬ Meets A r ∧ p = A) := by
  unfold cut
  by_cases h : R4.meets A r = true
  · rw [if_pos h, mem_splits]
    have := (meets_iff A r).mp h
    constructor
    · exact fun x => .inl ⟨this, x⟩
    · rintro (⟨_, x⟩ | ⟨n, _⟩)
      · exact x
      · exact absurd this n
  · rw [if_neg h]
    have : ¬ Meets A r := fun x => h ((meets_iff A r).mpr x)
    simp [this]
theorem Piece.ins {A r p : R4} (x : Piece A r p) (m : Meets A r) (hw : 0 < r.w) (hh : 0 < r.h) : Ins p A := by
  obtain ⟨m1, m2, m3, m4⟩ := m
  cases x <;> (unfold Ins; simp only; refine ⟨?_, ?_, ?_, ?_⟩ <;> lia)
theorem Piece.pos {A r p : R4} (x : Piece A r p) (hw : 0 < A.w) (hh : 0 < A.h) : 0 < p.w ∧ 0 < p.h := by
  cases x <;> (simp only; constructor <;> lia)
theorem Piece.off {A r p : R4} (x : Piece A r p) : ¬ Meets p r := by
  rintro ⟨a, b, c, d⟩
  cases x <;> (simp only at a b c d; lia)
theorem Piece.of {A r e : R4} (hw : 0 < e.w) (hh : 0 < e.h) (i : Ins e A) (n : ¬ Meets e r) : ∃ p, Piece A r p ∧ Ins e p := by
  obtain ⟨i1, i2, i3, i4⟩ := i
  unfold Meets at n
  by_cases c1 : e.x + e.w ≤ r.x
  · exact ⟨_, .l (by lia), by unfold Ins; simp only; refine ⟨?_, ?_, ?_, ?_⟩ <;> lia⟩
  · by_cases c2 : r.x + r.w ≤ e.x
    · exact ⟨_, .r (by lia), by unfold Ins; simp only; refine ⟨?_, ?_, ?_, ?_⟩ <;> lia⟩
    · by_cases c3 : r.y + r.h ≤ e.y
      · exact ⟨_, .t (by lia), by unfold Ins; simp only; refine ⟨?_, ?_, ?_, ?_⟩ <;> lia⟩
      · exact ⟨_, .b (by lia), by unfold Ins; simp only; refine ⟨?_, ?_, ?_, ?_⟩ <;> lia⟩
theorem ins_cases {A B : R4} (h1 : A.x = B.x) (h2 : A.y = B.y) (h3 : A.h = B.h) : Ins A B ∨ Ins B A := by
  by_cases c : A.w ≤ B.w
  · exact .inl ⟨by lia, by lia, by lia, by lia⟩
  · exact .inr ⟨by lia, by lia, by lia, by lia⟩
theorem ins_casesR {A B : R4} (h1 : A.x + A.w = B.x + B.w) (h2 : A.y = B.y) (h3 : A.h = B.h) : Ins A B ∨ Ins B A := by
  by_cases c : A.w ≤ B.w
  · exact .inl ⟨by lia, by lia, by lia, by lia⟩
  · exact .inr ⟨by lia, by lia, by lia, by lia⟩
theorem ins_casesB {A B : R4} (h1 : A.x = B.x) (h2 : A.w = B.w) (h3 : A.y = B.y) : Ins A B ∨ Ins B A := by
  by_cases c : A.h ≤ B.h
  · exact .inl ⟨by lia, by lia, by lia, by lia⟩
  · exact .inr ⟨by lia, by lia, by lia, by lia⟩
theorem ins_casesT {A B : R4} (h1 : A.x = B.x) (h2 : A.w = B.w) (h3 : A.y + A.h = B.y + B.h) : Ins A B ∨ Ins B A := by
  by_cases c : A.h ≤ B.h
  · exact .inl ⟨by lia, by lia, by lia, by lia⟩
  · exact .inr ⟨by lia, by lia, by lia, by lia⟩
theorem cut_ne {A B r p : R4} (ha : ¬ Ins A B) (hb : ¬ Ins B A) (hw : 0 < r.w) (hh : 0 < r.h) (x : p ∈ cut r A) (y : p ∈ cut r B) : False := by
  rcases mem_cut.mp x with ⟨mA, pA⟩ | ⟨nA, rfl⟩
  · rcases mem_cut.mp y with ⟨mB, pB⟩ | ⟨nB, rfl⟩
    · have no : ¬ (Ins A B ∨ Ins B A) := fun h => h.elim ha hb
      obtain ⟨a1, a2, a3, a4⟩ := mA
      obtain ⟨b1, b2, b3, b4⟩ := mB
      generalize e : p = q at pB
      cases pA <;> cases pB <;> (rw [R4.mk.injEq] at e; obtain ⟨e1, e2, e3, e4⟩ := e)
      all_goals first
        | lia
        | exact no (ins_cases (by lia) (by lia) (by lia))
        | exact no (ins_casesR (by lia) (by lia) (by lia))
        | exact no (ins_casesB (by lia) (by lia) (by lia))
        | exact no (ins_casesT (by lia) (by lia) (by lia))
    · exact hb (pA.ins mA hw hh)
  · rcases mem_cut.mp y with ⟨mB, pB⟩ | ⟨nB, rfl⟩
    · exact ha (pB.ins mB hw hh)
    · exact ha (.refl _)
theorem cut_nodup {A r : R4} (hw : 0 < r.w) (hh : 0 < r.h) : (cut r A).Nodup := by
  unfold cut
  split
  · rename_i h
    obtain ⟨m1, m2, m3, m4⟩ := (meets_iff A r).mp h
    unfold splits
    unfold List.Nodup
    rw [List.pairwise_append, List.pairwise_append, List.pairwise_append]
    have one : ∀ (b : Bool) (x : R4), (opt b x).Pairwise (· ≠ ·) := fun b x => by cases b <;> simp [opt]
    refine ⟨⟨⟨one _ _, one _ _, ?_⟩, one _ _, ?_⟩, one _ _, ?_⟩
    · intro a ha b hb e
      rw [mem_opt] at ha hb
      obtain ⟨ha, rfl⟩ := ha
      obtain ⟨hb, rfl⟩ := hb
      rw [R4.mk.injEq] at e
      lia
    · intro a ha b hb e
      rw [List.mem_append, mem_opt, mem_opt] at ha
      rw [mem_opt] at hb
      obtain ⟨hb, rfl⟩ := hb
      have hb := of_decide_eq_true hb
      rcases ha with ⟨ha, rfl⟩ | ⟨ha, rfl⟩ <;> (have ha := of_decide_eq_true ha; rw [R4.mk.injEq] at e; lia)
    · intro a ha b hb e
      rw [List.mem_append, List.mem_append, mem_opt, mem_opt, mem_opt] at ha
      rw [mem_opt] at hb
      obtain ⟨hb, rfl⟩ := hb
      have hb := of_decide_eq_true hb
      rcases ha with (⟨ha, rfl⟩ | ⟨ha, rfl⟩) | ⟨ha, rfl⟩ <;> (have ha := of_decide_eq_true ha; rw [R4.mk.injEq] at e; lia)
  · simp
theorem getD_inj {rs : List R4} (nd : rs.Nodup) {i j : Nat} (hi : i < rs.length) (hj : j < rs.length) (e : rs.getD i z4 = rs.getD j z4) : i = j := by
  have e1 : rs.getD i z4 = rs[i] := by simp [List.getD_eq_getElem?_getD, hi]
  have e2 : rs.getD j z4 = rs[j] := by simp [List.getD_eq_getElem?_getD, hj]
  rw [e1, e2] at e
  exact (List.getElem_inj nd).mp e
theorem mem_pairs {rs : List R4} {p : R4 × R4} : p ∈ pairsTo rs rs.length ↔ ∃ i j, i < j ∧ j < rs.length ∧ p = (rs.getD i z4, rs.getD j z4) := by
  unfold pairsTo rowTo
  simp only [List.mem_flatMap, List.mem_range, List.mem_map]
  constructor
  · rintro ⟨i, hi, k, hk, rfl⟩
    exact ⟨i, i + 1 + k, by lia, by lia, rfl⟩
  · rintro ⟨i, j, h1, h2, rfl⟩
    exact ⟨i, by lia, j - (i + 1), by lia, by rw [show i + 1 + (j - (i + 1)) = j by lia]⟩
theorem mem_idx {rs : List R4} {q : R4} (h : q ∈ rs) : ∃ i, i < rs.length ∧ rs.getD i z4 = q := by
  obtain ⟨i, hi, e⟩ := List.mem_iff_getElem.mp h
  exact ⟨i, hi, by simp [List.getD_eq_getElem?_getD, hi, e]⟩
theorem r4_getD_mem {rs : List R4} {i : Nat} (h : i < rs.length) : rs.getD i z4 ∈ rs := by
  have : rs.getD i z4 = rs[i] := by simp [List.getD_eq_getElem?_getD, h]
  rw [this]; exact List.getElem_mem h
theorem mem_dups {rs : List R4} (nd : rs.Nodup) {q : R4} (hq : q ∈ rs) : q ∈ dups rs ↔ ∃ p ∈ rs, p ≠ q ∧ Ins q p := by
  unfold dups
  rw [List.mem_flatMap]
  constructor
  · rintro ⟨pr, hp, hd⟩
    obtain ⟨i, j, h1, h2, rfl⟩ := mem_pairs.mp hp
    have ne : rs.getD i z4 ≠ rs.getD j z4 := fun e => by have := getD_inj nd (by lia) h2 e; lia
    unfold dup at hd
    split at hd
    · rename_i h
      simp at hd
      subst hd
      refine ⟨_, r4_getD_mem (i := i) (by lia), ?_, (has_iff _ _).mp h⟩
      simpa [List.getD_eq_getElem?_getD] using ne
    · split at hd
      · rename_i h
        simp at hd
        subst hd
        refine ⟨_, r4_getD_mem (i := j) h2, ?_, (has_iff _ _).mp h⟩
        simpa [List.getD_eq_getElem?_getD] using ne.symm
      · cases hd
  · rintro ⟨p, hp, ne, i⟩
    obtain ⟨a, ha, rfl⟩ := mem_idx hp
    obtain ⟨b, hb, rfl⟩ := mem_idx hq
    have nab : a ≠ b := fun e => ne (by rw [e])
    rcases Nat.lt_or_gt_of_ne nab with lt | gt
    · refine ⟨_, mem_pairs.mpr ⟨a, b, lt, hb, rfl⟩, ?_⟩
      unfold dup
      rw [if_pos ((has_iff _ _).mpr i)]; simp
    · refine ⟨_, mem_pairs.mpr ⟨b, a, gt, ha, rfl⟩, ?_⟩
      unfold dup
      have n : ¬ R4.has (rs.getD b z4) (rs.getD a z4) = true := fun h => ne (((has_iff _ _).mp h).antisymm i)
      rw [if_neg n, if_pos ((has_iff _ _).mpr i)]; simp
theorem mem_prune {rs : List R4} (nd : rs.Nodup) {q : R4} : q ∈ prune rs ↔ q ∈ rs ∧ ∀ p ∈ rs, Ins q p → p = q := by
  unfold prune
  rw [List.mem_filter]
  constructor
  · rintro ⟨hq, h⟩
    refine ⟨hq, fun p hp i => ?_⟩
    by_cases e : p = q
    · exact e
    · exfalso
      have := (mem_dups nd hq).mpr ⟨p, hp, e, i⟩
      simp at h
      exact h _ this rfl
  · rintro ⟨hq, h⟩
    refine ⟨hq, ?_⟩
    simp
    rintro m hm rfl
    obtain ⟨p, hp, ne, i⟩ := (mem_dups nd hq).mp hm
    exact ne (h p hp i)
theorem climb {rs : List R4} {W H : Int} (nd : rs.Nodup) (hb : ∀ q ∈ rs, InBin W H q) : ∀ (n : Nat) (q : R4), q ∈ rs → W + H - (q.w + q.h) ≤ n → ∃ p ∈ prune rs, Ins q p
  | n, q, hq, hn => by
    by_cases m : q ∈ prune rs
    · exact ⟨q, m, .refl _⟩
    · rw [mem_prune nd] at m
      obtain ⟨p, hp, i, ne⟩ : ∃ p ∈ rs, Ins q p ∧ p ≠ q := by
        apply Classical.byContradiction
        intro c
        exact m ⟨hq, fun p hp i => Classical.byContradiction fun ne => c ⟨p, hp, i, ne⟩⟩
      have bp := hb p hp
      have bq := hb q hq
      have big : q.w + q.h < p.w + p.h := by
        obtain ⟨i1, i2, i3, i4⟩ := i
        apply Classical.byContradiction
        intro c
        exact ne (R4.ext' (by lia) (by lia) (by lia) (by lia))
      match n, hn with
      | 0, hn =>
        exfalso
        have := bp.x1; have := bp.x0; have := bp.y0; have := bp.y1
        lia
      | n + 1, hn =>
        obtain ⟨p', hp', i'⟩ := climb nd hb n p hp (by lia)
        exact ⟨p', hp', i.trans i'⟩
theorem Inv.step {F laid : List R4} {W H : Int} {r f : R4} (I : Inv F laid W H) (hf : f ∈ F) (hi : Ins r f) (hw : 0 < r.w) (hh : 0 < r.h) : Inv (prune (F.flatMap (cut r))) (laid ++ [r]) W H := by
  have ff := I.free f hf
  have hbin : InBin W H r := ⟨hw, hh, by have := hi.1; have := ff.x0; lia, by have := hi.2.1; have := ff.y0; lia, by have := hi.2.2.1; have := ff.x1; lia, by have := hi.2.2.2; have := ff.y1; lia⟩
  have hG : ∀ p ∈ F.flatMap (cut r), Free (laid ++ [r]) W H p := fun p hp => by
    obtain ⟨A, hA, hp⟩ := List.mem_flatMap.mp hp
    have fA := I.free A hA
    have key : Ins p A ∧ (0 < p.w ∧ 0 < p.h) ∧ ¬ Meets p r := by
      rcases mem_cut.mp hp with ⟨m, x⟩ | ⟨n, rfl⟩
      · exact ⟨x.ins m hw hh, x.pos fA.w fA.h, x.off⟩
      · exact ⟨.refl _, ⟨fA.w, fA.h⟩, n⟩
    obtain ⟨⟨i1, i2, i3, i4⟩, ⟨p1, p2⟩, no⟩ := key
    refine ⟨⟨p1, p2, ?_, ?_, ?_, ?_⟩, fun q hq => ?_⟩
    · have := fA.x0; lia
    · have := fA.y0; lia
    · have := fA.x1; lia
    · have := fA.y1; lia
    · rcases List.mem_append.mp hq with hq | hq
      · rintro ⟨m1, m2, m3, m4⟩
        exact fA.no q hq ⟨by lia, by lia, by lia, by lia⟩
      · simp at hq; subst hq; exact no
  have nd : (F.flatMap (cut r)).Nodup := by
    unfold List.Nodup
    rw [List.pairwise_flatMap]
    refine ⟨fun A hA => cut_nodup hw hh, ?_⟩
    refine I.nd.imp_of_mem fun {A B} hA hB ne x hx y hy e => ?_
    subst e
    exact cut_ne (fun i => ne (I.anti A hA B hB i)) (fun i => ne (I.anti B hB A hA i).symm) hw hh hx hy
  refine ⟨fun q hq => ?_, fun e he => hG e (mem_prune nd |>.mp he).1, fun e he => ?_, fun e he f' hf' i => ?_, nd.filter _⟩
  · rcases List.mem_append.mp hq with hq | hq
    · exact I.bin q hq
    · simp at hq; subst hq; exact hbin
  · have fe : Free laid W H e := ⟨he.toInBin, fun q hq => he.no q (List.mem_append_left _ hq)⟩
    obtain ⟨A, hA, i⟩ := I.cov e fe
    obtain ⟨p, hp, ip⟩ : ∃ p ∈ cut r A, Ins e p := by
      by_cases m : Meets A r
      · obtain ⟨p, hp, ip⟩ := Piece.of he.w he.h i (he.no r (by simp))
        exact ⟨p, mem_cut.mpr (.inl ⟨m, hp⟩), ip⟩
      · exact ⟨A, mem_cut.mpr (.inr ⟨m, rfl⟩), i⟩
    have hpG : p ∈ F.flatMap (cut r) := List.mem_flatMap.mpr ⟨A, hA, hp⟩
    obtain ⟨p', hp', i'⟩ := climb nd (fun q hq => (hG q hq).toInBin) (W + H - (p.w + p.h)).toNat p hpG (Int.self_le_toNat _)
    exact ⟨p', hp', ip.trans i'⟩
  · exact ((mem_prune nd).mp he).2 f' ((mem_prune nd).mp hf').1 i |>.symm
theorem Inv.start {W H : Int} (hW : 0 < W) (hH : 0 < H) : Inv [⟨0, 0, W, H⟩] [] W H := by
  refine ⟨fun _ m => (by cases m), fun e m => ?_, fun e he => ⟨_, .head _, ?_⟩, fun e m f m' _ => ?_, by simp⟩
  · simp at m; subst m
    exact ⟨⟨hW, hH, Int.le_refl _, Int.le_refl _, by simp, by simp⟩, fun _ m => (by cases m)⟩
  · exact ⟨he.x0, he.y0, by have := he.x1; simp; lia, by have := he.y1; simp; lia⟩
  · simp at m m'; rw [m, m']
structure Sup (laid : List R4) (W H : Int) (e : R4) : Prop extends Free laid W H e where
  l : e.x = 0 ∨ ∃ r ∈ laid, r.x + r.w = e.x ∧ r.y < e.y + e.h ∧ e.y < r.y + r.h
  r : e.x + e.w = W ∨ ∃ r ∈ laid, r.x = e.x + e.w ∧ r.y < e.y + e.h ∧ e.y < r.y + r.h
  b : e.y = 0 ∨ ∃ r ∈ laid, r.y + r.h = e.y ∧ r.x < e.x + e.w ∧ e.x < r.x + r.w
  t : e.y + e.h = H ∨ ∃ r ∈ laid, r.y = e.y + e.h ∧ r.x < e.x + e.w ∧ e.x < r.x + r.w
theorem Sup.max {laid : List R4} {W H : Int} {e f : R4} (hb : ∀ r ∈ laid, InBin W H r) (s : Sup laid W H e) (hf : Free laid W H f) (i : Ins e f) : e = f := by
  obtain ⟨i1, i2, i3, i4⟩ := i
  have ew := s.w; have eh := s.h
  have fx := hf.x0; have fy := hf.y0; have fx1 := hf.x1; have fy1 := hf.y1
  have no : ∀ r ∈ laid, InBin W H r ∧ ¬ Meets f r := fun r hr => ⟨hb r hr, hf.no r hr⟩
  have hx : e.x = f.x := by
    rcases s.l with h | ⟨r, hr, h1, h2, h3⟩
    · lia
    · obtain ⟨br, n⟩ := no r hr
      have := br.w
      apply Classical.byContradiction; intro c
      exact n ⟨by lia, by lia, by lia, by lia⟩
  have hx1 : e.x + e.w = f.x + f.w := by
    rcases s.r with h | ⟨r, hr, h1, h2, h3⟩
    · lia
    · obtain ⟨br, n⟩ := no r hr
      have := br.w
      apply Classical.byContradiction; intro c
      exact n ⟨by lia, by lia, by lia, by lia⟩
  have hy : e.y = f.y := by
    rcases s.b with h | ⟨r, hr, h1, h2, h3⟩
    · lia
    · obtain ⟨br, n⟩ := no r hr
      have := br.h
      apply Classical.byContradiction; intro c
      exact n ⟨by lia, by lia, by lia, by lia⟩
  have hy1 : e.y + e.h = f.y + f.h := by
    rcases s.t with h | ⟨r, hr, h1, h2, h3⟩
    · lia
    · obtain ⟨br, n⟩ := no r hr
      have := br.h
      apply Classical.byContradiction; intro c
      exact n ⟨by lia, by lia, by lia, by lia⟩
  exact R4.ext' hx hy (by lia) (by lia)
theorem Inv.mem {F laid : List R4} {W H : Int} (I : Inv F laid W H) {e : R4} : e ∈ F ↔ Sup laid W H e := by
  constructor
  · intro he
    have fe := I.free e he
    have b := fe.toInBin
    have grow : ∀ e' : R4, Ins e e' → e ≠ e' → ¬ Free laid W H e' := fun e' i ne f' => by
      obtain ⟨g, hg, i'⟩ := I.cov e' f'
      have := I.anti e he g hg (i.trans i')
      subst this
      exact ne (i.antisymm i')
    have bw := b.w; have bh := b.h; have bx := b.x0; have by_ := b.y0; have bx1 := b.x1; have by1 := b.y1
    refine ⟨fe, ?_, ?_, ?_, ?_⟩
    · apply Classical.byContradiction; intro c
      refine grow ⟨e.x - 1, e.y, e.w + 1, e.h⟩ ⟨by simp only; lia, by simp only; lia, by simp only; lia, by simp only; lia⟩ (fun q => by have := congrArg R4.x q; simp only at this; lia) ⟨⟨by simp only; lia, bh, ?_, by_, by simp only; lia, by1⟩, fun r hr m => ?_⟩
      · simp only
        have : e.x ≠ 0 := fun q => c (.inl q)
        lia
      · obtain ⟨m1, m2, m3, m4⟩ := m
        simp only at m1 m2 m3 m4
        have n := fe.no r hr
        unfold Meets at n
        exact c (.inr ⟨r, hr, by lia, m2, m1⟩)
    · apply Classical.byContradiction; intro c
      refine grow ⟨e.x, e.y, e.w + 1, e.h⟩ ⟨by simp only; lia, by simp only; lia, by simp only; lia, by simp only; lia⟩ (fun q => by have := congrArg R4.w q; simp only at this; lia) ⟨⟨by simp only; lia, bh, bx, by_, ?_, by1⟩, fun r hr m => ?_⟩
      · simp only
        have : e.x + e.w ≠ W := fun q => c (.inl q)
        lia
      · obtain ⟨m1, m2, m3, m4⟩ := m
        simp only at m1 m2 m3 m4
        have n := fe.no r hr
        unfold Meets at n
        exact c (.inr ⟨r, hr, by lia, m2, m1⟩)
    · apply Classical.byContradiction; intro c
      refine grow ⟨e.x, e.y - 1, e.w, e.h + 1⟩ ⟨by simp only; lia, by simp only; lia, by simp only; lia, by simp only; lia⟩ (fun q => by have := congrArg R4.y q; simp only at this; lia) ⟨⟨bw, by simp only; lia, bx, ?_, bx1, by simp only; lia⟩, fun r hr m => ?_⟩
      · simp only
        have : e.y ≠ 0 := fun q => c (.inl q)
        lia
      · obtain ⟨m1, m2, m3, m4⟩ := m
        simp only at m1 m2 m3 m4
        have n := fe.no r hr
        unfold Meets at n
        exact c (.inr ⟨r, hr, by lia, m4, m3⟩)
    · apply Classical.byContradiction; intro c
      refine grow ⟨e.x, e.y, e.w, e.h + 1⟩ ⟨by simp only; lia, by simp only; lia, by simp only; lia, by simp only; lia⟩ (fun q => by have := congrArg R4.h q; simp only at this; lia) ⟨⟨bw, by simp only; lia, bx, by_, bx1, ?_⟩, fun r hr m => ?_⟩
      · simp only
        have : e.y + e.h ≠ H := fun q => c (.inl q)
        lia
      · obtain ⟨m1, m2, m3, m4⟩ := m
        simp only at m1 m2 m3 m4
        have n := fe.no r hr
        unfold Meets at n
        exact c (.inr ⟨r, hr, by lia, m4, m3⟩)
  · intro s
    obtain ⟨f, hf, i⟩ := I.cov e s.toFree
    have := s.max I.bin (I.free f hf) i
    subst this; exact hf
end Mine
end
noncomputable section
open PySem PySem.W PyProof.Rows PySem.Calls
set_option Elab.async false
set_option linter.unusedVariables false
namespace Mine
noncomputable def gl (rows : List R4) (wide left right : Int) : Int → List (List Int) → List (List Int)
  | _, [] => []
  | fl, p :: ps => gapR rows wide left right fl p ++ gl rows wide left right (gapF fl p) ps
theorem gl_fold (rows : List R4) (wide left right : Int) : ∀ (ps : List (List Int)) (st : Int × List (List Int)), (ps.foldl (gap rows wide left right) st).2 = st.2 ++ gl rows wide left right st.1 ps
  | [], st => by simp [gl]
  | p :: ps, st => by
    rw [List.foldl_cons, gl_fold rows wide left right ps]
    simp [gap, gl, List.append_assoc]
def gaps (rows : List R4) (wide high left right : Int) : List (List Int) := if left < right then gl rows wide left right 0 (strips rows high left right) else []
theorem scan_eq (rows : List R4) (wide high left : Int) (f : List (List Int)) (right : Int) : scan rows wide high left f right = f ++ gaps rows wide high left right := by
  unfold scan gaps
  split
  · rw [gl_fold]
  · simp
theorem foldl_app {α β : Type} {g : List β → α → List β} {k : α → List β} (h : ∀ f a, g f a = f ++ k a) : ∀ (l : List α) (f : List β), l.foldl g f = f ++ l.flatMap k
  | [], f => by simp
  | a :: l, f => by rw [List.foldl_cons, foldl_app h l, h, List.flatMap_cons, List.append_assoc]
theorem founds_eq (rows : List R4) (wide high : Int) : founds rows wide high = (lefts rows).flatMap fun l => (rights rows wide).flatMap fun r => gaps rows wide high l r := by
  unfold founds
  rw [foldl_app (k := fun l => (rights rows wide).flatMap fun r => gaps rows wide high l r) (fun f l => ?_)]
  · simp
  · unfold scanL
    exact foldl_app (fun f r => scan_eq rows wide high l f r) _ _
theorem mem_addAll {α : Type} (k : α → Int) : ∀ (l : List α) (f : List Int) (x : Int), x ∈ l.foldl (fun a r => if a.any (· == k r) then a else a ++ [k r]) f ↔ x ∈ f ∨ ∃ r ∈ l, k r = x
  | [], f, x => by simp
  | r :: l, f, x => by
    rw [List.foldl_cons, mem_addAll k l]
    split
    · rename_i h
      have : k r ∈ f := by simpa using h
      constructor
      · rintro (h | ⟨q, hq, e⟩)
        · exact .inl h
        · exact .inr ⟨q, .tail _ hq, e⟩
      · rintro (h | ⟨q, hq, e⟩)
        · exact .inl h
        · rcases List.mem_cons.mp hq with rfl | hq
          · subst e; exact .inl this
          · exact .inr ⟨q, hq, e⟩
    · simp only [List.mem_append, List.mem_singleton]
      constructor
      · rintro ((h | e) | ⟨q, hq, e⟩)
        · exact .inl h
        · exact .inr ⟨r, .head _, e.symm⟩
        · exact .inr ⟨q, .tail _ hq, e⟩
      · rintro (h | ⟨q, hq, e⟩)
        · exact .inl (.inl h)
        · rcases List.mem_cons.mp hq with rfl | hq
          · exact .inl (.inr e.symm)
          · exact .inr ⟨q, hq, e⟩
theorem nd_addAll {α : Type} (k : α → Int) : ∀ (l : List α) (f : List Int), f.Nodup → (l.foldl (fun a r => if a.any (· == k r) then a else a ++ [k r]) f).Nodup
  | [], f, h => h
  | r :: l, f, h => by
    rw [List.foldl_cons]
    refine nd_addAll k l _ ?_
    split
    · exact h
    · rename_i c
      rw [List.nodup_append]
      refine ⟨h, by simp, fun a ha b hb e => ?_⟩
      simp at hb
      subst hb; subst e
      exact c (by simpa using ha)
theorem mem_lefts {rows : List R4} {x : Int} : x ∈ lefts rows ↔ x = 0 ∨ ∃ r ∈ rows, r.x + r.w = x := by
  unfold lefts; rw [mem_addAll fun r : R4 => r.x + r.w]; simp
theorem mem_rights {rows : List R4} {wide x : Int} : x ∈ rights rows wide ↔ x = wide ∨ ∃ r ∈ rows, r.x = x := by
  unfold rights; rw [mem_addAll fun r : R4 => r.x]; simp
structure InGap (fl : Int) (ps : List (Int × Int)) (f l : Int) : Prop where
  lo : f = fl ∨ ∃ p ∈ ps, p.2 = f
  ge : fl ≤ f
  hi : ∃ p ∈ ps, p.1 = l
  lt : f < l
  no : ∀ p ∈ ps, p.2 ≤ f ∨ l ≤ p.1
theorem inGap_cons {fl : Int} {p : Int × Int} {ps : List (Int × Int)} {f l : Int} (hs : ∀ q ∈ ps, p.1 ≤ q.1) (hp : ∀ q ∈ p :: ps, q.1 ≤ q.2) : InGap fl (p :: ps) f l ↔ (f = fl ∧ l = p.1 ∧ fl < p.1) ∨ InGap (max fl p.2) ps f l := by
  constructor
  · rintro ⟨lo, ge, ⟨a, ha, hl⟩, lt, no⟩
    have pp := hp p (.head _)
    rcases no p (.head _) with h | h
    · right
      refine ⟨?_, by lia, ?_, lt, fun q hq => no q (.tail _ hq)⟩
      · rcases lo with e | ⟨q, hq, e⟩
        · left; lia
        · rcases List.mem_cons.mp hq with rfl | hq
          · left; lia
          · exact .inr ⟨q, hq, e⟩
      · rcases List.mem_cons.mp ha with rfl | ha
        · lia
        · exact ⟨a, ha, hl⟩
    · left
      have el : l = p.1 := by
        rcases List.mem_cons.mp ha with rfl | ha
        · exact hl.symm
        · have := hs a ha; lia
      refine ⟨?_, el, by lia⟩
      rcases lo with e | ⟨q, hq, e⟩
      · exact e
      · exfalso
        have h1 := hp q hq
        rcases List.mem_cons.mp hq with rfl | hq
        · lia
        · have := hs q hq; lia
  · rintro (⟨rfl, rfl, h⟩ | ⟨lo, ge, ⟨a, ha, hl⟩, lt, no⟩)
    · exact ⟨.inl rfl, Int.le_refl _, ⟨p, .head _, rfl⟩, h, fun q hq => .inr (by
        rcases List.mem_cons.mp hq with rfl | hq
        · exact Int.le_refl _
        · exact hs q hq)⟩
    · refine ⟨?_, by lia, ⟨a, .tail _ ha, hl⟩, lt, fun q hq => ?_⟩
      · rcases lo with e | ⟨q, hq, e⟩
        · by_cases c : fl ≤ p.2
          · exact .inr ⟨p, .head _, by lia⟩
          · left; lia
        · exact .inr ⟨q, .tail _ hq, e⟩
      · rcases List.mem_cons.mp hq with rfl | hq
        · left; lia
        · exact no q hq
def two (p : Int × Int) : List Int := [p.1, p.2]
def supp (rows : List R4) (wide left right f l : Int) : Bool := (left == 0 || rows.any (atLeft left f l)) && (right == wide || rows.any (atRight right f l))
theorem mem_gl (rows : List R4) (wide left right : Int) : ∀ (ps : List (Int × Int)) (fl : Int) (x : List Int), ps.Pairwise (fun a b => a.1 ≤ b.1) → (∀ q ∈ ps, q.1 ≤ q.2) →
    (x ∈ gl rows wide left right fl (ps.map two) ↔ ∃ f l, InGap fl ps f l ∧ supp rows wide left right f l = true ∧ x = [left, f, right - left, l - f])
  | [], fl, x, _, _ => by
    simp only [List.map_nil, gl, List.not_mem_nil, false_iff]
    rintro ⟨f, l, ⟨_, _, ⟨_, h, _⟩, _, _⟩, _⟩
    cases h
  | p :: ps, fl, x, hs, hp => by
    obtain ⟨h1, h2⟩ := List.pairwise_cons.mp hs
    simp only [List.map_cons, gl, List.mem_append]
    have ef : gapF fl (two p) = max fl p.2 := rfl
    rw [ef, mem_gl rows wide left right ps _ x h2 (fun q hq => hp q (.tail _ hq))]
    have eg : x ∈ gapR rows wide left right fl (two p) ↔ (fl < p.1 ∧ supp rows wide left right fl p.1 = true) ∧ x = [left, fl, right - left, p.1 - fl] := by
      unfold gapR isGap
      have e0 : (two p).getD 0 0 = p.1 := rfl
      rw [e0]
      by_cases c : (decide (fl < p.1) && ((left == 0 || rows.any (atLeft left fl p.1)) && (right == wide || rows.any (atRight right fl p.1)))) = true
      · rw [if_pos c]
        rw [Bool.and_eq_true, decide_eq_true_eq] at c
        simp only [List.mem_singleton]
        exact ⟨fun h => ⟨c, h⟩, fun h => h.2⟩
      · rw [if_neg c]
        rw [Bool.and_eq_true, decide_eq_true_eq] at c
        simp only [List.not_mem_nil, false_iff]
        exact fun h => c h.1
    rw [eg]
    constructor
    · rintro (⟨⟨a, b⟩, e⟩ | ⟨f, l, ig, su, e⟩)
      · exact ⟨fl, p.1, (inGap_cons h1 hp).mpr (.inl ⟨rfl, rfl, a⟩), b, e⟩
      · exact ⟨f, l, (inGap_cons h1 hp).mpr (.inr ig), su, e⟩
    · rintro ⟨f, l, ig, su, e⟩
      rcases (inGap_cons h1 hp).mp ig with ⟨rfl, rfl, a⟩ | ig
      · exact .inl ⟨⟨a, su⟩, e⟩
      · exact .inr ⟨f, l, ig, su, e⟩
theorem nd_gl (rows : List R4) (wide left right : Int) : ∀ (ps : List (Int × Int)) (fl : Int), ps.Pairwise (fun a b => a.1 ≤ b.1) → (∀ q ∈ ps, q.1 ≤ q.2) → (gl rows wide left right fl (ps.map two)).Nodup
  | [], fl, _, _ => by simp [gl]
  | p :: ps, fl, hs, hp => by
    obtain ⟨h1, h2⟩ := List.pairwise_cons.mp hs
    have pp := hp p (.head _)
    have hp' : ∀ q ∈ ps, q.1 ≤ q.2 := fun q hq => hp q (.tail _ hq)
    simp only [List.map_cons, gl]
    rw [List.nodup_append]
    refine ⟨?_, nd_gl rows wide left right ps _ h2 hp', fun a ha b hb e => ?_⟩
    · unfold gapR; split <;> simp
    · subst e
      have ef : gapF fl (two p) = max fl p.2 := rfl
      rw [ef, mem_gl rows wide left right ps _ a h2 hp'] at hb
      obtain ⟨f, l, ig, _, e⟩ := hb
      unfold gapR at ha
      split at ha
      · rename_i c
        simp only [List.mem_singleton] at ha
        rw [ha] at e
        unfold isGap at c
        rw [Bool.and_eq_true, decide_eq_true_eq] at c
        have e0 : (two p).getD 0 0 = p.1 := rfl
        rw [e0] at c e
        have e1 : fl = f := by simp at e; exact e.1
        have := ig.ge
        lia
      · cases ha
theorem lexLt_two {a b : Int × Int} (h : lexLt (two b) (two a) = false) : a.1 ≤ b.1 := by
  apply Classical.byContradiction
  intro c
  have : b.1 < a.1 := by lia
  simp [two, lexLt, this] at h
theorem strips_spans {rows : List R4} {W H left right : Int} (hb : ∀ r ∈ rows, InBin W H r) : ∃ ps : List (Int × Int), strips rows H left right = ps.map two ∧ ps.Pairwise (fun a b => a.1 ≤ b.1) ∧ (∀ q ∈ ps, q.1 ≤ q.2) ∧
    ∀ q, q ∈ ps ↔ q = (H, H) ∨ ∃ r ∈ rows, r.x < right ∧ left < r.x + r.w ∧ q = (r.y, r.y + r.h) := by
  have hall : ∀ x ∈ sortR (strip rows left right), ∃ r ∈ rows, (r.x < right ∧ left < r.x + r.w) ∧ x = two (r.y, r.y + r.h) := fun x hx => by
    have := (sortR_perm _).mem_iff.mp hx
    unfold strip at this
    obtain ⟨r, hr, rfl⟩ := List.mem_map.mp this
    rw [List.mem_filter] at hr
    unfold inStrip at hr
    rw [Bool.and_eq_true, decide_eq_true_eq, decide_eq_true_eq] at hr
    exact ⟨r, hr.1, hr.2, rfl⟩
  obtain ⟨ps, e⟩ : ∃ ps : List (Int × Int), sortR (strip rows left right) = ps.map two := by
    refine ⟨(sortR (strip rows left right)).map fun x => (x.getD 0 0, x.getD 1 0), ?_⟩
    rw [List.map_map]
    conv => lhs; rw [← List.map_id (sortR (strip rows left right))]
    refine List.map_congr_left fun x hx => ?_
    obtain ⟨r, _, _, rfl⟩ := hall x hx
    rfl
  have inj : ∀ a b : Int × Int, two a = two b → a = b := fun a b e => by
    obtain ⟨a1, a2⟩ := a; obtain ⟨b1, b2⟩ := b
    simp [two] at e; simp [e]
  have hmem : ∀ q, q ∈ ps ↔ ∃ r ∈ rows, r.x < right ∧ left < r.x + r.w ∧ q = (r.y, r.y + r.h) := fun q => by
    constructor
    · intro hq
      have : two q ∈ sortR (strip rows left right) := by rw [e]; exact List.mem_map_of_mem hq
      obtain ⟨r, h1, ⟨h2, h3⟩, h4⟩ := hall _ this
      exact ⟨r, h1, h2, h3, inj _ _ h4⟩
    · rintro ⟨r, h1, h2, h3, rfl⟩
      have : two (r.y, r.y + r.h) ∈ sortR (strip rows left right) := by
        rw [(sortR_perm _).mem_iff]
        unfold strip
        refine List.mem_map.mpr ⟨r, List.mem_filter.mpr ⟨h1, ?_⟩, rfl⟩
        unfold inStrip
        rw [Bool.and_eq_true, decide_eq_true_eq, decide_eq_true_eq]; exact ⟨h2, h3⟩
      rw [e] at this
      obtain ⟨q, hq, e'⟩ := List.mem_map.mp this
      rw [← inj _ _ e']; exact hq
  refine ⟨ps ++ [(H, H)], ?_, ?_, fun q hq => ?_, fun q => ?_⟩
  · unfold strips; rw [e, List.map_append]; rfl
  · rw [List.pairwise_append]
    refine ⟨?_, by simp, fun a ha b hb' => ?_⟩
    · have := sortR_asc (strip rows left right)
      unfold LexS at this
      rw [e, List.pairwise_map] at this
      exact this.imp fun {a b} h => lexLt_two h
    · simp at hb'; subst hb'
      obtain ⟨r, h1, _, _, rfl⟩ := (hmem a).mp ha
      have b := hb r h1
      have := b.y1; have := b.h
      show r.y ≤ H
      lia
  · rcases List.mem_append.mp hq with hq | hq
    · obtain ⟨r, h1, _, _, rfl⟩ := (hmem q).mp hq
      have := (hb r h1).h
      show r.y ≤ r.y + r.h
      lia
    · simp at hq; subst hq; exact Int.le_refl _
  · rw [List.mem_append, hmem]
    simp only [List.mem_singleton]
    exact ⟨fun h => h.elim .inr .inl, fun h => h.elim .inr .inl⟩
theorem any_atLeft {rows : List R4} {left f l : Int} : rows.any (atLeft left f l) = true ↔ ∃ r ∈ rows, r.x + r.w = left ∧ r.y < l ∧ f < r.y + r.h := by
  rw [List.any_eq_true]
  constructor
  · rintro ⟨r, hr, h⟩; refine ⟨r, hr, ?_⟩; simpa [atLeft] using h
  · rintro ⟨r, hr, h⟩; refine ⟨r, hr, ?_⟩; simpa [atLeft] using h
theorem any_atRight {rows : List R4} {right f l : Int} : rows.any (atRight right f l) = true ↔ ∃ r ∈ rows, r.x = right ∧ r.y < l ∧ f < r.y + r.h := by
  rw [List.any_eq_true]
  constructor
  · rintro ⟨r, hr, h⟩; refine ⟨r, hr, ?_⟩; simpa [atRight] using h
  · rintro ⟨r, hr, h⟩; refine ⟨r, hr, ?_⟩; simpa [atRight] using h
theorem supp_iff {rows : List R4} {wide left right f l : Int} : supp rows wide left right f l = true ↔ (left = 0 ∨ ∃ r ∈ rows, r.x + r.w = left ∧ r.y < l ∧ f < r.y + r.h) ∧ (right = wide ∨ ∃ r ∈ rows, r.x = right ∧ r.y < l ∧ f < r.y + r.h) := by
  unfold supp
  rw [Bool.and_eq_true, Bool.or_eq_true, Bool.or_eq_true, any_atLeft, any_atRight]
  simp
theorem mem_founds {rows : List R4} {W H : Int} (hb : ∀ r ∈ rows, InBin W H r) {x : List Int} : x ∈ founds rows W H ↔ ∃ e, Sup rows W H e ∧ x = row4 e := by
  rw [founds_eq]
  simp only [List.mem_flatMap]
  constructor
  · rintro ⟨left, hl, right, hr, hx⟩
    unfold gaps at hx
    split at hx
    · rename_i lt
      obtain ⟨ps, e1, e2, e3, e4⟩ := strips_spans (left := left) (right := right) hb
      rw [e1, mem_gl rows W left right ps 0 x e2 e3] at hx
      obtain ⟨f, l, ig, su, rfl⟩ := hx
      rw [supp_iff] at su
      obtain ⟨s1, s2⟩ := su
      rw [mem_lefts] at hl
      rw [mem_rights] at hr
      have lfl := ig.lt
      have l0 : 0 ≤ left := by
        rcases hl with rfl | ⟨r, h, rfl⟩
        · exact Int.le_refl _
        · have := (hb r h).x0; have := (hb r h).w; lia
      have rW : right ≤ W := by
        rcases hr with rfl | ⟨r, h, rfl⟩
        · exact Int.le_refl _
        · have := (hb r h).x1; have := (hb r h).w; lia
      have lH : l ≤ H := by
        obtain ⟨p, hp, rfl⟩ := ig.hi
        rcases (e4 p).mp hp with rfl | ⟨r, h, _, _, rfl⟩
        · exact Int.le_refl _
        · have := (hb r h).y1; have := (hb r h).h; show r.y ≤ H; lia
      have ef : left + (right - left) = right := by lia
      have eg : f + (l - f) = l := by lia
      refine ⟨⟨left, f, right - left, l - f⟩, ⟨⟨⟨?_, ?_, l0, ig.ge, ?_, ?_⟩, fun r hr' m => ?_⟩, ?_, ?_, ?_, ?_⟩, rfl⟩
      · show 0 < right - left; lia
      · show 0 < l - f; lia
      · show left + (right - left) ≤ W; lia
      · show f + (l - f) ≤ H; lia
      · obtain ⟨m1, m2, m3, m4⟩ := m
        simp only at m1 m2 m3 m4
        rcases ig.no (r.y, r.y + r.h) ((e4 _).mpr (.inr ⟨r, hr', by lia, by lia, rfl⟩)) with h | h
        · simp only at h; lia
        · simp only at h; lia
      · simp only [eg]; exact s1
      · simp only [ef, eg]; exact s2
      · simp only [ef]
        rcases ig.lo with h | ⟨p, hp, rfl⟩
        · exact .inl h
        · rcases (e4 p).mp hp with rfl | ⟨r, h, h1, h2, rfl⟩
          · exfalso; simp only at lfl; lia
          · exact .inr ⟨r, h, rfl, h1, h2⟩
      · simp only [ef, eg]
        obtain ⟨p, hp, rfl⟩ := ig.hi
        rcases (e4 p).mp hp with rfl | ⟨r, h, h1, h2, rfl⟩
        · exact .inl rfl
        · exact .inr ⟨r, h, rfl, h1, h2⟩
    · cases hx
  · rintro ⟨e, s, rfl⟩
    have bw := s.w; have bh := s.h; have bx := s.x0; have by_ := s.y0; have bx1 := s.x1; have by1 := s.y1
    refine ⟨e.x, mem_lefts.mpr ?_, e.x + e.w, mem_rights.mpr ?_, ?_⟩
    · rcases s.l with h | ⟨r, h, h1, _⟩
      · exact .inl h
      · exact .inr ⟨r, h, h1⟩
    · rcases s.r with h | ⟨r, h, h1, _⟩
      · exact .inl h
      · exact .inr ⟨r, h, h1⟩
    · unfold gaps
      rw [if_pos (by lia)]
      obtain ⟨ps, e1, e2, e3, e4⟩ := strips_spans (left := e.x) (right := e.x + e.w) hb
      rw [e1, mem_gl rows W _ _ ps 0 _ e2 e3]
      refine ⟨e.y, e.y + e.h, ⟨?_, by_, ?_, by lia, fun p hp => ?_⟩, supp_iff.mpr ⟨s.l, s.r⟩, ?_⟩
      · rcases s.b with h | ⟨r, h, h1, h2, h3⟩
        · exact .inl h
        · exact .inr ⟨_, (e4 _).mpr (.inr ⟨r, h, h2, h3, rfl⟩), h1⟩
      · rcases s.t with h | ⟨r, h, h1, h2, h3⟩
        · exact ⟨_, (e4 _).mpr (.inl rfl), h.symm⟩
        · exact ⟨_, (e4 _).mpr (.inr ⟨r, h, h2, h3, rfl⟩), h1⟩
      · rcases (e4 p).mp hp with rfl | ⟨r, h, h1, h2, rfl⟩
        · right; show e.y + e.h ≤ H; lia
        · have n := s.no r h
          unfold Meets at n
          show r.y + r.h ≤ e.y ∨ e.y + e.h ≤ r.y
          lia
      · unfold row4
        rw [show e.x + e.w - e.x = e.w by lia, show e.y + e.h - e.y = e.h by lia]
theorem nd_founds {rows : List R4} {W H : Int} (hb : ∀ r ∈ rows, InBin W H r) : (founds rows W H).Nodup := by
  rw [founds_eq]
  have hg : ∀ l r, ∀ x ∈ gaps rows W H l r, ∃ f h, x = [l, f, r - l, h] := fun l r x hx => by
    unfold gaps at hx
    split at hx
    · obtain ⟨ps, e1, e2, e3, e4⟩ := strips_spans (left := l) (right := r) hb
      rw [e1, mem_gl rows W l r ps 0 x e2 e3] at hx
      obtain ⟨f, h, _, _, rfl⟩ := hx
      exact ⟨_, _, rfl⟩
    · cases hx
  unfold List.Nodup
  rw [List.pairwise_flatMap]
  refine ⟨fun l hl => ?_, ?_⟩
  · rw [List.pairwise_flatMap]
    refine ⟨fun r hr => ?_, ?_⟩
    · unfold gaps
      split
      · obtain ⟨ps, e1, e2, e3, e4⟩ := strips_spans (left := l) (right := r) hb
        rw [e1]; exact nd_gl rows W l r ps 0 e2 e3
      · exact List.Pairwise.nil
    · refine (nd_addAll (fun r : R4 => r.x) rows [W] (by simp)).imp fun {a b} ne x hx y hy e => ?_
      obtain ⟨f, h, e1⟩ := hg _ _ x hx
      obtain ⟨f', h', e2⟩ := hg _ _ y hy
      rw [e1, e2] at e
      simp at e
      lia
  · refine (nd_addAll (fun r : R4 => r.x + r.w) rows [0] (by simp)).imp fun {a b} ne x hx y hy e => ?_
    obtain ⟨r, _, hx⟩ := List.mem_flatMap.mp hx
    obtain ⟨r', _, hy⟩ := List.mem_flatMap.mp hy
    obtain ⟨f, h, e1⟩ := hg _ _ x hx
    obtain ⟨f', h', e2⟩ := hg _ _ y hy
    rw [e1, e2] at e
    simp at e
    exact ne e.1
theorem row4_inj {a b : R4} (e : row4 a = row4 b) : a = b := by
  simp [row4] at e
  exact R4.ext' e.1 e.2.1 e.2.2.1 e.2.2.2
theorem Inv.perm {F laid : List R4} {W H : Int} (I : Inv F laid W H) : (F.map row4).Perm (founds laid W H) := by
  rw [List.perm_ext_iff_of_nodup ?_ (nd_founds I.bin)]
  · intro x
    rw [mem_founds I.bin, List.mem_map]
    constructor
    · rintro ⟨e, he, rfl⟩; exact ⟨e, I.mem.mp he, rfl⟩
    · rintro ⟨e, s, rfl⟩; exact ⟨e, I.mem.mpr s, rfl⟩
  · unfold List.Nodup
    rw [List.pairwise_map]
    exact I.nd.imp fun {a b} ne e => ne (row4_inj e)
theorem Inv.sorted {F laid : List R4} {W H : Int} (I : Inv F laid W H) : sortR (F.map row4) = sortR (founds laid W H) :=
  lex_uniq (c := 4) ((sortR_perm _).trans (I.perm.trans (sortR_perm _).symm)) (fun r m => by
    obtain ⟨q, _, rfl⟩ := List.mem_map.mp ((sortR_perm _).mem_iff.mp m); rfl) (sortR_asc _) (sortR_asc _)
theorem Inv.len {F laid : List R4} {W H : Int} (I : Inv F laid W H) : F.length = (founds laid W H).length := by
  have := I.perm.length_eq; simpa using this
end Mine
end
noncomputable section
open PySem PySem.W PyProof.Rows PySem.Calls
set_option Elab.async false
set_option linter.unusedVariables false
namespace Mine
def bitO (o : Nat) : Nat := if o = 0 then 0 else 2 ^ (o - 1)
def codeT (l r b : Nat) : Nat := (if l = 0 then 32 else 0) + (if r = 0 then 64 else 0) + bitO l + bitO r + bitO b
def distT (l r b : Nat) : Bool := (l == 0 || r == 0 || l != r) && (l == 0 || b == 0 || l != b) && (r == 0 || b == 0 || r != b)
def confT (l r b l' r' b' : Nat) : Bool := (b != 0 && b' != 0 && (l' == b || r' == b) && (l == b' || r == b')) || (l != 0 && r != 0 && l == r' && r == l')
def trips : List (Nat × Nat × Nat) := ((List.range 6).flatMap fun l => (List.range 6).flatMap fun r => (List.range 6).map fun b => (l, r, b)).filter fun t => distT t.1 t.2.1 t.2.2
def chkT (t t' : Nat × Nat × Nat) : Bool := codeT t.1 t.2.1 t.2.2 != codeT t'.1 t'.2.1 t'.2.2 || (t == t') || confT t.1 t.2.1 t.2.2 t'.1 t'.2.1 t'.2.2
theorem chk_all : (trips.all fun t => trips.all fun t' => chkT t t') = true := by decide +kernel
def codesT : List Nat := (trips.map fun t => codeT t.1 t.2.1 t.2.2).eraseDups
theorem codes_len : codesT.length = 56 := by decide +kernel
theorem mem_trips {l r b : Nat} (hl : l < 6) (hr : r < 6) (hb : b < 6) (d : distT l r b = true) : (l, r, b) ∈ trips := by
  unfold trips
  rw [List.mem_filter]
  refine ⟨?_, d⟩
  simp only [List.mem_flatMap, List.mem_map, List.mem_range]
  exact ⟨l, hl, r, hr, b, hb, rfl⟩
theorem chk {l r b l' r' b' : Nat} (h : (l, r, b) ∈ trips) (h' : (l', r', b') ∈ trips) (e : codeT l r b = codeT l' r' b') : (l = l' ∧ r = r' ∧ b = b') ∨ confT l r b l' r' b' = true := by
  have := List.all_eq_true.mp (List.all_eq_true.mp chk_all _ h) _ h'
  unfold chkT at this
  simp only [Bool.or_eq_true, bne_iff_ne, ne_eq, beq_iff_eq, Prod.mk.injEq] at this
  rcases this with (h | h) | h
  · exact absurd e h
  · exact .inl h
  · exact .inr h
structure Held (laid : List R4) (W : Int) (e : R4) (l r b : Nat) : Prop where
  l : (l = 0 ∧ e.x = 0) ∨ ∃ i q, l = i + 1 ∧ laid[i]? = some q ∧ q.x + q.w = e.x ∧ q.y < e.y + e.h ∧ e.y < q.y + q.h
  r : (r = 0 ∧ e.x + e.w = W) ∨ ∃ i q, r = i + 1 ∧ laid[i]? = some q ∧ q.x = e.x + e.w ∧ q.y < e.y + e.h ∧ e.y < q.y + q.h
  b : (b = 0 ∧ e.y = 0) ∨ ∃ i q, b = i + 1 ∧ laid[i]? = some q ∧ q.y + q.h = e.y ∧ q.x < e.x + e.w ∧ e.x < q.x + q.w
theorem Sup.held {laid : List R4} {W H : Int} {e : R4} (s : Sup laid W H e) : ∃ l r b, Held laid W e l r b := by
  have idx : ∀ {p : R4 → Prop}, (∃ q ∈ laid, p q) → ∃ i q, laid[i]? = some q ∧ p q := fun ⟨q, hq, h⟩ => by
    obtain ⟨i, e⟩ := List.mem_iff_getElem?.mp hq
    exact ⟨i, q, e, h⟩
  have h1 : ∃ l, (l = 0 ∧ e.x = 0) ∨ ∃ i q, l = i + 1 ∧ laid[i]? = some q ∧ q.x + q.w = e.x ∧ q.y < e.y + e.h ∧ e.y < q.y + q.h := by
    rcases s.l with h | h
    · exact ⟨0, .inl ⟨rfl, h⟩⟩
    · obtain ⟨i, q, a, b⟩ := idx h
      exact ⟨i + 1, .inr ⟨i, q, rfl, a, b⟩⟩
  have h2 : ∃ l, (l = 0 ∧ e.x + e.w = W) ∨ ∃ i q, l = i + 1 ∧ laid[i]? = some q ∧ q.x = e.x + e.w ∧ q.y < e.y + e.h ∧ e.y < q.y + q.h := by
    rcases s.r with h | h
    · exact ⟨0, .inl ⟨rfl, h⟩⟩
    · obtain ⟨i, q, a, b⟩ := idx h
      exact ⟨i + 1, .inr ⟨i, q, rfl, a, b⟩⟩
  have h3 : ∃ l, (l = 0 ∧ e.y = 0) ∨ ∃ i q, l = i + 1 ∧ laid[i]? = some q ∧ q.y + q.h = e.y ∧ q.x < e.x + e.w ∧ e.x < q.x + q.w := by
    rcases s.b with h | h
    · exact ⟨0, .inl ⟨rfl, h⟩⟩
    · obtain ⟨i, q, a, b⟩ := idx h
      exact ⟨i + 1, .inr ⟨i, q, rfl, a, b⟩⟩
  obtain ⟨l, h1⟩ := h1
  obtain ⟨r, h2⟩ := h2
  obtain ⟨b, h3⟩ := h3
  exact ⟨l, r, b, h1, h2, h3⟩
theorem idx_lt {laid : List R4} (hz : laid.length ≤ 5) {i : Nat} {q : R4} (h : laid[i]? = some q) : i + 1 < 6 := by
  have := (List.getElem?_eq_some_iff.mp h).1; lia
theorem Held.trip {laid : List R4} {W H : Int} {e : R4} {l r b : Nat} (hz : laid.length ≤ 5) (hb : ∀ q ∈ laid, InBin W H q) (ew : 0 < e.w) (h : Held laid W e l r b) : (l, r, b) ∈ trips := by
  refine mem_trips ?_ ?_ ?_ ?_
  · rcases h.l with ⟨rfl, _⟩ | ⟨i, q, rfl, a, _⟩
    · decide
    · exact idx_lt hz a
  · rcases h.r with ⟨rfl, _⟩ | ⟨i, q, rfl, a, _⟩
    · decide
    · exact idx_lt hz a
  · rcases h.b with ⟨rfl, _⟩ | ⟨i, q, rfl, a, _⟩
    · decide
    · exact idx_lt hz a
  · unfold distT
    simp only [Bool.and_eq_true, Bool.or_eq_true, beq_iff_eq, bne_iff_ne, ne_eq]
    refine ⟨⟨?_, ?_⟩, ?_⟩
    · rcases h.l with ⟨h1, _⟩ | ⟨i, q, h1, a1, b1, c1, d1⟩
      · exact .inl (.inl h1)
      · rcases h.r with ⟨h2, _⟩ | ⟨j, p, h2, a2, b2, c2, d2⟩
        · exact .inl (.inr h2)
        · right; intro e'
          have : i = j := by lia
          subst this
          rw [a1] at a2; cases a2
          have := (hb q (List.mem_of_getElem? a1)).w
          lia
    · rcases h.l with ⟨h1, _⟩ | ⟨i, q, h1, a1, b1, c1, d1⟩
      · exact .inl (.inl h1)
      · rcases h.b with ⟨h2, _⟩ | ⟨j, p, h2, a2, b2, c2, d2⟩
        · exact .inl (.inr h2)
        · right; intro e'
          have : i = j := by lia
          subst this
          rw [a1] at a2; cases a2
          lia
    · rcases h.r with ⟨h1, _⟩ | ⟨i, q, h1, a1, b1, c1, d1⟩
      · exact .inl (.inl h1)
      · rcases h.b with ⟨h2, _⟩ | ⟨j, p, h2, a2, b2, c2, d2⟩
        · exact .inl (.inr h2)
        · right; intro e'
          have : i = j := by lia
          subst this
          rw [a1] at a2; cases a2
          lia
theorem Held.side {laid : List R4} {W : Int} {e : R4} {l r b i : Nat} {q : R4} (h : Held laid W e l r b) (c : l = i + 1 ∨ r = i + 1) (hq : laid[i]? = some q) : e.y < q.y + q.h := by
  rcases c with c | c
  · rcases h.l with ⟨h1, _⟩ | ⟨j, p, h1, a1, b1, c1, d1⟩
    · lia
    · have : i = j := by lia
      subst this; rw [hq] at a1; cases a1; exact d1
  · rcases h.r with ⟨h1, _⟩ | ⟨j, p, h1, a1, b1, c1, d1⟩
    · lia
    · have : i = j := by lia
      subst this; rw [hq] at a1; cases a1; exact d1
theorem Held.inj {laid : List R4} {W H : Int} {e e' : R4} {l r b l' r' b' : Nat} (hz : laid.length ≤ 5) (hb : ∀ q ∈ laid, InBin W H q) (s : Sup laid W H e) (s' : Sup laid W H e') (h : Held laid W e l r b) (h' : Held laid W e' l' r' b')
    (ec : codeT l r b = codeT l' r' b') : e = e' := by
  rcases chk (h.trip hz hb s.w) (h'.trip hz hb s'.w) ec with ⟨rfl, rfl, rfl⟩ | c
  · have ex : e.x = e'.x := by
      rcases h.l with ⟨h1, x1⟩ | ⟨i, q, h1, a1, b1, c1, d1⟩ <;> rcases h'.l with ⟨h2, x2⟩ | ⟨j, p, h2, a2, b2, c2, d2⟩
      · lia
      · lia
      · lia
      · have : i = j := by lia
        subst this; rw [a1] at a2; cases a2; lia
    have er : e.x + e.w = e'.x + e'.w := by
      rcases h.r with ⟨h1, x1⟩ | ⟨i, q, h1, a1, b1, c1, d1⟩ <;> rcases h'.r with ⟨h2, x2⟩ | ⟨j, p, h2, a2, b2, c2, d2⟩
      · lia
      · lia
      · lia
      · have : i = j := by lia
        subst this; rw [a1] at a2; cases a2; lia
    have ey : e.y = e'.y := by
      rcases h.b with ⟨h1, x1⟩ | ⟨i, q, h1, a1, b1, c1, d1⟩ <;> rcases h'.b with ⟨h2, x2⟩ | ⟨j, p, h2, a2, b2, c2, d2⟩
      · lia
      · lia
      · lia
      · have : i = j := by lia
        subst this; rw [a1] at a2; cases a2; lia
    rcases ins_casesB ex (by lia) ey with i | i
    · exact s.max hb s'.toFree i
    · exact (s'.max hb s.toFree i).symm
  · exfalso
    unfold confT at c
    simp only [Bool.and_eq_true, Bool.or_eq_true, bne_iff_ne, ne_eq, beq_iff_eq] at c
    rcases c with ⟨⟨⟨h1, h2⟩, h3⟩, h4⟩ | ⟨⟨⟨h1, h2⟩, h3⟩, h4⟩
    · rcases h.b with ⟨x, _⟩ | ⟨i, q, x1, x2, x3, _⟩
      · exact h1 x
      · rcases h'.b with ⟨y, _⟩ | ⟨j, p, y1, y2, y3, _⟩
        · exact h2 y
        · have z1 := h'.side (i := i) (q := q) (by lia) x2
          have z2 := h.side (i := j) (q := p) (by lia) y2
          lia
    · rcases h.l with ⟨x, _⟩ | ⟨i, q, x1, x2, x3, _⟩
      · exact h1 x
      · rcases h.r with ⟨y, _⟩ | ⟨j, p, y1, y2, y3, _⟩
        · exact h2 y
        · rcases h'.r with ⟨u, _⟩ | ⟨i', q', u1, u2, u3, _⟩
          · lia
          · rcases h'.l with ⟨v, _⟩ | ⟨j', p', v1, v2, v3, _⟩
            · lia
            · have e1 : i = i' := by lia
              have e2 : j = j' := by lia
              subst e1 e2
              rw [x2] at u2; cases u2
              rw [y2] at v2; cases v2
              have w1 := (hb q (List.mem_of_getElem? x2)).w
              have w2 := (hb p (List.mem_of_getElem? y2)).w
              have := s.w; have := s'.w
              lia
theorem few {laid : List R4} {W H : Int} (hz : laid.length ≤ 5) (hb : ∀ q ∈ laid, InBin W H q) {F : List R4} (nd : F.Nodup) (hs : ∀ e ∈ F, Sup laid W H e) : F.length ≤ 56 := by
  have hc : ∀ e : R4, ∃ c : Nat, Sup laid W H e → ∃ l r b, Held laid W e l r b ∧ c = codeT l r b := fun e => by
    by_cases s : Sup laid W H e
    · obtain ⟨l, r, b, h⟩ := s.held
      exact ⟨_, fun _ => ⟨l, r, b, h, rfl⟩⟩
    · exact ⟨0, fun x => absurd x s⟩
  have hf : ∃ f : R4 → Nat, ∀ e, Sup laid W H e → ∃ l r b, Held laid W e l r b ∧ f e = codeT l r b := ⟨fun e => Classical.choose (hc e), fun e => Classical.choose_spec (hc e)⟩
  obtain ⟨f, hf⟩ := hf
  have h1 : (F.map f).Nodup := by
    unfold List.Nodup
    rw [List.pairwise_map]
    refine nd.imp_of_mem fun {a b} ha hb' ne e => ?_
    obtain ⟨l, r, bb, h, e1⟩ := hf a (hs a ha)
    obtain ⟨l', r', b', h', e2⟩ := hf b (hs b hb')
    rw [e1, e2] at e
    exact ne (h.inj hz hb (hs a ha) (hs b hb') h' e)
  have h2 : (F.map f) ⊆ codesT := fun c m => by
    obtain ⟨e, he, rfl⟩ := List.mem_map.mp m
    obtain ⟨l, r, b, h, e1⟩ := hf e (hs e he)
    unfold codesT
    rw [List.mem_eraseDups, e1]
    exact List.mem_map.mpr ⟨(l, r, b), h.trip hz hb (hs e he).w, rfl⟩
  have := h1.length_le_of_subset h2
  rw [codes_len] at this
  simpa using this
theorem Inv.few {F laid : List R4} {W H : Int} (I : Inv F laid W H) (hz : laid.length ≤ 5) : F.length ≤ 56 :=
  Mine.few hz I.bin I.nd fun e he => I.mem.mp he
end Mine
end
noncomputable section
open PySem PySem.W PyProof.Rows PySem.Calls Builtin Builtin.ObjectAttr Builtin.Getset_descriptor PySem.SeqAt
set_option Elab.async false
set_option maxRecDepth 100000
set_option linter.unusedVariables false
namespace Mine
def dataT (r : List Int) : PyData := .tuple (r.map .int)
def dataL (rows : List (List Int)) : PyData := .list (rows.map dataT)
theorem TupI.reads {b h : Heap} {v : Value} {r : List Int} (T : TupI b v r) (k : Keep b h) : Reads h v (dataT r) [] := by
  obtain ⟨t, vs, rfl, T, q⟩ := T
  exact reads_tuple_ints ⟨_, k _ _ T, rfl, 0, rfl⟩ q.are
theorem TupIs.reads {b h : Heap} (k : Keep b h) : ∀ {vs : List Value} {rs : List (List Int)}, TupIs b vs rs → ReadsAll h vs (rs.map dataT) []
  | [], [], _ => .nil
  | v :: vs, r :: rs, ⟨x, y⟩ => by
    have := ReadsAll.cons (x.reads k) (TupIs.reads k y)
    simpa using this
theorem reads_rows {b h : Heap} (k : Keep b h) {l : Addr} {vs : List Value} {rs : List (List Int)} (hl : h.IsList l vs.toArray) (T : TupIs b vs rs) : Reads h (.ref l) (dataL rs) [l] := by
  obtain ⟨o, ho, hc, n, hd⟩ := hl
  exact .list ho hc hd (T.reads k)
theorem canT (r : List Int) : PyData.canLay0 (dataT r) = true := by
  show PyData.canLay0 (.tuple (r.map .int)) = true
  simp only [PyData.canLay0]; exact canLayAll0_ints r
theorem canL : ∀ rs : List (List Int), PyData.canLayAll0 (rs.map dataT) = true
  | [] => by simp [PyData.canLayAll0]
  | r :: rs => by simp only [List.map_cons, PyData.canLayAll0, canT r, canL rs, Bool.and_self]
theorem depT (r : List Int) : PyData.depth (dataT r) ≤ 2 := by
  have := PySem.W.depthAll_ints r
  show PyData.depth (.tuple (r.map .int)) ≤ 2
  simp only [PyData.depth]; lia
theorem depL : ∀ rs : List (List Int), PyData.depthAll (rs.map dataT) ≤ 2
  | [] => by simp [PyData.depthAll]
  | r :: rs => by
    have h1 := depT r
    have h2 := depL rs
    simp only [List.map_cons, PyData.depthAll]; lia
theorem shapedL (rs : List (List Int)) : shaped (dataL rs) = true := by
  have h1 := depL rs
  have h2 : PyData.depth (dataL rs) ≤ 64 := by
    show PyData.depth (.list (rs.map dataT)) ≤ 64
    simp only [PyData.depth]; lia
  show (PyData.canLay0 (dataL rs) && decide (PyData.depth (dataL rs) ≤ 64)) = true
  rw [Bool.and_eq_true]
  refine ⟨?_, decide_eq_true h2⟩
  show PyData.canLay0 (.list (rs.map dataT)) = true
  simp only [PyData.canLay0]; exact canL rs
theorem shapedT (r : List Int) : shaped (dataT r) = true := by
  have h1 := depT r
  show (PyData.canLay0 (dataT r) && decide (PyData.depth (dataT r) ≤ 64)) = true
  rw [Bool.and_eq_true]
  exact ⟨canT r, decide_eq_true (by lia)⟩
theorem mixT (r q : List Int) : noMix (dataT r) (dataT q) = true := by
  show noMix (.tuple (r.map .int)) (.tuple (q.map .int)) = true
  simp only [noMix]; exact noMix_ints r q
theorem mixL : ∀ rs qs : List (List Int), noMixAll (rs.map dataT) (qs.map dataT) = true
  | [], [] => by simp [noMixAll]
  | [], _ :: _ => by simp [noMixAll]
  | _ :: _, [] => by simp [noMixAll]
  | r :: rs, q :: qs => by simp only [List.map_cons, noMixAll, mixT r q, mixL rs qs, Bool.and_self]
theorem sameT (r q : List Int) : PySem.Spec.same (dataT r) (dataT q) = decide (r = q) := by
  show PySem.Spec.same (.tuple (r.map .int)) (.tuple (q.map .int)) = _
  simp only [PySem.Spec.same]; exact same_ints r q
theorem sameL : ∀ rs qs : List (List Int), PySem.Spec.sameAll (rs.map dataT) (qs.map dataT) = decide (rs = qs)
  | [], [] => by simp [PySem.Spec.sameAll]
  | [], _ :: _ => by simp [PySem.Spec.sameAll]
  | _ :: _, [] => by simp [PySem.Spec.sameAll]
  | r :: rs, q :: qs => by
    simp only [List.map_cons, PySem.Spec.sameAll, sameT r q, sameL rs qs]
    by_cases h : r = q <;> simp [h]
section
variable {w : World} {A : Around} {hb h h0 hb0 : Heap} {env : Env} {pos : Pos} {O pre post : List (Addr × Own)} {L : Addr} {m : Str → Option Value} {s : Shared}
theorem eq_rows {Q : Value → Shared → Prop} {E : Value → Shared → Prop} {l1 l2 : Addr} {vs1 vs2 : List Value} {r1 r2 : List (List Int)} (k : Keep hb s.heap) (hA : A.units + 64 < cLine) (h1 : s.heap.IsList l1 vs1.toArray) (h2 : s.heap.IsList l2 vs2.toArray) (T1 : TupIs hb vs1 r1) (T2 : TupIs hb vs2 r2)
    (q : Q (.bool (decide (r1 = r2))) s) : wpAny (model PG w) A (compareOp .Eq (.ref l1) (.ref l2)) Q E s := by
  refine eq_dataH_same (reads_rows k h1 T1) (reads_rows k h2 T2) (shapedL r1) (shapedL r2) hA (by show noMix (.list _) (.list _) = true; simp only [noMix]; exact mixL r1 r2) ?_
  have : PySem.Spec.same (dataL r1) (dataL r2) = decide (r1 = r2) := by
    show PySem.Spec.same (.list (r1.map dataT)) (.list (r2.map dataT)) = _
    simp only [PySem.Spec.same]; exact sameL r1 r2
  rw [this]; exact q
theorem ne_rows {Q : Value → Shared → Prop} {E : Value → Shared → Prop} {l1 l2 : Addr} {vs1 vs2 : List Value} {r1 r2 : List (List Int)} (k : Keep hb s.heap) (hA : A.units + 64 < cLine) (h1 : s.heap.IsList l1 vs1.toArray) (h2 : s.heap.IsList l2 vs2.toArray) (T1 : TupIs hb vs1 r1) (T2 : TupIs hb vs2 r2)
    (q : Q (.bool (!decide (r1 = r2))) s) : wpAny (model PG w) A (compareOp .NotEq (.ref l1) (.ref l2)) Q E s := by
  refine ne_dataH_same (reads_rows k h1 T1) (reads_rows k h2 T2) (shapedL r1) (shapedL r2) hA (by show noMix (.list _) (.list _) = true; simp only [noMix]; exact mixL r1 r2) ?_
  have : PySem.Spec.same (dataL r1) (dataL r2) = decide (r1 = r2) := by
    show PySem.Spec.same (.list (r1.map dataT)) (.list (r2.map dataT)) = _
    simp only [PySem.Spec.same]; exact sameL r1 r2
  rw [this]; exact q
theorem notin_rows {Q : Value → Shared → Prop} {E : Value → Shared → Prop} {l : Addr} {v : Value} {vs : List Value} {r : List Int} {rs : List (List Int)} (k : Keep hb s.heap) (hA : A.in1.units + 64 < cLine) (hl : s.heap.IsList l vs.toArray) (T : TupIs hb vs rs) (Tv : TupI hb v r)
    (q : Q (.bool (!decide (r ∈ rs))) s) : wpAny (model PG w) A (compareOp .NotIn v (.ref l)) Q E s := by
  classical
  have he : ∃ e : Value → Bool, (∀ y ∈ vs, SeqAt.EqAt A.in1 s y v (e y)) ∧ vs.any e = decide (r ∈ rs) := by
    refine ⟨fun y => if h : ∃ q, TupI hb y q then decide (Classical.choose h = r) else false, fun y hy => ?_, ?_⟩
    · obtain ⟨i, hi⟩ := List.mem_iff_getElem?.mp hy
      obtain ⟨q, Tq, _⟩ := T.at hi
      have hx : ∃ q, TupI hb y q := ⟨q, Tq⟩
      simp only [dif_pos hx]
      have x := PySem.W.keq_at (A := A) ((Classical.choose_spec hx).reads k) (Tv.reads k) (shapedT _) (shapedT _) hA
      rw [← SeqAt.same_eq_eqv _ _ (mixT _ _), sameT] at x
      exact x
    · have uniq : ∀ y q1 q2, TupI hb y q1 → TupI hb y q2 → q1 = q2 := by
        rintro y q1 q2 ⟨t, us, e, Tt, x⟩ ⟨t', us', e', Tt', x'⟩
        rw [e] at e'; cases e'
        have : us = us' := by
          have h1 : hb.get? t = _ := Tt
          have h2 : hb.get? t = _ := Tt'
          rw [h1] at h2
          simpa using h2
        subst this
        clear e Tt Tt'
        induction us generalizing q1 q2 with
        | nil => cases q1 <;> cases q2 <;> first | rfl | exact x.elim | exact x'.elim
        | cons u us ih =>
          cases q1 with
          | nil => exact x.elim
          | cons a as =>
            cases q2 with
            | nil => exact x'.elim
            | cons b bs =>
              obtain ⟨⟨t1, e1⟩, x⟩ := x
              obtain ⟨⟨t2, e2⟩, x'⟩ := x'
              rw [e1] at e2; cases e2
              rw [ih _ _ x x']
      rw [Bool.eq_iff_iff, List.any_eq_true, decide_eq_true_eq]
      constructor
      · rintro ⟨y, hy, e⟩
        obtain ⟨i, hi⟩ := List.mem_iff_getElem?.mp hy
        obtain ⟨q, Tq, hq⟩ := T.at hi
        have hx : ∃ q, TupI hb y q := ⟨q, Tq⟩
        simp only [dif_pos hx, decide_eq_true_eq] at e
        have := uniq y _ _ (Classical.choose_spec hx) Tq
        rw [e] at this
        rw [this]; exact List.mem_of_getElem? hq
      · intro hr
        obtain ⟨i, hi⟩ := List.mem_iff_getElem?.mp hr
        have hlen := T.length
        have hi' : i < vs.length := by rw [hlen]; exact (List.getElem?_eq_some_iff.mp hi).1
        have hv : vs[i]? = some vs[i] := List.getElem?_eq_getElem hi'
        obtain ⟨q, Tq, hq⟩ := T.at hv
        rw [hi] at hq; cases hq
        refine ⟨vs[i], List.getElem_mem hi', ?_⟩
        have hx : ∃ q, TupI hb vs[i] q := ⟨r, Tq⟩
        simp only [dif_pos hx, decide_eq_true_eq]
        exact uniq _ _ _ (Classical.choose_spec hx) Tq
  obtain ⟨e, he, hany⟩ := he
  refine SeqAt.notIn_listAt e hl (fun y hy => he y (by simpa using hy)) ?_
  have : vs.toArray.any e = vs.any e := by simp
  rw [this, hany]; exact q
theorem yMinList {l : Addr} {vs : List Value} {ns : List Int} {x : Int} (hA : A.handled = none) (hl : h.IsList l vs.toArray) (hi : VI vs ns) (hx : x ∈ ns) (hle : ∀ y ∈ ns, x ≤ y) : Y w A hb h (call (.builtin "min") [.ref l]) (IsI x) :=
  yGrow fun s Q E kb kh q => by
    obtain ⟨xs, e⟩ := hi.are.allInts.items
    have hns : ns = xs.toList.map (·.1) := by
      rw [← hi.are.numsOf, ← nums_intItems, ← e]
    have hsz : 0 < xs.size := by
      have h3 := List.length_pos_of_mem hx
      rw [hns, List.length_map, Array.length_toList] at h3; exact h3
    have hl := hl.at fun o e => kh _ _ e
    rw [e] at hl
    refine min_intList hA hl hsz fun v h' tk hv hk => ?_
    obtain ⟨t, rfl⟩ := intItems_at hv
    obtain ⟨h1, h2⟩ := argBest_lt (numAt xs) (xs.size - 1)
    refine q _ h' tk (fun b _ => ⟨t, ?_⟩) fun b o e => hk b o e
    have a1 : x ≤ numAt xs (argBest (fun i j => decide (numAt xs i < numAt xs j)) (xs.size - 1)) := by
      refine hle _ ?_
      rw [hns, numAt_eq]; exact getD_mem (by rw [List.length_map, Array.length_toList]; lia)
    have a2 : numAt xs (argBest (fun i j => decide (numAt xs i < numAt xs j)) (xs.size - 1)) ≤ x := by
      rw [hns] at hx
      obtain ⟨j, hj, rfl⟩ := mem_getD hx
      rw [List.length_map, Array.length_toList] at hj
      rw [← numAt_eq]; exact h2 j (by lia)
    rw [Int.le_antisymm a2 a1]
theorem yRange3 {p pos : Pos} {e1 e2 e3 : Expr} {x y z : Int} (hz : z ≠ 0) (hs : z.natAbs < 1073741824) (y1 : Y w A hb h (eval e1 env) (IsI x)) (y2 : Y w A hb h (eval e2 env) (IsI y)) (y3 : Y w A hb h (eval e3 env) (IsI z)) (yf : Y w A hb h (eval (.Name "range" p) env) (Is (.type "range")))
    (he : starEach [e1, e2, e3] env = (false, eval e1 env) :: starEach [e2, e3] env := by rfl) (he2 : starEach [e2, e3] env = (false, eval e2 env) :: starEach [e3] env := by rfl) (he3 : starEach [e3] env = (false, eval e3 env) :: starEach [] env := by rfl) (hplain : ((backTo pos (starEach [e1, e2, e3] env)).any (·.1) || (backToKw pos (keywordEach [] env)).any (·.1.isNone)) = false := by rfl) :
    Y w A hb h (eval (.Call (.Name "range" p) [e1, e2, e3] [] pos) env) fun v b => ∃ r t u a, v = .ref r ∧ IsRange b r x y z t u a :=
  yCallName (R := fun vs _ => VI vs [x, y, z]) yf kept_type (yIntsCons y1 (yIntsCons y2 (yIntsCons y3 yIntsNil he3) he2) he) (fun vs b1 h1 u q => by
    obtain ⟨t1, t2, t3, rfl⟩ := q.three
    exact yNew fun s b Q E kb ki kh q => call_range_3 hz (q _ _ _ (fun b' k n => ⟨_, _, _, _, rfl, n _ _ (fresh_size _) (Heap.get?_push_size _ rfl)⟩) (Keep.push _ _)) (Or.inl (PyProof.noPylong_small hs))) he hplain
end
end Mine
end
noncomputable section
open PySem PySem.W PyProof.Rows PySem.Calls Builtin Builtin.ObjectAttr Builtin.Getset_descriptor PySem.SeqAt
set_option Elab.async false
set_option maxRecDepth 100000
set_option linter.unusedVariables false
namespace Mine
section
variable {w : World} {A : Around} {hb h h0 hb0 : Heap} {env : Env} {pos : Pos} {O pre post : List (Addr × Own)} {L : Addr} {m : Str → Option Value} {s : Shared}
theorem ySliceList {value : Expr} {lower upper : Expr} {p : Pos} {l : Addr} {vs : List Value} {i j : Int} (hl : h.IsList l vs.toArray) (hz : vs.length ≤ 1000) (y1 : Y w A hb h (eval value env) (Is (.ref l))) (y2 : Y w A hb h (eval lower env) (IsI i)) (y3 : Y w A hb h (eval upper env) (IsI j))
    (ht : ∀ o r, letTemporaryGo value o r = pure () := by intro _ _; rfl) :
    Y w A hb h (eval (.Subscript value (.Slice (some lower) (some upper) none p) pos) env) fun v b => ∃ D, v = .ref D ∧ b.PlainList D (slicePick vs.toArray (some i) (some j) none) := by
  intro s b u Q E q
  refine wpAny_Subscript_list_slice (y1 s b u _ E fun v1 b1 h1 tk1 e1 r1 => ?_) ht
  rw [evalPart_some]
  refine y2.keep u |>.keep r1.up _ b1 ⟨.refl _, .refl _, r1.up.i⟩ _ E fun v2 b2 h2 tk2 e2 r2 => ?_
  rw [evalPart_some]
  refine (y3.keep u |>.keep r1.up |>.keep r2.up) _ b2 ⟨.refl _, .refl _, r2.up.i⟩ _ E fun v3 b3 h3 tk3 e3 r3 => ?_
  cases e1
  obtain ⟨t2, rfl⟩ := e2
  obtain ⟨t3, rfl⟩ := e3
  have rr := (r1.trans r2).trans r3
  have hl3 : h3.IsList l vs.toArray := hl.at fun o e => rr.up.h _ _ (u.h _ _ e)
  refine ⟨l, vs.toArray, some i, some j, rfl, hl3, by rw [sizeLine_eq]; simp; lia, .int _ _, .int _ _, ?_⟩
  have kk : Keep h3 ((h3.push { cls := .type "slice", data := .fields #[.int i t2, .int j t3, .none] }).push { cls := .type "list", data := .seq (slicePick vs.toArray (some i) (some j) none) }) := (Keep.push _ _).trans (Keep.push _ _)
  obtain ⟨b4, r4, n4⟩ := Res.join rr.up.i kk
  refine q _ b4 _ tk3 ⟨_, rfl, 0, n4 _ _ (fresh_ge (Nat.le_succ _)) ?_⟩ (rr.trans r4)
  have := Heap.get?_push_size (h3.push { cls := .type "slice", data := .fields #[.int i t2, .int j t3, .none] }) (o := { cls := .type "list", data := .seq (slicePick vs.toArray (some i) (some j) none) }) rfl
  rw [Heap.size_push] at this
  exact this
end
theorem slice_ints {vs : List Value} {ns : List Int} (hi : VI vs ns) (h4 : 3 ≤ vs.length) : ∃ us ms, slicePick vs.toArray (some 3) (some 13) none = us.toArray ∧ VI us ms ∧ us.length ≤ 10 ∧ ∀ x ∈ ms, x ∈ ns := by
  have hb : sliceBounds (some 3) (some 13) none vs.toArray.size = (((3 : Nat) : Int), ((min 13 vs.length : Nat) : Int), 1) := by
    unfold sliceBounds
    simp
    lia
  unfold slicePick
  rw [hb]
  dsimp only
  rw [sliceRange_one]
  have key : ∀ (is : List Nat), (∀ i ∈ is, i < vs.length) → ∃ ms, VI (is.filterMap fun i => vs[i]?) ms ∧ (is.filterMap fun i => vs[i]?).length = is.length ∧ ∀ x ∈ ms, x ∈ ns := by
    intro is
    induction is with
    | nil => intro _; exact ⟨[], trivial, rfl, fun x m => (by cases m)⟩
    | cons i is ih =>
      intro hlt
      obtain ⟨ms, a, b, c⟩ := ih fun j hj => hlt j (.tail _ hj)
      have hi' := hlt i (.head _)
      obtain ⟨k, t, e, hk⟩ := VI.at hi (List.getElem?_eq_getElem hi')
      have hf : (i :: is).filterMap (fun i => vs[i]?) = vs[i] :: is.filterMap fun i => vs[i]? := by
        rw [List.filterMap_cons, List.getElem?_eq_getElem hi']
      rw [hf]
      refine ⟨k :: ms, ⟨⟨t, e⟩, a⟩, by simp [b], fun x m => ?_⟩
      rcases List.mem_cons.mp m with rfl | m
      · exact List.mem_of_getElem? hk
      · exact c x m
  obtain ⟨ms, a, b, c⟩ := key ((List.range (min 13 vs.length - 3)).map (3 + ·)) (fun i hi' => by
    obtain ⟨k, hk, rfl⟩ := List.mem_map.mp hi'
    rw [List.mem_range] at hk; lia)
  refine ⟨_, ms, ?_, a, by rw [b]; simp; lia, c⟩
  congr 1
  refine congrArg (fun f => List.filterMap f _) (funext fun x => ?_)
  simp
def pairsT (turn : Bool) (a b : Int) : List (Int × Int) := if turn then [(a, b), (b, a)] else [(a, b)]
def fitRows (way : Nat) (e : R4) (ps : List (Int × Int)) : List (List Int) := (ps.filter fun p => decide (p.1 ≤ e.w) && decide (p.2 ≤ e.h)).map fun p => [measure way e.y e.w e.h p.1 p.2, e.x, e.y, p.1, p.2]
def foundRows (way : Nat) (turn : Bool) (a b : Int) (es : List R4) : List (List Int) := es.flatMap fun e => fitRows way e (pairsT turn a b)
theorem measure_key {way : Nat} (hw : way < 4) (r : R4) (a b : Int) : measure way r.y r.w r.h a b = key way r a b := by
  match way, hw with
  | 0, _ => rfl
  | 1, _ => rfl
  | 2, _ => rfl
  | 3, _ => rfl
theorem mem_foundRows {way : Nat} {turn : Bool} {a b : Int} {es : List R4} {row : List Int} : row ∈ foundRows way turn a b es ↔ ∃ e ∈ es, ∃ p ∈ pairsT turn a b, p.1 ≤ e.w ∧ p.2 ≤ e.h ∧ row = [measure way e.y e.w e.h p.1 p.2, e.x, e.y, p.1, p.2] := by
  unfold foundRows fitRows
  simp only [List.mem_flatMap, List.mem_map, List.mem_filter, Bool.and_eq_true, decide_eq_true_eq]
  constructor
  · rintro ⟨e, he, p, ⟨hp, h1, h2⟩, rfl⟩; exact ⟨e, he, p, hp, h1, h2, rfl⟩
  · rintro ⟨e, he, p, hp, h1, h2, rfl⟩; exact ⟨e, he, p, ⟨hp, h1, h2⟩, rfl⟩
theorem mem_cands {way : Nat} {rot : Bool} {rs : List R4} {a b : Int} {c : Cand} : c ∈ cands way rot rs a b ↔ ∃ r ∈ rs, ∃ p ∈ pairsT rot a b, p.1 ≤ r.w ∧ p.2 ≤ r.h ∧ c = ⟨key way r p.1 p.2, p.1, p.2, r⟩ := by
  have one : ∀ x y, c ∈ candsOf way rs x y ↔ ∃ r ∈ rs, x ≤ r.w ∧ y ≤ r.h ∧ c = ⟨key way r x y, x, y, r⟩ := fun x y => by
    unfold candsOf R4.fits
    simp only [List.mem_map, List.mem_filter, Bool.and_eq_true, decide_eq_true_eq]
    constructor
    · rintro ⟨r, ⟨hr, h1, h2⟩, rfl⟩; exact ⟨r, hr, h1, h2, rfl⟩
    · rintro ⟨r, hr, h1, h2, rfl⟩; exact ⟨r, ⟨hr, h1, h2⟩, rfl⟩
  unfold cands pairsT
  cases rot with
  | false => simp [one]
  | true =>
    simp only [if_true, List.mem_append, one]
    constructor
    · rintro (⟨r, hr, h⟩ | ⟨r, hr, h⟩)
      · exact ⟨r, hr, (a, b), .head _, h⟩
      · exact ⟨r, hr, (b, a), .tail _ (.head _), h⟩
    · rintro ⟨r, hr, p, hp, h⟩
      rcases List.mem_cons.mp hp with rfl | hp
      · exact .inl ⟨r, hr, h⟩
      · simp at hp; subst hp; exact .inr ⟨r, hr, h⟩
theorem found_nil {way : Nat} {turn : Bool} {a b : Int} {es rs : List R4} (hm : ∀ e, e ∈ es ↔ e ∈ rs) : foundRows way turn a b es = [] ↔ cands way turn rs a b = [] := by
  rw [List.eq_nil_iff_forall_not_mem, List.eq_nil_iff_forall_not_mem]
  constructor
  · intro h c hc
    obtain ⟨r, hr, p, hp, h1, h2, rfl⟩ := mem_cands.mp hc
    exact h _ (mem_foundRows.mpr ⟨r, (hm r).mpr hr, p, hp, h1, h2, rfl⟩)
  · intro h row hrow
    obtain ⟨e, he, p, hp, h1, h2, rfl⟩ := mem_foundRows.mp hrow
    exact h _ (mem_cands.mpr ⟨e, (hm e).mp he, p, hp, h1, h2, rfl⟩)
theorem best_found {way : Nat} (hw : way < 4) {turn : Bool} {a b : Int} {es rs : List R4} (hm : ∀ e, e ∈ es ↔ e ∈ rs) {c : Cand} (hb : Best (cands way turn rs a b) c) :
    [c.k, c.at_.x, c.at_.y, c.at_.w, c.at_.h] ∈ foundRows way turn a b es ∧ (∀ row ∈ foundRows way turn a b es, c.k ≤ row.getD 0 0) ∧ val way c.r c.a c.b = (if way = 0 then 0 else c.k) ∧ c.r ∈ rs ∧ c.a ≤ c.r.w ∧ c.b ≤ c.r.h ∧ (∃ p ∈ pairsT turn a b, c.a = p.1 ∧ c.b = p.2) := by
  obtain ⟨hc, hl⟩ := hb
  obtain ⟨r, hr, p, hp, h1, h2, rfl⟩ := mem_cands.mp hc
  refine ⟨mem_foundRows.mpr ⟨r, (hm r).mpr hr, p, hp, h1, h2, ?_⟩, fun row hrow => ?_, ?_, hr, h1, h2, p, hp, rfl, rfl⟩
  · rw [measure_key hw]; rfl
  · obtain ⟨e, he, q, hq, q1, q2, rfl⟩ := mem_foundRows.mp hrow
    have := hl _ (mem_cands.mpr ⟨e, (hm e).mp he, q, hq, q1, q2, rfl⟩)
    rw [measure_key hw]
    exact this
  · show val way r p.1 p.2 = if way = 0 then 0 else key way r p.1 p.2
    unfold key
    match way, hw with
    | 0, _ => rfl
    | 1, _ => rfl
    | 2, _ => rfl
    | 3, _ => rfl
def toR4 (r : List Int) : R4 := ⟨r.getD 0 0, r.getD 1 0, r.getD 2 0, r.getD 3 0⟩
theorem row4_toR4 {r : List Int} (h : r.length = 4) : row4 (toR4 r) = r := by
  match r, h with
  | [_, _, _, _], _ => rfl
def emptyOf (laid : List R4) (W H : Int) : List R4 := (sortR (founds laid W H)).map toR4
theorem emptyOf_rows (laid : List R4) (W H : Int) : (emptyOf laid W H).map row4 = sortR (founds laid W H) := by
  unfold emptyOf
  rw [List.map_map]
  conv => rhs; rw [← List.map_id (sortR (founds laid W H))]
  exact List.map_congr_left fun r m => row4_toR4 (founds_four laid W H r ((sortR_perm _).mem_iff.mp m))
theorem Inv.emptyOf {F laid : List R4} {W H : Int} (I : Inv F laid W H) (e : R4) : e ∈ emptyOf laid W H ↔ e ∈ F := by
  have p : ((Mine.emptyOf laid W H).map row4).Perm (F.map row4) := by
    rw [emptyOf_rows]; exact (sortR_perm _).trans I.perm.symm
  have up : ∀ l : List R4, row4 e ∈ l.map row4 ↔ e ∈ l := fun l => by
    constructor
    · intro m; obtain ⟨q, hq, x⟩ := List.mem_map.mp m; rw [← row4_inj x]; exact hq
    · exact List.mem_map_of_mem
  rw [← up, ← up, p.mem_iff]
theorem emptyOf_len (laid : List R4) (W H : Int) : (emptyOf laid W H).length = (founds laid W H).length := by unfold emptyOf; rw [List.length_map, sortR_length]
theorem side_pos {number most : Int} (hm : 0 ≤ most) : 0 < side number most ∧ side number most ≤ 1 + most := by
  unfold side
  have h1 : 0 ≤ (number.natAbs : Int).fmod 3 := Int.fmod_nonneg_of_pos _ (by decide)
  have h2 : 0 ≤ (((number.natAbs : Int).fdiv 3).fmod (most + 1)) := Int.fmod_nonneg_of_pos _ (by lia)
  have h3 : (((number.natAbs : Int).fdiv 3).fmod (most + 1)) < most + 1 := Int.fmod_lt_of_pos _ (by lia)
  generalize (((number.natAbs : Int).fdiv 3).fmod (most + 1)) = x at *
  generalize (number.natAbs : Int).fmod 3 = y at *
  have h4 : 0 ≤ x.fdiv (1 + y) := Int.fdiv_nonneg h2 (by lia)
  have h5 : x.fdiv (1 + y) ≤ x := by
    have := PySem.natAbs_fdiv_le x (1 + y)
    lia
  lia
end Mine
end
noncomputable section
open PySem PySem.W PyProof.Rows PySem.Calls Builtin Builtin.ObjectAttr Builtin.Getset_descriptor PySem.SeqAt
set_option Elab.async false
set_option maxRecDepth 100000
set_option linter.unusedVariables false
namespace Mine
theorem perm_rot {α : Type} (p q r : List α) : (p ++ (q ++ r)).Perm (q ++ (p ++ r)) := by
  rw [← List.append_assoc, ← List.append_assoc]
  exact List.perm_append_comm.append_right r
theorem IsRect.offL {b c : Heap} {a D : Addr} {r : R4} {xs : Array Value} (I : IsRect b a r) (pl : b.PlainList D xs) (off : Off D b c) : IsRect c a r := by
  obtain ⟨m, ⟨dx, i⟩, M⟩ := I
  obtain ⟨n, e⟩ := pl
  have n1 : a ≠ D := fun q => by
    have := i.obj
    rw [q, e] at this; simp at this
  have n2 : dx ≠ D := fun q => by
    obtain ⟨es, ep, b1, _⟩ := i.dict
    rw [q, e] at b1; simp at b1
  exact ⟨m, ⟨dx, off _ _ n1 i.obj, let ⟨es, ep, b1, c⟩ := i.dict; ⟨es, ep, off _ _ n2 b1, c⟩⟩, M⟩
section
variable {w : World} {A : Around} {hb h h0 hb0 : Heap} {env : Env} {pos : Pos} {O pre post : List (Addr × Own)} {L : Addr} {m : Str → Option Value} {s : Shared} {rest : List Stmt} {Q : Flow → Shared → Prop} {E : Value → Shared → Prop}
theorem St.unpack {b : Heap} {C p dp l D a : Addr} {mp : Str → Option Value} {n : Nat} {rot : Bool} {wd ht : Int} (S : St h0 hb0 b O h) (N : NewPack hb b C p dp l D a mp n rot wd ht) (k0 : Keep hb0 hb) (kb : Keep hb b) :
    ∃ b', St h0 hb0 b' ((dp, .idc mp n) :: (D, .lst #[]) :: O) h ∧ Keep hb b' ∧ b'.get? p = some (instObj C dp) ∧ b'.PlainList l #[.ref a] ∧ IsRect b' a ⟨0, 0, wd, ht⟩ := by
  have hD : ∃ o, b.get? D = some o := let ⟨n, e⟩ := N.rl; ⟨_, e⟩
  have hdp : ∃ o, b.get? dp = some o := N.dict.some
  have fresh : ∀ x, hb.get? x = none → (∃ o, b.get? x = some o) → h0.get? x = none ∧ hb0.get? x = none := fun x nx ⟨o, e⟩ => by
    have n0 := keep_none k0 nx
    refine ⟨?_, n0⟩
    cases e0 : h0.get? x with
    | none => rfl
    | some o' => have := S.res.new x o' e0 n0; rw [e] at this; cases this
  obtain ⟨fD1, fD2⟩ := fresh D N.nD hD
  obtain ⟨fd1, fd2⟩ := fresh dp N.nd hdp
  obtain ⟨c1, S1, off1, kk1⟩ := S.thaw (a := D) (o := .lst #[]) N.rl fD1 fD2
  have ndp : dp ≠ D := fun q => by
    obtain ⟨es, ep, e, _⟩ := N.dict
    obtain ⟨n, e'⟩ := N.rl
    rw [q, e'] at e; simp at e
  obtain ⟨c2, S2, off2, kk2⟩ := S1.thaw (a := dp) (o := .idc mp n) (N.dict.off ndp off1) fd1 fd2
  have np : p ≠ D := fun q => by
    have := N.obj
    obtain ⟨n, e'⟩ := N.rl
    rw [q, e'] at this; simp [instObj] at this
  have np2 : p ≠ dp := fun q => by
    have := N.obj
    obtain ⟨es, ep, e, _⟩ := N.dict
    rw [q, e] at this; simp [instObj] at this
  have nl : l ≠ D := fun q => by
    obtain ⟨n, e⟩ := N.mr
    obtain ⟨n', e'⟩ := N.rl
    rw [q, e'] at e; simp at e
  have nl2 : l ≠ dp := fun q => by
    obtain ⟨n, e⟩ := N.mr
    obtain ⟨es, ep, e', _⟩ := N.dict
    rw [q, e'] at e; simp at e
  refine ⟨c2, S2, fun x o e => ?_, off2 _ _ np2 (off1 _ _ np N.obj), ?_, ?_⟩
  · have e1 : x ≠ D := fun q => by rw [q, N.nD] at e; cases e
    have e2 : x ≠ dp := fun q => by rw [q, N.nd] at e; cases e
    exact off2 _ _ e2 (off1 _ _ e1 (kb _ _ e))
  · obtain ⟨n, e⟩ := N.mr
    exact ⟨n, off2 _ _ nl2 (off1 _ _ nl e)⟩
  · refine (N.rect.offL N.rl off1).off (x := dp) (odd_idc (N.dict.off ndp off1) (N.map.no _ (by decide))) off2
theorem wLetW {x : Str} {xp : Pos} {e : Expr}
    (y : wpAny (model PG w) A (eval e env) (fun v s' => ∃ hb' h0' hb0' m' O', St h0' hb0' hb' ((L, .ns m') :: O') s'.heap ∧ ∀ h2 tk, St h0' hb0' hb' ((L, .ns (upd m' x v)) :: O') h2 → wpAny (model PG w) A (execs rest env) Q E { s' with heap := h2, toks := tk }) E s)
    (hL : env.locals = L := by rfl) (hs : swapsWith e (some (.Name x xp)) pos.line env = pure false := by rfl) (hk : env.scope.kind = .function := by rfl) (hl : env.kindOf x = some .local := by rfl) :
    wpAny (model PG w) A (execs (.Assign [.Name x xp] e pos :: rest) env) Q E s := by
  subst hL
  refine wpAny_execs_cons (wpAny_Assign_Name (wpAny_mono y (fun v s' hy => ?_) fun _ _ e => e) hs)
  obtain ⟨hb', h0', hb0', m', O', S, k⟩ := hy
  refine wpAny_storeName_local hl S.ns (fun h2 hn sb => ?_) (by rw [hk]; rfl)
  exact k h2 _ (St.upd (pre := []) S (Ext.of_same sb) hn)
theorem wIfCmp {l r : Expr} {op : CmpOp} {body orelse : List Stmt} {p5 : Pos}
    (y : wpAny (model PG w) A (eval l env) (fun a s1 => wpAny (model PG w) A (eval r env) (fun b s2 => wpAny (model PG w) A (compareOp op a b) (fun c s3 => c = .bool false ∧ wpAny (model PG w) A (execs (orelse ++ rest) env) Q E s3) E s2) E s1) E s)
    (hm : behindInMarks op r = false := by with_unfolding_all rfl) :
    wpAny (model PG w) A (execs (.If (.Compare l [op] [r] p5) body orelse pos :: rest) env) Q E s := by
  rw [execs_if, isTrue_Compare1, markedBehindIn_of_false hm]
  refine wpAny_bind (wpAny_standAt (wpAny_bind (wpAny_bind (wpAny_mono y (fun a s1 y => ?_) fun _ _ e => e))))
  refine wpAny_bind (wpAny_holding (wpAny_mono y (fun b s2 y => ?_) fun _ _ e => e))
  refine wpAny_bind (wpAny_standAt (wpAny_bind (wpAny_operating (wpAny_mono y (fun c s3 y => ?_) fun _ _ e => e))))
  obtain ⟨rfl, y⟩ := y
  refine wpAny_holding (wpAny_truthy_bool ?_)
  exact y
theorem yCompMax {C p : Addr} {mp : Str → Option Value} {l rl : Addr} {rot : Bool} {wd ht : Int} {vs : List Value} {rs : List R4} {scope : Scope} {cl : List (Str × Addr)} {tp p1 p2 p3 p4 q1 q2 q3 q4 pm pp ap : Pos} {x1 : Nat} (hA : A.handled = none) (G : Glob w hb) (K : Pk w C) (I : Inst h p C mp) (P : PMap mp l rl rot wd ht)
    (hl : hb.PlainList l vs.toArray) (hr : Rects hb vs rs) (hz : rs.length ≤ 1000) (yp : Y w A hb h (eval (.Name "pack" pp) env) (Is (.ref p)))
    (hclos : closureFor scope env = pure cl := by rfl) (hcell : ∀ y ∈ scope.names, y.2 ≠ .cell := by decide) (hkind : scope.kind = .function := by rfl)
    (hnames : ∀ y ∈ scope.names, y.2 = .local → scope.names.lookup y.1 = some .local := by decide) (hs : ∀ x, foldedSetIterable (.Attribute (.Name "pack" pp) "_max_rects" ap) env x = pure x := by intro _; rfl)
    (hlx : ∀ C, (compEnvC scope cl C env).kindOf "m" = some .local := by intro _; rfl) (hkf : ∀ C, (compEnvC scope cl C env).scope.kind = .function := by intro _; rfl) (hloc : ∀ C, (compEnvC scope cl C env).locals = C := by intro _; rfl) :
    Y w A hb h (eval (.ListComp (.Tuple [.Attribute (.Name "m" p1) "x" q1, .Attribute (.Name "m" p2) "y" q2, .Attribute (.Name "m" p3) "width" q3, .Attribute (.Name "m" p4) "height" q4] x1 tp) [⟨.Name "m" pm, .Attribute (.Name "pack" pp) "_max_rects" ap, [], 0⟩] scope pos) env)
      fun v b => ∃ D ys, v = .ref D ∧ hb.get? D = none ∧ b.PlainList D ys.toArray ∧ TupIs b ys (rs.map row4) := by
  have hlen := hr.length
  refine yComp1 (P0 := Is (.ref l)) (yGetField G yp I K.fmr P.mr rfl) (fun v b1 h1 u e => ?_) hclos hcell hkind hnames hs
  cases e
  have hl1 : h1.IsList l vs.toArray := hl.isList.at fun o e => u.i _ _ (u.b _ _ e)
  refine ⟨_, _, vs.toArray.size, _, fun i ys b => TupIs b ys ((rs.take i).map row4), Itr.list hA hl1, fun h2 k => hl1.at fun o e => k _ _ e, by simp; lia, fun b _ => trivial, fun ys b j _ D nD b' kb pl => ⟨D, ys, rfl, nD, pl, ?_⟩, ?_⟩
  · have : rs.take vs.toArray.size = rs := List.take_of_length_le (by simp; lia)
    have j' : TupIs b ys ((rs.take vs.toArray.size).map row4) := j
    rw [this] at j'
    exact j'.keep kb
  rintro i ys v s0 h0' b2 b I' D C' m hi j hv u2 kb S0
  obtain ⟨a, r, rfl, Ir, hri⟩ := hr.at (v := v) (i := i) (by simpa using hv)
  have kbb : Keep hb b := u.b.trans (u2.b.trans kb)
  refine ⟨upd m "m" (.ref a), true, fun Q E q => aName S0 (fun h' tk S' => q h' tk S') (hloc C') (hkf C') (hlx C'), fun h' S' => yTests0, fun x => (by cases x), fun _ b3 h3 kb3 S3 => ?_⟩
  have kk : Keep hb b3 := kbb.trans kb3
  have G3 := G.keep kk
  have I3 : IsRect h3 a r := Ir.keep (kk.trans S3.base)
  have nm : ∀ {p}, Y w A b3 h3 (eval (.Name "m" p) (compEnvC scope cl C' env)) (Is (.ref a)) := fun {p} => yName (by rw [hloc]; exact S3.ns) rfl (hkf C') (hlx C')
  refine (yTup (R := fun vs _ => VI vs (row4 r)) (yIntsCons (yX G3 I3 nm) (yIntsCons (yY G3 I3 nm) (yIntsCons (yW G3 I3 nm) (yIntsCons (yH G3 I3 nm) yIntsNil)))) ?_).mono fun v b4 k4 e => ?_
  · intro vs b q; have := VI.length q; simp [row4] at this; lia
  · obtain ⟨t, us, b0, rfl, T, _, q⟩ := e
    show TupIs b4 (ys ++ [.ref t]) ((rs.take (i + 1)).map row4)
    rw [List.take_add_one, hri]
    simp only [Option.toList, List.map_append, List.map_cons, List.map_nil]
    exact (TupIs.keep (kb3.trans k4) j).append ⟨⟨t, us, rfl, T, q⟩, trivial⟩
theorem ySortMax {rs : List R4} {e : Expr} {sp : Pos} (G : Glob w hb) (h64 : rs.length < 64)
    (y : Y w A hb h (eval e env) fun v b => ∃ D ys, v = .ref D ∧ hb.get? D = none ∧ b.PlainList D ys.toArray ∧ TupIs b ys (rs.map row4)) (yf : Y w A hb h (eval (.Name "sorted" sp) env) (Is (.builtin "sorted")))
    (he : starEach [e] env = (false, eval e env) :: starEach [] env := by rfl) (hplain : ((backTo pos (starEach [e] env)).any (·.1) || (backToKw pos (keywordEach [] env)).any (·.1.isNone)) = false := by rfl) :
    Y w A hb h (eval (.Call (.Name "sorted" sp) [e] [] pos) env) (RowsL hb (sortR (rs.map row4))) := by
  refine yCall1 yf kept_bltn y (fun v b0 b1 h1 u1 k0 ⟨D, ys, e, nD, pl, T⟩ => ?_) he hplain
  subst e
  have four : ∀ r ∈ rs.map row4, r.length = 4 := fun r m => by
    obtain ⟨q, _, rfl⟩ := List.mem_map.mp m
    rfl
  have hlen := T.length
  rw [List.length_map] at hlen
  refine (ySorted (c := 4) (pl.isList.at fun o e => u1.i _ _ (k0 _ _ e)) (T.keep k0) four (by decide) (by lia)).mono fun v b' k' p => ?_
  obtain ⟨rows', ⟨D', vs', e, pl', tt, nD'⟩, pm, ls⟩ := p
  have er := sortR_eq (c := 4) four pm ls
  rw [er] at tt
  exact ⟨D', vs', e, pl', tt, keep_none u1.b nD'⟩
end
end Mine
end
noncomputable section
open PySem PySem.W PyProof.Rows PySem.Calls Builtin Builtin.ObjectAttr Builtin.Getset_descriptor PySem.SeqAt
set_option Elab.async false
set_option maxRecDepth 100000
set_option linter.unusedVariables false
namespace Mine
theorem range2_size : ∀ k : Fin 11, Builtin.Range.rangeSize 0 ((k.val : Int) - 1) 2 = ((k.val / 2 : Nat) : Int) ∧ Builtin.Range.small 0 ((k.val : Int) - 1) 2 = true := by decide
def lawNames : List Str := ["wide", "high", "most", "numbers", "pack", "laid", "rows"]
structure NM (m : Str → Option Value) (W H most : Int) (tw th tm : Tok) (Dn p Dla Dro : Addr) : Prop where
  wide : m "wide" = some (.int W tw)
  high : m "high" = some (.int H th)
  most : m "most" = some (.int most tm)
  numbers : m "numbers" = some (.ref Dn)
  pack : m "pack" = some (.ref p)
  laid : m "laid" = some (.ref Dla)
  rows : m "rows" = some (.ref Dro)
theorem NM.upd {m : Str → Option Value} {W H most : Int} {tw th tm : Tok} {Dn p Dla Dro : Addr} (N : NM m W H most tw th tm Dn p Dla Dro) {x : Str} {v : Value} (hx : lawNames.contains x = false := by decide) : NM (upd m x v) W H most tw th tm Dn p Dla Dro := by
  have ne : ∀ y ∈ lawNames, y ≠ x := fun y hy e => by
    subst e
    have : lawNames.contains y = true := by simpa using hy
    rw [hx] at this; cases this
  have other : ∀ y ∈ lawNames, Mine.upd m x v y = m y := fun y hy => by unfold Mine.upd; rw [if_neg (ne y hy)]
  exact ⟨(other _ (by decide)).trans N.wide, (other _ (by decide)).trans N.high, (other _ (by decide)).trans N.most, (other _ (by decide)).trans N.numbers, (other _ (by decide)).trans N.pack, (other _ (by decide)).trans N.laid, (other _ (by decide)).trans N.rows⟩
theorem packW {w : World} {n : Nat} (h : n < 4) : PkW w (packCls n) n := by
  match n, h with
  | 0, _ => exact pkw0 w
  | 1, _ => exact pkw1 w
  | 2, _ => exact pkw2 w
  | 3, _ => exact pkw3 w
theorem VI.getD : ∀ {vs : List Value} {ns : List Int} {k : Nat} {v : Value} {o : Int}, VI vs ns → vs[k]? = some v → ∃ t, v = .int (ns.getD k o) t := fun {vs ns k v o} h e => by
  obtain ⟨x, t, rfl, hx⟩ := VI.at h e
  refine ⟨t, ?_⟩
  rw [List.getD_eq_getElem?_getD, hx]; rfl
theorem tl8 {α : Type} {a x1 x2 x3 x4 x5 x6 x7 x8 : α} {l : List α} (h : a ∈ l) : a ∈ x1 :: x2 :: x3 :: x4 :: x5 :: x6 :: x7 :: x8 :: l := .tail _ (.tail _ (.tail _ (.tail _ (.tail _ (.tail _ (.tail _ (.tail _ h)))))))
theorem fitRows_succ {way : Nat} {e : R4} {ps : List (Int × Int)} {j : Nat} {p : Int × Int} (h : ps[j]? = some p) : fitRows way e (ps.take (j + 1)) = fitRows way e (ps.take j) ++ if (decide (p.1 ≤ e.w) && decide (p.2 ≤ e.h)) = true then [[measure way e.y e.w e.h p.1 p.2, e.x, e.y, p.1, p.2]] else [] := by
  unfold fitRows
  rw [List.take_add_one, h]
  simp only [Option.toList, List.filter_append, List.map_append]
  congr 1
  rw [List.filter_cons]
  split <;> simp
theorem fitRows_len {way : Nat} {e : R4} {ps : List (Int × Int)} : (fitRows way e ps).length ≤ ps.length := by
  unfold fitRows; rw [List.length_map]; exact List.length_filter_le _ _
theorem pairsT_len {turn : Bool} {a b : Int} : (pairsT turn a b).length ≤ 2 := by unfold pairsT; split <;> simp
section
variable {w : World} {A : Around} {hb h h0 hb0 : Heap} {env : Env} {pos : Pos} {O pre post : List (Addr × Own)} {L : Addr} {m : Str → Option Value} {s : Shared} {rest : List Stmt} {Q : Flow → Shared → Prop} {E : Value → Shared → Prop}
theorem yEqNil {l : Addr} {vs : List Value} {rows : List (List Int)} {e1 : Expr} {lp : Pos} (hA : A.units + 64 < cLine) (hl : h.IsList l vs.toArray) (T : TupIs hb vs rows) (y1 : Y w A hb h (eval e1 env) (Is (.ref l)))
    (hm : behindInMarks .Eq (.List [] lp) = false := by with_unfolding_all rfl) : Y w A hb h (eval (.Compare e1 [.Eq] [.List [] lp] pos) env) (Is (.bool (decide (rows = [])))) :=
  yCompare (P1 := Is (.ref l)) (P2 := fun v b => ∃ D, v = .ref D ∧ b.PlainList D #[]) y1 (fun _ b1 h1 u _ => (yLst (R := fun vs _ => vs = []) (yArgs_nil fun _ _ => rfl) (by rintro _ _ rfl; decide)).mono fun v b k p => by
      obtain ⟨D, us, b0, e2, pl, _, e3, _⟩ := p
      subst e3; exact ⟨D, e2, pl⟩) (fun v1 v2 b1 h1 b2 h2 u1 u2 e1 ⟨D, e2, pl⟩ => by
    subst e2; cases e1
    refine yTok fun s Q E kb kh q => ?_
    exact eq_rows (hb := hb) (vs2 := []) (r2 := []) ((u1.b.trans u2.b).trans kb) hA (hl.at fun o e => kh _ _ (u2.h _ _ (u1.h _ _ e))) (pl.isList.at fun o e => kb _ _ e) T trivial (q _ s.toks fun _ _ => rfl)) hm
theorem yHeads {l : Addr} {vs : List Value} {rows : List (List Int)} {scope : Scope} {cl : List (Str × Addr)} {pr p1 p2 p3 : Pos} {k0 : Nat} (hA : A.handled = none) (hl : h.IsList l vs.toArray) (T : TupIs hb vs rows) (hz : rows.length ≤ 1000) (h0 : ∀ r ∈ rows, 0 < r.length) {iter : Expr} (yi : Y w A hb h (eval iter env) (Is (.ref l)))
    (hclos : closureFor scope env = pure cl := by rfl) (hcell : ∀ y ∈ scope.names, y.2 ≠ .cell := by decide) (hkind : scope.kind = .function := by rfl)
    (hnames : ∀ y ∈ scope.names, y.2 = .local → scope.names.lookup y.1 = some .local := by decide) (hs : ∀ x, foldedSetIterable iter env x = pure x := by intro _; rfl)
    (hlx : ∀ C, (compEnvC scope cl C env).kindOf "row" = some .local := by intro _; rfl) (hkf : ∀ C, (compEnvC scope cl C env).scope.kind = .function := by intro _; rfl) (hloc : ∀ C, (compEnvC scope cl C env).locals = C := by intro _; rfl) :
    Y w A hb h (eval (.ListComp (.Subscript (.Name "row" p1) (.Constant (.int 0) k0 p2) p3) [⟨.Name "row" pr, iter, [], 0⟩] scope pos) env) fun v b => ∃ D ys, v = .ref D ∧ b.PlainList D ys.toArray ∧ VI ys (rows.map fun r => r.getD 0 0) := by
  have hlen := T.length
  refine yComp1 yi (fun v b1 h1 u e => ?_) hclos hcell hkind hnames hs
  cases e
  have hl1 : h1.IsList l vs.toArray := hl.at fun o e => u.h _ _ e
  refine ⟨_, _, vs.toArray.size, _, fun i ys b => VI ys ((rows.take i).map fun r => r.getD 0 0), Itr.list hA hl1, fun h2 k => hl1.at fun o e => k _ _ e, by simp; lia, fun b _ => trivial, fun ys b j _ D nD b' kb pl => ⟨D, ys, rfl, pl, ?_⟩, ?_⟩
  · have : rows.take vs.toArray.size = rows := List.take_of_length_le (by simp; lia)
    have j' : VI ys ((rows.take vs.toArray.size).map fun r => r.getD 0 0) := j
    rw [this] at j'
    exact j'
  rintro i ys v s0 h0' b2 b I' D C' m hi j hv u2 kb S0
  obtain ⟨r, ⟨t, us, rfl, Tt, vi⟩, hr⟩ := T.at (by simpa using hv)
  have hpos := h0 r (List.mem_of_getElem? hr)
  match us, r, vi, hpos with
  | u0 :: us, r0 :: rs, vi, _ =>
    obtain ⟨⟨t0, e0⟩, vi⟩ := vi
    subst e0
    refine ⟨upd m "row" (.ref t), true, fun Q E q => aName S0 (fun h' tk S' => q h' tk S') (hloc C') (hkf C') (hlx C'), fun h' S' => yTests0, fun x => (by cases x), fun _ b3 h3 kb3 S3 => ?_⟩
    have kk : Keep hb h3 := (u.b.trans (u2.b.trans (kb.trans kb3))).trans S3.base
    have nm : Y w A b3 h3 (eval (.Name "row" p1) (compEnvC scope cl C' env)) (Is (.ref t)) := yName (by rw [hloc]; exact S3.ns) rfl (hkf C') (hlx C')
    refine (yItemT (q := 0) (Tt.keep kk) (by decide) rfl (fun _ _ _ => yInt) nm).mono fun v b4 k4 e => ?_
    show VI (ys ++ [v]) ((rows.take (i + 1)).map fun r => r.getD 0 0)
    rw [List.take_add_one, hr]
    simp only [Option.toList, List.map_append, List.map_cons, List.map_nil]
    exact VI.append j ⟨⟨t0, e⟩, trivial⟩
  | [], r0 :: rs, vi, _ => exact vi.elim
theorem yCall3 {id : Str} {p : Pos} {f v1 : Value} {x2 x3 : Int} {e1 e2 e3 : Expr} {P : Value → Heap → Prop} (yf : Y w A hb h (eval (.Name id p) env) (Is f)) (hk : Kept w hb f) (y1 : Y w A hb h (eval e1 env) (Is v1)) (y2 : Y w A hb h (eval e2 env) (IsI x2)) (y3 : Y w A hb h (eval e3 env) (IsI x3))
    (z : ∀ t2 t3 b1 h1, Up hb h b1 h1 → Y w A b1 h1 (call f [v1, .int x2 t2, .int x3 t3] []) P)
    (he : starEach [e1, e2, e3] env = (false, eval e1 env) :: starEach [e2, e3] env := by rfl) (he2 : starEach [e2, e3] env = (false, eval e2 env) :: starEach [e3] env := by rfl) (he3 : starEach [e3] env = (false, eval e3 env) :: starEach [] env := by rfl)
    (hplain : ((backTo pos (starEach [e1, e2, e3] env)).any (·.1) || (backToKw pos (keywordEach [] env)).any (·.1.isNone)) = false := by rfl) :
    Y w A hb h (eval (.Call (.Name id p) [e1, e2, e3] [] pos) env) P :=
  yCallName (R := fun vs _ => ∃ t2 t3, vs = [v1, .int x2 t2, .int x3 t3]) yf hk
    (yArgs_cons y1 (fun v b1 h1 u p1 => (yArgs_cons (R := fun vs _ => ∃ t2 t3, vs = [.int x2 t2, .int x3 t3]) (y2.keep u) (fun v2 b2 h2 u2 p2 => (yArgs_cons (R := fun vs _ => ∃ t3, vs = [.int x3 t3]) (y3.keep (u.trans u2)) (fun v3 b3 h3 u3 p3 => yArgs_nil fun _ _ => by obtain ⟨t, rfl⟩ := p3; exact ⟨t, rfl⟩) he3).mono fun vs _ _ ⟨t3, e⟩ => by obtain ⟨t2, rfl⟩ := p2; exact ⟨t2, t3, by rw [e]⟩) he2).mono fun vs _ _ ⟨t2, t3, e⟩ => by cases p1; exact ⟨t2, t3, by rw [e]⟩) he)
    (fun vs b1 h1 u ⟨t2, t3, e⟩ => by subst e; exact z t2 t3 b1 h1 u) he hplain
theorem wForItr {target iter : Expr} {body : List Stmt} {P0 : Value → Heap → Prop} (S : St h0 hb0 hb ((L, .ns m) :: O) s.heap) (yi : Y w A hb s.heap (eval iter env) P0)
    (k : ∀ v b1 h1, P0 v b1 → St h0 hb0 b1 ((L, .ns m) :: O) h1 → Keep hb b1 → ∃ T need n PI, Itr w A v h1 T need n PI ∧ ∀ I h2 tk, St h0 hb0 b1 ((L, .ns m) :: (I, T 0) :: O) h2 → Keep h1 h2 →
      codeAny (model PG w) A (.forLoop target (.ref I) body [] env) (After w A env rest Q E) { s with heap := h2, toks := tk })
    (hs : ∀ x, foldedSetIterable iter env x = pure x := by intro _; rfl) :
    wpAny (model PG w) A (execs (.For target iter body [] pos :: rest) env) Q E s := by
  refine wpAny_execs_cons (wpAny_For (yi.use S.base fun v b1 h1 tk p r => ?_) hs)
  obtain ⟨T, need, n, PI, it, k⟩ := k v b1 h1 p (S.up r) r.up.b
  refine it.start _ _ _ (Keep.refl _) fun I h2 tk2 fr atI k2 => ?_
  refine codeAny_mono (k I h2 tk2 (St.add (pre := [_]) (S.up r) k2 fr atI) k2) fun r' s' a => ?_
  cases r' with
  | error e => exact a
  | ok f => cases f <;> exact a
theorem wCheckList {C p dp rl : Addr} {mp : Str → Option Value} {n : Nat} {l : Addr} {xs ros : List Value} {rowsR : List (R4 × Int)} {rot : Bool} {wd ht : Int} {Dro I : Addr} {T : Own} {O2 O3 : List (Addr × Own)} {body : List Stmt} {p1 p2 p3 p4 p5 : Pos} {pl : Sem Bool}
    (S : St h0 hb0 hb ((L, .ns m) :: (I, T) :: (Dro, .lst ros.toArray) :: (O2 ++ ((dp, .idc mp n) :: (rl, .lst xs.toArray) :: O3))) s.heap) (G : Glob w hb) (R : Rm 6 A) (K : Pk w C) (ho : hb.get? p = some (instObj C dp)) (hn : n ≤ 50) (P : PMap mp l rl rot wd ht)
    (hr : Laid hb xs rowsR) (hz : xs.length ≤ 100) (Tr : TupIs hb ros (rowsR.map row5)) (mp1 : m "pack" = some (.ref p)) (mr : m "rows" = some (.ref Dro))
    (z : ∀ b' h' tk gs, St h0 hb0 b' ((L, .ns m) :: (I, T) :: (Dro, .lst ros.toArray) :: (O2 ++ ((dp, .idc mp n) :: (rl, .lst xs.toArray) :: O3))) h' → Keep hb b' → (AllBare s.gens → AllBare gs) → wpAny (model PG w) A (execs rest env) Q E { s with heap := h', toks := tk, gens := gs })
    (hL : env.locals = L := by rfl) (hk : env.scope.kind = .function := by rfl) (hl1 : env.kindOf "pack" = some .local := by rfl) (hl2 : env.kindOf "rows" = some .local := by rfl)
    (ht' : eval (.Call (.Attribute (.Name "pack" p1) "rect_list" p2) [] [] p3) env = (do
      let ov ← eval (.Name "pack" p1) env
      PySem.standAt p2.atName
      let (f, first) ← PySem.holding [ov] (getMethod ov "rect_list" pl)
      callWith p3 f first (backTo p3 (starEach [] env)) (backToKw p3 (keywordEach [] env))) := by rfl) :
    wpAny (model PG w) A (execs (.If (.Compare (.Call (.Attribute (.Name "pack" p1) "rect_list" p2) [] [] p3) [.NotEq] [.Name "rows" p4] p5) body [] pos :: rest) env) Q E s := by
  subst hL
  have hmem : (dp, Own.idc mp n) ∈ (env.locals, Own.ns m) :: (I, T) :: (Dro, .lst ros.toArray) :: (O2 ++ ((dp, .idc mp n) :: (rl, .lst xs.toArray) :: O3)) := .tail _ (.tail _ (.tail _ (List.mem_append_right _ (.head _))))
  have rot : ((env.locals, Own.ns m) :: (I, T) :: (Dro, .lst ros.toArray) :: (O2 ++ ((dp, .idc mp n) :: (rl, .lst xs.toArray) :: O3))).Perm ((dp, .idc mp n) :: (rl, .lst xs.toArray) :: ((env.locals, Own.ns m) :: (I, T) :: (Dro, .lst ros.toArray) :: O2 ++ O3)) := by
    have := perm_rot ((env.locals, Own.ns m) :: (I, T) :: (Dro, .lst ros.toArray) :: O2) [(dp, .idc mp n), (rl, .lst xs.toArray)] O3
    simpa using this
  refine wIfCmp (wpMeth0 S G (yName S.ns mp1 hk hl1) (S.inst ho hmem (by lia)) K.rl (P.no _ (by decide)) (by kernel_rfl) (fun b1 h1 tk1 S1 k1 => ?_) ht')
  refine m_rect_list (s := { s with heap := h1, toks := tk1 }) (S1.perm rot) (G.keep k1) R K (k1 _ _ ho) hn P (hr.keep k1) hz fun D vs b2 h2 tk2 gs S2 k2 pl T2 bare => ?_
  have S2 := S2.perm rot.symm
  have yv : Y w A b2 h2 (eval (.Name "rows" p4) env) (Is (.ref Dro)) := yName S2.ns mr hk hl2
  refine yv.use (s := { s with heap := h2, toks := tk2, gens := gs }) S2.base fun v b3 h3 tk3 e r3 => ?_
  cases e
  have S3 := S2.up r3
  have k3 := r3.up.b
  have hro : h3.IsList Dro ros.toArray := Heap.PlainList.isList (S3.mem (p := (Dro, .lst ros.toArray)) mem2)
  refine ne_rows (hb := b3) S3.base (by have := R.line; lia) (pl.isList.at fun o e => S3.base _ _ (k3 _ _ e)) hro (T2.keep k3) (Tr.keep (k1.trans (k2.trans k3))) ⟨by simp, ?_⟩
  exact z b3 h3 tk3 gs S3 (k1.trans (k2.trans k3)) bare
end
end Mine
end
noncomputable section
open PySem PySem.W PyProof.Rows PySem.Calls Builtin Builtin.ObjectAttr Builtin.Getset_descriptor PySem.SeqAt
set_option Elab.async false
set_option maxRecDepth 100000
set_option linter.unusedVariables false
namespace Mine
inductive LJ (L dp rl p Dn Dla Dro : Addr) (O : List (Addr × Own)) (turn : Bool) (pw : Int) (tw0 tw th tm : Tok) (nn : Nat) (W H : Int) (b12 : Heap) (i : Nat) (m : Str → Option Value) (O' : List (Addr × Own)) (b' : Heap) : Prop
  | mk (mp' : Str → Option Value) (l : Addr) (xs las ros vsF : List Value) (F laid : List R4) (rowsR : List (R4 × Int)) (v4 v3 : Option Value)
      (e : O' = (Dro, .lst ros.toArray) :: (Dla, .lst las.toArray) :: (L + 1 + 1 + 1 + 1, .cel v4) :: (L + 1 + 1 + 1, .cel v3) :: (L + 1 + 1, .cel (some (.bool turn))) :: (L + 1, .cel (some (.int pw tw0))) :: (341, .tab) :: (402, .tab) :: (dp, .idc mp' nn) :: (rl, .lst xs.toArray) :: O)
      (PM : PMap mp' l rl turn W H) (pl : b'.PlainList l vsF.toArray) (rF : Rects b' vsF F) (inv : Inv F laid W H) (hl : laid.length ≤ i) (Tla : TupIs b' las (laid.map row4)) (Lx : Laid b' xs rowsR) (Tro : TupIs b' ros (rowsR.map row5)) (hx : xs.length ≤ i) (nm : NM m W H (max W H) tw th tm Dn p Dla Dro) (kb : Keep b12 b')
section
variable {w : World} {A : Around} {hb0 h0 hb h : Heap} {O : List (Addr × Own)} {s : Shared}
set_option maxHeartbeats 4000000 in
theorem m_law {sc : Addr} {vs : List Value} {ns : List Int} {outer : List Env} {Rr : Result → Shared → Prop} (S : St h0 hb0 hb ((341, .tab) :: (402, .tab) :: O) s.heap) (G : Glob w hb) (R : Rm 14 A) (hfr : A.frames = some outer) (Fs : Frames outer O)
    (hl : hb.IsList sc vs.toArray) (hi : VI vs ns) (hz : vs.length ≤ 100) (hbits : ∀ x ∈ ns, Builtin.Int.intBits x ≤ 1048576)
    (k : ∀ b' h' tk gs, St h0 hb0 b' ((341, .tab) :: (402, .tab) :: O) h' → (AllBare s.gens → AllBare gs) → Rr (.ok (.ret (.bool true))) { s with heap := h', toks := tk, gens := gs }) :
    codeAny (model PG w) A (.call (.ref 507) ⟨[.ref sc], []⟩) Rr s := by
  have hlen := hi.length
  refine callMC (binds := [("script", .ref sc)]) S G R (by rfl) (by kernel_rfl) rfl (by intro x hx; simp at hx; subst hx; exact .inl (by rfl)) (by decide) fun h1 tk1 L R1 S kk1 E => ?_
  generalize hm0 : bindL _ [("script", Value.ref sc)] (fun _ => none) = m0 at S
  have n1 : m0 "script" = some (.ref sc) := by rw [← hm0]; rfl
  clear hm0
  have S : St h0 hb0 hb ((L, .ns m0) :: (L + 1 + 1 + 1 + 1, .cel none) :: (L + 1 + 1 + 1, .cel none) :: (L + 1 + 1, .cel none) :: (L + 1, .cel none) :: (341, .tab) :: (402, .tab) :: O) h1 := S
  have hat : ∀ (k : Nat) (o : Int) (v : Value), vs[k]? = some v → ∃ t, v = Value.int (ns.getD k o) t := fun k o v e => VI.getD hi e
  have hat' : ∀ (k : Nat) (o : Int), vs.length ≤ k → ns.getD k o = o := fun k o e => by
    rw [List.getD_eq_getElem?_getD, List.getElem?_eq_none (by lia)]; rfl
  have hlS : ∀ {b' h'} {O' : List (Addr × Own)}, St h0 hb0 b' O' h' → Keep hb b' → h'.IsList sc vs.toArray := fun S k => hl.at fun o e => S.base _ _ (k _ _ e)
  refine wLet S (P1 := IsI (ns.getD 0 1)) (yCall3 (yGlob G (by rfl)) (kept_K G (by kernel_rfl)) (yName S.ns n1) (yInt (i := 0)) (yInt (i := 1)) fun t2 t3 b1 h1' u => ?_) fun v b1 h2 tk2 e S2 kb1 => ?_
  · exact yCall (c_at (k := 0) (G.keep u.b) (R1.less (by decide)) (hl.at fun o e => u.i _ _ (u.b _ _ e)) (by lia) (hat 0 1) (hat' 0 1))
  obtain ⟨tp, rfl⟩ := e
  generalize hpick : ns.getD 0 1 = pick at S2
  have G1 := G.keep kb1
  refine wLetC (pre := [_, _, _, _]) (post := _) (P1 := IsI (pick.fmod 4)) S2 (yMod (yNameI S2.ns rfl) yInt (by decide)) fun v b2 h3 tk3 e S3 kb2 => ?_
  obtain ⟨tw0, rfl⟩ := e
  obtain ⟨n, hn, hn4⟩ : ∃ n : Nat, pick.fmod 4 = n ∧ n < 4 := by
    have h1 : 0 ≤ pick.fmod 4 := Int.fmod_nonneg_of_pos _ (by decide)
    have h2 : pick.fmod 4 < 4 := Int.fmod_lt_of_pos _ (by decide)
    exact ⟨(pick.fmod 4).toNat, by lia, by lia⟩
  generalize pick.fmod 4 = pw at S3 hn
  refine wLetC (pre := [_, _, _]) (post := _) (P1 := Is (.bool (cmpB .NotEq (pick.fmod 3) 0))) S3 (yCmp (yMod (yNameI S3.ns rfl) yInt (by decide)) yInt) fun v b3 h4 tk4 e S4 kb3 => ?_
  cases e
  generalize cmpB .NotEq (pick.fmod 3) 0 = turn at S4
  have kb3' := kb1.trans (kb2.trans kb3)
  have G3 := G.keep kb3'
  refine wLet S4 (P1 := IsI (1 + ((ns.getD 1 4).natAbs : Int))) (yAdd yInt (yAbs (yCall3 (x2 := 1) (x3 := 4) (yGlob G3 (by rfl)) (kept_K G3 (by kernel_rfl)) (yName S4.ns n1) yInt yInt fun t2 t3 b1 h1' u => ?_) (yBltn G3 (by rfl) bltn_abs (by decide)))) fun v b4 h5 tk5 e S5 kb4 => ?_
  · exact yCall (c_at (k := 1) (G3.keep u.b) (R1.less (by decide)) (hl.at fun o e => u.i _ _ (u.b _ _ (kb3' _ _ e))) (by lia) (hat 1 4) (hat' 1 4))
  obtain ⟨tw, rfl⟩ := e
  have kb4' := kb3'.trans kb4
  have G4 := G.keep kb4'
  refine wLet S5 (P1 := IsI (1 + ((ns.getD 2 3).natAbs : Int))) (yAdd yInt (yAbs (yCall3 (x2 := 2) (x3 := 3) (yGlob G4 (by rfl)) (kept_K G4 (by kernel_rfl)) (yName S5.ns n1) yInt yInt fun t2 t3 b1 h1' u => ?_) (yBltn G4 (by rfl) bltn_abs (by decide)))) fun v b5 h6 tk6 e S6 kb5 => ?_
  · exact yCall (c_at (k := 2) (G4.keep u.b) (R1.less (by decide)) (hl.at fun o e => u.i _ _ (u.b _ _ (kb4' _ _ e))) (by lia) (hat 2 3) (hat' 2 3))
  obtain ⟨th, rfl⟩ := e
  have kb5' := kb4'.trans kb5
  have G5 := G.keep kb5'
  have bitsD : ∀ (k : Nat) (o : Int), Builtin.Int.intBits o ≤ 1048576 → Builtin.Int.intBits (ns.getD k o) ≤ 1048576 := fun k o ho => by
    rw [List.getD_eq_getElem?_getD]
    cases e : ns[k]? with
    | none => exact ho
    | some x => exact hbits x (List.mem_of_getElem? e)
  have bW : Builtin.Int.intBits (1 + ((ns.getD 1 4).natAbs : Int)) ≤ 1048577 := PySem.intBits_add_le (m := 1) (by decide) (PySem.intBits_natAbs_le (bitsD 1 4 (by decide)))
  have bH : Builtin.Int.intBits (1 + ((ns.getD 2 3).natAbs : Int)) ≤ 1048577 := PySem.intBits_add_le (m := 1) (by decide) (PySem.intBits_natAbs_le (bitsD 2 3 (by decide)))
  have pW : 0 < (1 + ((ns.getD 1 4).natAbs : Int)) := by lia
  have pH : 0 < (1 + ((ns.getD 2 3).natAbs : Int)) := by lia
  generalize (1 + ((ns.getD 1 4).natAbs : Int)) = W at S6 bW pW
  generalize (1 + ((ns.getD 2 3).natAbs : Int)) = H at S6 bH pH
  refine wLet S6 (P1 := IsI (max W H)) (yMax2 G5 R1.hd (yNameI S6.ns rfl) (yNameI S6.ns rfl) (yBltn G5 (by rfl) bltn_max (by decide))) fun v b6 h7 tk7 e S7 kb6 => ?_
  obtain ⟨tm, rfl⟩ := e
  have kb6' := kb5'.trans kb6
  have G6 := G.keep kb6'
  have mulok : ∀ {x y : Int}, 0 < x → 0 < y → x ≤ 1 + max W H → y ≤ 1 + max W H → IntMulOk x y := fun {x y} hx hy h1 h2 => by
    have bm : Builtin.Int.intBits (1 + max W H) ≤ 1048578 := by
      refine PySem.intBits_add_le (m := 1) (n := 1048577) (by decide) ?_
      rcases Int.le_total W H with h | h
      · rw [Int.max_eq_right h]; exact bH
      · rw [Int.max_eq_left h]; exact bW
    exact PyProof.Rows.mulOk_of_bits (PySem.intBits_le_of_natAbs (by lia) bm) (PySem.intBits_le_of_natAbs (by lia) bm) (by decide)
  refine wLet S7 (P1 := fun v b => ∃ D us ms, v = .ref D ∧ b.PlainList D us.toArray ∧ VI us ms ∧ us.length ≤ 10) (yIfExp (b := decide (4 < (vs.length : Int))) ?_ (fun hb' => ?_) fun hb' => ?_) fun v b7 h8 tk8 e S8 kb7 => ?_
  · refine yEq (yTestCompare (yCmp (yLen (hlS S7 kb6') (by simp; lia) (yName S7.ns (by exact n1)) (yBltn G6 (by rfl) bltn_len (by decide))) yInt)) (by simp [cmpB])
  · have h4 : 4 < vs.length := by have := of_decide_eq_true hb'; lia
    refine (ySliceList (i := 3) (j := 13) (hlS S7 kb6') (by lia) (yName S7.ns (by exact n1)) yInt yInt).mono fun v b _ ⟨D, e, pl⟩ => ?_
    obtain ⟨us, ms, e1, vi, l10, _⟩ := slice_ints hi (by lia)
    rw [e1] at pl
    exact ⟨D, us, ms, e, pl, vi, l10⟩
  · refine (yLst (R := fun vs _ => VI vs [3, 0, 0, 6]) (yIntsCons yInt (yIntsCons yInt (yIntsCons yInt (yIntsCons yInt yIntsNil)))) (by intro vs _ q; have := VI.length q; simp at this; lia)).mono fun v b k' e => ?_
    obtain ⟨D, us, b0, e, pl, _, vi, _⟩ := e
    exact ⟨D, us, _, e, pl, vi, by have := VI.length vi; simp at this; lia⟩
  obtain ⟨Dn, us, ms, rfl, pln, vin, l10⟩ := e
  have kb7' := kb6'.trans kb7
  have G7 := G.keep kb7'
  have cw : h8.IsCell (L + 1) (some (.int pw tw0)) := S8.mem (p := (L + 1, .cel (some (.int pw tw0)))) mem4
  have ct : h8.IsCell (L + 1 + 1) (some (.bool turn)) := S8.mem (p := (L + 1 + 1, .cel (some (.bool turn)))) mem3
  refine wLet S8 (P1 := IsPack b7 (packCls n) turn W H) (yCallName (yGlob G7 (by rfl)) (kept_K G7 (by kernel_rfl)) (yIsCons (yCell cw) (yIsCons (yName S8.ns rfl) (yIsCons (yName S8.ns rfl) (yIsCons (yCell ct) yIsNil)))) fun vs' b' h' u e => ?_) fun v b8 h9 tk9 e S9 kb8 => ?_
  · cases e
    refine (yCall (c_bin hn hn4 (G7.keep u.b) (R1.less (by decide)) (Int.le_of_lt pW) (Int.le_of_lt pH))).mono fun v b kv ⟨p, dp, l, D, a, mp, nn, e, N⟩ => ⟨p, dp, l, D, a, mp, nn, e, N.base u.b⟩
  obtain ⟨p, dp, l0, rl, ar, mp, nn, rfl, N⟩ := e
  obtain ⟨b9, S9, kb9, hpo, pl0, Ir0⟩ := S9.unpack N (S8.res.up.b) kb8
  have S9 : St h0 hb0 b9 ((L, .ns _) :: (L + 1 + 1 + 1 + 1, .cel none) :: (L + 1 + 1 + 1, .cel none) :: (L + 1 + 1, .cel (some (.bool turn))) :: (L + 1, .cel (some (.int pw tw0))) :: (341, .tab) :: (402, .tab) :: (dp, .idc mp nn) :: (rl, .lst #[]) :: O) h9 :=
    S9.perm (perm_rot [(dp, Own.idc mp nn), (rl, .lst #[])] [(L, .ns _), (L + 1 + 1 + 1 + 1, .cel none), (L + 1 + 1 + 1, .cel none), (L + 1 + 1, .cel (some (.bool turn))), (L + 1, .cel (some (.int pw tw0))), (341, .tab), (402, .tab)] O)
  have kb9' := kb7'.trans kb9
  have pln9 : b9.PlainList Dn us.toArray := let ⟨q, e⟩ := pln; ⟨q, kb9 _ _ e⟩
  have hnn : nn ≤ 50 := by have := N.few; lia
  have PM0 := N.map
  refine wLetOwn S9 (yLst (R := fun vs _ => vs = []) (yArgs_nil fun _ _ => rfl) (by rintro _ _ rfl; decide)) fun Dla las0 b0 h10 tk10 e10 S10 => ?_
  subst e10
  refine wLetOwn S10 (yLst (R := fun vs _ => vs = []) (yArgs_nil fun _ _ => rfl) (by rintro _ _ rfl; decide)) fun Dro ros0 b0' h11 tk11 e11 S11 => ?_
  subst e11
  obtain ⟨mL, S11, hnm⟩ : ∃ mL, St h0 hb0 b9 ((L, .ns mL) :: (Dro, .lst #[]) :: (Dla, .lst #[]) :: (L + 1 + 1 + 1 + 1, .cel none) :: (L + 1 + 1 + 1, .cel none) :: (L + 1 + 1, .cel (some (.bool turn))) :: (L + 1, .cel (some (.int pw tw0))) :: (341, .tab) :: (402, .tab) :: (dp, .idc mp nn) :: (rl, .lst #[]) :: O) h11 ∧ NM mL W H (max W H) tw th tm Dn p Dla Dro := ⟨_, S11, ⟨rfl, rfl, rfl, rfl, rfl, rfl, rfl⟩⟩
  have G9 := G.keep kb9'
  have K : PkW w (packCls n) n := packW hn4
  have hln : h11.IsList Dn us.toArray := pln9.isList.at fun o e => S11.base _ _ e
  refine wForItr S11 (P0 := fun v b => ∃ r t u z, v = .ref r ∧ IsRange b r 0 ((us.toArray.size : Int) - 1) 2 t u z) (yRange3 (by decide) (by decide) yInt (ySub (yLen hln (by simp; lia) (yName S11.ns hnm.numbers) (yBltn G9 (by rfl) bltn_len (by decide))) yInt) yInt (yBltn G9 (by rfl) bltn_range (by decide))) fun v b12 h12 e S12 kb12 => ?_
  obtain ⟨r, tr, ur, zr, rfl, hrng⟩ := e
  obtain ⟨hsz, hsm⟩ := range2_size ⟨us.length, by lia⟩
  have hsz : Builtin.Range.rangeSize 0 ((us.toArray.size : Int) - 1) 2 = ((us.length / 2 : Nat) : Int) := by simpa using hsz
  have hsm : Builtin.Range.small 0 ((us.toArray.size : Int) - 1) 2 = true := by simpa using hsm
  refine ⟨_, _, us.length / 2, _, Itr.range R1.hd (S12.base _ _ hrng) hsm hsz, fun I h13 tk13 S13 k13 => ?_⟩
  have kb12' := kb9'.trans kb12
  refine for_core2 (m := mL) (Src.range R1.hd I 0 2 (us.length / 2)) (LJ L dp rl p Dn Dla Dro O turn pw tw0 tw th tm nn W H b12)
    (fun s' => ∃ h' tk gs, s' = { s with heap := h', toks := tk, gens := gs } ∧ (AllBare s.gens → AllBare gs)) (by rintro _ h' tk ⟨_, _, gs, rfl, b⟩; exact ⟨h', tk, gs, rfl, b⟩) (fun _ _ _ _ _ _ _ _ => trivial) ?_ ?_ ?_ ⟨_, _, s.gens, rfl, fun x => x⟩ S13
  · rintro i m O' b' s14 v E2 QA kA hi' ⟨mp', l, xs, las, ros, vsF, F, laid, rowsR, v4, v3, rfl, PM, plF, rF, hInv, hlaid, Tla, Lxs, Tro, hxs, hnm, kb'⟩ ⟨h14, tk14, gs14, rfl, bare14⟩ ⟨tk0, rfl⟩ S14
    have ek : (0 + (i : Int) * 2) = ((2 * i : Nat) : Int) := by lia
    rw [ek]
    have hi2 : 2 * i + 1 < us.length := by lia
    have h5 : laid.length ≤ 5 := by lia
    refine aName S14 fun h15 tk15 S15 => kA _ fun QB kQ => ?_
    have hnm := hnm.upd (x := "k") (v := .int ((2 * i : Nat) : Int) tk0)
    have nk : upd m "k" (.int ((2 * i : Nat) : Int) tk0) "k" = some (.int ((2 * i : Nat) : Int) tk0) := rfl
    generalize upd m "k" (.int ((2 * i : Nat) : Int) tk0) = m15 at S15 hnm nk
    have kbA : Keep hb b' := kb12'.trans kb'
    have GA := G.keep kbA
    have hln15 : h15.IsList Dn us.toArray := pln9.isList.at fun o e => S15.base _ _ (kb' _ _ (kb12 _ _ e))
    obtain ⟨na, ta, ea, _⟩ := VI.at vin (List.getElem?_eq_getElem (show 2 * i < us.length by lia))
    obtain ⟨nb, tb, eb, _⟩ := VI.at vin (List.getElem?_eq_getElem hi2)
    refine wLetC (pre := [_, _, _, _, _]) (post := _) (P1 := IsI (side na (max W H))) S15 (yCall2 (P1 := Is (.int na ta)) (P2 := Is (.int (max W H) tm)) (yGlob GA (by rfl)) (kept_K GA (by kernel_rfl)) (yItemL (q := 2 * i) hln15 (by lia) (by rw [← ea]; exact List.getElem?_eq_getElem _) (.refl _) (fun b1 h1 u => yNameI (S15.ns.keeps u.h) nk) (yName S15.ns hnm.numbers)) (fun v1 b1 h1 u _ => yName (S15.ns.keeps u.h) hnm.most) fun v1 v2 c1 c2 c3 h3 u _ _ e1 e2 => ?_) fun v b16 h16 tk16 e S16 kb16 => ?_
    · cases e1; cases e2
      exact yCall (c_side (GA.keep u.b) (R1.less (by decide)) (by lia))
    obtain ⟨sa, rfl⟩ := e
    have kbB := kbA.trans kb16
    have GB := G.keep kbB
    have hln16 : h16.IsList Dn us.toArray := pln9.isList.at fun o e => S16.base _ _ (kb16 _ _ (kb' _ _ (kb12 _ _ e)))
    refine wLetC (pre := [_, _, _, _]) (post := _) (P1 := IsI (side nb (max W H))) S16 (yCall2 (P1 := Is (.int nb tb)) (P2 := Is (.int (max W H) tm)) (yGlob GB (by rfl)) (kept_K GB (by kernel_rfl)) (yItemL (q := 2 * i + 1) hln16 (by lia) (by rw [← eb]; exact List.getElem?_eq_getElem _) (.refl _) (fun b1 h1 u => yAdd (yNameI (S16.ns.keeps u.h) nk) yInt) (yName S16.ns hnm.numbers)) (fun v1 b1 h1 u _ => yName (S16.ns.keeps u.h) hnm.most) fun v1 v2 c1 c2 c3 h3 u _ _ e1 e2 => ?_) fun v b17 h17 tk17 e S17 kb17 => ?_
    · cases e1; cases e2
      exact yCall (c_side (GB.keep u.b) (R1.less (by decide)) (by lia))
    obtain ⟨sb, rfl⟩ := e
    obtain ⟨pa, qa⟩ := side_pos (number := na) (most := max W H) (by lia)
    obtain ⟨pb, qb⟩ := side_pos (number := nb) (most := max W H) (by lia)
    generalize side na (max W H) = av at S17 pa qa
    generalize side nb (max W H) = bv at S17 pb qb
    have kbC := kbB.trans kb17
    have GC := G.keep kbC
    have k1617 := kb16.trans kb17
    have hfew : (founds laid W H).length < 64 := by rw [← hInv.len]; have := hInv.few h5; lia
    obtain ⟨OT, hOT⟩ : ∃ OT : (Str → Option Value) → Array Value → List (Addr × Own), ∀ mq ys, OT mq ys = (I, .rng (0 + ((i + 1 : Nat) : Int) * 2) (((us.length / 2 : Nat) : Int) - ((i + 1 : Nat) : Int)) 2) :: (Dro, .lst ros.toArray) :: (Dla, .lst las.toArray) :: (L + 1 + 1 + 1 + 1, .cel (some (.int bv sb))) :: (L + 1 + 1 + 1, .cel (some (.int av sa))) :: (L + 1 + 1, .cel (some (.bool turn))) :: (L + 1, .cel (some (.int pw tw0))) :: (341, .tab) :: (402, .tab) :: (dp, .idc mq nn) :: (rl, .lst ys) :: O := ⟨fun mq ys => _, fun _ _ => rfl⟩
    have S17 : St h0 hb0 b17 ((L, .ns m15) :: OT mp' xs.toArray) h17 := by rw [hOT]; exact S17
    have tla : ∀ mq ys, (Dla, Own.lst las.toArray) ∈ OT mq ys := fun _ _ => by rw [hOT]; exact mem2
    have tcb : ∀ mq ys, (L + 1 + 1 + 1 + 1, Own.cel (some (.int bv sb))) ∈ OT mq ys := fun _ _ => by rw [hOT]; exact mem3
    have tca : ∀ mq ys, (L + 1 + 1 + 1, Own.cel (some (.int av sa))) ∈ OT mq ys := fun _ _ => by rw [hOT]; exact mem4
    have tcT : ∀ mq ys, (L + 1 + 1, Own.cel (some (.bool turn))) ∈ OT mq ys := fun _ _ => by rw [hOT]; exact .tail _ mem4
    have tcW : ∀ mq ys, (L + 1, Own.cel (some (.int pw tw0))) ∈ OT mq ys := fun _ _ => by rw [hOT]; exact .tail _ (.tail _ mem4)
    have tdp : ∀ mq ys, (dp, Own.idc mq nn) ∈ OT mq ys := fun _ _ => by rw [hOT]; exact .tail _ (.tail _ (.tail _ (.tail _ (.tail _ mem4))))
    obtain ⟨OS, hP, hOS⟩ : ∃ OS : List (Addr × Own), (∀ m' mq ys, ((L, Own.ns m') :: OT mq ys).Perm ((341, Own.tab) :: (402, Own.tab) :: (dp, Own.idc mq nn) :: (rl, Own.lst ys) :: (L, Own.ns m') :: OS)) ∧ ∀ x ∈ O, x ∈ OS :=
      ⟨(I, .rng (0 + ((i + 1 : Nat) : Int) * 2) (((us.length / 2 : Nat) : Int) - ((i + 1 : Nat) : Int)) 2) :: (Dro, .lst ros.toArray) :: (Dla, .lst las.toArray) :: (L + 1 + 1 + 1 + 1, .cel (some (.int bv sb))) :: (L + 1 + 1 + 1, .cel (some (.int av sa))) :: (L + 1 + 1, .cel (some (.bool turn))) :: (L + 1, .cel (some (.int pw tw0))) :: O, fun m' mq ys => by rw [hOT]; exact perm_rot [(L, Own.ns m'), (I, Own.rng (0 + ((i + 1 : Nat) : Int) * 2) (((us.length / 2 : Nat) : Int) - ((i + 1 : Nat) : Int)) 2), (Dro, Own.lst ros.toArray), (Dla, Own.lst las.toArray), (L + 1 + 1 + 1 + 1, Own.cel (some (.int bv sb))), (L + 1 + 1 + 1, Own.cel (some (.int av sa))), (L + 1 + 1, Own.cel (some (.bool turn))), (L + 1, Own.cel (some (.int pw tw0)))] [(341, Own.tab), (402, Own.tab), (dp, Own.idc mq nn), (rl, Own.lst ys)] O, fun x h => .tail _ (.tail _ (.tail _ (.tail _ (.tail _ (.tail _ (.tail _ h))))))⟩
    have hla17 : h17.IsList Dla las.toArray := Heap.PlainList.isList (S17.mem (p := (Dla, .lst las.toArray)) (.tail _ (tla _ _)))
    refine wLet S17 (P1 := RowsL b17 (sortR (founds laid W H))) (yCallName (yGlob GC (by rfl)) (kept_K GC (by kernel_rfl)) (yIsCons (yName S17.ns hnm.laid) (yIsCons (yName S17.ns hnm.wide) (yIsCons (yName S17.ns hnm.high) yIsNil))) fun vs' c1 h1 u e => ?_) fun v b18 h18 tk18 e S18 kb18 => ?_
    · cases e
      refine (yCall (c_empty (GC.keep u.b) (R1.less (by decide)) (hla17.at fun o e => u.h _ _ e) (Tla.keep (k1617.trans u.b)) (by lia) hfew)).mono fun v c2 kc ⟨D, vs2, e, pl, tt, nD⟩ => ⟨D, vs2, e, pl, tt, keep_none u.b nD⟩
    obtain ⟨De, vse, rfl, ple, Te, _⟩ := e
    have hnm := hnm.upd (x := "empty") (v := .ref De)
    have nk : upd m15 "empty" (.ref De) "k" = some (.int ((2 * i : Nat) : Int) tk0) := nk
    have ne : upd m15 "empty" (.ref De) "empty" = some (.ref De) := rfl
    generalize upd m15 "empty" (.ref De) = m18 at S18 hnm nk ne
    have kbD := kbC.trans kb18
    have GD := G.keep kbD
    have k1618 := k1617.trans kb18
    have hpo18 : b18.get? p = some (instObj (packCls n) dp) := k1618 _ _ (kb' _ _ (kb12 _ _ hpo))
    have hdpm : ∀ {m' : Str → Option Value}, (dp, Own.idc mp' nn) ∈ (L, Own.ns m') :: OT mp' xs.toArray := fun {_} => .tail _ (tdp _ _)
    have ip18 : Inst h18 p (packCls n) mp' := S18.inst hpo18 hdpm (by lia)
    have plF18 : b18.PlainList l vsF.toArray := let ⟨q, e⟩ := plF; ⟨q, k1618 _ _ e⟩
    have rF18 := rF.keep k1618
    have hF64 : F.length < 64 := by rw [hInv.len]; exact hfew
    refine wIf (b := false) S18 (yEq (yTestCompare (yCompare (P1 := RowsL b18 (sortR (F.map row4))) (P2 := Is (.ref De)) (P := Is (.bool (!decide (sortR (F.map row4) = sortR (founds laid W H))))) (ySortMax GD hF64 (yCompMax R1.hd GD K.toPk ip18 PM plF18 rF18 (by lia) (yName S18.ns hnm.pack)) (yBltn GD (by rfl) bltn_sorted (by decide))) (fun _ _ _ u _ => yName (S18.ns.keeps u.h) ne) fun v1 v2 c1 h1 c2 h2 u1 u2 p1 e2 => ?_)) (by rw [hInv.sorted]; simp)) (fun x => (by cases x)) fun _ b19 h19 tk19 S19 kb19 => ?_
    · cases e2
      obtain ⟨D1, us1, rfl, pl1, T1, _⟩ := p1
      exact yTok fun s Q E kb kh q => ne_rows (hb := c2) kb (by have := R1.line; lia) (pl1.isList.at fun o e => kb _ _ (u2.b _ _ e)) (ple.isList.at fun o e => kb _ _ (u2.b _ _ (u1.b _ _ e))) (T1.keep u2.b) (Te.keep (u1.b.trans u2.b)) (q _ s.toks fun _ _ => rfl)
    have Te19 : TupIs b19 vse ((emptyOf laid W H).map row4) := by rw [emptyOf_rows]; exact Te.keep kb19
    have ple19 : b19.PlainList De vse.toArray := let ⟨q, e⟩ := ple; ⟨q, kb19 _ _ e⟩
    have hes : ∀ e, e ∈ emptyOf laid W H ↔ e ∈ F := hInv.emptyOf
    have hesl : (emptyOf laid W H).length < 64 := by rw [emptyOf_len]; exact hfew
    have hesb : ∀ e ∈ emptyOf laid W H, InBin W H e := fun e he => (hInv.free e ((hes e).mp he)).toInBin
    generalize emptyOf laid W H = es at Te19 hes hesl hesb
    have kbE := kbD.trans kb19
    have GE := G.keep kbE
    refine wLetComp (P0 := Is (.ref De)) (P := fun v b => ∃ Df ys, v = .ref Df ∧ b.PlainList Df ys.toArray ∧ TupIs b ys (foundRows n turn av bv es)) S19 (yName S19.ns ne) ?_ fun v b20 h20 tk20 e S20 kb20 => ?_
    · have ca : h19.IsCell (L + 1 + 1 + 1) (some (.int av sa)) := S19.mem (p := (L + 1 + 1 + 1, .cel (some (.int av sa)))) (.tail _ (tca _ _))
      have cb : h19.IsCell (L + 1 + 1 + 1 + 1) (some (.int bv sb)) := S19.mem (p := (L + 1 + 1 + 1 + 1, .cel (some (.int bv sb)))) (.tail _ (tcb _ _))
      have cT : h19.IsCell (L + 1 + 1) (some (.bool turn)) := S19.mem (p := (L + 1 + 1, .cel (some (.bool turn)))) (.tail _ (tcT _ _))
      have cW : h19.IsCell (L + 1) (some (.int pw tw0)) := S19.mem (p := (L + 1, .cel (some (.int pw tw0)))) (.tail _ (tcW _ _))
      have hlenE : vse.length = es.length := by have := Te19.length; simpa using this
      refine comp2_k (P0 := Is (.ref De)) (P := fun v b => ∃ Df ys, v = .ref Df ∧ b.PlainList Df ys.toArray ∧ TupIs b ys (foundRows n turn av bv es)) ?_ (hs2 := ?_) (hclos := ?_)
      rotate_left
      · intro _ _; rfl
      · rfl
      intro v b1 h1 u e
      cases e
      have hle1 : h1.IsList De vse.toArray := ple19.isList.at fun o e => u.i _ _ (u.b _ _ e)
      refine ⟨_, _, vse.toArray.size, _, fun i ys b => TupIs b ys ((es.take i).flatMap fun e => fitRows n e (pairsT turn av bv)), Itr.list R1.hd hle1, fun h2 k => hle1.at fun o e => k _ _ e, fun b _ => trivial, fun ys b j D nD b' kb pl => ⟨D, ys, rfl, pl, ?_⟩, ?_⟩
      · have : es.take vse.toArray.size = es := List.take_of_length_le (by simp; lia)
        have j' : TupIs b ys ((es.take vse.toArray.size).flatMap fun e => fitRows n e (pairsT turn av bv)) := j
        rw [this] at j'
        exact j'.keep kb
      rintro i2 ys v s0 h0' b2 b I' D C m hi j hv u2 kb S0
      obtain ⟨r, ⟨t, us4, rfl, Tt, vi⟩, hr⟩ := Te19.at (by simpa using hv)
      obtain ⟨q, hq, rfl⟩ : ∃ q, es[i2]? = some q ∧ row4 q = r := by simpa using hr
      have kbb : Keep b19 b := u.b.trans (u2.b.trans kb)
      have hqb := hesb q (List.mem_of_getElem? hq)
      obtain ⟨x1, x2, x3, x4, rfl⟩ := vi.four
      refine ⟨updAll m ["x", "y", "w", "h"] [.int q.x x1, .int q.y x2, .int q.w x3, .int q.h x4], fun v b => ∃ D2 us2, v = .ref D2 ∧ b.PlainList D2 us2.toArray ∧ TupIs b us2 ((pairsT turn av bv).map two), fun Q E k => aTup [("x", _), ("y", _), ("w", _), ("h", _)] _ S0 R1.hd (Tt.keep (kbb.trans S0.base)) (fun h' tk S' => k h' tk S'), fun h' S' => ?_, fun v' b' h' p1 kb' S' => ?_⟩
      · have kk : Keep h19 h' := u.h.trans (u2.h.trans S'.keep)
        refine yIfExp (b := turn) (yTest_bool (yCell (cT.keeps kk))) (fun ht => ?_) fun ht => ?_
        · refine (yLst (R := fun vs b => TupIs b vs [[av, bv], [bv, av]]) (yArgs_cons (P1 := fun v b => TupI b v [av, bv]) ((yTup (R := fun vs _ => VI vs [av, bv]) (yIntsCons (yCellI (ca.keeps kk)) (yIntsCons (yCellI (cb.keeps kk)) yIntsNil)) (by intro vs b q; have := VI.length q; simp at this; lia)).mono fun v b k' e => by
              obtain ⟨t, vs, b0, rfl, T, _, q⟩ := e
              exact ⟨t, vs, rfl, T, q⟩) fun v b5 h5 u5 p => (yArgs_cons (P1 := fun v b => TupI b v [bv, av]) (R := fun vs b => TupIs b vs [[bv, av]]) ((yTup (R := fun vs _ => VI vs [bv, av]) (yIntsCons (yCellI (cb.keeps (kk.trans u5.h))) (yIntsCons (yCellI (ca.keeps (kk.trans u5.h))) yIntsNil)) (by intro vs b q; have := VI.length q; simp at this; lia)).mono fun v b k' e => by
              obtain ⟨t, vs, b0, rfl, T, _, q⟩ := e
              exact ⟨t, vs, rfl, T, q⟩) fun v2 b6 h6 u6 p2 => yArgs_nil fun b' k' => ⟨p2.keep k', trivial⟩).mono fun vs b7 k7 p2 => ⟨p.keep k7, p2⟩) (by intro vs b q; have := q.length; simp at this; lia)).mono fun v b k' e => ?_
          obtain ⟨D, vs, b0, e, pl, kk, tt, nD⟩ := e
          refine ⟨D, vs, e, pl, ?_⟩
          rw [ht]; exact tt.keep kk
        · refine (yLst (R := fun vs b => TupIs b vs [[av, bv]]) (yArgs_cons (P1 := fun v b => TupI b v [av, bv]) ((yTup (R := fun vs _ => VI vs [av, bv]) (yIntsCons (yCellI (ca.keeps kk)) (yIntsCons (yCellI (cb.keeps kk)) yIntsNil)) (by intro vs b q; have := VI.length q; simp at this; lia)).mono fun v b k' e => by
              obtain ⟨t, vs, b0, rfl, T, _, q⟩ := e
              exact ⟨t, vs, rfl, T, q⟩) fun v b5 h5 u5 p => yArgs_nil fun b' k' => ⟨p.keep k', trivial⟩) (by intro vs b q; have := q.length; simp at this; lia)).mono fun v b k' e => ?_
          obtain ⟨D, vs, b0, e, pl, kk, tt, nD⟩ := e
          refine ⟨D, vs, e, pl, ?_⟩
          rw [ht]; exact tt.keep kk
      · obtain ⟨D2, us2, rfl, pl2, T2⟩ := p1
        have hl2 : us2.length = (pairsT turn av bv).length := by have := T2.length; simpa using this
        have hp2 := pairsT_len (turn := turn) (a := av) (b := bv)
        refine ⟨_, _, us2.toArray.size, _, fun j m ys' b => ((∃ t, m "x" = some (.int q.x t)) ∧ (∃ t, m "y" = some (.int q.y t)) ∧ (∃ t, m "w" = some (.int q.w t)) ∧ (∃ t, m "h" = some (.int q.h t))) ∧ TupIs b ys' ((es.take i2).flatMap (fun e => fitRows n e (pairsT turn av bv)) ++ fitRows n q ((pairsT turn av bv).take j)),
          Itr.list R1.hd (pl2.isList.at fun o e => S'.base _ _ e), fun j m ys' b'' h'' _ k1 k2 => pl2.isList.at fun o e => k2 _ _ (k1 _ _ e), ⟨⟨⟨x1, rfl⟩, ⟨x2, rfl⟩, ⟨x3, rfl⟩, ⟨x4, rfl⟩⟩, ?_⟩, fun m ys' b'' x => ?_, fun j m ys' b'' x => ?_, ?_⟩
        · have e0 : fitRows n q ((pairsT turn av bv).take 0) = [] := rfl
          rw [e0, List.append_nil]
          exact TupIs.keep kb' j
        · have e0 : (pairsT turn av bv).take us2.toArray.size = pairsT turn av bv := List.take_of_length_le (by simp; lia)
          have x2 := x.2
          rw [e0] at x2
          show TupIs b'' ys' ((es.take (i2 + 1)).flatMap fun e => fitRows n e (pairsT turn av bv))
          rw [List.take_add_one, hq]
          simp only [Option.toList, List.flatMap_append, List.flatMap_cons, List.flatMap_nil, List.append_nil]
          exact x2
        · have l1 := x.2.length
          have l2 : ((es.take i2).flatMap (fun e => fitRows n e (pairsT turn av bv))).length ≤ 2 * (es.take i2).length := flatMap_le (fun e => Nat.le_trans fitRows_len pairsT_len) _
          have l3 : (fitRows n q ((pairsT turn av bv).take j)).length ≤ 2 := Nat.le_trans fitRows_len (by rw [List.length_take]; lia)
          rw [List.length_append] at l1
          rw [List.length_take] at l2
          lia
        rintro j2 ys' v s1 b'' I2 m' hj ⟨⟨⟨y1, mx⟩, ⟨y2, my⟩, ⟨y3, mw⟩, ⟨y4, mh⟩⟩, tj⟩ hv2 kb'' S1
        obtain ⟨r, ⟨t2, us3, rfl, Tt2, vi2⟩, hr2⟩ := T2.at (by simpa using hv2)
        obtain ⟨pr, hpr, rfl⟩ : ∃ pr, (pairsT turn av bv)[j2]? = some pr ∧ two pr = r := by simpa using hr2
        obtain ⟨z1, z2, rfl⟩ := vi2.two
        have hprb : 0 < pr.1 ∧ 0 < pr.2 ∧ pr.1 ≤ 1 + max W H ∧ pr.2 ≤ 1 + max W H := by
          have := List.mem_of_getElem? hpr
          unfold pairsT at this
          split at this
          · simp at this
            rcases this with rfl | rfl
            · exact ⟨pa, pb, qa, qb⟩
            · exact ⟨pb, pa, qb, qa⟩
          · simp at this; subst this; exact ⟨pa, pb, qa, qb⟩
        refine ⟨updAll m' ["c", "d"] [.int pr.1 z1, .int pr.2 z2], decide (pr.1 ≤ q.w) && decide (pr.2 ≤ q.h), fun Q E k => aTup [("c", _), ("d", _)] _ S1 R1.hd (Tt2.keep (kb''.trans S1.base)) (fun h' tk S' => k h' tk S'), fun h'' S'' => ?_, fun hc b3 kb3 => ⟨⟨⟨y1, mx⟩, ⟨y2, my⟩, ⟨y3, mw⟩, ⟨y4, mh⟩⟩, ?_⟩, fun hc b3 h3 kb3 S3 => ?_⟩
        · have mw' : updAll m' ["c", "d"] [.int pr.1 z1, .int pr.2 z2] "w" = some (.int q.w y3) := mw
          have mh' : updAll m' ["c", "d"] [.int pr.1 z1, .int pr.2 z2] "h" = some (.int q.h y4) := mh
          refine yTests1 (yEq (yTestBoolOp (yAndCons (yTestCompare (yCmp (yNameI S''.ns (rfl : updAll m' ["c", "d"] [.int pr.1 z1, .int pr.2 z2] "c" = some (.int pr.1 z1))) (yNameI S''.ns mw'))) fun _ => yAndCons (yTestCompare (yCmp (yNameI S''.ns (rfl : updAll m' ["c", "d"] [.int pr.1 z1, .int pr.2 z2] "d" = some (.int pr.2 z2))) (yNameI S''.ns mh'))) fun _ => yAndNil)) ?_)
          simp [cmpB]
        · rw [fitRows_succ hpr, if_neg (by rw [hc]; decide), List.append_nil]
          exact TupIs.keep kb3 tj
        · have mx' : updAll m' ["c", "d"] [.int pr.1 z1, .int pr.2 z2] "x" = some (.int q.x y1) := mx
          have my' : updAll m' ["c", "d"] [.int pr.1 z1, .int pr.2 z2] "y" = some (.int q.y y2) := my
          have mw' : updAll m' ["c", "d"] [.int pr.1 z1, .int pr.2 z2] "w" = some (.int q.w y3) := mw
          have mh' : updAll m' ["c", "d"] [.int pr.1 z1, .int pr.2 z2] "h" = some (.int q.h y4) := mh
          have mc' : updAll m' ["c", "d"] [.int pr.1 z1, .int pr.2 z2] "c" = some (.int pr.1 z1) := rfl
          have md' : updAll m' ["c", "d"] [.int pr.1 z1, .int pr.2 z2] "d" = some (.int pr.2 z2) := rfl
          have kk : Keep h19 h3 := u.h.trans (u2.h.trans S3.keep)
          have G3 := GE.keep (kbb.trans (kb'.trans (kb''.trans kb3)))
          have m1 : IntMulOk q.w q.h := mulok hqb.w hqb.h (by have := hqb.x0; have := hqb.x1; lia) (by have := hqb.y0; have := hqb.y1; lia)
          have m2 : IntMulOk pr.1 pr.2 := mulok hprb.1 hprb.2.1 hprb.2.2.1 hprb.2.2.2
          refine (yTup (R := fun vs _ => VI vs [measure n q.y q.w q.h pr.1 pr.2, q.x, q.y, pr.1, pr.2]) (yIntsCons (yCallInts (is := [pw, q.y, q.w, q.h, pr.1, pr.2]) (yGlob G3 (by rfl)) (kept_K G3 (by kernel_rfl)) (yIntsCons (yCellI (cW.keeps kk)) (yIntsCons (yNameI S3.ns my') (yIntsCons (yNameI S3.ns mw') (yIntsCons (yNameI S3.ns mh') (yIntsCons (yNameI S3.ns mc') (yIntsCons (yNameI S3.ns md') yIntsNil)))))) fun vs6 b6 h6 u6 vi6 => ?_) (yIntsCons (yNameI S3.ns mx') (yIntsCons (yNameI S3.ns my') (yIntsCons (yNameI S3.ns mc') (yIntsCons (yNameI S3.ns md') yIntsNil))))) (by intro vs b q; have := VI.length q; simp at this; lia)).mono fun v b k' e => ?_
          · obtain ⟨_, _, _, _, _, _, rfl⟩ := VI.six vi6
            exact yCall (c_measure hn hn4 (G3.keep u6.b) (R1.less (by decide)) m1 m2)
          · obtain ⟨t, vs, b0, rfl, T, _, vi5⟩ := e
            refine ⟨⟨⟨y1, mx⟩, ⟨y2, my⟩, ⟨y3, mw⟩, ⟨y4, mh⟩⟩, ?_⟩
            rw [fitRows_succ hpr, if_pos hc, ← List.append_assoc]
            exact (TupIs.keep (kb3.trans k') tj).append ⟨⟨t, vs, rfl, T, vi5⟩, trivial⟩
    obtain ⟨Df, vsf, rfl, plf, Tf⟩ := e
    have hnm := hnm.upd (x := "found") (v := .ref Df)
    have nk : upd m18 "found" (.ref Df) "k" = some (.int ((2 * i : Nat) : Int) tk0) := nk
    have nf : upd m18 "found" (.ref Df) "found" = some (.ref Df) := rfl
    generalize upd m18 "found" (.ref Df) = m20 at S20 hnm nk nf
    have kbF := kbE.trans kb20
    have GF := G.keep kbF
    have k1620 := k1618.trans (kb19.trans kb20)
    have hpo20 : b20.get? p = some (instObj (packCls n) dp) := (kb19.trans kb20) _ _ hpo18
    have plF20 : b20.PlainList l vsF.toArray := let ⟨q, e⟩ := plF18; ⟨q, (kb19.trans kb20) _ _ e⟩
    have rF20 := rF18.keep (kb19.trans kb20)
    have hmF : ∀ r ∈ F, IntMulOk r.w r.h ∧ 0 ≤ r.w ∧ 0 ≤ r.h := fun r hr => by
      have fb := (hInv.free r hr).toInBin
      have := fb.w; have := fb.h; have := fb.x0; have := fb.x1; have := fb.y0; have := fb.y1
      exact ⟨mulok fb.w fb.h (by lia) (by lia), by lia, by lia⟩
    have hab : IntMulOk av bv ∧ IntMulOk bv av := ⟨mulok pa pb qa qb, mulok pb pa qb qa⟩
    refine wLetW (wpMethIs S20 GF (yName S20.ns hnm.pack) (S20.inst hpo20 hdpm (by lia)) K.fit (PM.no _ (by decide)) (by kernel_rfl) (fun b' h' u => yIsCons (yCell ((S20.mem (p := (L + 1 + 1 + 1, .cel (some (.int av sa)))) (.tail _ (tca _ _))).keep u.h)) (yIsCons (yCell ((S20.mem (p := (L + 1 + 1 + 1 + 1, .cel (some (.int bv sb)))) (.tail _ (tcb _ _))).keep u.h)) yIsNil)) fun b21 h21 tk21 S21 k21 => ?_)
    refine m_fitness (s := { s with heap := h21, toks := tk21, gens := gs14 }) hn4 (S21.perm (hP _ _ _)) (GF.keep k21) R1 K (by show A.frames.map _ = _; rw [hfr]; rfl) (fun ev hev => ?_) (k21 _ _ hpo20) hnn PM (let ⟨q, e⟩ := plF20; ⟨q, k21 _ _ e⟩) (rF20.keep k21) (by lia) hmF hab pa pb fun v b22 h22 tk22 gs22 S22 k22 fit bare22 => ?_
    · rcases List.mem_cons.mp hev with rfl | hev
      · exact ⟨(by intro q; cases q), L, _, rfl, .tail _ (.head _)⟩
      · obtain ⟨q1, L', m', q2, q3⟩ := Fs ev hev
        exact ⟨q1, L', m', q2, .tail _ (.tail _ (hOS _ q3))⟩
    have S22 := S22.perm (hP m20 mp' xs.toArray).symm
    refine ⟨b22, h0, hb0, m20, _, S22, fun h23 tk23 S23 => ?_⟩
    have hnm := hnm.upd (x := "told") (v := v)
    have nk : upd m20 "told" v "k" = some (.int ((2 * i : Nat) : Int) tk0) := nk
    have nf : upd m20 "told" v "found" = some (.ref Df) := nf
    have nt : upd m20 "told" v "told" = some v := rfl
    generalize upd m20 "told" v = m23 at S23 hnm nk nf nt
    have k2022 := k21.trans k22
    have kbG := kbF.trans k2022
    have GG := G.keep kbG
    have hpo22 := k2022 _ _ hpo20
    refine wLetW (wpMethIs S23 GG (yName S23.ns hnm.pack) (S23.inst hpo22 hdpm (by lia)) K.add (PM.no _ (by decide)) (by kernel_rfl) (fun b' h' u => yIsCons (yCell ((S23.mem (p := (L + 1 + 1 + 1, .cel (some (.int av sa)))) (.tail _ (tca _ _))).keep u.h)) (yIsCons (yCell ((S23.mem (p := (L + 1 + 1 + 1 + 1, .cel (some (.int bv sb)))) (.tail _ (tcb _ _))).keep u.h)) (yIsCons (yName (S23.ns.keeps u.h) nk) yIsNil))) fun b24 h24 tk24 S24 k24 => ?_)
    have bareF : AllBare s.gens → AllBare gs22 := fun x => bare22 (bare14 x)
    have k2024 := k2022.trans k24
    refine m_add (s := { s with heap := h24, toks := tk24, gens := gs22 }) hn4 (S24.perm (hP _ _ _)) (GG.keep k24) R1 K (by show A.frames.map _ = _; rw [hfr]; rfl) (fun ev hev => ?_) (k24 _ _ hpo22) hnn PM (let ⟨q, e⟩ := plF20; ⟨q, k2024 _ _ e⟩) (rF20.keep k2024) (by lia) hmF hab pa pb (by simp; lia) (fun b25 h25 tk25 gs25 S25 k25 hc bare25 => ?_) fun c rect l' vs' b25 h25 tk25 gs25 hbest S25 k25 pl25 r25 Lr25 bare25 => ?_
    · rcases List.mem_cons.mp hev with rfl | hev
      · exact ⟨(by intro q; cases q), L, _, rfl, .head _⟩
      · obtain ⟨q1, L', m', q2, q3⟩ := Fs ev hev
        exact ⟨q1, L', m', q2, .tail _ (hOS _ q3)⟩
    · have S25 := S25.perm (hP m23 mp' xs.toArray).symm
      refine ⟨b25, h0, hb0, m23, _, S25, fun h26 tk26 S26 => ?_⟩
      have hnm := hnm.upd (x := "got") (v := .none)
      have nf : upd m23 "got" .none "found" = some (.ref Df) := nf
      have nt : upd m23 "got" .none "told" = some v := nt
      have ng : upd m23 "got" .none "got" = some .none := rfl
      generalize upd m23 "got" .none = m26 at S26 hnm nf nt ng
      have hnone : v = .none := by
        rcases fit with ⟨_, e⟩ | ⟨c, t, hb, _⟩
        · exact e
        · rw [hc] at hb; cases hb.1
      subst hnone
      have hfn : foundRows n turn av bv es = [] := (found_nil hes).mpr hc
      have k2025 := k2024.trans k25
      have plf26 : h26.IsList Df vsf.toArray := plf.isList.at fun o e => S26.base _ _ (k2025 _ _ e)
      refine wIf (b := true) S26 (yEq (yTestCompare (yEqNil (by have := R1.line; lia) plf26 (Tf.keep k2025) (yName S26.ns nf))) (by rw [hfn]; rfl)) (fun _ b27 h27 tk27 S27 k27 => ?_) fun x => by cases x
      refine wIf (b := false) S27 (yEq (yTestBoolOp (yOrCons (yTestCompare (yCompare (P1 := Is .none) (P2 := Is .none) (P := Is (.bool false)) (yName S27.ns nt) (fun _ _ _ u _ => yNone) fun v1 v2 c1 h1 c2 h2 u1 u2 e1 e2 => by cases e1; cases e2; exact yIsNotNone (o := none) rfl)) fun _ => yOrCons (yTestCompare (yCompare (P1 := Is .none) (P2 := Is .none) (P := Is (.bool false)) (yName S27.ns ng) (fun _ _ _ u _ => yNone) fun v1 v2 c1 h1 c2 h2 u1 u2 e1 e2 => by cases e1; cases e2; exact yIsNotNone (o := none) rfl)) fun _ => yOrNil)) rfl) (fun x => by cases x) fun _ b28 h28 tk28 S28 k28 => ?_
      have k1628 := k1620.trans (k2025.trans (k27.trans k28))
      have kb28 : Keep b' b28 := k1628
      rw [hOT] at S28
      refine wCheckList (O2 := [(Dla, .lst las.toArray), (L + 1 + 1 + 1 + 1, .cel (some (.int bv sb))), (L + 1 + 1 + 1, .cel (some (.int av sa))), (L + 1 + 1, .cel (some (.bool turn))), (L + 1, .cel (some (.int pw tw0))), (341, .tab), (402, .tab)]) (O3 := O) (rowsR := rowsR) S28 (G.keep (kbA.trans kb28)) (R1.less (by decide)) K.toPk (kb28 _ _ (kb' _ _ (kb12 _ _ hpo))) hnn PM (Lxs.keep kb28) (by lia) (Tro.keep kb28) hnm.pack hnm.rows fun b29 h29 tk29 gs29 S29 k29 bare29 => ?_
      have kb29 := kb28.trans k29
      exact wNil (kQ m26 _ b29 _ ⟨mp', l, xs, las, ros, vsF, F, laid, rowsR, _, _, rfl, PM, let ⟨q, e⟩ := plF; ⟨q, kb29 _ _ e⟩, rF.keep kb29, hInv, Nat.le_succ_of_le hlaid, Tla.keep kb29, Lxs.keep kb29, Tro.keep kb29, Nat.le_succ_of_le hxs, hnm, kb'.trans kb29⟩ ⟨_, _, _, rfl, fun x => bare29 (bare25 (bareF x))⟩ S29)
    · have S25 := S25.perm (hP m23 (upd mp' "_max_rects" (.ref l')) (xs.toArray.push (.ref rect))).symm
      refine ⟨b25, h0, hb0, m23, _, S25, fun h26 tk26 S26 => ?_⟩
      have hnm := hnm.upd (x := "got") (v := .ref rect)
      have nk : upd m23 "got" (.ref rect) "k" = some (.int ((2 * i : Nat) : Int) tk0) := nk
      have nf : upd m23 "got" (.ref rect) "found" = some (.ref Df) := nf
      have nt : upd m23 "got" (.ref rect) "told" = some v := nt
      have ng : upd m23 "got" (.ref rect) "got" = some (.ref rect) := rfl
      generalize upd m23 "got" (.ref rect) = m26 at S26 hnm nk nf nt ng
      obtain ⟨xs2, exs, hxs2⟩ : ∃ xs2 : List Value, xs.toArray.push (.ref rect) = xs2.toArray ∧ xs2 = xs ++ [.ref rect] := ⟨_, by simp, rfl⟩
      rw [exs] at S26
      obtain ⟨hmem, hle, hval, hcr, hca, hcb, hpair⟩ := best_found hn4 hes hbest
      obtain ⟨tt, etold⟩ : ∃ tt, v = .int (if n = 0 then 0 else c.k) tt := by
        rcases fit with ⟨e, _⟩ | ⟨c', t, hb', rfl⟩
        · have := hbest.1; rw [e] at this; cases this
        · obtain ⟨_, _, hval', _⟩ := best_found hn4 hes hb'
          have ek : c'.k = c.k := Int.le_antisymm (hb'.2 c hbest.1) (hbest.2 c' hb'.1)
          exact ⟨t, by rw [hval', ek]⟩
      subst etold
      have k2025 := k2024.trans k25
      have k1625 := k1620.trans k2025
      have plf26 : h26.IsList Df vsf.toArray := plf.isList.at fun o e => S26.base _ _ (k2025 _ _ e)
      have Tf25 := Tf.keep k2025
      have hfl : (foundRows n turn av bv es).length ≤ 1000 := by
        have := flatMap_le (f := fun e => fitRows n e (pairsT turn av bv)) (c := 2) (fun e => Nat.le_trans fitRows_len pairsT_len) es
        unfold foundRows; lia
      have five : ∀ r ∈ foundRows n turn av bv es, 0 < r.length := fun r hr => by
        obtain ⟨e, _, p, _, _, _, rfl⟩ := mem_foundRows.mp hr
        exact Nat.zero_lt_succ _
      refine wIf (b := false) S26 (yEq (yTestCompare (yEqNil (by have := R1.line; lia) plf26 Tf25 (yName S26.ns nf))) (by
        have : foundRows n turn av bv es ≠ [] := fun e => by rw [e] at hmem; cases hmem
        simpa using this)) (fun x => by cases x) fun _ b27 h27 tk27 S27 k27 => ?_
      have k1627 := k1625.trans k27
      have G27 := G.keep (kbA.trans k1627)
      have plf27 : h27.IsList Df vsf.toArray := plf.isList.at fun o e => S27.base _ _ (k27 _ _ (k2025 _ _ e))
      refine wLet S27 (P1 := IsI c.k) (yCall1 (P1 := fun v b => ∃ D ys, v = .ref D ∧ b.PlainList D ys.toArray ∧ VI ys ((foundRows n turn av bv es).map fun r => r.getD 0 0)) (yBltn G27 (by rfl) bltn_min (by decide)) kept_bltn (yHeads R1.hd plf27 (Tf25.keep k27) hfl five (yName S27.ns nf)) fun v0 b0 c1 g1 u1 k0 ⟨D, ys, e, pl, vi⟩ => ?_) fun v b28 h28 tk28 e S28 k28 => ?_
      · subst e
        refine yMinList R1.hd (pl.isList.at fun o e => u1.i _ _ (k0 _ _ e)) vi ?_ fun y hy => ?_
        · exact List.mem_map.mpr ⟨_, hmem, rfl⟩
        · obtain ⟨r, hr, rfl⟩ := List.mem_map.mp hy
          exact hle r hr
      obtain ⟨tl, rfl⟩ := e
      have hnm := hnm.upd (x := "least") (v := .int c.k tl)
      have nk : upd m26 "least" (.int c.k tl) "k" = some (.int ((2 * i : Nat) : Int) tk0) := nk
      have nf : upd m26 "least" (.int c.k tl) "found" = some (.ref Df) := nf
      have nt : upd m26 "least" (.int c.k tl) "told" = some (.int (if n = 0 then 0 else c.k) tt) := nt
      have ng : upd m26 "least" (.int c.k tl) "got" = some (.ref rect) := ng
      have nl : upd m26 "least" (.int c.k tl) "least" = some (.int c.k tl) := rfl
      generalize upd m26 "least" (.int c.k tl) = m28 at S28 hnm nk nf nt ng nl
      have k2528 := k27.trans k28
      have k1628 := k1627.trans k28
      have G28 := G.keep (kbA.trans k1628)
      have Lr28 := Lr25.keep k2528
      obtain ⟨mr, ir, Mr, tr5, er⟩ := id Lr28
      refine wIf (b := false) S28 (yEq (yTestBoolOp (yOrCons (yTestCompare (yCompare (P1 := Is (.ref rect)) (P2 := Is .none) (P := Is (.bool false)) (yName S28.ns ng) (fun _ _ _ u _ => yNone) fun v1 v2 c1 h1 c2 h2 u1 u2 e1 e2 => by cases e1; cases e2; exact yIsNone)) fun _ =>
        yOrCons (yTestCompare (yCmp (b := ((2 * i : Nat) : Int)) (a := ((2 * i : Nat) : Int)) ((yGetField G28 (yName S28.ns ng) (ir.keep S28.base) (fld_rid w) er rfl).mono fun _ _ _ e => ⟨tr5, e⟩) (yNameI S28.ns nk))) fun _ =>
        yOrCons (yTestCompare (yCmp (yNameI S28.ns nt) (yIfExp (P := IsI (if n = 0 then 0 else c.k)) (b := decide (n = 0)) (yEq (yTestCompare (yCmp (yCellI (S28.mem (p := (L + 1, .cel (some (.int pw tw0)))) (.tail _ (tcW _ _)))) yInt)) (by rw [hn]; simp only [cmpB]; by_cases h : n = 0 <;> simp [h])) (fun hb' => by rw [if_pos (of_decide_eq_true hb')]; exact yInt) fun hb' => by rw [if_neg (of_decide_eq_false hb')]; exact yNameI S28.ns nl))) fun _ => yOrNil)) (by simp [cmpB])) (fun x => by cases x) fun _ b29 h29 tk29 S29 k29 => ?_
      have k2529 := k2528.trans k29
      have k1629 := k1628.trans k29
      have G29 := G.keep (kbA.trans k1629)
      have Ir29 : IsRect h29 rect c.at_ := (Lr25.rect.keep k2529).keep S29.base
      refine wIf (b := false) S29 (yEq (yTestCompare (yCompare (P1 := fun v b => TupI b v [c.k, c.at_.x, c.at_.y, c.at_.w, c.at_.h]) (P2 := Is (.ref Df)) (P := Is (.bool (!decide ([c.k, c.at_.x, c.at_.y, c.at_.w, c.at_.h] ∈ foundRows n turn av bv es)))) ((yTup (R := fun vs _ => VI vs [c.k, c.at_.x, c.at_.y, c.at_.w, c.at_.h]) (yIntsCons (yNameI S29.ns nl) (yIntsCons (yX G29 Ir29 (yName S29.ns ng)) (yIntsCons (yY G29 Ir29 (yName S29.ns ng)) (yIntsCons (yW G29 Ir29 (yName S29.ns ng)) (yIntsCons (yH G29 Ir29 (yName S29.ns ng)) yIntsNil))))) (by intro vs b q; have := VI.length q; simp at this; lia)).mono fun v b k' e => by
          obtain ⟨t, vs, b0, rfl, T, _, q⟩ := e
          exact ⟨t, vs, rfl, T, q⟩) (fun _ _ _ u _ => yName (S29.ns.keeps u.h) nf) fun v1 v2 c1 h1 c2 h2 u1 u2 e1 e2 => ?_)) (by rw [decide_eq_true hmem]; rfl)) (fun x => by cases x) fun _ b30 h30 tk30 S30 k30 => ?_
      · cases e2
        exact yTok fun s Q E kb kh q => notin_rows (hb := c2) kb (by have := R1.line; show _ + 1 + 64 < _; lia) (plf.isList.at fun o e => kb _ _ (u2.b _ _ (u1.b _ _ (k29 _ _ (k28 _ _ (k27 _ _ (k2025 _ _ e))))))) (Tf25.keep (k2529.trans (u1.b.trans u2.b))) (e1.keep u2.b) (q _ s.toks fun _ _ => rfl)
      have k2530 := k2529.trans k30
      have k1630 := k1629.trans k30
      have G30 := G.keep (kbA.trans k1630)
      have hlas := Tla.length
      have hros := Tro.length
      have hlx := Lxs.length
      simp only [List.length_map] at hlas hros
      rw [hOT] at S30
      refine wAppend (pre := [_, _, _]) (post := _) (P1 := fun v b => TupI b v (row4 c.at_)) S30 (by simp; lia) (yName S30.ns hnm.laid) (fun c1 g1 S' k' => ?_) fun va b31 h31 tk31 e31 S31 k31 => ?_
      · have G' := G30.keep k'
        have I' : IsRect g1 rect c.at_ := (Lr25.rect.keep (k2530.trans k')).keep S'.base
        refine (yTup (R := fun vs _ => VI vs (row4 c.at_)) (yIntsCons (yX G' I' (yName S'.ns ng)) (yIntsCons (yY G' I' (yName S'.ns ng)) (yIntsCons (yW G' I' (yName S'.ns ng)) (yIntsCons (yH G' I' (yName S'.ns ng)) yIntsNil)))) (by intro vs b q; have := VI.length q; simp [row4] at this; lia)).mono fun v b k' e => by
          obtain ⟨t, vs, b0, rfl, T, _, q⟩ := e
          exact ⟨t, vs, rfl, T, q⟩
      have k2531 := k2530.trans k31
      have k1631 := k1630.trans k31
      have G31 := G.keep (kbA.trans k1631)
      refine wAppend (pre := [_, _]) (post := _) (P1 := fun v b => TupI b v (row5 (c.at_, ((2 * i : Nat) : Int)))) S31 (by simp; lia) (yName S31.ns hnm.rows) (fun c1 g1 S' k' => ?_) fun vr b32 h32 tk32 e32 S32 k32 => ?_
      · have G' := G31.keep k'
        have I' : IsRect g1 rect c.at_ := (Lr25.rect.keep (k2531.trans k')).keep S'.base
        refine (yTup (R := fun vs _ => VI vs (row5 (c.at_, ((2 * i : Nat) : Int)))) (yIntsCons (yX G' I' (yName S'.ns ng)) (yIntsCons (yY G' I' (yName S'.ns ng)) (yIntsCons (yW G' I' (yName S'.ns ng)) (yIntsCons (yH G' I' (yName S'.ns ng)) (yIntsCons (yNameI S'.ns nk) yIntsNil))))) (by intro vs b q; have := VI.length q; simp [row5] at this; lia)).mono fun v b k' e => by
          obtain ⟨t, vs, b0, rfl, T, _, q⟩ := e
          exact ⟨t, vs, rfl, T, q⟩
      have k2532 := k2531.trans k32
      have k1632 := k1631.trans k32
      have el : las.toArray.push va = (las ++ [va]).toArray := by simp
      have er2 : ros.toArray.push vr = (ros ++ [vr]).toArray := by simp
      have S32 : St h0 hb0 b32 ((L, .ns m28) :: (I, .rng (0 + ((i + 1 : Nat) : Int) * 2) (((us.length / 2 : Nat) : Int) - ((i + 1 : Nat) : Int)) 2) :: (Dro, .lst (ros ++ [vr]).toArray) :: (Dla, .lst (las ++ [va]).toArray) :: (L + 1 + 1 + 1 + 1, .cel (some (.int bv sb))) :: (L + 1 + 1 + 1, .cel (some (.int av sa))) :: (L + 1 + 1, .cel (some (.bool turn))) :: (L + 1, .cel (some (.int pw tw0))) :: (341, .tab) :: (402, .tab) :: (dp, .idc (upd mp' "_max_rects" (.ref l')) nn) :: (rl, .lst xs2.toArray) :: O) h32 := by
        rw [← el, ← er2]; exact S32
      have Lxs2 : Laid b32 xs2 (rowsR ++ [(c.at_, ((2 * i : Nat) : Int))]) := by
        rw [hxs2]; exact (Lxs.keep k1632).append ⟨⟨rect, rfl, Lr25.keep k2532⟩, trivial⟩
      have Tro2 : TupIs b32 (ros ++ [vr]) ((rowsR ++ [(c.at_, ((2 * i : Nat) : Int))]).map row5) := by
        rw [List.map_append]; exact (Tro.keep k1632).append ⟨e32, trivial⟩
      have Tla2 : TupIs b32 (las ++ [va]) ((laid ++ [c.at_]).map row4) := by
        rw [List.map_append]; exact (Tla.keep k1632).append ⟨e31.keep k32, trivial⟩
      have hxs2l : xs2.length ≤ i + 1 := by rw [hxs2]; simp; exact hxs
      refine wCheckList (O2 := [(Dla, .lst (las ++ [va]).toArray), (L + 1 + 1 + 1 + 1, .cel (some (.int bv sb))), (L + 1 + 1 + 1, .cel (some (.int av sa))), (L + 1 + 1, .cel (some (.bool turn))), (L + 1, .cel (some (.int pw tw0))), (341, .tab), (402, .tab)]) (O3 := O) (rowsR := rowsR ++ [(c.at_, ((2 * i : Nat) : Int))]) S32 (G.keep (kbA.trans k1632)) (R1.less (by decide)) K.toPk (k1632 _ _ (kb' _ _ (kb12 _ _ hpo))) hnn PM.set Lxs2 (by lia) Tro2 hnm.pack hnm.rows fun b33 h33 tk33 gs33 S33 k33 bare33 => ?_
      have k1633 := k1632.trans k33
      have hInv2 : Inv (prune (F.flatMap (cut c.at_))) (laid ++ [c.at_]) W H := by
        have fr := (hInv.free c.r hcr).toInBin
        have pos : 0 < c.a ∧ 0 < c.b := by
          obtain ⟨p, hp, e1, e2⟩ := hpair
          unfold pairsT at hp
          rw [e1, e2]
          split at hp
          · simp at hp
            rcases hp with rfl | rfl
            · exact ⟨pa, pb⟩
            · exact ⟨pb, pa⟩
          · simp at hp; subst hp; exact ⟨pa, pb⟩
        exact hInv.step hcr ⟨Int.le_refl _, Int.le_refl _, by show c.r.x + c.a ≤ _; lia, by show c.r.y + c.b ≤ _; lia⟩ pos.1 pos.2
      exact wNil (kQ m28 _ b33 _ ⟨upd mp' "_max_rects" (.ref l'), l', xs2, las ++ [va], ros ++ [vr], vs', _, laid ++ [c.at_], rowsR ++ [(c.at_, ((2 * i : Nat) : Int))], _, _, rfl, PM.set, let ⟨q, e⟩ := pl25; ⟨q, (k2532.trans k33) _ _ e⟩, r25.keep (k2532.trans k33), hInv2, by simp; exact hlaid, Tla2.keep k33, Lxs2.keep k33, Tro2.keep k33, hxs2l, hnm, kb'.trans k1633⟩ ⟨_, _, _, rfl, fun x => bare33 (bare25 (bareF x))⟩ S33)
  · rintro m O' b' s14 ⟨mp', l, xs, las, ros, vsF, F, laid, rowsR, v4, v3, rfl, PM, plF, rF, hInv, hlaid, Tla, Lxs, Tro, hxs, hnm, kb'⟩ ⟨h14, tk14, gs14, rfl, bare14⟩ S14
    have S14 : St h0 hb0 b' ((L, .ns m) :: (Dro, .lst ros.toArray) :: (Dla, .lst las.toArray) :: (L + 1 + 1 + 1 + 1, .cel v4) :: (L + 1 + 1 + 1, .cel v3) :: (L + 1 + 1, .cel (some (.bool turn))) :: (L + 1, .cel (some (.int pw tw0))) :: (341, .tab) :: (402, .tab) :: (dp, .idc mp' nn) :: (rl, .lst xs.toArray) :: O) h14 := S14
    have h5 : laid.length ≤ 5 := by lia
    have kbA := kb12'.trans kb'
    have GA := G.keep kbA
    have hfew : (founds laid W H).length < 64 := by rw [← hInv.len]; have := hInv.few h5; lia
    have hla : h14.IsList Dla las.toArray := Heap.PlainList.isList (S14.mem (p := (Dla, .lst las.toArray)) mem2)
    have hpo14 : b'.get? p = some (instObj (packCls n) dp) := kb' _ _ (kb12 _ _ hpo)
    have ip : Inst h14 p (packCls n) mp' := S14.inst hpo14 (.tail _ (.tail _ (.tail _ (.tail _ (.tail _ mem4))))) (by lia)
    have hF64 : F.length < 64 := by rw [hInv.len]; exact hfew
    refine wRet S14 (P := Is (.bool true)) (yEq (yCompare (P1 := RowsL b' (sortR (F.map row4))) (P2 := RowsL b' (sortR (founds laid W H))) (P := Is (.bool (decide (sortR (F.map row4) = sortR (founds laid W H))))) (ySortMax GA hF64 (yCompMax R1.hd GA K.toPk ip PM plF rF (by lia) (yName S14.ns hnm.pack)) (yBltn GA (by rfl) bltn_sorted (by decide)))
      (fun v1 b1 h1 u _ => yCallName (yGlob (GA.keep u.b) (by rfl)) (kept_K (GA.keep u.b) (by kernel_rfl)) (yIsCons (yName (S14.ns.keeps u.h) hnm.laid) (yIsCons (yName (S14.ns.keeps u.h) hnm.wide) (yIsCons (yName (S14.ns.keeps u.h) hnm.high) yIsNil))) fun vs' c1 g1 u1 e => ?_) fun v1 v2 c1 h1 c2 h2 u1 u2 p1 p2 => ?_) (by rw [hInv.sorted]; simp)) fun v b15 h15 tk15 e S15 k15 => ?_
    · cases e
      refine (yCall (c_empty ((GA.keep u.b).keep u1.b) (R1.less (by decide)) (hla.at fun o e => u1.h _ _ (u.h _ _ e)) (Tla.keep (u.b.trans u1.b)) (by lia) hfew)).mono fun v c2 kc ⟨D, vs2, e, pl, tt, nD⟩ => ⟨D, vs2, e, pl, tt, keep_none (u.b.trans u1.b) nD⟩
    · obtain ⟨D1, us1, rfl, pl1, T1, _⟩ := p1
      obtain ⟨D2, us2, rfl, pl2, T2, _⟩ := p2
      exact yTok fun s Q E kb kh q => eq_rows (hb := c2) kb (by have := R1.line; lia) (pl1.isList.at fun o e => kb _ _ (u2.b _ _ e)) (pl2.isList.at fun o e => kb _ _ e) (T1.keep u2.b) T2 (q _ s.toks fun _ _ => rfl)
    · cases e
      exact k b15 h15 tk15 gs14 (S15.sub (.cons _ (.cons _ (.cons _ (.cons _ (.cons _ (.cons _ (.cons _ (.cons₂ _ (.cons₂ _ (.cons _ (.cons _ (.refl _))))))))))))) bare14
  · have kk : Keep b9 b12 := kb12
    exact ⟨mp, l0, [], [], [], [.ref ar], [⟨0, 0, W, H⟩], [], [], none, none, rfl, PM0, let ⟨q, e⟩ := pl0; ⟨q, kk _ _ e⟩, ⟨⟨ar, rfl, Ir0.keep kk⟩, trivial⟩, Inv.start pW pH, Nat.le_refl _, trivial, trivial, trivial, Nat.le_refl _, hnm, .refl _⟩
end
end Mine
end
noncomputable section
open PySem PySem.W PyProof.Rows PySem.Calls
set_option Elab.async false
set_option maxRecDepth 100000
set_option linter.unusedVariables false
namespace Mine
theorem old_tables {h0 h h' : Heap} {K : Frag} (X : K.In h) (hg : ∀ a, h0.get? a = if (!(a == 341) && !(a == 402)) then h.get? a else none) (k : Keep h0 h') (t1 : h.get? 341 = some (tabObj #[])) (t2 : h.get? 402 = some (tabObj #[]))
    (c1 : ∃ o vs, K.lookup 345 = some o ∧ o.cls = .type "code" ∧ o.data = .fields vs ∧ vs[11]? = some (.ref 341)) (c2 : ∃ o vs, K.lookup 406 = some o ∧ o.cls = .type "code" ∧ o.data = .fields vs ∧ vs[11]? = some (.ref 402))
    (n1 : (Own.tab).At h' 341) (n2 : (Own.tab).At h' 402) : OldK h h' := by
  have tab : ∀ P, (∃ c o vs, K.lookup c = some o ∧ o.cls = .type "code" ∧ o.data = .fields vs ∧ vs[11]? = some (.ref P)) → h.get? P = some (tabObj #[]) → (Own.tab).At h' P → ∀ o, h.get? P = some o → asItWas h h' P o := by
    rintro P ⟨c, oc, vs, e1, e2, e3, e4⟩ t ⟨ps, n, _⟩ o e
    rw [t] at e; cases e
    exact .inr (.inl ⟨⟨c, oc, vs, X _ _ e1, e2, e3, e4⟩, rfl, #[], ps, rfl, by rw [n]; simp⟩)
  refine ⟨fun b o e => ?_, fun b o e => ?_⟩
  · by_cases h1 : b = 341
    · subst h1; exact tab 341 (let ⟨o, vs, r⟩ := c1; ⟨345, o, vs, r⟩) t1 n1 o e
    · by_cases h2 : b = 402
      · subst h2; exact tab 402 (let ⟨o, vs, r⟩ := c2; ⟨406, o, vs, r⟩) t2 n2 o e
      · refine .inl (k b o ?_)
        rw [hg, if_pos (by simp [h1, h2])]; exact e
  · by_cases h1 : b = 341
    · subst h1; obtain ⟨ps, n, _⟩ := n1; exact ⟨_, n⟩
    · by_cases h2 : b = 402
      · subst h2; obtain ⟨ps, n, _⟩ := n2; exact ⟨_, n⟩
      · refine ⟨o, k b o ?_⟩
        rw [hg, if_pos (by simp [h1, h2])]; exact e
theorem law_ends {w : World} {s₁ : Shared} {mg mb : Str → Option Value} {p : Program} {loose : List Str} {mean : ExcName → Option Value} {fa sc : Addr} {vs : List Value} {ns : List Int} {R : Result → Shared → Prop}
    (KX : (KK w).In s₁.heap) (KT : ∀ P ∈ ([341, 402] : List Addr), s₁.heap.get? P = some (tabObj #[])) (T : Top p loose mean mg mb s₁.heap) (hmg : mg "law" = some (.ref fa)) (hg : s₁.gens = #[])
    (hl : s₁.heap.IsList sc vs.toArray) (hi : IntsAre vs ns) (hlay : PyData.layable0 (.list (ns.map .int)) = true) (hz : ns.length ≤ 63)
    (k : ∀ h' tk gs, OldK s₁.heap h' → AllBare gs → R (.ok (.ret (.bool true))) { s₁ with heap := h', toks := tk, gens := gs }) :
    codeAny (model PG w) callerA (.call (.ref fa) ⟨[.ref sc], []⟩) R s₁ := by
  have e1 : mg "law" = some (.ref 507) := mg_of KX T.g (by kernel_rfl)
  have e4 : mg "__builtins__" = some (.ref 4) := mg_of KX T.g (by kernel_rfl)
  rw [e1] at hmg
  cases hmg
  obtain ⟨h0, hg0⟩ := Heap.part s₁.heap fun a => !(a == 341) && !(a == 402)
  have keep : ∀ {a o}, a ≠ 341 → a ≠ 402 → s₁.heap.get? a = some o → h0.get? a = some o := fun {a o} n1 n2 e => by rw [hg0, if_pos (by simp [n1, n2])]; exact e
  have k0 : Keep h0 s₁.heap := fun a o e => by
    rw [hg0] at e
    split at e
    · exact e
    · cases e
  have no1 : h0.get? 341 = none := by rw [hg0, if_neg (by decide)]
  have no2 : h0.get? 402 = none := by rw [hg0, if_neg (by decide)]
  have KX0 : (KK w).In h0 := fun a o e => keep (fun q => by
    subst q
    have : (KK w).lookup 341 = none := by kernel_rfl
    rw [this] at e; cases e) (fun q => by
    subst q
    have : (KK w).lookup 402 = none := by kernel_rfl
    rw [this] at e; cases e) (KX a o e)
  have G : Glob w h0 := by
    refine ⟨KX0, ?_, ⟨mb, ?_, T.builtins⟩, ?_⟩
    · obtain ⟨mc, a, b⟩ := T.nolimit
      exact ⟨mc, a.at' fun o e => keep (by decide) (by decide) e, b⟩
    · exact T.b.at' fun o e => keep (by decide) (by decide) e
    · obtain ⟨bm, ob, b1, b2, b3, b4, b5, b6⟩ := T.bmain
      rw [e4] at b1; cases b1
      exact ⟨ob, keep (by decide) (by decide) b3, b4, b5, b6⟩
  have vi : VI vs ns := by
    clear hl hlay hz
    induction hi with
    | nil => trivial
    | cons n t h ih => exact ⟨⟨t, rfl⟩, ih⟩
  have hlen := vi.length
  have hsc : sc ≠ 341 ∧ sc ≠ 402 := by
    obtain ⟨o, ho, hc, _⟩ := hl
    constructor
    · rintro rfl; rw [KT 341 (by simp)] at ho; cases ho; cases hc
    · rintro rfl; rw [KT 402 (by simp)] at ho; cases ho; cases hc
  have S : St h0 h0 h0 ((341, .tab) :: (402, .tab) :: []) s₁.heap := by
    refine ⟨⟨⟨.refl _, k0, k0⟩, fun a o e n => n⟩, fun q hq => ?_, by simp⟩
    rcases List.mem_cons.mp hq with rfl | hq
    · exact ⟨⟨#[], KT 341 (by simp), trivial⟩, no1, no1⟩
    · simp at hq; subst hq
      exact ⟨⟨#[], KT 402 (by simp), trivial⟩, no2, no2⟩
  have hnm : callerA.handled = none := rfl
  refine m_law (outer := []) S G ⟨rfl, by decide, by decide⟩ rfl (fun e he => nomatch he) (hl.at fun o e => keep hsc.1 hsc.2 e) vi (by lia) (fun x hx => PySem.intBits_le_of_item hx hlay) fun b' h' tk gs S' bare => ?_
  refine k h' tk gs ?_ (bare (.of_eq hg))
  exact old_tables KX hg0 S'.keep (KT 341 (by simp)) (KT 402 (by simp)) ⟨_, _, by rfl, rfl, rfl, rfl⟩ ⟨_, _, by rfl, rfl, rfl, rfl⟩ (S'.mem (p := (341, .tab)) mem0) (S'.mem (p := (402, .tab)) mem1)
theorem walk_all : ∀ q loose (d : DefRec) kwd, d.name = "law" → WalkO q loose (XL q []) Hk.says PySem.Challenge.rw_ja0037_01.row.toRowW d kwd fun f vs => PySem.call f vs := by
  intro q loose d kwd hdn
  intro w s₀ s₁ mg mb G Y fa o pm cd doc dV kV ho hd' hcd hD hmg hg args vals as hpre hlay hrd hwl hlo
  have KX := km_in_of Y
  have KT := km_tabs_of Y
  have T := G.T
  clear Y hd' hcd hD
  wrow_args hpre hlay hrd hwl hlo
  refine enter_call ?_
  refine law_ends KX KT T (hdn ▸ hmg) hg (by assumption) (by assumption) (by assumption) (by lia) fun h' tk gs K B => ?_
  exact ⟨.inl ⟨.bool true, .bool true, [], rfl, fun _ => rfl, .bool true, postW_of rfl rfl (same_self _), fun _ => ⟨.nil, fun a ha => nomatch ha⟩⟩, K, rfl, B⟩
end Mine
end
namespace Mine
theorem hd.tw2867327485932766208 : True := trivial
theorem hd.tw4971549296188076032 : True := trivial
theorem hd.tw8735263284916673568 : True := trivial
theorem hd.tw1800889605409440832 : True := trivial
theorem hd.tw6276725880618359904 : True := trivial
theorem hd.tw4706079058837389440 : True := trivial
theorem hd.tw13181220554201973888 : True := trivial
theorem hd.tw5292301768408028288 : True := trivial
theorem hd.tw6830512106363814048 : True := trivial
theorem hd.tw10458740792067480800 : True := trivial
theorem hd.tw8381844023166312768 : True := trivial
theorem hd.tw7023726343779634624 : True := trivial
theorem hd.tw18350433093344046624 : True := trivial
theorem hd.tw8134915037123179040 : True := trivial
theorem hd.tw15344866539931968096 : True := trivial
theorem hd.tw1359830224848277088 : True := trivial
theorem hd.tw4494801613693538912 : True := trivial
theorem hd.tw3861751355019981504 : True := trivial
theorem hd.tw12070654863422294720 : True := trivial
theorem hd.tw17183224562656869120 : True := trivial
theorem hd.tw15643275761693703936 : True := trivial
theorem hd.tw17252143746492648416 : True := trivial
theorem hd.tw12127338746724423809 : True := trivial
theorem hd.tw12228760424905384129 : True := trivial
theorem hd.tw10403243965636340961 : True := trivial
theorem hd.tw1860674893733999873 : True := trivial
theorem hd.tw16858285156579221889 : True := trivial
theorem hd.tw4086058157674990017 : True := trivial
theorem hd.tw15220180469806662145 : True := trivial
theorem hd.tw16037735763661986305 : True := trivial
theorem hd.tw2315301623876862497 : True := trivial
theorem hd.tw17336936450418997793 : True := trivial
theorem hd.tw18343703819029505601 : True := trivial
theorem hd.tw13330244855972007585 : True := trivial
theorem hd.tw5343241284826551009 : True := trivial
theorem hd.tw12602439190401603521 : True := trivial
theorem hd.tw11210553801493137410 : True := trivial
theorem hd.tw14745743045033390146 : True := trivial
theorem hd.tw5480042469492414594 : True := trivial
theorem hd.tw9731375825926819010 : True := trivial
theorem hd.tw9430268157657104642 : True := trivial
theorem hd.tw13919464512627920130 : True := trivial
theorem hd.tw12936449754285732098 : True := trivial
theorem hd.tw4702841417184801058 : True := trivial
theorem hd.tw758273949599710562 : True := trivial
theorem hd.tw17588044629489971554 : True := trivial
theorem hd.tw12271959270614036898 : True := trivial
theorem hd.tw11713075325732132258 : True := trivial
theorem hd.tw15762743386357708290 : True := trivial
theorem hd.tw5781342201191254626 : True := trivial
theorem hd.tw3919010098100093602 : True := trivial
theorem hd.tw8364274539379898114 : True := trivial
theorem hd.tw5190246844813560578 : True := trivial
theorem hd.tw7525542149764818722 : True := trivial
theorem hd.tw9960721518486171458 : True := trivial
theorem hd.tw18245042118932799458 : True := trivial
theorem hd.tw8228950375871286339 : True := trivial
theorem hd.tw2304311442786299043 : True := trivial
theorem hd.tw16904818350239718627 : True := trivial
theorem hd.tw1995333227536443619 : True := trivial
theorem hd.tw18322514126500204803 : True := trivial
theorem hd.tw17130151131035750659 : True := trivial
theorem hd.tw3229955645248102723 : True := trivial
theorem hd.tw2783992281797965187 : True := trivial
theorem hd.tw6411954120941647267 : True := trivial
theorem hd.tw1760603350576429475 : True := trivial
theorem hd.tw13368278939475635651 : True := trivial
theorem hd.tw17087091549796120035 : True := trivial
theorem hd.tw9153386212771759811 : True := trivial
theorem hd.tw9908193460736022307 : True := trivial
theorem hd.tw18293851220164018083 : True := trivial
theorem hd.tw519851828213033955 : True := trivial
theorem hd.tw17843490464661113860 : True := trivial
theorem hd.tw4521311704260346916 : True := trivial
theorem hd.tw6060742912462422084 : True := trivial
theorem hd.tw14896477498954680388 : True := trivial
theorem hd.tw6407587892757256292 : True := trivial
theorem hd.tw6785817131721698500 : True := trivial
theorem hd.tw10507497572311344420 : True := trivial
theorem hd.tw14892549342360969540 : True := trivial
theorem hd.tw13855946660403688772 : True := trivial
theorem hd.tw7676003278276379012 : True := trivial
theorem hd.tw3219085151875037572 : True := trivial
theorem hd.tw11465210709893060100 : True := trivial
theorem hd.tw8493152586797012548 : True := trivial
theorem hd.tw10949625832625181284 : True := trivial
theorem hd.tw14343140133592188548 : True := trivial
theorem hd.tw2323474266016966308 : True := trivial
theorem hd.tw17001982702790524580 : True := trivial
theorem hd.tw5732804406350252772 : True := trivial
theorem hd.tw8684328023851190084 : True := trivial
theorem hd.tw3789350110615891812 : True := trivial
theorem hd.tw18241275227582772068 : True := trivial
theorem hd.tw8356816923877370021 : True := trivial
theorem hd.tw2502866573005156581 : True := trivial
theorem hd.tw6305734824756694309 : True := trivial
theorem hd.tw9702936160620672325 : True := trivial
theorem hd.tw10258999931320997221 : True := trivial
theorem hd.tw11893437276241958245 : True := trivial
theorem hd.tw15910714762333108613 : True := trivial
theorem hd.tw17061077104543960549 : True := trivial
theorem hd.tw1847840615245081061 : True := trivial
theorem hd.tw7721951785955056133 : True := trivial
theorem hd.tw6663896369628448293 : True := trivial
theorem hd.tw15790720579355451973 : True := trivial
theorem hd.tw5622408433266565701 : True := trivial
theorem hd.tw11251137523995926341 : True := trivial
theorem hd.tw6438293893037913957 : True := trivial
theorem hd.tw5505005885091257285 : True := trivial
theorem hd.tw17491280204586788870 : True := trivial
theorem hd.tw6555240042291301478 : True := trivial
theorem hd.tw13181700845877081190 : True := trivial
theorem hd.tw13466754112058979494 : True := trivial
theorem hd.tw8268277133935991078 : True := trivial
theorem hd.tw212345690472687942 : True := trivial
theorem hd.tw7523672394736509286 : True := trivial
theorem hd.tw11778180911958503814 : True := trivial
theorem hd.tw991583007596301734 : True := trivial
theorem hd.tw3795277891434052102 : True := trivial
theorem hd.tw10424393626065333798 : True := trivial
theorem hd.tw17258206423299326598 : True := trivial
theorem hd.tw17562767543260142214 : True := trivial
theorem hd.tw2195365466389143174 : True := trivial
theorem hd.tw13903934854276604550 : True := trivial
theorem hd.tw1865391376527767206 : True := trivial
theorem hd.tw4993660671451451078 : True := trivial
theorem hd.tw1506431575118746342 : True := trivial
theorem hd.tw8990313861142287110 : True := trivial
theorem hd.tw11587034568685482758 : True := trivial
theorem hd.tw9386895884608548742 : True := trivial
theorem hd.tw1589133516308662214 : True := trivial
theorem hd.tw5978321128707920903 : True := trivial
theorem hd.tw15043168886218598503 : True := trivial
theorem hd.tw17893044597097874663 : True := trivial
theorem hd.tw17062030032774818151 : True := trivial
theorem hd.tw8977307856219701671 : True := trivial
theorem hd.tw9783614193127449063 : True := trivial
theorem hd.tw5635641802508607975 : True := trivial
theorem hd.tw9557236495431379559 : True := trivial
theorem hd.tw12058812876911547015 : True := trivial
theorem hd.tw12901994302517312135 : True := trivial
theorem hd.tw11660266114150955751 : True := trivial
theorem hd.tw7068711184596962023 : True := trivial
theorem hd.tw8960069828448710407 : True := trivial
theorem hd.tw5054737718236178183 : True := trivial
theorem hd.tw17672654358674132775 : True := trivial
theorem hd.tw701787995468756871 : True := trivial
theorem hd.tw8545014587354053640 : True := trivial
theorem hd.tw190519026028168232 : True := trivial
theorem hd.tw12451258846644117672 : True := trivial
theorem hd.tw8671608845466749128 : True := trivial
theorem hd.tw6892424819385984264 : True := trivial
theorem hd.tw7345208892882624808 : True := trivial
theorem hd.tw13642289790063256904 : True := trivial
theorem hd.tw16920754564084929960 : True := trivial
theorem hd.tw12949589719889679912 : True := trivial
theorem hd.tw6038821095411175016 : True := trivial
theorem hd.tw2708950531961675432 : True := trivial
theorem hd.tw4642405928176397000 : True := trivial
theorem hd.tw10296555574160606952 : True := trivial
theorem hd.tw162610821266807592 : True := trivial
theorem hd.tw17975533764899295144 : True := trivial
theorem hd.tw4870687313549177768 : True := trivial
theorem hd.tw6053923438159776744 : True := trivial
theorem hd.tw11011131195910976488 : True := trivial
theorem hd.tw3259873300814134281 : True := trivial
theorem hd.tw189712035060473897 : True := trivial
theorem hd.tw8959176491354863721 : True := trivial
theorem hd.tw14906377314874228009 : True := trivial
theorem hd.tw9244321171653502345 : True := trivial
theorem hd.tw1129884963351977449 : True := trivial
theorem hd.tw5009564483982726761 : True := trivial
theorem hd.tw10258225898301398825 : True := trivial
theorem hd.tw9566141503761928105 : True := trivial
theorem hd.tw3915529967508079626 : True := trivial
theorem hd.tw18264374347568628810 : True := trivial
theorem hd.tw6906073325868019850 : True := trivial
theorem hd.tw13217225542625558698 : True := trivial
theorem hd.tw7120233287515763914 : True := trivial
theorem hd.tw6804821044290156842 : True := trivial
theorem hd.tw16794629799341752650 : True := trivial
theorem hd.tw7654286748164834634 : True := trivial
theorem hd.tw5416991563250132298 : True := trivial
theorem hd.tw17447410573909459338 : True := trivial
theorem hd.tw17466564637892440618 : True := trivial
theorem hd.tw10603584201595350602 : True := trivial
theorem hd.tw10170382586518783626 : True := trivial
theorem hd.tw14581931874938826474 : True := trivial
theorem hd.tw12487502673411948298 : True := trivial
theorem hd.tw12112201142124510154 : True := trivial
theorem hd.tw4478964076566166474 : True := trivial
theorem hd.tw12239354291974867115 : True := trivial
theorem hd.tw11128854368766332075 : True := trivial
theorem hd.tw13277076834127875243 : True := trivial
theorem hd.tw3443669649825651883 : True := trivial
theorem hd.tw15936815454951572811 : True := trivial
theorem hd.tw9170477692918782315 : True := trivial
theorem hd.tw10030107230732127627 : True := trivial
theorem hd.tw17054507655720011243 : True := trivial
theorem hd.tw17808607793243039243 : True := trivial
theorem hd.tw6683769817339685419 : True := trivial
theorem hd.tw7534799579077118603 : True := trivial
theorem hd.tw16222499966895952523 : True := trivial
theorem hd.tw15089522573102190283 : True := trivial
theorem hd.tw10743916045514856203 : True := trivial
theorem hd.tw9748044761591592747 : True := trivial
theorem hd.tw8727321023445011275 : True := trivial
theorem hd.tw2999033326186475339 : True := trivial
theorem hd.tw8242931771332617035 : True := trivial
theorem hd.tw6196171512934965099 : True := trivial
theorem hd.tw8716120427605611371 : True := trivial
theorem hd.tw978945382295711627 : True := trivial
theorem hd.tw4325921153153474475 : True := trivial
theorem hd.tw6264232113106981867 : True := trivial
theorem hd.tw4315991029959535628 : True := trivial
theorem hd.tw6394381022753523788 : True := trivial
theorem hd.tw1836080755315867724 : True := trivial
theorem hd.tw12647368939536790636 : True := trivial
theorem hd.tw16299908979028503884 : True := trivial
theorem hd.tw12092154237167983948 : True := trivial
theorem hd.tw2930668341846507884 : True := trivial
theorem hd.tw17711083657039698284 : True := trivial
theorem hd.tw12575139184659369484 : True := trivial
theorem hd.tw6482722132109649516 : True := trivial
theorem hd.tw5130813555471234732 : True := trivial
theorem hd.tw8004679753235328684 : True := trivial
theorem hd.tw17948085552500728524 : True := trivial
theorem hd.tw18185175575083235020 : True := trivial
theorem hd.tw7270182246851987180 : True := trivial
theorem hd.tw12588582704262371052 : True := trivial
theorem hd.tw15368132723985388332 : True := trivial
theorem hd.tw6819123309680001836 : True := trivial
theorem hd.tw12023040214023829324 : True := trivial
theorem hd.tw16171809288044610508 : True := trivial
theorem hd.tw98111552014255084 : True := trivial
theorem hd.tw16332348944364537037 : True := trivial
theorem hd.tw1013155817946168525 : True := trivial
theorem hd.tw13437302318768402701 : True := trivial
theorem hd.tw13321331477185743149 : True := trivial
theorem hd.tw16345102440705955213 : True := trivial
theorem hd.tw8457440626546761165 : True := trivial
theorem hd.tw9237616624170024493 : True := trivial
theorem hd.tw4377701919642642989 : True := trivial
theorem hd.tw3404104791013757517 : True := trivial
theorem hd.tw16828841361933241965 : True := trivial
theorem hd.tw3418944747029953165 : True := trivial
theorem hd.tw5036846961687405229 : True := trivial
theorem hd.tw17606422857730326317 : True := trivial
theorem hd.tw11801993109049149486 : True := trivial
theorem hd.tw9398405308114057262 : True := trivial
theorem hd.tw14980023328507725902 : True := trivial
theorem hd.tw7880807054014371918 : True := trivial
theorem hd.tw4278124947684190350 : True := trivial
theorem hd.tw14294001040229213422 : True := trivial
theorem hd.tw16393493315030741486 : True := trivial
theorem hd.tw185848376630758926 : True := trivial
theorem hd.tw1781861727890032366 : True := trivial
theorem hd.tw4159134105002834734 : True := trivial
theorem hd.tw16722109127936396110 : True := trivial
theorem hd.tw14553816603554493358 : True := trivial
theorem hd.tw9345929723534960622 : True := trivial
theorem hd.tw6818987989461384207 : True := trivial
theorem hd.tw1452849714261714991 : True := trivial
theorem hd.tw15616948245753086127 : True := trivial
theorem hd.tw8096613928993691855 : True := trivial
theorem hd.tw2442259710966052079 : True := trivial
theorem hd.tw6082411064634330575 : True := trivial
theorem hd.tw3493717111155160527 : True := trivial
theorem hd.tw3759623122121258479 : True := trivial
theorem hd.tw10012880186880212623 : True := trivial
theorem hd.tw11709330566771433103 : True := trivial
theorem hd.tw5987830557187376847 : True := trivial
theorem hd.tw6990203504111849199 : True := trivial
theorem hd.tw2101469004524951375 : True := trivial
theorem hd.tw11319892378374348655 : True := trivial
theorem hd.tw13315533130655954831 : True := trivial
theorem hd.tw8879563391730754479 : True := trivial
theorem hd.tw16649331688326792143 : True := trivial
theorem hd.tw1197925565968671727 : True := trivial
theorem hd.tw10111801491309104144 : True := trivial
theorem hd.tw402640490398009360 : True := trivial
theorem hd.tw16011055738799735888 : True := trivial
theorem hd.tw10216474801634566288 : True := trivial
theorem hd.tw10491609206876299696 : True := trivial
theorem hd.tw7891253978561527248 : True := trivial
theorem hd.tw15040182064412255696 : True := trivial
theorem hd.tw16853341256802265648 : True := trivial
theorem hd.tw1712922718373300912 : True := trivial
theorem hd.tw7382370116671421104 : True := trivial
theorem hd.tw4856431653887292112 : True := trivial
theorem hd.tw13518370688599389936 : True := trivial
theorem hd.tw12614811148066621264 : True := trivial
theorem hd.tw15595854959937240912 : True := trivial
theorem hd.tw15279998641719260112 : True := trivial
theorem hd.tw15527848837575444561 : True := trivial
theorem hd.tw10062127864464572529 : True := trivial
theorem hd.tw17213754286329925777 : True := trivial
theorem hd.tw432457690288141553 : True := trivial
theorem hd.tw280609765759037681 : True := trivial
theorem hd.tw14705683404202351889 : True := trivial
theorem hd.tw100483095206116625 : True := trivial
theorem hd.tw6882427118574961969 : True := trivial
theorem hd.tw273691110169975121 : True := trivial
theorem hd.tw16634568088961857937 : True := trivial
theorem hd.tw15852365999677673905 : True := trivial
theorem hd.tw16056359734778111409 : True := trivial
theorem hd.tw7082855905992002993 : True := trivial
theorem hd.tw14246236162039180721 : True := trivial
theorem hd.tw13514359493905995313 : True := trivial
theorem hd.tw13220430256171166289 : True := trivial
theorem hd.tw5961118342813265553 : True := trivial
theorem hd.tw8117029840178788049 : True := trivial
theorem hd.tw6545403380812914513 : True := trivial
theorem hd.tw6578402527460240241 : True := trivial
theorem hd.tw6759412095888398321 : True := trivial
theorem hd.tw2391449824757734642 : True := trivial
theorem hd.tw13825509269061658866 : True := trivial
theorem hd.tw8025032847418708242 : True := trivial
theorem hd.tw9641152695372364146 : True := trivial
theorem hd.tw15166520500009309586 : True := trivial
theorem hd.tw5461583852855630226 : True := trivial
theorem hd.tw9499510787657705874 : True := trivial
theorem hd.tw14772383043592177042 : True := trivial
theorem hd.tw15813434630575017362 : True := trivial
theorem hd.tw7754304195085646258 : True := trivial
theorem hd.tw5366084841770067474 : True := trivial
theorem hd.tw2167537188350426706 : True := trivial
theorem hd.tw5282504435634884242 : True := trivial
theorem hd.tw250903467453971090 : True := trivial
theorem hd.tw1580110805410547442 : True := trivial
theorem hd.tw8053944837975664402 : True := trivial
theorem hd.tw14560493823538711346 : True := trivial
theorem hd.tw10525666975642140466 : True := trivial
theorem hd.tw9298403506768410418 : True := trivial
theorem hd.tw12629568148972539762 : True := trivial
theorem hd.tw6293948785866598258 : True := trivial
theorem hd.tw7296583596125217682 : True := trivial
theorem hd.tw8112040973832200146 : True := trivial
theorem hd.tw1097998534492414930 : True := trivial
theorem hd.tw15083628210047938546 : True := trivial
theorem hd.tw10601615944963115059 : True := trivial
theorem hd.tw3694398316872202419 : True := trivial
theorem hd.tw9184186324627900627 : True := trivial
theorem hd.tw5567388512258382067 : True := trivial
theorem hd.tw5657824000916062451 : True := trivial
theorem hd.tw5238241317806426387 : True := trivial
theorem hd.tw12797040952259185971 : True := trivial
theorem hd.tw7289634563603522867 : True := trivial
theorem hd.tw16945582573551092051 : True := trivial
theorem hd.tw14168552714766633299 : True := trivial
theorem hd.tw3606577097940449651 : True := trivial
theorem hd.tw1382963296337349011 : True := trivial
theorem hd.tw16432713993328977331 : True := trivial
theorem hd.tw8311109941518608819 : True := trivial
theorem hd.tw7793673504863384051 : True := trivial
theorem hd.tw11151547217846952531 : True := trivial
theorem hd.tw18103342009636024947 : True := trivial
theorem hd.tw3008623586974134963 : True := trivial
theorem hd.tw12133045374167112435 : True := trivial
theorem hd.tw14564911813994130195 : True := trivial
theorem hd.tw920214292312260371 : True := trivial
theorem hd.tw16640546478005224243 : True := trivial
theorem hd.tw15948780112781908787 : True := trivial
theorem hd.tw4015398097383911347 : True := trivial
theorem hd.tw13409441903868389331 : True := trivial
theorem hd.tw8789358453043137523 : True := trivial
theorem hd.tw18103420901670897651 : True := trivial
theorem hd.tw4851647983119433812 : True := trivial
theorem hd.tw15529170255622000948 : True := trivial
theorem hd.tw6164396464334811476 : True := trivial
theorem hd.tw7540655947842036084 : True := trivial
theorem hd.tw6547078798241139092 : True := trivial
theorem hd.tw6998783941825042932 : True := trivial
theorem hd.tw7366208706002141716 : True := trivial
theorem hd.tw4014540891139286612 : True := trivial
theorem hd.tw7540741092611519060 : True := trivial
theorem hd.tw18293732401869909652 : True := trivial
theorem hd.tw10738003575532504788 : True := trivial
theorem hd.tw697623264460660564 : True := trivial
theorem hd.tw1997569388931296116 : True := trivial
theorem hd.tw226724450230711188 : True := trivial
theorem hd.tw17542962492245011380 : True := trivial
theorem hd.tw5629675986466331604 : True := trivial
theorem hd.tw1439246655266547700 : True := trivial
theorem hd.tw6598312636042714100 : True := trivial
theorem hd.tw17234923516513369237 : True := trivial
theorem hd.tw11162318198679636149 : True := trivial
theorem hd.tw9496365245306024149 : True := trivial
theorem hd.tw17703440808498902325 : True := trivial
theorem hd.tw6442067068224118133 : True := trivial
theorem hd.tw14103535550066685397 : True := trivial
theorem hd.tw2608437505485318709 : True := trivial
theorem hd.tw3571134770919094901 : True := trivial
theorem hd.tw12173100003817136821 : True := trivial
theorem hd.tw7494724483528729301 : True := trivial
theorem hd.tw13609717118414637909 : True := trivial
theorem hd.tw16302227732802510677 : True := trivial
theorem hd.tw13483081372092288885 : True := trivial
theorem hd.tw9427301549700849589 : True := trivial
theorem hd.tw3941438180925939637 : True := trivial
theorem hd.tw6820862383352777685 : True := trivial
theorem hd.tw8965841893048198262 : True := trivial
theorem hd.tw6291416237084387574 : True := trivial
theorem hd.tw8343274005884668182 : True := trivial
theorem hd.tw1848646778235469078 : True := trivial
theorem hd.tw1413172679324656950 : True := trivial
theorem hd.tw16473244170626142550 : True := trivial
theorem hd.tw16713699803418581334 : True := trivial
theorem hd.tw3452082135128663414 : True := trivial
theorem hd.tw17397052962432165270 : True := trivial
theorem hd.tw11213053971927718326 : True := trivial
theorem hd.tw7752767780024739350 : True := trivial
theorem hd.tw16155205043701107222 : True := trivial
theorem hd.tw1011335219593555734 : True := trivial
theorem hd.tw7561156446497217366 : True := trivial
theorem hd.tw8428860471423672150 : True := trivial
theorem hd.tw4138081844389336918 : True := trivial
theorem hd.tw6184460063843016694 : True := trivial
theorem hd.tw15615537253650120727 : True := trivial
theorem hd.tw2216850387143573719 : True := trivial
theorem hd.tw5283464899586487735 : True := trivial
theorem hd.tw16970440968685349367 : True := trivial
theorem hd.tw3442329435671937591 : True := trivial
theorem hd.tw13783031573616600631 : True := trivial
theorem hd.tw16064382804478563927 : True := trivial
theorem hd.tw15416985209724490359 : True := trivial
theorem hd.tw307737655149646647 : True := trivial
theorem hd.tw3381375190539634487 : True := trivial
theorem hd.tw10879034167726328663 : True := trivial
theorem hd.tw12598724348716800887 : True := trivial
theorem hd.tw11389486352061984695 : True := trivial
theorem hd.tw11136197038861592535 : True := trivial
theorem hd.tw2788664435532181463 : True := trivial
theorem hd.tw9345676750909349944 : True := trivial
theorem hd.tw17650839729002327288 : True := trivial
theorem hd.tw2799067240506288376 : True := trivial
theorem hd.tw8841187974860818712 : True := trivial
theorem hd.tw14768889098011018680 : True := trivial
theorem hd.tw5511420028821071320 : True := trivial
theorem hd.tw13866372431405929976 : True := trivial
theorem hd.tw13267510147771200024 : True := trivial
theorem hd.tw14176624398918483544 : True := trivial
theorem hd.tw15048261121198461528 : True := trivial
theorem hd.tw8516288146210602744 : True := trivial
theorem hd.tw8770205317985620760 : True := trivial
theorem hd.tw10860895700388868024 : True := trivial
theorem hd.tw15987713032478767096 : True := trivial
theorem hd.tw13342606739435360313 : True := trivial
theorem hd.tw4788038989552484473 : True := trivial
theorem hd.tw728884934406724761 : True := trivial
theorem hd.tw1588505670450824345 : True := trivial
theorem hd.tw2603259988358896889 : True := trivial
theorem hd.tw2845679848157327705 : True := trivial
theorem hd.tw18291419657060728153 : True := trivial
theorem hd.tw17789176322338366841 : True := trivial
theorem hd.tw10784824025267889561 : True := trivial
theorem hd.tw11054480109507316185 : True := trivial
theorem hd.tw3953601041324332601 : True := trivial
theorem hd.tw881544763273948857 : True := trivial
theorem hd.tw17574625026820762457 : True := trivial
theorem hd.tw8081886968326746073 : True := trivial
theorem hd.tw6982297934935202809 : True := trivial
theorem hd.tw22551697357593593 : True := trivial
theorem hd.tw17047115858639842297 : True := trivial
theorem hd.tw13047593935725612058 : True := trivial
theorem hd.tw5902613922787404954 : True := trivial
theorem hd.tw15673258824015622330 : True := trivial
theorem hd.tw541196102884509978 : True := trivial
theorem hd.tw13753220567063992666 : True := trivial
theorem hd.tw12050417470231563642 : True := trivial
theorem hd.tw9421340871869096474 : True := trivial
theorem hd.tw4972139816212722202 : True := trivial
theorem hd.tw1600037746751723098 : True := trivial
theorem hd.tw7526368328331116154 : True := trivial
theorem hd.tw5373601922739893978 : True := trivial
theorem hd.tw14960593345356199642 : True := trivial
theorem hd.tw11232374478483605306 : True := trivial
theorem hd.tw12394076208661396346 : True := trivial
theorem hd.tw11652457597714270106 : True := trivial
theorem hd.tw13038990169509382042 : True := trivial
theorem hd.tw1610171440888473627 : True := trivial
theorem hd.tw13372043803930879067 : True := trivial
theorem hd.tw11032806212648032379 : True := trivial
theorem hd.tw15103106377680225435 : True := trivial
theorem hd.tw14353793391729792155 : True := trivial
theorem hd.tw11079593142295127227 : True := trivial
theorem hd.tw14478148883734587675 : True := trivial
theorem hd.tw6767318904944593275 : True := trivial
theorem hd.tw10024716035694756283 : True := trivial
theorem hd.tw8086110750863094267 : True := trivial
theorem hd.tw16007149819294483003 : True := trivial
theorem hd.tw3085183777334472315 : True := trivial
theorem hd.tw17177331786930743035 : True := trivial
theorem hd.tw461538923250603899 : True := trivial
theorem hd.tw15153279154761372571 : True := trivial
theorem hd.tw15642763164714097627 : True := trivial
theorem hd.tw13770079208771991547 : True := trivial
theorem hd.tw11319097763535126812 : True := trivial
theorem hd.tw395138700845864316 : True := trivial
theorem hd.tw15615420239508185596 : True := trivial
theorem hd.tw12591134339009171964 : True := trivial
theorem hd.tw16091413853298234908 : True := trivial
theorem hd.tw2887051446865420828 : True := trivial
theorem hd.tw7085514621470718492 : True := trivial
theorem hd.tw1699103778626983548 : True := trivial
theorem hd.tw3451239065008710300 : True := trivial
theorem hd.tw17599816209265215132 : True := trivial
theorem hd.tw2327210489368252092 : True := trivial
theorem hd.tw1194904439430580092 : True := trivial
theorem hd.tw4402725079659364252 : True := trivial
theorem hd.tw4845836938831722396 : True := trivial
theorem hd.tw14852329139284432860 : True := trivial
theorem hd.tw11117797201346649052 : True := trivial
theorem hd.tw17986969038992634876 : True := trivial
theorem hd.tw18219297243305740317 : True := trivial
theorem hd.tw922143313871775805 : True := trivial
theorem hd.tw17714235663813219645 : True := trivial
theorem hd.tw4560424822364553533 : True := trivial
theorem hd.tw2457190517430149469 : True := trivial
theorem hd.tw16868993833207775613 : True := trivial
theorem hd.tw6924109203229866365 : True := trivial
theorem hd.tw10792051664901133789 : True := trivial
theorem hd.tw5608270528595127837 : True := trivial
theorem hd.tw7763873220885509757 : True := trivial
theorem hd.tw3646829019195819677 : True := trivial
theorem hd.tw3704167492566942397 : True := trivial
theorem hd.tw15967140613478806237 : True := trivial
theorem hd.tw13647732107164738365 : True := trivial
theorem hd.tw8226494294326810461 : True := trivial
theorem hd.tw15833661619300960221 : True := trivial
theorem hd.tw16194383521188589630 : True := trivial
theorem hd.tw11631869004601391166 : True := trivial
theorem hd.tw7746578258024575070 : True := trivial
theorem hd.tw9673543361469618366 : True := trivial
theorem hd.tw6838551448383532254 : True := trivial
theorem hd.tw11959044307898795358 : True := trivial
theorem hd.tw13638418597567726942 : True := trivial
theorem hd.tw16259696140248634718 : True := trivial
theorem hd.tw15890378047532165470 : True := trivial
theorem hd.tw17681399029576232318 : True := trivial
theorem hd.tw13431754692932380062 : True := trivial
theorem hd.tw17901334829092211166 : True := trivial
theorem hd.tw17739348878880393726 : True := trivial
theorem hd.tw2329189449893159454 : True := trivial
theorem hd.tw9533747618267967006 : True := trivial
theorem hd.tw3480954088277226078 : True := trivial
theorem hd.tw9763420282994701918 : True := trivial
theorem hd.tw7510230149288206974 : True := trivial
theorem hd.tw12744807935193187038 : True := trivial
theorem hd.tw54727356038600574 : True := trivial
theorem hd.tw8047900516022102942 : True := trivial
theorem hd.tw14620637471214046174 : True := trivial
theorem hd.tw6423634429210846174 : True := trivial
theorem hd.tw6931407450589930559 : True := trivial
theorem hd.tw12070051907170230399 : True := trivial
theorem hd.tw3530705653197291679 : True := trivial
theorem hd.tw4478166936697009375 : True := trivial
theorem hd.tw15114108414909977919 : True := trivial
theorem hd.tw1954109241102656831 : True := trivial
theorem hd.tw8414420238210853183 : True := trivial
theorem hd.tw2284436838669742495 : True := trivial
theorem hd.tw14400467628812073631 : True := trivial
theorem hd.tw5245234834050458271 : True := trivial
theorem hd.tw3309697970292668127 : True := trivial
theorem hd.tw15563894593669164914 : True := trivial
theorem hd.tw12855173809612906512 : True := trivial
theorem fin.tw15563894593669164914 : True := trivial
end Mine
section
open PySem PySem.W PyProof.Rows
set_option maxHeartbeats 8000000
namespace Mine
set_option Elab.async true in
theorem hd : PySem.Challenge.rw_ja0037_01.row.Holds := by
  o_head Hk
  case hw => w_witness2
  exact walk_all _ _ _ _ rfl
set_option Elab.async true in
theorem fin : PySem.Challenge.rw_ja0037_01.Holds := by
  w_on
  o_law
  exact hd
end Mine
end
theorem PySem.Challenge.cw_ja0037_01_holds : PySem.Challenge.rw_ja0037_01.Holds := by
  exact Mine.fin
