import PyProof.Rows.All
import Wide.All
import OpenK.AllK
import Wide.FinOn
import PyProof.FactsBase
import PyProof.TableTree
import PyProof.FactsTree
import PyProof.PlainAttrs
import PyProof.AttrMissHeap
import KE.KFromBytes
import KE.KItemsList
import Lean
import PySem.Challenge.RW_uq0033_01

section
open PySem PySem.W PyProof.Rows
set_option Elab.async false
set_option maxRecDepth 100000
set_option maxHeartbeats 8000000
namespace Mine
abbrev LH : List Str := [Str.ofString "tspecials", Str.ofString "_name_disallowed_re", Str.ofString "_value_disallowed_re",
      Str.ofString "_formatparam", Str.ofString "_twin_re_1", Str.ofString "_namespace_map",
      Str.ofString "_looks_like_prefix_name", Str.ofString "C14NWriterTarget"]
noncomputable def view : Program := (fun (a0 a1 a2 a3 a4 a5 a6 a7 a8 a9 a10 a11 a12 a13 a14 a15 a16 a17 a18 a19 a20 a21 a22 a23 a24 a25 a26 a27 a28 : Stmt) (_ : PySem.Challenge.pw_uq0033_01.main.body = [a0, a1, a2, a3, a4, a5, a6, a7, a8, a9, a10, a11, a12, a13, a14, a15, a16, a17, a18, a19, a20, a21, a22, a23, a24, a25, a26, a27, a28]) =>
  ({ PySem.Challenge.pw_uq0033_01 with main := { PySem.Challenge.pw_uq0033_01.main with body := [a0, a1, a3, a4, a5, a7, a8, a9, a11, a13, a14, a15, a16, a17, a18, a19, a21, a22, a23, a24, a25, a26, a27, a28] } } : Program)) _ _ _ _ _ _ _ _ _ _ _ _ _ _ _ _ _ _ _ _ _ _ _ _ _ _ _ _ _ rfl
theorem holds2 {r : OpenRow} {q : Program} {loose : List Str} {Xt : Shared → Bool} {XP : (Str → Option Value) → Heap → Prop} {α : Type} {Yf : Shared → α} {Ya : World → α} {YP : World → Heap → Prop} {d : DefRec} {kwd : List (Str × Expr)} {N : Nat}
    (hY : ∀ w s, Yf s = Ya w → YP w s.heap) (hYk : ∀ w h h', YP w h → (∀ b o, h.get? b = some o → h'.get? b = some o) → YP w h')
    (hX : ∀ s, Xt s = true → XP (s.heap.nsMap mainGlobals) s.heap) (hXk : ∀ mg h h', XP mg h → (∀ b o, h.get? b = some o → h'.get? b = some o) → XP mg h')
    (hdef : defOf q r.name = some (d, kwd)) (hp : r.prog.theDef r.name = some (d.params, d.body, d.scope)) (hk : kwWritten? d.params.kwonlyargs d.params.kw_defaults = some kwd) (hRf : ∀ s, Xt s = true → RecFacts r.records s.heap) (hwr : (!r.writes || r.records.isEmpty) = true)
    (k1 : r.wellSaid = true) (ok : (chainsOk q && opensWell r.prog && (frees r.toRowW && r.within.isEmpty)) = true) (hb : r.prog.bare) (hw : r.toRowW.promised)
    (both : LeftO r.prog q loose Xt Yf Ya N ∧ WalkO q loose XP YP r.toRowW d kwd fun f vs => PySem.call f vs) : r.Holds :=
  holds_open both.1 hY hYk hX hXk hdef hp hk hRf hwr k1 ok hb hw both.2
theorem law_said : OpenLaw.wellSaid PySem.Challenge.rw_uq0033_01 = true := by
  rw [PySem.W.Fast.te9446332074065402090]
  kernel_rfl
section
local macro_rules | `(tactic| o_law) => `(tactic| refine holds_law Mine.law_said fun said => ?_)
local macro_rules | `(tactic| o_head $H) => `(tactic|
  refine holds2 (q := Mine.view) (loose := Mine.LH)
    (Xt := fun s => xlAt Mine.view [] s && recOk (RowW.records PySem.Challenge.rw_uq0033_01.row.toRowW) s) (XP := XL Mine.view [])
    (Yf := Hook.obs $H) (Ya := Hook.val $H) (YP := Hook.says $H) (N := 4872) (Hook.of $H) (Hook.keeps $H)
    (fun s e => xl_of s (Bool.and_eq_true_iff.mp e).1) XL.keeps (by rfl) (by rfl) (by rfl) (fun s e => recFacts_of (Bool.and_eq_true_iff.mp e).2) (by rfl)
    (by first | assumption | decide +kernel) (by decide +kernel) ⟨rfl, rfl, rfl, rfl, rfl, by decide +kernel⟩ ?hw ?hc)
open_top hd for PySem.Challenge.rw_uq0033_01
end
end Mine
end
local macro_rules | `(tactic| walk_at $s:str) => `(tactic| k_extra $s)

section
namespace Mine
theorem an1 {p1 q : Prop} (h : p1 ∧ q) : p1 := h.1
theorem an2 {p1 p2 q : Prop} (h : p1 ∧ p2 ∧ q) : p2 := h.2.1
theorem al2 {p1 p2 : Prop} (h : p1 ∧ p2) : p2 := h.2
theorem an3 {p1 p2 p3 q : Prop} (h : p1 ∧ p2 ∧ p3 ∧ q) : p3 := h.2.2.1
theorem al3 {p1 p2 p3 : Prop} (h : p1 ∧ p2 ∧ p3) : p3 := h.2.2
theorem an4 {p1 p2 p3 p4 q : Prop} (h : p1 ∧ p2 ∧ p3 ∧ p4 ∧ q) : p4 := h.2.2.2.1
theorem al4 {p1 p2 p3 p4 : Prop} (h : p1 ∧ p2 ∧ p3 ∧ p4) : p4 := h.2.2.2
theorem an5 {p1 p2 p3 p4 p5 q : Prop} (h : p1 ∧ p2 ∧ p3 ∧ p4 ∧ p5 ∧ q) : p5 := h.2.2.2.2.1
theorem al5 {p1 p2 p3 p4 p5 : Prop} (h : p1 ∧ p2 ∧ p3 ∧ p4 ∧ p5) : p5 := h.2.2.2.2
theorem an6 {p1 p2 p3 p4 p5 p6 q : Prop} (h : p1 ∧ p2 ∧ p3 ∧ p4 ∧ p5 ∧ p6 ∧ q) : p6 := h.2.2.2.2.2.1
theorem al6 {p1 p2 p3 p4 p5 p6 : Prop} (h : p1 ∧ p2 ∧ p3 ∧ p4 ∧ p5 ∧ p6) : p6 := h.2.2.2.2.2
theorem an7 {p1 p2 p3 p4 p5 p6 p7 q : Prop} (h : p1 ∧ p2 ∧ p3 ∧ p4 ∧ p5 ∧ p6 ∧ p7 ∧ q) : p7 := h.2.2.2.2.2.2.1
theorem al7 {p1 p2 p3 p4 p5 p6 p7 : Prop} (h : p1 ∧ p2 ∧ p3 ∧ p4 ∧ p5 ∧ p6 ∧ p7) : p7 := h.2.2.2.2.2.2
theorem an8 {p1 p2 p3 p4 p5 p6 p7 p8 q : Prop} (h : p1 ∧ p2 ∧ p3 ∧ p4 ∧ p5 ∧ p6 ∧ p7 ∧ p8 ∧ q) : p8 := h.2.2.2.2.2.2.2.1
theorem al8 {p1 p2 p3 p4 p5 p6 p7 p8 : Prop} (h : p1 ∧ p2 ∧ p3 ∧ p4 ∧ p5 ∧ p6 ∧ p7 ∧ p8) : p8 := h.2.2.2.2.2.2.2
theorem an9 {p1 p2 p3 p4 p5 p6 p7 p8 p9 q : Prop} (h : p1 ∧ p2 ∧ p3 ∧ p4 ∧ p5 ∧ p6 ∧ p7 ∧ p8 ∧ p9 ∧ q) : p9 := h.2.2.2.2.2.2.2.2.1
theorem al9 {p1 p2 p3 p4 p5 p6 p7 p8 p9 : Prop} (h : p1 ∧ p2 ∧ p3 ∧ p4 ∧ p5 ∧ p6 ∧ p7 ∧ p8 ∧ p9) : p9 := h.2.2.2.2.2.2.2.2
theorem an10 {p1 p2 p3 p4 p5 p6 p7 p8 p9 p10 q : Prop} (h : p1 ∧ p2 ∧ p3 ∧ p4 ∧ p5 ∧ p6 ∧ p7 ∧ p8 ∧ p9 ∧ p10 ∧ q) : p10 := h.2.2.2.2.2.2.2.2.2.1
theorem al10 {p1 p2 p3 p4 p5 p6 p7 p8 p9 p10 : Prop} (h : p1 ∧ p2 ∧ p3 ∧ p4 ∧ p5 ∧ p6 ∧ p7 ∧ p8 ∧ p9 ∧ p10) : p10 := h.2.2.2.2.2.2.2.2.2
theorem an11 {p1 p2 p3 p4 p5 p6 p7 p8 p9 p10 p11 q : Prop} (h : p1 ∧ p2 ∧ p3 ∧ p4 ∧ p5 ∧ p6 ∧ p7 ∧ p8 ∧ p9 ∧ p10 ∧ p11 ∧ q) : p11 := h.2.2.2.2.2.2.2.2.2.2.1
theorem al11 {p1 p2 p3 p4 p5 p6 p7 p8 p9 p10 p11 : Prop} (h : p1 ∧ p2 ∧ p3 ∧ p4 ∧ p5 ∧ p6 ∧ p7 ∧ p8 ∧ p9 ∧ p10 ∧ p11) : p11 := h.2.2.2.2.2.2.2.2.2.2
theorem an12 {p1 p2 p3 p4 p5 p6 p7 p8 p9 p10 p11 p12 q : Prop} (h : p1 ∧ p2 ∧ p3 ∧ p4 ∧ p5 ∧ p6 ∧ p7 ∧ p8 ∧ p9 ∧ p10 ∧ p11 ∧ p12 ∧ q) : p12 := h.2.2.2.2.2.2.2.2.2.2.2.1
theorem al12 {p1 p2 p3 p4 p5 p6 p7 p8 p9 p10 p11 p12 : Prop} (h : p1 ∧ p2 ∧ p3 ∧ p4 ∧ p5 ∧ p6 ∧ p7 ∧ p8 ∧ p9 ∧ p10 ∧ p11 ∧ p12) : p12 := h.2.2.2.2.2.2.2.2.2.2.2
theorem rm0 {a k R : Nat} (h : a + k < R) : a < R := Nat.lt_of_le_of_lt (Nat.le_add_right _ _) h
theorem rm1 {a i k R : Nat} (h : a + k < R) (e : i ≤ k) : a + i < R := Nat.lt_of_le_of_lt (Nat.add_le_add_left e _) h
theorem rm2 {a i j k R : Nat} (h : a + k < R) (e : i + j ≤ k) : a + i + j < R := Nat.add_assoc a i j ▸ rm1 h e
theorem rm3 {a i j l k R : Nat} (h : a + k < R) (e : i + j + l ≤ k) : a + i + j + l < R := by rw [Nat.add_assoc a i j]; exact rm2 h e
end Mine
end

local macro_rules | `(tactic| omega) => `(tactic| first | decide | assumption | exact Nat.le_add_left 1 _ | exact Nat.succ_ne_zero _ | exact Nat.ne_of_gt (by assumption) | exact Nat.ne_of_lt (Nat.lt_succ_self _) | exact Nat.le_trans (by assumption) (by decide) | exact Mine.rm0 (by assumption) | exact Mine.rm1 (by assumption) (by decide) | exact Mine.rm2 (by assumption) (by decide) | exact Mine.rm3 (by assumption) (by decide) | ((show _ ≠ _); first | (refine Nat.ne_of_gt ?_; first | assumption | exact Mine.an1 (by assumption) | exact Mine.an2 (by assumption) | exact Mine.an3 (by assumption) | exact Mine.an4 (by assumption) | exact Mine.an5 (by assumption) | exact Mine.an6 (by assumption) | exact Mine.an7 (by assumption) | exact Mine.an8 (by assumption) | exact Mine.an9 (by assumption) | exact Mine.an10 (by assumption) | exact Mine.al2 (by assumption) | exact Mine.al3 (by assumption) | exact Mine.al4 (by assumption) | exact Mine.al5 (by assumption) | exact Mine.al6 (by assumption) | exact Mine.al7 (by assumption) | exact Mine.al8 (by assumption) | exact Mine.al9 (by assumption) | exact Mine.al10 (by assumption)) | (refine Nat.ne_of_lt ?_; first | assumption | exact Mine.an1 (by assumption) | exact Mine.an2 (by assumption) | exact Mine.an3 (by assumption) | exact Mine.an4 (by assumption) | exact Mine.an5 (by assumption) | exact Mine.an6 (by assumption) | exact Mine.an7 (by assumption) | exact Mine.an8 (by assumption) | exact Mine.an9 (by assumption) | exact Mine.an10 (by assumption) | exact Mine.al2 (by assumption) | exact Mine.al3 (by assumption) | exact Mine.al4 (by assumption) | exact Mine.al5 (by assumption) | exact Mine.al6 (by assumption) | exact Mine.al7 (by assumption) | exact Mine.al8 (by assumption) | exact Mine.al9 (by assumption) | exact Mine.al10 (by assumption)) | assumption | exact Mine.an4 (by assumption) | exact Mine.an5 (by assumption) | exact Mine.al6 (by assumption) | exact Mine.an1 (Mine.an1 (by assumption)) | exact Mine.an2 (Mine.an1 (by assumption)) | exact Mine.al3 (Mine.an1 (by assumption)) | exact Mine.an1 (Mine.an2 (by assumption)) | exact Mine.an2 (Mine.an2 (by assumption)) | exact Mine.al3 (Mine.an2 (by assumption)) | exact Mine.an1 (Mine.an3 (by assumption)) | exact Mine.an2 (Mine.an3 (by assumption)) | exact Mine.al3 (Mine.an3 (by assumption))) | omega +splitMinMax)

section
open PySem PySem.W PyProof.Rows PySem.Calls PySem.Spec
set_option Elab.async false
set_option maxRecDepth 100000
namespace Mine
open PySem.W.X (SegX s_skim s_call s_again s_pop s_end s_yield)

section
variable {prog : Program} {w : World} {A : Around} {c : Code} {fs : List Frame} {s : Shared} {P : End → Shared → Prop} {env : Env}
  {K : Flow → Sem Fin} {H : Value → Sem Fin} {gd : Bool → Bool} {lv : List Value → List Value}

theorem sx_wrapE {α : Type} {m : Sem α} {K : α → Sem Fin} {H : Value → Sem Fin}
    (h : wpAny (model prog w) (A.over c fs) m (fun a s' => SegX (model prog w) A c (K a) fs s' P) (fun x s' => SegX (model prog w) A c (H x) fs s' P) s) :
    SegX (model prog w) A c (m.wrap K H gd lv) fs s P := by
  rintro Γ p rfl hΓ
  exact runs_wrap_of_wp (Φ := fun e s' => e.quiet = true ∧ P e s') K H gd lv m (h (Γ.over fs) p (hΓ.over fs)) (fun a p' s' h' => h' Γ p' rfl hΓ) (fun x p' s' h' => h' Γ p' rfl hΓ)
theorem sx_wrap {α : Type} {m : Sem α} {K : α → Sem Fin} {H : Value → Sem Fin}
    (h : wpAny (model prog w) (A.over c fs) m (fun a s' => SegX (model prog w) A c (K a) fs s' P) (fun _ _ => False) s) :
    SegX (model prog w) A c (m.wrap K H gd lv) fs s P := sx_wrapE (wpAny_mono h (fun _ _ x => x) fun _ _ x => x.elim)
theorem sx_at {q : Pos} {k : Unit → Sem Fin} (h : SegX (model prog w) A c (k ()) fs s P) : SegX (model prog w) A c (.at q k) fs s P := s_skim prog w A c fs P s (.at q k) 1 h
theorem sx_point {l : List Value} {k : Unit → Sem Fin} (h : SegX (model prog w) A c (k ()) fs s P) : SegX (model prog w) A c (.point l k) fs s P := s_skim prog w A c fs P s (.point l k) 1 h

theorem sx_nil (h : SegX (model prog w) A c (K .next) fs s P) : SegX (model prog w) A c ((execs [] env).wrap K H gd lv) fs s P := h
theorem sx_cons {st : Stmt} {rest : List Stmt}
    (h : SegX (model prog w) A c ((exec st env).wrap (fun f => match f with | .next => (execs rest env).wrap K H gd lv | f => K f) H gd lv) fs s P) :
    SegX (model prog w) A c ((execs (st :: rest) env).wrap K H gd lv) fs s P := by rw [execs_cons_wrap]; exact h
theorem sx_If {test : Expr} {body orelse : List Stmt} {pos : Pos}
    (h : wpAny (model prog w) (A.over c fs) (isTrue test env (eval test env)) (fun b s' => if b = true then SegX (model prog w) A c ((execs body env).wrap K H gd lv) fs s' P else SegX (model prog w) A c ((execs orelse env).wrap K H gd lv) fs s' P) (fun _ _ => False) s) :
    SegX (model prog w) A c ((exec (.If test body orelse pos) env).wrap K H gd lv) fs s P := by
  rw [exec_If]
  show SegX _ A c (.at pos fun _ => ((isTrue test env (eval test env)) >>= fun b => if b = true then execs body env else execs orelse env).wrap K H gd lv) fs s P
  refine sx_at ?_
  rw [Sem.bind_eq_wrap', Sem.wrap_wrap]
  refine sx_wrap (wpAny_mono h (fun b s' hb => ?_) fun _ _ x => x)
  cases b with
  | true => exact hb
  | false => exact hb
theorem sx_yield {v : Value} {g : Bool} {l : List Value} {k : Resume → Sem Fin} (hfs : splitAtGen fs = none) (hg : g = false) (hfg : fs.any Frame.guarded = false) (h : ∀ p, P (.susp v false l k c p fs) s) :
    SegX (model prog w) A c (.yield v g l k) fs s P := by subst hg; exact s_yield prog w A c fs P s v l k hfs hfg h

theorem sx_Expr_Yield {e : Expr} {ypos pos : Pos} (hfs : splitAtGen fs = none) (hgd : gd false = false) (hfg : fs.any Frame.guarded = false)
    (h : wpAny (model prog w) (A.over c fs) (eval e env) (fun v s' => ∀ p l (k : Resume → Sem Fin), (∀ s'' P', SegX (model prog w) A c (K .next) fs s'' P' → SegX (model prog w) A c (k (.send .none)) fs s'' P') → P (.susp v false l k c p fs) s')
      (fun _ _ => False) s) (hco : env.scope.isCoroutine = false) (hi : interactive env = false) :
    SegX (model prog w) A c ((exec (.Expr (.Yield (some e) ypos) pos) env).wrap K H gd lv) fs s P := by
  rw [exec_Expr env _ pos hi rfl]
  show SegX _ A c (.at pos fun _ => ((eval e env >>= fun v => (standAt ypos >>= fun _ => yieldOut env v)) >>= fun x =>
    dropValue (.Yield (some e) ypos) pos x).wrap K H gd lv) fs s P
  have hy : ∀ v, yieldOut env v = yieldValue v := fun v => by simp only [yieldOut, hco, Bool.false_eq_true, if_false]
  simp only [hy]
  refine sx_at ?_
  rw [Sem.bind_eq_wrap', Sem.bind_eq_wrap', Sem.wrap_wrap, Sem.wrap_wrap]
  refine sx_wrap (wpAny_mono h (fun v s' h' => ?_) fun _ _ x => x)
  refine sx_at (sx_yield hfs hgd hfg fun p => h' p _ _ fun s'' P' hx => hx)

theorem sx_stmt {st : Stmt} (h : wpAny (model prog w) (A.over c fs) (exec st env) (fun f s' => SegX (model prog w) A c (K f) fs s' P) (fun _ _ => False) s) :
    SegX (model prog w) A c ((exec st env).wrap K H gd lv) fs s P := sx_wrap h

theorem sx_For {target iter : Expr} {body orelse : List Stmt} {pos : Pos} (hgd : gd false = false)
    (h : wpAny (model prog w) (A.over c fs) (eval iter env) (fun xv s₁ => wpAny (model prog w) (A.over c fs) (pyIter xv) (fun it s₂ => ∀ p l (k : Result → Sem Fin), (∀ f, k (.ok f) = K f) →
      SegX (model prog w) A (.forLoop target it body orelse env) (denote table (.forLoop target it body orelse env)) (.ret k none false l c p [] :: fs) s₂ P) (fun _ _ => False) s₁) (fun _ _ => False) s)
    (hs : ∀ x, foldedSetIterable iter env x = pure x) :
    SegX (model prog w) A c ((exec (.For target iter body orelse pos) env).wrap K H gd lv) fs s P := by
  rw [exec_For]
  show SegX _ A c (.at pos fun _ => ((eval iter env) >>= fun x => (foldedSetIterable iter env x >>= fun x => standAt iter.pos >>= fun _ => holding [x] (pyIter x) >>= fun it => runOwn (.forLoop target it body orelse env) env)).wrap K H gd lv) fs s P
  refine sx_at ?_
  simp only [hs]
  rw [Sem.bind_eq_wrap', Sem.wrap_wrap]
  refine sx_wrap (wpAny_mono h (fun x s₁ h₁ => ?_) fun _ _ x => x)
  show SegX _ A c (.at _ fun _ => (holding [x] (pyIter x) >>= fun it => runOwn (.forLoop target it body orelse env) env).wrap K H _ _) fs s₁ P
  refine sx_at ?_
  rw [Sem.bind_eq_wrap', Sem.wrap_wrap]
  refine sx_wrap (wpAny_holding (wpAny_mono h₁ (fun it s₂ h₂ => ?_) fun _ _ x => x))
  show SegX _ A c (.call _ _ _ _ _) fs s₂ P
  refine s_call prog w A c fs P s₂ _ _ _ _ _ fun p => ?_
  have e : ∀ b : Bool, b = false → ∀ (k : Result → Sem Fin) l, SegX (model prog w) A (.forLoop target it body orelse env) (denote table (.forLoop target it body orelse env)) (.ret k none false l c p [] :: fs) s₂ P →
    SegX (model prog w) A (.forLoop target it body orelse env) (denote table (.forLoop target it body orelse env)) (.ret k none b l c p [] :: fs) s₂ P := fun b hb k l x => by subst hb; exact x
  exact e _ hgd _ _ (h₂ p _ _ fun f => rfl)

/-- one turn of a for loop within a generator -/
theorem sx_turn {target : Expr} {it : Value} {body orelse : List Stmt}
    (h : wpAny (model prog w) (A.over (.forLoop target it body orelse env) fs) (pyNext it) (fun r s₁ => match r with
      | none => SegX (model prog w) A (.forLoop target it body orelse env) (.pure (.again (.block orelse env))) fs s₁ P
      | some v => wpAny (model prog w) (A.over (.forLoop target it body orelse env) fs) (letOwnedTupleGo target it v) (fun _ s₁' => wpAny (model prog w) (A.over (.forLoop target it body orelse env) fs) (assign target env v)
          (fun _ s₂ => ∀ (H : Value → Sem Fin), SegX (model prog w) A (.forLoop target it body orelse env) ((execs body env).wrap (fun f => match f with
            | .next | .cont => .pure (.again (.forLoop target it body orelse env))
            | .brk => .pure (.done .next)
            | .ret v => .pure (.done (.ret v))) H id id) fs s₂ P) (fun _ _ => False) s₁') (fun _ _ => False) s₁) (fun _ _ => False) s) :
    SegX (model prog w) A (.forLoop target it body orelse env) (denote table (.forLoop target it body orelse env)) fs s P := by
  show SegX _ A _ ((forTurn target it body orelse env).onRaise (fun x => do noteFrame x env; theTreesLotGoes x)) fs s P
  unfold forTurn
  rw [Sem.onRaise_eq_wrap]
  refine sx_at ?_
  show SegX _ A _ (((pyNext it).onRaise _ >>= _).wrap _ _ _ _) fs s P
  rw [Sem.bind_eq_wrap', Sem.wrap_wrap]
  refine sx_wrap (wpAny_onRaise (wpAny_mono h (fun r s₁ h₁ => ?_) fun _ _ x => x.elim))
  cases r with
  | none => exact h₁
  | some v =>
    show SegX _ A _ ((letOwnedTupleGo target it v >>= _).wrap _ _ _ _) fs s₁ P
    rw [Sem.bind_eq_wrap', Sem.wrap_wrap]
    refine sx_wrap (wpAny_mono h₁ (fun _ s₁' h₂ => ?_) fun _ _ x => x)
    show SegX _ A _ ((assign target env v >>= _).wrap _ _ _ _) fs s₁' P
    rw [Sem.bind_eq_wrap', Sem.wrap_wrap]
    refine sx_wrap (wpAny_mono h₂ (fun _ s₂ h₃ => ?_) fun _ _ x => x)
    show SegX _ A _ ((execs body env >>= _).wrap _ _ _ _) fs s₂ P
    rw [Sem.bind_eq_wrap', Sem.wrap_wrap]
    have h₄ := h₃ (fun e => Sem.wrap (fun a => .pure a) (fun e => (do noteFrame e env; theTreesLotGoes e : Sem Unit).bind fun _ => .raise e) id id (Sem.raise e))
    rw [Sem.wrap_congr (execs body env) _ _ (K' := fun f => match f with
            | .next | .cont => .pure (.again (.forLoop target it body orelse env))
            | .brk => .pure (.done .next)
            | .ret v => .pure (.done (.ret v))) (H' := _) (fun f => by cases f <;> rfl) (fun e => rfl)]
    exact h₄
end
end Mine
end

section
open PySem PySem.W PyProof.Rows PySem.Calls PySem.Spec
set_option Elab.async false
set_option maxRecDepth 100000
set_option maxHeartbeats 4000000
namespace Mine
open PySem.W.X (SegX s_skim s_call s_again s_pop s_end s_yield)

abbrev SCG (mo : List (Str × Const)) : Scope := { kind := .function, names := [(Str.ofString "addr", .local), (Str.ofString "pos", .local), (Str.ofString "escape", .local), (Str.ofString "ch", .local), (Str.ofString "enumerate", .globalImplicit)], isGenerator := true, isCoroutine := false, more := mo }

/-- old objects off Fp stand, all else but the heap and the count of tokens stands -/
def Mv (Fp : List Addr) (s s' : Shared) : Prop := ∃ h' tk, s' = { s with heap := h', toks := tk } ∧ ∀ b o, b ∉ Fp → s.heap.get? b = some o → h'.get? b = some o
theorem Mv.refl {Fp : List Addr} {s : Shared} : Mv Fp s s := ⟨s.heap, s.toks, rfl, fun _ _ _ e => e⟩
theorem Mv.keep {Fp : List Addr} {s s' : Shared} (x : Mv Fp s s') {b : Addr} {o : Obj} (hb : b ∉ Fp) (e : s.heap.get? b = some o) : s'.heap.get? b = some o := by
  obtain ⟨h', tk, rfl, k⟩ := x; exact k b o hb e
theorem Mv.trans {Fp Fp' : List Addr} {s s' s'' : Shared} (x : Mv Fp s s') (y : Mv Fp' s' s'') (hf : ∀ b ∈ Fp', b ∈ Fp ∨ s.heap.get? b = none) : Mv Fp s s'' := by
  obtain ⟨h', tk, rfl, k⟩ := x
  obtain ⟨h'', tk', rfl, k'⟩ := y
  refine ⟨h'', tk', rfl, fun b o hb e => k' b o (fun hb' => ?_) (k b o hb e)⟩
  rcases hf b hb' with q | q
  · exact hb q
  · rw [e] at q; cases q
theorem Mv.none {Fp : List Addr} {s s' : Shared} (x : Mv Fp s s') {b : Addr} (h : b ∈ Fp ∨ s'.heap.get? b = none) : b ∈ Fp ∨ s.heap.get? b = none := by
  by_cases hb : b ∈ Fp
  · exact .inl hb
  · refine .inr ?_
    cases e : s.heap.get? b with
    | none => rfl
    | some o =>
      have := x.keep hb e
      rcases h with h | h
      · exact absurd h hb
      · rw [this] at h; cases h

/-- what the generator tells -/
def escT : List Nat → Nat → Bool → List (Nat × Str)
  | [], i, b => match b with | true => [(i - 1, Str.ofString "\\")] | false => []
  | c :: r, i, true => (i, Str.ofString "\\" ++ ⟨#[c]⟩) :: escT r (i + 1) false
  | c :: r, i, false => if c = 92 then escT r (i + 1) true else (i, ⟨#[c]⟩) :: escT r (i + 1) false

/-- the generator's end of a stretch: it tells the first of the list, or comes to its end -/
def EndOk (prog : Program) (w : World) (A : Around) : List (Nat × Str) → List Addr → Shared → End → Shared → Prop
  | [], Fp, s, e, s' => e = .ret (.ok (.ret .none)) ∧ Mv Fp s s'
  | iu :: r, Fp, s, e, s' => ∃ T p k l c fs tk tu Fp', e = .susp (.ref T) false l k c p fs ∧ s'.heap.IsTuple T #[.int iu.1 tk, .str iu.2 tu] ∧ Mv Fp s s' ∧ (∀ b ∈ Fp', b ∈ Fp ∨ s.heap.get? b = none) ∧ (∀ b ∈ Fp', ∃ o, s'.heap.get? b = some o) ∧
      ∀ s'', (∀ b ∈ Fp', ∀ o, s'.heap.get? b = some o → s''.heap.get? b = some o) → SegX (model prog w) A c (k (.send .none)) fs s'' (EndOk prog w A r Fp' s'')
theorem EndOk.back {prog : Program} {w : World} {A : Around} {l : List (Nat × Str)} {Fp Fp₀ : List Addr} {s s₀ : Shared} {e : End} {s' : Shared} (x : Mv Fp₀ s₀ s) (hf : ∀ b ∈ Fp, b ∈ Fp₀ ∨ s₀.heap.get? b = none) (y : EndOk prog w A l Fp s e s') : EndOk prog w A l Fp₀ s₀ e s' := by
  cases l with
  | nil => exact ⟨y.1, x.trans y.2 hf⟩
  | cons iu r =>
    obtain ⟨T, p, k, l, c, fs, tk, tu, Fp', h1, h2, h3, h4, h5, h6⟩ := y
    refine ⟨T, p, k, l, c, fs, tk, tu, Fp', h1, h2, x.trans h3 hf, fun b hb => ?_, h5, h6⟩
    rcases h4 b hb with q | q
    · exact hf b q
    · exact x.none (.inr q)

section
variable {prog : Program} {w : World} {A : Around} {E : Value → Shared → Prop} {s : Shared} {qual : Str} {mo : List (Str × Const)} {L f : Addr} {cd : Value} {m : Str → Option Value} {h₀ : Heap}
theorem mkTup {Q : Value → Shared → Prop} {vs : List Value} (hn : vs.length ≤ 16)
  (h : ∀ h' T, h'.IsTuple T vs.toArray → (∀ b o, s.heap.get? b = some o → h'.get? b = some o) → Q (.ref T) {s with heap := h'}) : wpAny (model prog w) A (newTuple vs) Q E s := by
  refine wpAny_newObj_type (h _ _ ?_ ?_) ?_
  · exact ⟨_, Heap.get?_push_size _ rfl, rfl, _, rfl⟩
  · intro b o e; exact Heap.get?_push_of_some _ e
  · show vs.toArray.size ≤ sizeLine
    rw [List.size_toArray, sizeLine_eq]; omega
theorem tup2 {Q : Value → Shared → Prop} {p1 p2 p : Pos} {k : Nat} {v1 v2 : Value} (F : Fr h₀ L s.heap m) (h1 : m (Str.ofString "pos") = some v1) (h2 : m (Str.ofString "ch") = some v2)
  (h : ∀ h' T, h'.IsTuple T #[v1, v2] → (∀ b o, s.heap.get? b = some o → h'.get? b = some o) → Q (.ref T) {s with heap := h'}) :
  wpAny (model prog w) A (eval (.Tuple [.Name (Str.ofString "pos") p1, .Name (Str.ofString "ch") p2] k p) (envOf qual (SCG mo) L f cd)) Q E s := by
  w_top off
  k_with_none
  walk1
  walk1
  refine ld F h1 ?_
  walk1
  refine ld F h2 ?_
  walk1
  exact mkTup (Nat.le_of_ble_eq_true rfl) h
theorem tup3 {Q : Value → Shared → Prop} {p1 p2 p p3 p4 : Pos} {k j : Nat} {v1 : Value} {x : Str} {t : Tok} (F : Fr h₀ L s.heap m) (h1 : m (Str.ofString "pos") = some v1) (h2 : m (Str.ofString "ch") = some (.str x t)) (hx : x.length ≤ 1)
  (h : ∀ h' T tk tu, h'.IsTuple T #[v1, .str (Str.ofString "\\" ++ x) tu] → (∀ b o, s.heap.get? b = some o → h'.get? b = some o) → Q (.ref T) {s with heap := h', toks := tk}) :
  wpAny (model prog w) A (eval (.Tuple [.Name (Str.ofString "pos") p1, .BinOp (.Constant (.str (Str.ofString "\\")) j p3) .Add (.Name (Str.ofString "ch") p2) p4] k p) (envOf qual (SCG mo) L f cd)) Q E s := by
  w_top off
  k_with_none
  walk1
  walk1
  refine ld F h1 ?_
  walk1
  walk1
  walk1
  refine ld (s := {s with toks := s.toks + 1}) F h2 ?_
  refine add_str (fun t' tk => ?_) ?_
  · walk1
    exact mkTup (Nat.le_of_ble_eq_true rfl) fun h' T ht hk => h h' T _ _ ht hk
  · rw [sizeLine_eq]
    have : (Str.ofString "\\").length = 1 := by decide +kernel
    omega
theorem tup4 {Q : Value → Shared → Prop} {p1 p p3 : Pos} {k j : Nat} {v1 : Value} (F : Fr h₀ L s.heap m) (h1 : m (Str.ofString "pos") = some v1)
  (h : ∀ h' T tk tu, h'.IsTuple T #[v1, .str (Str.ofString "\\") tu] → (∀ b o, s.heap.get? b = some o → h'.get? b = some o) → Q (.ref T) {s with heap := h', toks := tk}) :
  wpAny (model prog w) A (eval (.Tuple [.Name (Str.ofString "pos") p1, .Constant (.str (Str.ofString "\\")) j p3] k p) (envOf qual (SCG mo) L f cd)) Q E s := by
  w_top off
  k_with_none
  walk1
  walk1
  refine ld F h1 ?_
  walk1
  walk1
  walk1
  exact mkTup (Nat.le_of_ble_eq_true rfl) fun h' T ht hk => h h' T _ _ ht hk
theorem isName {x : Str} {b : Bool} {Q : Bool → Shared → Prop} {p : Pos} (F : Fr h₀ L s.heap m) (h1 : m x = some (.bool b)) (hl : (envOf qual (SCG mo) L f cd).kindOf x = some .local) (hd : (x == ("__debug__" : Str)) = false) (h : Q b s) :
  wpAny (model prog w) A (isTrue (.Name x p) (envOf qual (SCG mo) L f cd) (eval (.Name x p) (envOf qual (SCG mo) L f cd))) Q E s :=
  isTrue_plain (ld F h1 (wpAny_truthy_bool h) rfl hl hd)
theorem isEqC {x y : Str} {t : Tok} {Q : Bool → Shared → Prop} {p1 p2 p : Pos} {j : Nat} {wh : Sem Value} (F : Fr h₀ L s.heap m) (h1 : m (Str.ofString "ch") = some (.str x t)) (h : Q (x == y) {s with toks := s.toks + 1}) :
  wpAny (model prog w) A (isTrue (.Compare (.Name (Str.ofString "ch") p1) [.Eq] [.Constant (.str y) j p2] p) (envOf qual (SCG mo) L f cd) wh) Q E s := by
  w_top off
  k_with_none
  refine wpAny_isTrue_Compare1 (ld F h1 ?_)
  walk1
  exact eq_str (wpAny_truthy_bool h)
theorem setEsc {b : Bool} {Q : Flow → Shared → Prop} {p1 p2 p : Pos} {j : Nat} (F : s.heap.Ns L m)
  (h : ∀ h' tk, h'.Ns L (fun y => if y = Str.ofString "escape" then some (.bool b) else m y) → Heap.SameBut L s.heap h' → Q .next {s with heap := h', toks := tk}) :
  wpAny (model prog w) A (exec (.Assign [.Name (Str.ofString "escape") p1] (.Constant (.bool b) j p2) p) (envOf qual (SCG mo) L f cd)) Q E s := by
  w_top off
  k_with_none
  refine wpAny_Assign_Name ?_
  walk1
  exact wpAny_storeName_local rfl F fun h' a b => h h' _ a b
end
end Mine
end

section
open PySem PySem.W PyProof.Rows PySem.Calls PySem.Spec
set_option Elab.async false
set_option maxRecDepth 100000
set_option maxHeartbeats 4000000
namespace Mine
open PySem.W.X (SegX s_skim s_call s_again s_pop s_end s_yield)

theorem fr_of {L : Addr} {h : Heap} {m : Str → Option Value} (hn : h.Ns L m) : Fr ({} : Heap) L h m :=
  ⟨hn, fun b o e => (by simp [Heap.get?] at e), Nat.zero_le _⟩
theorem over_ret {A : Around} {c c₁ : Code} {k : Result → Sem Fin} {g : Bool} {l : List Value} {p : Pos} {kp : List Value} (hA : A.handled = none) : (A.over c [.ret k none g l c₁ p kp]).handled = none := by
  simp [Around.over, marksOver, Frame.marks, markOver, hA]
theorem over_nil {A : Around} {c : Code} (hA : A.handled = none) : (A.over c []).handled = none := by
  simp [Around.over, marksOver, hA]
theorem ne1 : (Str.ofString "escape" = Str.ofString "ch") = False := by simp; decide +kernel
theorem ne2 : (Str.ofString "escape" = Str.ofString "pos") = False := by simp; decide +kernel
theorem ne3 : (Str.ofString "pos" = Str.ofString "ch") = False := by simp; decide +kernel
theorem ne4 : (Str.ofString "pos" = Str.ofString "escape") = False := by simp; decide +kernel
theorem ne5 : (Str.ofString "ch" = Str.ofString "escape") = False := by simp; decide +kernel
theorem bs_is : Str.ofString "\\" = ⟨#[92]⟩ := by decide +kernel
theorem one_bs (c : Nat) : ((⟨#[c]⟩ : Str) == Str.ofString "\\") = decide (c = 92) := by
  rw [bs_is]
  by_cases h : c = 92
  · subst h; decide
  · simp [h]

section
variable {prog : Program} {w : World} {A : Around} {s : Shared} {qual : Str} {mo : List (Str × Const)} {L f e it : Addr} {cd : Value} {c : Code}
  {k : Result → Sem Fin} {lk : List Value} {pk : Pos} {x : Str} {St : Nat → Heap → Prop}
  {a1 a2 a3 b1 b2 c1 c2 c3 c4 c5 c6 c7 d1 d2 d3 e1 e2 e3 e4 f1 f2 f3 g1 g2 g3 g4 g5 : Pos} {k0 k1 k2 j1 j2 j3 j4 : Nat}

abbrev tgtG (a1 a2 a3 : Pos) (k0 : Nat) : Expr := .Tuple [.Name (Str.ofString "pos") a1, .Name (Str.ofString "ch") a2] k0 a3
abbrev bodyG (b1 b2 c1 c2 c3 c4 c5 c6 c7 d1 d2 d3 e1 e2 e3 e4 f1 f2 f3 g1 g2 g3 g4 g5 : Pos) (k1 k2 j1 j2 j3 j4 : Nat) : List Stmt :=
  [.If (.Name (Str.ofString "escape") b1)
    [.Expr (.Yield (some (.Tuple [.Name (Str.ofString "pos") c1, .BinOp (.Constant (.str (Str.ofString "\\")) j1 c2) .Add (.Name (Str.ofString "ch") c3) c4] k1 c5)) c6) c7, .Assign [.Name (Str.ofString "escape") d1] (.Constant (.bool false) j2 d2) d3]
    [.If (.Compare (.Name (Str.ofString "ch") e1) [.Eq] [.Constant (.str (Str.ofString "\\")) j3 e2] e3) [.Assign [.Name (Str.ofString "escape") f1] (.Constant (.bool true) j4 f2) f3] [.Expr (.Yield (some (.Tuple [.Name (Str.ofString "pos") g1, .Name (Str.ofString "ch") g2] k2 g3)) g4) g5] e4] b2]

theorem gen_loop (hA : A.handled = none) (D : ∀ A' : Around, A'.handled = none → Draws prog w A' it [it] x.cps.size (fun i v => ∃ c u, x.cps[i]? = some c ∧ v = .str ⟨#[c]⟩ u) St)
    (hei : e ≠ it) (heL : L ≠ e) (hiL : L ≠ it)
    (hK : ∀ s m b, s.heap.Ns L m → m (Str.ofString "escape") = some (.bool b) → (b = true → ∃ t, m (Str.ofString "pos") = some (.int ((x.cps.size - 1 : Nat) : Int) t)) → SegX (model prog w) A c (k (.ok .next)) [] s (EndOk prog w A (escT [] x.cps.size b) [L, e, it] s)) :
    ∀ (rest : List Nat) (i : Nat) (b : Bool) (s : Shared) (m : Str → Option Value), x.cps.toList.drop i = rest → i ≤ x.cps.size → s.heap.Ns L m → m (Str.ofString "escape") = some (.bool b) →
      (b = true → ∃ t, m (Str.ofString "pos") = some (.int ((i - 1 : Nat) : Int) t)) → (∃ old, IsEnum s.heap e it i old) → St i s.heap →
      SegX (model prog w) A (.forLoop (tgtG a1 a2 a3 k0) (.ref e) (bodyG b1 b2 c1 c2 c3 c4 c5 c6 c7 d1 d2 d3 e1 e2 e3 e4 f1 f2 f3 g1 g2 g3 g4 g5 k1 k2 j1 j2 j3 j4) [] (envOf qual (SCG mo) L f cd))
        (denote table (.forLoop (tgtG a1 a2 a3 k0) (.ref e) (bodyG b1 b2 c1 c2 c3 c4 c5 c6 c7 d1 d2 d3 e1 e2 e3 e4 f1 f2 f3 g1 g2 g3 g4 g5 k1 k2 j1 j2 j3 j4) [] (envOf qual (SCG mo) L f cd)))
        (.ret k none false lk c pk [] :: []) s (EndOk prog w A (escT rest i b) [L, e, it] s) := by
  have W := fun (A' : Around) (hA' : A'.handled = none) => WalksT.enumerateD (prog := prog) (w := w) (A := A') (D A'.in1 hA') e hei (by simpa using hei) (List.mem_singleton.mpr rfl)
  have lives : ∀ (h : Heap) (m : Str → Option Value) (i : Nat), h.Ns L m → (∃ old, IsEnum h e it i old) → St i h → ∀ b ∈ [L, e, it], ∃ o, h.get? b = some o := by
    intro h m i hn hE hS b hb
    rcases List.mem_cons.mp hb with rfl | hb
    · obtain ⟨o, _, _, x, _⟩ := hn; exact ⟨o, x⟩
    rcases List.mem_cons.mp hb with rfl | hb
    · obtain ⟨old, x⟩ := hE; exact ⟨_, x⟩
    · rw [List.mem_singleton.mp hb]; exact (D A hA).live _ _ hS
  intro rest
  induction rest with
  | nil =>
    intro i b s m hr hi hn he hp hE hS
    have hin : i = x.cps.size := by
      have := congrArg List.length hr
      simp at this; omega
    subst hin
    refine sx_turn ((W _ (over_ret hA)).done _ _ _ ⟨hE, hS⟩ fun h' tk hk => ?_)
    refine s_again prog w A _ _ _ _ _ rfl ?_
    refine s_pop prog w A _ _ _ _ (.ok .next) _ rfl _ _ _ _ _ _ _ ?_
    have hmv : Mv [L, e, it] s { s with heap := h', toks := tk } := ⟨h', tk, rfl, fun b o hb q => hk b o (fun hm => hb (List.mem_cons_of_mem _ hm)) q⟩
    have hn' : h'.Ns L m := hn.at fun o q => hk L o (by simp [heL, hiL]) q
    exact (hK { s with heap := h', toks := tk } m b hn' he hp).mono fun e s' q => q.back hmv fun b hb => .inl hb
  | cons ch r ih =>
    intro i b s m hr hi hn he hp hE hS
    have hlt : i < x.cps.size := by
      have := congrArg List.length hr
      simp at this; omega
    have hch : x.cps[i]? = some ch := by
      have : (x.cps.toList.drop i)[0]? = some ch := by rw [hr]; rfl
      simpa using this
    have hr' : x.cps.toList.drop (i + 1) = r := by
      have : (x.cps.toList.drop i).drop 1 = r := by rw [hr]; rfl
      rw [List.drop_drop] at this; exact this
    refine sx_turn ((W _ (over_ret hA)).item i s _ _ hlt ⟨hE, hS⟩ fun T vals h₁ tk₁ hP hTn hT hM hk₁ => ?_)
    obtain ⟨t, v, ⟨ch', u, hch', rfl⟩, rfl⟩ := hP
    have : ch' = ch := by rw [hch] at hch'; exact (Option.some.inj hch').symm
    subst this
    refine (W _ (over_ret hA)).go _ _ _ i T _ _ _ hM fun h₂ hS₂ hk₂ => ?_
    have hTe : T ∉ [e, it] := (W A hA).apart i T _ hM
    have hT₂ : h₂.IsTuple T #[.int i t, .str ⟨#[ch']⟩ u] := by
      obtain ⟨o, ho, r⟩ := hT
      exact ⟨o, hk₂ T o hTe ho, r⟩
    have hLw : L ∉ [e, it] := by simp [heL, hiL]
    refine wpAny_assign_Tuple (over_ret hA) hT₂ rfl rfl fun h₃ hx₃ => ?_
    replace hx₃ : Heap.ExtBut h₂.objs.size h₂ h₃ := hx₃
    have k₃ : ∀ b o, h₂.get? b = some o → h₃.get? b = some o := fun b o q => hx₃ b o (Nat.ne_of_lt (Heap.lt_size q)) q
    have hn₃ : h₃.Ns L m := hn.at fun o q => k₃ _ _ (hk₂ L o hLw (hk₁ L o hLw q))
    have hS₃ := (W A hA).frame (i + 1) h₂ h₃ hS₂ fun b _ o q => k₃ b o q
    show wpAny _ _ (do holding [.str ⟨#[ch']⟩ u] (assign (.Name (Str.ofString "pos") a1) (envOf qual (SCG mo) L f cd) (.int i t)); do holding [] (assign (.Name (Str.ofString "ch") a2) (envOf qual (SCG mo) L f cd) (.str ⟨#[ch']⟩ u)); pure ()) _ _ _
    refine wpAny_bind (wpAny_holding (wpAny_assign_Name (wpAny_storeName_local rfl hn₃ (fun h₄ hn₄ hs₄ => ?_))))
    replace hs₄ : Heap.SameBut L h₃ h₄ := hs₄
    refine wpAny_bind (wpAny_holding (wpAny_assign_Name (wpAny_storeName_local rfl hn₄ (fun h₅ hn₅ hs₅ => wpAny_pure ?_))))
    replace hs₅ : Heap.SameBut L h₄ h₅ := hs₅
    intro H
    have Lw : ∀ b ∈ [e, it], b ≠ L := fun b hb q => hLw (q ▸ hb)
    have hS₅ := (W A hA).frame (i + 1) h₃ h₅ (by simpa using hS₃) fun b hb o q => by
      have hb' : b ≠ L := Lw b (by simpa using hb)
      exact (hs₅.2 b hb').trans ((hs₄.2 b hb').trans q)
    have k₅ : ∀ b o, b ∉ [L, e, it] → s.heap.get? b = some o → h₅.get? b = some o := fun b o hb q => by
      have hb1 : b ≠ L := fun z => hb (by simp [z])
      have hb2 : b ∉ [e, it] := fun z => hb (List.mem_cons_of_mem _ z)
      exact (hs₅.2 b hb1).trans ((hs₄.2 b hb1).trans (k₃ _ _ (hk₂ b o hb2 (hk₁ b o hb2 q))))
    generalize hm' : (fun y => if y = Str.ofString "ch" then some (Value.str ⟨#[ch']⟩ u) else if y = Str.ofString "pos" then some (Value.int i t) else m y) = m' at hn₅
    have q1 : m' (Str.ofString "ch") = some (Value.str ⟨#[ch']⟩ u) := by rw [← hm']; simp
    have q2 : m' (Str.ofString "pos") = some (Value.int i t) := by rw [← hm']; simp [ne3]
    have q3 : m' (Str.ofString "escape") = some (Value.bool b) := by rw [← hm']; simp [ne1, ne2, he]
    have again : ∀ (s₆ : Shared) (m₆ : Str → Option Value) (b' : Bool), s₆.heap.Ns L m₆ → m₆ (Str.ofString "escape") = some (.bool b') → (b' = true → ∃ t, m₆ (Str.ofString "pos") = some (.int ((i : Nat) : Int) t)) →
        (∃ old, IsEnum s₆.heap e it ((i + 1 : Nat) : Int) old) ∧ St (i + 1) s₆.heap → SegX (model prog w) A (.forLoop (tgtG a1 a2 a3 k0) (.ref e) (bodyG b1 b2 c1 c2 c3 c4 c5 c6 c7 d1 d2 d3 e1 e2 e3 e4 f1 f2 f3 g1 g2 g3 g4 g5 k1 k2 j1 j2 j3 j4) [] (envOf qual (SCG mo) L f cd)) (.pure (.again (.forLoop (tgtG a1 a2 a3 k0) (.ref e) (bodyG b1 b2 c1 c2 c3 c4 c5 c6 c7 d1 d2 d3 e1 e2 e3 e4 f1 f2 f3 g1 g2 g3 g4 g5 k1 k2 j1 j2 j3 j4) [] (envOf qual (SCG mo) L f cd)))) (.ret k none false lk c pk [] :: []) s₆ (EndOk prog w A (escT r (i + 1) b') [L, e, it] s₆) :=
      fun s₆ m₆ b' a₁ a₂ a₃ a₄ => s_again prog w A _ _ _ _ _ rfl (ih (i + 1) b' s₆ m₆ hr' hlt a₁ a₂ a₃ a₄.1 a₄.2)
    have live₅ := lives h₅ m' (i + 1) hn₅ hS₅.1 hS₅.2
    have hmv : ∀ h' tk', (∀ b o, h₅.get? b = some o → h'.get? b = some o) → Mv [L, e, it] s { s with heap := h', toks := tk' } := fun h' tk' kk => ⟨h', tk', rfl, fun b o hb q => kk b o (k₅ b o hb q)⟩
    refine sx_cons (sx_If ?_)
    refine isName (fr_of hn₅) q3 rfl (by decide +kernel) ?_
    cases b with
    | true =>
      rw [if_pos rfl]
      refine sx_cons (sx_Expr_Yield rfl rfl rfl ?_ rfl rfl)
      refine tup3 (fr_of hn₅) q2 q1 (Nat.le_of_ble_eq_true rfl) fun h₆ T₆ tk₆ tu₆ hT₆ hk₆ => ?_
      intro p₆ l₆ kk₆ hkk
      refine ⟨T₆, p₆, kk₆, l₆, _, _, t, tu₆, [L, e, it], rfl, hT₆, hmv h₆ tk₆ hk₆, fun b hb => .inl hb, fun b hb => ?_, fun s₇ hs₇ => hkk _ _ ?_⟩
      · obtain ⟨o, ho⟩ := live₅ b hb
        exact ⟨o, hk₆ b o ho⟩
      · have at₇ : ∀ b ∈ [L, e, it], ∀ o, h₅.get? b = some o → s₇.heap.get? b = some o := fun b hb o q => hs₇ b hb o (hk₆ b o q)
        have hn₇ : s₇.heap.Ns L m' := hn₅.at fun o q => at₇ L (by simp) o q
        have hS₇ := (W A hA).frame (i + 1) h₅ s₇.heap hS₅ fun b hb o q => at₇ b (List.mem_cons_of_mem _ hb) o q
        refine sx_cons (sx_stmt (setEsc hn₇ fun h₈ tk₈ hn₈ hs₈ => sx_nil ?_))
        replace hs₈ : Heap.SameBut L s₇.heap h₈ := hs₈
        have hS₈ := (W A hA).frame (i + 1) s₇.heap h₈ hS₇ fun b hb o q => (hs₈.2 b (Lw b (by simpa using hb))).trans q
        refine (again { s₇ with heap := h₈, toks := tk₈ } _ false hn₈ (by simp) (fun z => nomatch z) hS₈).mono fun e' s' q => ?_
        exact q.back (Fp₀ := [L, e, it]) ⟨h₈, tk₈, rfl, fun b o hb q => (hs₈.2 b fun z => hb (by simp [z])).trans q⟩ fun b hb => .inl hb
    | false =>
      rw [if_neg Bool.false_ne_true]
      refine sx_cons (sx_If ?_)
      refine isEqC (fr_of hn₅) q1 ?_
      rw [one_bs]
      by_cases h92 : ch' = 92
      · rw [decide_eq_true h92, if_pos rfl]
        refine sx_cons (sx_stmt (setEsc hn₅ fun h₈ tk₈ hn₈ hs₈ => sx_nil (sx_nil ?_)))
        replace hs₈ : Heap.SameBut L h₅ h₈ := hs₈
        have hS₈ := (W A hA).frame (i + 1) h₅ h₈ hS₅ fun b hb o q => (hs₈.2 b (Lw b (by simpa using hb))).trans q
        refine (again { s with heap := h₈, toks := tk₈ } _ true hn₈ (by simp) (fun _ => ⟨t, by simp [ne4, q2]⟩) hS₈).mono fun e' s' q => ?_
        have e9 : escT (ch' :: r) i false = escT r (i + 1) true := by simp [escT, h92]
        rw [e9]
        exact q.back (Fp₀ := [L, e, it]) ⟨h₈, tk₈, rfl, fun b o hb q => (hs₈.2 b fun z => hb (by simp [z])).trans (k₅ b o hb q)⟩ fun b hb => .inl hb
      · rw [decide_eq_false h92, if_neg Bool.false_ne_true]
        refine sx_cons (sx_Expr_Yield rfl rfl rfl ?_ rfl rfl)
        refine tup2 (fr_of hn₅) q2 q1 fun h₆ T₆ hT₆ hk₆ => ?_
        intro p₆ l₆ kk₆ hkk
        have e9 : escT (ch' :: r) i false = (i, ⟨#[ch']⟩) :: escT r (i + 1) false := by simp [escT, h92]
        rw [e9]
        refine ⟨T₆, p₆, kk₆, l₆, _, _, t, u, [L, e, it], rfl, hT₆, hmv h₆ _ hk₆, fun b hb => .inl hb, fun b hb => ?_, fun s₇ hs₇ => hkk _ _ ?_⟩
        · obtain ⟨o, ho⟩ := live₅ b hb
          exact ⟨o, hk₆ b o ho⟩
        · have at₇ : ∀ b ∈ [L, e, it], ∀ o, h₅.get? b = some o → s₇.heap.get? b = some o := fun b hb o q => hs₇ b hb o (hk₆ b o q)
          have hn₇ : s₇.heap.Ns L m' := hn₅.at fun o q => at₇ L (by simp) o q
          have hS₇ := (W A hA).frame (i + 1) h₅ s₇.heap hS₅ fun b hb o q => at₇ b (List.mem_cons_of_mem _ hb) o q
          exact sx_nil (sx_nil (again s₇ m' false hn₇ q3 (fun z => nomatch z) hS₇))
end
end Mine
end

section
open PySem PySem.W PyProof.Rows PySem.Calls PySem.Spec
set_option maxRecDepth 100000
namespace Mine
abbrev LO : List Str := [Str.ofString "tspecials", Str.ofString "_name_disallowed_re", Str.ofString "_value_disallowed_re",
      Str.ofString "_formatparam", Str.ofString "_twin_re_1", Str.ofString "_namespace_map",
      Str.ofString "_looks_like_prefix_name", Str.ofString "C14NWriterTarget", Str.ofString "Headers", Str.ofString "_sre"]
end Mine
end

section
open PySem PySem.W PyProof.Rows PySem.Calls PySem.Spec
set_option Elab.async false
set_option maxRecDepth 100000
set_option maxHeartbeats 4000000
namespace Mine
open PySem.W.X (SegX s_skim s_call s_again s_pop s_end s_yield)
theorem filled : (Mine.hd.heap_1, PySem.Challenge.rw_uq0033_01) = (Mine.hd.heap_1, PySem.Challenge.rw_uq0033_01) := by
  k_fill
  rfl
section
variable {w : World} {A : Around} {s : Shared} {qual : Str} {mo : List (Str × Const)} {L f : Addr} {cd : Value} {h₀ : Heap} {m : Str → Option Value} {E : Value → Shared → Prop}
theorem evalEnum {mean : ExcName → Option Value} {mg mb : Str → Option Value} {x : Str} {tx : Tok} {p1 p2 p3 : Pos} {Q : Value → Shared → Prop} (X : (Mine.hd.heap_1 w.params).In h₀) (T : Top Mine.view LO mean mg mb h₀) (F : Fr h₀ L s.heap m) (ha : m (Str.ofString "addr") = some (.str x tx))
    (h : ∀ h', IsEnum h' (s.heap.objs.size + 1) s.heap.objs.size 0 .none → h'.IsStrIter s.heap.objs.size (strIterType x) x tx 0 → h'.objs.size = s.heap.objs.size + 2 →
      (∀ b o, s.heap.get? b = some o → h'.get? b = some o) → Q (.ref (s.heap.objs.size + 1)) { s with heap := h' }) :
    wpAny (model PySem.Challenge.rw_uq0033_01.row.prog w) A (eval (.Call (.Name (Str.ofString "enumerate") p1) [.Name (Str.ofString "addr") p2] [] p3) (envOf qual (SCG mo) L f cd)) Q E s := by
  w_top off
  k_with_none
  walk1
  walk1
  walk1
  walk1
  refine ld F ha ?_
  walk1
  exact call_enumerate_str h
theorem setPos {E : Value → Shared → Prop} {Q : Flow → Shared → Prop} {p1 p2 p : Pos} {j : Nat} {prog : Program} (F : s.heap.Ns L m)
  (h : ∀ h' tk t, h'.Ns L (fun y => if y = Str.ofString "pos" then some (.int 0 t) else m y) → Heap.SameBut L s.heap h' → Q .next {s with heap := h', toks := tk}) :
  wpAny (model prog w) A (exec (.Assign [.Name (Str.ofString "pos") p1] (.Constant (.int 0) j p2) p) (envOf qual (SCG mo) L f cd)) Q E s := by
  w_top off
  k_with_none
  refine wpAny_Assign_Name ?_
  walk1
  exact wpAny_storeName_local rfl F fun h' a b => h h' _ _ a b
theorem ne6 : (Str.ofString "addr" = Str.ofString "escape") = False := by simp; decide +kernel
theorem ne7 : (Str.ofString "addr" = Str.ofString "pos") = False := by simp; decide +kernel
theorem ne8 : (Str.ofString "pos" = Str.ofString "addr") = False := by simp; decide +kernel


section
variable {a1 a2 a3 b1 b2 c1 c2 c3 c4 c5 c6 c7 d1 d2 d3 e1 e2 e3 e4 f1 f2 f3 g1 g2 g3 g4 g5 h1 h2 h3 i1 i2 i3 l1 l2 l3 l4 n1 n2 n3 n4 n5 n6 n7 : Pos} {k0 k1 k2 k3 j1 j2 j3 j4 j5 j6 j7 : Nat}
abbrev allG (a1 a2 a3 b1 b2 c1 c2 c3 c4 c5 c6 c7 d1 d2 d3 e1 e2 e3 e4 f1 f2 f3 g1 g2 g3 g4 g5 h1 h2 h3 i1 i2 i3 l1 l2 l3 l4 n1 n2 n3 n4 n5 n6 n7 : Pos) (k0 k1 k2 k3 j1 j2 j3 j4 j5 j6 j7 : Nat) : List Stmt :=
  [.Assign [.Name (Str.ofString "pos") h1] (.Constant (.int 0) j5 h2) h3, .Assign [.Name (Str.ofString "escape") i1] (.Constant (.bool false) j6 i2) i3,
   .For (tgtG a1 a2 a3 k0) (.Call (.Name (Str.ofString "enumerate") l1) [.Name (Str.ofString "addr") l2] [] l3) (bodyG b1 b2 c1 c2 c3 c4 c5 c6 c7 d1 d2 d3 e1 e2 e3 e4 f1 f2 f3 g1 g2 g3 g4 g5 k1 k2 j1 j2 j3 j4) [] l4,
   .If (.Name (Str.ofString "escape") n1) [.Expr (.Yield (some (.Tuple [.Name (Str.ofString "pos") n2, .Constant (.str (Str.ofString "\\")) j7 n3] k3 n4)) n5) n6] [] n7]
theorem gen_fresh {mean : ExcName → Option Value} {mg mb : Str → Option Value} {x : Str} {tx : Tok} (hA : A.handled = none) (X : (Mine.hd.heap_1 w.params).In h₀) (T : Top Mine.view LO mean mg mb h₀) (F : Fr h₀ L s.heap m) (ha : m (Str.ofString "addr") = some (.str x tx)) :
    SegX (model PySem.Challenge.rw_uq0033_01.row.prog w) A (.func (allG a1 a2 a3 b1 b2 c1 c2 c3 c4 c5 c6 c7 d1 d2 d3 e1 e2 e3 e4 f1 f2 f3 g1 g2 g3 g4 g5 h1 h2 h3 i1 i2 i3 l1 l2 l3 l4 n1 n2 n3 n4 n5 n6 n7 k0 k1 k2 k3 j1 j2 j3 j4 j5 j6 j7) (envOf qual (SCG mo) L f cd))
      (denote table (.func (allG a1 a2 a3 b1 b2 c1 c2 c3 c4 c5 c6 c7 d1 d2 d3 e1 e2 e3 e4 f1 f2 f3 g1 g2 g3 g4 g5 h1 h2 h3 i1 i2 i3 l1 l2 l3 l4 n1 n2 n3 n4 n5 n6 n7 k0 k1 k2 k3 j1 j2 j3 j4 j5 j6 j7) (envOf qual (SCG mo) L f cd))) [] s
      (EndOk PySem.Challenge.rw_uq0033_01.row.prog w A (escT x.cps.toList 0 false) [L] s) := by
  show SegX _ A _ (.point [] fun _ => ((execs _ (envOf qual (SCG mo) L f cd)).onRaise (leaving (envOf qual (SCG mo) L f cd))) >>= _) [] s _
  refine sx_point ?_
  rw [Sem.onRaise_eq_wrap, Sem.bind_eq_wrap', Sem.wrap_wrap]
  refine sx_cons (sx_stmt (setPos F.ns fun h₁ tk₁ t₁ hn₁ hs₁ => ?_))
  replace hs₁ : Heap.SameBut L s.heap h₁ := hs₁
  refine sx_cons (sx_stmt (setEsc hn₁ fun h₂ tk₂ hn₂ hs₂ => ?_))
  replace hs₂ : Heap.SameBut L h₁ h₂ := hs₂
  have F₂ := (F.set hn₁ hs₁).set hn₂ hs₂
  generalize hm : (fun y => if y = Str.ofString "escape" then some (Value.bool false) else (fun y => if y = Str.ofString "pos" then some (Value.int 0 t₁) else m y) y) = m₂ at F₂ hn₂
  have q1 : m₂ (Str.ofString "addr") = some (.str x tx) := by rw [← hm]; simp [ne6, ne7, ha]
  have q2 : m₂ (Str.ofString "escape") = some (.bool false) := by rw [← hm]; simp
  refine sx_cons (sx_For rfl ?_ fun _ => rfl)
  refine evalEnum X T (s := ⟨h₂, s.gens, s.drawn, tk₂, s.os⟩) F₂ q1 fun h₃ hE hI hsz hk => ?_
  replace hk : ∀ b o, h₂.get? b = some o → h₃.get? b = some o := hk
  refine wpAny_pyIter_enum hE ?_
  intro p l k hkf
  have hL : L < h₂.objs.size := hn₂.lt
  have hn₃ : h₃.Ns L m₂ := hn₂.at fun o q => hk L o q
  have D : ∃ St : Nat → Heap → Prop, (∀ A' : Around, A'.handled = none → Draws PySem.Challenge.rw_uq0033_01.row.prog w A' h₂.objs.size [h₂.objs.size] x.cps.size (fun i v => ∃ c u, x.cps[i]? = some c ∧ v = .str ⟨#[c]⟩ u) St) ∧ St 0 h₃ := by
    cases hx : x.cps.all (· < 128) with
    | true =>
      refine ⟨_, fun A' hA' => Draws.strAscii hA' _ x tx, ?_⟩
      have : strIterType x = "str_ascii_iterator" := by unfold strIterType; rw [hx]; rfl
      rw [this] at hI; exact hI
    | false =>
      refine ⟨_, fun A' hA' => Draws.strWide hA' _ x tx, ?_⟩
      have : strIterType x = "str_iterator" := by unfold strIterType; rw [hx]; rfl
      rw [this] at hI; exact hI
  obtain ⟨St, D, hS⟩ := D
  have hmv : Mv [L] s ⟨h₃, s.gens, s.drawn, tk₂, s.os⟩ := ⟨h₃, tk₂, rfl, fun b o hb q => hk b o ((hs₂.2 b fun z => hb (by simp [z])).trans ((hs₁.2 b fun z => hb (by simp [z])).trans q))⟩
  refine SegX.mono (gen_loop (x := x) (St := St) hA D (Nat.succ_ne_self _) (Nat.ne_of_lt (Nat.lt_succ_of_lt hL)) (Nat.ne_of_lt hL) ?_ x.cps.toList 0 false ⟨h₃, s.gens, s.drawn, tk₂, s.os⟩ m₂ rfl (Nat.zero_le _) hn₃ q2 (fun z => nomatch z) ⟨_, hE⟩ hS) fun e s' q => ?_
  · intro s₄ m₄ b hn₄ hb hp
    rw [hkf]
    refine sx_cons (sx_If ?_)
    refine isName (fr_of hn₄) hb rfl (by decide +kernel) ?_
    cases b with
    | true =>
      rw [if_pos rfl]
      obtain ⟨t₄, hp⟩ := hp rfl
      refine sx_cons (sx_Expr_Yield rfl rfl rfl ?_ rfl rfl)
      refine tup4 (fr_of hn₄) hp fun h₅ T₅ tk₅ tu₅ hT₅ hk₅ => ?_
      intro p₆ l₆ kk₆ hkk
      refine ⟨T₅, p₆, kk₆, l₆, _, _, t₄, tu₅, [L], rfl, hT₅, ⟨h₅, tk₅, rfl, fun b o _ q => hk₅ b o q⟩, fun b hb => .inl (by simp at hb; simp [hb]), fun b hb => ?_, fun s₇ hs₇ => hkk _ _ ?_⟩
      · rw [List.mem_singleton.mp hb]
        obtain ⟨o, _, _, z, _⟩ := hn₄
        exact ⟨o, hk₅ _ _ z⟩
      · exact sx_nil (sx_nil (s_end _ w _ _ _ _ (.ok (.ret .none)) _ rfl ⟨rfl, Mv.refl⟩))
    | false =>
      rw [if_neg Bool.false_ne_true]
      exact sx_nil (sx_nil (s_end _ w _ _ _ _ (.ok (.ret .none)) _ rfl ⟨rfl, Mv.refl⟩))
  · refine q.back hmv fun b hb => ?_
    have none_of : ∀ b, h₂.objs.size ≤ b → s.heap.get? b = none := fun b hb => by
      have e1 : h₂.objs.size = h₁.objs.size := hs₂.1
      have e2 : h₁.objs.size = s.heap.objs.size := hs₁.1
      cases z : s.heap.get? b with
      | none => rfl
      | some o => have z1 : b < s.heap.objs.size := Heap.lt_size z; exact absurd (Nat.lt_of_lt_of_le z1 (Nat.le_of_eq (e1.trans e2).symm)) (Nat.not_lt.mpr hb)
    rcases List.mem_cons.mp hb with rfl | hb
    · exact .inl (by simp)
    rcases List.mem_cons.mp hb with rfl | hb
    · exact .inr (none_of _ (Nat.le_succ _))
    · rw [List.mem_singleton.mp hb]; exact .inr (none_of _ (Nat.le_refl _))
end
end
end Mine
end

section
open PySem PySem.W PyProof.Rows PySem.Calls PySem.Spec
set_option Elab.async false
set_option maxRecDepth 100000
set_option maxHeartbeats 4000000
namespace Mine
open PySem.W.X (SegX s_skim s_call s_again s_pop s_end s_yield)
section
variable {prog : Program} {w : World} {A : Around} {s : Shared} {h₀ : Heap} {L : Addr} {m mg mb : Str → Option Value} {news : List (Addr × Obj)} {K : Frag} {p : Program} {loose : List Str} {mean : ExcName → Option Value}
  {R : Result → Shared → Prop} {name qual : Str} {params : Arguments} {body : List Stmt} {scope : Scope} {dV kV doc pm cdv ct oc : Value} {an od : Option Addr} {osl : Array (Option Value)} {f : Addr} {args : Args} {binds : List (Str × Value)}
theorem call_gen (F : Fr h₀ L s.heap m) (X₀ : K.In h₀) (T : Top p loose mean mg mb h₀)
    (ho : K.lookup f = some ⟨oc, od, .func (fnOf name qual params body scope dV kV doc pm an cdv ct), osl⟩) (hcd : codeIn K cdv qual = true) (hroom : A.depth < recursionLimit)
    (hbind : BindsTo s (fnOf name qual params body scope dV kV doc pm an cdv ct) args binds) (hloc : ∀ y ∈ binds, scope.names.lookup y.1 = some .local)
    (h : ∀ h' tk, (∀ b o, s.heap.get? b = some o → h'.get? b = some o) → h'.Ns s.heap.objs.size (fun y => binds.reverse.lookup y) → h'.IsGen (s.heap.objs.size + 1) s.gens.size →
      R (.ok (.ret (.ref (s.heap.objs.size + 1)))) { s with heap := h', toks := tk, gens := s.gens.push (.fresh (.func body (envOf qual scope s.heap.objs.size f cdv))) })
    (hco : scope.isCoroutine = false) (hgen : scope.isGenerator = true) (hk : scope.kind = .function) (hcell : ∀ x ∈ scope.names, x.2 ≠ .cell) : codeAny (model prog w) A (.call (.ref f) args) R s := by
  have X := X₀.keeps F.keep
  refine codeAny_call_generator hroom (X _ _ ho) rfl hco hgen rfl (codeRec_of X hcd) ?_
  refine hbind _ _ _ _ (wpAny_newFunctionEnv hcell hloc (fun h₁ hns hsb => ⟨?_, ?_⟩) hk)
  · have kk : ∀ b o, s.heap.get? b = some o → h₁.get? b = some o := fun b o e => hsb.extBut b o (Nat.ne_of_lt (Heap.lt_size e)) (Heap.get?_push_of_some _ e)
    exact T.nolimit.keeps fun b o e => kk b o (F.keep b o e)
  · have kk : ∀ b o, s.heap.get? b = some o → h₁.get? b = some o := fun b o e => hsb.extBut b o (Nat.ne_of_lt (Heap.lt_size e)) (Heap.get?_push_of_some _ e)
    have hz : h₁.objs.size = s.heap.objs.size + 1 := hsb.1.trans (Heap.size_push ..)
    have := h (h₁.push { cls := .type "generator", data := .fields #[.int s.gens.size 0, .str name (s.toks + binds.length), .str qual (s.toks + binds.length + 1)] }) (s.toks + binds.length + 1 + 1) (fun b o e => Heap.get?_push_of_some _ (kk b o e))
      (hns.at fun o e => Heap.get?_push_of_some _ e) ⟨_, _, _, by rw [← hz]; exact Heap.get?_push_size _ rfl, rfl, rfl, rfl⟩
    show R (.ok (.ret (.ref h₁.objs.size))) _
    rw [hz]
    exact this
end
end Mine
end

section
open PySem PySem.W PyProof.Rows PySem.Calls PySem.Spec
set_option Elab.async false
set_option maxRecDepth 100000
set_option maxHeartbeats 4000000
namespace Mine
open PySem.W.X (SegX s_skim s_call s_again s_pop s_end s_yield wake_any)

def GoX (prog : Program) (w : World) (A : Around) (gs : GenState) (s : Shared) (P : End → Shared → Prop) : Prop :=
  match gs with
  | .fresh c => SegX (model prog w) A c (denote table c) [] s P
  | .suspended k _ c _ fs _ => SegX (model prog w) A c (k (.send .none)) fs s P
  | _ => False
theorem SegX_quiet {M : Model} {A : Around} {c : Code} {t : Sem PySem.Fin} {fs : List Frame} {s : Shared} {P : End → Shared → Prop} (x : SegX M A c t fs s P) : SegX M A c t fs s (fun e s' => e.quiet = true ∧ P e s') := fun Γ p hc hΓ => by
  obtain ⟨e, s', h1, h2, h3⟩ := x Γ p hc hΓ
  exact ⟨e, s', h1, h2, h2, h3⟩
section
variable {prog : Program} {w : World} {A : Around} {s : Shared} {E : Value → Shared → Prop}
theorem resume_any {α : Type} {k : GenResult → Sem α} {Q : α → Shared → Prop} {g : Nat} {gs : GenState} {l : List Value} {P : End → Shared → Prop} (hg : s.gens[g]? = some gs) (hgo : GoX prog w A gs (s.setGen g .running) P)
    (hP : ∀ e s₁, P e s₁ → e.quiet = true → wpAny (model prog w) A (k e.result) Q E (s₁.setGen g e.genState)) : wpAny (model prog w) A (.resume g (.send .none) l k) Q E s := by
  cases gs with
  | fresh c =>
    exact wake_any α prog w hg (.inl ⟨rfl, rfl, rfl, rfl⟩) (fun Γ => Γ.In A) (fun _ h => h) ((SegX_quiet hgo).mono fun e s₁ h Γ p hΓ => hP e s₁ h.2 h.1 Γ p hΓ)
  | suspended k₀ l₀ c₀ p₀ fs₀ cl =>
    exact wake_any α prog w hg (.inr ⟨k₀, l₀, p₀, cl, rfl, rfl⟩) (fun Γ => Γ.In A) (fun _ h => h) ((SegX_quiet hgo).mono fun e s₁ h Γ p hΓ => hP e s₁ h.2 h.1 Γ p hΓ)
  | running => exact hgo.elim
  | finished => exact hgo.elim

theorem pyNext_genX {a : Addr} {g : Nat} {gs : GenState} {P : End → Shared → Prop} {Q : Option Value → Shared → Prop} (hh : A.handled = none) (hl : s.heap.NoLimit) (hroom : A.depth < recursionLimit)
    (hg : s.heap.IsGen a g) (hgs : s.gens[g]? = some gs) (hgo : GoX prog w A.in1 gs (s.setGen g .running) P)
    (hP : ∀ e s₁, P e s₁ → e.quiet = true → match e with
      | .ret r => r = .ok (.ret .none) ∧ ∀ h', (∀ b o, s₁.heap.get? b = some o → h'.get? b = some o) → Q none { s₁.setGen g .finished with heap := h' }
      | .susp v .. => Q (some v) (s₁.setGen g e.genState)) : wpAny (model prog w) A (pyNext (.ref a)) Q E s := by
  unfold pyNext
  refine wpAny_bind (wpAny_attempt (wpAny_callSpecial?_slot (name := Str.ofString "__next__") hg.typeIs slot_gen_next
    (wpAny_call_entry slot_gen_next hg.typeIs entry_gen_next ?_ (args_gen_next _))))
  show wpAny _ _ (Builtin.Generator.genWake (.ref a) (.send .none)) _ _ s
  unfold Builtin.Generator.genWake
  refine wpAny_bind (wpAny_holding (wpAny_genNumber hg (wpAny_bind (wpAny_genState hgs ?_))))
  cases gs with
  | running => exact hgo.elim
  | finished => exact hgo.elim
  | _ =>
    refine wpAny_bind (wpAny_roomToWake hl hroom ?_)
    show wpAny _ _ (.resume g (.send .none) [] _) _ _ s
    refine resume_any hgs hgo (fun e s₁ h hq => ?_)
    have h' := hP e s₁ h hq
    cases e with
    | ret r =>
      obtain ⟨rfl, hp⟩ := h'
      show wpAny _ _ (newExc (.type "StopIteration") [] >>= _) _ _ _
      refine wpAny_bind ?_
      simp only [newExc, newTuple]
      refine wpAny_bind (wpAny_newObj_type ?_ (by size_fits))
      refine wpAny_bind (m := firstArgMember _ _) (wpAny_of_eq (a := Value.none) (by first | rfl | (simp only [firstArgMember]; rfl)) ?_)
      refine wpAny_newObj_type ?_ (by size_fits)
      simp only [raiseNew]
      refine wpAny_bind (wpAny_bind (wpAny_handled ?_))
      rw [show A.in1.handled = none from hh]
      refine wpAny_throw ?_
      refine wpAny_bind (wpAny_isInstance (T := "StopIteration") (b := true) ⟨_, Heap.get?_push_size _ rfl, rfl⟩ isSubtype_stop ?_)
      exact wpAny_pure (hp _ fun b o hb => Heap.get?_push_of_some _ (Heap.get?_push_of_some _ hb))
    | susp v g₀ l₀ k₀ c₀ p₀ fs₀ => exact wpAny_pure ⟨v, rfl, wpAny_pure h'⟩
theorem letOwned_gen {elts : List Expr} {x1 : Nat} {pos : Pos} {G T g : Nat} {Q : Unit → Shared → Prop} (hg : s.heap.IsGen G g) (hQ : Q () s) : wpAny (model prog w) A (letOwnedTupleGo (.Tuple elts x1 pos) (.ref G) (.ref T)) Q E s := by
  obtain ⟨o, nm, qn, ho, hc, hd, hs⟩ := hg
  unfold letOwnedTupleGo
  refine wpAny_bind (wpAny_load ho ?_)
  rw [hc, hd]
  exact wpAny_pure hQ
end
end Mine
end

section
open PySem PySem.W PyProof.Rows PySem.Calls PySem.Spec
set_option Elab.async false
set_option maxRecDepth 100000
set_option maxHeartbeats 4000000
namespace Mine
open PySem.W.X (SegX s_skim s_call s_again s_pop s_end s_yield wake_any)
section
variable {prog : Program} {w : World} {A : Around} {s : Shared} {E : Value → Shared → Prop} {env : Env} {h₀ : Heap} {Q : Flow → Shared → Prop}

/-- what stands of the generator's own objects, as a ledger -/
def ownOf (h : Heap) (l : List Addr) : List (Addr × Obj) := l.filterMap fun b => (h.get? b).map fun o => (b, o)
theorem mem_own {h : Heap} {l : List Addr} {b : Addr} {o : Obj} (hb : b ∈ l) (e : h.get? b = some o) : (b, o) ∈ ownOf h l :=
  List.mem_filterMap.mpr ⟨b, hb, by rw [e]; rfl⟩
theorem own_mem {h : Heap} {l : List Addr} {p : Addr × Obj} (hp : p ∈ ownOf h l) : p.1 ∈ l ∧ h.get? p.1 = some p.2 := by
  obtain ⟨b, hb, e⟩ := List.mem_filterMap.mp hp
  cases z : h.get? b with
  | none => rw [z] at e; cases e
  | some o => rw [z] at e; cases e; exact ⟨hb, z⟩

structure GenAt (prog : Program) (w : World) (A : Around) (h₀ : Heap) (Lc G g : Addr) (adr : List Addr) (toks : List (Nat × Str)) (gens₀ : Array GenState) (gs : GenState) (Fp : List Addr) (h : Heap) : Prop where
  go : ∀ s', (∀ b o, h₀.get? b = some o → s'.heap.get? b = some o) → (∀ b ∈ Fp, ∀ o, h.get? b = some o → s'.heap.get? b = some o) → GoX prog w A.in1 gs s' (EndOk prog w A.in1 toks Fp s')
  gen : h.IsGen G g
  off : ∀ b ∈ G :: Fp, b ≠ Lc ∧ h₀.get? b = none ∧ b ∉ adr ∧ ∃ o, h.get? b = some o
  gfp : G ∉ Fp
  bare : gs.bare = true

theorem GenAt.keeps {Lc G g : Addr} {adr : List Addr} {toks : List (Nat × Str)} {gens₀ : Array GenState} {gs : GenState} {Fp : List Addr} {h h' : Heap} (x : GenAt prog w A h₀ Lc G g adr toks gens₀ gs Fp h)
    (k : ∀ b ∈ G :: Fp, ∀ o, h.get? b = some o → h'.get? b = some o) : GenAt prog w A h₀ Lc G g adr toks gens₀ gs Fp h' where
  go := fun s' h1 h2 => x.go s' h1 fun b hb o e => h2 b hb o (k b (List.mem_cons_of_mem _ hb) o e)
  gen := let ⟨o, nm, qn, ho, r⟩ := x.gen; ⟨o, nm, qn, k G (by simp) o ho, r⟩
  off := fun b hb => let ⟨h1, h2, h3, o, h4⟩ := x.off b hb; ⟨h1, h2, h3, o, k b hb o h4⟩
  gfp := x.gfp
  bare := x.bare

theorem push_set {gens₀ : Array GenState} {a b : GenState} : (gens₀.push a).setIfInBounds gens₀.size b = gens₀.push b := by
  apply Array.ext'
  simp
theorem bare_push {gens₀ : Array GenState} {b : GenState} (hb : b.bare = true) (h : AllBare gens₀) : AllBare (gens₀.push b) := h.push hb
theorem fr_off {Lc : Addr} {h h' : Heap} {m : Str → Option Value} {Fp : List Addr} (F : Fr h₀ Lc h m) (hL : Lc ∉ Fp) (h0 : ∀ b ∈ Fp, h₀.get? b = none) (k : ∀ b o, b ∉ Fp → h.get? b = some o → h'.get? b = some o) : Fr h₀ Lc h' m := by
  refine ⟨F.ns.at fun o e => k _ o hL e, fun b o e => k b o (fun hb => ?_) (F.keep b o e), F.above⟩
  rw [h0 b hb] at e; cases e
theorem news_off {Lc : Addr} {h h' : Heap} {news : List (Addr × Obj)} {Fp : List Addr} (N : News h₀ Lc h news) (hn : ∀ p ∈ news, p.1 ∉ Fp) (k : ∀ b o, b ∉ Fp → h.get? b = some o → h'.get? b = some o) : News h₀ Lc h' news :=
  fun p hp => ⟨k _ _ (hn p hp) (N p hp).1, (N p hp).2⟩

theorem gen_loopC {xa xb : Str} {pa pb p0 : Pos} {k0 : Nat} {body : List Stmt} {G g : Addr} {toks : List (Nat × Str)} {gens₀ : Array GenState} {gs : GenState} {Fp : List Addr} {m₀ : Str → Option Value} {news : List (Addr × Obj)} {R : Result → Shared → Prop}
    (J : List (Nat × Str) → (Str → Option Value) → List (Addr × Obj) → Prop)
    (hh : A.handled = none) (hl : h₀.NoLimit) (hroom : A.depth < recursionLimit) (hxa : env.kindOf xa = some .local) (hxb : env.kindOf xb = some .local)
    (hp : (env.scope.kind == .class || (env.scope.kind == .module && env.locals != env.globals)) = false)
    (hg : g = gens₀.size) (hgens : s.gens = gens₀.push gs) (hG : GenAt prog w A h₀ env.locals G g (news.map (·.1)) toks gens₀ gs Fp s.heap) (F : Fr h₀ env.locals s.heap m₀) (N : News h₀ env.locals s.heap news) (hj : J [] m₀ news)
    (turn : ∀ pre i u post m₁ news₁ h tk t tu gens own, toks = pre ++ (i, u) :: post → OwnOff own (news.map (·.1)) → (AllBare gens₀ → AllBare gens) → news₁.map (·.1) = news.map (·.1) → J pre m₁ news₁ →
      Fr h₀ env.locals h (fun y => if y = xb then some (.str u tu) else if y = xa then some (.int ((i : Nat) : Int) t) else m₁ y) → News h₀ env.locals h (news₁ ++ own) →
      wpAny (model prog w) A (execs body env) (InvPostN h₀ env.locals (J (pre ++ [(i, u)])) own (news.map (·.1)) ⟨h, gens, s.drawn, tk, s.os⟩ fun f s' => match f with | .ret v => R (.ok (.ret v)) s' | _ => False) (fun _ _ => False) ⟨h, gens, s.drawn, tk, s.os⟩)
    (done : ∀ m₁ news₁ h tk gens, news₁.map (·.1) = news.map (·.1) → J toks m₁ news₁ → (AllBare gens₀ → AllBare gens) → Fr h₀ env.locals h m₁ → News h₀ env.locals h news₁ → R (.ok .next) ⟨h, gens, s.drawn, tk, s.os⟩) :
    codeAny (model prog w) A (.forLoop (.Tuple [.Name xa pa, .Name xb pb] k0 p0) (.ref G) body [] env) R s := by
  refine codeAny_forLoop_any
    (fun n s' => ∃ pre post h tk gs Fp m₁ news₁, toks = pre ++ post ∧ n = post.length ∧ s' = ⟨h, gens₀.push gs, s.drawn, tk, s.os⟩ ∧ GenAt prog w A h₀ env.locals G g (news.map (·.1)) post gens₀ gs Fp h ∧ Fr h₀ env.locals h m₁ ∧ News h₀ env.locals h news₁ ∧ news₁.map (·.1) = news.map (·.1) ∧ J pre m₁ news₁) ?_ toks.length
    ⟨[], toks, s.heap, s.toks, gs, Fp, m₀, news, rfl, rfl, by rw [← hgens], hG, F, N, rfl, hj⟩
  rintro n s' ⟨pre, post, h, tk, gs, Fp, m₁, news₁, htoks, rfl, rfl, hG, F, N, hadr, hJ⟩
  have hnoff : ∀ b ∈ G :: Fp, ∀ p ∈ news₁, p.1 ≠ b := fun b hb p hp q => by
    have h1 : p.1 ∈ news₁.map (·.1) := List.mem_map_of_mem hp
    rw [hadr] at h1
    exact (hG.off b hb).2.2.1 (q ▸ h1)
  have hLF : env.locals ∉ Fp := fun hb => (hG.off _ (List.mem_cons_of_mem _ hb)).1 rfl
  have hNF : ∀ p ∈ news₁, p.1 ∉ Fp := fun p hp hb => hnoff p.1 (List.mem_cons_of_mem _ hb) p hp rfl
  have h0F : ∀ b ∈ Fp, h₀.get? b = none := fun b hb => (hG.off b (List.mem_cons_of_mem _ hb)).2.1
  have hgs : (gens₀.push gs)[g]? = some gs := by rw [hg]; simp
  refine pyNext_genX hh (hl.keeps F.keep) hroom hG.gen hgs (hG.go _ F.keep fun b _ o e => e) ?_
  have egen : ∀ x, ((gens₀.push gs).setIfInBounds g .running).setIfInBounds g x = gens₀.push x := fun x => by
    rw [hg, push_set, push_set]
  cases post with
  | nil =>
    rintro e s₁ ⟨rfl, h₁, tk₁, rfl, hk⟩ _
    refine ⟨rfl, fun h' hk' => wpAny_execs_nil ?_⟩
    have k' : ∀ b o, b ∉ Fp → h.get? b = some o → h'.get? b = some o := fun b o hb e => hk' b o (hk b o hb e)
    have z := done m₁ news₁ h' tk₁ (gens₀.push .finished) hadr (by rw [List.append_nil] at htoks; rw [htoks]; exact hJ) (bare_push rfl) (fr_off F hLF h0F k') (news_off N hNF k')
    rw [← egen .finished] at z
    exact z
  | cons iu r =>
    obtain ⟨i, u⟩ := iu
    rintro e s₁ ⟨T, p, k, l, c, fs, tk₂, tu, Fp', rfl, hT, ⟨h₁, tk₁, rfl, hk⟩, hFp', hlive, hnext⟩ hq
    have hGF : G ∉ Fp := hG.gfp
    have hG₁ : h₁.IsGen G g := let ⟨o, nm, qn, ho, r⟩ := hG.gen; ⟨o, nm, qn, hk G o hGF ho, r⟩
    have hGx : ∃ o, h.get? G = some o := (hG.off G (by simp)).2.2.2
    have hGF' : G ∉ Fp' := fun hb => by
      rcases hFp' G hb with q | q
      · exact hGF q
      · obtain ⟨o, ho⟩ := hGx
        replace q : h.get? G = none := q
        rw [ho] at q; cases q
    have gat : GenAt prog w A h₀ env.locals G g (news.map (·.1)) r gens₀ (End.susp (.ref T) false l k c p fs).genState Fp' h₁ := by
      refine ⟨fun s'' _ h2 => hnext s'' h2, hG₁, fun b hb => ?_, hGF', End.bare_of_quiet hq⟩
      rcases List.mem_cons.mp hb with rfl | hb
      · obtain ⟨a1, a2, a3, o, a4⟩ := hG.off b (by simp)
        exact ⟨a1, a2, a3, o, hk b o hGF a4⟩
      · rcases hFp' b hb with q | q
        · obtain ⟨a1, a2, a3, _⟩ := hG.off b (List.mem_cons_of_mem _ q)
          exact ⟨a1, a2, a3, hlive b hb⟩
        · replace q : h.get? b = none := q
          refine ⟨fun z => ?_, ?_, fun hm => ?_, hlive b hb⟩
          · obtain ⟨o, _, _, x, _⟩ := F.ns
            rw [← z, q] at x; cases x
          · cases z : h₀.get? b with
            | none => rfl
            | some o => have := F.keep b o z; rw [q] at this; cases this
          · rw [← hadr] at hm
            obtain ⟨y, hy, rfl⟩ := List.mem_map.mp hm
            have := (N y hy).1; rw [q] at this; cases this
    have F₁ := fr_off F hLF h0F hk
    have N₁ := news_off N hNF hk
    refine letOwned_gen (g := g) hG₁ ?_
    refine wpAny_assign_Tuple hh hT rfl rfl fun h₂ hx₂ => ?_
    replace hx₂ : Heap.ExtBut h₁.objs.size h₁ h₂ := hx₂
    have k₂ : ∀ b o, h₁.get? b = some o → h₂.get? b = some o := fun b o q => hx₂ b o (Nat.ne_of_lt (Heap.lt_size q)) q
    have F₂ : Fr h₀ env.locals h₂ m₁ := ⟨F₁.ns.at fun o e => k₂ _ o e, fun b o e => k₂ b o (F₁.keep b o e), F₁.above⟩
    have N₂ : News h₀ env.locals h₂ news₁ := fun p hp => ⟨k₂ _ _ (N₁ p hp).1, (N₁ p hp).2⟩
    show wpAny _ _ (do holding [.str u tu] (assign (.Name xa pa) env (.int (i : Nat) tk₂)); do holding [] (assign (.Name xb pb) env (.str u tu)); pure ()) _ _ _
    refine wpAny_bind (wpAny_holding (wpAny_assign_Name (wpAny_storeName_local hxa F₂.ns (fun h₃ hn₃ hs₃ => ?_) hp)))
    replace hs₃ : Heap.SameBut env.locals h₂ h₃ := hs₃
    refine wpAny_bind (wpAny_holding (wpAny_assign_Name (wpAny_storeName_local hxb hn₃ (fun h₄ hn₄ hs₄ => wpAny_pure ?_) hp)))
    replace hs₄ : Heap.SameBut env.locals h₃ h₄ := hs₄
    have F₄ := (F₂.set hn₃ hs₃).set hn₄ hs₄
    have N₄ := (N₂.set hs₃).set hs₄
    have k₄ : ∀ b ∈ G :: Fp', ∀ o, h₁.get? b = some o → h₄.get? b = some o := fun b hb o q => by
      have hb' := (gat.off b hb).1
      exact (hs₄.2 b hb').trans ((hs₃.2 b hb').trans (k₂ b o q))
    have gat₄ := gat.keeps k₄
    have Nown : News h₀ env.locals h₄ (news₁ ++ ownOf h₄ (G :: Fp')) := fun p hp => by
      rcases List.mem_append.mp hp with hp | hp
      · exact N₄ p hp
      · obtain ⟨a1, a2⟩ := own_mem hp
        obtain ⟨b1, b2, _⟩ := gat₄.off _ a1
        exact ⟨a2, b1, b2⟩
    have hoff : OwnOff (ownOf h₄ (G :: Fp')) (news.map (·.1)) := fun p hp b hb q => (gat₄.off _ (own_mem hp).1).2.2.1 (q ▸ hb)
    have z := turn pre i u r m₁ news₁ h₄ (tk₁ + 1 + 1) tk₂ tu (gens₀.push (End.susp (.ref T) false l k c p fs).genState) (ownOf h₄ (G :: Fp')) htoks hoff (bare_push gat.bare) hadr hJ F₄ Nown
    have fin : ∀ s₃, InvEndN h₀ env.locals (J (pre ++ [(i, u)])) (ownOf h₄ (G :: Fp')) (news.map (·.1)) ⟨h₄, gens₀.push (End.susp (.ref T) false l k c p fs).genState, s.drawn, tk₁ + 1 + 1, s.os⟩ s₃ →
        ∃ m, m < (((i, u) :: r : List (Nat × Str))).length ∧ ∃ pre post h tk gs Fp m₁ news₁, toks = pre ++ post ∧ m = post.length ∧ s₃ = ⟨h, gens₀.push gs, s.drawn, tk, s.os⟩ ∧ GenAt prog w A h₀ env.locals G g (news.map (·.1)) post gens₀ gs Fp h ∧ Fr h₀ env.locals h m₁ ∧ News h₀ env.locals h news₁ ∧ news₁.map (·.1) = news.map (·.1) ∧ J pre m₁ news₁ := by
      rintro s₃ ⟨h₅, tk₅, m₅, news₅, nx, rfl, F₅, N₅, hnx, hown, hadr₅, hJ₅⟩
      refine ⟨r.length, Nat.lt_succ_self _, pre ++ [(i, u)], r, h₅, tk₅, _, Fp', m₅, nx, by rw [htoks]; simp, rfl, rfl, gat₄.keeps fun b hb o q => (N₅ _ (hown _ (mem_own hb q))).1, F₅, fun p hp => N₅ p (hnx p hp), hadr₅, hJ₅⟩
    rw [← egen (End.susp (.ref T) false l k c p fs).genState] at z fin
    refine wpAny_mono z (fun f s₃ q => ?_) fun _ _ x => x.elim
    cases f with
    | next => exact fin s₃ q
    | cont => exact fin s₃ q
    | brk => exact q.elim
    | ret v => exact q
end
end Mine
end

section
open PySem PySem.W PyProof.Rows PySem.Calls PySem.Spec
set_option Elab.async false
set_option maxRecDepth 100000
set_option maxHeartbeats 4000000
namespace Mine
open PySem.W.X (SegX s_skim s_call s_again s_pop s_end s_yield wake_any)
section
variable {w : World} {A : Around} {s : Shared} {E : Value → Shared → Prop} {env : Env} {h₀ : Heap} {L : Addr} {m mg mb : Str → Option Value} {mean : ExcName → Option Value} {news : List (Addr × Obj)} {Q : Value → Shared → Prop} {x : Str} {tx : Tok}
theorem iter_call (F : Fr h₀ L s.heap m) (N : News h₀ L s.heap news) (X : (Mine.hd.heap_1 w.params).In h₀) (T : Top Mine.view LO mean mg mb h₀) (hh : A.handled = none) (hroom : A.depth < recursionLimit)
    (h : ∀ h' tk gs Fp G, Fr h₀ L h' m → News h₀ L h' news → GenAt PySem.Challenge.rw_uq0033_01.row.prog w A h₀ L G s.gens.size (news.map (·.1)) (escT x.cps.toList 0 false) s.gens gs Fp h' → Q (.ref G) ⟨h', s.gens.push gs, s.drawn, tk, s.os⟩) :
    wpAny (model PySem.Challenge.rw_uq0033_01.row.prog w) A (call (.ref 45) [.str x tx]) Q E s := by
  refine wpAny_call ?_
  refine' call_gen F X T ?ho ?hcd hroom ?hb ?hl ?_ ?c1 ?c2 ?c3 ?c4
  case ho => k_is
  case hcd => k_is
  case hb => exact BindsTo.of_eq rfl
  case hl => exact locs rfl
  case c1 => exact rfl
  case c2 => exact rfl
  case c3 => exact rfl
  case c4 => decide
  intro h' tk hk hns hG
  have hz : L < s.heap.objs.size := F.ns.lt
  have F' : Fr h₀ L h' m := ⟨F.ns.at fun o e => hk _ o e, fun b o e => hk b o (F.keep b o e), F.above⟩
  have N' : News h₀ L h' news := fun p hp => ⟨hk _ _ (N p hp).1, (N p hp).2⟩
  have new : ∀ b, s.heap.objs.size ≤ b → b ≠ L ∧ h₀.get? b = none ∧ b ∉ news.map (·.1) := fun b hb => by
    refine ⟨fun q => ?_, ?_, fun hm => ?_⟩
    · rw [q] at hb; exact absurd hz (Nat.not_lt.mpr hb)
    · cases z : h₀.get? b with
      | none => rfl
      | some o => exact absurd (Heap.lt_size (F.keep b o z)) (Nat.not_lt.mpr hb)
    · obtain ⟨y, hy, rfl⟩ := List.mem_map.mp hm
      exact absurd (Heap.lt_size (N y hy).1) (Nat.not_lt.mpr hb)
  refine h h' tk _ [s.heap.objs.size] _ F' N' ⟨fun s' h1 h2 => ?_, hG, fun b hb => ?_, by simp, rfl⟩
  · have Fs : Fr h₀ s.heap.objs.size s'.heap _ := ⟨hns.at fun o e => h2 _ (by simp) o e, h1, Nat.le_trans F.above (Nat.le_of_lt hz)⟩
    exact gen_fresh (A := A.in1) hh X T Fs rfl
  · rcases List.mem_cons.mp hb with rfl | hb
    · obtain ⟨a1, a2, a3⟩ := new _ (Nat.le_succ s.heap.objs.size)
      obtain ⟨o, _, _, ho, _⟩ := hG
      exact ⟨a1, a2, a3, o, ho⟩
    · rw [List.mem_singleton.mp hb]
      obtain ⟨a1, a2, a3⟩ := new _ (Nat.le_refl s.heap.objs.size)
      obtain ⟨o, _, _, ho, _⟩ := hns
      exact ⟨a1, a2, a3, o, ho⟩
end
end Mine
end

section
open PySem PySem.W PyProof.Rows PySem.Calls PySem.Spec
set_option maxRecDepth 100000
namespace Mine
abbrev PP : Program := PySem.Challenge.rw_uq0033_01.row.prog
/-- what a call of a def of ours hands back: the frame and the ledger stand, the generators stay bare -/
abbrev GRet (h₀ : Heap) (L : Addr) (m : Str → Option Value) (news : List (Addr × Obj)) (s : Shared) (Q : Value → Shared → Prop) (R : Tok → Value) : Prop :=
  ∀ (t : Tok) (h' : Heap) (tk' : Nat) (gens' : Array GenState), (AllBare s.gens → AllBare gens') → Fr h₀ L h' m → News h₀ L h' news → Q (R t) ⟨h', gens', s.drawn, tk', s.os⟩
abbrev Claim (w : World) (f : Addr) (bud : Nat) (pre : Prop) (vs : List Value) (R : Tok → Value) : Prop :=
  ∀ (mean : ExcName → Option Value) (mg mb : Str → Option Value) (news : List (Addr × Obj)) (dp un : Nat) (gd : Option (List Code)) (cn : Str) (cs : Scope) (a : Addr) (ccd : Value) (cl : List (Str × Addr)) (outer : List Env) (A₀ : Around) (base h₀ : Heap) (L : Addr) (m : Str → Option Value) (s : Shared) (Q E : Value → Shared → Prop),
    Below A₀ base outer h₀ → Fr h₀ L s.heap m → (Mine.hd.heap_1 w.params).In h₀ → News h₀ L s.heap news → Top Mine.view LO mean mg mb h₀ → cs.kind = .function → pre → dp + bud < recursionLimit → un + 8 * bud < cLine → GRet h₀ L m news s Q R →
      wpAny (model PySem.Challenge.rw_uq0033_01.row.prog w) (ktrTop dp un gd cn cs L a ccd cl outer) (call (.ref f) vs) Q E s
theorem invEnd1 {h₀ h' : Heap} {L l : Addr} {J : (Str → Option Value) → List (Addr × Obj) → Prop} {m' : Str → Option Value} {own news : List (Addr × Obj)} {o : Obj} {adr : List Addr} {s₁ : Shared} {tk : Nat} (F : Fr h₀ L h' m') (N : News h₀ L h' ((l, o) :: (news ++ own)))
    (hj : J m' ((l, o) :: news)) (ha : l :: news.map (·.1) = adr) : InvEndN h₀ L J own adr s₁ { s₁ with heap := h', toks := tk } :=
  InvEndN.intro F N hj ha (fun p hp => by rw [← List.cons_append]; exact List.mem_append_left _ hp) (fun p hp => by rw [← List.cons_append]; exact List.mem_append_right _ hp)
theorem invEnd0 {h₀ h' : Heap} {L : Addr} {J : (Str → Option Value) → List (Addr × Obj) → Prop} {m' : Str → Option Value} {own news : List (Addr × Obj)} {adr : List Addr} {s₁ : Shared} {tk : Nat} (F : Fr h₀ L h' m') (N : News h₀ L h' (news ++ own))
    (hj : J m' news) (ha : news.map (·.1) = adr) : InvEndN h₀ L J own adr s₁ { s₁ with heap := h', toks := tk } :=
  InvEndN.intro F N hj ha (fun p hp => List.mem_append_left _ hp) (fun p hp => List.mem_append_right _ hp)
theorem sum_snoc {l : List Str} {y : Str} {n : Nat} (h : (l.map (·.length)).sum ≤ l.length * n) (hy : y.length ≤ n) : ((l ++ [y]).map (·.length)).sum ≤ (l ++ [y]).length * n := by
  rw [List.map_append, List.sum_append, List.length_append, Nat.add_mul]
  simp
  omega
theorem mul_le' {a b : Nat} (ha : a ≤ 4001) (hb : b ≤ 4000) : a * b ≤ 16777216 := Nat.le_trans (Nat.mul_le_mul ha hb) (by decide)
theorem escT_len : ∀ (l : List Nat) (i : Nat) (b : Bool), (escT l i b).length ≤ l.length + (if b then 1 else 0)
  | [], i, true => by simp [escT]
  | [], i, false => by simp [escT]
  | c :: r, i, true => by have := escT_len r (i + 1) false; simp [escT] at this ⊢; omega
  | c :: r, i, false => by
    by_cases h : c = 92
    · have := escT_len r (i + 1) true; simp [escT, h] at this ⊢; omega
    · have := escT_len r (i + 1) false; simp [escT, h] at this ⊢; omega
theorem strsAre_len {us : List Value} {ws : List Str} (h : StrsAre us ws) : us.length = ws.length := by
  induction h with
  | nil => rfl
  | cons _ _ _ ih => simp [ih]
theorem gen_toks {α : Type} {M : Model} {A : Around} {t : Sem α} {Q : α → Shared → Prop} {E : Value → Shared → Prop} {h : Heap} {g : Array GenState} {d : Drawn} {tk : Nat} {os : OsState} (hp : 1 ≤ tk) (H : ∀ tk' : Nat, 1 ≤ tk' → wpAny M A t Q E ⟨h, g, d, tk', os⟩) : wpAny M A t Q E ⟨h, g, d, tk, os⟩ := H tk hp
theorem execs_consP {M : Model} {A : Around} {st : Stmt} {rest : List Stmt} {env : Env} {Q : Flow → Shared → Prop} {E : Value → Shared → Prop} {s : Shared} (hp : 1 ≤ s.toks)
    (h : wpAny M A (exec st env) (fun f s' => 1 ≤ s'.toks → match f with | .next => wpAny M A (execs rest env) Q E s' | f => Q f s') E s) : wpAny M A (execs (st :: rest) env) Q E s :=
  wpAny_execs_cons (wpAny_with_toks hp (wpAny_mono h (fun _ _ x => x) fun _ _ x _ => x))
theorem kstB_self {m : Str → Option Value} {ps : List (Str × Value)} (h : ∀ p ∈ ps, m p.1 = some p.2) : kstB m ps = m := funext fun _ => kstB_eq h fun _ => rfl
end Mine
end

section
open PySem PySem.W PyProof.Rows PySem.Calls PySem.Spec
set_option Elab.async false
set_option maxRecDepth 100000
namespace Mine
section
variable {prog : Program} {w : World} {A : Around} {E : Value → Shared → Prop} {s : Shared} {h₀ : Heap} {L D : Addr} {m : Str → Option Value} {news news' : List (Addr × Obj)} {vs : Array Value} {n : Nat} {x v : Value} {t : Tok}
theorem last_sub {value slice : PySem.Expr} {Q : Value → Shared → Prop} (N : News h₀ L s.heap news) (hm : (D, listOf vs n) ∈ news) (hne : 0 < vs.size) (hx : vs[vs.size - 1]? = some x) (h : Q x s)
    (hs : subscripted slice false (.ref D) (.int (-1) t) = operate [.ref D, .int (-1) t] (getItem (.ref D) (.int (-1) t))) :
    wpAny (model prog w) A (subscriptTail value slice (.ref D) (.int (-1) t)) Q E s := by
  have hl : s.heap.IsList D vs := PySem.IsL.isList (n := n) (N _ hm).1
  refine tail_any hl.typeIs slot_list_getitem.lookup (wpAny_getItem_list_neg hl (by decide) (by omega) (by decide) ?_ h) hs
  have : ((-1 : Int) + (vs.size : Int)).toNat = vs.size - 1 := by omega
  rw [this]; exact hx
theorem setAt_last {l : Addr} {items : Array Value} {Q : Unit → Shared → Prop} (ho : s.heap.get? l = some (listOf items n)) (hn : 0 < items.size)
    (hQ : Q () { s with heap := s.heap.update l (Obj.mapSeq (·.setIfInBounds (items.size - 1) v)) }) : wpAny (model prog w) A (setItem (.ref l) (.int (-1) t) v) Q E s := by
  have hl : s.heap.IsList l items := PySem.IsL.isList (n := n) ho
  unfold setItem
  try with_reducible refine wpAny_holding ?_
  first | refine wpAny_bind (wpAny_pure ?_) | skip
  refine wpAny_bind (wpAny_sequenceKey hl.typeIs (by decide) ?_)
  refine wpAny_bind (wpAny_callSpecial?_slot (name := Str.ofString "__setitem__") hl.typeIs slot_list_setitem
    (wpAny_call_entry slot_list_setitem hl.typeIs entry_list_setitem ?_ (args_list_setitem _ _ _)))
  show wpAny _ _ (Builtin.List.listSubscript? (.int (-1) t) >>= _) _ _ s
  refine wpAny_bind (wpAny_listSubscript_int (fitsIndex_neg (by decide) (by decide)) ?_)
  have hidx : seqIndex? (-1) items.size = some (items.size - 1) := by
    rw [seqIndex_neg (by decide) (by omega)]
    congr 1; omega
  have hx' : items[items.size - 1]? = some items[items.size - 1] := Array.getElem?_eq_getElem (by omega)
  show wpAny _ _ ((Builtin.List.listItems (.ref l) >>= fun xs => pure ((seqIndex? (-1) xs.size).bind fun i => xs[i]?.map (i, ·))) >>= _) _ _ s
  refine wpAny_bind (wpAny_bind ?_)
  show wpAny _ _ (seqItems? (.ref l) >>= _) _ _ s
  refine wpAny_bind (wpAny_seqItems ho rfl (wpAny_pure (wpAny_pure ?_)))
  rw [hidx]
  simp only [Option.bind_some, hx', Option.map_some]
  show wpAny _ _ (setSeqItemAt l (items.size - 1) v >>= _) _ _ s
  refine wpAny_bind (wpAny_setSeqItemAt ho rfl ?_)
  first
    | exact wpAny_bind (wpAny_pure (wpAny_pure ⟨.none, rfl, wpAny_pure hQ⟩))
    | exact wpAny_pure ⟨.none, rfl, wpAny_pure hQ⟩
theorem last_set {Q : Unit → Shared → Prop} (F : Fr h₀ L s.heap m) (N : News h₀ L s.heap news) (U : Upd D (listOf vs n) (listOf (vs.setIfInBounds (vs.size - 1) v) n) news news') (hne : 0 < vs.size)
    (h : ∀ h', Fr h₀ L h' m → News h₀ L h' news' → Q () { s with heap := h' }) : wpAny (model prog w) A (setItem (.ref D) (.int (-1) t) v) Q E s := by
  obtain ⟨pre, post, rfl, rfl, a, b⟩ := U.split
  have z := N (D, listOf vs n) (List.mem_append.mpr (.inr (.head _)))
  exact setAt_last z.1 hne (h _ (F.change (Heap.SameBut.update ..) z.2.1 z.2.2) (ki_turn _ N a b rfl (by simp)))
theorem replaceP {x y z : Str} {t u v : Tok} {Q : Value → Shared → Prop} (h0 : 1 ≤ s.toks) (hu : u ≠ 0) (hv : v ≠ 0) (huv : u ≠ v) (hyz : (y == z) = false) (hx : x.length ≤ 1048576) (hz : z.length ≤ 14)
    (hq : ∀ t' k, 1 ≤ k → Q (.str (Txt.replace x y z) t') { s with toks := k }) : wpAny (model prog w) A (call (.builtin "str.replace") [.str x t, .str y u, .str z v]) Q E s :=
  wpAny_with_toks h0 (SC.replaceW hu hv huv hyz hx hz fun t' k hk => hq t' k hk)
end
end Mine
end

section
open PySem PySem.W PyProof.Rows PySem.Calls PySem.Spec
set_option Elab.async false
set_option maxRecDepth 100000
set_option maxHeartbeats 8000000
namespace Mine
local macro_rules | `(tactic| k_all) => `(tactic| assumption)
def qt : Str := Str.ofString "\""
def cut (x : Str) (a b : Nat) : Str := Txt.slice x (some (a : Int)) (some (b : Int))
def stripStep (x : Str) : Nat × Option Nat × List Str → Nat × Str → Nat × Option Nat × List Str
  | (st, none, res), (i, u) => if u = qt then (st, some i, res) else (st, none, res)
  | (st, some o, res), (i, u) => if u = qt then (i + 1, none, if st = o then res else res ++ [cut x st o]) else (st, some o, res)
def stripRun (x : Str) (l : List (Nat × Str)) : Nat × Option Nat × List Str := l.foldl (stripStep x) (0, none, [])
def opV : Option Nat → Tok → Value
  | none, _ => .none
  | some o, t => .int (o : Int) t
def stripF (x : Str) : Str := match (Builtin.Str.occurrences x qt 0 x.length 1).isEmpty with
  | true => x
  | false => Txt.join (Str.ofString "") (if (stripRun x (escT x.cps.toList 0 false)).1 < x.length then (stripRun x (escT x.cps.toList 0 false)).2.2 ++ [Txt.slice x (some ((stripRun x (escT x.cps.toList 0 false)).1 : Int)) none] else (stripRun x (escT x.cps.toList 0 false)).2.2)
theorem strip_C (w : World) (x : Str) (tx : Tok) : Claim w 52 3 (x.length ≤ 4000) [.str x tx] (fun t => .str (stripF x) t) := by
  w_top off
  k_with_none
  dsimp only [Claim, GRet]
  intro mean mg mb news dp un gd cn cs a ccd cl outer A₀ base h₀ L m s Q E hB hF hX hN hT hcs hpre hdp hun hret
  refine wpAny_call ?_
  k_dflt cell_enter
  all_goals k_steps
  · rename Fr _ _ _ _ => F8
    rename News _ _ _ _ => N8
    have hq : (Builtin.Str.occurrences x (Str.ofString "\"") 0 x.length 1).isEmpty = true := by assumption
    have e : stripF x = x := by simp only [stripF, qt, hq]
    rw [e] at hret
    exact hret tx _ _ s.gens _root_.id F8 N8
  have hq : (Builtin.Str.occurrences x (Str.ofString "\"") 0 x.length 1).isEmpty = false := by assumption
  rename_i l h2 l1 h3 F' N'
  rename Frag.In _ _ => X'
  rename Top _ _ _ _ _ _ => T'
  refine wpAny_For ?_
  walk1
  walk1
  walk1
  walk1
  walk1
  walk1
  walk1
  refine iter_call F' N' X' T' rfl ?_ ?_
  · ktr_room
  intro h₁ tk₁ gs Fp G F₁ N₁ GA
  refine wpAny_pyIter_gen GA.gen ?_
  refine gen_loopC (fun pre m₁ nx => ∃ (st : Nat) (op : Option Nat) (res : List Str) (vs : Array Value) (n : Nat) (ts to : Tok), stripRun x pre = (st, op, res) ∧ nx = (l, listOf vs n) :: news ∧ (StrsAre vs.toList res ∧ res.length ≤ pre.length ∧ (res.map (·.length)).sum ≤ res.length * x.length) ∧ m₁ (Str.ofString "start") = some (.int ((st : Nat) : Int) ts) ∧ m₁ (Str.ofString "open_pos") = some (opV op to) ∧
    m₁ (Str.ofString "addr") = some (.str x tx) ∧ m₁ (Str.ofString "result") = some (.ref l)) rfl T'.nolimit ?_ rfl rfl rfl rfl rfl GA F₁ N₁ ?_ ?_ ?_
  · ktr_room
  · exact ⟨0, none, [], #[], 0, _, 0, rfl, rfl, ⟨.nil, Nat.le_refl _, Nat.zero_le _⟩, rfl, rfl, rfl, rfl⟩
  · rintro pre i u post m₁ _ h tk t tu gens own htoks hoff hbare hadr ⟨st, op, res, vs, n, ts, to, hrun, rfl, ⟨hvs, hvl, hsum⟩, q1, q2, q3, q4⟩ F N
    rw [← kstB_self (m := m₁) (ps := [(Str.ofString "start", .int st ts), (Str.ofString "open_pos", opV op to), (Str.ofString "addr", .str x tx), (Str.ofString "result", .ref l)]) (by simp [q1, q2, q3, q4])] at F
    rw [List.cons_append] at N
    have hne : ∀ p ∈ news ++ own, p.1 ≠ l := fun p hp => (List.mem_append.mp hp).elim (fun h => Nat.ne_of_lt (l1 p h)) fun h => hoff p h l (by simp)
    have hsz : vs.size ≤ sizeLine := by
      have z1 := strsAre_len hvs
      have z2 := escT_len x.cps.toList 0 false
      rw [htoks] at z2
      have z3 : x.cps.toList.length = x.length := by simp [Str.length]
      rw [sizeLine_eq]
      rw [Array.length_toList] at z1
      simp at z2
      simp at z3
      omega
    have snoc : stripRun x (pre ++ [(i, u)]) = stripStep x (st, op, res) (i, u) := by rw [← hrun]; simp [stripRun]
    cases op with
    | none =>
      dsimp only [opV] at F
      k_steps
      · rename Fr _ _ _ _ => F9
        rename News _ _ _ _ => N9
        have hu : u = qt := eq_of_beq (by assumption)
        exact invEnd1 F9 N9 ⟨st, some i, res, vs, n, ts, t, by rw [snoc]; simp [stripStep, hu], rfl, ⟨hvs, by simp; omega, hsum⟩, rfl, rfl, rfl, rfl⟩ hadr
      · rename Fr _ _ _ _ => F9
        rename News _ _ _ _ => N9
        have hu : ¬ u = qt := ne_of_beq_false (by assumption)
        exact invEnd1 F9 N9 ⟨st, none, res, vs, n, ts, to, by rw [snoc]; simp [stripStep, hu], rfl, ⟨hvs, by simp; omega, hsum⟩, rfl, rfl, rfl, rfl⟩ hadr
    | some o =>
      dsimp only [opV] at F
      k_steps
      · rename Fr _ _ _ _ => F9
        rename News _ _ _ _ => N9
        have hu : u = qt := eq_of_beq (by assumption)
        have hso : ¬ st = o := fun e => absurd (congrArg (fun n : Nat => (n : Int)) e) (by assumption)
        exact invEnd1 F9 N9 ⟨i + 1, none, _, _, _, _, 0, by rw [snoc]; simp [stripStep, hu, hso]; rfl, rfl, ⟨by rw [Array.toList_push]; exact StrsAre.append' hvs (.cons _ _ .nil), by simp; omega, sum_snoc hsum (by assumption)⟩, rfl, rfl, rfl, rfl⟩ hadr
      · rename Fr _ _ _ _ => F9
        rename News _ _ _ _ => N9
        have hu : u = qt := eq_of_beq (by assumption)
        have hso : st = o := Int.ofNat_inj.mp (by assumption)
        exact invEnd1 F9 N9 ⟨i + 1, none, res, vs, n, _, 0, by rw [snoc]; simp [stripStep, hu, hso], rfl, ⟨hvs, by simp; omega, hsum⟩, rfl, rfl, rfl, rfl⟩ hadr
      · rename Fr _ _ _ _ => F9
        rename News _ _ _ _ => N9
        have hu : ¬ u = qt := ne_of_beq_false (by assumption)
        exact invEnd1 F9 N9 ⟨st, some o, res, vs, n, ts, to, by rw [snoc]; simp [stripStep, hu], rfl, ⟨hvs, by simp; omega, hsum⟩, rfl, rfl, rfl, rfl⟩ hadr
  · rintro m₁ _ h tk gens hadr ⟨st, op, res, vs, n, ts, to, hrun, rfl, ⟨hvs, hvl, hsum⟩, q1, q2, q3, q4⟩ hbare F N
    rw [← kstB_self (m := m₁) (ps := [(Str.ofString "start", .int st ts), (Str.ofString "open_pos", opV op to), (Str.ofString "addr", .str x tx), (Str.ofString "result", .ref l)]) (by simp [q1, q2, q3, q4])] at F
    have hne : ∀ p ∈ news, p.1 ≠ l := fun p hp => Nat.ne_of_lt (l1 p hp)
    have hsz : vs.size ≤ sizeLine := by
      have z1 := strsAre_len hvs
      have z2 := escT_len x.cps.toList 0 false
      have z3 : x.cps.toList.length = x.length := by simp [Str.length]
      rw [sizeLine_eq]
      rw [Array.length_toList] at z1
      simp at z2
      simp at z3
      omega
    have hcl : res.length ≤ 4000 := by
      have z2 := escT_len x.cps.toList 0 false
      have z3 : x.cps.toList.length = x.length := by simp [Str.length]
      simp only [Bool.false_eq_true, if_false, Nat.add_zero, z3] at z2
      omega
    have hrun' : stripRun x (escT x.cps.toList 0 false) = (st, op, res) := hrun
    dsimp only
    k_steps
    · rename News _ _ _ _ => N9
      refine join_list (N9.isList (.head _)) (by rw [Array.toList_push]; exact StrsAre.append' hvs (.cons _ _ .nil)) ?_ fun t' k => ?_
      · have := sum_snoc hsum (show (Txt.slice x (some (st : Int)) none).length ≤ x.length by assumption)
        have e0 : (Str.ofString "").length = 0 := by decide +kernel
        rw [e0, Nat.mul_zero, Nat.add_zero]
        exact Nat.le_trans this (mul_le' (by simp; omega) hpre)
      k_steps
      rename Fr _ _ _ _ => F8
      rename News _ _ _ _ => N8
      have e : stripF x = Txt.join (Str.ofString "") (res ++ [Txt.slice x (some (st : Int)) none]) := by
        have hlt : st < x.length := by omega
        simp only [stripF, qt, hq, hrun', hrun, hlt, if_true]
      rw [← e]
      exact hret _ _ _ _ hbare F8 fun p hp => N8 p (List.mem_cons_of_mem _ hp)
    · rename News _ _ _ _ => N9
      refine join_list (N9.isList (.head _)) hvs ?_ fun t' k => ?_
      · have e0 : (Str.ofString "").length = 0 := by decide +kernel
        rw [e0, Nat.mul_zero, Nat.add_zero]
        exact Nat.le_trans hsum (mul_le' (by omega) hpre)
      k_steps
      rename Fr _ _ _ _ => F8
      rename News _ _ _ _ => N8
      have e : stripF x = Txt.join (Str.ofString "") res := by
        have hlt : ¬ st < x.length := by omega
        simp only [stripF, qt, hq, hrun', hrun, hlt, if_false]
      rw [← e]
      exact hret _ _ _ _ hbare F8 fun p hp => N8 p (List.mem_cons_of_mem _ hp)
end Mine
end

section
open PySem PySem.W PyProof.Rows PySem.Calls PySem.Spec
set_option Elab.async false
set_option maxRecDepth 100000
set_option maxHeartbeats 8000000
namespace Mine
def lp : Str := Str.ofString "("
def rp : Str := Str.ofString ")"
theorem rl : ¬ rp = lp := by decide +kernel
def parStep : Option Int → Nat × Str → Option Int
  | none, _ => none
  | some n, (_, u) => if u = lp then some (n + 1) else if u = rp then (if n - 1 < 0 then none else some (n - 1)) else some n
theorem par_none (l : List (Nat × Str)) : l.foldl parStep none = none := by
  induction l with
  | nil => rfl
  | cons p r ih => exact ih
def checkF (x : Str) : Bool := match (escT (stripF x).cps.toList 0 false).foldl parStep (some 0) with | none => false | some n => n == 0
theorem check_C (w : World) (x : Str) (tx : Tok) : Claim w 59 5 (x.length ≤ 4000) [.str x tx] (fun _ => .bool (checkF x)) := by
  w_top off
  k_with_none
  (k_with "call ref" => ((with_reducible show wpAny _ _ (call (Value.ref 52) _) _ _ _); k_here; k_dflt (refine' strip_C _ _ _ _ _ _ _ _ _ _ _ _ _ _ _ _ _ _ _ _ _ _ _ _ (by k_asm) (by k_asm) (by k_asm) (by k_asm) (by k_asm) (by exact rfl) (by first | assumption | omega) (by first | omega | ktr_room) (by first | omega | ktr_units) ?_); intro t9 h9 tk9 g9 hb9 F9 N9; (try dsimp only)))
  dsimp only [Claim, GRet]
  intro mean mg mb news dp un gd cn cs a ccd cl outer A₀ base h₀ L m s Q E hB hF hX hN hT hcs hpre hdp hun hret
  refine wpAny_call ?_
  k_dflt cell_enter
  all_goals k_steps
  rename Frag.In _ _ => X'
  rename Top _ _ _ _ _ _ => T'
  rename Fr _ _ _ _ => F'
  rename News _ _ _ _ => N'
  rename (AllBare _ → AllBare _) => hb0
  refine wpAny_For ?_
  walk1
  walk1
  walk1
  walk1
  walk1
  walk1
  walk1
  refine iter_call F' N' X' T' rfl ?_ ?_
  · ktr_room
  intro h₁ tk₁ gs Fp G F₁ N₁ GA
  refine wpAny_pyIter_gen GA.gen ?_
  refine gen_loopC (fun pre m₁ nx => ∃ (n : Int) (tn : Tok), pre.foldl parStep (some 0) = some n ∧ nx = news ∧ (0 ≤ n ∧ n ≤ pre.length) ∧ m₁ (Str.ofString "opens") = some (.int n tn)) rfl T'.nolimit ?_ rfl rfl rfl rfl rfl GA F₁ N₁ ?_ ?_ ?_
  · ktr_room
  · exact ⟨0, _, rfl, rfl, ⟨Int.le_refl _, Int.le_refl _⟩, rfl⟩
  · rintro pre i u post m₁ _ h tk t tu gens own htoks hoff hbare hadr ⟨n, tn, hrun, rfl, ⟨hn0, hn1⟩, q1⟩ F N
    rw [← kstB_self (m := m₁) (ps := [(Str.ofString "opens", .int n tn)]) (by simp [q1])] at F
    have snoc : (pre ++ [(i, u)]).foldl parStep (some 0) = parStep (some n) (i, u) := by rw [List.foldl_append, hrun]; rfl
    k_steps
    · rename Fr _ _ _ _ => F8
      rename News _ _ _ _ => N8
      have hu : u = lp := eq_of_beq (by assumption)
      exact invEnd0 F8 N8 ⟨n + 1, _, by rw [snoc]; simp [parStep, hu], rfl, ⟨by omega, by simp; omega⟩, rfl⟩ rfl
    · rename Fr _ _ _ _ => F8
      rename News _ _ _ _ => N8
      have hu0 : ¬ u = lp := ne_of_beq_false (by assumption)
      have hu : u = rp := eq_of_beq (by assumption)
      have hneg : n - 1 < 0 := by assumption
      have e : checkF x = false := by
        unfold checkF
        have : (escT (stripF x).cps.toList 0 false).foldl parStep (some 0) = none := by
          rw [htoks, List.append_cons, List.foldl_append, snoc]
          have : parStep (some n) (i, u) = none := by subst hu; simp [parStep, rl, hneg]
          rw [this, par_none]
        rw [this]
      rw [e] at hret
      exact hret 0 _ _ _ (fun z => hbare (hb0 z)) F8 fun p hp => N8 p (List.mem_append_left _ hp)
    · rename Fr _ _ _ _ => F8
      rename News _ _ _ _ => N8
      have hu0 : ¬ u = lp := ne_of_beq_false (by assumption)
      have hu : u = rp := eq_of_beq (by assumption)
      have hneg : ¬ n - 1 < 0 := by omega
      exact invEnd0 F8 N8 ⟨n - 1, _, by rw [snoc]; subst hu; simp [parStep, rl, hneg], rfl, ⟨by omega, by simp; omega⟩, rfl⟩ rfl
    · rename Fr _ _ _ _ => F8
      rename News _ _ _ _ => N8
      have hu0 : ¬ u = lp := ne_of_beq_false (by assumption)
      have hu : ¬ u = rp := ne_of_beq_false (by assumption)
      exact invEnd0 F8 N8 ⟨n, tn, by rw [snoc]; simp [parStep, hu0, hu], rfl, ⟨by omega, by simp; omega⟩, rfl⟩ rfl
  · rintro m₁ _ h tk gens hadr ⟨n, tn, hrun, rfl, ⟨hn0, hn1⟩, q1⟩ hbare F N
    rw [← kstB_self (m := m₁) (ps := [(Str.ofString "opens", .int n tn)]) (by simp [q1])] at F
    dsimp only
    k_steps
    rename Fr _ _ _ _ => F8
    rename News _ _ _ _ => N8
    have e : checkF x = decide (n = 0) := by
      unfold checkF
      rw [hrun]
      by_cases h0 : n = 0
      · subst h0; rfl
      · simp [h0]
    rw [e] at hret
    exact hret 0 _ _ _ (fun z => hbare (hb0 z)) F8 N8
end Mine
end

section
open PySem PySem.W PyProof.Rows PySem.Calls PySem.Spec
open Builtin.Str
set_option Elab.async false
namespace Mine
/-- str.replace over the signs: the places under way (skip) -/
def repL (y z : List Nat) : Nat → List Nat → List Nat
  | _, [] => []
  | k + 1, _ :: r => repL y z k r
  | 0, c :: r => if (c :: r).take y.length = y then z ++ repL y z (y.length - 1) r else c :: repL y z 0 r
def occL (y : List Nat) : Nat → Nat → List Nat → List Nat
  | _, _, [] => []
  | i, k + 1, _ :: r => occL y (i + 1) k r
  | i, 0, c :: r => if (c :: r).take y.length = y then i :: occL y (i + 1) (y.length - 1) r else occL y (i + 1) 0 r
theorem occL_loop (x y : Str) (hy : 1 ≤ y.length) (limit : Nat) (hlim : x.length < limit) : ∀ (rest : List Nat) (i : Nat) (found : Array Nat) (free : Nat), x.cps.toList.drop i = rest → i ≤ x.length → found.size ≤ i →
    (forIn (List.range' i (x.length + 1 - i)) (found, free) (StrLaws.occBody x y x.length limit)).run.fst.toList = found.toList ++ occL y.cps.toList i (free - i) rest
  | [], i, found, free, hr, hi, hf => by
    have hn : x.cps.toList.length = x.length := by simp [Str.length]
    have hi2 : i = x.length := by
      have := congrArg List.length hr
      simp only [List.length_drop, List.length_nil, hn] at this
      omega
    subst hi2
    have e : x.length + 1 - x.length = 1 := Nat.add_sub_cancel_left ..
    rw [e]
    show (forIn [x.length] (found, free) (StrLaws.occBody x y x.length limit)).run.fst.toList = _
    rw [List.forIn_cons]
    have hc : ¬ (((found.size < limit ∧ free ≤ x.length) ∧ x.length + y.length ≤ x.length) ∧ subAt x y x.length = true) := fun c => by have := c.1.2; omega
    simp only [StrLaws.occBody, if_neg hc]
    simp [occL]
  | c :: r, i, found, free, hr, hi, hf => by
    have hn : x.cps.toList.length = x.length := by simp [Str.length]
    have hyn : y.cps.toList.length = y.length := by simp [Str.length]
    have hi2 : i < x.length := by
      have := congrArg List.length hr
      simp only [List.length_drop, List.length_cons, hn] at this
      omega
    have hr' : x.cps.toList.drop (i + 1) = r := by rw [← List.drop_drop, hr]; rfl
    have e : x.length + 1 - i = (x.length + 1 - (i + 1)) + 1 := by rw [Nat.add_sub_add_right]; exact Nat.succ_sub hi
    rw [e, List.range'_succ, List.forIn_cons]
    have hs : (subAt x y i = true) ↔ (c :: r).take y.length = y.cps.toList := by
      rw [StrLaws.subAt_eq, hr, beq_iff_eq]
    have hb : (c :: r).take y.length = y.cps.toList → i + y.length ≤ x.length := fun h => by
      have h1 := congrArg List.length h
      have h2 := congrArg List.length hr
      simp only [List.length_take, List.length_drop, hyn, hn] at h1 h2
      omega
    by_cases hc : ((found.size < limit ∧ free ≤ i) ∧ i + y.length ≤ x.length) ∧ subAt x y i = true
    · simp only [StrLaws.occBody, if_pos hc]
      show (forIn (List.range' (i + 1) (x.length + 1 - (i + 1))) (found.push i, i + y.length) (StrLaws.occBody x y x.length limit)).run.fst.toList = _
      rw [occL_loop x y hy limit hlim r (i + 1) (found.push i) (i + y.length) hr' (by omega) (by simp; omega)]
      have e2 : free - i = 0 := Nat.sub_eq_zero_of_le hc.1.1.2
      rw [e2]
      have e3 : i + y.length - (i + 1) = y.cps.toList.length - 1 := by rw [hyn, Nat.add_sub_add_left]
      rw [e3]
      have h4 := hs.mp hc.2
      rw [← hyn] at h4
      simp only [occL, if_pos h4, Array.toList_push, List.append_assoc, List.singleton_append]
    · simp only [StrLaws.occBody, if_neg hc]
      show (forIn (List.range' (i + 1) (x.length + 1 - (i + 1))) (found, free) (StrLaws.occBody x y x.length limit)).run.fst.toList = _
      rw [occL_loop x y hy limit hlim r (i + 1) found free hr' (by omega) (by omega)]
      congr 1
      by_cases hfi : free ≤ i
      · have e2 : free - i = 0 := Nat.sub_eq_zero_of_le hfi
        have e3 : free - (i + 1) = 0 := Nat.sub_eq_zero_of_le (Nat.le_succ_of_le hfi)
        rw [e2, e3]
        have h4 : ¬ (c :: r).take y.cps.toList.length = y.cps.toList := fun h => by
          rw [hyn] at h
          exact hc ⟨⟨⟨by omega, hfi⟩, hb h⟩, hs.mpr h⟩
        simp only [occL, if_neg h4]
      · have e2 : free - i = (free - (i + 1)) + 1 := by rw [Nat.sub_add_eq]; exact (Nat.sub_add_cancel (Nat.sub_pos_of_lt (Nat.lt_of_not_le hfi))).symm
        rw [e2]
        rfl
theorem repL_join (x y z : Str) (hy : 1 ≤ y.length) : ∀ (rest : List Nat) (i k a : Nat), x.cps.toList.drop i = rest → i ≤ x.length → ((k = 0 ∧ a ≤ i) ∨ (a = i + k ∧ a ≤ x.length)) →
    (Str.join z (StrLaws.partsFrom x y.length a (occL y.cps.toList i k rest))).cps.toList = (x.cps.toList.drop a).take (i - a) ++ repL y.cps.toList z.cps.toList k rest
  | [], i, k, a, hr, hi, ha => by
    have hn : x.cps.toList.length = x.length := by simp [Str.length]
    have hi2 : i = x.length := by
      have := congrArg List.length hr
      simp only [List.length_drop, List.length_nil, hn] at this
      omega
    subst hi2
    show (strSub x a x.length).cps.toList = _
    rw [StrLaws.strSub_toList]
    simp [repL]
  | c :: r, i, k, a, hr, hi, ha => by
    have hn : x.cps.toList.length = x.length := by simp [Str.length]
    have hyn : y.cps.toList.length = y.length := by simp [Str.length]
    have hi2 : i < x.length := by
      have := congrArg List.length hr
      simp only [List.length_drop, List.length_cons, hn] at this
      omega
    have hr' : x.cps.toList.drop (i + 1) = r := by rw [← List.drop_drop, hr]; rfl
    cases k with
    | succ k =>
      have ha' : a = i + (k + 1) ∧ a ≤ x.length := ha.elim (fun h => nomatch h.1) id
      have ih := repL_join x y z hy r (i + 1) k a hr' (Nat.succ_le_of_lt hi2) (.inr ⟨by rw [ha'.1, Nat.add_assoc, Nat.add_comm 1 k], ha'.2⟩)
      have e1 : i - a = 0 := Nat.sub_eq_zero_of_le (by rw [ha'.1]; exact Nat.le_add_right _ _)
      have e2 : i + 1 - a = 0 := Nat.sub_eq_zero_of_le (by rw [ha'.1]; exact Nat.add_le_add_left (Nat.le_add_left 1 k) i)
      show (Str.join z (StrLaws.partsFrom x y.length a (occL y.cps.toList (i + 1) k r))).cps.toList = _ ++ repL y.cps.toList z.cps.toList k r
      rw [ih, e1, e2]
    | zero =>
      have ha' : a ≤ i := ha.elim (fun h => h.2) fun h => by omega
      by_cases h4 : (c :: r).take y.cps.toList.length = y.cps.toList
      · have hb : i + y.length ≤ x.length := by
          have h1 := congrArg List.length h4
          have h2 := congrArg List.length hr
          simp only [List.length_take, List.length_drop, hyn, hn] at h1 h2
          omega
        have ih := repL_join x y z hy r (i + 1) (y.cps.toList.length - 1) (i + y.length) hr' (Nat.succ_le_of_lt hi2) (.inr ⟨by rw [hyn]; omega, hb⟩)
        simp only [occL, repL, if_pos h4]
        obtain ⟨p, q, e⟩ := StrLaws.partsFrom_ne x y.length (i + y.length) (occL y.cps.toList (i + 1) (y.cps.toList.length - 1) r)
        show (Str.join z (strSub x a i :: StrLaws.partsFrom x y.length (i + y.length) (occL y.cps.toList (i + 1) (y.cps.toList.length - 1) r))).cps.toList = _
        rw [e] at ih ⊢
        show (strSub x a i ++ z ++ Str.join z (p :: q)).cps.toList = _
        simp only [Str.cps_append, Array.toList_append]
        rw [ih, StrLaws.strSub_toList]
        have e5 : i + 1 - (i + y.length) = 0 := Nat.sub_eq_zero_of_le (Nat.add_le_add_left hy i)
        rw [e5]
        simp
      · have ih := repL_join x y z hy r (i + 1) 0 a hr' (Nat.succ_le_of_lt hi2) (.inl ⟨rfl, Nat.le_succ_of_le ha'⟩)
        simp only [occL, repL, if_neg h4]
        rw [ih]
        have e6 : i + 1 - a = (i - a) + 1 := Nat.succ_sub ha'
        have hg : (x.cps.toList.drop a)[i - a]? = some c := by
          rw [List.getElem?_drop]
          have : a + (i - a) = i := Nat.add_sub_cancel' ha'
          rw [this]
          have := congrArg (fun l => l[0]?) hr
          simpa using this
        rw [e6, List.take_add_one, hg]
        simp
theorem replace_L (x y z : Str) (hy : 1 ≤ y.length) : (Txt.replace x y z).cps.toList = repL y.cps.toList z.cps.toList 0 x.cps.toList := by
  have e : occurrences x y 0 x.length (x.length + 1) = occL y.cps.toList 0 0 x.cps.toList := by
    rw [StrLaws.occ_eq]
    have := occL_loop x y hy (x.length + 1) (Nat.lt_succ_self _) x.cps.toList 0 #[] 0 rfl (Nat.zero_le _) (Nat.zero_le _)
    simpa using this
  have j := repL_join x y z hy x.cps.toList 0 0 0 rfl (Nat.zero_le _) (.inl ⟨rfl, Nat.le_refl _⟩)
  unfold Txt.replace
  have h10 : (y.length == 0) = false := by rw [beq_eq_false_iff_ne]; omega
  rw [h10, Bool.false_and, Bool.or_false]
  cases he : (occurrences x y 0 x.length (x.length + 1)).isEmpty
  · rw [if_neg Bool.false_ne_true, StrLaws.glued_eq_join, StrLaws.partsBetween_eq, e, j]
    simp
  · rw [if_pos rfl]
    rw [List.isEmpty_iff.mp he] at e
    rw [← e] at j
    have j' : (strSub x 0 x.length).cps.toList = _ := j
    rw [StrLaws.sub_whole] at j'
    simpa using j'
theorem repL_le (y z : List Nat) (hyz : z.length ≤ y.length) (hy : 1 ≤ y.length) : ∀ (l : List Nat) (k : Nat), (repL y z k l).length + min k l.length ≤ l.length
  | [], k => by simp [repL]
  | c :: r, k + 1 => by
    have := repL_le y z hyz hy r k
    simp only [repL, List.length_cons] at this ⊢
    omega
  | c :: r, 0 => by
    by_cases h : (c :: r).take y.length = y
    · have := repL_le y z hyz hy r (y.length - 1)
      have h1 := congrArg List.length h
      simp only [List.length_take, List.length_cons] at h1
      simp only [repL, if_pos h, List.length_append, List.length_cons]
      omega
    · have := repL_le y z hyz hy r 0
      simp only [repL, if_neg h, List.length_cons]
      omega
theorem replace_le {x y z : Str} (hyz : z.length ≤ y.length) (hy : 1 ≤ y.length) : (Txt.replace x y z).length ≤ x.length := by
  have e : ∀ s : Str, s.length = s.cps.toList.length := fun s => by simp [Str.length]
  rw [e, e, replace_L x y z hy]
  have := repL_le y.cps.toList z.cps.toList (by rw [← e, ← e]; exact hyz) (by rw [← e]; exact hy) x.cps.toList 0
  omega
end Mine
end

section
open PySem PySem.W PyProof.Rows PySem.Calls PySem.Spec
set_option Elab.async false
set_option maxRecDepth 100000
set_option maxHeartbeats 8000000
namespace Mine
local macro_rules | `(tactic| k_all) => `(tactic| assumption)
theorem strsAre_last : ∀ {us : List Value} {ts : List Str}, StrsAre us ts → ts ≠ [] → ∃ ui y ty ti, us = ui ++ [.str y ty] ∧ ts = ti ++ [y] ∧ StrsAre ui ti
  | _, _, .nil, h => absurd rfl h
  | _, _, .cons y ty .nil, _ => ⟨[], y, ty, [], rfl, rfl, .nil⟩
  | _, _, .cons y ty (.cons y2 ty2 r), _ => by
    obtain ⟨ui, z, tz, ti, h1, h2, h3⟩ := strsAre_last (.cons y2 ty2 r) (by simp)
    exact ⟨.str y ty :: ui, z, tz, y :: ti, by rw [h1]; rfl, by rw [h2]; rfl, .cons _ _ h3⟩
/-- the ends of the texts' units -/
def peelStep : Bool × List Str → Nat × Str → Bool × List Str
  | (ins, ts), (_, u) => if u = qt then (!ins, if ins then ts else ts ++ [Str.ofString ""]) else if ins then (ins, ts.dropLast ++ [ts.getLastD Str.empty ++ Txt.item u (-1)]) else (ins, ts)
def lens (l : List (Nat × Str)) : Nat := (l.map fun p => p.2.length).sum
theorem bs_len : (Str.ofString "\\").length = 1 := by decide +kernel
theorem one_len (c : Nat) : (⟨#[c]⟩ : Str).length = 1 := rfl
theorem escT_tok : ∀ (l : List Nat) (i : Nat) (b : Bool), ∀ p ∈ escT l i b, 1 ≤ p.2.length ∧ p.2.length ≤ 2
  | [], i, true, p, hp => by simp [escT] at hp; subst hp; rw [bs_len]; decide
  | [], i, false, p, hp => by simp [escT] at hp
  | c :: r, i, true, p, hp => by
    rcases List.mem_cons.mp hp with rfl | hp
    · show 1 ≤ (Str.ofString "\\" ++ (⟨#[c]⟩ : Str)).length ∧ _
      rw [Str.length_append, bs_len, one_len]; decide
    · exact escT_tok r (i + 1) false p hp
  | c :: r, i, false, p, hp => by
    by_cases h : c = 92
    · simp only [escT, h, if_true] at hp; exact escT_tok r (i + 1) true p hp
    · simp only [escT, h, if_false] at hp
      rcases List.mem_cons.mp hp with rfl | hp
      · exact ⟨Nat.le_refl _, by rw [one_len]; decide⟩
      · exact escT_tok r (i + 1) false p hp
theorem lens_cons (p : Nat × Str) (l : List (Nat × Str)) : lens (p :: l) = p.2.length + lens l := by simp [lens]
theorem lens_snoc (p : Nat × Str) (l : List (Nat × Str)) : lens (l ++ [p]) = lens l + p.2.length := by simp [lens]
theorem escT_at : ∀ (l : List Nat) (i : Nat) (b : Bool), (b = true → 1 ≤ i) → ∀ (pre : List (Nat × Str)) (j : Nat) (u : Str) (post : List (Nat × Str)), escT l i b = pre ++ (j, u) :: post → j + 1 = (i - if b then 1 else 0) + lens pre + u.length
  | [], i, true, hb, pre, j, u, post, h => by
    cases pre with
    | nil =>
      simp only [escT, List.nil_append, List.cons.injEq, Prod.mk.injEq] at h
      obtain ⟨⟨rfl, rfl⟩, _⟩ := h
      rw [bs_len]; have := hb rfl; simp [lens]
    | cons p r => simp [escT] at h
  | [], i, false, _, pre, j, u, post, h => by simp [escT] at h
  | c :: r, i, true, hb, pre, j, u, post, h => by
    have hi := hb rfl
    cases pre with
    | nil =>
      simp only [escT, List.nil_append, List.cons.injEq, Prod.mk.injEq] at h
      obtain ⟨⟨rfl, rfl⟩, _⟩ := h
      rw [Str.length_append, bs_len, one_len]; simp [lens]; omega
    | cons p q =>
      simp only [escT, List.cons_append, List.cons.injEq] at h
      obtain ⟨rfl, h⟩ := h
      have := escT_at r (i + 1) false (fun z => nomatch z) q j u post h
      rw [lens_cons]
      simp only [Str.length_append, bs_len, one_len]
      simp at this ⊢; omega
  | c :: r, i, false, _, pre, j, u, post, h => by
    by_cases hc : c = 92
    · simp only [escT, hc, if_true] at h
      have := escT_at r (i + 1) true (fun _ => Nat.succ_le_succ (Nat.zero_le _)) pre j u post h
      simp at this ⊢; omega
    · simp only [escT, hc, if_false] at h
      cases pre with
      | nil =>
        simp only [List.nil_append, List.cons.injEq, Prod.mk.injEq] at h
        obtain ⟨⟨rfl, rfl⟩, _⟩ := h
        rw [one_len]; simp [lens]
      | cons p q =>
        simp only [List.cons_append, List.cons.injEq] at h
        obtain ⟨rfl, h⟩ := h
        have := escT_at r (i + 1) false (fun z => nomatch z) q j u post h
        rw [lens_cons]
        simp only [one_len]
        simp at this ⊢; omega
def unesc (a : Str) : Str := Txt.replace (Txt.replace (Txt.replace a (Str.ofString "&lt;") (Str.ofString "<")) (Str.ofString "&gt;") (Str.ofString ">")) (Str.ofString "&amp;") (Str.ofString "&")
theorem strsAre_at : ∀ {us : List Value} {ts : List Str} {i : Nat} {v : Value}, StrsAre us ts → us[i]? = some v → ∃ a t, v = .str a t ∧ a ∈ ts
  | _, _, i, v, .nil, h => by simp at h
  | _, _, 0, v, .cons y t r, h => by simp at h; exact ⟨_, _, h.symm, .head _⟩
  | _, _, i + 1, v, .cons y t r, h => by
    obtain ⟨a, t, e, m⟩ := strsAre_at (i := i) r (by simpa using h)
    exact ⟨a, t, e, .tail _ m⟩
theorem unesc_b1 (a : Str) (h : a.length ≤ 4000) : (Txt.replace a (Str.ofString "&lt;") (Str.ofString "<")).length ≤ 1048576 := Nat.le_trans (replace_le (by decide +kernel) (by decide +kernel)) (by omega)
theorem unesc_b2 (a : Str) (h : a.length ≤ 4000) : (Txt.replace (Txt.replace a (Str.ofString "&lt;") (Str.ofString "<")) (Str.ofString "&gt;") (Str.ofString ">")).length ≤ 1048576 :=
  Nat.le_trans (replace_le (by decide +kernel) (by decide +kernel)) (Nat.le_trans (replace_le (by decide +kernel) (by decide +kernel)) (by omega))
theorem paired_unesc : ∀ {us : List Value} {ts : List Str} {ys : List Value}, StrsAre us ts → Paired (fun v y => ∃ a t u, v = .str a t ∧ y = .str (unesc a) u) us ys → StrsAre ys (ts.map unesc)
  | _, _, _, .nil, .nil => .nil
  | _, _, _, .cons y t r, .cons hh q => by
    obtain ⟨a, t', u, e1, rfl⟩ := hh
    cases e1
    exact .cons _ _ (paired_unesc r q)
theorem newsD {h₀ h h' : Heap} {L D : Addr} {m : Str → Option Value} {news : List (Addr × Obj)} {o : Obj} (F : Fr h₀ L h m) (N : News h₀ L h news) (hk : ∀ b o, h.get? b = some o → h'.get? b = some o) (hD : h.get? D = none) (ho : h'.get? D = some o) :
    News h₀ L h' ((D, o) :: news) := by
  obtain ⟨oL, _, _, hL, _⟩ := F.ns
  intro p hp
  rcases List.mem_cons.mp hp with rfl | hp
  · refine ⟨ho, ?_, ?_⟩
    · rintro rfl; rw [hD] at hL; cases hL
    · cases e : h₀.get? D with
      | none => rfl
      | some x => have := F.keep _ _ e; rw [hD] at this; cases this
  · exact N.keepsAll hk p hp
/-- the list's own end of a call -/
abbrev LRet (h₀ : Heap) (L : Addr) (m : Str → Option Value) (news : List (Addr × Obj)) (s : Shared) (Q : Value → Shared → Prop) (ts : List Str) : Prop :=
  ∀ (D : Addr) (vs : Array Value) (n : Nat) (h' : Heap) (tk' : Nat) (gens' : Array GenState), (AllBare s.gens → AllBare gens') → StrsAre vs.toList ts → (∀ p ∈ news, p.1 ≠ D) → Fr h₀ L h' m → News h₀ L h' ((D, listOf vs n) :: news) → Q (.ref D) ⟨h', gens', s.drawn, tk', s.os⟩
def peelF (x : Str) : List Str := ((escT x.cps.toList 0 false).foldl peelStep (false, [])).2.map unesc
theorem peeled_C (w : World) (x : Str) (tx : Tok) (mean : ExcName → Option Value) (mg mb : Str → Option Value) (news : List (Addr × Obj)) (dp un : Nat) (gd : Option (List Code)) (cn : Str) (cs : Scope) (a : Addr) (ccd : Value) (cl : List (Str × Addr)) (outer : List Env) (A₀ : Around) (base h₀ : Heap) (L : Addr) (m : Str → Option Value) (s : Shared) (Q E : Value → Shared → Prop)
    (hB : Below A₀ base outer h₀) (hF : Fr h₀ L s.heap m) (hX : (Mine.hd.heap_1 w.params).In h₀) (hN : News h₀ L s.heap news) (hT : Top Mine.view LO mean mg mb h₀) (hcs : cs.kind = .function) (hpre : x.length ≤ 4000) (hdp : dp + 5 < recursionLimit) (hun : un + 8 * 5 < cLine) (htk : 1 ≤ s.toks)
    (hret : LRet h₀ L m news s Q (peelF x)) : wpAny (model PySem.Challenge.rw_uq0033_01.row.prog w) (ktrTop dp un gd cn cs L a ccd cl outer) (call (.ref 384) [.str x tx]) Q E s := by
  w_top off
  k_with_none
  (k_with "execs cons" => (refine execs_consP (by first | assumption | omega | (dsimp only; omega) | (dsimp only; assumption)) ?_; (try dsimp only)))
  (k_with "execs cons" => ((fail_if_success (fail_if_success k_gentoks)); k_here; (refine gen_toks (by first | assumption | omega) ?_); intro _ _))
  (k_with "execs nil" => ((fail_if_success (fail_if_success k_gentoks)); k_here; (refine gen_toks (by first | assumption | omega) ?_); intro _ _))
  (k_with "subscriptTail" => (k_here; (with_reducible show wpAny _ _ (subscriptTail _ _ (Value.ref _) (Value.int _ _)) _ _ _); k_dflt (refine' last_sub (by k_asm) (by k_mem) (by assumption) (by assumption) ?_ (by with_unfolding_all rfl); k_whole)))
  (k_with "setItem ref int" => (k_here; (with_reducible show wpAny _ _ (setItem (Value.ref _) (Value.int _ _) (Value.str _ _)) _ _ _); k_dflt (refine' last_set (by k_asm) (by k_asm) (by k_upd) (by assumption) ?_; k_whole); intro _ _ _; (try k_sweep)))
  (k_with "call builtin:str.replace" => ((try dsimp only [List.cons_append, List.nil_append]); (refine' replaceP (by ((try dsimp only); omega)) (by show @Ne Nat _ _; omega) (by show @Ne Nat _ _; omega) (by show @Ne Nat _ _; omega) (by decide +kernel) (by omega) (by decide +kernel) ?_); intro _ _ _))
  dsimp only [LRet] at hret
  refine wpAny_call ?_
  k_dflt cell_enter
  all_goals k_steps
  rename Frag.In _ _ => X'
  rename Top _ _ _ _ _ _ => T'
  rename_i l a1 l1 a2 a3 a4 a5 a6 a7 a8 F' N' a9
  refine wpAny_For ?_
  walk1
  walk1
  walk1
  walk1
  walk1
  walk1
  walk1
  refine iter_call F' N' X' T' rfl ?_ ?_
  · ktr_room
  intro h₁ tk₁ gs Fp G F₁ N₁ GA
  refine wpAny_pyIter_gen GA.gen ?_
  refine gen_loopC (fun pre m₁ nx => ∃ (ins : Bool) (ts : List Str) (vs : Array Value) (n : Nat) (tr : Tok), pre.foldl peelStep (false, []) = (ins, ts) ∧ nx = (l, listOf vs n) :: news ∧ (StrsAre vs.toList ts ∧ ts.length ≤ pre.length ∧ (∀ y ∈ ts, y.length ≤ pre.length) ∧ (ins = true → ts ≠ [])) ∧
    m₁ (Str.ofString "texts") = some (.ref l) ∧ m₁ (Str.ofString "inside") = some (.bool ins) ∧ ∃ rr : Nat, lens pre = rr ∧ m₁ (Str.ofString "reach") = some (.int (rr : Int) tr)) rfl T'.nolimit ?_ rfl rfl rfl rfl rfl GA F₁ N₁ ?_ ?_ ?_
  · ktr_room
  · exact ⟨false, [], #[], 0, _, rfl, rfl, ⟨.nil, Nat.le_refl _, by simp, fun z => nomatch z⟩, rfl, rfl, 0, rfl, rfl⟩
  · rintro pre i u post m₁ _ h tk t tu gens own htoks hoff hbare hadr ⟨ins, ts, vs, n, tr, hrun, rfl, ⟨hvs, hvl, hty, hne'⟩, q1, q2, _, rfl, q3⟩ F N
    rw [← kstB_self (m := m₁) (ps := [(Str.ofString "texts", .ref l), (Str.ofString "inside", .bool ins), (Str.ofString "reach", .int ((lens pre : Nat) : Int) tr)]) (by simp [q1, q2, q3])] at F
    rw [List.cons_append] at N
    have hne : ∀ p ∈ news ++ own, p.1 ≠ l := fun p hp => (List.mem_append.mp hp).elim (fun h => Nat.ne_of_lt (l1 p h)) fun h => hoff p h l (by simp)
    have hsz : vs.size ≤ sizeLine := by
      have z1 := strsAre_len hvs
      have z2 := escT_len x.cps.toList 0 false
      rw [htoks] at z2
      have z3 : x.cps.toList.length = x.length := by simp [Str.length]
      rw [sizeLine_eq]
      rw [Array.length_toList] at z1
      simp at z2
      simp at z3
      omega
    have snoc : (pre ++ [(i, u)]).foldl peelStep (false, []) = peelStep (ins, ts) (i, u) := by rw [List.foldl_append, hrun]; rfl
    have hlen : i + 1 = lens pre + u.length := by have := escT_at x.cps.toList 0 false (fun z => nomatch z) pre i u post htoks; simpa using this
    have hul := escT_tok x.cps.toList 0 false (i, u) (by rw [htoks]; simp)
    replace hul : 1 ≤ u.length ∧ u.length ≤ 2 := hul
    obtain ⟨hul1, hul2⟩ := hul
    cases ins with
    | false =>
      k_steps
      · exfalso; omega
      · rename Fr _ _ _ _ => F8
        rename News _ _ _ _ => N8
        have hu : u = qt := eq_of_beq (by assumption)
        refine invEnd1 F8 N8 ⟨true, ts ++ [Str.ofString ""], _, _, _, by rw [snoc]; simp [peelStep, hu], rfl, ⟨by rw [Array.toList_push]; exact StrsAre.append' hvs (.cons _ _ .nil), by simp; omega, ?_, fun _ => by simp⟩, rfl, rfl, lens pre + u.length, lens_snoc _ _, rfl⟩ hadr
        · intro z hz
          rcases List.mem_append.mp hz with hz | hz
          · have := hty z hz; simp; omega
          · rw [List.mem_singleton.mp hz]
            have e0 : (Str.ofString "").length = 0 := by decide +kernel
            rw [e0]; exact Nat.zero_le _
      · rename Fr _ _ _ _ => F8
        rename News _ _ _ _ => N8
        have hu : ¬ u = qt := ne_of_beq_false (by assumption)
        refine invEnd1 F8 N8 ⟨false, ts, _, _, _, by rw [snoc]; simp [peelStep, hu], rfl, ⟨hvs, by simp; omega, fun z hz => by have := hty z hz; simp; omega, fun z => nomatch z⟩, rfl, rfl, lens pre + u.length, lens_snoc _ _, rfl⟩ hadr
    | true =>
      obtain ⟨ui, y, ty, ti, hu1, hu2, hu3⟩ := strsAre_last hvs (hne' rfl)
      have hvs0 : 0 < vs.size := by have := congrArg List.length hu1; simp at this; omega
      have hsz1 : vs.size - 1 = ui.length := by have := congrArg List.length hu1; simp at this; omega
      have hvsl : vs[vs.size - 1]? = some (.str y ty) := by
        have : vs.toList[vs.size - 1]? = some (.str y ty) := by rw [hu1, hsz1]; simp
        simpa using this
      have hpl : pre.length ≤ 4000 := by
        have z2 := escT_len x.cps.toList 0 false
        rw [htoks] at z2
        have z3 : x.cps.toList.length = x.length := by simp [Str.length]
        simp at z2
        simp at z3
        omega
      have hyl : y.length ≤ 4000 := Nat.le_trans (hty y (by rw [hu2]; simp)) hpl
      have hyp : y.length ≤ pre.length := hty y (by rw [hu2]; simp)
      k_steps
      · exfalso; omega
      · rename Fr _ _ _ _ => F8
        rename News _ _ _ _ => N8
        have hu : u = qt := eq_of_beq (by assumption)
        refine invEnd1 F8 N8 ⟨false, ts, _, _, _, by rw [snoc]; simp [peelStep, hu], rfl, ⟨hvs, by simp; omega, fun z hz => by have := hty z hz; simp; omega, fun z => nomatch z⟩, rfl, rfl, lens pre + u.length, lens_snoc _ _, rfl⟩ hadr
      · rename Fr _ _ _ _ => F8
        rename News _ _ _ _ => N8
        have hu : ¬ u = qt := ne_of_beq_false (by assumption)
        have hit : (Txt.item u (-1)).length = 1 := rfl
        refine invEnd1 F8 N8 ⟨true, ti ++ [y ++ Txt.item u (-1)], _, _, _, by rw [snoc]; simp [peelStep, hu, hu2], rfl, ⟨?_, ?_, ?_, fun _ => by simp⟩, rfl, rfl, lens pre + u.length, lens_snoc _ _, rfl⟩ hadr
        · have e : ∀ v, (vs.setIfInBounds (vs.size - 1) v).toList = ui ++ [v] := fun v => by
            rw [Array.toList_setIfInBounds, hu1, hsz1]; simp
          rw [e]
          exact StrsAre.append' hu3 (.cons _ _ .nil)
        · rw [hu2] at hvl; simp at hvl ⊢; omega
        · intro z hz
          rcases List.mem_append.mp hz with hz | hz
          · have := hty z (by rw [hu2]; exact List.mem_append_left _ hz); simp; omega
          · rw [List.mem_singleton.mp hz, Str.length_append, hit]; simp; omega
  · rintro m₁ _ h tk gens hadr ⟨ins, ts, vs, n, tr, hrun, rfl, ⟨hvs, hvl, hty, hne'⟩, q1, q2, _, rfl, q3⟩ hbare F N
    rw [← kstB_self (m := m₁) (ps := [(Str.ofString "texts", .ref l), (Str.ofString "inside", .bool ins)]) (by simp [q1, q2, q3])] at F
    have hne : ∀ p ∈ news, p.1 ≠ l := fun p hp => Nat.ne_of_lt (l1 p hp)
    dsimp only
    intro hp9
    walk1
    walk1
    refine wpAny_ListComp_free (fun _ => true) (fun v y => ∃ a t u, v = .str a t ∧ y = .str (unesc a) u) (by with_unfolding_all rfl) (by decide) (by rfl) (by decide) (by rfl) ?_
    walk1
    rename Fr _ _ _ _ => F8
    rename News _ _ _ _ => N8
    have hl := N8.isList (a := l) (.head _)
    have hlt : l < _ := let ⟨_, ho, _⟩ := hl; Heap.lt_size ho
    refine wpAny_pyIter_list hl ?_
    refine ⟨_, _, _, _, _, _, rfl, Walks.list rfl _ l (Nat.ne_of_lt hlt) vs, ?_, ⟨⟨_, Heap.get?_push_size _ rfl, rfl, rfl⟩, hl.push _⟩, ?_, ?_, ?_⟩
    · have z1 := strsAre_len hvs
      have z2 := escT_len x.cps.toList 0 false
      have z3 : x.cps.toList.length = x.length := by simp [Str.length]
      simp only [Bool.false_eq_true, if_false, Nat.add_zero, z3] at z2
      rw [sizeLine_eq]
      rw [Array.length_toList] at z1
      omega
    · intro b hb
      show b < (Heap.push _ _).objs.size
      rw [Heap.size_push]
      rcases List.mem_cons.mp hb with rfl | hb
      · exact Nat.lt_succ_self _
      · rw [List.mem_singleton.mp hb]; exact Nat.lt_succ_of_lt hlt
    · refine ⟨fun C i v s₃ m₃ E' _ _ _ _ _ _ => wpAny_pure ⟨rfl, _, _, rfl, fun _ _ e => e⟩, fun C i v s₃ m₃ E' hC hv _ hn hm hk htk' => ?_⟩
      have hwa : ∃ a t, v = .str a t ∧ a ∈ ts := strsAre_at hvs (by simpa using hv)
      obtain ⟨a, t, rfl, hat⟩ := hwa
      have hal : a.length ≤ 4000 := by
        have z1 := hty a hat
        have z2 := escT_len x.cps.toList 0 false
        have z3 : x.cps.toList.length = x.length := by simp [Str.length]
        simp only [Bool.false_eq_true, if_false, Nat.add_zero, z3] at z2
        omega
      have hp3 : 1 ≤ s₃.toks := Nat.le_trans hp9 htk'
      have hb1 := unesc_b1 a hal
      have hb2 := unesc_b2 a hal
      walk1
      walk1
      walk1
      refine wpAny_Name (wpAny_loadName_local (env := compEnvC _ _ C (envOf _ _ _ _ _)) (by rfl) (by rfl) hn hm ?_) (by decide +kernel)
      walk1
      walk1
      walk1
      walk1
      walk1
      walk1
      walk1
      walk_at "call builtin:str.replace"
      walk1
      walk1
      walk1
      walk1
      walk1
      walk1
      walk1
      walk_at "call builtin:str.replace"
      walk1
      walk1
      walk1
      walk1
      walk1
      walk1
      walk1
      walk_at "call builtin:str.replace"
      exact ⟨⟨a, t, _, rfl, rfl⟩, _, _, rfl, fun _ _ e => e⟩
    · intro D h' tk' ys vs' hD hlD hplD hlen hP hPair hkeep
      have hk : ∀ b o, h.get? b = some o → h'.get? b = some o := fun b o e => hkeep b o (by intro hm; rw [List.mem_singleton.mp hm] at e; exact absurd (Heap.lt_size e) (Nat.lt_irrefl _)) (Heap.get?_push_of_some _ e)
      have hvs' : vs' = vs.toList := by
        apply List.ext_getElem?
        intro j
        cases e : vs'[j]? with
        | some v => have := hP j v e; simpa using this.symm
        | none =>
          have h1 : vs'.length ≤ j := List.getElem?_eq_none_iff.mp e
          rw [hlen] at h1
          symm
          rw [List.getElem?_eq_none_iff]
          simpa using h1
      have hts : StrsAre ys.toList (ts.map unesc) := by
        rw [hvs', List.filter_eq_self.mpr (fun _ _ => rfl)] at hPair
        exact paired_unesc hvs hPair
      have hD0 : h.get? D = none := by
        cases e : h.get? D with
        | none => rfl
        | some o =>
          have e2 := Heap.get?_push_of_some { cls := Value.type "list_iterator", data := Data.fields #[Value.ref l, Value.int 0 0] } e
          rw [hD] at e2
          cases e2
      obtain ⟨nn, hDo⟩ := hplD
      have F9 := F8.keeps hk
      have N9 := newsD F8 N8 hk hD0 hDo
      have N8' := fun p hp => N8 p hp
      clear F8 N8
      intro hp8
      dsimp only
      k_steps
      have hts' : StrsAre ys.toList (peelF x) := by unfold peelF; rw [hrun]; exact hts
      have hne9 : ∀ p ∈ news, p.1 ≠ D := fun p hp e => by have := (N8' p (List.mem_cons_of_mem _ hp)).1; rw [e, hD0] at this; cases this
      rename Fr _ _ _ _ => kF
      rename News _ _ _ _ => kN
      exact hret D ys nn _ _ _ hbare hts' hne9 kF fun p hp => kN p ((List.mem_cons.mp hp).elim (fun e => e ▸ .head _) fun hm => .tail _ (.tail _ hm))
end Mine
end

section
open PySem PySem.W PyProof.Rows PySem.Calls PySem.Spec
set_option Elab.async false
set_option maxRecDepth 100000
namespace Mine
/-- as GRet, the generators' row untouched -/
abbrev GRet0 (h₀ : Heap) (L : Addr) (m : Str → Option Value) (news : List (Addr × Obj)) (s : Shared) (Q : Value → Shared → Prop) (R : Tok → Value) : Prop :=
  ∀ (t : Tok) (h' : Heap) (tk' : Nat), Fr h₀ L h' m → News h₀ L h' news → Q (R t) ⟨h', s.gens, s.drawn, tk', s.os⟩
abbrev Claim0 (w : World) (f : Addr) (bud : Nat) (pre : Prop) (vs : List Value) (R : Tok → Value) : Prop :=
  ∀ (mean : ExcName → Option Value) (mg mb : Str → Option Value) (news : List (Addr × Obj)) (dp un : Nat) (gd : Option (List Code)) (cn : Str) (cs : Scope) (a : Addr) (ccd : Value) (cl : List (Str × Addr)) (outer : List Env) (A₀ : Around) (base h₀ : Heap) (L : Addr) (m : Str → Option Value) (s : Shared) (Q E : Value → Shared → Prop),
    Below A₀ base outer h₀ → Fr h₀ L s.heap m → (Mine.hd.heap_1 w.params).In h₀ → News h₀ L s.heap news → Top Mine.view LO mean mg mb h₀ → cs.kind = .function → pre → dp + bud < recursionLimit → un + 8 * bud < cLine → GRet0 h₀ L m news s Q R →
      wpAny (model PySem.Challenge.rw_uq0033_01.row.prog w) (ktrTop dp un gd cn cs L a ccd cl outer) (call (.ref f) vs) Q E s
section
variable {prog : Program} {w : World} {A : Around} {E : Value → Shared → Prop} {s : Shared} {env : Env} {h₀ : Heap} {x : Str} {body : List Stmt} {Q : Flow → Shared → Prop}
/-- the loop over a text's signs -/
theorem str_loop {xt : Str} {tx : Tok} {m₀ : Str → Option Value} {news : List (Addr × Obj)} (J : List Nat → (Str → Option Value) → List (Addr × Obj) → Prop)
    (hh : A.handled = none) (F : Fr h₀ env.locals s.heap m₀) (N : News h₀ env.locals s.heap news) (hj : J [] m₀ news)
    (turn : ∀ pre c post m₁ nx h tk t own, xt.cps.toList = pre ++ c :: post → nx.map (·.1) = news.map (·.1) → OwnOff own (news.map (·.1)) → J pre m₁ nx →
      Fr h₀ env.locals h (fun y => if y = x then some (.str ⟨#[c]⟩ t) else m₁ y) → News h₀ env.locals h (nx ++ own) →
      wpAny (model prog w) A (execs body env) (InvPostN h₀ env.locals (J (pre ++ [c])) own (news.map (·.1)) { s with heap := h, toks := tk } Q) E { s with heap := h, toks := tk })
    (done : ∀ m₁ nx h tk, J xt.cps.toList m₁ nx → Fr h₀ env.locals h m₁ → News h₀ env.locals h nx → Q .next { s with heap := h, toks := tk }) :
    wpAny (model prog w) A (pyIter (.str xt tx)) (fun it s₂ => LoopAtV prog w A h₀ env x body Q E it s₂) E s := by
  refine wpAny_pyIter_str fun o St hW hst => ?_
  have W := hW A hh
  refine loop_invN (fun i m nx => J (xt.cps.toList.take i) m nx) W ?_ ?_ ?_ ?_ hst (F.push _) (fun p hp => ⟨Heap.get?_push_of_some _ (N p hp).1, (N p hp).2⟩) hj ?_ ?_
  · intro hm
    exact absurd F.ns.lt ((List.mem_singleton.mp hm) ▸ Nat.lt_irrefl _)
  · intro b' hb
    rw [List.mem_singleton.mp hb]
    exact next_is_new F
  · intro p hp hI
    exact absurd (Heap.lt_size (N p hp).1) ((List.mem_singleton.mp hI) ▸ Nat.lt_irrefl _)
  · intro p hp hI
    exact absurd (Heap.lt_size (N p hp).1) ((List.mem_singleton.mp hI) ▸ Nat.lt_irrefl _)
  · rintro i v m₁ nx h tk own hi ⟨n, u, hn, rfl⟩ hadr hoff hj' F₁ N₁
    have hn' : xt.cps.toList[i]? = some n := by simpa using hn
    have hs : xt.cps.toList.take (i + 1) = xt.cps.toList.take i ++ [n] := by simp [List.take_add_one, hn']
    have e : xt.cps.toList = xt.cps.toList.take i ++ n :: xt.cps.toList.drop (i + 1) := by
      have ht := List.take_append_drop (i + 1) xt.cps.toList
      rw [hs, List.append_assoc] at ht
      exact ht.symm
    rw [hs]
    exact turn _ n _ m₁ nx h tk u own e hadr hoff hj' F₁ N₁
  · rintro m₁ nx h tk hj' F₁ N₁
    have hl : xt.cps.size = xt.cps.toList.length := by simp
    rw [hl, List.take_length] at hj'
    exact done m₁ nx h tk hj' F₁ N₁
end
end Mine
end

section
open PySem PySem.W PyProof.Rows PySem.Calls PySem.Spec
set_option Elab.async false
set_option maxRecDepth 100000
set_option maxHeartbeats 8000000
namespace Mine
/-- one sign of _law_spelled -/
def spellStep (q k : Nat) (told : Str) (c : Nat) : Str :=
  if c = 92 then told ++ Txt.mul (Str.ofString "\\") (2 ^ ((q : Int)).toNat)
  else if c = 34 then told ++ Txt.mul (Str.ofString "\\") (2 ^ ((q : Int)).toNat - 1) ++ ⟨#[c]⟩
  else if (c = 38 ∨ c = 60 ∨ c = 62) ∧ 0 < k then told ++ Str.ofString "&" ++ Txt.mul (Str.ofString "amp;") ((k : Int) - 1) ++ (if c = 38 then Str.ofString "amp;" else if c = 60 then Str.ofString "lt;" else Str.ofString "gt;")
  else told ++ ⟨#[c]⟩
def spellL (q k : Nat) (l : List Nat) : Str := l.foldl (spellStep q k) (Str.ofString "")
def spell (q k : Nat) (x : Str) : Str := spellL q k x.cps.toList
theorem bs92 : Str.ofString "\\" = (⟨#[92]⟩ : Str) := by decide +kernel
theorem qt34 : Str.ofString "\"" = (⟨#[34]⟩ : Str) := by decide +kernel
theorem one_inj {a b : Nat} (h : (⟨#[a]⟩ : Str) = ⟨#[b]⟩) : a = b := by simpa using h
theorem sign_bs {c : Nat} (h : ((⟨#[c]⟩ : Str) == Str.ofString "\\") = true) : c = 92 := one_inj ((eq_of_beq h).trans bs92)
theorem sign_nbs {c : Nat} (h : ((⟨#[c]⟩ : Str) == Str.ofString "\\") = false) : ¬ c = 92 := fun e => by subst e; rw [bs92] at h; simp at h
theorem sign_qt {c : Nat} (h : ((⟨#[c]⟩ : Str) == Str.ofString "\"") = true) : c = 34 := one_inj ((eq_of_beq h).trans qt34)
theorem sign_nqt {c : Nat} (h : ((⟨#[c]⟩ : Str) == Str.ofString "\"") = false) : ¬ c = 34 := fun e => by subst e; rw [qt34] at h; simp at h
theorem amps_list : (Str.ofString "&<>").cps.toList = [38, 60, 62] := by decide +kernel
theorem sign_in {c : Nat} (h : (Builtin.Str.occurrences (Str.ofString "&<>") ⟨#[c]⟩ 0 (Str.ofString "&<>").length 1).isEmpty = false) : c = 38 ∨ c = 60 ∨ c = 62 := by
  have := StrLaws.found_one (Str.ofString "&<>") c
  rw [h, amps_list] at this
  simpa using this.symm
theorem sign_nin {c : Nat} (h : (Builtin.Str.occurrences (Str.ofString "&<>") ⟨#[c]⟩ 0 (Str.ofString "&<>").length 1).isEmpty = true) : ¬ (c = 38 ∨ c = 60 ∨ c = 62) := by
  have := StrLaws.found_one (Str.ofString "&<>") c
  rw [h, amps_list] at this
  simpa using this.symm
theorem pow_le {q : Nat} (hq : q ≤ 4) : 1 ≤ (2 : Int) ^ ((q : Int)).toNat ∧ (2 : Int) ^ ((q : Int)).toNat ≤ 16 := by
  have : q = 0 ∨ q = 1 ∨ q = 2 ∨ q = 3 ∨ q = 4 := by omega
  rcases this with rfl | rfl | rfl | rfl | rfl <;> decide
theorem amp_len : (Str.ofString "amp;").length = 4 := by decide +kernel
theorem spell_len1 (q k : Nat) (hq : q ≤ 4) (hk : k ≤ 4) (told : Str) (c : Nat) : (spellStep q k told c).length ≤ told.length + 32 := by
  obtain ⟨p1, p2⟩ := pow_le hq
  have b1 : (Str.ofString "\\").length ≤ 1 := by decide +kernel
  have e1 : (⟨#[c]⟩ : Str).length = 1 := rfl
  have e2 : (Str.ofString "&").length = 1 := by decide +kernel
  have e3 : (Str.ofString "lt;").length = 3 := by decide +kernel
  have e4 : (Str.ofString "gt;").length = 3 := by decide +kernel
  have m1 := len_mul_leN (x := Str.ofString "\\") (n := 2 ^ ((q : Int)).toNat) (L := 1) (N := 16) b1 (by omega)
  have m2 := len_mul_leN (x := Str.ofString "\\") (n := 2 ^ ((q : Int)).toNat - 1) (L := 1) (N := 16) b1 (by omega)
  have m3 := len_mul_leN (x := Str.ofString "amp;") (n := (k : Int) - 1) (L := 4) (N := 3) (by rw [amp_len]; decide) (by omega)
  unfold spellStep
  split
  · rw [Str.length_append]; omega
  · split
    · rw [Str.length_append, Str.length_append]; omega
    · split
      · rw [Str.length_append, Str.length_append, Str.length_append]
        have : (if c = 38 then Str.ofString "amp;" else if c = 60 then Str.ofString "lt;" else Str.ofString "gt;").length ≤ 4 := by
          split
          · rw [amp_len]; decide
          · split
            · rw [e3]; decide
            · rw [e4]; decide
        omega
      · rw [Str.length_append]; omega
theorem spell_len (q k : Nat) (hq : q ≤ 4) (hk : k ≤ 4) : ∀ (l : List Nat) (a : Str), (l.foldl (spellStep q k) a).length ≤ a.length + 32 * l.length
  | [], a => by simp
  | c :: r, a => by
    have h1 := spell_len q k hq hk r (spellStep q k a c)
    have h2 := spell_len1 q k hq hk a c
    simp only [List.foldl_cons, List.length_cons]
    omega
theorem spellL_len (q k : Nat) (hq : q ≤ 4) (hk : k ≤ 4) (l : List Nat) : (spellL q k l).length ≤ 32 * l.length := by
  have := spell_len q k hq hk l (Str.ofString "")
  have e : (Str.ofString "").length = 0 := by decide +kernel
  unfold spellL
  omega
theorem spellL_snoc (q k : Nat) (l : List Nat) (c : Nat) : spellL q k (l ++ [c]) = spellStep q k (spellL q k l) c := by simp [spellL]
theorem getItem_strEq {M : Model} {A : Around} {E : Value → Shared → Prop} {s : Shared} {o : Value} {x y : Str} {t : Tok} {Q : Value → Shared → Prop} (h : x = y) (H : wpAny M A (getItem o (.str y t)) Q E s) : wpAny M A (getItem o (.str x t)) Q E s := by subst h; exact H
theorem k38 : (⟨#[38]⟩ : Str) = Str.ofString "&" := by decide +kernel
theorem k60 : (⟨#[60]⟩ : Str) = Str.ofString "<" := by decide +kernel
theorem k62 : (⟨#[62]⟩ : Str) = Str.ofString ">" := by decide +kernel
theorem one_of {c d : Nat} {y : Str} (h : c = d) (e : (⟨#[d]⟩ : Str) = y) : (⟨#[c]⟩ : Str) = y := by rw [h]; exact e
theorem amps_le (c : Nat) : (if c = 38 then Str.ofString "amp;" else if c = 60 then Str.ofString "lt;" else Str.ofString "gt;").length ≤ 4 := by
  have e3 : (Str.ofString "lt;").length = 3 := by decide +kernel
  have e4 : (Str.ofString "gt;").length = 3 := by decide +kernel
  split
  · rw [amp_len]; decide
  · split
    · rw [e3]; decide
    · rw [e4]; decide
theorem valueAt3 {va vb vc : Value} {c : Nat} (hc : c = 38 ∨ c = 60 ∨ c = 62) : valueAt [(Str.ofString "&", va), (Str.ofString "<", vb), (Str.ofString ">", vc)] (⟨#[c]⟩ : Str) = some (if c = 38 then va else if c = 60 then vb else vc) := by
  rw [← k38, ← k60, ← k62]
  rcases hc with rfl | rfl | rfl <;> simp [valueAt]
theorem dict3 {prog : Program} {w : World} {A : Around} {E : Value → Shared → Prop} {s : Shared} {d : Addr} {kvs : List (Str × Value)} {v : Value} {c : Nat} {t : Tok} {Q : Value → Shared → Prop} (hm : s.heap.DictOf (strKind prog w) d kvs)
    (hv : valueAt kvs (⟨#[c]⟩ : Str) = some v) (hs : ∃ t', v = .str (if c = 38 then Str.ofString "amp;" else if c = 60 then Str.ofString "lt;" else Str.ofString "gt;") t')
    (hQ : ∀ (t' : Tok) (z : Str), (if c = 38 then Str.ofString "amp;" else if c = 60 then Str.ofString "lt;" else Str.ofString "gt;") = z → z.length ≤ 4 → Q (.str z t') { s with toks := s.toks + 1 }) :
    wpAny (model prog w) A (getItem (.ref d) (.str ⟨#[c]⟩ t)) Q E s := by
  obtain ⟨t', rfl⟩ := hs
  exact wpAny_getItem_of (strKind_is _ _ _ _) hm.mapOf hv (hQ t' _ rfl (amps_le c))
theorem ite3 {c : Nat} {ua ub uc : Tok} (hc : c = 38 ∨ c = 60 ∨ c = 62) : ∃ t', (if c = 38 then Value.str (Str.ofString "amp;") ua else if c = 60 then Value.str (Str.ofString "lt;") ub else Value.str (Str.ofString "gt;") uc) = .str (if c = 38 then Str.ofString "amp;" else if c = 60 then Str.ofString "lt;" else Str.ofString "gt;") t' := by
  rcases hc with rfl | rfl | rfl
  · exact ⟨ua, rfl⟩
  · exact ⟨ub, rfl⟩
  · exact ⟨uc, rfl⟩
theorem spell_amp {q k c : Nat} {a z : Str} (h1 : ¬ c = 92) (h2 : ¬ c = 34) (h3 : c = 38 ∨ c = 60 ∨ c = 62) (hk : 0 < k) (hz : (if c = 38 then Str.ofString "amp;" else if c = 60 then Str.ofString "lt;" else Str.ofString "gt;") = z) :
    spellStep q k a c = a ++ Str.ofString "&" ++ Txt.mul (Str.ofString "amp;") ((k : Int) - 1) ++ z := by
  unfold spellStep
  rw [if_neg h1, if_neg h2, if_pos ⟨h3, hk⟩, hz]
structure Hid (p : Prop) : Prop where
  get : p
end Mine
end

section
open PySem PySem.W PyProof.Rows PySem.Calls PySem.Spec
set_option Elab.async false
set_option maxRecDepth 100000
set_option maxHeartbeats 8000000
namespace Mine
theorem spell_C (w : World) (x : Str) (q k : Nat) (tx tq tw : Tok) : Claim0 w 358 3 (x.length ≤ 200 ∧ q ≤ 4 ∧ k ≤ 4) [.str x tx, .int (q : Int) tq, .int (k : Int) tw] (fun t => .str (spell q k x) t) := by
  w_top off
  k_with_none
  dsimp only [Claim0, GRet0]
  intro mean mg mb news dp un gd cn cs a ccd cl outer A₀ base h₀ L m s Q E hB hF hX hN hT hcs hpre hdp hun hret
  obtain ⟨hx, hq, hk⟩ := hpre
  refine wpAny_call ?_
  k_dflt cell_enter
  walk1
  walk1
  walk1
  walk1
  walk1
  walk1
  rename Fr _ _ _ _ => F'
  rename News _ _ _ _ => N'
  with_unfolding_all refine For_invVF F' (by rfl) (by rfl) ?_
  walk1
  refine str_loop (fun pre m₁ nx => nx = news ∧ ∃ t, m₁ (Str.ofString "told") = some (.str (spellL q k pre) t) ∧ m₁ (Str.ofString "quoted") = some (.int (q : Int) tq) ∧ m₁ (Str.ofString "written") = some (.int (k : Int) tw)) rfl F' N' ?_ ?_ ?_
  · exact ⟨rfl, _, rfl, rfl, rfl⟩
  · rintro pre c post m₁ _ h tk9 t own htoks hadr hoff ⟨rfl, t1, q1, q2, q3⟩ F N
    rw [← kstB_self (m := m₁) (ps := [(Str.ofString "told", .str (spellL q k pre) t1), (Str.ofString "quoted", .int (q : Int) tq), (Str.ofString "written", .int (k : Int) tw)]) (by simp [q1, q2, q3])] at F
    have hlen : (spellL q k pre).length ≤ 32 * pre.length := spellL_len q k hq hk pre
    have hpl : pre.length ≤ 200 := by
      have h1 : x.cps.toList.length = x.length := by simp [Str.length]
      rw [htoks] at h1
      simp at h1
      omega
    obtain ⟨p1, p2⟩ := pow_le hq
    have b1 : (Str.ofString "\\").length ≤ 1 := by decide +kernel
    have m1 := len_mul_leN (x := Str.ofString "\\") (n := 2 ^ ((q : Int)).toNat) (L := 1) (N := 16) b1 (by omega)
    have m2 := len_mul_leN (x := Str.ofString "\\") (n := 2 ^ ((q : Int)).toNat - 1) (L := 1) (N := 16) b1 (by omega)
    have m3 := len_mul_leN (x := Str.ofString "amp;") (n := (k : Int) - 1) (L := 4) (N := 3) (by rw [amp_len]; decide) (by omega)
    have o1 : MulOk (Str.ofString "\\") (2 ^ ((q : Int)).toNat) := mulOk_of 1 16 b1 (by omega) (by omega) (by decide) (by decide)
    have o2 : MulOk (Str.ofString "\\") (2 ^ ((q : Int)).toNat - 1) := mulOk_of 1 16 b1 (by omega) (by omega) (by decide) (by decide)
    clear p1 p2
    k_steps
    · rename Fr _ _ _ _ => F8
      rename News _ _ _ _ => N8
      have h1 := sign_bs (by assumption)
      have key : spellL q k (pre ++ [c]) = spellL q k pre ++ Txt.mul (Str.ofString "\\") (2 ^ ((q : Int)).toNat) := by rw [spellL_snoc, spellStep, if_pos h1]
      refine invEnd0 F8 N8 ?_ hadr
      rw [key]
      exact ⟨rfl, _, rfl, rfl, rfl⟩
    · rename Fr _ _ _ _ => F8
      rename News _ _ _ _ => N8
      have h1 := sign_nbs (by assumption)
      have h2 := sign_qt (by assumption)
      have key : spellL q k (pre ++ [c]) = spellL q k pre ++ Txt.mul (Str.ofString "\\") (2 ^ ((q : Int)).toNat - 1) ++ ⟨#[c]⟩ := by rw [spellL_snoc, spellStep, if_neg h1, if_pos h2]
      refine invEnd0 F8 N8 ?_ hadr
      rw [key]
      exact ⟨rfl, _, rfl, rfl, rfl⟩
    · rename Fr _ _ _ _ => F8
      rename News _ _ _ _ => N8
      have h1 := sign_nbs (by assumption)
      have h2 := sign_nqt (by assumption)
      have h3 := sign_nin (by assumption)
      have key : spellL q k (pre ++ [c]) = spellL q k pre ++ ⟨#[c]⟩ := by rw [spellL_snoc, spellStep, if_neg h1, if_neg h2, if_neg (fun z => h3 z.1)]
      refine invEnd0 F8 N8 ?_ hadr
      rw [key]
      exact ⟨rfl, _, rfl, rfl, rfl⟩
    · have h3 := sign_in (by assumption)
      rename News _ _ _ _ => N7
      rename Obj.IsDictOf _ _ _ => D7
      have q := N7 _ (.head _)
      have hm := Heap.dictOf_iff.mpr ⟨_, q.1, D7⟩
      have h1 := sign_nbs (by assumption)
      have h2 := sign_nqt (by assumption)
      have h3' : Hid (c = 38 ∨ c = 60 ∨ c = 62) := ⟨h3⟩
      refine dict3 hm (valueAt3 h3) (ite3 h3) fun t7 z3 hz3 hl3 => ?_
      have hz3' : Hid _ := ⟨hz3⟩
      clear hm q D7 hz3 h3
      walk1
      walk1
      walk1
      walk1
      walk1
      walk1
      walk1
      rename Fr _ _ _ _ => F8
      rename News _ _ _ _ => N8
      have key : spellL q k (pre ++ [c]) = spellL q k pre ++ Str.ofString "&" ++ Txt.mul (Str.ofString "amp;") ((k : Int) - 1) ++ z3 := by
        rw [spellL_snoc]
        exact spell_amp h1 h2 h3'.get (by omega) hz3'.get
      refine invEnd0 F8 (fun p hp => N8 p (.tail _ hp)) ?_ hadr
      rw [key]
      exact ⟨rfl, _, rfl, rfl, rfl⟩
    · rename Fr _ _ _ _ => F8
      rename News _ _ _ _ => N8
      have h1 := sign_nbs (by assumption)
      have h2 := sign_nqt (by assumption)
      have key : spellL q k (pre ++ [c]) = spellL q k pre ++ ⟨#[c]⟩ := by rw [spellL_snoc, spellStep, if_neg h1, if_neg h2, if_neg (fun z => by have := z.2; omega)]
      refine invEnd0 F8 N8 ?_ hadr
      rw [key]
      exact ⟨rfl, _, rfl, rfl, rfl⟩
  · rintro m₁ _ h tk9 ⟨rfl, t1, q1, q2, q3⟩ F N
    rw [← kstB_self (m := m₁) (ps := [(Str.ofString "told", .str (spellL q k x.cps.toList) t1)]) (by simp [q1])] at F
    k_steps
    rename Fr _ _ _ _ => F8
    rename News _ _ _ _ => N8
    exact hret t1 h tk9 F8 N8
end Mine
end

section
open PySem PySem.W PyProof.Rows PySem.Calls PySem.Spec
set_option Elab.async false
set_option maxRecDepth 100000
set_option maxHeartbeats 8000000
namespace Mine
def frameF (name own first second : Str) : Str :=
  let a := Str.ofString "<?" ++ name ++ Str.ofString " " ++ spell 0 1 own ++ Str.ofString "; a-"
  let b := if (first != Str.ofString "") = true then a ++ Str.ofString "=" else a
  let c := b ++ Str.ofString "; q"
  (if (second != Str.ofString "") = true then c ++ Str.ofString "=" else c) ++ Str.ofString "?>\n"
theorem q_eq {Q : Value → Shared → Prop} {y z : Str} {t : Tok} {s : Shared} (h : y = z) (H : Q (.str y t) s) : Q (.str z t) s := by subst h; exact H
theorem frame_eq {x1 x2 x3 x4 : Str} {p r : Bool} (h3 : (x3 != Str.ofString "") = p) (h4 : (x4 != Str.ofString "") = r) : frameF x1 x2 x3 x4 =
  (if r = true then (if p = true then Str.ofString "<?" ++ x1 ++ Str.ofString " " ++ spell 0 1 x2 ++ Str.ofString "; a-" ++ Str.ofString "=" else Str.ofString "<?" ++ x1 ++ Str.ofString " " ++ spell 0 1 x2 ++ Str.ofString "; a-") ++ Str.ofString "; q" ++ Str.ofString "="
   else (if p = true then Str.ofString "<?" ++ x1 ++ Str.ofString " " ++ spell 0 1 x2 ++ Str.ofString "; a-" ++ Str.ofString "=" else Str.ofString "<?" ++ x1 ++ Str.ofString " " ++ spell 0 1 x2 ++ Str.ofString "; a-") ++ Str.ofString "; q") ++ Str.ofString "?>\n" := by
  subst h3; subst h4; rfl
theorem frame_C (w : World) (x1 x2 x3 x4 : Str) (t1 t2 t3 t4 : Tok) : Claim0 w 379 5 (x1.length ≤ 10 ∧ x2.length ≤ 20 ∧ x3.length ≤ 4000 ∧ x4.length ≤ 4000) [.str x1 t1, .str x2 t2, .str x3 t3, .str x4 t4] (fun t => .str (frameF x1 x2 x3 x4) t) := by
  w_top off
  k_with_none
  (k_with "call ref" => ((with_reducible show wpAny _ _ (call (Value.ref 358) _) _ _ _); k_here; k_dflt (refine' spell_C _ _ 0 1 _ _ _ _ _ _ _ _ _ _ _ _ _ _ _ _ _ _ _ _ _ _ _ _ (by k_asm) (by k_asm) (by k_asm) (by k_asm) (by k_asm) (by exact rfl) (by first | assumption | omega) (by first | omega | ktr_room) (by first | omega | ktr_units) ?_); intro t9 h9 tk9 F9 N9; (try dsimp only)))
  dsimp only [Claim0, GRet0]
  intro mean mg mb news dp un gd cn cs a ccd cl outer A₀ base h₀ L m s Q E hB hF hX hN hT hcs hpre hdp hun hret
  obtain ⟨hx1, hx2, hx3, hx4⟩ := hpre
  have hpre2 : x2.length ≤ 200 ∧ 0 ≤ 4 ∧ 1 ≤ 4 := ⟨by omega, by decide, by decide⟩
  have hsl : (spell 0 1 x2).length ≤ 640 := by
    have := spellL_len 0 1 (by decide) (by decide) x2.cps.toList
    have e : x2.cps.toList.length = x2.length := by simp [Str.length]
    unfold spell; omega
  refine wpAny_call ?_
  k_dflt cell_enter
  all_goals k_steps
  all_goals rename Fr _ _ _ _ => F8
  all_goals rename News _ _ _ _ => N8
  · exact q_eq (frame_eq (p := true) (r := true) (by assumption) (by assumption)) (hret _ _ _ F8 N8)
  · exact q_eq (frame_eq (p := true) (r := false) (by assumption) (by assumption)) (hret _ _ _ F8 N8)
  · exact q_eq (frame_eq (p := false) (r := true) (by assumption) (by assumption)) (hret _ _ _ F8 N8)
  · exact q_eq (frame_eq (p := false) (r := false) (by assumption) (by assumption)) (hret _ _ _ F8 N8)
end Mine
end

section
open PySem PySem.W PyProof.Rows PySem.Calls PySem.Spec
open PySem.Builtin PySem.Builtin.Re
set_option Elab.async false
namespace Mine
theorem admitted_none {m : Sre.M} {ok : Nat → Prop} (hset : ∀ c seen, ok c → ∃ seen', Sre.inSet m.code c m.code.size 5 true seen = .ok (false, seen')) (hall : ∀ i, i < m.lim → ok (m.text.getD i 0)) :
    ∀ fuel s seen, ∃ seen', Sre.M.admitted m fuel s seen = .ok (none, seen')
  | 0, s, seen => ⟨seen, rfl⟩
  | fuel + 1, s, seen => by
    by_cases h : s ≥ m.lim
    · exact ⟨seen, by simp [Sre.M.admitted, h]⟩
    · obtain ⟨s1, h1⟩ := hset (m.text.getD s 0) seen (hall s (by omega))
      obtain ⟨s2, h2⟩ := admitted_none hset hall fuel (s + 1) s1
      exact ⟨s2, by simp only [Sre.M.admitted, if_neg h, h1]; exact h2⟩
/-- a machine that has said no and holds nothing ends as failed -/
theorem ended {m : Sre.M} (ha : m.answer = some false) (hf : m.frames = []) (ho : m.outcome = none) : (m.runFor reTurnSteps).outcome = some .failed := by
  have e1 : m.step = { m with outcome := some .failed } := by
    unfold Sre.M.step
    rw [ho, ha, hf]
    rfl
  show (Sre.M.runFor 4 m).outcome = _
  simp only [Sre.M.runFor, ho, e1, Option.isSome_none, Option.isSome_some, if_true, if_false, Bool.false_eq_true]
theorem attemptFrom_none {m : Sre.M} {ok : Nat → Prop} (hfs : m.hasFirstSet = true) (hset : ∀ c seen, ok c → ∃ seen', Sre.inSet m.code c m.code.size 5 true seen = .ok (false, seen')) (hall : ∀ i, i < m.lim → ok (m.text.getD i 0))
    (hf : m.frames = []) (ho : m.outcome = none) (s : Nat) (first : Bool) :
    (m.attemptFrom s first).answer = some false ∧ (m.attemptFrom s first).frames = [] ∧ (m.attemptFrom s first).outcome = none := by
  obtain ⟨s2, h2⟩ := admitted_none hset hall (m.lim + 1 - s) s m.seen
  unfold Sre.M.attemptFrom
  rw [hfs, h2]
  exact ⟨rfl, hf, ho⟩
theorem forSearch_none {code text : Array Nat} {groups lim p : Nat} {ok : Nat → Prop} (hh : Sre.header code = (1, p)) (hfs : ∀ m : Sre.M, m.code = code → m.hasFirstSet = true)
    (hset : ∀ c seen, ok c → ∃ seen', Sre.inSet code c code.size 5 true seen = .ok (false, seen')) (hall : ∀ i, i < lim → ok (text.getD i 0)) :
    (Sre.forSearch code text groups 0 lim false).answer = some false ∧ (Sre.forSearch code text groups 0 lim false).frames = [] ∧ (Sre.forSearch code text groups 0 lim false).outcome = none := by
  unfold Sre.forSearch
  rw [hh]
  dsimp only
  split
  · exact ⟨rfl, rfl, rfl⟩
  · exact attemptFrom_none (ok := ok) (hfs _ rfl) hset hall rfl rfl _ _
section
variable {M : Model} {A : Around} {E : Value → Shared → Prop} {s : Shared}
theorem wpAny_rules (m : Sre.M) {Q : PUnit → Shared → Prop} (h : Q ⟨⟩ s) : ∀ l : List Nat, wpAny M A (forIn (m := Sem) (β := PUnit) l PUnit.unit fun i _ => (if m.seen.has i = true then (rule (Sre.names.getD i "") >>= fun _ => pure (ForInStep.yield PUnit.unit)) else pure (ForInStep.yield PUnit.unit))) Q E s
  | [] => wpAny_pure h
  | i :: r => by
    rw [List.forIn_cons]
    have ih := wpAny_rules m h r
    cases hb : m.seen.has i
    · simp only [Bool.false_eq_true, if_false]
      exact wpAny_bind (wpAny_pure ih)
    · simp only [if_true]
      exact wpAny_bind (wpAny_bind (wpAny_rule (wpAny_pure ih)))
theorem reRunToEnd_none {m : Sre.M} {Q : Option Sre.M → Shared → Prop} (ha : m.answer = some false) (hf : m.frames = []) (ho : m.outcome = none) (h : Q none s) : wpAny M A (reRunToEnd m) Q E s := by
  have e := ended ha hf ho
  have hd : reDrive (2 ^ 64) m = pure (m.runFor reTurnSteps) := by
    have : (2 ^ 64 : Nat) = (2 ^ 64 - 1) + 1 := by decide
    rw [this]
    show (if (m.runFor reTurnSteps).outcome.isSome = true then _ else _) = _
    rw [e]
    rfl
  unfold reRunToEnd
  rw [hd]
  refine wpAny_bind (wpAny_pure ?_)
  refine wpAny_bind (wpAny_mono (wpAny_rules _ (Q := fun _ s' => s' = s) rfl _) (fun _ s' hs => ?_) fun _ _ x => x)
  subst hs
  rw [e]
  exact wpAny_pure h
end
end Mine
end

section
open PySem PySem.W PyProof.Rows PySem.Calls PySem.Spec
open PySem.Builtin PySem.Builtin.Re
set_option Elab.async false
set_option maxRecDepth 100000
namespace Mine
theorem owner_pat : Manifest.owners.lookup (String.ofList ['n', 'r', 'e', 't', 't', 'a', 'P', '.', 'e', 'r'].reverse) = some Manifest.sig_re_Pattern := by kernel_rfl
theorem slot_pat_search : Slot "re.Pattern" (Str.ofString "search") "re.Pattern.search" :=
  .of (owner := "re.Pattern") (n := "search") (by rw [typeLookup_type, builtinLookup_eq_fast]; kernel_rfl) (by decide +kernel) (by decide +kernel) (by decide +kernel)
    (by first | exact .inl (by decide +kernel) | exact .inr (by decide +kernel)) (by rw [isSubtype_type]; kernel_rfl)
theorem entry_pat_search : entryFor table "re.Pattern.search" = some Builtin.«re.Pattern.search» := entryFor_of_tree (by kernel_rfl)
theorem args_pat_search (a b : Value) : argsOk "re.Pattern.search" ⟨[a, b], []⟩ := by
  unfold argsOk; rw [signature?_of (id := "re.Pattern.search") (n := ['h', 'c', 'r', 'a', 'e', 's']) (o := ['n', 'r', 'e', 't', 't', 'a', 'P', '.', 'e', 'r']) (by kernel_rfl) owner_pat]; kernel_rfl
def cName : Array Nat := #[14, 10, 4, 1, 1, 22, 0, 31, 16, 127, 0, 13, 7, 22, 0, 31, 16, 127, 0, 1]
def cVal : Array Nat := #[14, 14, 4, 1, 1, 9, 4294966783, 0, 0, 2147483648, 0, 0, 0, 0, 0, 13, 11, 9, 4294966783, 0, 0, 2147483648, 0, 0, 0, 0, 0, 1]
def okC (c : Nat) : Prop := 31 < c ∧ c ≠ 127
theorem set_name (c : Nat) (seen : Sre.Seen) (h : okC c) : ∃ seen', Sre.inSet cName c cName.size 5 true seen = .ok (false, seen') := by
  have e : Sre.inSet cName c cName.size 5 true seen = if (decide (0 ≤ c) && decide (c ≤ 31)) = true then .ok (true, seen.add 22) else if (c == 127) = true then .ok (true, (seen.add 22).add 16) else .ok (false, ((seen.add 22).add 16).add 0) := rfl
  have h1 : ¬ c ≤ 31 := by have := h.1; omega
  have h2 : (c == 127) = false := by simpa using h.2
  rw [e, h2]
  simp [h1]
theorem set_val (c : Nat) (seen : Sre.Seen) (h : okC c) : ∃ seen', Sre.inSet cVal c cVal.size 5 true seen = .ok (false, seen') := by
  have e : Sre.inSet cVal c cVal.size 5 true seen = if (decide (c < 256) && (cVal.getD (5 + (1 + c / 32)) 0).testBit (c % 32)) = true then .ok (true, seen.add 9) else .ok (false, (seen.add 9).add 0) := rfl
  have h1 : (decide (c < 256) && (cVal.getD (5 + (1 + c / 32)) 0).testBit (c % 32)) = false := by
    by_cases hc : c < 256
    · have : ∀ c : Fin 256, 31 < c.val → c.val ≠ 127 → (cVal.getD (5 + (1 + c.val / 32)) 0).testBit (c.val % 32) = false := by decide +kernel
      rw [this ⟨c, hc⟩ h.1 h.2]; simp
    · simp [hc]
  rw [e, h1]
  exact ⟨_, rfl⟩
section
variable {prog : Program} {w : World} {A : Around} {E : Value → Shared → Prop} {s : Shared}
theorem search_call {p cd : Addr} {po co : Obj} {fs items : Array Value} {n : Nat} {x : Str} {tx : Tok} {ok : Nat → Prop} {pp : Nat} {Q : Value → Shared → Prop} (code : Array Nat)
    (ho : s.heap.get? p = some po) (hcls : po.cls = .type "re.Pattern") (hd : po.data = .fields fs) (h5 : fs.getD 5 .none = .ref cd) (h6 : reRawNat (fs.getD 6 .none) = 0)
    (hc : s.heap.get? cd = some co) (hcd : co.data = .seq items n) (hcode : (items.map reRawOf).map (·.toNat) = code)
    (hh : Sre.header code = (1, pp)) (hfs : ∀ m : Sre.M, m.code = code → m.hasFirstSet = true)
    (hset : ∀ c seen, ok c → ∃ seen', Sre.inSet code c code.size 5 true seen = .ok (false, seen')) (hall : ∀ i, i < x.cps.size → ok (x.cps.getD i 0))
    (h : Q .none s) : wpAny (model prog w) A (call (.builtin "re.Pattern.search") [.ref p, .str x tx]) Q E s := by
  have hT : s.TypeIs (.ref p) "re.Pattern" := ⟨_, ho, hcls⟩
  refine wpAny_call_entry slot_pat_search hT entry_pat_search ?_ (args_pat_search _ _)
  unfold Builtin.«re.Pattern.search»
  refine wpAny_bind ?_
  have hn : reNamed "re.Pattern.search" "search" ["string", "pos", "endpos"] 1 [.str x tx] [] = pure [some (.str x tx), none, none] := rfl
  unfold reTarget
  dsimp only
  rw [hn]
  refine wpAny_bind (wpAny_pure ?_)
  dsimp only
  refine wpAny_bind (wpAny_pure ?_)
  refine wpAny_bind (wpAny_pure ?_)
  refine wpAny_bind (wpAny_fieldsOf ho hd ?_)
  have ht : reTextOf (.str x tx) = pure (x.cps, 0) := rfl
  rw [ht]
  refine wpAny_bind (wpAny_pure ?_)
  dsimp only
  rw [h6]
  rw [if_neg (by decide), if_neg (by decide)]
  have hk : reNoCollectionInside (.str x tx) 0 = pure () := rfl
  rw [hk, h5]
  refine wpAny_bind (wpAny_pure ?_)
  unfold reRawItems
  refine wpAny_bind (wpAny_bind (wpAny_seqItems hc hcd (wpAny_pure ?_)))
  refine wpAny_pure ?_
  unfold reAnswer
  dsimp only [Option.getD]
  rw [hcode]
  have hp0 : min (Int.toNat 0) x.cps.size = 0 := by simp
  rw [hp0]
  obtain ⟨a1, a2, a3⟩ := forSearch_none (code := code) (text := x.cps) (groups := reRawNat (fs.getD 2 Value.none)) (lim := min (2 ^ 63 - 1 : Int).toNat x.cps.size) (ok := ok) hh hfs hset fun i hi => hall i (by omega)
  refine wpAny_bind (reRunToEnd_none a1 a2 a3 ?_)
  exact wpAny_pure ⟨.none, rfl, h⟩
end
end Mine
end

section
open PySem PySem.W PyProof.Rows PySem.Calls PySem.Spec
set_option Elab.async false
set_option maxRecDepth 100000
namespace Mine
structure HidEq (g h : Heap) : Prop where
  eq : g = h
section
variable {prog : Program} {w : World} {A A₀ : Around} {E : Value → Shared → Prop} {s : Shared} {K : Frag} {C L : Addr} {h₀ base : Heap} {m mg mb : Str → Option Value} {news : List (Addr × Obj)} {p : Program} {loose : List Str} {mean : ExcName → Option Value} {Q : Value → Shared → Prop}
/-- a def is entered, all that stands kept as it is: the ledger begins empty -/
theorem code_defZ {env : Env} {outer : List Env} {R : Result → Shared → Prop} {name qual : Str} {params : Arguments} {body : List Stmt} {scope : Scope} {dV kV doc pm cdv ct oc : Value} {an od : Option Addr} {osl : Array (Option Value)} {f : Addr} {args : Args} {binds : List (Str × Value)}
    (B : Below A₀ base outer h₀) (F : Fr h₀ L s.heap m) (X₀ : K.In h₀) (T : Top p loose mean mg mb h₀) (hA : A.frames = some (env :: outer)) (hf : env.frame = some L) (hke : env.scope.kind = .function)
    (ho : K.lookup f = some ⟨oc, od, .func (fnOf name qual params body scope dV kV doc pm an cdv ct), osl⟩) (hcd : codeIn K cdv qual = true) (hroom : A.depth < recursionLimit)
    (hbind : BindsTo s (fnOf name qual params body scope dV kV doc pm an cdv ct) args binds) (hloc : ∀ y ∈ binds, scope.names.lookup y.1 = some .local)
    (h : ∀ g L' h₁, HidEq g s.heap → Fr g L' h₁ (fun y => binds.reverse.lookup y) → News g L' h₁ [] → Below A base (env :: outer) g → K.In g → Top p loose mean mg mb g →
      wpAny (model prog w) (A.deeper (envOf qual scope L' f cdv)) (execs body (envOf qual scope L' f cdv))
        (fun fl s' => R (.ok (.ret (match fl with | .ret v => v | _ => .none))) s')
        (fun e s' => wpAny (model prog w) (A.deeper (envOf qual scope L' f cdv)) (leaving (envOf qual scope L' f cdv) e) (fun _ s'' => R (.error e) s'') (fun e' s'' => R (.error e') s'') s')
        { s with heap := h₁, toks := s.toks + binds.length })
    (hco : scope.isCoroutine = false) (hgen : scope.isGenerator = false) (hk : scope.kind = .function)
    (hcell : ∀ x ∈ scope.names, x.2 ≠ .cell) : codeAny (model prog w) A (.call (.ref f) args) R s := by
  obtain ⟨FG, BG, st, lv⟩ := groundX (R := R) B F (News.nil (h₀ := h₀) (L := L)) hA hf hke
  have X := X₀.keeps F.keep
  refine codeAny_call_def (fd := fnOf name qual params body scope dV kV doc pm an cdv ct) (body := body) (binds := binds) hroom (X _ _ ho) rfl (T.nolimit.keeps F.keep) (codeRec_of X hcd) rfl hbind hcell hloc (fun h₁ hns hk₁ => ?_) hco hgen hk
  exact h s.heap s.heap.objs.size h₁ ⟨rfl⟩ ⟨hns, fun b o e => hk₁ b o e, Nat.le_refl _⟩ News.nil BG X (T.keeps F.keep)
theorem backZ {g h' : Heap} {L' : Addr} {m' : Str → Option Value} (hg : HidEq g s.heap) (F : Fr h₀ L s.heap m) (F' : Fr g L' h' m') : Fr h₀ L h' m := by
  obtain ⟨rfl⟩ := hg
  exact ⟨F.ns.at fun o e => F'.keep _ o e, fun b o e => F'.keep b o (F.keep b o e), F.above⟩
theorem newsZ {g h' : Heap} {L' : Addr} {m' : Str → Option Value} (hg : HidEq g s.heap) (N : News h₀ L s.heap news) (F' : Fr g L' h' m') : News h₀ L h' news := by
  obtain ⟨rfl⟩ := hg
  exact fun p hp => ⟨F'.keep _ _ (N p hp).1, (N p hp).2⟩
end
end Mine
end

section
open PySem PySem.W PyProof.Rows PySem.Calls PySem.Spec
open PySem.Builtin PySem.Builtin.Re
set_option Elab.async false
set_option maxRecDepth 100000
namespace Mine
theorem plainAttrs_pat : PlainAttrs "re.Pattern" :=
  ⟨⟨"object.__getattribute__", by rw [typeLookup_type, builtinLookup_eq_fast]; kernel_rfl, by decide +kernel⟩, by rw [typeLookup_type, builtinLookup_eq_fast]; kernel_rfl⟩
theorem type_pat_search : typeOf (.builtin "re.Pattern.search") = pure (.type "method_descriptor") := by show builtinType _ = _; rw [builtinType_eq_fast]; kernel_rfl
def okB (x : Str) : Bool := x.cps.toList.all fun c => 31 < c && c != 127
theorem okB_at {x : Str} (h : okB x = true) (i : Nat) (hi : i < x.cps.size) : okC (x.cps.getD i 0) := by
  have h1 : x.cps.getD i 0 = x.cps[i] := by simp [Array.getD, hi]
  unfold okB at h
  have h2 := List.all_eq_true.mp h (x.cps[i]) (by simp)
  simp at h2
  rw [h1]
  exact ⟨h2.1, h2.2⟩
def obj74 : Obj := { cls := .type "re.Pattern", data := .fields #[.str (Str.ofString "[\\x00-\\x08\\x0A-\\x1F\\x7F]") 386, .int 32 417, .int 0 0, .none, .none, .ref 73, .int 0 0] }
def obj69 : Obj := { cls := .type "re.Pattern", data := .fields #[.str (Str.ofString "[\\x00-\\x1F\\x7F]") 360, .int 32 383, .int 0 0, .none, .none, .ref 68, .int 0 0] }
def obj73 : Obj := { cls := .type "tuple", data := .seq (cVal.map fun n : Nat => Value.int (n : Int) 0) }
def obj68 : Obj := { cls := .type "tuple", data := .seq (cName.map fun n : Nat => Value.int (n : Int) 0) }
theorem look74 (P : Params) : (Mine.hd.heap_1 P).lookup 74 = some obj74 := by kernel_rfl
theorem look69 (P : Params) : (Mine.hd.heap_1 P).lookup 69 = some obj69 := by kernel_rfl
theorem look73 (P : Params) : (Mine.hd.heap_1 P).lookup 73 = some obj73 := by kernel_rfl
theorem look68 (P : Params) : (Mine.hd.heap_1 P).lookup 68 = some obj68 := by kernel_rfl
section
variable {prog : Program} {w : World} {A : Around} {E : Value → Shared → Prop} {s : Shared} {P : Params} {h₀ : Heap} {L : Addr} {m : Str → Option Value}
theorem gm_search {p : Addr} {o : Obj} {pl : Sem Bool} {Q : Value × List Value → Shared → Prop} (X : (Mine.hd.heap_1 P).In h₀) (F : Fr h₀ L s.heap m) (ho : (Mine.hd.heap_1 P).lookup p = some o) (hc : o.cls = .type "re.Pattern") (hd : o.dict = none)
    (h : Q (.builtin "re.Pattern.search", [.ref p]) s) : wpAny (model prog w) A (getMethod (.ref p) (Str.ofString "search") pl) Q E s :=
  have hk := (X.keeps F.keep) _ _ ho
  getMethod_builtin ⟨_, hk, hc⟩ plainAttrs_pat slot_pat_search type_pat_search (fun a e => by cases e; exact ⟨_, hk, hd⟩) h
theorem search74 {x : Str} {tx : Tok} {Q : Value → Shared → Prop} (X : (Mine.hd.heap_1 P).In h₀) (F : Fr h₀ L s.heap m) (hx : okB x = true) (h : Q .none s) : wpAny (model prog w) A (call (.builtin "re.Pattern.search") [.ref 74, .str x tx]) Q E s :=
  search_call (code := cVal) (pp := 15) (ok := okC) (po := obj74) (co := obj73) (cd := 73) ((X.keeps F.keep) _ _ (look74 P)) rfl rfl rfl rfl ((X.keeps F.keep) _ _ (look73 P)) rfl (by decide +kernel) rfl (fun m e => by unfold Sre.M.hasFirstSet; rw [e]; rfl) set_val (okB_at hx) h
theorem search69 {x : Str} {tx : Tok} {Q : Value → Shared → Prop} (X : (Mine.hd.heap_1 P).In h₀) (F : Fr h₀ L s.heap m) (hx : okB x = true) (h : Q .none s) : wpAny (model prog w) A (call (.builtin "re.Pattern.search") [.ref 69, .str x tx]) Q E s :=
  search_call (code := cName) (pp := 11) (ok := okC) (po := obj69) (co := obj68) (cd := 68) ((X.keeps F.keep) _ _ (look69 P)) rfl rfl rfl rfl ((X.keeps F.keep) _ _ (look68 P)) rfl (by decide +kernel) rfl (fun m e => by unfold Sre.M.hasFirstSet; rw [e]; rfl) set_name (okB_at hx) h
end
end Mine
end

section
local macro_rules | `(tactic| k_room) => `(tactic| ktr_room)
local macro_rules | `(tactic| k_room) => `(tactic| ((try simp only [depth_under_make, depth_under_kw, depth_in1, depth_deeper, depth_caller]); (try dsimp only [ktrTop]); rename _ + _ < recursionLimit => hd9; refine Nat.lt_of_le_of_lt ?_ hd9; (try simp only [Nat.add_assoc, Nat.reduceAdd]); first | exact Nat.add_le_add_left (by decide) _ | exact Nat.le_add_right _ _))

section
open PySem PySem.W PyProof.Rows PySem.Calls PySem.Spec
set_option Elab.async false
set_option maxRecDepth 100000
set_option maxHeartbeats 8000000
namespace Mine
theorem repL_len1 (y z : List Nat) (n : Nat) (hy : y.length = 1) (hn : 1 ≤ n) (hz : z.length ≤ n) : ∀ (l : List Nat), (repL y z 0 l).length ≤ n * l.length
  | [] => by simp [repL]
  | c :: r => by
    have h1 := repL_len1 y z n hy hn hz r
    unfold repL
    rw [hy]
    have e : n * (c :: r).length = n * r.length + n := by rw [List.length_cons, Nat.mul_succ]
    rw [e]
    split
    · simp; omega
    · simp; omega
theorem replace_n {x y z : Str} (n : Nat) (hy : y.length = 1) (hn : 1 ≤ n) (hz : z.length ≤ n) : (Txt.replace x y z).length ≤ n * x.length := by
  have h := repL_len1 y.cps.toList z.cps.toList n (by simpa [Str.length] using hy) hn (by simpa [Str.length] using hz) x.cps.toList
  rw [← replace_L x y z (by omega)] at h
  simpa [Str.length] using h
theorem replaceV (n : Nat) {prog : Program} {w : World} {A : Around} {E : Value → Shared → Prop} {s : Shared} {x y z : Str} {t u v : Tok} {Q : Value → Shared → Prop} (h0 : 1 ≤ s.toks) (hu : u ≠ 0) (hv : v ≠ 0) (huv : u ≠ v) (hyz : (y == z) = false) (hx : x.length ≤ 1048576) (hy : y.length = 1) (hn : 1 ≤ n) (hz : z.length ≤ n) (hz2 : z.length ≤ 14)
    (hq : ∀ (r : Str) t' k, Hid (Txt.replace x y z = r) → r.length ≤ n * x.length → 1 ≤ k → Q (.str r t') { s with toks := k }) : wpAny (model prog w) A (call (.builtin "str.replace") [.str x t, .str y u, .str z v]) Q E s :=
  replaceP h0 hu hv huv hyz hx hz2 fun t' k hk => hq _ t' k ⟨rfl⟩ (replace_n n hy hn hz) hk
def quoted (v : Str) : Str := Txt.replace (Txt.replace v (Str.ofString "\\") (Str.ofString "\\\\")) (Str.ofString "\"") (Str.ofString "\\\"")
def fpF (p v : Str) : Str := if 0 < (v.length : Int) then p ++ Str.ofString "=\"" ++ quoted v ++ Str.ofString "\"" else p
theorem empty_app (x : Str) : Str.empty ++ x = x := by
  exact PySem.Str.empty_append x
theorem fp_eq1 {p v r1 r2 : Str} (h : 0 < (v.length : Int)) (h1 : Hid (Txt.replace v (Str.ofString "\\") (Str.ofString "\\\\") = r1)) (h2 : Hid (Txt.replace r1 (Str.ofString "\"") (Str.ofString "\\\"") = r2)) :
    fpF p v = Str.empty ++ p ++ Str.ofString "=\"" ++ r2 ++ Str.ofString "\"" := by
  unfold fpF quoted
  rw [if_pos h, h1.get, h2.get, empty_app]
theorem fp_eq2 {p v : Str} (h : ¬ 0 < (v.length : Int)) : fpF p v = p := by unfold fpF; rw [if_neg h]
theorem formatparam_C (w : World) (p v : Str) (t1 t2 : Tok) : Claim0 w 82 2 (p.length ≤ 10 ∧ v.length ≤ 4000) [.str p t1, .str v t2] (fun t => .str (fpF p v) t) := by
  w_top off
  k_with_none
  (k_with "execs cons" => (refine execs_consP (by first | assumption | omega | (dsimp only; omega) | (dsimp only; assumption)) ?_; (try dsimp only)))
  (k_with "execs cons" => ((fail_if_success (fail_if_success k_gentoks)); k_here; (refine gen_toks (by first | assumption | omega) ?_); intro tk9 hPos9))
  (k_with "execs nil" => ((fail_if_success (fail_if_success k_gentoks)); k_here; (refine gen_toks (by first | assumption | omega) ?_); intro tk9 hPos9))
  (k_with "call builtin:str.replace" => (k_dflt ((try dsimp only [List.cons_append, List.nil_append]); first | refine replaceV 2 (by ((try dsimp only); omega)) (by show @Ne Nat _ _; omega) (by show @Ne Nat _ _; omega) (by show @Ne Nat _ _; omega) (by decide +kernel) (by first | omega | decide +kernel) (by decide +kernel) (by decide) (by decide +kernel) (by decide +kernel) ?_ | refine replaceV 4 (by ((try dsimp only); omega)) (by show @Ne Nat _ _; omega) (by show @Ne Nat _ _; omega) (by show @Ne Nat _ _; omega) (by decide +kernel) (by first | omega | decide +kernel) (by decide +kernel) (by decide) (by decide +kernel) (by decide +kernel) ?_ | refine replaceV 5 (by ((try dsimp only); omega)) (by show @Ne Nat _ _; omega) (by show @Ne Nat _ _; omega) (by show @Ne Nat _ _; omega) (by decide +kernel) (by first | omega | decide +kernel) (by decide +kernel) (by decide) (by decide +kernel) (by decide +kernel) ?_); k_dflt (intro r9 t9 k9 hr9 hl9 hk9; (try dsimp only))))
  dsimp only [Claim0, GRet0]
  intro mean mg mb news dp un gd cn cs a ccd cl outer A₀ base h₀ L m s Q E hB hF hX hN hT hcs hpre hdp hun hret
  obtain ⟨hx2, hx3⟩ := hpre
  refine wpAny_call ?_
  k_dflt (refine' code_defZ ?k1 ?k2 ?k3 ?k5 ?kA ?kF ?kK ?k6 ?k7 ?k8 ?k9 ?kB ?_ ?c2 ?c3 ?c4 ?c5; (case kA => exact rfl); (case kF => exact rfl); (case kK => assumption); (case k1 => k_asm); (case k2 => k_asm); (case k3 => k_asm); (case k5 => k_asm); (case k6 => k_is); (case k7 => k_is); (case k8 => ktr_room); (case k9 => first | exact BindsTo.of_eq rfl | exact binds_K (by k_in) rfl (by k_is) rfl rfl rfl); (case c5 => decide); (case kB => exact locs rfl); (case c2 => exact rfl); (case c3 => exact rfl); (case c4 => exact rfl); k_whole; intro g' L' h' hG F' N' B' X' T'; (try dsimp only); (try k_lift B'); (try k_fold))
  all_goals k_steps
  · rename Fr _ _ _ _ => F8
    rename HidEq _ _ => hG
    show Q (.str _ _) _
    exact q_eq (fp_eq1 (by assumption) (by assumption) (by assumption)) (hret _ _ _ (backZ hG hF F8) (newsZ hG hN F8))
  · rename Fr _ _ _ _ => F8
    rename HidEq _ _ => hG
    show Q (.str _ _) _
    exact q_eq (fp_eq2 (by assumption)) (hret _ _ _ (backZ hG hF F8) (newsZ hG hN F8))
theorem fp_len (p v : Str) : (fpF p v).length ≤ p.length + 3 + 4 * v.length := by
  have h1 := replace_n (x := v) (y := Str.ofString "\\") (z := Str.ofString "\\\\") 2 (by decide +kernel) (by decide) (by decide +kernel)
  have h2 := replace_n (x := Txt.replace v (Str.ofString "\\") (Str.ofString "\\\\")) (y := Str.ofString "\"") (z := Str.ofString "\\\"") 2 (by decide +kernel) (by decide) (by decide +kernel)
  have e1 : (Str.ofString "=\"").length = 2 := by decide +kernel
  have e2 : (Str.ofString "\"").length = 1 := by decide +kernel
  unfold fpF quoted
  split
  · rw [Str.length_append, Str.length_append, Str.length_append]; omega
  · omega
end Mine
end

section
open PySem PySem.W PyProof.Rows PySem.Calls PySem.Spec
set_option Elab.async false
set_option maxRecDepth 100000
set_option maxHeartbeats 8000000
namespace Mine
def escF (x : Str) : Str := Txt.replace (Txt.replace (Txt.replace (Txt.replace x (Str.ofString "&") (Str.ofString "&amp;")) (Str.ofString "<") (Str.ofString "&lt;")) (Str.ofString ">") (Str.ofString "&gt;")) (Str.ofString "\r") (Str.ofString "&#xD;")
def Rep (x y z r : Str) : Prop := Hid (Txt.replace x y z = r) ∨ ((Builtin.Str.occurrences x y 0 x.length 1).isEmpty = true ∧ r = x)
theorem repL_one (c : Nat) (z : List Nat) : ∀ l : List Nat, repL [c] z 0 l = l.flatMap fun a => if a = c then z else [a]
  | [] => by simp [repL]
  | a :: r => by
    have ih := repL_one c z r
    unfold repL
    by_cases h : a = c
    · simp [h, ih]
    · simp [h, ih]
theorem rep_one {x y z : Str} {c : Nat} (hy : y.cps.toList = [c]) : (Txt.replace x y z).cps.toList = x.cps.toList.flatMap fun a => if a = c then z.cps.toList else [a] := by
  have h1 : y.length = 1 := by have : y.cps.toList.length = y.length := by simp [Str.length]
                               rw [← this, hy]; rfl
  rw [replace_L x y z (by omega), hy, repL_one]
theorem str_of_list {a b : Str} (h : a.cps.toList = b.cps.toList) : a = b := PySem.Str.ext' (Array.toList_inj.mp h)
theorem flat_id {c : Nat} {z : List Nat} : ∀ {l : List Nat}, c ∉ l → (l.flatMap fun a => if a = c then z else [a]) = l
  | [], _ => rfl
  | a :: r, h => by
    have h1 : ¬ a = c := fun e => h (by rw [e]; exact .head _)
    simp [h1, flat_id (c := c) (z := z) (l := r) fun m => h (.tail _ m)]
theorem rep_absent {x y z : Str} {c : Nat} (hy : y = ⟨#[c]⟩) (h : (Builtin.Str.occurrences x y 0 x.length 1).isEmpty = true) : Txt.replace x y z = x := by
  subst hy
  have h2 := StrLaws.found_one x c
  rw [h] at h2
  apply str_of_list
  rw [rep_one (c := c) rfl, flat_id]
  simpa using h2
theorem Rep.eq {x y z r : Str} {c : Nat} (h : Rep x y z r) (hy : y = ⟨#[c]⟩) : Txt.replace x y z = r := by
  rcases h with h | ⟨h, rfl⟩
  · exact h.get
  · exact rep_absent hy h
theorem esc_end {x r1 r2 r3 r4 : Str} (h4 : Rep r3 (Str.ofString "\r") (Str.ofString "&#xD;") r4) (h3 : Rep r2 (Str.ofString ">") (Str.ofString "&gt;") r3) (h2 : Rep r1 (Str.ofString "<") (Str.ofString "&lt;") r2) (h1 : Rep x (Str.ofString "&") (Str.ofString "&amp;") r1) : escF x = r4 := by
  unfold escF
  rw [h1.eq (c := 38) (by decide +kernel), h2.eq (c := 60) (by decide +kernel), h3.eq (c := 62) (by decide +kernel), h4.eq (c := 13) (by decide +kernel)]
theorem rep_i {x y z r : Str} (h : Hid (Txt.replace x y z = r)) : Rep x y z r := .inl h
theorem rep_a {y z r : Str} (h : (Builtin.Str.occurrences r y 0 r.length 1).isEmpty = true) : Rep r y z r := .inr ⟨h, rfl⟩
theorem esc_len (x : Str) : (escF x).length ≤ 400 * x.length := by
  have h1 := replace_n (x := x) (y := Str.ofString "&") (z := Str.ofString "&amp;") 5 (by decide +kernel) (by decide) (by decide +kernel)
  have h2 := replace_n (x := Txt.replace x (Str.ofString "&") (Str.ofString "&amp;")) (y := Str.ofString "<") (z := Str.ofString "&lt;") 4 (by decide +kernel) (by decide) (by decide +kernel)
  have h3 := replace_n (x := Txt.replace (Txt.replace x (Str.ofString "&") (Str.ofString "&amp;")) (Str.ofString "<") (Str.ofString "&lt;")) (y := Str.ofString ">") (z := Str.ofString "&gt;") 4 (by decide +kernel) (by decide) (by decide +kernel)
  have h4 := replace_n (x := Txt.replace (Txt.replace (Txt.replace x (Str.ofString "&") (Str.ofString "&amp;")) (Str.ofString "<") (Str.ofString "&lt;")) (Str.ofString ">") (Str.ofString "&gt;")) (y := Str.ofString "\r") (z := Str.ofString "&#xD;") 5 (by decide +kernel) (by decide) (by decide +kernel)
  unfold escF
  omega
theorem esc_C (w : World) (x : Str) (t1 : Tok) : Claim0 w 332 2 (x.length ≤ 8000) [.str x t1] (fun t => .str (escF x) t) := by
  w_top off
  k_with_none
  (k_with "execs cons" => (refine execs_consP (by first | assumption | omega | (dsimp only; omega) | (dsimp only; assumption)) ?_; (try dsimp only)))
  (k_with "execs cons" => ((fail_if_success (fail_if_success k_gentoks)); k_here; (refine gen_toks (by first | assumption | omega) ?_); intro tk9 hPos9))
  (k_with "execs nil" => ((fail_if_success (fail_if_success k_gentoks)); k_here; (refine gen_toks (by first | assumption | omega) ?_); intro tk9 hPos9))
  (k_with "call builtin:str.replace" => (k_dflt ((try dsimp only [List.cons_append, List.nil_append]); first | refine replaceV 2 (by ((try dsimp only); omega)) (by show @Ne Nat _ _; omega) (by show @Ne Nat _ _; omega) (by show @Ne Nat _ _; omega) (by decide +kernel) (by first | omega | decide +kernel) (by decide +kernel) (by decide) (by decide +kernel) (by decide +kernel) ?_ | refine replaceV 4 (by ((try dsimp only); omega)) (by show @Ne Nat _ _; omega) (by show @Ne Nat _ _; omega) (by show @Ne Nat _ _; omega) (by decide +kernel) (by first | omega | decide +kernel) (by decide +kernel) (by decide) (by decide +kernel) (by decide +kernel) ?_ | refine replaceV 5 (by ((try dsimp only); omega)) (by show @Ne Nat _ _; omega) (by show @Ne Nat _ _; omega) (by show @Ne Nat _ _; omega) (by decide +kernel) (by first | omega | decide +kernel) (by decide +kernel) (by decide) (by decide +kernel) (by decide +kernel) ?_); k_dflt (intro r9 t9 k9 hr9 hl9 hk9; (try dsimp only))))
  dsimp only [Claim0, GRet0]
  intro mean mg mb news dp un gd cn cs a ccd cl outer A₀ base h₀ L m s Q E hB hF hX hN hT hcs hpre hdp hun hret
  refine wpAny_call ?_
  k_dflt (refine' code_defZ ?k1 ?k2 ?k3 ?k5 ?kA ?kF ?kK ?k6 ?k7 ?k8 ?k9 ?kB ?_ ?c2 ?c3 ?c4 ?c5; (case kA => exact rfl); (case kF => exact rfl); (case kK => assumption); (case k1 => k_asm); (case k2 => k_asm); (case k3 => k_asm); (case k5 => k_asm); (case k6 => k_is); (case k7 => k_is); (case k8 => ktr_room); (case k9 => first | exact BindsTo.of_eq rfl | exact binds_K (by k_in) rfl (by k_is) rfl rfl rfl); (case c5 => decide); (case kB => exact locs rfl); (case c2 => exact rfl); (case c3 => exact rfl); (case c4 => exact rfl); k_whole; intro g' L' h' hG F' N' B' X' T'; (try dsimp only); (try k_lift B'); (try k_fold))
  all_goals k_steps
  all_goals (rename Fr _ _ _ _ => F8; rename HidEq _ _ => hG; show Q (.str _ _) _; refine' q_eq (esc_end ?_ ?_ ?_ ?_) (hret _ _ _ (backZ hG hF F8) (newsZ hG hN F8)))
  all_goals (try (with_reducible (first | exact rep_i (by assumption) | exact rep_a (by assumption))))
end Mine
end

section
open PySem PySem.W PyProof.Rows PySem.Calls PySem.Spec
set_option Elab.async false
set_option maxRecDepth 100000
set_option maxHeartbeats 8000000
namespace Mine
theorem conv_C (w : World) (v0 : Value) (x : Str) (t1 : Tok) (b : Bool) (mean : ExcName → Option Value) (mg mb : Str → Option Value) (news : List (Addr × Obj)) (dp un : Nat) (gd : Option (List Code)) (cn : Str) (cs : Scope) (a : Addr) (ccd : Value) (cl : List (Str × Addr)) (outer : List Env) (A₀ : Around) (base h₀ : Heap) (L : Addr) (m : Str → Option Value) (s : Shared) (Q E : Value → Shared → Prop)
    (hB : Below A₀ base outer h₀) (hF : Fr h₀ L s.heap m) (hX : (Mine.hd.heap_1 w.params).In h₀) (hN : News h₀ L s.heap news) (hT : Top Mine.view LO mean mg mb h₀) (hcs : cs.kind = .function) (hpre : okB x = true) (hdp : dp + 2 < recursionLimit) (hun : un + 8 * 2 < cLine)
    (hret : ∀ (h' : Heap) (tk' : Nat), Fr h₀ L h' m → News h₀ L h' news → Q (.str x t1) ⟨h', s.gens, s.drawn, tk', s.os⟩) : wpAny (model PySem.Challenge.rw_uq0033_01.row.prog w) (ktrTop dp un gd cn cs L a ccd cl outer) (call (.ref 104) [v0, .str x t1] [(Str.ofString "name", .bool b)]) Q E s := by
  w_top off
  k_with_none
  (k_with "execs cons" => (refine execs_consP (by first | assumption | omega | (dsimp only; omega) | (dsimp only; assumption)) ?_; (try dsimp only)))
  (k_with "execs cons" => ((fail_if_success (fail_if_success k_gentoks)); k_here; (refine gen_toks (by first | assumption | omega) ?_); intro tk9 hPos9))
  (k_with "execs nil" => ((fail_if_success (fail_if_success k_gentoks)); k_here; (refine gen_toks (by first | assumption | omega) ?_); intro tk9 hPos9))
  (k_with "call builtin:str.replace" => (k_dflt ((try dsimp only [List.cons_append, List.nil_append]); first | refine replaceV 2 (by ((try dsimp only); omega)) (by show @Ne Nat _ _; omega) (by show @Ne Nat _ _; omega) (by show @Ne Nat _ _; omega) (by decide +kernel) (by first | omega | decide +kernel) (by decide +kernel) (by decide) (by decide +kernel) (by decide +kernel) ?_ | refine replaceV 4 (by ((try dsimp only); omega)) (by show @Ne Nat _ _; omega) (by show @Ne Nat _ _; omega) (by show @Ne Nat _ _; omega) (by decide +kernel) (by first | omega | decide +kernel) (by decide +kernel) (by decide) (by decide +kernel) (by decide +kernel) ?_ | refine replaceV 5 (by ((try dsimp only); omega)) (by show @Ne Nat _ _; omega) (by show @Ne Nat _ _; omega) (by show @Ne Nat _ _; omega) (by decide +kernel) (by first | omega | decide +kernel) (by decide +kernel) (by decide) (by decide +kernel) (by decide +kernel) ?_); k_dflt (intro r9 t9 k9 hr9 hl9 hk9; (try dsimp only))))
  (k_with "getMethod ref" => ((with_reducible show wpAny _ _ (getMethod (Value.ref 74) _ _) _ _ _); k_here; k_dflt (refine' gm_search (by k_asm) (by k_asm) (by exact look74 _) (by rfl) (by rfl) ?_; k_whole)))
  (k_with "getMethod ref" => ((with_reducible show wpAny _ _ (getMethod (Value.ref 69) _ _) _ _ _); k_here; k_dflt (refine' gm_search (by k_asm) (by k_asm) (by exact look69 _) (by rfl) (by rfl) ?_; k_whole)))
  (k_with "call builtin:re.Pattern.search" => (k_here; k_dflt (first | (refine' search74 (by k_asm) (by k_asm) (by first | assumption | decide +kernel) ?_; k_whole) | (refine' search69 (by k_asm) (by k_asm) (by first | assumption | decide +kernel) ?_; k_whole))))
  refine wpAny_call ?_
  k_dflt (refine' code_defZ ?k1 ?k2 ?k3 ?k5 ?kA ?kF ?kK ?k6 ?k7 ?k8 ?k9 ?kB ?_ ?c2 ?c3 ?c4 ?c5; (case kA => exact rfl); (case kF => exact rfl); (case kK => assumption); (case k1 => k_asm); (case k2 => k_asm); (case k3 => k_asm); (case k5 => k_asm); (case k6 => k_is); (case k7 => k_is); (case k8 => ktr_room); (case k9 => first | exact BindsTo.of_eq rfl | exact binds_K (by k_in) rfl (by k_is) rfl rfl rfl); (case c5 => decide); (case kB => exact locs rfl); (case c2 => exact rfl); (case c3 => exact rfl); (case c4 => exact rfl); k_whole; intro g' L' h' hG F' N' B' X' T'; (try dsimp only); (try k_lift B'); (try k_fold))
  cases b
  all_goals k_steps
  all_goals (rename Fr _ _ _ _ => F8; rename HidEq _ _ => hG; show Q (.str _ _) _; exact hret _ _ (backZ hG hF F8) (newsZ hG hN F8))
end Mine
end

section
open PySem PySem.W PyProof.Rows PySem.Calls PySem.Spec
open PySem.Builtin
set_option Elab.async false
set_option maxRecDepth 100000
set_option maxHeartbeats 4000000
namespace Mine
def boundApp (l : Addr) : Obj := { cls := .type "builtin_function_or_method", data := .fields #[.builtin "list.append", .ref l] }
theorem slot_mget : Slot "method_descriptor" "__get__" "method_descriptor.__get__" :=
  .of (owner := "method_descriptor") (n := "__get__") (by rw [typeLookup_type, builtinLookup_eq_fast]; kernel_rfl) (by decide +kernel) (by decide +kernel) (by decide +kernel)
    (by first | exact .inl (by decide +kernel) | exact .inr (by decide +kernel)) (by rw [isSubtype_type]; kernel_rfl)
theorem entry_mget : entryFor table "method_descriptor.__get__" = some Builtin.«method_descriptor.__get__» := entryFor_of_tree (by kernel_rfl)
theorem args_mget (a b c : Value) : argsOk "method_descriptor.__get__" ⟨[a, b, c], []⟩ := by unfold argsOk; kernel_rfl
theorem no_mset : typeLookup (.type "method_descriptor") "__set__" = pure none := by rw [typeLookup_type, builtinLookup_eq_fast]; kernel_rfl
theorem no_mdel : typeLookup (.type "method_descriptor") "__delete__" = pure none := by rw [typeLookup_type, builtinLookup_eq_fast]; kernel_rfl
section
variable {prog : Program} {w : World} {A : Around} {E : Value → Shared → Prop} {s : Shared}
theorem run_mget {a : Addr} {o : Obj} {P : Fin → Shared → Prop} (ho : s.heap.get? a = some o) (hc : o.cls = .type "list") (h : P (.done (.ret (.ref s.heap.objs.size))) { s with heap := s.heap.push (boundApp a) }) :
    wpAny (model prog w) A (Builtin.«method_descriptor.__get__» ⟨[.builtin "list.append", .ref a, .type "list"], []⟩) P E s := by
  unfold Builtin.«method_descriptor.__get__»
  refine wpAny_bind (wpAny_of_eq (a := (.builtin "list.append", some (.ref a), some (.type "list"))) (by first | rfl | kernel_rfl) ?_)
  dsimp only
  have ht : Manifest.toldItsClass.contains "list.append" = false := by decide +kernel
  rw [ht]
  rw [if_neg Bool.false_ne_true]
  have hT : s.TypeIs (.ref a) "list" := ⟨_, ho, hc⟩
  have e2 : (kfb_private% "nameAndClass") (.builtin "list.append") = pure (Str.ofString "append", .type "list") := by kernel_rfl
  refine wpAny_bind (m := (kfb_private% "checkInstance") (.builtin "list.append") (.ref a)) ?_
  refine wpAny_bind (m := (kfb_private% "nameAndClass") (.builtin "list.append")) ?_
  rw [e2]
  refine wpAny_pure ?_
  dsimp only
  have hsub : isSubtype (.type "list") (.type "list") = pure true := by rw [isSubtype_type]; kernel_rfl
  refine wpAny_bind (wpAny_isInstance hT hsub ?_)
  refine wpAny_pure ?_
  exact wpAny_bind (wpAny_newObj_type (wpAny_pure h))
theorem attr_append {a : Addr} {o : Obj} {xs : Array Value} {k : Nat} {Q : Value → Shared → Prop} (ho : s.heap.get? a = some o) (hc : o.cls = .type "list") (hdat : o.data = .seq xs k) (hd : o.dict = none)
    (h : Q (.ref s.heap.objs.size) { s with heap := s.heap.push (boundApp a), toks := s.toks + 1 }) : wpAny (model prog w) A (getAttr (.ref a) (Str.ofString "append") true) Q E s := by
  obtain ⟨c, dct, dat, sl⟩ := o
  simp only at hc hdat hd
  subst hc hdat hd
  obtain ⟨hp, g, d, tk, os⟩ := s
  have hT : ∀ tk', (⟨hp, g, d, tk', os⟩ : Shared).TypeIs (.ref a) "list" := fun _ => ⟨_, ho, rfl⟩
  have f3 := F.slot_list_getattribute.lookup
  have f4 := F.slot_list_getattribute.bind (.ref a)
  have f5 := slot_list_append.lookup
  have f6 := type_list_append
  have f7 := slot_mget.lookup
  have f8 := no_mset
  have f9 := no_mdel
  unfold getAttr getAttrBy
  repeat (any_goals (first | assumption | exact hT _ | ((with_reducible show wpAny _ _ (call (Value.builtin "list.__getattribute__") _ _) _ _ _); refine wpAny_call_entry F.slot_list_getattribute (hT _) am_entry_list_getattribute ?_ (F.args_list_getattribute_2 _ _); unfold Builtin.«object.__getattribute__») | ((with_reducible show wpAny _ _ (call (Value.builtin "method_descriptor.__get__") _ _) _ _ _); refine wpAny_call_entry slot_mget f6 entry_mget (run_mget ho rfl ?_) (args_mget _ _ _)) | wp_step))
  exact ⟨_, rfl, wpAny_pure ⟨_, rfl, wpAny_pure h⟩⟩
end
end Mine
end

section
open PySem PySem.W PyProof.Rows PySem.Calls PySem.Spec
open PySem.Builtin
set_option Elab.async false
set_option maxRecDepth 100000
set_option maxHeartbeats 4000000
namespace Mine
def sgA : Manifest.Signature := (List.lookup (String.ofList ['d', 'n', 'e', 'p', 'p', 'a'].reverse) Manifest.sig_list).get (by decide +kernel)
theorem sig_append : Manifest.signature? "list.append" = some sgA := by rw [signature?_of (id := "list.append") (n := ['d', 'n', 'e', 'p', 'p', 'a']) (o := ['t', 's', 'i', 'l']) (by kernel_rfl) PySem.F.owner_list]; exact (Option.some_get _).symm
theorem kind_append : builtinKind "list.append" = some .method := by decide +kernel
theorem va_append : Manifest.varargsMethods.contains "list.append" = false := by decide +kernel
theorem sub_lm : isSubtype (.type "list") (.type "module") = pure false := by rw [isSubtype_type]; kernel_rfl
theorem check_appendW {M : Model} {A : Around} {E : Value → Shared → Prop} {s : Shared} {l : Addr} {v : Value} {its : Array Value} {n : Nat} {Q : Unit → Shared → Prop} (ho : s.heap.get? l = some (listOf its n)) (h : Q () s) : wpAny M A (checkBoundCall "list.append" ⟨[.ref l, v], []⟩) Q E s := by
  have hsig := sig_append
  have hT : s.TypeIs (.ref l) "list" := ⟨_, ho, rfl⟩
  unfold checkBoundCall
  rw [hsig]
  dsimp only
  rw [kind_append]
  dsimp only
  refine KFB.if_not (by decide) ?_
  refine wpAny_bind (wpAny_isInstance hT sub_lm ?_)
  rw [va_append]
  refine KFB.if_not (by decide) ?_
  refine wpAny_bind (m := isType (.ref l)) ?_
  unfold isType
  refine wpAny_bind (wpAny_loadPart ho ?_)
  refine wpAny_pure ?_
  refine wpAny_bind ?_
  refine wpAny_typeOf hT ?_
  dsimp only
  exact wpAny_of_eq (a := ()) (by kernel_rfl) h
theorem quiet_append {as : Args} : (Code.builtin "list.append" as).quiet = true := Code.quiet_builtin _ (by decide +kernel)
def AppAt (b l : Addr) (h : Heap) : Prop := h.get? b = some (boundApp l)
section
variable {prog : Program} {w : World} {M : Model} {A : Around} {E : Value → Shared → Prop} {s : Shared} {h₀ : Heap} {L : Addr} {m : Str → Option Value} {news news' : List (Addr × Obj)}
theorem appAt_of {b l : Addr} {h : Heap} (N : News h₀ L h news) (hm : (b, boundApp l) ∈ news) : AppAt b l h := N.get hm
theorem attr_appendK {a : Addr} {its : Array Value} {n : Nat} {Q : Value → Shared → Prop} (F : Fr h₀ L s.heap m) (N : News h₀ L s.heap news) (hm : (a, listOf its n) ∈ news)
    (h : ∀ b h', Fr h₀ L h' m → News h₀ L h' ((b, boundApp a) :: news) → (∀ p ∈ news, p.1 < b) → Q (.ref b) { s with heap := h', toks := s.toks + 1 }) : wpAny (model prog w) A (getAttr (.ref a) (Str.ofString "append") true) Q E s :=
  attr_append (N.get hm) rfl rfl rfl (h _ _ (F.push _) (News.push F N _) fun p hp => Heap.lt_size (N p hp).1)
theorem callWith_app {pos : Pos} {u l : Addr} {first : List Value} {args : List (Bool × Sem Value)} {Q : Value → Shared → Prop} (hplain : args.any (·.1) = false)
    (h : wpAny M A (evalArgs (.ref u) true args []) (fun x s₁ => AppAt u l s₁.heap ∧ wpAny M A (call (.ref u) (first ++ x.pos) x.kw) Q E s₁) E s) : wpAny M A (callWith pos (.ref u) first args []) Q E s := by
  unfold callWith
  refine wpAny_bind (wpAny_holding (wpAny_mono h (fun x s₁ h₁ => wpAny_bind (wpAny_standAt ?_)) fun _ _ x => x))
  obtain ⟨ho, hcall⟩ := h₁
  simp only [hplain, List.any_nil, Bool.or_false]
  refine wpAny_bind (m := keeperOf (.ref u)) ?_
  unfold keeperOf
  refine wpAny_bind (wpAny_load ho ?_)
  simp only [boundApp, show (Value.type "builtin_function_or_method" != Value.type "method") = true by decide, show (Value.type "builtin_function_or_method" == Value.type "builtin_function_or_method" || Value.type "builtin_function_or_method" == Value.type "method-wrapper") = true by decide, if_true]
  refine wpAny_pure ?_
  exact wpAny_bind (wpAny_mono hcall (fun r s₂ hr => wpAny_bind (wpAny_holding (wpAny_point (wpAny_pure hr)))) fun _ _ x => x)
theorem callWith_appK {pos : Pos} {u l : Addr} {first : List Value} {env : Env} {e : Expr} {rest : List Expr} {Q : Value → Shared → Prop} (_N : News h₀ L s.heap news) (_hm : (u, boundApp l) ∈ news)
    (h : wpAny M A (spliced (backTo pos (starEach (e :: rest) env))) (fun vs s₁ => AppAt u l s₁.heap ∧ wpAny M A (call (.ref u) (first ++ vs)) Q E s₁) E s)
    (he : starEach (e :: rest) env = (false, eval e env) :: starEach rest env := by rfl) (hplain : (backTo pos (starEach rest env)).any (·.1) = false := by rfl) :
    wpAny M A (callWith pos (.ref u) first (backTo pos (starEach (e :: rest) env)) []) Q E s := by
  rw [he] at h ⊢
  refine callWith_app (l := l) (by show (false || (backTo pos (starEach rest env)).any (·.1)) = false; rw [hplain]; rfl) ?_
  exact evalArgs_plain h
theorem call_app {b l : Addr} {its : Array Value} {n : Nat} {x : Value} {Q : Value → Shared → Prop} (hb : AppAt b l s.heap) (ho : s.heap.get? l = some (listOf its n))
    (h : ∀ h', Heap.SameBut l s.heap h' → h'.get? l = some (listOf (its.push x) (n + 1)) → Q .none { s with heap := h' }) (hsz : its.size ≤ sizeLine) :
    wpAny (model prog w) A (call (.ref b) [x]) Q E s := by
  refine wpAny_call (codeAny_of_tree ?_)
  show wpAny _ A.in1 (callAny (.ref b) ⟨[x], []⟩) _ _ s
  simp only [callAny]
  refine wpAny_bind (wpAny_load hb ?_)
  simp only [boundApp, show (Value.type "builtin_function_or_method" == Value.type "method" || Value.type "builtin_function_or_method" == Value.type "builtin_function_or_method" || Value.type "builtin_function_or_method" == Value.type "method-wrapper") = true by decide, if_true]
  refine KFB.if_so (by decide) ?_
  refine wpAny_bind (check_appendW ho ?_)
  refine wpAny_bind (wpAny_pure (wpAny_pure ?_))
  refine ⟨quiet_append, codeAny_builtin entry_list_append ?_⟩
  show wpAny _ _ (updateSeq l (·.push x) >>= fun _ => ret .none) _ _ s
  refine wpAny_bind ?_
  refine wpAny_updateSeq (hz := hsz) ho rfl (wpAny_pure ?_) (by simp; omega)
  refine h _ (Heap.SameBut.update ..) ?_
  rw [Heap.get?_update_self _ ho (by rw [mapSeq_push]; rfl), mapSeq_push]
theorem call_appK {b l : Addr} {its : Array Value} {n : Nat} {x : Value} {Q : Value → Shared → Prop} (F : Fr h₀ L s.heap m) (N : News h₀ L s.heap news) (hm : (b, boundApp l) ∈ news) (U : Upd l (listOf its n) (listOf (its.push x) (n + 1)) news news')
    (h : ∀ h', Fr h₀ L h' m → News h₀ L h' news' → Q .none { s with heap := h' }) (hsz : its.size ≤ sizeLine) : wpAny (model prog w) A (call (.ref b) [x]) Q E s := by
  have hb := appAt_of N hm
  obtain ⟨pre, post, rfl, rfl, a, c⟩ := U.split
  have z := N (l, listOf its n) (List.mem_append.mpr (.inr (.head _)))
  exact call_app hb z.1 (fun h' hs ho' => h h' (F.change hs z.2.1 z.2.2) (news_set N a c hs ho')) hsz
end
end Mine
end

section
open PySem PySem.W PyProof.Rows PySem.Calls PySem.Spec
set_option Elab.async false
set_option maxRecDepth 100000
set_option maxHeartbeats 4000000
namespace Mine
def strOf : Value → Str
  | .str x _ => x
  | _ => Str.empty
noncomputable def es215 (P : Params) : Array DictEntry := match (Mine.hd.heap_1 P).lookup 215 with
  | some o => (match o.data with | .dict es _ => es | _ => #[])
  | none => #[]
theorem look215 (P : Params) : (Mine.hd.heap_1 P).lookup 215 = some ⟨.type "dict", none, .dict (es215 P) 7, #[]⟩ := by kernel_rfl
theorem keys215 (P : Params) : KeysLit P (es215 P).toList :=
  ⟨⟨_, _, rfl, rfl⟩, ⟨_, _, rfl, rfl⟩, ⟨_, _, rfl, rfl⟩, ⟨_, _, rfl, rfl⟩, ⟨_, _, rfl, rfl⟩, ⟨_, _, rfl, rfl⟩, ⟨_, _, rfl, rfl⟩, trivial⟩
theorem len215 (P : Params) : (es215 P).size = 7 := by kernel_rfl
def nod : List Str → Bool
  | [] => true
  | a :: r => !r.contains a && nod r
theorem nod_of : ∀ {l : List Str}, nod l = true → l.Nodup
  | [], _ => .nil
  | a :: r, h => by
    simp only [nod, Bool.and_eq_true, Bool.not_eq_true'] at h
    refine List.nodup_cons.mpr ⟨fun m => ?_, nod_of h.2⟩
    have : r.contains a = true := by simpa using m
    rw [this] at h; cases h.1
theorem nodup215 (P : Params) : ((es215 P).toList.map fun e => strOf e.key).Nodup := nod_of (by kernel_rfl)
section
variable {prog : Program} {w : World} {A : Around} {E : Value → Shared → Prop} {s : Shared} {h₀ h : Heap} {L a : Addr} {m : Str → Option Value} {K : Frag} {es : Array DictEntry} {n : Nat} {news : List (Addr × Obj)}
theorem pairs_of : ∀ {l : List DictEntry}, KeysLit w.params l → Pairs (strKind prog w) l (l.map fun e => (strOf e.key, e.val))
  | [], _ => .nil
  | e :: r, ⟨⟨x, t, h1, _⟩, h2⟩ => .cons (by show (strKind prog w).is (strOf e.key) e.key = true; rw [h1]; exact strKind_is prog w x t) rfl (pairs_of h2)
theorem dictAt_K (X : K.In h) (hl : K.lookup a = some ⟨.type "dict", none, .dict es n, #[]⟩) (hk : KeysLit w.params es.toList) (hn : (es.toList.map fun e => strOf e.key).Nodup) : h.DictAt (strKind prog w) a (es.toList.map fun e => (strOf e.key, e.val)) n :=
  ⟨_, es, X _ _ hl, ⟨rfl, rfl, rfl⟩, rfl, fun e he => by
    obtain ⟨x, t, e1, e2⟩ := hk.all e (Array.mem_toList_iff.mpr he)
    exact ⟨x, by rw [e1]; exact strKind_is prog w x t, e2⟩, pairs_of hk, by rw [List.map_map]; exact hn⟩
theorem items_gm {P : Params} {pl : Sem Bool} {Q : Value × List Value → Shared → Prop} (X : (Mine.hd.heap_1 P).In h₀) (F : Fr h₀ L s.heap m) (h : Q (.builtin "dict.items", [.ref 215]) s) : wpAny (model prog w) A (getMethod (.ref 215) (Str.ofString "items") pl) Q E s :=
  have hk := (X.keeps F.keep) _ _ (look215 P)
  getMethod_builtin ⟨_, hk, rfl⟩ PySem.F.plainAttrs_dict PySem.F.slot_dict_items PySem.F.type_dict_items (fun a e => by cases e; exact ⟨_, hk, rfl⟩) h
def itemsV : Obj := { cls := .type "dict_items", data := .fields #[.ref 215] }
theorem items_view {Q : Value → Shared → Prop} (X : (Mine.hd.heap_1 w.params).In h₀) (F : Fr h₀ L s.heap m) (N : News h₀ L s.heap news)
    (h : ∀ (D : Addr) h', Fr h₀ L h' m → News h₀ L h' ((D, itemsV) :: news) → (∀ q ∈ news, q.1 < D) → Q (.ref D) { s with heap := h' }) : wpAny (model prog w) A (call (.builtin "dict.items") [.ref 215]) Q E s :=
  have hD := (dictAt_K (prog := prog) (X.keeps F.keep) (look215 _) (keys215 _) (nodup215 _)).dictOf
  call_meetsIn PySem.F.slot_dict_items hD.typeIs PySem.F.entry_dict_items (PySem.F.args_dict_items_1 _) (meets_dict_items (strKind prog w) 215 (by decide)) ⟨⟨_, hD⟩, h _ _ (F.push _) (News.push F N _) fun q hq => Heap.lt_size (N q hq).1⟩
theorem items_list {v : Addr} {Q : Value → Shared → Prop} (hh : A.handled = none) (X : (Mine.hd.heap_1 w.params).In h₀) (F : Fr h₀ L s.heap m) (N : News h₀ L s.heap news) (hvw : (v, itemsV) ∈ news)
    (h : ∀ (D : Addr) (acc : Array Value) c h' tk, Fr h₀ L h' m → News h₀ L h' ((D, listOf acc c) :: news) → (∀ q ∈ news, q.1 < D) → Q (.ref D) { s with heap := h', toks := tk }) : wpAny (model prog w) A (call (.type "list") [.ref v]) Q E s := by
  have hD := dictAt_K (prog := prog) (X.keeps F.keep) (look215 _) (keys215 _) (nodup215 _)
  refine kdx_call (knd := strKind prog w) hh ⟨_, (N _ hvw).1, rfl, rfl⟩ hD (by rw [List.length_map, Array.length_toList, len215]; decide) fun h' tk acc c as hk hS hl hG hacc => ?_
  refine h s.heap.objs.size acc c h' tk (F.keeps hk) (fun q hq => ?_) fun q hq => Heap.lt_size (N q hq).1
  rcases List.mem_cons.mp hq with rfl | hq
  · exact ⟨hS, kdx_fresh F (Nat.le_refl _)⟩
  · exact ⟨hk _ _ (N q hq).1, (N q hq).2⟩
end
end Mine
end

section
open PySem PySem.W PyProof.Rows PySem.Calls PySem.Spec
set_option Elab.async false
set_option maxRecDepth 100000
set_option maxHeartbeats 4000000
set_option rowWalk.seconds 0
namespace Mine
theorem formatparam_R (w : World) (p v : Str) (t1 t2 : Tok) (mean : ExcName → Option Value) (mg mb : Str → Option Value) (news : List (Addr × Obj)) (dp un : Nat) (gd : Option (List Code)) (cn : Str) (cs : Scope) (a : Addr) (ccd : Value) (cl : List (Str × Addr)) (outer : List Env) (A₀ : Around) (base h₀ : Heap) (L : Addr) (m : Str → Option Value) (s : Shared) (Q E : Value → Shared → Prop)
    (hB : Below A₀ base outer h₀) (hF : Fr h₀ L s.heap m) (hX : (Mine.hd.heap_1 w.params).In h₀) (hN : News h₀ L s.heap news) (hT : Top Mine.view LO mean mg mb h₀) (hcs : cs.kind = .function) (hpre : p.length ≤ 10 ∧ v.length ≤ 4000) (hdp : dp + 2 < recursionLimit) (hun : un + 8 * 2 < cLine)
    (hret : ∀ (r : Str) (t : Tok) (h' : Heap) (tk' : Nat), Hid (fpF p v = r) → r.length ≤ p.length + 3 + 4 * v.length → Fr h₀ L h' m → News h₀ L h' news → Q (.str r t) ⟨h', s.gens, s.drawn, tk', s.os⟩) : wpAny (model PySem.Challenge.rw_uq0033_01.row.prog w) (ktrTop dp un gd cn cs L a ccd cl outer) (call (.ref 82) [.str p t1, .str v t2]) Q E s :=
  formatparam_C w p v t1 t2 mean mg mb news dp un gd cn cs a ccd cl outer A₀ base h₀ L m s Q E hB hF hX hN hT hcs hpre hdp hun fun t h' tk' F N => hret _ t h' tk' ⟨rfl⟩ (fp_len p v) F N
theorem esc_R (w : World) (x : Str) (t1 : Tok) (mean : ExcName → Option Value) (mg mb : Str → Option Value) (news : List (Addr × Obj)) (dp un : Nat) (gd : Option (List Code)) (cn : Str) (cs : Scope) (a : Addr) (ccd : Value) (cl : List (Str × Addr)) (outer : List Env) (A₀ : Around) (base h₀ : Heap) (L : Addr) (m : Str → Option Value) (s : Shared) (Q E : Value → Shared → Prop)
    (hB : Below A₀ base outer h₀) (hF : Fr h₀ L s.heap m) (hX : (Mine.hd.heap_1 w.params).In h₀) (hN : News h₀ L s.heap news) (hT : Top Mine.view LO mean mg mb h₀) (hcs : cs.kind = .function) (hpre : x.length ≤ 8000) (hdp : dp + 2 < recursionLimit) (hun : un + 8 * 2 < cLine)
    (hret : ∀ (r : Str) (t : Tok) (h' : Heap) (tk' : Nat), Hid (escF x = r) → r.length ≤ 400 * x.length → Fr h₀ L h' m → News h₀ L h' news → Q (.str r t) ⟨h', s.gens, s.drawn, tk', s.os⟩) : wpAny (model PySem.Challenge.rw_uq0033_01.row.prog w) (ktrTop dp un gd cn cs L a ccd cl outer) (call (.ref 332) [.str x t1]) Q E s :=
  esc_C w x t1 mean mg mb news dp un gd cn cs a ccd cl outer A₀ base h₀ L m s Q E hB hF hX hN hT hcs hpre hdp hun fun t h' tk' F N => hret _ t h' tk' ⟨rfl⟩ (esc_len x) F N
end Mine
end

section
open PySem PySem.W PyProof.Rows PySem.Calls PySem.Spec
set_option Elab.async false
set_option maxRecDepth 100000
set_option maxHeartbeats 4000000
set_option rowWalk.seconds 0
namespace Mine
structure WrOk (b : Addr) (es : List DictEntry) : Prop where
  write : getL (Str.ofString "_write") es = some (some (.ref b))
  depth : ∃ t, getL (Str.ofString "_ignored_depth") es = some (some (.int 0 t))
  done : getL (Str.ofString "_root_done") es = some (some (.bool false))
  seen : getL (Str.ofString "_root_seen") es = some (some (.bool false))
  pi : getL (Str.ofString "pi") es = some none
theorem writer_C (w : World) (b : Addr) (mean : ExcName → Option Value) (mg mb : Str → Option Value) (news : List (Addr × Obj)) (dp un : Nat) (gd : Option (List Code)) (cn : Str) (cs : Scope) (a : Addr) (ccd : Value) (cl : List (Str × Addr)) (outer : List Env) (A₀ : Around) (base h₀ : Heap) (L : Addr) (m : Str → Option Value) (s : Shared) (Q E : Value → Shared → Prop)
    (hB : Below A₀ base outer h₀) (hF : Fr h₀ L s.heap m) (hX : (Mine.hd.heap_1 w.params).In h₀) (hN : News h₀ L s.heap news) (hT : Top Mine.view LO mean mg mb h₀) (hcs : cs.kind = .function) (hdp : dp + 2 < recursionLimit) (hun : un + 8 * 2 < cLine)
    (hret : ∀ (x d : Addr) (es : List DictEntry) (n : Nat) (h' : Heap) (tk' : Nat), WrOk b es → (∀ p ∈ news, p.1 < d) → d < x → Fr h₀ L h' m → News h₀ L h' ((x, instObj 321 d) :: (d, dictOf es n) :: news) → Q (.ref x) ⟨h', s.gens, s.drawn, tk', s.os⟩) : wpAny (model PySem.Challenge.rw_uq0033_01.row.prog w) (ktrTop dp un gd cn cs L a ccd cl outer) (call (.ref 321) [.ref b]) Q E s := by
  w_top off
  k_with_none
  (k_with "execs cons" => (refine execs_consP (by first | assumption | omega | (dsimp only; omega) | (dsimp only; assumption)) ?_; (try dsimp only)))
  (k_with "execs cons" => ((fail_if_success (fail_if_success k_gentoks)); k_here; (refine gen_toks (by first | assumption | omega) ?_); intro tk9 hPos9))
  (k_with "execs nil" => ((fail_if_success (fail_if_success k_gentoks)); k_here; (refine gen_toks (by first | assumption | omega) ?_); intro tk9 hPos9))
  (k_with "call builtin:str.replace" => (k_dflt ((try dsimp only [List.cons_append, List.nil_append]); first | refine replaceV 2 (by ((try dsimp only); omega)) (by show @Ne Nat _ _; omega) (by show @Ne Nat _ _; omega) (by show @Ne Nat _ _; omega) (by decide +kernel) (by first | omega | decide +kernel) (by decide +kernel) (by decide) (by decide +kernel) (by decide +kernel) ?_ | refine replaceV 4 (by ((try dsimp only); omega)) (by show @Ne Nat _ _; omega) (by show @Ne Nat _ _; omega) (by show @Ne Nat _ _; omega) (by decide +kernel) (by first | omega | decide +kernel) (by decide +kernel) (by decide) (by decide +kernel) (by decide +kernel) ?_ | refine replaceV 5 (by ((try dsimp only); omega)) (by show @Ne Nat _ _; omega) (by show @Ne Nat _ _; omega) (by show @Ne Nat _ _; omega) (by decide +kernel) (by first | omega | decide +kernel) (by decide +kernel) (by decide) (by decide +kernel) (by decide +kernel) ?_); k_dflt (intro r9 t9 k9 hr9 hl9 hk9; (try dsimp only))))
  (k_with "getMethod ref" => ((with_reducible show wpAny _ _ (getMethod (Value.ref 74) _ _) _ _ _); k_here; k_dflt (refine' gm_search (by k_asm) (by k_asm) (by exact look74 _) (by rfl) (by rfl) ?_; k_whole)))
  (k_with "getMethod ref" => ((with_reducible show wpAny _ _ (getMethod (Value.ref 69) _ _) _ _ _); k_here; k_dflt (refine' gm_search (by k_asm) (by k_asm) (by exact look69 _) (by rfl) (by rfl) ?_; k_whole)))
  (k_with "call builtin:re.Pattern.search" => (k_here; k_dflt (first | (refine' search74 (by k_asm) (by k_asm) (by first | assumption | decide +kernel) ?_; k_whole) | (refine' search69 (by k_asm) (by k_asm) (by first | assumption | decide +kernel) ?_; k_whole))))
  (k_with "call ref" => ((with_reducible show wpAny _ _ (call (Value.ref 82) _) _ _ _); k_here; k_dflt (refine formatparam_R _ _ _ _ _ _ _ _ _ _ _ _ _ _ _ _ _ _ _ _ _ _ _ _ _ _ (by k_asm) (by k_asm) (by k_asm) (by k_asm) (by k_asm) rfl ⟨by first | assumption | omega, by first | assumption | omega⟩ (by first | omega | ktr_room) (by first | omega | ktr_units) ?_); intro r9 t9 h9 tk9 hr9 hl9 F9 N9; (try dsimp only)))
  (k_with "call ref" => ((with_reducible show wpAny _ _ (call (Value.ref 332) _) _ _ _); k_here; k_dflt (refine esc_R _ _ _ _ _ _ _ _ _ _ _ _ _ _ _ _ _ _ _ _ _ _ _ _ (by k_asm) (by k_asm) (by k_asm) (by k_asm) (by k_asm) rfl (by first | assumption | omega) (by first | omega | ktr_room) (by first | omega | ktr_units) ?_); intro r9 t9 h9 tk9 hr9 hl9 F9 N9; (try dsimp only)))
  (k_with "call ref" => ((with_reducible show wpAny _ _ (call (Value.ref 104) _ _) _ _ _); k_here; k_dflt (refine conv_C _ _ _ _ _ _ _ _ _ _ _ _ _ _ _ _ _ _ _ _ _ _ _ _ _ _ (by k_asm) (by k_asm) (by k_asm) (by k_asm) (by k_asm) rfl (by first | assumption | decide +kernel) (by first | omega | ktr_room) (by first | omega | ktr_units) ?_); intro h9 tk9 F9 N9; (try dsimp only)))
  (k_with "getAttr ref" => ((with_reducible show wpAny _ _ (getAttr (Value.ref _) (Str.ofString "append") _) _ _ _); k_here; k_dflt (refine attr_appendK (by k_asm) (by k_asm) (by k_mem) ?_); intro x' h' F' N' l1; (try k_lt l1); (try k_sweep)))
  (k_with "callWith ref" => ((with_reducible show wpAny _ _ (callWith _ (Value.ref _) _ (backTo _ (starEach (_ :: _) _)) []) _ _ _); k_here; k_dflt (refine callWith_appK (by k_asm) (by k_mem) ?_)))
  (k_with "And" => ((with_reducible show AppAt _ _ _ ∧ _); k_dflt (refine ⟨appAt_of (by k_asm) (by k_mem), ?_⟩); (try dsimp only [List.nil_append, List.cons_append])))
  (k_with "call ref" => ((with_reducible show wpAny _ _ (call (Value.ref _) [Value.str _ _]) _ _ _); k_here; k_dflt (refine call_appK (by k_asm) (by k_asm) (by k_mem) (by k_upd) ?_ (by size_fits)); intro h' F' N'; (try k_sweep)))
  (k_with "getMethod ref" => ((with_reducible show wpAny _ _ (getMethod (Value.ref 215) _ _) _ _ _); k_here; k_dflt (refine items_gm (by k_asm) (by k_asm) ?_)))
  (k_with "call builtin:dict.items" => ((with_reducible show wpAny _ _ (call (Value.builtin "dict.items") [Value.ref 215]) _ _ _); k_here; k_dflt (refine items_view (by k_asm) (by k_asm) (by k_asm) ?_); intro D' h' F' N' l1; (try k_lt l1)))
  (k_with "call type:list" => ((with_reducible show wpAny _ _ (call (Value.type "list") [Value.ref _]) _ _ _); k_here; k_dflt (refine items_list (by rfl) (by k_asm) (by k_asm) (by k_asm) (by k_mem) ?_); intro D' a' c' h' tk' F' N' l1; (try k_lt l1); (try k_sweep)))
  rcases cs with ⟨ck⟩
  dsimp only at hcs
  subst hcs
  k_steps
  rename Fr _ _ _ _ => F8
  rename News _ _ _ _ => N8
  refine hret _ _ _ _ _ _ ⟨by k_get, ⟨_, by k_get⟩, by k_get, by k_get, by k_get⟩ (by assumption) (by assumption) F8 (fun p hp => N8 p (.tail _ (.tail _ (.tail _ (.tail _ (.tail _ (.tail _ (.tail _ (.tail _ (.tail _ (.tail _ hp)))))))))))
end Mine
end

section
open PySem PySem.W PyProof.Rows PySem.Calls PySem.Spec
set_option Elab.async false
set_option maxRecDepth 100000
set_option maxHeartbeats 4000000
set_option rowWalk.seconds 0
namespace Mine
def hdrF (x2 x3 x4 : Str) : Str := Txt.join (Str.ofString "; ") [x2, fpF (Str.ofString "a-") x3, fpF (Str.ofString "q") x4]
theorem rep_a_ : Txt.replace (Str.ofString "a_") (Str.ofString "_") (Str.ofString "-") = Str.ofString "a-" := by decide +kernel
theorem rep_q_ : Txt.replace (Str.ofString "q") (Str.ofString "_") (Str.ofString "-") = Str.ofString "q" := by decide +kernel
theorem hdr_eq {x2 x3 x4 ra r3 rq r4 : Str} (h2 : Hid (fpF ra x3 = r3)) (h4 : Hid (fpF rq x4 = r4)) (h1 : Hid (Txt.replace (Str.ofString "a_") (Str.ofString "_") (Str.ofString "-") = ra)) (h3 : Hid (Txt.replace (Str.ofString "q") (Str.ofString "_") (Str.ofString "-") = rq)) :
    hdrF x2 x3 x4 = Txt.join (Str.ofString "; ") [x2, r3, r4] := by
  rw [← h2.get, ← h4.get, ← h1.get, ← h3.get, rep_a_, rep_q_]; rfl
theorem join3 (s a b c : Str) : Txt.join s [a, b, c] = a ++ s ++ (b ++ s ++ c) := by
  show Builtin.Str.glued _ _ = _
  rw [StrLaws.glued_eq_join]; rfl
theorem hdr_len {x2 x3 x4 : Str} (h2 : x2.length ≤ 20) (h3 : x3.length + x4.length ≤ 1600) : (hdrF x2 x3 x4).length ≤ 6500 := by
  have k1 := fp_len (Str.ofString "a-") x3
  have k2 := fp_len (Str.ofString "q") x4
  have e1 : (Str.ofString "a-").length = 2 := by decide +kernel
  have e2 : (Str.ofString "q").length = 1 := by decide +kernel
  have e3 : (Str.ofString "; ").length = 2 := by decide +kernel
  unfold hdrF
  rw [join3, Str.length_append, Str.length_append, Str.length_append, Str.length_append]
  omega
theorem hdr_hid {x2 x3 x4 r : Str} (h : hdrF x2 x3 x4 = r) : Hid (hdrF x2 x3 x4 = r) := ⟨h⟩
theorem news4 {h₀ h : Heap} {L : Addr} {a b c : Addr × Obj} {r : List (Addr × Obj)} (N : News h₀ L h (a :: b :: c :: r)) : News h₀ L h (a :: r) := fun p hp => N p ((List.mem_cons.mp hp).elim (fun e => e ▸ .head _) fun e => .tail _ (.tail _ (.tail _ e)))
abbrev tupO (vs : Array Value) : Obj := { cls := .type "tuple", data := .seq vs }
theorem add_C (w : World) (x d l : Addr) (tk0 : Tok) (x1 x2 x3 x4 : Str) (t1 t2 t3 t4 : Tok) (mean : ExcName → Option Value) (mg mb : Str → Option Value) (dp un : Nat) (gd : Option (List Code)) (cn : Str) (cs : Scope) (a : Addr) (ccd : Value) (cl : List (Str × Addr)) (outer : List Env) (A₀ : Around) (base h₀ : Heap) (L : Addr) (m : Str → Option Value) (s : Shared) (Q E : Value → Shared → Prop)
    (hB : Below A₀ base outer h₀) (hF : Fr h₀ L s.heap m) (hX : (Mine.hd.heap_1 w.params).In h₀) (hN : News h₀ L s.heap [(x, instObj 205 d), (d, dictOf [{ hash := PyData.keyHash w.params (Str.ofString "_headers"), key := .str (Str.ofString "_headers") tk0, val := .ref l }] 1), (l, listOf #[] 0)]) (hT : Top Mine.view LO mean mg mb h₀) (hcs : cs.kind = .function)
    (hpre : x1.length ≤ 10 ∧ okB x1 = true ∧ x2.length ≤ 20 ∧ x3.length + x4.length ≤ 1600 ∧ okB x2 = true ∧ okB x3 = true ∧ okB x4 = true) (l1 : l < d) (l2 : d < x) (hdp : dp + 4 < recursionLimit) (hun : un + 8 * 4 < cLine)
    (hret : ∀ (T : Addr) (r : Str) (t : Tok) (h' : Heap) (tk' : Nat), Hid (hdrF x2 x3 x4 = r) → x < T ∧ d < T ∧ l < T → Fr h₀ L h' m → News h₀ L h' [(T, tupO #[.str x1 t1, .str r t]), (x, instObj 205 d), (d, dictOf [{ hash := PyData.keyHash w.params (Str.ofString "_headers"), key := .str (Str.ofString "_headers") tk0, val := .ref l }] 1), (l, listOf #[.ref T] 1)] → Q .none ⟨h', s.gens, s.drawn, tk', s.os⟩) : wpAny (model PySem.Challenge.rw_uq0033_01.row.prog w) (ktrTop dp un gd cn cs L a ccd cl outer) (call (.ref 202) [.ref x, .str x1 t1, .str x2 t2] [(Str.ofString "a_", .str x3 t3), (Str.ofString "q", .str x4 t4)]) Q E s := by
  w_top off
  k_with_none
  (k_with "execs cons" => (refine execs_consP (by first | assumption | omega | (dsimp only; omega) | (dsimp only; assumption)) ?_; (try dsimp only)))
  (k_with "execs cons" => ((fail_if_success (fail_if_success k_gentoks)); k_here; (refine gen_toks (by first | assumption | omega) ?_); intro tk9 hPos9))
  (k_with "execs nil" => ((fail_if_success (fail_if_success k_gentoks)); k_here; (refine gen_toks (by first | assumption | omega) ?_); intro tk9 hPos9))
  (k_with "call builtin:str.replace" => (k_dflt ((try dsimp only [List.cons_append, List.nil_append]); first | refine replaceV 2 (by ((try dsimp only); omega)) (by show @Ne Nat _ _; omega) (by show @Ne Nat _ _; omega) (by show @Ne Nat _ _; omega) (by decide +kernel) (by first | omega | decide +kernel) (by decide +kernel) (by decide) (by decide +kernel) (by decide +kernel) ?_ | refine replaceV 4 (by ((try dsimp only); omega)) (by show @Ne Nat _ _; omega) (by show @Ne Nat _ _; omega) (by show @Ne Nat _ _; omega) (by decide +kernel) (by first | omega | decide +kernel) (by decide +kernel) (by decide) (by decide +kernel) (by decide +kernel) ?_ | refine replaceV 5 (by ((try dsimp only); omega)) (by show @Ne Nat _ _; omega) (by show @Ne Nat _ _; omega) (by show @Ne Nat _ _; omega) (by decide +kernel) (by first | omega | decide +kernel) (by decide +kernel) (by decide) (by decide +kernel) (by decide +kernel) ?_); k_dflt (intro r9 t9 k9 hr9 hl9 hk9; (try dsimp only))))
  (k_with "getMethod ref" => ((with_reducible show wpAny _ _ (getMethod (Value.ref 74) _ _) _ _ _); k_here; k_dflt (refine' gm_search (by k_asm) (by k_asm) (by exact look74 _) (by rfl) (by rfl) ?_; k_whole)))
  (k_with "getMethod ref" => ((with_reducible show wpAny _ _ (getMethod (Value.ref 69) _ _) _ _ _); k_here; k_dflt (refine' gm_search (by k_asm) (by k_asm) (by exact look69 _) (by rfl) (by rfl) ?_; k_whole)))
  (k_with "call builtin:re.Pattern.search" => (k_here; k_dflt (first | (refine' search74 (by k_asm) (by k_asm) (by first | assumption | decide +kernel) ?_; k_whole) | (refine' search69 (by k_asm) (by k_asm) (by first | assumption | decide +kernel) ?_; k_whole))))
  (k_with "call ref" => ((with_reducible show wpAny _ _ (call (Value.ref 82) _) _ _ _); k_here; k_dflt (refine formatparam_R _ _ _ _ _ _ _ _ _ _ _ _ _ _ _ _ _ _ _ _ _ _ _ _ _ _ (by k_asm) (by k_asm) (by k_asm) (by k_asm) (by k_asm) rfl ⟨by first | assumption | omega, by first | assumption | omega⟩ (by first | omega | ktr_room) (by first | omega | ktr_units) ?_); intro r9 t9 h9 tk9 hr9 hl9 F9 N9; (try dsimp only)))
  (k_with "call ref" => ((with_reducible show wpAny _ _ (call (Value.ref 332) _) _ _ _); k_here; k_dflt (refine esc_R _ _ _ _ _ _ _ _ _ _ _ _ _ _ _ _ _ _ _ _ _ _ _ _ (by k_asm) (by k_asm) (by k_asm) (by k_asm) (by k_asm) rfl (by first | assumption | omega) (by first | omega | ktr_room) (by first | omega | ktr_units) ?_); intro r9 t9 h9 tk9 hr9 hl9 F9 N9; (try dsimp only)))
  (k_with "call ref" => ((with_reducible show wpAny _ _ (call (Value.ref 104) _ _) _ _ _); k_here; k_dflt (refine conv_C _ _ _ _ _ _ _ _ _ _ _ _ _ _ _ _ _ _ _ _ _ _ _ _ _ _ (by k_asm) (by k_asm) (by k_asm) (by k_asm) (by k_asm) rfl (by first | assumption | decide +kernel) (by first | omega | ktr_room) (by first | omega | ktr_units) ?_); intro h9 tk9 F9 N9; (try dsimp only)))
  (k_with "getAttr ref" => ((with_reducible show wpAny _ _ (getAttr (Value.ref _) (Str.ofString "append") _) _ _ _); k_here; k_dflt (refine attr_appendK (by k_asm) (by k_asm) (by k_mem) ?_); intro x' h' F' N' l1; (try k_lt l1); (try k_sweep)))
  (k_with "callWith ref" => ((with_reducible show wpAny _ _ (callWith _ (Value.ref _) _ (backTo _ (starEach (_ :: _) _)) []) _ _ _); k_here; k_dflt (refine callWith_appK (by k_asm) (by k_mem) ?_)))
  (k_with "And" => ((with_reducible show AppAt _ _ _ ∧ _); k_dflt (refine ⟨appAt_of (by k_asm) (by k_mem), ?_⟩); (try dsimp only [List.nil_append, List.cons_append])))
  (k_with "call ref" => ((with_reducible show wpAny _ _ (call (Value.ref _) [Value.str _ _]) _ _ _); k_here; k_dflt (refine call_appK (by k_asm) (by k_asm) (by k_mem) (by k_upd) ?_ (by size_fits)); intro h' F' N'; (try k_sweep)))
  (k_with "getMethod ref" => ((with_reducible show wpAny _ _ (getMethod (Value.ref 215) _ _) _ _ _); k_here; k_dflt (refine items_gm (by k_asm) (by k_asm) ?_)))
  (k_with "call builtin:dict.items" => ((with_reducible show wpAny _ _ (call (Value.builtin "dict.items") [Value.ref 215]) _ _ _); k_here; k_dflt (refine items_view (by k_asm) (by k_asm) (by k_asm) ?_); intro D' h' F' N' l1; (try k_lt l1)))
  (k_with "call type:list" => ((with_reducible show wpAny _ _ (call (Value.type "list") [Value.ref _]) _ _ _); k_here; k_dflt (refine items_list (by rfl) (by k_asm) (by k_asm) (by k_asm) (by k_mem) ?_); intro D' a' c' h' tk' F' N' l1; (try k_lt l1); (try k_sweep)))
  rcases cs with ⟨ck⟩
  dsimp only at hcs
  subst hcs
  obtain ⟨hx1, ok1, hx2, hx3, ok2, ok3, ok4⟩ := hpre
  have l3 : l < x := Nat.lt_trans l1 l2
  have hx3' : x3.length ≤ 4000 := by omega
  have hx4' : x4.length ≤ 4000 := by omega
  have hla : (Str.ofString "a_").length ≤ 2 := by decide +kernel
  have hlq : (Str.ofString "q").length ≤ 2 := by decide +kernel
  k_steps
  rename _ < _ ∧ _ < _ ∧ _ < _ ∧ _ < _ ∧ _ < _ => l8
  have l9 := l8.2.2
  try
    (rename Fr _ _ _ _ => F8
     rename News _ _ _ _ => N8
     refine append_K F8 N8 (.tail (Nat.ne_of_gt l8.2.2.2.2) (.tail ?u1 (.tail ?u2 (.tail (Nat.ne_of_gt l3) (.tail (Nat.ne_of_gt l1) (.head fun p hp => nomatch hp)))))) ?_
     case u1 => dsimp only; rename _ < _ ∧ _ < _ ∧ _ < _ ∧ _ < _ => l7; exact Nat.ne_of_gt l7.2.2.2
     case u2 => dsimp only; rename _ < _ ∧ _ < _ ∧ _ < _ => l7; exact Nat.ne_of_gt l7.2.2
     intro h9 F9 N9
     clear N8
     k_steps)
  rename Fr _ _ _ _ => F8
  rename News _ _ _ _ => N8
  refine hret _ _ _ _ _ (hdr_hid ?_) l9 F8 (news4 N8)
  with_reducible exact hdr_eq (by assumption) (by assumption) (by assumption) (by assumption)
end Mine
end

section
open PySem PySem.W PyProof.Rows PySem.Calls PySem.Spec
set_option Elab.async false
set_option maxRecDepth 100000
set_option maxHeartbeats 4000000
set_option rowWalk.seconds 0
namespace Mine
theorem getitem_C (w : World) (x d l T : Addr) (tk0 : Tok) (x1 y r : Str) (t1 ty t : Tok) (mean : ExcName → Option Value) (mg mb : Str → Option Value) (news : List (Addr × Obj)) (dp un : Nat) (gd : Option (List Code)) (cn : Str) (cs : Scope) (a : Addr) (ccd : Value) (cl : List (Str × Addr)) (outer : List Env) (A₀ : Around) (base h₀ : Heap) (L : Addr) (m : Str → Option Value) (s : Shared) (Q E : Value → Shared → Prop)
    (hB : Below A₀ base outer h₀) (hF : Fr h₀ L s.heap m) (hX : (Mine.hd.heap_1 w.params).In h₀) (hN : News h₀ L s.heap news) (hT : Top Mine.view LO mean mg mb h₀) (hcs : cs.kind = .function)
    (hm1 : (x, instObj 205 d) ∈ news) (hm2 : (d, dictOf [{ hash := PyData.keyHash w.params (Str.ofString "_headers"), key := .str (Str.ofString "_headers") tk0, val := .ref l }] 1) ∈ news) (hm3 : (l, listOf #[.ref T] 1) ∈ news) (hm4 : (T, tupO #[.str x1 t1, .str r t]) ∈ news)
    (hx1 : x1.length ≤ 10) (hy : y.length ≤ 30) (ok1l : okB (Txt.lower y) = true) (hlow : (Txt.lower x1 == Txt.lower y) = true) (hdp : dp + 4 < recursionLimit) (hun : un + 8 * 4 < cLine)
    (hret : ∀ (h' : Heap) (tk' : Nat), Fr h₀ L h' m → News h₀ L h' news → Q (.str r t) ⟨h', s.gens, s.drawn, tk', s.os⟩) : wpAny (model PySem.Challenge.rw_uq0033_01.row.prog w) (ktrTop dp un gd cn cs L a ccd cl outer) (call (.ref 130) [.ref x, .str y ty]) Q E s := by
  w_top off
  k_with_none
  (k_with "execs cons" => (refine execs_consP (by first | assumption | omega | (dsimp only; omega) | (dsimp only; assumption)) ?_; (try dsimp only)))
  (k_with "execs cons" => ((fail_if_success (fail_if_success k_gentoks)); k_here; (refine gen_toks (by first | assumption | omega) ?_); intro tk9 hPos9))
  (k_with "execs nil" => ((fail_if_success (fail_if_success k_gentoks)); k_here; (refine gen_toks (by first | assumption | omega) ?_); intro tk9 hPos9))
  (k_with "call builtin:str.replace" => (k_dflt ((try dsimp only [List.cons_append, List.nil_append]); first | refine replaceV 2 (by ((try dsimp only); omega)) (by show @Ne Nat _ _; omega) (by show @Ne Nat _ _; omega) (by show @Ne Nat _ _; omega) (by decide +kernel) (by first | omega | decide +kernel) (by decide +kernel) (by decide) (by decide +kernel) (by decide +kernel) ?_ | refine replaceV 4 (by ((try dsimp only); omega)) (by show @Ne Nat _ _; omega) (by show @Ne Nat _ _; omega) (by show @Ne Nat _ _; omega) (by decide +kernel) (by first | omega | decide +kernel) (by decide +kernel) (by decide) (by decide +kernel) (by decide +kernel) ?_ | refine replaceV 5 (by ((try dsimp only); omega)) (by show @Ne Nat _ _; omega) (by show @Ne Nat _ _; omega) (by show @Ne Nat _ _; omega) (by decide +kernel) (by first | omega | decide +kernel) (by decide +kernel) (by decide) (by decide +kernel) (by decide +kernel) ?_); k_dflt (intro r9 t9 k9 hr9 hl9 hk9; (try dsimp only))))
  (k_with "getMethod ref" => ((with_reducible show wpAny _ _ (getMethod (Value.ref 74) _ _) _ _ _); k_here; k_dflt (refine' gm_search (by k_asm) (by k_asm) (by exact look74 _) (by rfl) (by rfl) ?_; k_whole)))
  (k_with "getMethod ref" => ((with_reducible show wpAny _ _ (getMethod (Value.ref 69) _ _) _ _ _); k_here; k_dflt (refine' gm_search (by k_asm) (by k_asm) (by exact look69 _) (by rfl) (by rfl) ?_; k_whole)))
  (k_with "call builtin:re.Pattern.search" => (k_here; k_dflt (first | (refine' search74 (by k_asm) (by k_asm) (by first | assumption | decide +kernel) ?_; k_whole) | (refine' search69 (by k_asm) (by k_asm) (by first | assumption | decide +kernel) ?_; k_whole))))
  (k_with "call ref" => ((with_reducible show wpAny _ _ (call (Value.ref 82) _) _ _ _); k_here; k_dflt (refine formatparam_R _ _ _ _ _ _ _ _ _ _ _ _ _ _ _ _ _ _ _ _ _ _ _ _ _ _ (by k_asm) (by k_asm) (by k_asm) (by k_asm) (by k_asm) rfl ⟨by first | assumption | omega, by first | assumption | omega⟩ (by first | omega | ktr_room) (by first | omega | ktr_units) ?_); intro r9 t9 h9 tk9 hr9 hl9 F9 N9; (try dsimp only)))
  (k_with "call ref" => ((with_reducible show wpAny _ _ (call (Value.ref 332) _) _ _ _); k_here; k_dflt (refine esc_R _ _ _ _ _ _ _ _ _ _ _ _ _ _ _ _ _ _ _ _ _ _ _ _ (by k_asm) (by k_asm) (by k_asm) (by k_asm) (by k_asm) rfl (by first | assumption | omega) (by first | omega | ktr_room) (by first | omega | ktr_units) ?_); intro r9 t9 h9 tk9 hr9 hl9 F9 N9; (try dsimp only)))
  (k_with "call ref" => ((with_reducible show wpAny _ _ (call (Value.ref 104) _ _) _ _ _); k_here; k_dflt (refine conv_C _ _ _ _ _ _ _ _ _ _ _ _ _ _ _ _ _ _ _ _ _ _ _ _ _ _ (by k_asm) (by k_asm) (by k_asm) (by k_asm) (by k_asm) rfl (by first | assumption | decide +kernel) (by first | omega | ktr_room) (by first | omega | ktr_units) ?_); intro h9 tk9 F9 N9; (try dsimp only)))
  (k_with "getAttr ref" => ((with_reducible show wpAny _ _ (getAttr (Value.ref _) (Str.ofString "append") _) _ _ _); k_here; k_dflt (refine attr_appendK (by k_asm) (by k_asm) (by k_mem) ?_); intro x' h' F' N' l1; (try k_lt l1); (try k_sweep)))
  (k_with "callWith ref" => ((with_reducible show wpAny _ _ (callWith _ (Value.ref _) _ (backTo _ (starEach (_ :: _) _)) []) _ _ _); k_here; k_dflt (refine callWith_appK (by k_asm) (by k_mem) ?_)))
  (k_with "And" => ((with_reducible show AppAt _ _ _ ∧ _); k_dflt (refine ⟨appAt_of (by k_asm) (by k_mem), ?_⟩); (try dsimp only [List.nil_append, List.cons_append])))
  (k_with "call ref" => ((with_reducible show wpAny _ _ (call (Value.ref _) [Value.str _ _]) _ _ _); k_here; k_dflt (refine call_appK (by k_asm) (by k_asm) (by k_mem) (by k_upd) ?_ (by size_fits)); intro h' F' N'; (try k_sweep)))
  (k_with "getMethod ref" => ((with_reducible show wpAny _ _ (getMethod (Value.ref 215) _ _) _ _ _); k_here; k_dflt (refine items_gm (by k_asm) (by k_asm) ?_)))
  (k_with "call builtin:dict.items" => ((with_reducible show wpAny _ _ (call (Value.builtin "dict.items") [Value.ref 215]) _ _ _); k_here; k_dflt (refine items_view (by k_asm) (by k_asm) (by k_asm) ?_); intro D' h' F' N' l1; (try k_lt l1)))
  (k_with "call type:list" => ((with_reducible show wpAny _ _ (call (Value.type "list") [Value.ref _]) _ _ _); k_here; k_dflt (refine items_list (by rfl) (by k_asm) (by k_asm) (by k_asm) (by k_mem) ?_); intro D' a' c' h' tk' F' N' l1; (try k_lt l1); (try k_sweep)))
  (k_with "exec For" => ((with_reducible show wpAny _ _ (exec (Stmt.For (Expr.Tuple _ _ _) (Expr.Attribute _ _ _) _ [] _) _) _ _ _); k_here; (rename Fr _ _ _ _ => lF'); (with_unfolding_all refine For_turns lF' ?_)))
  (k_with "pyIter ref" => ((with_reducible show wpAny _ _ (pyIter (Value.ref _)) (fun it s₂ => TurnsAt _ _ _ _ _ _ _ _ _ it s₂) _ _); k_here; (rename Fr _ _ _ _ => lF'); (rename News _ _ _ _ => lN'); (with_unfolding_all refine iter_listTurns (by rfl) lF' lN' (by assumption) (by rfl) (by rfl) ?_); clear lF'; intro i' l1))
  (k_with "assign Tuple" => ((with_reducible show wpAny _ _ (assign (Expr.Tuple _ _ _) _ (Value.ref _)) _ _ _); k_here; k_dflt (refine unpackN_ (by k_asm) (by k_asm) (News.isTup (by k_asm) (by first | assumption | exact .tail _ (by assumption) | exact .tail _ (.tail _ (by assumption)))) (by exact rfl) (by exact rfl) (by exact rfl) ?_); intro h' F' N'; (try k_sweep)))
  rcases cs with ⟨ck⟩
  dsimp only at hcs
  subst hcs
  k_steps
  rename Fr _ _ _ _ => F8
  rename News _ _ _ _ => N8
  first | exact hret _ _ F8 N8 | exact hret _ _ F8 fun p hp => N8 p (.tail _ hp)
end Mine
end

section
open PySem PySem.W PyProof.Rows PySem.Calls PySem.Spec
set_option Elab.async false
set_option maxRecDepth 100000
set_option maxHeartbeats 4000000
set_option rowWalk.seconds 0
namespace Mine
structure Froz (S : List (Addr × Obj)) (h g : Heap) : Prop where
  get : ∀ b o, b ∉ S.map (·.1) → h.get? b = some o → g.get? b = some o
section
variable {prog : Program} {w : World} {A A₀ : Around} {E : Value → Shared → Prop} {s : Shared} {K : Frag} {C L : Addr} {h₀ base : Heap} {m mg mb : Str → Option Value} {news : List (Addr × Obj)} {p : Program} {loose : List Str} {mean : ExcName → Option Value} {Q : Value → Shared → Prop}
/-- a def is entered with a part of the ledger, the rest kept as it is -/
theorem code_defS {S : List (Addr × Obj)} {env : Env} {outer : List Env} {R : Result → Shared → Prop} {name qual : Str} {params : Arguments} {body : List Stmt} {scope : Scope} {dV kV doc pm cdv ct oc : Value} {an od : Option Addr} {osl : Array (Option Value)} {f : Addr} {args : Args} {binds : List (Str × Value)}
    (NS : News h₀ L s.heap S) (B : Below A₀ base outer h₀) (F : Fr h₀ L s.heap m) (X₀ : K.In h₀) (T : Top p loose mean mg mb h₀) (hA : A.frames = some (env :: outer)) (hf : env.frame = some L) (hke : env.scope.kind = .function)
    (ho : K.lookup f = some ⟨oc, od, .func (fnOf name qual params body scope dV kV doc pm an cdv ct), osl⟩) (hcd : codeIn K cdv qual = true) (hroom : A.depth < recursionLimit)
    (hbind : BindsTo s (fnOf name qual params body scope dV kV doc pm an cdv ct) args binds) (hloc : ∀ y ∈ binds, scope.names.lookup y.1 = some .local)
    (h : ∀ g L' h₁, Froz S s.heap g → Fr h₀ L g m → (∀ p ∈ S, p.1 < L') → Fr g L' h₁ (fun y => binds.reverse.lookup y) → News g L' h₁ S → Below A base (env :: outer) g → K.In g → Top p loose mean mg mb g →
      wpAny (model prog w) (A.deeper (envOf qual scope L' f cdv)) (execs body (envOf qual scope L' f cdv))
        (fun fl s' => R (.ok (.ret (match fl with | .ret v => v | _ => .none))) s')
        (fun e s' => wpAny (model prog w) (A.deeper (envOf qual scope L' f cdv)) (leaving (envOf qual scope L' f cdv) e) (fun _ s'' => R (.error e) s'') (fun e' s'' => R (.error e') s'') s')
        { s with heap := h₁, toks := s.toks + binds.length })
    (hco : scope.isCoroutine = false) (hgen : scope.isGenerator = false) (hk : scope.kind = .function)
    (hcell : ∀ x ∈ scope.names, x.2 ≠ .cell) : codeAny (model prog w) A (.call (.ref f) args) R s := by
  obtain ⟨FG, BG, st, lv⟩ := groundX (R := R) B F NS hA hf hke
  have X := X₀.keeps F.keep
  refine codeAny_call_def (fd := fnOf name qual params body scope dV kV doc pm an cdv ct) (body := body) (binds := binds) hroom (X _ _ ho) rfl (T.nolimit.keeps F.keep) (codeRec_of X hcd) rfl hbind hcell hloc (fun h₁ hns hk₁ => ?_) hco hgen hk
  exact h _ s.heap.objs.size h₁ ⟨fun b o hb e => hideAll_get _ e hb⟩ FG (fun p hp => Heap.lt_size (NS p hp).1) ⟨hns, fun b o e => hk₁ b o (of_hideAll _ e), Nat.le_of_eq (hideAll_size _ _)⟩ (fun p hp => ⟨hk₁ _ _ (NS p hp).1, Nat.ne_of_lt (Heap.lt_size (NS p hp).1), hideAll_none _ (List.mem_map_of_mem hp)⟩) BG (X₀.keeps st) (T.keeps st)
theorem backS {g h' : Heap} {L' : Addr} {m' : Str → Option Value} (FG : Fr h₀ L g m) (F' : Fr g L' h' m') : Fr h₀ L h' m :=
  ⟨FG.ns.at fun o e => F'.keep _ o e, fun b o e => F'.keep b o (FG.keep b o e), FG.above⟩
theorem newsS_old {S : List (Addr × Obj)} {g h' : Heap} {L' : Addr} {m' : Str → Option Value} (hg : Froz S s.heap g) (N : News h₀ L s.heap news) (F' : Fr g L' h' m') : ∀ p ∈ news, p.1 ∉ S.map (·.1) → h'.get? p.1 = some p.2 ∧ p.1 ≠ L ∧ h₀.get? p.1 = none :=
  fun p hp hn => ⟨F'.keep _ _ (hg.get _ _ hn (N p hp).1), (N p hp).2⟩
theorem newsS_new {S' : List (Addr × Obj)} {g h' : Heap} {L' : Addr} (FG : Fr h₀ L g m) (N' : News g L' h' S') : News h₀ L h' S' := by
  obtain ⟨oL, _, _, hL, _⟩ := FG.ns
  intro p hp
  refine ⟨(N' p hp).1, ?_, ?_⟩
  · intro e
    have := (N' p hp).2.2
    rw [e, hL] at this
    cases this
  · cases e : h₀.get? p.1 with
    | none => rfl
    | some o => have := FG.keep _ _ e; rw [(N' p hp).2.2] at this; cases this
theorem fresh_news {g h' : Heap} {L' D : Addr} {o : Obj} {S news : List (Addr × Obj)} {m' : Str → Option Value} (hg : Froz S s.heap g) (N : News h₀ L s.heap news) (F' : Fr g L' h' m') (N8 : News g L' h' ((D, o) :: S)) (hn : ∀ p ∈ news, p.1 ∈ S.map (·.1) → p ∈ S) (hob : ∀ p ∈ S, p.2 ≠ o) : ∀ p ∈ news, p.1 ≠ D := by
  intro p hp e
  by_cases hq : p.1 ∈ S.map (·.1)
  · have k := hn p hp hq
    have k1 := (N8 p (.tail _ k)).1
    have k2 := (N8 _ (.head _)).1
    rw [e, k2] at k1
    exact hob p k (Option.some.inj k1).symm
  · have k1 := hg.get _ _ hq (N p hp).1
    have k2 := (N8 _ (.head _)).2.2
    rw [e] at k1
    rw [k2] at k1
    cases k1
theorem merge_news {h₀ h' : Heap} {L D : Addr} {o : Obj} {S news : List (Addr × Obj)} (N9 : News h₀ L h' ((D, o) :: S)) (hold : ∀ p ∈ news, p.1 ∉ S.map (·.1) → h'.get? p.1 = some p.2 ∧ p.1 ≠ L ∧ h₀.get? p.1 = none) (hn : ∀ p ∈ news, p.1 ∈ S.map (·.1) → p ∈ S) : News h₀ L h' ((D, o) :: news) := by
  intro p hp
  rcases List.mem_cons.mp hp with e | hp
  · rw [e]; exact N9 _ (.head _)
  · by_cases hq : p.1 ∈ S.map (·.1)
    · exact N9 _ (.tail _ (hn p hp hq))
    · exact hold p hp hq
end
theorem ob_tup {a b : Array Value} {n : Nat} : tupO a ≠ listOf b n := fun e => by
  have := congrArg Obj.cls e
  simp at this
theorem ob_inst {C d : Addr} {b : Array Value} {n : Nat} : instObj C d ≠ listOf b n := fun e => by
  have := congrArg Obj.cls e
  simp at this
theorem ob_dict {es : List DictEntry} {k : Nat} {b : Array Value} {n : Nat} : dictOf es k ≠ listOf b n := fun e => by
  have := congrArg Obj.cls e
  simp [dictOf] at this
theorem ob_list {T : Addr} {x : Str} {t : Tok} {k n : Nat} : listOf #[.ref T] k ≠ listOf #[.str x t] n := fun e => by
  have := congrArg Obj.data e
  simp at this
theorem keys_C (w : World) (x d l T : Addr) (tk0 : Tok) (x1 r : Str) (t1 t : Tok) (mean : ExcName → Option Value) (mg mb : Str → Option Value) (news : List (Addr × Obj)) (dp un : Nat) (gd : Option (List Code)) (cn : Str) (cs : Scope) (a : Addr) (ccd : Value) (cl : List (Str × Addr)) (outer : List Env) (A₀ : Around) (base h₀ : Heap) (L : Addr) (m : Str → Option Value) (s : Shared) (Q E : Value → Shared → Prop)
    (hB : Below A₀ base outer h₀) (hF : Fr h₀ L s.heap m) (hX : (Mine.hd.heap_1 w.params).In h₀) (hN : News h₀ L s.heap news) (hT : Top Mine.view LO mean mg mb h₀) (hcs : cs.kind = .function)
    (hS : News h₀ L s.heap [(T, tupO #[.str x1 t1, .str r t]), (x, instObj 205 d), (d, dictOf [{ hash := PyData.keyHash w.params (Str.ofString "_headers"), key := .str (Str.ofString "_headers") tk0, val := .ref l }] 1), (l, listOf #[.ref T] 1)])
    (l1 : l < d) (l2 : d < x) (l4 : x < T ∧ d < T ∧ l < T) (hn : ∀ p ∈ news, p.1 = T ∨ p.1 = x ∨ p.1 = d ∨ p.1 = l → p ∈ [(T, tupO #[.str x1 t1, .str r t]), (x, instObj 205 d), (d, dictOf [{ hash := PyData.keyHash w.params (Str.ofString "_headers"), key := .str (Str.ofString "_headers") tk0, val := .ref l }] 1), (l, listOf #[.ref T] 1)])
    (hdp : dp + 4 < recursionLimit) (hun : un + 8 * 4 < cLine)
    (hret : ∀ (D : Addr) (n : Nat) (h' : Heap) (tk' : Nat), (∀ p ∈ news, p.1 ≠ D) → Fr h₀ L h' m → News h₀ L h' ((D, listOf #[.str x1 t1] n) :: news) → Q (.ref D) ⟨h', s.gens, s.drawn, tk', s.os⟩) : wpAny (model PySem.Challenge.rw_uq0033_01.row.prog w) (ktrTop dp un gd cn cs L a ccd cl outer) (call (.ref 157) [.ref x]) Q E s := by
  w_top off
  k_with_none
  (k_with "execs cons" => (refine execs_consP (by first | assumption | omega | (dsimp only; omega) | (dsimp only; assumption)) ?_; (try dsimp only)))
  (k_with "execs cons" => ((fail_if_success (fail_if_success k_gentoks)); k_here; (refine gen_toks (by first | assumption | omega) ?_); intro tk9 hPos9))
  (k_with "execs nil" => ((fail_if_success (fail_if_success k_gentoks)); k_here; (refine gen_toks (by first | assumption | omega) ?_); intro tk9 hPos9))
  (k_with "call builtin:str.replace" => (k_dflt ((try dsimp only [List.cons_append, List.nil_append]); first | refine replaceV 2 (by ((try dsimp only); omega)) (by show @Ne Nat _ _; omega) (by show @Ne Nat _ _; omega) (by show @Ne Nat _ _; omega) (by decide +kernel) (by first | omega | decide +kernel) (by decide +kernel) (by decide) (by decide +kernel) (by decide +kernel) ?_ | refine replaceV 4 (by ((try dsimp only); omega)) (by show @Ne Nat _ _; omega) (by show @Ne Nat _ _; omega) (by show @Ne Nat _ _; omega) (by decide +kernel) (by first | omega | decide +kernel) (by decide +kernel) (by decide) (by decide +kernel) (by decide +kernel) ?_ | refine replaceV 5 (by ((try dsimp only); omega)) (by show @Ne Nat _ _; omega) (by show @Ne Nat _ _; omega) (by show @Ne Nat _ _; omega) (by decide +kernel) (by first | omega | decide +kernel) (by decide +kernel) (by decide) (by decide +kernel) (by decide +kernel) ?_); k_dflt (intro r9 t9 k9 hr9 hl9 hk9; (try dsimp only))))
  (k_with "getMethod ref" => ((with_reducible show wpAny _ _ (getMethod (Value.ref 74) _ _) _ _ _); k_here; k_dflt (refine' gm_search (by k_asm) (by k_asm) (by exact look74 _) (by rfl) (by rfl) ?_; k_whole)))
  (k_with "getMethod ref" => ((with_reducible show wpAny _ _ (getMethod (Value.ref 69) _ _) _ _ _); k_here; k_dflt (refine' gm_search (by k_asm) (by k_asm) (by exact look69 _) (by rfl) (by rfl) ?_; k_whole)))
  (k_with "call builtin:re.Pattern.search" => (k_here; k_dflt (first | (refine' search74 (by k_asm) (by k_asm) (by first | assumption | decide +kernel) ?_; k_whole) | (refine' search69 (by k_asm) (by k_asm) (by first | assumption | decide +kernel) ?_; k_whole))))
  (k_with "call ref" => ((with_reducible show wpAny _ _ (call (Value.ref 82) _) _ _ _); k_here; k_dflt (refine formatparam_R _ _ _ _ _ _ _ _ _ _ _ _ _ _ _ _ _ _ _ _ _ _ _ _ _ _ (by k_asm) (by k_asm) (by k_asm) (by k_asm) (by k_asm) rfl ⟨by first | assumption | omega, by first | assumption | omega⟩ (by first | omega | ktr_room) (by first | omega | ktr_units) ?_); intro r9 t9 h9 tk9 hr9 hl9 F9 N9; (try dsimp only)))
  (k_with "call ref" => ((with_reducible show wpAny _ _ (call (Value.ref 332) _) _ _ _); k_here; k_dflt (refine esc_R _ _ _ _ _ _ _ _ _ _ _ _ _ _ _ _ _ _ _ _ _ _ _ _ (by k_asm) (by k_asm) (by k_asm) (by k_asm) (by k_asm) rfl (by first | assumption | omega) (by first | omega | ktr_room) (by first | omega | ktr_units) ?_); intro r9 t9 h9 tk9 hr9 hl9 F9 N9; (try dsimp only)))
  (k_with "call ref" => ((with_reducible show wpAny _ _ (call (Value.ref 104) _ _) _ _ _); k_here; k_dflt (refine conv_C _ _ _ _ _ _ _ _ _ _ _ _ _ _ _ _ _ _ _ _ _ _ _ _ _ _ (by k_asm) (by k_asm) (by k_asm) (by k_asm) (by k_asm) rfl (by first | assumption | decide +kernel) (by first | omega | ktr_room) (by first | omega | ktr_units) ?_); intro h9 tk9 F9 N9; (try dsimp only)))
  (k_with "getAttr ref" => ((with_reducible show wpAny _ _ (getAttr (Value.ref _) (Str.ofString "append") _) _ _ _); k_here; k_dflt (refine attr_appendK (by k_asm) (by k_asm) (by k_mem) ?_); intro x' h' F' N' l1; (try k_lt l1); (try k_sweep)))
  (k_with "callWith ref" => ((with_reducible show wpAny _ _ (callWith _ (Value.ref _) _ (backTo _ (starEach (_ :: _) _)) []) _ _ _); k_here; k_dflt (refine callWith_appK (by k_asm) (by k_mem) ?_)))
  (k_with "And" => ((with_reducible show AppAt _ _ _ ∧ _); k_dflt (refine ⟨appAt_of (by k_asm) (by k_mem), ?_⟩); (try dsimp only [List.nil_append, List.cons_append])))
  (k_with "call ref" => ((with_reducible show wpAny _ _ (call (Value.ref _) [Value.str _ _]) _ _ _); k_here; k_dflt (refine call_appK (by k_asm) (by k_asm) (by k_mem) (by k_upd) ?_ (by size_fits)); intro h' F' N'; (try k_sweep)))
  (k_with "getMethod ref" => ((with_reducible show wpAny _ _ (getMethod (Value.ref 215) _ _) _ _ _); k_here; k_dflt (refine items_gm (by k_asm) (by k_asm) ?_)))
  (k_with "call builtin:dict.items" => ((with_reducible show wpAny _ _ (call (Value.builtin "dict.items") [Value.ref 215]) _ _ _); k_here; k_dflt (refine items_view (by k_asm) (by k_asm) (by k_asm) ?_); intro D' h' F' N' l1; (try k_lt l1)))
  (k_with "call type:list" => ((with_reducible show wpAny _ _ (call (Value.type "list") [Value.ref _]) _ _ _); k_here; k_dflt (refine items_list (by rfl) (by k_asm) (by k_asm) (by k_asm) (by k_mem) ?_); intro D' a' c' h' tk' F' N' l1; (try k_lt l1); (try k_sweep)))
  rcases cs with ⟨ck⟩
  dsimp only at hcs
  subst hcs
  have l3 : l < x := Nat.lt_trans l1 l2
  refine wpAny_call ?_
  have hNN := hN
  clear hN
  have hSS := hS
  clear hS
  k_dflt (refine' code_defS ?kS ?k1 ?k2 ?k3 ?k5 ?kA ?kF ?kK ?k6 ?k7 ?k8 ?k9 ?kB ?_ ?c2 ?c3 ?c4 ?c5; (case kA => exact rfl); (case kF => exact rfl); (case kK => first | exact rfl | assumption); (case k1 => k_asm); (case kS => assumption); (case k2 => k_asm); (case k3 => k_asm); (case k5 => k_asm); (case k6 => k_is); (case k7 => k_is); (case k8 => ktr_room); (case k9 => first | exact BindsTo.of_eq rfl | exact binds_K (by k_in) rfl (by k_is) rfl rfl rfl); (case c5 => decide); (case kB => exact locs rfl); (case c2 => exact rfl); (case c3 => exact rfl); (case c4 => exact rfl); k_whole; intro g' L' h' hG FG' l1' F' N' B' X' T'; (try dsimp only); (try k_lift B'); (try k_fold))
  k_steps
  rename Fr _ _ _ _ => F8
  rename News _ _ _ _ => N8
  rename Fr h₀ L _ _ => FG8
  rename Froz _ _ _ => hG8
  have N9 := newsS_new FG8 N8
  refine hret _ _ _ _ (fresh_news hG8 hNN F8 N8 (fun p hp hm => hn p hp (by simpa using hm)) ?_) (backS FG8 F8) (merge_news N9 (newsS_old hG8 hNN F8) fun p hp hm => hn p hp (by simpa using hm))
  intro p hp
  rcases List.mem_cons.mp hp with e | hp
  · rw [e]; exact ob_tup
  rcases List.mem_cons.mp hp with e | hp
  · rw [e]; exact ob_inst
  rcases List.mem_cons.mp hp with e | hp
  · rw [e]; exact ob_dict
  · rw [List.mem_singleton.mp hp]; exact ob_list
end Mine
end

section
open PySem PySem.W PyProof.Rows PySem.Calls PySem.Spec
set_option Elab.async false
set_option maxRecDepth 100000
set_option maxHeartbeats 4000000
set_option rowWalk.seconds 0
namespace Mine
theorem hn8 {a b c e : Addr × Obj} {T x d l : Addr} {oT ox od ol : Obj} (ha : T < a.1) (hb : T < b.1) (hc : T < c.1) (he : T < e.1) (l4 : x < T ∧ d < T ∧ l < T) : ∀ p ∈ [a, b, c, e, (T, oT), (x, ox), (d, od), (l, ol)], p.1 = T ∨ p.1 = x ∨ p.1 = d ∨ p.1 = l → p ∈ [(T, oT), (x, ox), (d, od), (l, ol)] := by
  obtain ⟨k1, k2, k3⟩ := l4
  have h4 : ∀ q : Addr, T < q → ¬ (q = T ∨ q = x ∨ q = d ∨ q = l) := fun q hq h => by
    rcases h with rfl | rfl | rfl | rfl
    · exact Nat.lt_irrefl _ hq
    · exact Nat.lt_asymm hq k1
    · exact Nat.lt_asymm hq k2
    · exact Nat.lt_asymm hq k3
  intro p hp h
  rcases List.mem_cons.mp hp with e | hp
  · rw [e] at h; exact absurd h (h4 _ ha)
  rcases List.mem_cons.mp hp with e | hp
  · rw [e] at h; exact absurd h (h4 _ hb)
  rcases List.mem_cons.mp hp with e | hp
  · rw [e] at h; exact absurd h (h4 _ hc)
  rcases List.mem_cons.mp hp with e | hp
  · rw [e] at h; exact absurd h (h4 _ he)
  exact hp
theorem hn8b {p b dw xw : Addr} {op ob odw oxw : Obj} {T x d l : Addr} {oT ox od ol : Obj} {A B C : Prop} (h1 : T < p ∧ A) (h2 : p < b ∧ T < b ∧ B) (h3 : b < dw ∧ p < dw ∧ T < dw ∧ C) (h4 : dw < xw) (l4 : x < T ∧ d < T ∧ l < T) : ∀ q ∈ [(xw, oxw), (dw, odw), (b, ob), (p, op), (T, oT), (x, ox), (d, od), (l, ol)], q.1 = T ∨ q.1 = x ∨ q.1 = d ∨ q.1 = l → q ∈ [(T, oT), (x, ox), (d, od), (l, ol)] :=
  hn8 (Nat.lt_trans h3.2.2.1 h4) h3.2.2.1 h2.2.1 h1.1 l4
theorem hdr_len2 {x2 x3 x4 r : Str} (h : Hid (hdrF x2 x3 x4 = r)) (h2 : x2.length ≤ 20) (h3 : x3.length + x4.length ≤ 1600) : r.length ≤ 6500 ∧ 1 ≤ r.length := by
  have e := h.get
  have k1 := hdr_len h2 h3
  have e3 : (Str.ofString "; ").length = 2 := by decide +kernel
  rw [e] at k1
  refine ⟨k1, ?_⟩
  rw [← e]
  unfold hdrF
  rw [join3, Str.length_append, Str.length_append]
  omega
def pageF (x1 x2 x3 x4 : Str) : Str := Txt.join (Str.ofString "") [Str.empty ++ Str.ofString "<?" ++ x1 ++ Str.ofString " " ++ escF (hdrF x2 x3 x4) ++ Str.ofString "?>", Str.ofString "\n"]
theorem page_eq {x1 x2 x3 x4 r r9 : Str} (h2 : Hid (escF r = r9)) (h1 : Hid (hdrF x2 x3 x4 = r)) : pageF x1 x2 x3 x4 = Txt.join (Str.ofString "") [Str.empty ++ Str.ofString "<?" ++ x1 ++ Str.ofString " " ++ r9 ++ Str.ofString "?>", Str.ofString "\n"] := by
  rw [← h2.get, ← h1.get]; rfl
theorem pg_bound {x1 r r9 : Str} (h1 : x1.length ≤ 10) (h2 : r9.length ≤ 400 * r.length) (h3 : r.length ≤ 6500) : (([Str.empty ++ Str.ofString "<?" ++ x1 ++ Str.ofString " " ++ r9 ++ Str.ofString "?>", Str.ofString "\n"] : List Str).map (·.length)).sum + ([Str.empty ++ Str.ofString "<?" ++ x1 ++ Str.ofString " " ++ r9 ++ Str.ofString "?>", Str.ofString "\n"] : List Str).length * (Str.ofString "").length ≤ 16777216 := by
  have e1 : (Str.ofString "<?").length = 2 := by decide +kernel
  have e2 : (Str.ofString " ").length = 1 := by decide +kernel
  have e3 : (Str.ofString "?>").length = 2 := by decide +kernel
  have e4 : (Str.ofString "\n").length = 1 := by decide +kernel
  have e5 : (Str.ofString "").length = 0 := by decide +kernel
  have e6 : Str.empty.length = 0 := by decide +kernel
  rw [e5, Nat.mul_zero, Nat.add_zero, List.map_cons, List.map_cons, List.map_nil, List.sum_cons, List.sum_cons, List.sum_nil, Str.length_append, Str.length_append, Str.length_append, Str.length_append, Str.length_append, e1, e2, e3, e4, e6]
  omega
local macro_rules | `(tactic| k_get) => `(tactic| assumption)
theorem page_C (w : World) (x1 x2 x3 x4 : Str) (t1 t2 t3 t4 : Tok) : Claim0 w 372 9 ((x1.length ≤ 10 ∧ okB x1 = true ∧ x2.length ≤ 20 ∧ x3.length + x4.length ≤ 1600 ∧ okB x2 = true ∧ okB x3 = true ∧ okB x4 = true) ∧ okB (Txt.lower (Txt.swapcase x1)) = true ∧ (Txt.lower x1 == Txt.lower (Txt.swapcase x1)) = true) [.str x1 t1, .str x2 t2, .str x3 t3, .str x4 t4] (fun t => .str (pageF x1 x2 x3 x4) t) := by
  w_top off
  k_with_none
  (k_with "execs cons" => (refine execs_consP (by first | assumption | omega | (dsimp only; omega) | (dsimp only; assumption)) ?_; (try dsimp only)))
  (k_with "execs cons" => ((fail_if_success (fail_if_success k_gentoks)); k_here; (refine gen_toks (by first | assumption | omega) ?_); intro tk9 hPos9))
  (k_with "execs nil" => ((fail_if_success (fail_if_success k_gentoks)); k_here; (refine gen_toks (by first | assumption | omega) ?_); intro tk9 hPos9))
  (k_with "call builtin:str.replace" => (k_dflt ((try dsimp only [List.cons_append, List.nil_append]); first | refine replaceV 2 (by ((try dsimp only); omega)) (by show @Ne Nat _ _; omega) (by show @Ne Nat _ _; omega) (by show @Ne Nat _ _; omega) (by decide +kernel) (by first | omega | decide +kernel) (by decide +kernel) (by decide) (by decide +kernel) (by decide +kernel) ?_ | refine replaceV 4 (by ((try dsimp only); omega)) (by show @Ne Nat _ _; omega) (by show @Ne Nat _ _; omega) (by show @Ne Nat _ _; omega) (by decide +kernel) (by first | omega | decide +kernel) (by decide +kernel) (by decide) (by decide +kernel) (by decide +kernel) ?_ | refine replaceV 5 (by ((try dsimp only); omega)) (by show @Ne Nat _ _; omega) (by show @Ne Nat _ _; omega) (by show @Ne Nat _ _; omega) (by decide +kernel) (by first | omega | decide +kernel) (by decide +kernel) (by decide) (by decide +kernel) (by decide +kernel) ?_); k_dflt (intro r9 t9 k9 hr9 hl9 hk9; (try dsimp only))))
  (k_with "getMethod ref" => ((with_reducible show wpAny _ _ (getMethod (Value.ref 74) _ _) _ _ _); k_here; k_dflt (refine' gm_search (by k_asm) (by k_asm) (by exact look74 _) (by rfl) (by rfl) ?_; k_whole)))
  (k_with "getMethod ref" => ((with_reducible show wpAny _ _ (getMethod (Value.ref 69) _ _) _ _ _); k_here; k_dflt (refine' gm_search (by k_asm) (by k_asm) (by exact look69 _) (by rfl) (by rfl) ?_; k_whole)))
  (k_with "call builtin:re.Pattern.search" => (k_here; k_dflt (first | (refine' search74 (by k_asm) (by k_asm) (by first | assumption | decide +kernel) ?_; k_whole) | (refine' search69 (by k_asm) (by k_asm) (by first | assumption | decide +kernel) ?_; k_whole))))
  (k_with "call ref" => ((with_reducible show wpAny _ _ (call (Value.ref 82) _) _ _ _); k_here; k_dflt (refine formatparam_R _ _ _ _ _ _ _ _ _ _ _ _ _ _ _ _ _ _ _ _ _ _ _ _ _ _ (by k_asm) (by k_asm) (by k_asm) (by k_asm) (by k_asm) rfl ⟨by first | assumption | omega, by first | assumption | omega⟩ (by first | omega | ktr_room) (by first | omega | ktr_units) ?_); intro r9 t9 h9 tk9 hr9 hl9 F9 N9; (try dsimp only)))
  (k_with "call ref" => ((with_reducible show wpAny _ _ (call (Value.ref 332) _) _ _ _); k_here; k_dflt (refine esc_R _ _ _ _ _ _ _ _ _ _ _ _ _ _ _ _ _ _ _ _ _ _ _ _ (by k_asm) (by k_asm) (by k_asm) (by k_asm) (by k_asm) rfl (by first | assumption | omega) (by first | omega | ktr_room) (by first | omega | ktr_units) ?_); intro r9 t9 h9 tk9 hr9 hl9 F9 N9; (try dsimp only)))
  (k_with "call ref" => ((with_reducible show wpAny _ _ (call (Value.ref 104) _ _) _ _ _); k_here; k_dflt (refine conv_C _ _ _ _ _ _ _ _ _ _ _ _ _ _ _ _ _ _ _ _ _ _ _ _ _ _ (by k_asm) (by k_asm) (by k_asm) (by k_asm) (by k_asm) rfl (by first | assumption | decide +kernel) (by first | omega | ktr_room) (by first | omega | ktr_units) ?_); intro h9 tk9 F9 N9; (try dsimp only)))
  (k_with "getAttr ref" => ((with_reducible show wpAny _ _ (getAttr (Value.ref _) (Str.ofString "append") _) _ _ _); k_here; k_dflt (refine attr_appendK (by k_asm) (by k_asm) (by k_mem) ?_); intro x' h' F' N' l1; (try k_lt l1); (try k_sweep)))
  (k_with "callWith ref" => ((with_reducible show wpAny _ _ (callWith _ (Value.ref _) _ (backTo _ (starEach (_ :: _) _)) []) _ _ _); k_here; k_dflt (refine callWith_appK (by k_asm) (by k_mem) ?_)))
  (k_with "And" => ((with_reducible show AppAt _ _ _ ∧ _); k_dflt (refine ⟨appAt_of (by k_asm) (by k_mem), ?_⟩); (try dsimp only [List.nil_append, List.cons_append])))
  (k_with "call ref" => ((with_reducible show wpAny _ _ (call (Value.ref _) [Value.str _ _]) _ _ _); k_here; k_dflt (refine call_appK (by k_asm) (by k_asm) (by k_mem) (by k_upd) ?_ (by size_fits)); intro h' F' N'; (try k_sweep)))
  (k_with "getMethod ref" => ((with_reducible show wpAny _ _ (getMethod (Value.ref 215) _ _) _ _ _); k_here; k_dflt (refine items_gm (by k_asm) (by k_asm) ?_)))
  (k_with "call builtin:dict.items" => ((with_reducible show wpAny _ _ (call (Value.builtin "dict.items") [Value.ref 215]) _ _ _); k_here; k_dflt (refine items_view (by k_asm) (by k_asm) (by k_asm) ?_); intro D' h' F' N' l1; (try k_lt l1)))
  (k_with "call type:list" => ((with_reducible show wpAny _ _ (call (Value.type "list") [Value.ref _]) _ _ _); k_here; k_dflt (refine items_list (by rfl) (by k_asm) (by k_asm) (by k_asm) (by k_mem) ?_); intro D' a' c' h' tk' F' N' l1; (try k_lt l1); (try k_sweep)))
  (k_with "call ref" => ((with_reducible show wpAny _ _ (call (Value.ref 202) _ _) _ _ _); k_here; k_dflt (refine add_C _ _ _ _ _ _ _ _ _ _ _ _ _ _ _ _ _ _ _ _ _ _ _ _ _ _ _ _ _ _ _ _ _ (by k_asm) (by k_asm) (by k_asm) (by k_asm) (by k_asm) rfl (by assumption) (by first | assumption | (rename _ < _ ∧ _ => lq; exact lq.1)) (by first | assumption | (rename _ < _ ∧ _ => lq; exact lq.1)) (by k_room) (by first | omega | ktr_units) ?_); intro T' r' t' h' tk' hr' l1 F' N'; (have hl9 := hdr_len2 hr' (by assumption) (by assumption)); (obtain ⟨hl8, hl9⟩ := hl9); (try dsimp only)))
  (k_with "call ref" => ((with_reducible show wpAny _ _ (call (Value.ref 321) _) _ _ _); k_here; k_dflt (refine writer_C _ _ _ _ _ _ _ _ _ _ _ _ _ _ _ _ _ _ _ _ _ _ _ (by k_asm) (by k_asm) (by k_asm) (by k_asm) (by k_asm) rfl (by k_room) (by first | omega | ktr_units) ?_); intro x' d' es' n' h' tk' hw' l1 l2 F' N'; (obtain ⟨hw1, ⟨tw, hw2⟩, hw3, hw4, hw5⟩ := hw'); (try k_lt l1); (try k_lt2 l2); (try dsimp only)))
  (k_with "call ref" => ((with_reducible show wpAny _ _ (call (Value.ref 157) _) _ _ _); k_here; (rename News _ _ _ _ => kN); k_dflt (refine keys_C _ _ _ _ _ _ _ _ _ _ _ _ _ _ _ _ _ _ _ _ _ _ _ _ _ _ _ _ _ _ _ (by k_asm) (by k_asm) (by k_asm) kN (by k_asm) rfl (fun p hp => kN p (.tail _ (.tail _ (.tail _ (.tail _ hp))))) (by assumption) (by assumption) (by assumption) (hn8b (by assumption) (by assumption) (by assumption) (by assumption) (by assumption)) (by k_room) (by first | omega | ktr_units) ?_); clear kN; intro D' n' h' tk' hD' F' N'; (k_dflt (have hDn := hD' _ (List.Mem.tail _ (List.Mem.tail _ (List.Mem.tail _ (List.Mem.head _)))))); clear hD'; (try dsimp only at hDn); (have hDm := Ne.symm hDn); (try dsimp only)))
  (k_with "call ref" => ((with_reducible show wpAny _ _ (call (Value.ref 130) _) _ _ _); k_here; k_dflt (refine getitem_C _ _ _ _ _ _ _ _ _ _ _ _ _ _ _ _ _ _ _ _ _ _ _ _ _ _ _ _ _ _ _ _ _ (by k_asm) (by k_asm) (by k_asm) (by k_asm) (by k_asm) rfl (by k_mem) (by k_mem) (by k_mem) (by k_mem) (by assumption) (by assumption) (by assumption) (by assumption) (by k_room) (by first | omega | ktr_units) ?_); intro h' tk' F' N'; (try dsimp only)))
  dsimp only [Claim0, GRet0]
  intro mean mg mb news dp un gd cn cs a ccd cl outer A₀ base h₀ L m s Q E hB hF hX hN hT hcs hpre hdp hun hret
  obtain ⟨hpre1, ok1l, hlow⟩ := hpre
  have hx1 : x1.length ≤ 10 := hpre1.1
  have hx2 : x2.length ≤ 20 := hpre1.2.2.1
  have hx3 : x3.length + x4.length ≤ 1600 := hpre1.2.2.2.1
  have hsw : (Txt.swapcase x1).length ≤ 30 := by have := len_swapcase x1; omega
  refine wpAny_call ?_
  k_dflt (refine' code_defZ ?k1 ?k2 ?k3 ?k5 ?kA ?kF ?kK ?k6 ?k7 ?k8 ?k9 ?kB ?_ ?c2 ?c3 ?c4 ?c5; (case kA => exact rfl); (case kF => exact rfl); (case kK => assumption); (case k1 => k_asm); (case k2 => k_asm); (case k3 => k_asm); (case k5 => k_asm); (case k6 => k_is); (case k7 => k_is); (case k8 => ktr_room); (case k9 => first | exact BindsTo.of_eq rfl | exact binds_K (by k_in) rfl (by k_is) rfl rfl rfl); (case c5 => decide); (case kB => exact locs rfl); (case c2 => exact rfl); (case c3 => exact rfl); (case c4 => exact rfl); k_whole; intro g' L' h' hG F' N' B' X' T'; (try dsimp only); (try k_lift B'); (try k_fold))
  all_goals k_steps
  · rename News _ _ _ _ => N9
    refine join_list (N9.isList (.tail _ (.tail _ (.tail _ (.tail _ (.head _)))))) (.cons _ _ (.cons _ _ .nil)) ?_ fun t' k => ?_
    · with_reducible exact pg_bound (by assumption) (by assumption) (by assumption)
    k_steps
    rename Fr _ _ _ _ => F8
    rename HidEq _ _ => hG8
    refine q_eq ?_ (hret _ _ _ (backZ hG8 hF F8) (newsZ hG8 hN F8))
    with_reducible exact page_eq (by assumption) (by assumption)
  · exfalso; omega
end Mine
end

section
open PySem PySem.W PyProof.Rows PySem.Calls PySem.Spec
set_option Elab.async false
set_option maxRecDepth 100000
namespace Mine
def aL : List Nat := [97, 109, 112, 59]
def ampL (n : Nat) : List Nat := (List.replicate n aL).flatten
def nameL (c : Nat) : List Nat := if c = 38 then aL else if c = 60 then [108, 116, 59] else [103, 116, 59]
def sgn (q k c : Nat) : List Nat := if c = 92 then List.replicate (2 ^ q) 92 else if c = 34 then List.replicate (2 ^ q - 1) 92 ++ [34] else if (c = 38 ∨ c = 60 ∨ c = 62) ∧ 0 < k then 38 :: (ampL (k - 1) ++ nameL c) else [c]
def sp (q k : Nat) (l : List Nat) : List Nat := l.flatMap (sgn q k)
def qes (c : Nat) : List Nat := if c = 92 then [92, 92] else if c = 34 then [92, 34] else [c]
def aes (c : Nat) : List Nat := if c = 38 then 38 :: aL else if c = 60 then [38, 108, 116, 59] else if c = 62 then [38, 103, 116, 59] else [c]
def sh (l : List Nat) : List Nat := (l.flatMap qes).flatMap aes
theorem sh_app (a b : List Nat) : sh (a ++ b) = sh a ++ sh b := by simp [sh]
theorem sh_cons (c : Nat) (l : List Nat) : sh (c :: l) = (qes c).flatMap aes ++ sh l := by simp [sh]
theorem sh_nil : sh [] = [] := rfl
theorem sp_app (q k : Nat) (a b : List Nat) : sp q k (a ++ b) = sp q k a ++ sp q k b := by simp [sp]
theorem sh_bs (n : Nat) : sh (List.replicate n 92) = List.replicate (2 * n) 92 := by
  induction n with
  | zero => rfl
  | succ n ih =>
    rw [List.replicate_succ, sh_cons, ih]
    have e : 2 * (n + 1) = (2 * n + 1) + 1 := by omega
    rw [e, List.replicate_succ, List.replicate_succ]
    rfl
theorem sh_aL : sh aL = aL := by decide
theorem sh_ampL (n : Nat) : sh (ampL n) = ampL n := by
  induction n with
  | zero => rfl
  | succ n ih =>
    have e : ampL (n + 1) = aL ++ ampL n := by simp [ampL, List.replicate_succ]
    rw [e, sh_app, ih, sh_aL]
theorem sh_nameL (c : Nat) : sh (nameL c) = nameL c := by
  unfold nameL
  split
  · exact sh_aL
  · split <;> decide
theorem sh_sgn (q k c : Nat) : sh (sgn q k c) = sgn (q + 1) (k + 1) c := by
  have h1 : 1 ≤ 2 ^ q := Nat.one_le_two_pow
  have h2 : 2 ^ (q + 1) = 2 * 2 ^ q := by rw [Nat.pow_succ]; omega
  unfold sgn
  by_cases c92 : c = 92
  · rw [if_pos c92, if_pos c92, sh_bs, h2]
  rw [if_neg c92, if_neg c92]
  by_cases c34 : c = 34
  · rw [if_pos c34, if_pos c34, sh_app, sh_bs]
    have e : sh [34] = [92, 34] := by decide
    have e2 : 2 ^ (q + 1) - 1 = 2 * (2 ^ q - 1) + 1 := by omega
    rw [e, e2, List.replicate_succ']
    simp
  rw [if_neg c34, if_neg c34]
  by_cases ca : c = 38 ∨ c = 60 ∨ c = 62
  · rw [if_pos (show (c = 38 ∨ c = 60 ∨ c = 62) ∧ 0 < k + 1 from ⟨ca, by omega⟩)]
    by_cases hk : 0 < k
    · rw [if_pos ⟨ca, hk⟩, sh_cons, sh_app, sh_ampL, sh_nameL]
      have e : ampL (k + 1 - 1) = aL ++ ampL (k - 1) := by
        have : k + 1 - 1 = (k - 1) + 1 := by omega
        rw [this]; simp [ampL, List.replicate_succ]
      rw [e]
      simp [qes, aes]
    · have hk0 : k = 0 := by omega
      subst hk0
      rw [if_neg (fun z => hk z.2)]
      rcases ca with rfl | rfl | rfl <;> decide
  · rw [if_neg (fun z => ca z.1), if_neg (fun z => ca z.1)]
    have e1 : qes c = [c] := by simp [qes, c92, c34]
    have e2 : aes c = [c] := by
      unfold aes
      rw [if_neg (fun e => ca (.inl e)), if_neg (fun e => ca (.inr (.inl e))), if_neg (fun e => ca (.inr (.inr e)))]
    rw [sh_cons, e1]
    simp [e2, sh_nil]
theorem sh_sp (q k : Nat) (l : List Nat) : sh (sp q k l) = sp (q + 1) (k + 1) l := by
  induction l with
  | nil => rfl
  | cons c r ih =>
    have e : ∀ q k, sp q k (c :: r) = sgn q k c ++ sp q k r := fun q k => by simp [sp]
    rw [e, e, sh_app, sh_sgn, ih]
theorem sgn00 (c : Nat) : sgn 0 0 c = [c] := by
  unfold sgn
  split
  · rename_i h; rw [h]; rfl
  · split
    · rename_i h; rw [h]; rfl
    · rw [if_neg (fun z => absurd z.2 (by decide))]
theorem sp00 (l : List Nat) : sp 0 0 l = l := by
  induction l with
  | nil => rfl
  | cons c r ih => rw [show sp 0 0 (c :: r) = sgn 0 0 c ++ sp 0 0 r by simp [sp], ih, sgn00]; rfl
theorem aes_own (c : Nat) : aes c = sgn 0 1 c := by
  unfold aes sgn
  by_cases c92 : c = 92
  · subst c92; decide
  by_cases c34 : c = 34
  · subst c34; decide
  rw [if_neg c92, if_neg c34]
  by_cases c38 : c = 38
  · subst c38; decide
  by_cases c60 : c = 60
  · subst c60; decide
  by_cases c62 : c = 62
  · subst c62; decide
  simp [c38, c60, c62]
theorem aes_sp (l : List Nat) : l.flatMap aes = sp 0 1 l := by
  have : aes = sgn 0 1 := funext aes_own
  rw [this]; rfl
structure Lv where
  name : List Nat
  own : List Nat
  leaf : List Nat
  side : Bool
def beside (k : Nat) (leaf : List Nat) : List Nat := if leaf = [] then [] else [61] ++ sp k k [34] ++ sp (k + 1) (k + 1) leaf ++ sp k k [34]
def wrapM (k : Nat) (e : Bool) (x : List Nat) : List Nat := if e then [61] ++ sp k k [34] ++ x ++ sp k k [34] else x
def sA : List Nat := [59, 32, 97, 45]
def sQ : List Nat := [59, 32, 113]
def full (inner : List Nat) (r : List Lv) : Bool := !r.isEmpty || !inner.isEmpty
def shell (k : Nat) (lv : Lv) (e : Bool) (x : List Nat) : List Nat :=
  sp k k ([60, 63] ++ lv.name ++ [32]) ++ sp k (k + 1) lv.own ++ sA ++ (if lv.side then beside k lv.leaf ++ sQ ++ wrapM k e x else wrapM k e x ++ sQ ++ beside k lv.leaf) ++ sp k k [63, 62]
def mid (inner : List Nat) : Nat → List Lv → List Nat
  | k, [] => sp k k inner
  | k, lv :: r => shell k lv (full inner r) (mid inner (k + 1) r)
theorem sh_beside (k : Nat) (l : List Nat) : sh (beside k l) = beside (k + 1) l := by
  unfold beside
  split
  · rfl
  · rw [sh_app, sh_app, sh_app, sh_sp, sh_sp, show sh [61] = [61] by decide]
theorem sh_wrap (k : Nat) (e : Bool) (x : List Nat) : sh (wrapM k e x) = wrapM (k + 1) e (sh x) := by
  unfold wrapM
  cases e
  · rfl
  · simp only [if_true]
    rw [sh_app, sh_app, sh_app, sh_sp, show sh [61] = [61] by decide]
theorem sh_shell (k : Nat) (lv : Lv) (e : Bool) (x : List Nat) : sh (shell k lv e x) = shell (k + 1) lv e (sh x) := by
  unfold shell
  rw [sh_app, sh_app, sh_app, sh_app, sh_sp, sh_sp, sh_sp, show sh sA = sA by decide]
  cases lv.side
  · simp only [Bool.false_eq_true, if_false]
    rw [sh_app, sh_app, sh_wrap, sh_beside, show sh sQ = sQ by decide]
  · simp only [if_true]
    rw [sh_app, sh_app, sh_wrap, sh_beside, show sh sQ = sQ by decide]
theorem sh_mid (inner : List Nat) : ∀ (r : List Lv) (k : Nat), sh (mid inner k r) = mid inner (k + 1) r
  | [], k => sh_sp _ k inner
  | lv :: r, k => by
    show sh (shell k lv _ _) = shell (k + 1) lv _ _
    rw [sh_shell, sh_mid inner r (k + 1)]
def part (f : List Nat) : List Nat := if f = [] then [] else [61, 34] ++ f.flatMap qes ++ [34]
def pageL (name own first second : List Nat) : List Nat := [60, 63] ++ name ++ [32] ++ (own ++ sA ++ part first ++ sQ ++ part second).flatMap aes ++ [63, 62]
theorem mid_nil (inner : List Nat) (k : Nat) (r : List Lv) : mid inner 0 r = [] ↔ full inner r = false := by
  cases r with
  | nil => show sp 0 0 inner = [] ↔ _; rw [sp00]; simp [full]
  | cons lv r =>
    have : mid inner 0 (lv :: r) ≠ [] := by
      show shell 0 lv _ _ ≠ []
      unfold shell
      rw [sp00]
      simp
    simp [this, full]
theorem part_leaf (f : List Nat) : (part f).flatMap aes = beside 0 f := by
  unfold part beside
  split
  · rfl
  · rw [List.flatMap_append, List.flatMap_append, show (f.flatMap qes).flatMap aes = sh f from rfl, sp00]
    have e : sh f = sp 1 1 f := by have := sh_sp 0 0 f; rwa [sp00] at this
    rw [e]
    rfl
theorem part_mid (inner : List Nat) (r : List Lv) : (part (mid inner 0 r)).flatMap aes = wrapM 0 (full inner r) (mid inner 1 r) := by
  unfold part wrapM
  by_cases h : mid inner 0 r = []
  · rw [if_pos h, (mid_nil inner 0 r).mp h]
    have := sh_mid inner r 0
    rw [h] at this
    rw [← this]; rfl
  · have hf : full inner r = true := by
      cases e : full inner r
      · exact absurd ((mid_nil inner 0 r).mpr e) h
      · rfl
    rw [if_neg h, hf, List.flatMap_append, List.flatMap_append, show ((mid inner 0 r).flatMap qes).flatMap aes = sh (mid inner 0 r) from rfl, sh_mid, sp00]
    rfl
/-- the page that is made is the one that is told -/
theorem page_mid (inner : List Nat) (lv : Lv) (r : List Lv) :
    pageL lv.name lv.own (if lv.side then lv.leaf else mid inner 0 r) (if lv.side then mid inner 0 r else lv.leaf) = mid inner 0 (lv :: r) := by
  show _ = shell 0 lv _ _
  unfold pageL shell
  rw [sp00, sp00]
  cases lv.side
  · simp only [Bool.false_eq_true, if_false]
    rw [List.flatMap_append, List.flatMap_append, List.flatMap_append, List.flatMap_append, part_mid, part_leaf, aes_sp]
    rw [show sA.flatMap aes = sA by decide, show sQ.flatMap aes = sQ by decide]
    simp [List.append_assoc]
  · simp only [if_true]
    rw [List.flatMap_append, List.flatMap_append, List.flatMap_append, List.flatMap_append, part_mid, part_leaf, aes_sp]
    rw [show sA.flatMap aes = sA by decide, show sQ.flatMap aes = sQ by decide]
    simp [List.append_assoc]
end Mine
end

section
open PySem PySem.W PyProof.Rows PySem.Calls PySem.Spec
set_option Elab.async false
set_option maxRecDepth 100000
namespace Mine
abbrev LL (x : Str) : List Nat := x.cps.toList
theorem ll_app (a b : Str) : LL (a ++ b) = LL a ++ LL b := by simp [LL, PySem.Str.cps_append]
theorem foldl_app : ∀ (l : List (Array Nat)) (a : Array Nat), (l.foldl (· ++ ·) a).toList = a.toList ++ (l.map (·.toList)).flatten
  | [], a => by simp
  | x :: r, a => by rw [List.foldl_cons, foldl_app r]; simp
theorem mul_list (x : Str) (n : Int) : LL (Txt.mul x n) = (List.replicate n.toNat (LL x)).flatten := by
  unfold Txt.mul
  split
  · rename_i h
    have : n.toNat = 0 := by omega
    rw [this]; rfl
  · split
    · rename_i h1 h2
      rcases Bool.or_eq_true .. |>.mp h2 with h | h
      · have : n.toNat = 1 := by have := of_decide_eq_true (p := n = 1) (by simpa using h); omega
        rw [this]; simp
      · have e : LL x = [] := by
          have : x.length = 0 := by simpa using h
          have h3 : x.cps.toList.length = 0 := by simpa [Str.length] using this
          exact List.length_eq_zero_iff.mp h3
        rw [e]; simp
    · show Array.toList (List.foldl (fun (a b : Array Nat) => a ++ b) #[] (List.replicate n.toNat x.cps)) = _
      rw [foldl_app]
      simp
theorem ll_bs : LL (Str.ofString "\\") = [92] := by decide +kernel
theorem ll_amp : LL (Str.ofString "&") = [38] := by decide +kernel
theorem ll_ampn : LL (Str.ofString "amp;") = aL := by decide +kernel
theorem ll_ltn : LL (Str.ofString "lt;") = [108, 116, 59] := by decide +kernel
theorem ll_gtn : LL (Str.ofString "gt;") = [103, 116, 59] := by decide +kernel
theorem toNat_sub (k : Nat) : ((k : Int) - 1).toNat = k - 1 := by omega
theorem pow_nat (q : Nat) : ((2 : Int) ^ ((q : Int)).toNat).toNat = 2 ^ q := by
  have : ((q : Int)).toNat = q := by simp
  rw [this]
  have : ((2 : Int) ^ q) = ((2 ^ q : Nat) : Int) := by simp
  rw [this, Int.toNat_natCast]
theorem pow_nat1 (q : Nat) : ((2 : Int) ^ ((q : Int)).toNat - 1).toNat = 2 ^ q - 1 := by
  have := pow_nat q
  omega
theorem flat_rep (n c : Nat) : (List.replicate n [c]).flatten = List.replicate n c := by
  induction n with
  | zero => rfl
  | succ n ih => rw [List.replicate_succ, List.flatten_cons, ih, List.replicate_succ]; rfl
theorem step_list (q k : Nat) (a : Str) (c : Nat) : LL (spellStep q k a c) = LL a ++ sgn q k c := by
  unfold spellStep sgn
  by_cases h1 : c = 92
  · rw [if_pos h1, if_pos h1, ll_app, mul_list, pow_nat, ll_bs, flat_rep]
  rw [if_neg h1, if_neg h1]
  by_cases h2 : c = 34
  · rw [if_pos h2, if_pos h2, ll_app, ll_app, mul_list, pow_nat1, ll_bs, flat_rep, h2]
    simp [LL]
  rw [if_neg h2, if_neg h2]
  by_cases h3 : (c = 38 ∨ c = 60 ∨ c = 62) ∧ 0 < k
  · rw [if_pos h3, if_pos h3, ll_app, ll_app, ll_app, mul_list, toNat_sub, ll_ampn, ll_amp]
    have e : LL (if c = 38 then Str.ofString "amp;" else if c = 60 then Str.ofString "lt;" else Str.ofString "gt;") = nameL c := by
      unfold nameL
      split
      · exact ll_ampn
      · split
        · exact ll_ltn
        · exact ll_gtn
    rw [e]
    simp [ampL]
  · rw [if_neg h3, if_neg h3, ll_app]
theorem fold_list (q k : Nat) : ∀ (l : List Nat) (a : Str), LL (l.foldl (spellStep q k) a) = LL a ++ sp q k l
  | [], a => by simp [sp]
  | c :: r, a => by
    rw [List.foldl_cons, fold_list q k r, step_list]
    simp [sp]
theorem spell_list (q k : Nat) (x : Str) : LL (spell q k x) = sp q k (LL x) := by
  unfold spell spellL
  rw [fold_list]
  have : LL (Str.ofString "") = [] := by decide +kernel
  rw [this]; rfl
theorem flat2 {f g h : Nat → List Nat} (e : ∀ c, (f c).flatMap g = h c) (l : List Nat) : (l.flatMap f).flatMap g = l.flatMap h := by
  induction l with
  | nil => rfl
  | cons c r ih => rw [List.flatMap_cons, List.flatMap_append, ih, e, List.flatMap_cons]
theorem quoted_list (x : Str) : LL (quoted x) = (LL x).flatMap qes := by
  unfold quoted LL
  rw [rep_one (c := 34) (by decide +kernel), rep_one (c := 92) (by decide +kernel)]
  have e1 : (Str.ofString "\\\\").cps.toList = [92, 92] := by decide +kernel
  have e2 : (Str.ofString "\\\"").cps.toList = [92, 34] := by decide +kernel
  rw [e1, e2]
  refine flat2 (fun c => ?_) _
  unfold qes
  by_cases h1 : c = 92
  · subst h1; decide
  · by_cases h2 : c = 34
    · subst h2; decide
    · simp [h1, h2]
theorem escF_list (x : Str) (hx : ∀ c ∈ LL x, c ≠ 13) : LL (escF x) = (LL x).flatMap aes := by
  unfold escF
  have e0 : ∀ l : List Nat, (∀ c ∈ l, c ≠ 13) → ((((l.flatMap fun a => if a = 38 then [38, 97, 109, 112, 59] else [a]).flatMap fun a => if a = 60 then [38, 108, 116, 59] else [a]).flatMap fun a => if a = 62 then [38, 103, 116, 59] else [a]).flatMap fun a => if a = 13 then [38, 35, 120, 68, 59] else [a]) = l.flatMap aes := by
    intro l hl
    induction l with
    | nil => rfl
    | cons c r ih =>
      rw [List.flatMap_cons, List.flatMap_append, List.flatMap_append, List.flatMap_append, ih fun d hd => hl d (.tail _ hd), List.flatMap_cons]
      congr 1
      have h13 := hl c (.head _)
      unfold aes
      by_cases h1 : c = 38
      · subst h1; decide
      by_cases h2 : c = 60
      · subst h2; decide
      by_cases h3 : c = 62
      · subst h3; decide
      simp [h1, h2, h3, h13]
  show (Txt.replace _ _ _).cps.toList = _
  rw [rep_one (c := 13) (by decide +kernel), rep_one (c := 62) (by decide +kernel), rep_one (c := 60) (by decide +kernel), rep_one (c := 38) (by decide +kernel)]
  have e1 : (Str.ofString "&amp;").cps.toList = [38, 97, 109, 112, 59] := by decide +kernel
  have e2 : (Str.ofString "&lt;").cps.toList = [38, 108, 116, 59] := by decide +kernel
  have e3 : (Str.ofString "&gt;").cps.toList = [38, 103, 116, 59] := by decide +kernel
  have e4 : (Str.ofString "&#xD;").cps.toList = [38, 35, 120, 68, 59] := by decide +kernel
  rw [e1, e2, e3, e4]
  exact e0 _ hx
end Mine
end

section
open PySem PySem.W PyProof.Rows PySem.Calls PySem.Spec
set_option Elab.async false
set_option maxRecDepth 100000
namespace Mine
abbrev U := Bool × Nat
def ut : U → List Nat
  | (true, c) => [92, c]
  | (false, c) => [c]
def ftx (us : List U) : List Nat := us.flatMap ut
def OkU (us : List U) : Prop := ∀ u ∈ us, u.1 = false → u.2 ≠ 92
def us1 : U → Str
  | (true, c) => Str.ofString "\\" ++ ⟨#[c]⟩
  | (false, c) => ⟨#[c]⟩
def posd : Nat → List U → List (Nat × Str)
  | _, [] => []
  | i, (true, c) :: r => (i + 1, us1 (true, c)) :: posd (i + 2) r
  | i, (false, c) :: r => (i, us1 (false, c)) :: posd (i + 1) r
theorem ftx_cons (u : U) (r : List U) : ftx (u :: r) = ut u ++ ftx r := by simp [ftx]
theorem ftx_app (a b : List U) : ftx (a ++ b) = ftx a ++ ftx b := by simp [ftx]
theorem ftx_nil : ftx [] = [] := rfl
theorem ut_pos (u : U) : 1 ≤ (ut u).length := by rcases u with ⟨b, c⟩; cases b <;> simp [ut]
theorem ftx_ne {us : List U} (h : us ≠ []) : ftx us ≠ [] := by
  cases us with
  | nil => exact absurd rfl h
  | cons u r =>
    rw [ftx_cons]
    have := ut_pos u
    intro e
    rw [(List.append_eq_nil_iff.mp e).1] at this
    exact absurd this (by decide)
theorem escT_units : ∀ (us : List U) (rest : List Nat) (i : Nat), OkU us → escT (ftx us ++ rest) i false = posd i us ++ escT rest (i + (ftx us).length) false
  | [], rest, i, _ => rfl
  | (true, c) :: r, rest, i, h => by
    have ih := escT_units r rest (i + 2) fun u hu => h u (.tail _ hu)
    rw [ftx_cons]
    show escT (92 :: c :: (ftx r ++ rest)) i false = _
    rw [escT, if_pos rfl, escT, ih, posd]
    have e : i + 2 + (ftx r).length = i + (ut (true, c) ++ ftx r).length := by simp [ut]; omega
    rw [e]; rfl
  | (false, c) :: r, rest, i, h => by
    have ih := escT_units r rest (i + 1) fun u hu => h u (.tail _ hu)
    have hc : ¬ c = 92 := h _ (.head _) rfl
    rw [ftx_cons]
    show escT (c :: (ftx r ++ rest)) i false = _
    rw [escT, if_neg hc, ih, posd]
    have e : i + 1 + (ftx r).length = i + (ut (false, c) ++ ftx r).length := by simp [ut]; omega
    rw [e]; rfl
theorem escT_all (us : List U) (h : OkU us) : escT (ftx us) 0 false = posd 0 us := by
  have := escT_units us [] 0 h
  rw [List.append_nil] at this
  rw [this]
  show posd 0 us ++ escT [] _ false = _
  simp [escT]
theorem posd_app : ∀ (a b : List U) (i : Nat), posd i (a ++ b) = posd i a ++ posd (i + (ftx a).length) b
  | [], b, i => rfl
  | (true, c) :: r, b, i => by
    rw [List.cons_append, posd, posd, posd_app r b (i + 2), ftx_cons]
    have e : i + 2 + (ftx r).length = i + (ut (true, c) ++ ftx r).length := by simp [ut]; omega
    rw [e]; rfl
  | (false, c) :: r, b, i => by
    rw [List.cons_append, posd, posd, posd_app r b (i + 1), ftx_cons]
    have e : i + 1 + (ftx r).length = i + (ut (false, c) ++ ftx r).length := by simp [ut]; omega
    rw [e]; rfl
abbrev qU : U := (false, 34)
theorem us1_qt (u : U) : us1 u = qt ↔ u = qU := by
  rcases u with ⟨b, c⟩
  have e : qt = (⟨#[34]⟩ : Str) := qt34
  rw [e]
  cases b
  · constructor
    · intro h; have := one_inj h; rw [this]
    · intro h; cases h; rfl
  · constructor
    · intro h
      have := congrArg Str.length h
      rw [us1, Str.length_append, bs_len, one_len, one_len] at this
      omega
    · intro h; cases h
def Noq (us : List U) : Prop := ∀ u ∈ us, u ≠ qU
theorem strip_noq (x : Str) : ∀ (us : List U) (i st : Nat) (o : Option Nat) (res : List Str), Noq us → (posd i us).foldl (stripStep x) (st, o, res) = (st, o, res)
  | [], _, _, _, _, _ => rfl
  | (b, c) :: r, i, st, o, res, h => by
    have hu : ¬ us1 (b, c) = qt := fun e => h _ (.head _) ((us1_qt _).mp e)
    have h' : Noq r := fun u hu => h u (.tail _ hu)
    cases b
    · rw [posd, List.foldl_cons]
      have e : stripStep x (st, o, res) (i, us1 (false, c)) = (st, o, res) := by cases o <;> simp [stripStep, hu]
      rw [e]; exact strip_noq x r _ _ _ _ h'
    · rw [posd, List.foldl_cons]
      have e : stripStep x (st, o, res) (i + 1, us1 (true, c)) = (st, o, res) := by cases o <;> simp [stripStep, hu]
      rw [e]; exact strip_noq x r _ _ _ _ h'
def segs (l : List (List U × List U)) : List U := l.flatMap fun p => p.1 ++ qU :: p.2 ++ [qU]
theorem segs_cons (p : List U × List U) (l : List (List U × List U)) : segs (p :: l) = p.1 ++ ([qU] ++ (p.2 ++ ([qU] ++ segs l))) := by simp [segs]
theorem cut_list (x : Str) {a b : Nat} (hab : a ≤ b) (hb : b ≤ (LL x).length) : LL (cut x a b) = ((LL x).drop a).take (b - a) := by
  unfold cut
  have hb' : b ≤ x.length := by simpa [Str.length] using hb
  show (StrLaws.sliceText x (some (a : Int)) (some (b : Int))).cps.toList = _
  rw [StrLaws.sliceText_nat x hab hb']
theorem us1_q : us1 qU = qt := (us1_qt _).mpr rfl
theorem posd_q (i : Nat) : posd i [qU] = [(i, qt)] := by rw [← us1_q]; rfl
theorem ftx_q : ftx [qU] = [34] := rfl
theorem strip_segs (x : Str) : ∀ (l : List (List U × List U)) (p rest : List Nat) (res : List Str), LL x = p ++ ftx (segs l) ++ rest → (∀ s ∈ l, Noq s.1 ∧ Noq s.2 ∧ s.1 ≠ []) →
    ∃ out : List Str, (posd p.length (segs l)).foldl (stripStep x) (p.length, none, res) = ((p ++ ftx (segs l)).length, none, res ++ out) ∧ out.map LL = l.map fun s => ftx s.1
  | [], p, rest, res, _, _ => ⟨[], by simp [segs, posd, ftx], rfl⟩
  | (A, I) :: l, p, rest, res, hx, h => by
    obtain ⟨hA, hI, hne⟩ := h _ (.head _)
    have hA' := ftx_ne hne
    have hAl : 1 ≤ (ftx A).length := List.length_pos_iff.mpr hA'
    have hseg : ftx (segs ((A, I) :: l)) = ftx A ++ ([34] ++ (ftx I ++ ([34] ++ ftx (segs l)))) := by
      rw [segs_cons, ftx_app, ftx_app, ftx_app, ftx_app, ftx_q]
    obtain ⟨out, h1, h2⟩ := strip_segs x l (p ++ ftx A ++ [34] ++ ftx I ++ [34]) rest (res ++ [cut x p.length (p.length + (ftx A).length)]) (by rw [hx, hseg]; simp) fun s hs => h s (.tail _ hs)
    refine ⟨cut x p.length (p.length + (ftx A).length) :: out, ?_, ?_⟩
    · rw [segs_cons, posd_app, posd_app, posd_app, posd_app, List.foldl_append, List.foldl_append, List.foldl_append, List.foldl_append, strip_noq x A _ _ _ _ hA, posd_q, posd_q, ftx_q]
      have e1 : List.foldl (stripStep x) (p.length, none, res) [(p.length + (ftx A).length, qt)] = (p.length, some (p.length + (ftx A).length), res) := by simp [stripStep]
      rw [e1, strip_noq x I _ _ _ _ hI]
      have e2 : List.foldl (stripStep x) (p.length, some (p.length + (ftx A).length), res) [(p.length + (ftx A).length + [34].length + (ftx I).length, qt)] = (p.length + (ftx A).length + 1 + (ftx I).length + 1, none, res ++ [cut x p.length (p.length + (ftx A).length)]) := by
        have : ¬ p.length = p.length + (ftx A).length := by omega
        simp [stripStep]
        intro e; exact absurd e hA'
      rw [e2]
      have e3 : (p ++ ftx A ++ [34] ++ ftx I ++ [34]).length = p.length + (ftx A).length + 1 + (ftx I).length + 1 := by simp; omega
      rw [e3] at h1
      have e4 : p.length + (ftx A).length + [34].length + (ftx I).length + [34].length = p.length + (ftx A).length + 1 + (ftx I).length + 1 := rfl
      rw [e4, h1, ← segs_cons, hseg]
      simp
    · rw [List.map_cons, h2, List.map_cons]
      congr 1
      rw [cut_list x (by omega) (by rw [hx, hseg]; simp), hx, hseg]
      have e5 : p.length + (ftx A).length - p.length = (ftx A).length := by omega
      rw [e5, List.append_assoc, List.drop_left, List.append_assoc, List.take_left]
theorem joinS_list (ts : List Str) : LL (Txt.join (Str.ofString "") ts) = (ts.map LL).flatten := by
  show LL (Builtin.Str.glued _ _) = _
  rw [StrLaws.glued_eq_join]
  have e0 : LL (Str.ofString "") = [] := by decide +kernel
  induction ts with
  | nil => rfl
  | cons a r ih =>
    cases r with
    | nil => simp [Str.join]
    | cons b r' =>
      rw [Str.join, ll_app, ll_app, e0, ih]
      · simp
      · intro h; cases h
theorem strip_page (x : Str) (l : List (List U × List U)) (tail : List U) (hx : LL x = ftx (segs l ++ tail)) (hok : OkU (segs l ++ tail)) (hl : ∀ s ∈ l, Noq s.1 ∧ Noq s.2 ∧ s.1 ≠ []) (ht : Noq tail) (hne : tail ≠ []) :
    LL (stripF x) = (l.map fun s => ftx s.1).flatten ++ ftx tail := by
  have hft : 1 ≤ (ftx tail).length := List.length_pos_iff.mpr (ftx_ne hne)
  have hxl : x.length = (ftx (segs l)).length + (ftx tail).length := by
    have : x.length = (LL x).length := by simp [Str.length, LL]
    rw [this, hx, ftx_app, List.length_append]
  unfold stripF
  split
  · rename_i h
    cases l with
    | nil => rw [hx]; rfl
    | cons s r =>
      exfalso
      have h2 := StrLaws.found_one x 34
      rw [show (⟨#[34]⟩ : Str) = qt from qt34.symm, h] at h2
      have : 34 ∈ LL x := by
        rw [hx, segs_cons, ftx_app, ftx_app, ftx_app, ftx_q]
        simp
      simp [this] at h2
  · obtain ⟨out, h1, h2⟩ := strip_segs x l [] (ftx tail) [] (by rw [hx, ftx_app]; rfl) hl
    have hrun : stripRun x (escT x.cps.toList 0 false) = ((ftx (segs l)).length, none, out) := by
      show stripRun x (escT (LL x) 0 false) = _
      rw [hx, escT_all _ hok]
      unfold stripRun
      rw [posd_app, List.foldl_append]
      have h1' : List.foldl (stripStep x) (0, none, []) (posd 0 (segs l)) = ((ftx (segs l)).length, none, out) := by simpa using h1
      rw [h1', strip_noq x tail _ _ _ _ ht]
    rw [hrun]
    have hlt : (ftx (segs l)).length < x.length := by omega
    simp only [if_pos hlt]
    rw [joinS_list, List.map_append, h2, List.flatten_append]
    congr 1
    rw [List.map_cons, List.map_nil, List.flatten_cons, List.flatten_nil, List.append_nil]
    show (StrLaws.sliceText x (some ((ftx (segs l)).length : Int)) none).cps.toList = _
    rw [StrLaws.sliceText_from ⟨by omega, by rw [show x.cps.toList.length = x.length by simp [Str.length]]; omega⟩]
    show ((LL x).drop _).take _ = _
    rw [hx, ftx_app]
    have e1 : (((ftx (segs l)).length : Nat) : Int).toNat = (ftx (segs l)).length := by omega
    rw [e1, List.drop_left]
    have e2 : ((x.cps.toList.length : Int) - ((ftx (segs l)).length : Int)).toNat = (ftx tail).length := by rw [show x.cps.toList.length = x.length by simp [Str.length]]; omega
    rw [e2, List.take_length]
end Mine
end

section
open PySem PySem.W PyProof.Rows PySem.Calls PySem.Spec
set_option Elab.async false
set_option maxRecDepth 100000
namespace Mine
theorem peel_out : ∀ (us : List U) (i : Nat) (ts : List Str), Noq us → (posd i us).foldl peelStep (false, ts) = (false, ts)
  | [], _, _, _ => rfl
  | (b, c) :: r, i, ts, h => by
    have hu : ¬ us1 (b, c) = qt := fun e => h _ (.head _) ((us1_qt _).mp e)
    have h' : Noq r := fun u hu => h u (.tail _ hu)
    cases b
    · rw [posd, List.foldl_cons]
      have e : peelStep (false, ts) (i, us1 (false, c)) = (false, ts) := by simp [peelStep, hu]
      rw [e]; exact peel_out r _ _ h'
    · rw [posd, List.foldl_cons]
      have e : peelStep (false, ts) (i + 1, us1 (true, c)) = (false, ts) := by simp [peelStep, hu]
      rw [e]; exact peel_out r _ _ h'
theorem item_last (u : U) : LL (Txt.item (us1 u) (-1)) = [u.2] := by
  rcases u with ⟨b, c⟩
  cases b
  · simp [LL, Txt.item, Txt.charAt, us1, seqIndex?, Str.length]
  · have e : us1 (true, c) = (⟨#[92, c]⟩ : Str) := by
      show Str.ofString "\\" ++ (⟨#[c]⟩ : Str) = _
      rw [bs92]; rfl
    rw [e]
    simp [LL, Txt.item, Txt.charAt, seqIndex?, Str.length]
theorem peel_in : ∀ (us : List U) (i : Nat) (ts : List Str) (t : Str), Noq us → ∃ t', (posd i us).foldl peelStep (true, ts ++ [t]) = (true, ts ++ [t']) ∧ LL t' = LL t ++ us.map (·.2)
  | [], _, ts, t, _ => ⟨t, rfl, by simp⟩
  | (b, c) :: r, i, ts, t, h => by
    have hu : ¬ us1 (b, c) = qt := fun e => h _ (.head _) ((us1_qt _).mp e)
    have h' : Noq r := fun u hu => h u (.tail _ hu)
    have e : ∀ j, peelStep (true, ts ++ [t]) (j, us1 (b, c)) = (true, ts ++ [t ++ Txt.item (us1 (b, c)) (-1)]) := fun j => by simp [peelStep, hu]
    have hl : LL (t ++ Txt.item (us1 (b, c)) (-1)) = LL t ++ [c] := by rw [ll_app, item_last]
    cases b
    · obtain ⟨t', h1, h2⟩ := peel_in r (i + 1) ts (t ++ Txt.item (us1 (false, c)) (-1)) h'
      refine ⟨t', ?_, by rw [h2, hl]; simp⟩
      rw [posd, List.foldl_cons, e]; exact h1
    · obtain ⟨t', h1, h2⟩ := peel_in r (i + 2) ts (t ++ Txt.item (us1 (true, c)) (-1)) h'
      refine ⟨t', ?_, by rw [h2, hl]; simp⟩
      rw [posd, List.foldl_cons, e]; exact h1
theorem peel_segs : ∀ (l : List (List U × List U)) (i : Nat) (ts : List Str), (∀ s ∈ l, Noq s.1 ∧ Noq s.2) → ∃ out : List Str, (posd i (segs l)).foldl peelStep (false, ts) = (false, ts ++ out) ∧ out.map LL = l.map fun s => s.2.map (·.2)
  | [], i, ts, _ => ⟨[], by simp [segs, posd], rfl⟩
  | (A, I) :: l, i, ts, h => by
    obtain ⟨hA, hI⟩ := h _ (.head _)
    obtain ⟨t', h1, h2⟩ := peel_in I (i + (ftx A).length + 1) ts (Str.ofString "") hI
    obtain ⟨out, h3, h4⟩ := peel_segs l (i + (ftx A).length + 1 + (ftx I).length + 1) (ts ++ [t']) fun s hs => h s (.tail _ hs)
    have e0 : LL (Str.ofString "") = [] := by decide +kernel
    refine ⟨t' :: out, ?_, ?_⟩
    · rw [segs_cons, posd_app, posd_app, posd_app, posd_app, List.foldl_append, List.foldl_append, List.foldl_append, List.foldl_append, peel_out A _ _ hA, posd_q, posd_q, ftx_q]
      have e1 : ∀ j, List.foldl peelStep (false, ts) [(j, qt)] = (true, ts ++ [Str.ofString ""]) := fun j => by simp [peelStep]
      rw [e1]
      have h1' : List.foldl peelStep (true, ts ++ [Str.ofString ""]) (posd (i + (ftx A).length + [34].length) I) = (true, ts ++ [t']) := h1
      rw [h1']
      have e2 : ∀ j, List.foldl peelStep (true, ts ++ [t']) [(j, qt)] = (false, ts ++ [t']) := fun j => by simp [peelStep]
      rw [e2]
      have h3' : List.foldl peelStep (false, ts ++ [t']) (posd (i + (ftx A).length + [34].length + (ftx I).length + [34].length) (segs l)) = (false, ts ++ [t'] ++ out) := h3
      rw [h3']
      simp
    · rw [List.map_cons, h4, h2, e0]; rfl
theorem peel_page (x : Str) (l : List (List U × List U)) (tail : List U) (hx : LL x = ftx (segs l ++ tail)) (hok : OkU (segs l ++ tail)) (hl : ∀ s ∈ l, Noq s.1 ∧ Noq s.2) (ht : Noq tail) :
    ∃ out : List Str, peelF x = out.map unesc ∧ out.map LL = l.map fun s => s.2.map (·.2) := by
  obtain ⟨out, h1, h2⟩ := peel_segs l 0 [] hl
  refine ⟨out, ?_, h2⟩
  unfold peelF
  rw [show x.cps.toList = LL x from rfl, hx, escT_all _ hok, posd_app, List.foldl_append, h1, peel_out tail _ _ ht]
  rfl
/-- str.replace of a name -/
theorem rep_skip {y z : List Nat} {c : Nat} {r : List Nat} (h : y.head? ≠ some c) (hy : y ≠ []) : repL y z 0 (c :: r) = c :: repL y z 0 r := by
  rw [repL, if_neg]
  intro e
  cases y with
  | nil => exact hy rfl
  | cons a t =>
    simp at e
    exact h (by simp [e.1])
theorem unesc_lt : ∀ f : List Nat, repL [38, 108, 116, 59] [60] 0 (f.flatMap aes) = f.flatMap fun c => if c = 60 then [60] else aes c
  | [] => rfl
  | c :: r => by
    have ih := unesc_lt r
    rw [List.flatMap_cons, List.flatMap_cons, ← ih]
    by_cases h1 : c = 60
    · subst h1; rfl
    by_cases h2 : c = 38
    · subst h2; rfl
    by_cases h3 : c = 62
    · subst h3; rfl
    have e : aes c = [c] := by simp [aes, h1, h2, h3]
    rw [if_neg h1, e]
    exact rep_skip (by simpa using Ne.symm h2) (by simp)
theorem unesc_gt : ∀ f : List Nat, repL [38, 103, 116, 59] [62] 0 (f.flatMap fun c => if c = 60 then [60] else aes c) = f.flatMap fun c => if c = 60 then [60] else if c = 62 then [62] else aes c
  | [] => rfl
  | c :: r => by
    have ih := unesc_gt r
    rw [List.flatMap_cons, List.flatMap_cons, ← ih]
    by_cases h1 : c = 60
    · subst h1; rfl
    by_cases h2 : c = 38
    · subst h2; rfl
    by_cases h3 : c = 62
    · subst h3; rfl
    have e : aes c = [c] := by simp [aes, h1, h2, h3]
    rw [if_neg h1, if_neg h1, if_neg h3, e]
    exact rep_skip (by simpa using Ne.symm h2) (by simp)
theorem unesc_am : ∀ f : List Nat, repL [38, 97, 109, 112, 59] [38] 0 (f.flatMap fun c => if c = 60 then [60] else if c = 62 then [62] else aes c) = f
  | [] => rfl
  | c :: r => by
    have ih := unesc_am r
    rw [List.flatMap_cons]
    by_cases h2 : c = 38
    · subst h2
      exact congrArg (38 :: ·) ih
    have e : (if c = 60 then [60] else if c = 62 then [62] else aes c) = [c] := by
      by_cases h1 : c = 60
      · simp [h1]
      by_cases h3 : c = 62
      · simp [h3]
      simp [aes, h1, h2, h3]
    rw [e]
    show repL _ _ 0 (c :: _) = _
    rw [rep_skip (by simpa using Ne.symm h2) (by simp)]
    exact congrArg (c :: ·) ih
theorem unesc_list (a : Str) (f : List Nat) (h : LL a = f.flatMap aes) : LL (unesc a) = f := by
  unfold unesc
  show (Txt.replace _ _ _).cps.toList = _
  rw [replace_L _ _ _ (by decide +kernel), replace_L _ _ _ (by decide +kernel), replace_L _ _ _ (by decide +kernel)]
  have e1 : (Str.ofString "&lt;").cps.toList = [38, 108, 116, 59] := by decide +kernel
  have e2 : (Str.ofString "&gt;").cps.toList = [38, 103, 116, 59] := by decide +kernel
  have e3 : (Str.ofString "&amp;").cps.toList = [38, 97, 109, 112, 59] := by decide +kernel
  have e4 : (Str.ofString "<").cps.toList = [60] := by decide +kernel
  have e5 : (Str.ofString ">").cps.toList = [62] := by decide +kernel
  have e6 : (Str.ofString "&").cps.toList = [38] := by decide +kernel
  rw [e1, e2, e3, e4, e5, e6, show a.cps.toList = LL a from rfl, h, unesc_lt, unesc_gt, unesc_am]
/-- the units of an escaped text -/
def plain (l : List Nat) : List U := l.map fun c => (false, c)
def inU (f : List Nat) : List U := f.flatMap fun c => if c = 92 then [(true, 92)] else if c = 34 then [(true, 34)] else plain (aes c)
theorem ftx_plain (l : List Nat) : ftx (plain l) = l := by
  induction l with
  | nil => rfl
  | cons c r ih => show ftx ((false, c) :: plain r) = _; rw [ftx_cons, ih]; rfl
theorem ftx_inU (f : List Nat) : ftx (inU f) = (f.flatMap qes).flatMap aes := by
  induction f with
  | nil => rfl
  | cons c r ih =>
    rw [show inU (c :: r) = (if c = 92 then [(true, 92)] else if c = 34 then [(true, 34)] else plain (aes c)) ++ inU r by simp [inU], ftx_app, ih, List.flatMap_cons, List.flatMap_append]
    congr 1
    by_cases h1 : c = 92
    · subst h1; rfl
    by_cases h2 : c = 34
    · subst h2; rfl
    rw [if_neg h1, if_neg h2, ftx_plain]
    simp [qes, h1, h2]
theorem snd_inU (f : List Nat) : (inU f).map (·.2) = f.flatMap aes := by
  induction f with
  | nil => rfl
  | cons c r ih =>
    rw [show inU (c :: r) = (if c = 92 then [(true, 92)] else if c = 34 then [(true, 34)] else plain (aes c)) ++ inU r by simp [inU], List.map_append, ih, List.flatMap_cons]
    congr 1
    by_cases h1 : c = 92
    · subst h1; rfl
    by_cases h2 : c = 34
    · subst h2; rfl
    rw [if_neg h1, if_neg h2]
    simp [plain, Function.comp_def]
theorem aes_mem {c d : Nat} (h : d ∈ aes c) (h1 : c ≠ 92) (h2 : c ≠ 34) : d ≠ 92 ∧ d ≠ 34 := by
  unfold aes at h
  split at h
  · simp [aL] at h; omega
  · split at h
    · simp at h; omega
    · split at h
      · simp at h; omega
      · simp at h; omega
theorem inU_mem {f : List Nat} {u : U} (h : u ∈ inU f) : u ≠ qU ∧ (u.1 = false → u.2 ≠ 92) := by
  unfold inU at h
  obtain ⟨c, _, hc⟩ := List.mem_flatMap.mp h
  by_cases h1 : c = 92
  · rw [if_pos h1] at hc
    rw [List.mem_singleton.mp hc]; exact ⟨by decide, by decide⟩
  by_cases h2 : c = 34
  · rw [if_neg h1, if_pos h2] at hc
    rw [List.mem_singleton.mp hc]; exact ⟨by decide, by decide⟩
  rw [if_neg h1, if_neg h2] at hc
  obtain ⟨d, hd, rfl⟩ := List.mem_map.mp hc
  obtain ⟨k1, k2⟩ := aes_mem hd h1 h2
  exact ⟨fun e => k2 (by cases e; rfl), fun _ => k1⟩
end Mine
end

section
open PySem PySem.W PyProof.Rows PySem.Calls PySem.Spec
set_option Elab.async false
set_option maxRecDepth 100000
set_option maxHeartbeats 4000000
set_option rowWalk.seconds 0
namespace Mine
section
variable {prog : Program} {w : World} {A : Around} {E : Value → Shared → Prop} {s : Shared} {env : Env} {h₀ : Heap} {x : Str} {body : List Stmt} {Q : Flow → Shared → Prop}
theorem rangeD_loop {r : Addr} {a₀ b₀ : Int} {t₀ u₀ v₀ : Tok} {n : Nat} {m₀ : Str → Option Value} {news : List (Addr × Obj)} (J : Nat → (Str → Option Value) → List (Addr × Obj) → Prop)
    (hh : A.handled = none) (hr : IsRange s.heap r a₀ b₀ (-1) t₀ u₀ v₀) (hsmall : Builtin.Range.small a₀ b₀ (-1) = true) (hn : Builtin.Range.rangeSize a₀ b₀ (-1) = (n : Int)) (F : Fr h₀ env.locals s.heap m₀) (N : News h₀ env.locals s.heap news) (hj : J 0 m₀ news)
    (turn : ∀ i t m₁ nx h tk own, i < n → nx.map (·.1) = news.map (·.1) → OwnOff own (news.map (·.1)) → J i m₁ nx →
      Fr h₀ env.locals h (fun y => if y = x then some (.int (a₀ - (i : Int)) t) else m₁ y) → News h₀ env.locals h (nx ++ own) →
      wpAny (model prog w) A (execs body env) (InvPostN h₀ env.locals (J (i + 1)) own (news.map (·.1)) { s with heap := h, toks := tk } Q) E { s with heap := h, toks := tk })
    (done : ∀ m₁ nx h tk, J n m₁ nx → Fr h₀ env.locals h m₁ → News h₀ env.locals h nx → Q .next { s with heap := h, toks := tk }) :
    wpAny (model prog w) A (pyIter (.ref r)) (fun it s₂ => LoopAtV prog w A h₀ env x body Q E it s₂) E s := by
  refine wpAny_pyIter_range hr hsmall ?_
  have W : Walks prog w A s.heap.objs.size [s.heap.objs.size] [s.heap.objs.size] n (fun i v => i < n ∧ ∃ t, v = .int (a₀ + i * (-1)) t)
      (fun i h => IsRangeIter h s.heap.objs.size (a₀ + (i : Nat) * (-1)) ((n : Int) - (i : Nat)) (-1)) := (Walks.range hh _ a₀ (-1) n).bound
  refine loop_invN J W ?_ ?_ ?_ ?_ (by show IsRangeIter _ _ _ _ _; rw [hn]; simpa using Heap.get?_push_size _ rfl) (F.push _) (fun p hp => ⟨Heap.get?_push_of_some _ (N p hp).1, (N p hp).2⟩) hj ?_ ?_
  · intro hm
    exact absurd F.ns.lt ((List.mem_singleton.mp hm) ▸ Nat.lt_irrefl _)
  · intro b hb
    rw [List.mem_singleton.mp hb]
    exact next_is_new F
  · intro p hp hI
    exact absurd (Heap.lt_size (N p hp).1) ((List.mem_singleton.mp hI) ▸ Nat.lt_irrefl _)
  · intro p hp hI
    exact absurd (Heap.lt_size (N p hp).1) ((List.mem_singleton.mp hI) ▸ Nat.lt_irrefl _)
  · rintro i v m₁ nx h tk own hi ⟨_, t, rfl⟩ hadr hoff hj' F₁ N₁
    have e1 : a₀ + (i : Int) * (-1) = a₀ - (i : Int) := by omega
    rw [e1] at F₁
    exact turn i t m₁ nx h tk own hi hadr hoff hj' F₁ N₁
  · rintro m₁ nx h tk hj' F₁ N₁
    exact done m₁ nx h tk hj' F₁ N₁
end
structure LvS where
  name : Str
  own : Str
  closed : Bool
  leaf : Str
  side : Int
def LvS.lv (v : LvS) : Lv := ⟨LL v.name, LL v.own, LL v.leaf, v.side == 1⟩
theorem hid_sp {q k : Nat} {x r : Str} (h : Hid (spell q k x = r)) : LL r = sp q k (LL x) := by rw [← h.get, spell_list]
theorem spell_len3 {q k : Nat} (hq : q ≤ 4) (hk : k ≤ 4) (x : Str) : (spell q k x).length ≤ 32 * x.length := by
  have := spellL_len q k hq hk x.cps.toList
  have e : x.cps.toList.length = x.length := by simp [Str.length]
  unfold spell; omega
theorem item_sub {prog : Program} {w : World} {A : Around} {E : Value → Shared → Prop} {s : Shared} {value slice : PySem.Expr} {l : Addr} {vs : Array Value} {k : Int} {u : Tok} {v : Value} {Q : Value → Shared → Prop}
    (hl : s.heap.IsList l vs) (h0 : 0 ≤ k) (hhi : k < 2 ^ 63) (hx : vs[k.toNat]? = some v) (h : Q v s)
    (hs : subscripted slice false (.ref l) (.int k u) = operate [.ref l, .int k u] (getItem (.ref l) (.int k u)) := by with_unfolding_all rfl) :
    wpAny (model prog w) A (subscriptTail value slice (.ref l) (.int k u)) Q E s :=
  tail_any hl.typeIs slot_list_getitem.lookup (wpAny_getItem_list hl h0 hhi hx h) hs
theorem spell_R (w : World) (x : Str) (q k : Nat) (zq zk : Int) (tx tq tw : Tok) (mean : ExcName → Option Value) (mg mb : Str → Option Value) (news : List (Addr × Obj)) (dp un : Nat) (gd : Option (List Code)) (cn : Str) (cs : Scope) (a : Addr) (ccd : Value) (cl : List (Str × Addr)) (outer : List Env) (A₀ : Around) (base h₀ : Heap) (L : Addr) (m : Str → Option Value) (s : Shared) (Q E : Value → Shared → Prop) (hB : Below A₀ base outer h₀) (hF : Fr h₀ L s.heap m) (hX : (Mine.hd.heap_1 w.params).In h₀) (hN : News h₀ L s.heap news) (hT : Top Mine.view LO mean mg mb h₀) (hcs : cs.kind = .function) (hzq : zq = (q : Int)) (hzk : zk = (k : Int)) (hpre : x.length ≤ 200) (hq : q ≤ 4) (hk : k ≤ 4) (hdp : dp + 3 < recursionLimit) (hun : un + 8 * 3 < cLine)
    (hret : ∀ (r : Str) (t : Tok) (h' : Heap) (tk' : Nat), Hid (spell q k x = r) → r.length ≤ 32 * x.length → Fr h₀ L h' m → News h₀ L h' news → Q (.str r t) ⟨h', s.gens, s.drawn, tk', s.os⟩) : wpAny (model PySem.Challenge.rw_uq0033_01.row.prog w) (ktrTop dp un gd cn cs L a ccd cl outer) (call (.ref 358) [.str x tx, .int zq tq, .int zk tw]) Q E s := by
  subst hzq; subst hzk
  exact spell_C w x q k tx tq tw mean mg mb news dp un gd cn cs a ccd cl outer A₀ base h₀ L m s Q E hB hF hX hN hT hcs ⟨hpre, hq, hk⟩ hdp hun fun t h' tk' F N => hret _ t h' tk' ⟨rfl⟩ (spell_len3 hq hk x) F N
end Mine
end

section
open PySem PySem.W PyProof.Rows PySem.Calls PySem.Spec
set_option Elab.async false
set_option maxRecDepth 100000
set_option maxHeartbeats 4000000
set_option rowWalk.seconds 0
namespace Mine
theorem spell_Z (w : World) (x : Str) (zq zk : Int) (tx tq tw : Tok) (mean : ExcName → Option Value) (mg mb : Str → Option Value) (news : List (Addr × Obj)) (dp un : Nat) (gd : Option (List Code)) (cn : Str) (cs : Scope) (a : Addr) (ccd : Value) (cl : List (Str × Addr)) (outer : List Env) (A₀ : Around) (base h₀ : Heap) (L : Addr) (m : Str → Option Value) (s : Shared) (Q E : Value → Shared → Prop) (hB : Below A₀ base outer h₀) (hF : Fr h₀ L s.heap m) (hX : (Mine.hd.heap_1 w.params).In h₀) (hN : News h₀ L s.heap news) (hT : Top Mine.view LO mean mg mb h₀) (hcs : cs.kind = .function) (h0 : 0 ≤ zq) (h1 : zq ≤ 4) (h2 : 0 ≤ zk) (h3 : zk ≤ 4) (hpre : x.length ≤ 200) (hdp : dp + 3 < recursionLimit) (hun : un + 8 * 3 < cLine)
    (hret : ∀ (r : Str) (t : Tok) (h' : Heap) (tk' : Nat), Hid (spell zq.toNat zk.toNat x = r) → r.length ≤ 32 * x.length → Fr h₀ L h' m → News h₀ L h' news → Q (.str r t) ⟨h', s.gens, s.drawn, tk', s.os⟩) : wpAny (model PySem.Challenge.rw_uq0033_01.row.prog w) (ktrTop dp un gd cn cs L a ccd cl outer) (call (.ref 358) [.str x tx, .int zq tq, .int zk tw]) Q E s :=
  spell_R w x zq.toNat zk.toNat zq zk tx tq tw mean mg mb news dp un gd cn cs a ccd cl outer A₀ base h₀ L m s Q E hB hF hX hN hT hcs (by omega) (by omega) hpre (by omega) (by omega) hdp hun hret
def StopP (Q : Flow → Shared → Prop) (f : Flow) (s : Shared) : Prop := Q f s
theorem stop_in {M : Model} {A : Around} {t : Sem Flow} {Q : Flow → Shared → Prop} {E : Value → Shared → Prop} {s : Shared} (h : wpAny M A t (StopP Q) E s) : wpAny M A t Q E s := wpAny_mono h (fun _ _ x => x) fun _ _ x => x
def revL (lvs : List LvS) (n : Nat) : List Lv := ((lvs.take n).map LvS.lv).reverse
theorem revL_succ {lvs : List LvS} {n : Nat} {lv : LvS} (h : lvs[n]? = some lv) : revL lvs (n + 1) = lv.lv :: revL lvs n := by
  unfold revL
  rw [List.take_add_one, h]
  simp
theorem revL_zero (lvs : List LvS) : revL lvs 0 = [] := rfl
theorem ll_mk : LL (Str.ofString "\"") = [34] := by decide +kernel
theorem ll_rs : LL (Str.ofString "?>") = [63, 62] := by decide +kernel
theorem ll_lq : LL (Str.ofString "<?") = [60, 63] := by decide +kernel
theorem ll_sp : LL (Str.ofString " ") = [32] := by decide +kernel
theorem ll_sA : LL (Str.ofString "; a-") = sA := by decide +kernel
theorem ll_sQ : LL (Str.ofString "; q") = sQ := by decide +kernel
theorem ll_eq : LL (Str.ofString "=") = [61] := by decide +kernel
theorem ll_nil : LL (Str.ofString "") = [] := by decide +kernel
theorem ll_nl : LL (Str.ofString "\n") = [10] := by decide +kernel
theorem ne_nil {x : Str} (h : (x != Str.ofString "") = true) : LL x ≠ [] := fun e => by
  have : x = Str.ofString "" := str_of_list (e.trans ll_nil.symm)
  rw [this] at h
  simp at h
theorem eq_nil {x : Str} (h : (x != Str.ofString "") = false) : LL x = [] := by
  have : x = Str.ofString "" := by simpa using h
  rw [this, ll_nil]
def BesAt (i : Nat) (leaf bes : Str) : Prop := LL bes = beside i (LL leaf)
section
variable {z : Int} {i : Nat} {mk rs s1 s2 sl bes Aa Bb : Str} {lv : LvS} {I tot : List Nat} {X R0 : List Lv} {e : Bool}
theorem bes_1 (hz : z.toNat = i) (hz1 : (z + 1).toNat = i + 1) (hl : (lv.leaf != Str.ofString "") = true) (hm : Hid (spell z.toNat z.toNat (Str.ofString "\"") = mk)) (h3 : Hid (spell (z + 1).toNat (z + 1).toNat lv.leaf = sl)) : BesAt i lv.leaf (Str.ofString "=" ++ mk ++ sl ++ mk) := by
  unfold BesAt beside
  rw [if_neg (ne_nil hl), ll_app, ll_app, ll_app, hid_sp hm, hid_sp h3, hz, hz1, ll_eq, ll_mk]
theorem bes_0 (hl : (lv.leaf != Str.ofString "") = false) : BesAt i lv.leaf (Str.ofString "") := by
  unfold BesAt beside
  rw [if_pos (eq_nil hl), ll_nil]
theorem told_s1 (hJ : Hid (LL Aa ++ mid I i X ++ LL Bb = tot)) (hX : X = lv.lv :: R0) (hz : z.toNat = i) (hz1 : (z + 1).toNat = i + 1) (hs : lv.side = 1) (he : full I R0 = true) (hm : Hid (spell z.toNat z.toNat (Str.ofString "\"") = mk)) (hr : Hid (spell z.toNat z.toNat (Str.ofString "?>") = rs))
    (h1 : Hid (spell z.toNat z.toNat (Str.ofString "<?" ++ lv.name ++ Str.ofString " ") = s1)) (h2 : Hid (spell z.toNat (z + 1).toNat lv.own = s2)) (hb : BesAt i lv.leaf bes) :
    LL (Aa ++ s1 ++ s2 ++ Str.ofString "; a-" ++ bes ++ Str.ofString "; q" ++ Str.ofString "=" ++ mk) ++ mid I (i + 1) R0 ++ LL (mk ++ rs ++ Bb) = tot := by
  rw [← hJ.get, hX, show mid I i (lv.lv :: R0) = shell i lv.lv (full I R0) (mid I (i + 1) R0) from rfl, he]
  simp only [ll_app, hid_sp hm, hid_sp hr, hid_sp h1, hid_sp h2, hz, hz1, ll_mk, ll_rs, ll_lq, ll_sp, ll_sA, ll_sQ, ll_eq, show LL bes = beside i (LL lv.leaf) from hb]
  simp [shell, wrapM, LvS.lv, hs]
theorem told_s1n (hJ : Hid (LL Aa ++ mid I i X ++ LL Bb = tot)) (hX : X = lv.lv :: R0) (hz : z.toNat = i) (hz1 : (z + 1).toNat = i + 1) (hs : lv.side = 1) (he : full I R0 = false) (hm : Hid (spell z.toNat z.toNat (Str.ofString "\"") = mk)) (hr : Hid (spell z.toNat z.toNat (Str.ofString "?>") = rs))
    (h1 : Hid (spell z.toNat z.toNat (Str.ofString "<?" ++ lv.name ++ Str.ofString " ") = s1)) (h2 : Hid (spell z.toNat (z + 1).toNat lv.own = s2)) (hb : BesAt i lv.leaf bes) :
    LL (Aa ++ s1 ++ s2 ++ Str.ofString "; a-" ++ bes ++ Str.ofString "; q") ++ mid I (i + 1) R0 ++ LL (rs ++ Bb) = tot := by
  rw [← hJ.get, hX, show mid I i (lv.lv :: R0) = shell i lv.lv (full I R0) (mid I (i + 1) R0) from rfl, he]
  simp only [ll_app, hid_sp hm, hid_sp hr, hid_sp h1, hid_sp h2, hz, hz1, ll_mk, ll_rs, ll_lq, ll_sp, ll_sA, ll_sQ, ll_eq, show LL bes = beside i (LL lv.leaf) from hb]
  simp [shell, wrapM, LvS.lv, hs]
theorem told_s0 (hJ : Hid (LL Aa ++ mid I i X ++ LL Bb = tot)) (hX : X = lv.lv :: R0) (hz : z.toNat = i) (hz1 : (z + 1).toNat = i + 1) (hs : ¬ lv.side = 1) (he : full I R0 = true) (hm : Hid (spell z.toNat z.toNat (Str.ofString "\"") = mk)) (hr : Hid (spell z.toNat z.toNat (Str.ofString "?>") = rs))
    (h1 : Hid (spell z.toNat z.toNat (Str.ofString "<?" ++ lv.name ++ Str.ofString " ") = s1)) (h2 : Hid (spell z.toNat (z + 1).toNat lv.own = s2)) (hb : BesAt i lv.leaf bes) :
    LL (Aa ++ s1 ++ s2 ++ Str.ofString "; a-" ++ Str.ofString "=" ++ mk) ++ mid I (i + 1) R0 ++ LL (mk ++ (Str.ofString "; q" ++ bes ++ rs) ++ Bb) = tot := by
  rw [← hJ.get, hX, show mid I i (lv.lv :: R0) = shell i lv.lv (full I R0) (mid I (i + 1) R0) from rfl, he]
  simp only [ll_app, hid_sp hm, hid_sp hr, hid_sp h1, hid_sp h2, hz, hz1, ll_mk, ll_rs, ll_lq, ll_sp, ll_sA, ll_sQ, ll_eq, show LL bes = beside i (LL lv.leaf) from hb]
  simp [shell, wrapM, LvS.lv, hs]
theorem told_s0n (hJ : Hid (LL Aa ++ mid I i X ++ LL Bb = tot)) (hX : X = lv.lv :: R0) (hz : z.toNat = i) (hz1 : (z + 1).toNat = i + 1) (hs : ¬ lv.side = 1) (he : full I R0 = false) (hm : Hid (spell z.toNat z.toNat (Str.ofString "\"") = mk)) (hr : Hid (spell z.toNat z.toNat (Str.ofString "?>") = rs))
    (h1 : Hid (spell z.toNat z.toNat (Str.ofString "<?" ++ lv.name ++ Str.ofString " ") = s1)) (h2 : Hid (spell z.toNat (z + 1).toNat lv.own = s2)) (hb : BesAt i lv.leaf bes) :
    LL (Aa ++ s1 ++ s2 ++ Str.ofString "; a-") ++ mid I (i + 1) R0 ++ LL (Str.ofString "; q" ++ bes ++ rs ++ Bb) = tot := by
  rw [← hJ.get, hX, show mid I i (lv.lv :: R0) = shell i lv.lv (full I R0) (mid I (i + 1) R0) from rfl, he]
  simp only [ll_app, hid_sp hm, hid_sp hr, hid_sp h1, hid_sp h2, hz, hz1, ll_mk, ll_rs, ll_lq, ll_sp, ll_sA, ll_sQ, ll_eq, show LL bes = beside i (LL lv.leaf) from hb]
  simp [shell, wrapM, LvS.lv, hs]
theorem told_s0e (hJ : Hid (LL Aa ++ mid I i X ++ LL Bb = tot)) (hX : X = lv.lv :: R0) (hz : z.toNat = i) (hz1 : (z + 1).toNat = i + 1) (hs : ¬ lv.side = 1) (he : full I R0 = true) (hm : Hid (spell z.toNat z.toNat (Str.ofString "\"") = mk)) (hr : Hid (spell z.toNat z.toNat (Str.ofString "?>") = rs))
    (h1 : Hid (spell z.toNat z.toNat (Str.ofString "<?" ++ lv.name ++ Str.ofString " ") = s1)) (h2 : Hid (spell z.toNat (z + 1).toNat lv.own = s2)) (hb : (lv.leaf != Str.ofString "") = false) :
    LL (Aa ++ s1 ++ s2 ++ Str.ofString "; a-" ++ Str.ofString "=" ++ mk) ++ mid I (i + 1) R0 ++ LL (mk ++ (Str.ofString "; q" ++ rs) ++ Bb) = tot := by
  rw [← hJ.get, hX, show mid I i (lv.lv :: R0) = shell i lv.lv (full I R0) (mid I (i + 1) R0) from rfl, he]
  simp only [ll_app, hid_sp hm, hid_sp hr, hid_sp h1, hid_sp h2, hz, hz1, ll_mk, ll_rs, ll_lq, ll_sp, ll_sA, ll_sQ, ll_eq, ll_nil]
  simp [shell, wrapM, LvS.lv, hs, beside, eq_nil hb]

theorem told_s0en (hJ : Hid (LL Aa ++ mid I i X ++ LL Bb = tot)) (hX : X = lv.lv :: R0) (hz : z.toNat = i) (hz1 : (z + 1).toNat = i + 1) (hs : ¬ lv.side = 1) (he : full I R0 = false) (hm : Hid (spell z.toNat z.toNat (Str.ofString "\"") = mk)) (hr : Hid (spell z.toNat z.toNat (Str.ofString "?>") = rs))
    (h1 : Hid (spell z.toNat z.toNat (Str.ofString "<?" ++ lv.name ++ Str.ofString " ") = s1)) (h2 : Hid (spell z.toNat (z + 1).toNat lv.own = s2)) (hb : (lv.leaf != Str.ofString "") = false) :
    LL (Aa ++ s1 ++ s2 ++ Str.ofString "; a-") ++ mid I (i + 1) R0 ++ LL (Str.ofString "; q" ++ rs ++ Bb) = tot := by
  rw [← hJ.get, hX, show mid I i (lv.lv :: R0) = shell i lv.lv (full I R0) (mid I (i + 1) R0) from rfl, he]
  simp only [ll_app, hid_sp hm, hid_sp hr, hid_sp h1, hid_sp h2, hz, hz1, ll_mk, ll_rs, ll_lq, ll_sp, ll_sA, ll_sQ, ll_eq, ll_nil]
  simp [shell, wrapM, LvS.lv, hs, beside, eq_nil hb]
end
theorem fe1 {lvs : List LvS} {top i : Nat} {I : List Nat} (hlen : top ≤ lvs.length) (h : 1 < (top : Int) - (i : Int)) : full I (revL lvs (top - (i + 1))) = true := by
  have : (revL lvs (top - (i + 1))).length = top - (i + 1) := by unfold revL; simp; omega
  unfold full
  cases e : revL lvs (top - (i + 1)) with
  | nil => rw [e] at this; simp at this; omega
  | cons a r => rfl
theorem fe2 {r : List Lv} {inner : Str} (h : (inner != Str.ofString "") = true) : full (LL inner) r = true := by
  have := ne_nil h
  unfold full
  cases e : LL inner with
  | nil => exact absurd e this
  | cons a r => simp
theorem fe3 {lvs : List LvS} {top i : Nat} {inner : Str} (h : ¬ 1 < (top : Int) - (i : Int)) (hi : (inner != Str.ofString "") = false) : full (LL inner) (revL lvs (top - (i + 1))) = false := by
  have e1 : top - (i + 1) = 0 := by omega
  rw [e1, revL_zero, eq_nil hi]; rfl
/-- a text of at most c signs; of at most b + c signs -/
def Lc (x : Str) (c : Nat) : Prop := x.length ≤ c
def Lb (x : Str) (b c : Nat) : Prop := b ≤ 100000 ∧ x.length ≤ b + c
section
variable {prog : Program} {w : World} {A : Around} {E : Value → Shared → Prop} {s : Shared} {x y : Str} {t u : Tok} {Q : Value → Shared → Prop} {b c d : Nat}
theorem add_cc (hx : Lc x c) (hy : Lc y d) (hs : Nat.ble (c + d) 100000 = true) (h : ∀ t' k, Lc (x ++ y) (c + d) → Q (.str (x ++ y) t') { s with toks := k }) : wpAny (model prog w) A (binaryOp .Add (.str x t) (.str y u)) Q E s :=
  KXadd.add hx hy (Nat.le_trans (Nat.le_of_ble_eq_true hs) (by decide)) fun t' k g => h t' k (Nat.le_trans g.2 (Nat.add_le_add hx hy))
theorem add_bc (hx : Lb x b c) (hy : Lc y d) (hs : Nat.ble (c + d) 100000 = true) (h : ∀ t' k, Lb (x ++ y) b (c + d) → Q (.str (x ++ y) t') { s with toks := k }) : wpAny (model prog w) A (binaryOp .Add (.str x t) (.str y u)) Q E s :=
  KXadd.add hx.2 hy (by have := hx.1; have := Nat.le_of_ble_eq_true hs; omega) fun t' k g => h t' k ⟨hx.1, Nat.le_trans g.2 (by rw [← Nat.add_assoc]; exact Nat.add_le_add hx.2 hy)⟩
theorem add_cb (hx : Lc x c) (hy : Lb y b d) (hs : Nat.ble (c + d) 100000 = true) (h : ∀ t' k, Lb (x ++ y) b (c + d) → Q (.str (x ++ y) t') { s with toks := k }) : wpAny (model prog w) A (binaryOp .Add (.str x t) (.str y u)) Q E s :=
  KXadd.add hx hy.2 (by have := hy.1; have := Nat.le_of_ble_eq_true hs; omega) fun t' k g => h t' k ⟨hy.1, Nat.le_trans g.2 (by rw [Nat.add_left_comm]; exact Nat.add_le_add hx hy.2)⟩
end
theorem Lc.app {x y : Str} {c d : Nat} (hx : Lc x c) (hy : Lc y d) : Lc (x ++ y) (c + d) := by
  show _ ≤ _; rw [Str.length_append]; exact Nat.add_le_add hx hy
theorem Lb.end {x : Str} {b c m i : Nat} (h : Lb x b c) (hb : b ≤ m * i) (hc : Nat.ble c m = true) : x.length ≤ m * (i + 1) := by
  rw [Nat.mul_succ]; exact Nat.le_trans h.2 (Nat.add_le_add hb (Nat.le_of_ble_eq_true hc))
theorem Lc.end {x : Str} {c m : Nat} (h : Lc x c) (hc : Nat.ble c m = true) : x.length ≤ m := Nat.le_trans h (Nat.le_of_ble_eq_true hc)
theorem spell_Lc (w : World) (x : Str) (zq zk : Int) (tx tq tw : Tok) (mean : ExcName → Option Value) (mg mb : Str → Option Value) (news : List (Addr × Obj)) (dp un : Nat) (gd : Option (List Code)) (cn : Str) (cs : Scope) (a : Addr) (ccd : Value) (cl : List (Str × Addr)) (outer : List Env) (A₀ : Around) (base h₀ : Heap) (L : Addr) (m : Str → Option Value) (s : Shared) (Q E : Value → Shared → Prop) (c : Nat) (hB : Below A₀ base outer h₀) (hF : Fr h₀ L s.heap m) (hX : (Mine.hd.heap_1 w.params).In h₀) (hN : News h₀ L s.heap news) (hT : Top Mine.view LO mean mg mb h₀) (hcs : cs.kind = .function) (h0 : 0 ≤ zq) (h1 : zq ≤ 4) (h2 : 0 ≤ zk) (h3 : zk ≤ 4) (hpre : Lc x c) (hc : Nat.ble c 200 = true) (hdp : dp + 3 < recursionLimit) (hun : un + 8 * 3 < cLine)
    (hret : ∀ (r : Str) (t : Tok) (h' : Heap) (tk' : Nat), Hid (spell zq.toNat zk.toNat x = r) → Lc r (32 * c) → Fr h₀ L h' m → News h₀ L h' news → Q (.str r t) ⟨h', s.gens, s.drawn, tk', s.os⟩) : wpAny (model PySem.Challenge.rw_uq0033_01.row.prog w) (ktrTop dp un gd cn cs L a ccd cl outer) (call (.ref 358) [.str x tx, .int zq tq, .int zk tw]) Q E s :=
  spell_Z w x zq zk tx tq tw mean mg mb news dp un gd cn cs a ccd cl outer A₀ base h₀ L m s Q E hB hF hX hN hT hcs h0 h1 h2 h3 (Nat.le_trans hpre (Nat.le_of_ble_eq_true hc)) hdp hun fun r t h' tk' e l => hret r t h' tk' e (Nat.le_trans l (Nat.mul_le_mul_left 32 hpre))
theorem told_C (w : World) (ll : Addr) (vs : Array Value) (nn : Nat) (lvs : List LvS) (inner : Str) (top : Nat) (t2 t3 : Tok) (mean : ExcName → Option Value) (mg mb : Str → Option Value) (news : List (Addr × Obj)) (dp un : Nat) (gd : Option (List Code)) (cn : Str) (cs : Scope) (a : Addr) (ccd : Value) (cl : List (Str × Addr)) (outer : List Env) (A₀ : Around) (base h₀ : Heap) (L : Addr) (m : Str → Option Value) (s : Shared) (Q E : Value → Shared → Prop) (hB : Below A₀ base outer h₀) (hF : Fr h₀ L s.heap m) (hX : (Mine.hd.heap_1 w.params).In h₀) (hN : News h₀ L s.heap news) (hT : Top Mine.view LO mean mg mb h₀) (hcs : cs.kind = .function)
    (hll : (ll, listOf vs nn) ∈ news) (hlv : ∀ (i : Nat) (lv : LvS), lvs[i]? = some lv → ∃ (T : Addr) (u1 u2 u3 u4 : Tok), vs[i]? = some (Value.ref T) ∧ (T, tupO #[.str lv.name u1, .str lv.own u2, .bool lv.closed, .str lv.leaf u3, .int lv.side u4]) ∈ news)
    (hlen : top ≤ lvs.length) (htop : top ≤ 3) (hsz : ∀ lv ∈ lvs, lv.name.length ≤ 3 ∧ lv.own.length ≤ 4 ∧ lv.leaf.length ≤ 4) (hin : inner.length ≤ 6) (hdp : dp + 4 < recursionLimit) (hun : un + 8 * 4 < cLine)
    (hret : ∀ (r : Str) (t : Tok) (h' : Heap) (tk' : Nat), Hid (LL r = mid (LL inner) 0 (revL lvs top) ++ [10]) → r.length ≤ 4000 → Fr h₀ L h' m → News h₀ L h' news → Q (.str r t) ⟨h', s.gens, s.drawn, tk', s.os⟩) :
    wpAny (model PySem.Challenge.rw_uq0033_01.row.prog w) (ktrTop dp un gd cn cs L a ccd cl outer) (call (.ref 365) [.ref ll, .str inner t2, .int (top : Int) t3]) Q E s := by
  w_top off
  k_with_none
  (k_with "call ref" => ((with_reducible show wpAny _ _ (call (Value.ref 358) _) _ _ _); k_here; k_dflt (refine spell_Lc _ _ _ _ _ _ _ _ _ _ _ _ _ _ _ _ _ _ _ _ _ _ _ _ _ _ _ _ _ (by k_asm) (by k_asm) (by k_asm) (by k_asm) (by k_asm) rfl (by with_reducible assumption) (by with_reducible assumption) (by with_reducible assumption) (by with_reducible assumption) (by with_reducible assumption) rfl (by k_room) (by first | assumption | omega | ktr_units) ?_); intro r9 t9 h9 tk9 hr9 hl9 F9 N9; (try dsimp only)))
  (k_with "binaryOp Add str str" => (k_here; (with_reducible show wpAny _ _ (binaryOp Operator.Add (Value.str _ _) (Value.str _ _)) _ _ _); k_dflt (first | refine add_cc (by first | with_reducible assumption | with_reducible exact Lc.app (by assumption) (by assumption)) (by first | with_reducible assumption | with_reducible exact Lc.app (by assumption) (by assumption)) rfl ?_ | refine add_bc (by with_reducible assumption) (by first | with_reducible assumption | with_reducible exact Lc.app (by assumption) (by assumption)) rfl ?_ | refine add_cb (by first | with_reducible assumption | with_reducible exact Lc.app (by assumption) (by assumption)) (by with_reducible assumption) rfl ?_); intro _ _ _))
  (k_with "subscriptTail" => ((with_reducible show wpAny _ _ (subscriptTail _ _ (Value.ref _) (Value.int _ _)) _ _ _); k_here; k_dflt (refine item_sub (by assumption) (by omega) (by omega) (by assumption) ?_)))
  rcases cs with ⟨ck⟩
  dsimp only at hcs
  subst hcs
  refine wpAny_call ?_
  k_dflt (refine' code_def ?k1 ?k2 ?k3 ?k4 ?k5 ?kA ?kF ?kK ?k6 ?k7 ?k8 ?k9 ?kB ?_ ?c2 ?c3 ?c4 ?c5; (case kA => exact rfl); (case kF => exact rfl); (case kK => first | exact rfl | assumption); (case k1 => k_asm); (case k2 => k_asm); (case k3 => k_asm); (case k4 => k_asm); (case k5 => k_asm); (case k6 => k_is); (case k7 => k_is); (case k8 => k_room); (case k9 => first | exact BindsTo.of_eq rfl | exact binds_K (by k_in) rfl (by k_is) rfl rfl rfl | fail "k_enter: no rule for these arguments"); (case c5 => decide); (case kB => exact locs rfl); (case c2 => exact rfl); (case c3 => exact rfl); (case c4 => exact rfl); k_whole; intro g' L' h' FG' F' N' B' X' T'; (try dsimp only); (try k_lift B'); (try k_fold))
  iterate 24 walk1
  rename Fr _ _ _ _ => F'
  rename News _ _ _ _ => N'
  rename IsRange _ _ _ _ _ _ _ _ => R'
  refine rangeD_loop (n := top) (fun i m₁ nx => nx = news ∧ ∃ (Aa Bb : Str) (ta tb : Tok), m₁ (Str.ofString "ahead") = some (.str Aa ta) ∧ m₁ (Str.ofString "behind") = some (.str Bb tb) ∧ Hid (LL Aa ++ mid (LL inner) i (revL lvs (top - i)) ++ LL Bb = mid (LL inner) 0 (revL lvs top)) ∧ (Aa.length ≤ 700 * i ∧ Bb.length ≤ 300 * i) ∧
    m₁ (Str.ofString "levels") = some (.ref ll) ∧ m₁ (Str.ofString "inner") = some (.str inner t2) ∧ m₁ (Str.ofString "top") = some (.int (top : Int) t3)) rfl R' (small_down (by omega) (by omega) (by omega) (by omega)) (by rw [rangeSize_downNat]; simp) F' N' ?_ ?_ ?_
  · refine ⟨rfl, _, _, _, _, rfl, rfl, ⟨?_⟩, ?_, rfl, rfl, rfl⟩
    · rw [ll_nil]; simp
    · rw [show (Str.ofString "").length = 0 by decide +kernel]; exact ⟨Nat.zero_le _, Nat.zero_le _⟩
  · rintro i t m₁ _ h tk9 own hi hadr hoff ⟨rfl, Aa, Bb, ta, tb, q1, q2, hJ, hl, q3, q4, q5⟩ F N
    rw [← kstB_self (m := m₁) (ps := [(Str.ofString "ahead", .str Aa ta), (Str.ofString "behind", .str Bb tb), (Str.ofString "levels", .ref ll), (Str.ofString "inner", .str inner t2), (Str.ofString "top", .int (top : Int) t3)]) (by simp [q1, q2, q3, q4, q5])] at F
    have hidx : top - i - 1 < lvs.length := by omega
    obtain ⟨lv, hlvi⟩ : ∃ lv, lvs[top - i - 1]? = some lv := ⟨_, List.getElem?_eq_getElem hidx⟩
    obtain ⟨T, u1, u2, u3, u4, hv, hTm⟩ := hlv _ _ hlvi
    have hIL : h.IsList ll vs := News.isList N (List.mem_append_left _ hll)
    have hIT : IsTup h T #[.str lv.name u1, .str lv.own u2, .bool lv.closed, .str lv.leaf u3, .int lv.side u4] := News.isTup N (List.mem_append_left _ hTm)
    have hvi : vs[((top : Int) - (i : Int) - 1).toNat]? = some (.ref T) := by rw [show ((top : Int) - (i : Int) - 1).toNat = top - i - 1 by omega]; exact hv
    obtain ⟨n1, n2, n3⟩ := hsz lv (List.mem_of_getElem? hlvi)
    have hx0 : Lc (Str.ofString "\"") 1 := by show _ ≤ _; decide +kernel
    have hx2 : Lc (Str.ofString "?>") 2 := by show _ ≤ _; decide +kernel
    have hx1 : Lc (Str.ofString "<?") 2 := by show _ ≤ _; decide +kernel
    have hx3 : Lc (Str.ofString " ") 1 := by show _ ≤ _; decide +kernel
    have hn1 : Lc lv.name 3 := n1
    have hn2 : Lc lv.own 4 := n2
    have hn3 : Lc lv.leaf 4 := n3
    have hin' : Lc inner 6 := hin
    have hA : Lb Aa Aa.length 0 := ⟨by omega, Nat.le_refl _⟩
    have hBb : Lb Bb Bb.length 0 := ⟨by omega, Nat.le_refl _⟩
    have hi3 : i < 3 := by omega
    have z0 : 0 ≤ (top : Int) - ((top : Int) - (i : Int)) := by omega
    have z1 : 0 ≤ (top : Int) - ((top : Int) - (i : Int)) + 1 := by omega
    have z2 : (top : Int) - ((top : Int) - (i : Int)) ≤ 4 := by omega
    have z3 : (top : Int) - ((top : Int) - (i : Int)) + 1 ≤ 4 := by omega
    clear n1 n2 n3
    have hz : ((top : Int) - ((top : Int) - (i : Int))).toNat = i := by omega
    have hz1 : ((top : Int) - ((top : Int) - (i : Int)) + 1).toNat = i + 1 := by omega
    have hrev : revL lvs (top - i) = lv.lv :: revL lvs (top - (i + 1)) := by
      rw [show top - i = top - i - 1 + 1 by omega, show top - (i + 1) = top - i - 1 by omega]
      exact revL_succ hlvi
    have c1 : Lc (Str.ofString "; a-") 4 := by show _ ≤ _; decide +kernel
    have c2 : Lc (Str.ofString "=") 1 := by show _ ≤ _; decide +kernel
    have c3 : Lc (Str.ofString "; q") 3 := by show _ ≤ _; decide +kernel
    have c4 : Lc (Str.ofString "") 0 := by show _ ≤ _; decide +kernel
    refine stop_in ?_
    k_steps
    all_goals (rename Fr _ _ _ _ => F8; rename News _ _ _ _ => N8; show InvEndN _ _ _ _ _ _ _; refine invEnd0 F8 N8 ⟨rfl, _, _, _, _, rfl, rfl, ⟨?_⟩, ?_, rfl, rfl, rfl⟩ hadr)
    all_goals (clear F8 N8)
    all_goals first
      | with_reducible exact told_s1 hJ hrev hz hz1 (by assumption) (by first | exact fe1 hlen (by assumption) | exact fe2 (by assumption)) (by assumption) (by assumption) (by assumption) (by assumption) (by first | exact bes_1 hz hz1 (by assumption) (by assumption) (by assumption) | exact bes_0 (by assumption))
      | with_reducible exact told_s1n hJ hrev hz hz1 (by assumption) (fe3 (by assumption) (by assumption)) (by assumption) (by assumption) (by assumption) (by assumption) (by first | exact bes_1 hz hz1 (by assumption) (by assumption) (by assumption) | exact bes_0 (by assumption))
      | with_reducible exact told_s0 hJ hrev hz hz1 (by assumption) (by first | exact fe1 hlen (by assumption) | exact fe2 (by assumption)) (by assumption) (by assumption) (by assumption) (by assumption) (by first | exact bes_1 hz hz1 (by assumption) (by assumption) (by assumption) | exact bes_0 (by assumption))
      | with_reducible exact told_s0n hJ hrev hz hz1 (by assumption) (fe3 (by assumption) (by assumption)) (by assumption) (by assumption) (by assumption) (by assumption) (by first | exact bes_1 hz hz1 (by assumption) (by assumption) (by assumption) | exact bes_0 (by assumption))
      | with_reducible exact told_s0e hJ hrev hz hz1 (by assumption) (by first | exact fe1 hlen (by assumption) | exact fe2 (by assumption)) (by assumption) (by assumption) (by assumption) (by assumption) (by assumption)
      | with_reducible exact told_s0en hJ hrev hz hz1 (by assumption) (fe3 (by assumption) (by assumption)) (by assumption) (by assumption) (by assumption) (by assumption) (by assumption)
      | exact ⟨Lb.end (by with_reducible assumption) hl.1 rfl, Lb.end (by with_reducible assumption) hl.2 rfl⟩
  · rintro m₁ _ h tk9 ⟨rfl, Aa, Bb, ta, tb, q1, q2, hJ, hl, q3, q4, q5⟩ F N
    rw [← kstB_self (m := m₁) (ps := [(Str.ofString "ahead", .str Aa ta), (Str.ofString "behind", .str Bb tb), (Str.ofString "inner", .str inner t2), (Str.ofString "top", .int (top : Int) t3)]) (by simp [q1, q2, q4, q5])] at F
    have c5 : Lc (Str.ofString "\n") 1 := by show _ ≤ _; decide +kernel
    have hA : Lc Aa 2100 := by show _ ≤ _; omega
    have hBb : Lc Bb 900 := by show _ ≤ _; omega
    have hin' : Lc inner 6 := hin
    have z0 : 0 ≤ (top : Int) := by omega
    have z1 : (top : Int) ≤ 4 := by omega
    k_steps
    rename Fr _ _ _ _ => F8
    rename News _ _ _ _ => N8
    refine hret _ _ _ _ ⟨?_⟩ ?_ F8 N8
    · have hzt : ((top : Int)).toNat = top := by omega
      rename Hid (spell _ _ _ = _) => hr8
      have e1 := hid_sp hr8
      rw [hzt] at e1
      rw [ll_app, ll_app, ll_app, e1, ll_nl, ← hJ.get, Nat.sub_self, revL_zero]
      rfl
    · exact Lc.end (by with_reducible assumption) rfl
end Mine
end

section
open PySem PySem.W PyProof.Rows PySem.Calls PySem.Spec
set_option Elab.async false
set_option maxRecDepth 100000
set_option maxHeartbeats 4000000
set_option rowWalk.seconds 0
namespace Mine
theorem fmod10 (n : Int) : n.fmod 10 = n % 10 := Int.fmod_eq_emod_of_nonneg n (by decide)
theorem fdiv10 (n : Int) : n.fdiv 10 = n / 10 := Int.fdiv_eq_ediv_of_nonneg n (by decide)
def pc1 (ws : List Str) (n : Int) : Str := ws.getD (n.fmod 10).toNat Str.empty
def pcs (ws : List Str) (n : Int) : List Str := if 0 < n then pc1 ws n :: (if 0 < n.fdiv 10 then pc1 ws (n.fdiv 10) :: (if 0 < (n.fdiv 10).fdiv 10 then [pc1 ws ((n.fdiv 10).fdiv 10)] else []) else []) else []
theorem strsAre_get : ∀ {us : List Value} {ws : List Str} {i : Nat}, StrsAre us ws → i < ws.length → ∃ t, us[i]? = some (.str (ws.getD i Str.empty) t)
  | _, _, i, .nil, h => by simp at h
  | _, _, 0, .cons y t r, _ => ⟨t, rfl⟩
  | _, _, i + 1, .cons y t r, h => by
    obtain ⟨t', e⟩ := strsAre_get (i := i) r (by simpa using h)
    exact ⟨t', by simpa using e⟩
theorem item_str {prog : Program} {w : World} {A : Around} {E : Value → Shared → Prop} {s : Shared} {value slice : PySem.Expr} {l : Addr} {vs : Array Value} {ws : List Str} {k : Int} {u : Tok} {Q : Value → Shared → Prop}
    (hl : s.heap.IsList l vs) (hs : StrsAre vs.toList ws) (h0 : 0 ≤ k) (hhi : k < (ws.length : Int) ∧ k < 2 ^ 63) (h : ∀ t, Q (.str (ws.getD k.toNat Str.empty) t) s)
    (hsb : subscripted slice false (.ref l) (.int k u) = operate [.ref l, .int k u] (getItem (.ref l) (.int k u)) := by with_unfolding_all rfl) :
    wpAny (model prog w) A (subscriptTail value slice (.ref l) (.int k u)) Q E s := by
  obtain ⟨t, e⟩ := strsAre_get (i := k.toNat) hs (by omega)
  exact item_sub hl h0 hhi.2 (by simpa using e) (h t) hsb
theorem pieces_C (w : World) (lp : Addr) (pvs : Array Value) (c : Nat) (ws : List Str) (n : Int) (t1 : Tok) (mean : ExcName → Option Value) (mg mb : Str → Option Value) (news : List (Addr × Obj)) (dp un : Nat) (gd : Option (List Code)) (cn : Str) (cs : Scope) (a : Addr) (ccd : Value) (cl : List (Str × Addr)) (outer : List Env) (A₀ : Around) (base h₀ : Heap) (L : Addr) (m : Str → Option Value) (s : Shared) (Q E : Value → Shared → Prop) (hB : Below A₀ base outer h₀) (hF : Fr h₀ L s.heap m) (hX : (Mine.hd.heap_1 w.params).In h₀) (hN : News h₀ L s.heap news) (hT : Top Mine.view LO mean mg mb h₀) (hcs : cs.kind = .function)
    (hlp : (lp, listOf pvs c) ∈ news) (hps : StrsAre pvs.toList ws) (hw : ws.length = 10) (hn0 : 0 ≤ n) (hn : n < 1000) (hdp : dp + 2 < recursionLimit) (hun : un + 8 * 2 < cLine)
    (hret : ∀ (D : Addr) (vs : Array Value) (k : Nat) (h' : Heap) (tk' : Nat), StrsAre vs.toList (pcs ws n) → (∀ p ∈ news, p.1 < D) → Fr h₀ L h' m → News h₀ L h' ((D, listOf vs k) :: news) → Q (.ref D) ⟨h', s.gens, s.drawn, tk', s.os⟩) :
    wpAny (model PySem.Challenge.rw_uq0033_01.row.prog w) (ktrTop dp un gd cn cs L a ccd cl outer) (call (.ref 346) [.int n t1, .ref lp]) Q E s := by
  w_top off
  k_with_none
  (k_with "subscriptTail" => ((with_reducible show wpAny _ _ (subscriptTail _ _ (Value.ref _) (Value.int _ _)) _ _ _); k_here; k_dflt (refine item_str (News.isList (by k_asm) (by first | assumption | exact List.Mem.tail _ (by assumption))) (by assumption) (by omega) (by omega) ?_); intro t9))
  rcases cs with ⟨ck⟩
  dsimp only at hcs
  subst hcs
  have hd1 := fdiv10 n
  have hd2 := fdiv10 (n.fdiv 10)
  have hd3 := fdiv10 ((n.fdiv 10).fdiv 10)
  have hm1 := fmod10 n
  have hm2 := fmod10 (n.fdiv 10)
  have hm3 := fmod10 ((n.fdiv 10).fdiv 10)
  refine wpAny_call ?_
  k_dflt (refine' code_def ?k1 ?k2 ?k3 ?k4 ?k5 ?kA ?kF ?kK ?k6 ?k7 ?k8 ?k9 ?kB ?_ ?c2 ?c3 ?c4 ?c5; (case kA => exact rfl); (case kF => exact rfl); (case kK => first | exact rfl | assumption); (case k1 => k_asm); (case k2 => k_asm); (case k3 => k_asm); (case k4 => k_asm); (case k5 => k_asm); (case k6 => k_is); (case k7 => k_is); (case k8 => k_room); (case k9 => first | exact BindsTo.of_eq rfl | exact binds_K (by k_in) rfl (by k_is) rfl rfl rfl | fail "k_enter: no rule for these arguments"); (case c5 => decide); (case kB => exact locs rfl); (case c2 => exact rfl); (case c3 => exact rfl); (case c4 => exact rfl); k_whole; intro g' L' h' FG' F' N' B' X' T'; (try dsimp only); (try k_lift B'); (try k_fold))
  k_steps
  by_cases a0 : 0 < n
  · refine WhlIf.yes (decide_eq_true a0) ?_
    k_steps
    by_cases a1 : 0 < n.fdiv 10
    · refine WhlIf.yes (decide_eq_true a1) ?_
      k_steps
      by_cases a2 : 0 < (n.fdiv 10).fdiv 10
      · refine WhlIf.yes (decide_eq_true a2) ?_
        k_steps
        refine WhlIf.no (decide_eq_false (by omega)) ?_
        k_steps
        rename Fr _ _ _ _ => F8; rename News _ _ _ _ => N8; refine hret _ _ _ _ _ ?_ (by assumption) F8 N8
        unfold pcs
        rw [if_pos a0, if_pos a1, if_pos a2]
        exact .cons _ _ (.cons _ _ (.cons _ _ .nil))
      · refine WhlIf.no (decide_eq_false a2) ?_
        k_steps
        rename Fr _ _ _ _ => F8; rename News _ _ _ _ => N8; refine hret _ _ _ _ _ ?_ (by assumption) F8 N8
        unfold pcs
        rw [if_pos a0, if_pos a1, if_neg a2]
        exact .cons _ _ (.cons _ _ .nil)
    · refine WhlIf.no (decide_eq_false a1) ?_
      k_steps
      rename Fr _ _ _ _ => F8; rename News _ _ _ _ => N8; refine hret _ _ _ _ _ ?_ (by assumption) F8 N8
      unfold pcs
      rw [if_pos a0, if_neg a1]
      exact .cons _ _ .nil
  · refine WhlIf.no (decide_eq_false a0) ?_
    k_steps
    rename Fr _ _ _ _ => F8; rename News _ _ _ _ => N8; refine hret _ _ _ _ _ ?_ (by assumption) F8 N8
    unfold pcs
    rw [if_neg a0]
    exact .nil
end Mine
end

section
open PySem PySem.W PyProof.Rows PySem.Calls PySem.Spec
set_option Elab.async false
set_option maxRecDepth 100000
set_option maxHeartbeats 4000000
namespace Mine
section
variable {prog : Program} {w : World} {A : Around} {E : Value → Shared → Prop} {s : Shared} {env : Env} {h₀ : Heap} {x : Str} {body : List Stmt} {Q : Flow → Shared → Prop} {I ax : Addr} {lo : Obj}
theorem unrPost_mono {L : Addr} {s₁ : Shared} {it : Obj} {r1 r2 : (Str → Option Value) → List (Addr × Obj) → Prop} (h : ∀ m' n', r1 m' n' → r2 m' n') {f : Flow} {s' : Shared} (p : UnrPost h₀ L s₁ I it r1 Q f s') : UnrPost h₀ L s₁ I it r2 Q f s' := by
  have go : UnrEnd h₀ L s₁ I it r1 s' → UnrEnd h₀ L s₁ I it r2 s' := fun ⟨h', tk, m', n', e, F, N, o, r⟩ => ⟨h', tk, m', n', e, F, N, o, h _ _ r⟩
  cases f with
  | next => exact go p
  | cont => exact go p
  | brk => exact p
  | ret v => exact p
theorem listG_rest (J : Nat → (Str → Option Value) → List (Addr × Obj) → Prop) (all : List Int)
    (turn : ∀ i k t m₁ nx h tk it, all[i]? = some k → it.cls = .type "list_iterator" → (ax, lo) ∈ nx → (∀ p ∈ nx, p.1 ≠ I) → J i m₁ nx →
      Fr h₀ env.locals h (fun y => if y = x then some (.int k t) else m₁ y) → News h₀ env.locals h ((I, it) :: nx) →
      wpAny (model prog w) A (execs body env) (UnrPost h₀ env.locals { s with heap := h, toks := tk } I it (fun m' n' => (ax, lo) ∈ n' ∧ (∀ p ∈ n', p.1 ≠ I) ∧ J (i + 1) m' n') Q) E { s with heap := h, toks := tk })
    (done : ∀ m₁ nx h tk, J all.length m₁ nx → Fr h₀ env.locals h m₁ → News h₀ env.locals h nx → Q .next { s with heap := h, toks := tk }) :
    ∀ (vs : List Value) (ns : List Int) (i : Nat) (m : Str → Option Value) (nx : List (Addr × Obj)), IntsAre vs ns → ns = all.drop i → i ≤ all.length → (ax, lo) ∈ nx → (∀ p ∈ nx, p.1 ≠ I) → J i m nx → ListRest prog w A E h₀ env x body Q s I (ax, lo) vs m nx
  | _, _, i, m, nx, .nil, he, hi, _, _, hj => by
    have hl : i = all.length := by
      have := congrArg List.length he
      simp at this; omega
    subst hl
    exact fun h tk F N => done m nx h tk hj F N
  | _, _, i, m, nx, .cons k t r, he, hi, hm, ho, hj => by
    intro it h tk hc F N
    have hk : all[i]? = some k := by
      have := congrArg (fun l : List Int => l[0]?) he
      simpa using this.symm
    have hr := congrArg List.tail he
    simp only [List.tail_cons, List.tail_drop] at hr
    have hi2 : i + 1 ≤ all.length := by
      have := (List.getElem?_eq_some_iff.mp hk).1
      omega
    refine wpAny_mono (turn i k t m nx h tk it hk hc hm ho hj F N) (fun f s' p => ?_) fun _ _ e => e
    exact unrPost_mono (fun m' n' q => ⟨q.1, listG_rest J all turn done _ _ (i + 1) m' n' r hr hi2 q.1 q.2.1 q.2.2⟩) p
theorem listG_loop {vs : List Value} {ns : List Int} {n : Nat} {m₀ : Str → Option Value} {news : List (Addr × Obj)} (J : Nat → (Str → Option Value) → List (Addr × Obj) → Prop)
    (hh : A.handled = none) (F : Fr h₀ env.locals s.heap m₀) (N : News h₀ env.locals s.heap news) (hm : (ax, listOf vs.toArray n) ∈ news) (hi : IntsAre vs ns) (hj : J 0 m₀ news)
    (turn : ∀ (I : Addr) i k t m₁ nx h tk it, ns[i]? = some k → it.cls = .type "list_iterator" → (ax, listOf vs.toArray n) ∈ nx → (∀ p ∈ nx, p.1 ≠ I) → J i m₁ nx →
      Fr h₀ env.locals h (fun y => if y = x then some (.int k t) else m₁ y) → News h₀ env.locals h ((I, it) :: nx) →
      wpAny (model prog w) A (execs body env) (UnrPost h₀ env.locals { s with heap := h, toks := tk } I it (fun m' n' => (ax, listOf vs.toArray n) ∈ n' ∧ (∀ p ∈ n', p.1 ≠ I) ∧ J (i + 1) m' n') Q) E { s with heap := h, toks := tk })
    (done : ∀ m₁ nx h tk, J ns.length m₁ nx → Fr h₀ env.locals h m₁ → News h₀ env.locals h nx → Q .next { s with heap := h, toks := tk }) :
    wpAny (model prog w) A (pyIter (.ref ax)) (fun it s₂ => LoopAtV prog w A h₀ env x body Q E it s₂) E s :=
  iter_listUnr hh F N hm rfl rfl fun I hI => listG_rest J ns (turn I) done vs ns 0 m₀ news hi rfl (Nat.zero_le _) hm (fun p hp => Nat.ne_of_lt (hI p hp)) hj
end
end Mine
end

section
open PySem PySem.W PyProof.Rows PySem.Calls PySem.Spec
set_option Elab.async false
set_option maxRecDepth 100000
namespace Mine
def no13 (l : List Nat) : Prop := ∀ c ∈ l, c ≠ 13
theorem fp_list (p v : Str) : LL (fpF p v) = LL p ++ part (LL v) := by
  unfold fpF part
  by_cases h : LL v = []
  · have : ¬ 0 < (v.length : Int) := by
      have e : v.length = (LL v).length := by simp [Str.length, LL]
      rw [e, h]; simp
    rw [if_neg this, if_pos h, List.append_nil]
  · have : 0 < (v.length : Int) := by
      have e : v.length = (LL v).length := by simp [Str.length, LL]
      have := List.length_pos_iff.mpr h
      omega
    rw [if_pos this, if_neg h, ll_app, ll_app, ll_app, quoted_list, ll_mk]
    have e1 : LL (Str.ofString "=\"") = [61, 34] := by decide +kernel
    rw [e1]; simp
theorem hdr_list (own f s : Str) : LL (hdrF own f s) = LL own ++ sA ++ part (LL f) ++ sQ ++ part (LL s) := by
  unfold hdrF
  rw [join3, ll_app, ll_app, ll_app, ll_app, fp_list, fp_list]
  have e1 : LL (Str.ofString "; ") = [59, 32] := by decide +kernel
  have e2 : LL (Str.ofString "a-") = [97, 45] := by decide +kernel
  have e3 : LL (Str.ofString "q") = [113] := by decide +kernel
  rw [e1, e2, e3]
  simp [sA, sQ]
theorem no13_part {l : List Nat} (h : no13 l) : no13 (part l) := by
  unfold part
  split
  · intro c hc; cases hc
  · intro c hc
    rcases List.mem_append.mp hc with hc | hc
    · rcases List.mem_append.mp hc with hc | hc
      · simp at hc; omega
      · obtain ⟨d, hd, hc⟩ := List.mem_flatMap.mp hc
        have := h d hd
        unfold qes at hc
        split at hc
        · simp at hc; omega
        · split at hc
          · simp at hc; omega
          · simp at hc; omega
    · simp at hc; omega
theorem no13_app {a b : List Nat} (ha : no13 a) (hb : no13 b) : no13 (a ++ b) := fun c hc => (List.mem_append.mp hc).elim (ha c) (hb c)
theorem no13_sA : no13 sA := fun c hc => by simp [sA] at hc; omega
theorem no13_sQ : no13 sQ := fun c hc => by simp [sQ] at hc; omega
theorem page_list (name own f s : Str) (h2 : no13 (LL own)) (h3 : no13 (LL f)) (h4 : no13 (LL s)) : LL (pageF name own f s) = pageL (LL name) (LL own) (LL f) (LL s) ++ [10] := by
  unfold pageF
  rw [joinS_list, List.map_cons, List.map_cons, List.map_nil, List.flatten_cons, List.flatten_cons, List.flatten_nil, List.append_nil, ll_nl, ll_app, ll_app, ll_app, ll_app, ll_app, ll_lq, ll_sp, ll_rs,
    escF_list _ (by rw [hdr_list]; exact no13_app (no13_app (no13_app (no13_app h2 no13_sA) (no13_part h3)) no13_sQ) (no13_part h4)), hdr_list]
  have e0 : LL Str.empty = [] := by decide +kernel
  rw [e0]
  simp [pageL]
/-- the units of an own text behind the references -/
def ownU (ou : List U) : List U := ou.flatMap fun u => if u.1 then [u] else plain (aes u.2)
theorem ftx_ownU : ∀ {ou : List U}, (∀ u ∈ ou, u.1 = true → aes u.2 = [u.2]) → ftx (ownU ou) = (ftx ou).flatMap aes
  | [], _ => rfl
  | (true, c) :: r, h => by
    have ih := ftx_ownU (ou := r) fun u hu => h u (.tail _ hu)
    have hc : aes c = [c] := h _ (.head _) rfl
    rw [show ownU ((true, c) :: r) = (true, c) :: ownU r from rfl, ftx_cons, ftx_cons, List.flatMap_append, ih]
    show [92, c] ++ _ = [92, c].flatMap aes ++ _
    rw [List.flatMap_cons, List.flatMap_cons, hc]
    rfl
  | (false, c) :: r, h => by
    have ih := ftx_ownU (ou := r) fun u hu => h u (.tail _ hu)
    rw [show ownU ((false, c) :: r) = plain (aes c) ++ ownU r from rfl, ftx_app, ftx_plain, ftx_cons, List.flatMap_append, ih]
    simp [ut]
structure OwnOk (own : Str) (ou : List U) : Prop where
  txt : LL own = ftx ou
  ok : OkU (ownU ou)
  noq : Noq (ownU ou)
  esc : ∀ u ∈ ou, u.1 = true → aes u.2 = [u.2]
def headU (name : List Nat) (ou : List U) : List U := plain ([60, 63] ++ name ++ [32]) ++ ownU ou ++ plain sA
/-- the pieces of a page -/
def segsOf (name : List Nat) (ou : List U) (f s : List Nat) : List (List U × List U) × List U :=
  if f = [] then (if s = [] then ([], headU name ou ++ plain sQ ++ plain [63, 62, 10]) else ([(headU name ou ++ plain sQ ++ plain [61], inU s)], plain [63, 62, 10]))
  else (if s = [] then ([(headU name ou ++ plain [61], inU f)], plain sQ ++ plain [63, 62, 10]) else ([(headU name ou ++ plain [61], inU f), (plain sQ ++ plain [61], inU s)], plain [63, 62, 10]))
theorem plain_app (a b : List Nat) : plain (a ++ b) = plain a ++ plain b := by simp [plain]
theorem part_flat (f : List Nat) (h : f ≠ []) : (part f).flatMap aes = [61, 34] ++ ftx (inU f) ++ [34] := by
  unfold part
  rw [if_neg h, List.flatMap_append, List.flatMap_append, ftx_inU]
  rfl
theorem segs_txt (name : List Nat) (own : Str) (ou : List U) (f s : List Nat) (ho : OwnOk own ou) :
    ftx (segs (segsOf name ou f s).1 ++ (segsOf name ou f s).2) = pageL name (LL own) f s ++ [10] := by
  have hh : ftx (headU name ou) = [60, 63] ++ name ++ [32] ++ (LL own).flatMap aes ++ sA := by
    unfold headU
    rw [ftx_app, ftx_app, ftx_plain, ftx_plain, ftx_ownU ho.esc, ho.txt]
  have hA : sA.flatMap aes = sA := by decide
  have hQ : sQ.flatMap aes = sQ := by decide
  unfold pageL
  rw [List.flatMap_append, List.flatMap_append, List.flatMap_append, List.flatMap_append, hA, hQ]
  unfold segsOf
  by_cases hf : f = []
  · subst hf
    by_cases hs : s = []
    · subst hs
      simp only [if_true]
      rw [show segs [] = [] from rfl, List.nil_append, ftx_app, ftx_app, hh, ftx_plain, ftx_plain]
      simp [part]
    · rw [if_pos rfl, if_neg hs, part_flat s hs]
      simp only [segs_cons, show segs [] = [] from rfl, ftx_app, hh, ftx_plain, ftx_q]
      simp [part, ftx]
  · by_cases hs : s = []
    · subst hs
      rw [if_neg hf, if_pos rfl, part_flat f hf]
      simp only [segs_cons, show segs [] = [] from rfl, ftx_app, hh, ftx_plain, ftx_q]
      simp [part, ftx]
    · rw [if_neg hf, if_neg hs, part_flat f hf, part_flat s hs]
      simp only [segs_cons, show segs [] = [] from rfl, ftx_app, hh, ftx_plain, ftx_q]
      simp [ftx]
end Mine
end

section
open PySem PySem.W PyProof.Rows PySem.Calls PySem.Spec
set_option Elab.async false
set_option maxRecDepth 100000
namespace Mine
/-- signs that neither quote, escape nor close -/
def quiet (l : List Nat) : Prop := ∀ c ∈ l, c ≠ 92 ∧ c ≠ 34 ∧ c ≠ 40 ∧ c ≠ 41
theorem plain_ok {l : List Nat} (h : ∀ c ∈ l, c ≠ 92 ∧ c ≠ 34) : OkU (plain l) ∧ Noq (plain l) := by
  constructor
  · intro u hu _
    obtain ⟨c, hc, rfl⟩ := List.mem_map.mp hu
    exact (h c hc).1
  · intro u hu e
    obtain ⟨c, hc, rfl⟩ := List.mem_map.mp hu
    exact (h c hc).2 (by cases e; rfl)
theorem okU_app {a b : List U} (ha : OkU a) (hb : OkU b) : OkU (a ++ b) := fun u hu => (List.mem_append.mp hu).elim (ha u) (hb u)
theorem noq_app {a b : List U} (ha : Noq a) (hb : Noq b) : Noq (a ++ b) := fun u hu => (List.mem_append.mp hu).elim (ha u) (hb u)
theorem sA_ok : ∀ c ∈ sA, c ≠ 92 ∧ c ≠ 34 := by intro c hc; simp [sA] at hc; omega
theorem sQ_ok : ∀ c ∈ sQ, c ≠ 92 ∧ c ≠ 34 := by intro c hc; simp [sQ] at hc; omega
theorem eq_ok : ∀ c ∈ [61], c ≠ 92 ∧ c ≠ 34 := by intro c hc; simp at hc; omega
theorem end_ok : ∀ c ∈ [63, 62, 10], c ≠ 92 ∧ c ≠ 34 := by intro c hc; simp at hc; omega
theorem head_ok {name : List Nat} {own : Str} {ou : List U} (ho : OwnOk own ou) (hn : quiet name) : OkU (headU name ou) ∧ Noq (headU name ou) := by
  have h1 : ∀ c ∈ [60, 63] ++ name ++ [32], c ≠ 92 ∧ c ≠ 34 := by
    intro c hc
    rcases List.mem_append.mp hc with hc | hc
    · rcases List.mem_append.mp hc with hc | hc
      · simp at hc; omega
      · exact ⟨(hn c hc).1, (hn c hc).2.1⟩
    · simp at hc; omega
  exact ⟨okU_app (okU_app (plain_ok h1).1 ho.ok) (plain_ok sA_ok).1, noq_app (noq_app (plain_ok h1).2 ho.noq) (plain_ok sA_ok).2⟩
theorem inU_ok (f : List Nat) : OkU (inU f) ∧ Noq (inU f) := ⟨fun _ hu => (inU_mem hu).2, fun _ hu => (inU_mem hu).1⟩
theorem qU_ok : OkU [qU] := by intro u hu _; rw [List.mem_singleton.mp hu]; decide
theorem segs_okU : ∀ {l : List (List U × List U)}, (∀ s ∈ l, OkU s.1 ∧ OkU s.2) → OkU (segs l)
  | [], _ => fun u hu => by cases hu
  | (A, I) :: l, h => by
    rw [segs_cons]
    have h1 := h _ (.head _)
    exact okU_app h1.1 (okU_app qU_ok (okU_app h1.2 (okU_app qU_ok (segs_okU fun s hs => h s (.tail _ hs)))))
structure SegOk (p : List (List U × List U) × List U) : Prop where
  ok : OkU (segs p.1 ++ p.2)
  each : ∀ s ∈ p.1, Noq s.1 ∧ Noq s.2 ∧ s.1 ≠ []
  tail : Noq p.2
  ne : p.2 ≠ []
theorem plain_ne (c : Nat) (l : List Nat) : plain (c :: l) ≠ [] := by simp [plain]
theorem segs_ok {name : List Nat} {own : Str} {ou : List U} (f s : List Nat) (ho : OwnOk own ou) (hn : quiet name) : SegOk (segsOf name ou f s) := by
  obtain ⟨k1, k2⟩ := head_ok ho hn
  obtain ⟨q1, q2⟩ := plain_ok sQ_ok
  obtain ⟨e1, e2⟩ := plain_ok eq_ok
  obtain ⟨n1, n2⟩ := plain_ok end_ok
  obtain ⟨f1, f2⟩ := inU_ok f
  obtain ⟨s1, s2⟩ := inU_ok s
  have ne1 : ∀ a : List U, a ++ plain [61] ≠ [] := fun a e => plain_ne 61 [] (List.append_eq_nil_iff.mp e).2
  have ne2 : ∀ a : List U, a ++ plain [63, 62, 10] ≠ [] := fun a e => plain_ne 63 _ (List.append_eq_nil_iff.mp e).2
  unfold segsOf
  by_cases hf : f = []
  · by_cases hs : s = []
    · rw [if_pos hf, if_pos hs]
      exact ⟨okU_app (segs_okU fun _ h => nomatch h) (okU_app (okU_app k1 q1) n1), (fun _ h => nomatch h), noq_app (noq_app k2 q2) n2, ne2 _⟩
    · rw [if_pos hf, if_neg hs]
      refine ⟨okU_app (segs_okU fun p h => ?_) n1, fun p h => ?_, n2, plain_ne _ _⟩
      · rw [List.mem_singleton.mp h]; exact ⟨okU_app (okU_app k1 q1) e1, s1⟩
      · rw [List.mem_singleton.mp h]; exact ⟨noq_app (noq_app k2 q2) e2, s2, ne1 _⟩
  · by_cases hs : s = []
    · rw [if_neg hf, if_pos hs]
      refine ⟨okU_app (segs_okU fun p h => ?_) (okU_app q1 n1), fun p h => ?_, noq_app q2 n2, ne2 _⟩
      · rw [List.mem_singleton.mp h]; exact ⟨okU_app k1 e1, f1⟩
      · rw [List.mem_singleton.mp h]; exact ⟨noq_app k2 e2, f2, ne1 _⟩
    · rw [if_neg hf, if_neg hs]
      refine ⟨okU_app (segs_okU fun p h => ?_) n1, fun p h => ?_, n2, plain_ne _ _⟩
      · rcases List.mem_cons.mp h with h | h
        · rw [h]; exact ⟨okU_app k1 e1, f1⟩
        · rw [List.mem_singleton.mp h]; exact ⟨okU_app q1 e1, s1⟩
      · rcases List.mem_cons.mp h with h | h
        · rw [h]; exact ⟨noq_app k2 e2, f2, ne1 _⟩
        · rw [List.mem_singleton.mp h]; exact ⟨noq_app q2 e2, s2, ne1 _⟩
/-- a page's own frame, as units -/
def frameU (name : List Nat) (ou : List U) (f s : List Nat) : List U := headU name ou ++ (if f = [] then [] else plain [61]) ++ plain sQ ++ (if s = [] then [] else plain [61]) ++ plain [63, 62, 10]
theorem strip_is {page own : Str} {name : List Nat} {ou : List U} {f s : List Nat} (hp : LL page = pageL name (LL own) f s ++ [10]) (ho : OwnOk own ou) (hn : quiet name) : LL (stripF page) = ftx (frameU name ou f s) := by
  have k := segs_ok f s ho hn
  rw [strip_page page (segsOf name ou f s).1 (segsOf name ou f s).2 (by rw [hp, segs_txt _ _ _ _ _ ho]) k.ok k.each k.tail k.ne]
  unfold segsOf frameU
  by_cases hf : f = []
  · by_cases hs : s = []
    · rw [if_pos hf, if_pos hs, if_pos hf, if_pos hs]; simp
    · rw [if_pos hf, if_neg hs, if_pos hf, if_neg hs]; simp [ftx_app]
  · by_cases hs : s = []
    · rw [if_neg hf, if_pos hs, if_neg hf, if_pos hs]; simp [ftx_app]
    · rw [if_neg hf, if_neg hs, if_neg hf, if_neg hs]; simp [ftx_app]
theorem peel_is {page own : Str} {name : List Nat} {ou : List U} {f s : List Nat} (hp : LL page = pageL name (LL own) f s ++ [10]) (ho : OwnOk own ou) (hn : quiet name) : (peelF page).map LL = ([f, s] : List (List Nat)).filter (· ≠ []) := by
  have k := segs_ok f s ho hn
  obtain ⟨out, h1, h2⟩ := peel_page page (segsOf name ou f s).1 (segsOf name ou f s).2 (by rw [hp, segs_txt _ _ _ _ _ ho]) k.ok (fun p hp => ⟨(k.each p hp).1, (k.each p hp).2.1⟩) k.tail
  have go : ∀ (out : List Str) (g : List (List Nat)), out.map LL = g.map (fun x => x.flatMap aes) → (out.map unesc).map LL = g := by
    intro out
    induction out with
    | nil => intro g h; cases g with
      | nil => rfl
      | cons a r => simp at h
    | cons o r ih => intro g h; cases g with
      | nil => simp at h
      | cons a g =>
        simp only [List.map_cons, List.cons.injEq] at h
        rw [List.map_cons, List.map_cons, unesc_list o a h.1, ih g h.2]
  rw [h1]
  refine go out _ ?_
  rw [h2]
  unfold segsOf
  by_cases hf : f = []
  · by_cases hs : s = []
    · rw [if_pos hf, if_pos hs]; simp [hf, hs]
    · rw [if_pos hf, if_neg hs]; simp [hf, hs, snd_inU]
  · by_cases hs : s = []
    · rw [if_neg hf, if_pos hs]; simp [hf, hs, snd_inU]
    · rw [if_neg hf, if_neg hs]; simp [hf, hs, snd_inU]
end Mine
end

section
open PySem PySem.W PyProof.Rows PySem.Calls PySem.Spec
set_option Elab.async false
set_option maxRecDepth 100000
namespace Mine
theorem frame_list (name own f s : Str) (ou : List U) (ho : OwnOk own ou) : LL (frameF name own f s) = ftx (frameU (LL name) ou (LL f) (LL s)) := by
  have hh : ftx (headU (LL name) ou) = [60, 63] ++ LL name ++ [32] ++ (LL own).flatMap aes ++ sA := by
    unfold headU
    rw [ftx_app, ftx_app, ftx_plain, ftx_plain, ftx_ownU ho.esc, ho.txt]
  have hsp : LL (spell 0 1 own) = (LL own).flatMap aes := by rw [spell_list, aes_sp]
  have e1 : LL (Str.ofString "?>\n") = [63, 62, 10] := by decide +kernel
  have ha : LL (Str.ofString "<?" ++ name ++ Str.ofString " " ++ spell 0 1 own ++ Str.ofString "; a-") = ftx (headU (LL name) ou) := by
    rw [ll_app, ll_app, ll_app, ll_app, hsp, ll_lq, ll_sp, ll_sA, hh]
  have hf : ∀ (x : Str) (a : Str), LL (if (x != Str.ofString "") = true then a ++ Str.ofString "=" else a) = LL a ++ ftx (if LL x = [] then [] else plain [61]) := by
    intro x a
    cases h : (x != Str.ofString "")
    · rw [if_neg Bool.false_ne_true, if_pos (eq_nil h)]; simp [ftx]
    · rw [if_pos rfl, if_neg (ne_nil h), ll_app, ll_eq, ftx_plain]
  unfold frameF frameU
  dsimp only
  rw [ll_app, hf, ll_app, hf, ha, ll_sQ, e1]
  simp only [ftx_app, ftx_plain]
def parU : Option Int → U → Option Int
  | none, _ => none
  | some n, u => if u = (false, 40) then some (n + 1) else if u = (false, 41) then (if n - 1 < 0 then none else some (n - 1)) else some n
theorem us1_one (u : U) (d : Nat) : us1 u = (⟨#[d]⟩ : Str) ↔ u = (false, d) := by
  rcases u with ⟨b, c⟩
  cases b
  · constructor
    · intro h; rw [one_inj h]
    · intro h; cases h; rfl
  · constructor
    · intro h
      have := congrArg Str.length h
      rw [us1, Str.length_append, bs_len, one_len, one_len] at this
      omega
    · intro h; cases h
theorem lp40 : lp = (⟨#[40]⟩ : Str) := by decide +kernel
theorem rp41 : rp = (⟨#[41]⟩ : Str) := by decide +kernel
theorem parStep_us (o : Option Int) (i : Nat) (u : U) : parStep o (i, us1 u) = parU o u := by
  cases o with
  | none => rfl
  | some n =>
    show (if us1 u = lp then some (n + 1) else if us1 u = rp then (if n - 1 < 0 then none else some (n - 1)) else some n) = (if u = (false, 40) then some (n + 1) else if u = (false, 41) then (if n - 1 < 0 then none else some (n - 1)) else some n)
    rw [lp40, rp41]
    by_cases h1 : u = (false, 40)
    · rw [if_pos h1, if_pos ((us1_one u 40).mpr h1)]
    rw [if_neg h1, if_neg fun e => h1 ((us1_one u 40).mp e)]
    by_cases h2 : u = (false, 41)
    · rw [if_pos h2, if_pos ((us1_one u 41).mpr h2)]
    rw [if_neg h2, if_neg fun e => h2 ((us1_one u 41).mp e)]
theorem par_posd : ∀ (us : List U) (i : Nat) (o : Option Int), (posd i us).foldl parStep o = us.foldl parU o
  | [], _, _ => rfl
  | (true, c) :: r, i, o => by rw [posd, List.foldl_cons, List.foldl_cons, parStep_us, par_posd r]
  | (false, c) :: r, i, o => by rw [posd, List.foldl_cons, List.foldl_cons, parStep_us, par_posd r]
theorem par_plain : ∀ (l : List Nat) (o : Option Int), (∀ c ∈ l, c ≠ 40 ∧ c ≠ 41) → (plain l).foldl parU o = o
  | [], _, _ => rfl
  | c :: r, o, h => by
    have hc := h c (.head _)
    rw [show plain (c :: r) = (false, c) :: plain r from rfl, List.foldl_cons, show parU o (false, c) = o by cases o <;> simp [parU, hc.1, hc.2]]
    exact par_plain r o fun d hd => h d (.tail _ hd)
theorem aes_par (c : Nat) (o : Option Int) : (plain (aes c)).foldl parU o = parU o (false, c) := by
  by_cases h1 : c = 38
  · subst h1; rw [par_plain _ o (by decide)]; cases o <;> simp [parU]
  by_cases h2 : c = 60
  · subst h2; rw [par_plain _ o (by decide)]; cases o <;> simp [parU]
  by_cases h3 : c = 62
  · subst h3; rw [par_plain _ o (by decide)]; cases o <;> simp [parU]
  have : aes c = [c] := by simp [aes, h1, h2, h3]
  rw [this]; rfl
theorem own_par : ∀ (ou : List U) (o : Option Int), (ownU ou).foldl parU o = ou.foldl parU o
  | [], _ => rfl
  | (true, c) :: r, o => by
    rw [show ownU ((true, c) :: r) = (true, c) :: ownU r from rfl, List.foldl_cons, List.foldl_cons, own_par r]
  | (false, c) :: r, o => by
    rw [show ownU ((false, c) :: r) = plain (aes c) ++ ownU r from rfl, List.foldl_append, aes_par, List.foldl_cons, own_par r]
def closedU (ou : List U) : Bool := match ou.foldl parU (some 0) with | none => false | some n => n == 0
theorem frameU_ok {name : List Nat} {own : Str} {ou : List U} (f s : List Nat) (ho : OwnOk own ou) (hn : quiet name) : OkU (frameU name ou f s) := by
  have e : ∀ x : List Nat, OkU (if x = [] then [] else plain [61]) := fun x => by
    split
    · exact fun u hu => nomatch hu
    · exact (plain_ok eq_ok).1
  exact okU_app (okU_app (okU_app (okU_app (head_ok ho hn).1 (e f)) (plain_ok sQ_ok).1) (e s)) (plain_ok end_ok).1
theorem frameU_par {name : List Nat} (ou : List U) (f s : List Nat) (o : Option Int) (hn : quiet name) : (frameU name ou f s).foldl parU o = ou.foldl parU o := by
  have e : ∀ (x : List Nat) (o : Option Int), (if x = [] then [] else plain [61]).foldl parU o = o := fun x o => by
    split
    · rfl
    · exact par_plain _ o (by decide)
  have hh : ∀ c ∈ [60, 63] ++ name ++ [32], c ≠ 40 ∧ c ≠ 41 := by
    intro c hc
    rcases List.mem_append.mp hc with hc | hc
    · rcases List.mem_append.mp hc with hc | hc
      · simp at hc; omega
      · exact ⟨(hn c hc).2.2.1, (hn c hc).2.2.2⟩
    · simp at hc; omega
  unfold frameU headU
  rw [List.foldl_append, List.foldl_append, List.foldl_append, List.foldl_append, List.foldl_append, List.foldl_append, par_plain _ _ hh, own_par, par_plain sA _ (by decide), e, par_plain sQ _ (by decide), e, par_plain _ _ (by decide)]
theorem check_is {page own : Str} {name : List Nat} {ou : List U} {f s : List Nat} (hp : LL page = pageL name (LL own) f s ++ [10]) (ho : OwnOk own ou) (hn : quiet name) : checkF page = closedU ou := by
  unfold checkF closedU
  rw [show (stripF page).cps.toList = LL (stripF page) from rfl, strip_is hp ho hn, escT_all _ (frameU_ok f s ho hn), par_posd, frameU_par ou f s _ hn]
  all_goals (cases ou.foldl parU (some 0) <;> rfl)
/-- the pieces of the own texts -/
def unitU : List (List U) := [[(false, 97)], [(false, 40)], [(false, 41)], [(true, 40)], [(true, 92)], [(true, 34)], [(false, 60)], [(false, 38)], [(false, 41)], [(false, 62)]]
theorem ownOk_of {own : Str} {ous : List (List U)} (h : ∀ o ∈ ous, o ∈ unitU) (ht : LL own = ftx ous.flatten) : OwnOk own ous.flatten := by
  have key : ∀ o ∈ unitU, (∀ u ∈ ownU o, u ≠ qU ∧ (u.1 = false → u.2 ≠ 92)) ∧ ∀ u ∈ o, u.1 = true → aes u.2 = [u.2] := by decide
  have hf : ownU ous.flatten = (ous.map ownU).flatten := by
    clear h ht
    induction ous with
    | nil => rfl
    | cons a r ih => rw [List.flatten_cons, List.map_cons, List.flatten_cons, ← ih]; simp [ownU]
  have hm : ∀ u ∈ ownU ous.flatten, u ≠ qU ∧ (u.1 = false → u.2 ≠ 92) := by
    intro u hu
    rw [hf] at hu
    obtain ⟨l, hl, hu⟩ := List.mem_flatten.mp hu
    obtain ⟨o, hol, rfl⟩ := List.mem_map.mp hl
    exact (key o (h o hol)).1 u hu
  refine ⟨ht, fun u hu => (hm u hu).2, fun u hu => (hm u hu).1, fun u hu => ?_⟩
  obtain ⟨o, hol, hu⟩ := List.mem_flatten.mp hu
  exact (key o (h o hol)).2 u hu
end Mine
end

section
open PySem PySem.W PyProof.Rows PySem.Calls PySem.Spec
set_option Elab.async false
set_option maxRecDepth 100000
set_option maxHeartbeats 4000000
namespace Mine
/-- the end of a turn whose calls may have made generators -/
def TurnG (h₀ : Heap) (L I : Addr) (ito : Obj) (Jn : (Str → Option Value) → List (Addr × Obj) → Prop) (s₁ : Shared) (Q : Flow → Shared → Prop) (f : Flow) (s' : Shared) : Prop :=
  match f with
  | .ret v => Q (.ret v) s'
  | .brk => Q .next s'
  | _ => ∃ h' g' tk' m' nx', s' = ⟨h', g', s₁.drawn, tk', s₁.os⟩ ∧ (AllBare s₁.gens → AllBare g') ∧ Fr h₀ L h' m' ∧ News h₀ L h' ((I, ito) :: nx') ∧ (∀ p ∈ nx', p.1 ≠ I) ∧ Jn m' nx'
def LoopAtG (prog : Program) (w : World) (A : Around) (h₀ : Heap) (env : Env) (x : Str) (body : List Stmt) (Q : Flow → Shared → Prop) (E : Value → Shared → Prop) (it : Value) (s₂ : Shared) : Prop :=
  ∃ (I : Addr) (a : Int) (n : Nat) (m : Str → Option Value) (news : List (Addr × Obj)) (J : Nat → (Str → Option Value) → List (Addr × Obj) → Prop),
    it = .ref I ∧ IsRangeIter s₂.heap I a (n : Int) 1 ∧ I ≠ env.locals ∧ h₀.get? I = none ∧ (∀ p ∈ news, p.1 ≠ I) ∧ Fr h₀ env.locals s₂.heap m ∧ News h₀ env.locals s₂.heap news ∧ J 0 m news ∧
    (∀ i t m₁ nx h g tk ito, i < n → 1 ≤ tk → (AllBare s₂.gens → AllBare g) → (∀ p ∈ nx, p.1 ≠ I) → J i m₁ nx → Fr h₀ env.locals h (fun y => if y = x then some (.int (a + (i : Int)) t) else m₁ y) → News h₀ env.locals h ((I, ito) :: nx) →
      wpAny (model prog w) A (execs body env) (TurnG h₀ env.locals I ito (J (i + 1)) ⟨h, g, s₂.drawn, tk, s₂.os⟩ Q) E ⟨h, g, s₂.drawn, tk, s₂.os⟩) ∧
    ∀ m₁ nx h g tk, (AllBare s₂.gens → AllBare g) → J n m₁ nx → Fr h₀ env.locals h m₁ → News h₀ env.locals h nx → Q .next ⟨h, g, s₂.drawn, tk, s₂.os⟩
section
variable {prog : Program} {w : World} {A : Around} {E : Value → Shared → Prop} {s : Shared} {env : Env} {h₀ : Heap} {Q : Flow → Shared → Prop}
theorem For_rangeG {x : Str} {px pos : Pos} {iter : PySem.Expr} {body : List Stmt} (h₀ : Heap) (hh : A.handled = none) (hx : env.kindOf x = some .local)
    (hp : (env.scope.kind == .class || (env.scope.kind == .module && env.locals != env.globals)) = false)
    (h : wpAny (model prog w) A (eval iter env) (fun xv s₁ => wpAny (model prog w) A (pyIter xv) (fun it s₂ => LoopAtG prog w A h₀ env x body Q E it s₂) E s₁) E s)
    (hs : ∀ x, foldedSetIterable iter env x = pure x := by intro _; rfl)
    (hE : PassesOwn (model prog w) A env E := by passes_own) :
    wpAny (model prog w) A (exec (.For (.Name x px) iter body [] pos) env) Q E s := by
  refine wpAny_For (wpAny_mono h (fun xv s₁ h₁ => wpAny_mono h₁ (fun it s₂ h₂ => ?_) fun _ _ e => e) fun _ _ e => e) hs
  obtain ⟨I, a, n, m, news, J, rfl, hit, hLI, hI0, hnI, F, N, hj, step, hQ⟩ := h₂
  have W := Walks.range (prog := prog) (w := w) hh I a 1 n
  refine codeAny_forLoop
    (fun k s' => ∃ h' g' tk' m' news' i, s' = ⟨h', g', s₂.drawn, tk', s₂.os⟩ ∧ (AllBare s₂.gens → AllBare g') ∧ IsRangeIter h' I (a + ((i : Nat) : Int) * 1) ((n : Int) - (i : Nat)) 1 ∧ Fr h₀ env.locals h' m' ∧ News h₀ env.locals h' news' ∧ (∀ p ∈ news', p.1 ≠ I) ∧ J i m' news' ∧ i ≤ n ∧ k = n + 1 - i) ?_ (n + 1)
    ⟨s₂.heap, s₂.gens, s₂.toks, m, news, 0, rfl, fun z => z, by simpa using hit, F, N, hnI, hj, Nat.zero_le _, rfl⟩
  rintro k s' ⟨h', g', tk', m', news', i, rfl, hg, hst', F', N', hnw', hJ, hi, rfl⟩
  have next : ∀ h₁ : Heap, (∀ b o, b ∉ [I] → h'.get? b = some o → h₁.get? b = some o) → Fr h₀ env.locals h₁ m' ∧ News h₀ env.locals h₁ news' := fun h₁ hk₁ =>
    ⟨⟨F'.ns.at' fun o e => hk₁ _ o (fun hb => hLI (List.mem_singleton.mp hb).symm) e, fun b o e => hk₁ b o (fun hb => by rw [List.mem_singleton.mp hb, hI0] at e; cases e) (F'.keep b o e), F'.above⟩, fun p hp => ⟨hk₁ _ _ (fun hb => hnw' p hp (List.mem_singleton.mp hb)) (N' p hp).1, (N' p hp).2⟩⟩
  by_cases hlt : i < n
  · refine W.item i _ _ _ hlt hst' fun v h₁ tk₁ hP hst₁ hk₁ => ?_
    obtain ⟨t, rfl⟩ := hP
    obtain ⟨F₁, N₁⟩ := next h₁ hk₁
    refine wpAny_assign_Name (wpAny_storeName_local hx F₁.ns (fun h₂ hn₂ hs₂ => ?_) hp)
    have F₂ := F₁.set hn₂ hs₂
    have hst₂ := W.frame _ h₁ h₂ hst₁ fun b hb o e => (hs₂.2 b fun q => hLI ((List.mem_singleton.mp hb) ▸ q)).trans e
    obtain ⟨ito, e0, e2⟩ : ∃ ito : Obj, h₂.get? I = some ito ∧ ∀ h' : Heap, h'.get? I = some ito → IsRangeIter h' I (a + ((i + 1 : Nat) : Int) * 1) ((n : Int) - ((i + 1 : Nat) : Int)) 1 := ⟨_, hst₂, fun _ e => e⟩
    have N₂ : News h₀ env.locals h₂ ((I, ito) :: news') := fun p hp => by
      rcases List.mem_cons.mp hp with e | hp
      · rw [e]; exact ⟨e0, hLI, hI0⟩
      · exact (N₁.set hs₂) p hp
    have e1 : a + (i : Int) * 1 = a + (i : Int) := by omega
    rw [e1] at F₂
    refine wpAny_mono (wpAny_passesOwn hE (step i t m' news' h₂ g' (tk₁ + 1) ito hlt (Nat.le_add_left _ _) hg hnw' hJ F₂ N₂)) (fun f s₃ h₃ => ?_) fun _ _ e => e
    have fin : (∃ h' g'' tk' m' nx', s₃ = ⟨h', g'', s₂.drawn, tk', s₂.os⟩ ∧ (AllBare g' → AllBare g'') ∧ Fr h₀ env.locals h' m' ∧ News h₀ env.locals h' ((I, ito) :: nx') ∧ (∀ p ∈ nx', p.1 ≠ I) ∧ J (i + 1) m' nx') → ∃ k', k' < n + 1 - i ∧ ∃ h' g' tk' m' news' i, s₃ = ⟨h', g', s₂.drawn, tk', s₂.os⟩ ∧ (AllBare s₂.gens → AllBare g') ∧ IsRangeIter h' I (a + ((i : Nat) : Int) * 1) ((n : Int) - (i : Nat)) 1 ∧ Fr h₀ env.locals h' m' ∧ News h₀ env.locals h' news' ∧ (∀ p ∈ news', p.1 ≠ I) ∧ J i m' news' ∧ i ≤ n ∧ k' = n + 1 - i := by
      rintro ⟨hp3, g₃, tk₃, m₃, nx₃, rfl, hg₃, F₃, N₃, ho₃, hJ₃⟩
      exact ⟨n + 1 - (i + 1), by omega, hp3, g₃, tk₃, m₃, nx₃, i + 1, rfl, fun z => hg₃ (hg z), e2 _ (N₃ _ (.head _)).1, F₃, fun p hp => N₃ p (.tail _ hp), ho₃, hJ₃, hlt, rfl⟩
    cases f with
    | ret v => exact h₃
    | brk => exact h₃
    | cont => exact fin h₃
    | next => exact fin h₃
  · have hin : i = n := by omega
    subst hin
    refine W.done _ _ _ hst' fun h₁ tk₁ hk₁ => wpAny_execs_nil ?_
    obtain ⟨F₁, N₁⟩ := next h₁ hk₁
    exact hQ m' news' h₁ g' tk₁ hg hJ F₁ N₁
theorem rangeG_loop {x : Str} {body : List Stmt} {r : Addr} {a₀ b₀ : Int} {t₀ u₀ v₀ : Tok} {n : Nat} {m₀ : Str → Option Value} {news : List (Addr × Obj)} (J : Nat → (Str → Option Value) → List (Addr × Obj) → Prop)
    (hr : IsRange s.heap r a₀ b₀ 1 t₀ u₀ v₀) (hsmall : Builtin.Range.small a₀ b₀ 1 = true) (hn : Builtin.Range.rangeSize a₀ b₀ 1 = (n : Int)) (F : Fr h₀ env.locals s.heap m₀) (N : News h₀ env.locals s.heap news) (hj : J 0 m₀ news)
    (turn : ∀ I i t m₁ nx h g tk ito, i < n → 1 ≤ tk → (AllBare s.gens → AllBare g) → (∀ p ∈ nx, p.1 ≠ I) → J i m₁ nx → Fr h₀ env.locals h (fun y => if y = x then some (.int (a₀ + (i : Int)) t) else m₁ y) → News h₀ env.locals h ((I, ito) :: nx) →
      wpAny (model prog w) A (execs body env) (TurnG h₀ env.locals I ito (J (i + 1)) ⟨h, g, s.drawn, tk, s.os⟩ Q) E ⟨h, g, s.drawn, tk, s.os⟩)
    (done : ∀ m₁ nx h g tk, (AllBare s.gens → AllBare g) → J n m₁ nx → Fr h₀ env.locals h m₁ → News h₀ env.locals h nx → Q .next ⟨h, g, s.drawn, tk, s.os⟩) :
    wpAny (model prog w) A (pyIter (.ref r)) (fun it s₂ => LoopAtG prog w A h₀ env x body Q E it s₂) E s := by
  refine wpAny_pyIter_range hr hsmall ?_
  refine ⟨_, _, n, m₀, news, J, rfl, by rw [hn]; exact Heap.get?_push_size _ rfl, ?_, next_is_new F, ?_, F.push _, (fun p hp => ⟨Heap.get?_push_of_some _ (N p hp).1, (N p hp).2⟩), hj, fun i t m₁ nx h g tk ito => turn _ i t m₁ nx h g tk ito, done⟩
  · exact fun e => absurd F.ns.lt (e ▸ Nat.lt_irrefl _)
  · exact fun p hp e => absurd (Heap.lt_size (N p hp).1) (e ▸ Nat.lt_irrefl _)
end
end Mine
end

section
open PySem PySem.W PyProof.Rows PySem.Calls PySem.Spec
set_option Elab.async false
set_option maxRecDepth 100000
namespace Mine
def nmS : List Str := [Str.ofString "x", Str.ofString "Y", Str.ofString "z-Z"]
def sgS : List Str := [Str.ofString "a", Str.ofString "\"", Str.ofString "\\", Str.ofString "(", Str.ofString ")", Str.ofString "&", Str.ofString "<", Str.ofString ">", Str.ofString "; ", Str.ofString "é"]
def unS : List Str := [Str.ofString "a", Str.ofString "(", Str.ofString ")", Str.ofString "\\(", Str.ofString "\\\\", Str.ofString "\\\"", Str.ofString "<", Str.ofString "&", Str.ofString ")", Str.ofString ">"]
def joinE (l : List Str) : Str := Txt.join (Str.ofString "") l
def bareOf (l : List Str) : Str := joinE (l.filter fun u => u == Str.ofString "(" || u == Str.ofString ")")
def closedF (l : List Str) : Bool := bareOf l == Str.ofString "" || bareOf l == Str.ofString "()"
def ouOf (n : Int) : List (List U) :=
  let g := fun k : Int => unitU.getD (k.fmod 10).toNat []
  if 0 < n then g n :: (if 0 < n.fdiv 10 then g (n.fdiv 10) :: (if 0 < (n.fdiv 10).fdiv 10 then [g ((n.fdiv 10).fdiv 10)] else []) else []) else []
/-- what the law needs of a level -/
structure LvOk (lv : LvS) : Prop where
  unit : ∃ ou, OwnOk lv.own ou ∧ closedU ou = lv.closed
  qn : quiet (LL lv.name)
  no : no13 (LL lv.own)
  nl : no13 (LL lv.leaf)
  szn : lv.name.length ≤ 3
  szo : lv.own.length ≤ 4
  szl : lv.leaf.length ≤ 4
  okn : okB lv.name = true
  oko : okB lv.own = true
  okl : okB lv.leaf = true
  low : okB (Txt.lower (Txt.swapcase lv.name)) = true
  swp : (Txt.lower lv.name == Txt.lower (Txt.swapcase lv.name)) = true
  hin : PyData.strOk lv.name = true
  hio : PyData.strOk lv.own = true
  hil : PyData.strOk lv.leaf = true
  sd : lv.side = 0 ∨ lv.side = 1
def okName (x : Str) : Bool := (LL x).all (fun c => c != 92 && c != 34 && c != 40 && c != 41) && decide (x.length ≤ 3) && okB x && okB (Txt.lower (Txt.swapcase x)) && (Txt.lower x == Txt.lower (Txt.swapcase x)) && PyData.strOk x
def okTxt (x : Str) : Bool := decide (x.length ≤ 4) && okB x && PyData.strOk x
theorem no13_ok {x : Str} (h : okB x = true) : no13 (LL x) := by
  intro c hc
  unfold okB at h
  have := List.all_eq_true.mp h c hc
  simp at this
  omega
theorem name_all : ∀ i : Fin 3, okName (nmS.getD i.val Str.empty) = true := by decide +kernel
theorem leaf_all : ∀ i : Fin 100, okTxt (joinE (pcs sgS (i.val : Int))) = true := by decide +kernel
def ownChk (n : Int) : Bool := okTxt (joinE (pcs unS n)) && ((ouOf n).all fun o => unitU.contains o) && (LL (joinE (pcs unS n)) == ftx (ouOf n).flatten) && (closedU (ouOf n).flatten == closedF (pcs unS n))
theorem own_all : ∀ i : Fin 100, ownChk (i.val : Int) = true := by decide +kernel
theorem inner_all : ∀ i : Fin 1000, (decide ((joinE (pcs sgS (i.val : Int))).length ≤ 6) && okB (joinE (pcs sgS (i.val : Int))) && PyData.strOk (joinE (pcs sgS (i.val : Int)))) = true := by decide +kernel
theorem fmod2 (r : Int) : r.fmod 2 = 0 ∨ r.fmod 2 = 1 := by
  rw [Int.fmod_eq_emod_of_nonneg _ (by decide)]
  omega
theorem lvOk_of {lv : LvS} {a b c : Int} (ha : 0 ≤ a ∧ a < 3) (hb : 0 ≤ b ∧ b < 100) (hc : 0 ≤ c ∧ c < 100) (h1 : lv.name = nmS.getD a.toNat Str.empty) (h2 : lv.own = joinE (pcs unS b)) (h3 : lv.closed = closedF (pcs unS b)) (h4 : lv.leaf = joinE (pcs sgS c)) (h5 : lv.side = 0 ∨ lv.side = 1) : LvOk lv := by
  have k1 := name_all ⟨a.toNat, (Int.toNat_lt ha.1).mpr ha.2⟩
  have k2 := own_all ⟨b.toNat, (Int.toNat_lt hb.1).mpr hb.2⟩
  have k3 := leaf_all ⟨c.toNat, (Int.toNat_lt hc.1).mpr hc.2⟩
  dsimp only at k1 k2 k3
  rw [Int.toNat_of_nonneg hb.1] at k2
  rw [Int.toNat_of_nonneg hc.1] at k3
  rw [← h1] at k1
  unfold ownChk at k2
  rw [← h3, ← h2] at k2
  rw [← h4] at k3
  unfold okName at k1
  unfold okTxt at k2 k3
  simp only [Bool.and_eq_true, decide_eq_true_eq, List.all_eq_true, beq_iff_eq] at k1 k2 k3
  obtain ⟨⟨⟨⟨⟨n1, n2⟩, n3⟩, n4⟩, n5⟩, n6⟩ := k1
  obtain ⟨⟨⟨⟨⟨o1, o2⟩, o6⟩, o3⟩, o4⟩, o5⟩ := k2
  obtain ⟨⟨l1, l2⟩, l6⟩ := k3
  exact ⟨⟨_, ownOk_of (fun o ho => by simpa using o3 o ho) o4, o5⟩, fun d hd => by have := n1 d hd; simp at this; exact ⟨this.1.1.1, this.1.1.2, this.1.2, this.2⟩, no13_ok o2, no13_ok l2, n2, o1, l1, n3, o2, l2, n4, by rw [beq_iff_eq]; exact n5, n6, o6, l6, h5⟩
end Mine
end

section
open PySem PySem.W PyProof.Rows PySem.Calls PySem.Spec
set_option Elab.async false
set_option maxRecDepth 100000
set_option maxHeartbeats 4000000
namespace Mine
def strP (q : Str → Bool) (v : Value) : Bool := match v with | .str a _ => q a | _ => false
theorem paired_filt {q : Str → Bool} : ∀ {us : List Value} {ts : List Str} {ys : List Value}, StrsAre us ts → Paired (fun v y => y = v) (us.filter (strP q)) ys → StrsAre ys (ts.filter q)
  | [], _, ys, .nil, h => by
    cases h
    exact .nil
  | _ :: us, _ :: ts, ys, .cons y t r, h => by
    rw [List.filter_cons] at h
    rw [List.filter_cons]
    by_cases hq : q y = true
    · rw [if_pos (show strP q (.str y t) = true from hq)] at h
      rw [if_pos hq]
      cases h with
      | cons hh ht => subst hh; exact .cons _ _ (paired_filt r ht)
    · rw [if_neg (show ¬ strP q (.str y t) = true from hq)] at h
      rw [if_neg hq]
      exact paired_filt r h
section
variable {prog : Program} {w : World} {A : Around} {E : Value → Shared → Prop} {s : Shared} {env : Env} {h₀ : Heap} {m : Str → Option Value} {news : List (Addr × Obj)}
/-- a comprehension that keeps some of a list's texts -/
theorem comp_strs {x : Str} {px pe pos : Pos} {iter test : PySem.Expr} {scope : Scope} {cl : List (Str × Addr)} {q : Str → Bool} {ts : List Str} {vs : Array Value} {I : Addr} {fp : List Addr} {Q : Value → Shared → Prop}
    (hclos : closureFor scope env = pure cl) (hcell : ∀ y ∈ scope.names, y.2 ≠ .cell) (hkind : scope.kind = .function)
    (hnames : ∀ y ∈ scope.names, y.2 = .local → scope.names.lookup y.1 = some .local) (hx : scope.names.lookup x = some .local)
    (hs : ∀ x, foldedSetIterable iter env x = pure x) (hst : StrsAre vs.toList ts) (hsz : vs.size ≤ sizeLine)
    (hiter : ∀ Q : Value → Shared → Prop, (∀ (St : Nat → Heap → Prop) (h : Heap) (tk : Nat), (∀ b o, s.heap.get? b = some o → h.get? b = some o) → (∀ b, s.heap.get? b ≠ none → b ≠ I) → I < h.objs.size → (∀ b ∈ fp, b < h.objs.size) → Walks prog w A I fp [I] vs.size (fun i v => vs[i]? = some v) St → St 0 h → Q (.ref I) { s with heap := h, toks := tk }) →
      wpAny (model prog w) A (eval iter env) (fun xv s₁ => wpAny (model prog w) A (pyIter xv) Q E s₁) E s)
    (htest : ∀ C s₃ m₃ E' a t, s₃.heap.Ns C m₃ → m₃ x = some (.str a t) → wpAny (model prog w) A (isTrue test (compEnvC scope cl C env) (eval test (compEnvC scope cl C env))) (fun ok s₄ => ok = q a ∧ Keeps s₃ s₄) E' s₃)
    (helt : ∀ C s₃ m₃ E' v, s₃.heap.Ns C m₃ → m₃ x = some v → wpAny (model prog w) A (eval (.Name x pe) (compEnvC scope cl C env)) (fun y s₄ => y = v ∧ Keeps s₃ s₄) E' s₃)
    (F : Fr h₀ env.locals s.heap m) (N : News h₀ env.locals s.heap news)
    (h : ∀ D ys n h' tk', StrsAre (ys : Array Value).toList (ts.filter q) → (∀ p ∈ news, p.1 ≠ D) → Fr h₀ env.locals h' m → News h₀ env.locals h' ((D, listOf ys n) :: news) → Q (.ref D) { s with heap := h', toks := tk' }) :
    wpAny (model prog w) A (eval (.ListComp (.Name x pe) [⟨.Name x px, iter, [test], 0⟩] scope pos) env) Q E s := by
  refine wpAny_ListComp_free (strP q) (fun v y => y = v) hclos hcell hkind hnames hx ?_ hs
  refine hiter _ fun St hp tk hk0 hI hIs hfp W hst0 => ?_
  refine ⟨I, fp, [I], vs.size, _, St, rfl, W, hsz, hst0, hfp, ⟨fun C i v s₃ m₃ E' hC hv hn hm hk htk => wpAny_tests_one ?_, fun C i v s₃ m₃ E' hC hv hp hn hm hk htk => helt C s₃ m₃ E' v hn hm⟩, ?_⟩
  · obtain ⟨a, t, rfl, _⟩ := strsAre_at hst (i := i) (v := v) (by simpa using hv)
    exact htest C s₃ m₃ E' a t hn hm
  · intro D h' tk' ys vs' hD hlD hplD hlen hP hPair hkeep
    have hk : ∀ b o, s.heap.get? b = some o → h'.get? b = some o := fun b o e => hkeep b o (fun hm => hI b (by rw [e]; exact fun z => nomatch z) (List.mem_singleton.mp hm)) (hk0 b o e)
    have hvs' : vs' = vs.toList := by
      apply List.ext_getElem?
      intro j
      cases e : vs'[j]? with
      | some v => have := hP j v e; simpa using this.symm
      | none =>
        have h1 : vs'.length ≤ j := List.getElem?_eq_none_iff.mp e
        rw [hlen] at h1
        symm
        rw [List.getElem?_eq_none_iff]
        simpa using h1
    rw [hvs'] at hPair
    have hD0 : s.heap.get? D = none := by
      cases e : s.heap.get? D with
      | none => rfl
      | some o => have e2 := hk0 _ _ e; rw [hD] at e2; cases e2
    obtain ⟨nn, hDo⟩ := hplD
    refine h D ys nn h' tk' (paired_filt hst hPair) (fun p hp e => ?_) (F.keeps hk) (newsD F N hk hD0 hDo)
    have := (N p hp).1
    rw [e, hD0] at this
    cases this
/-- .. out of a list of the ledger -/
theorem comp_list {x y : Str} {px pe py pos : Pos} {test : PySem.Expr} {scope : Scope} {cl : List (Str × Addr)} {q : Str → Bool} {ts : List Str} {vs : Array Value} {l : Addr} {n : Nat} {Q : Value → Shared → Prop} (hh : A.handled = none)
    (hclos : closureFor scope env = pure cl) (hcell : ∀ y ∈ scope.names, y.2 ≠ .cell) (hkind : scope.kind = .function)
    (hnames : ∀ y ∈ scope.names, y.2 = .local → scope.names.lookup y.1 = some .local) (hx : scope.names.lookup x = some .local)
    (hs : ∀ v, foldedSetIterable (.Name y py) env v = pure v) (hst : StrsAre vs.toList ts) (hsz : vs.size ≤ sizeLine) (hl : (l, listOf vs n) ∈ news)
    (hek : env.scope.kind = .function) (hey : env.kindOf y = some .local) (hmy : m y = some (.ref l)) (hyd : (y == ("__debug__" : Str)) = false) (hxd : (x == ("__debug__" : Str)) = false)
    (htest : ∀ C s₃ m₃ E' a t, s₃.heap.Ns C m₃ → m₃ x = some (.str a t) → wpAny (model prog w) A (isTrue test (compEnvC scope cl C env) (eval test (compEnvC scope cl C env))) (fun ok s₄ => ok = q a ∧ Keeps s₃ s₄) E' s₃)
    (F : Fr h₀ env.locals s.heap m) (N : News h₀ env.locals s.heap news)
    (h : ∀ D ys n h' tk', StrsAre (ys : Array Value).toList (ts.filter q) → (∀ p ∈ news, p.1 ≠ D) → Fr h₀ env.locals h' m → News h₀ env.locals h' ((D, listOf ys n) :: news) → Q (.ref D) { s with heap := h', toks := tk' }) :
    wpAny (model prog w) A (eval (.ListComp (.Name x pe) [⟨.Name x px, .Name y py, [test], 0⟩] scope pos) env) Q E s := by
  have hl' := N.isList hl
  have hlt : l < s.heap.objs.size := let ⟨_, ho, _⟩ := hl'; Heap.lt_size ho
  refine comp_strs (I := s.heap.objs.size) (fp := [s.heap.objs.size, l]) hclos hcell hkind hnames hx hs hst hsz (fun Q hQ => ?_) htest (fun C s₃ m₃ E' v hn hm => ?_) F N h
  · refine wpAny_Name (wpAny_loadName_local hek hey F.ns hmy ?_) hyd
    refine wpAny_pyIter_list hl' ?_
    refine hQ _ _ s.toks (fun b o e => Heap.get?_push_of_some _ e) (fun b hb e => ?_) (by rw [Heap.size_push]; exact Nat.lt_succ_self _) (fun b hb => ?_) (Walks.list hh _ l (Nat.ne_of_lt hlt) vs) ⟨⟨_, Heap.get?_push_size _ rfl, rfl, rfl⟩, hl'.push _⟩
    · exact hb (by rw [e]; exact Heap.get?_none_of_le (Nat.le_refl _))
    · rw [Heap.size_push]
      rcases List.mem_cons.mp hb with rfl | hb
      · exact Nat.lt_succ_self _
      · rw [List.mem_singleton.mp hb]; exact Nat.lt_succ_of_lt hlt
  · exact wpAny_Name (wpAny_loadName_local (env := compEnvC scope cl C env) hkind (lookup_relabel_local hx) hn hm ⟨rfl, _, _, rfl, fun _ _ e => e⟩) hxd
/-- .. out of a tuple of two names -/
theorem comp_tup {x y1 y2 : Str} {px pe p1 p2 pt pos : Pos} {kt : Nat} {test : PySem.Expr} {scope : Scope} {cl : List (Str × Addr)} {q : Str → Bool} {f g : Str} {tf tg : Tok} {Q : Value → Shared → Prop} (hh : A.handled = none)
    (hclos : closureFor scope env = pure cl) (hcell : ∀ y ∈ scope.names, y.2 ≠ .cell) (hkind : scope.kind = .function)
    (hnames : ∀ y ∈ scope.names, y.2 = .local → scope.names.lookup y.1 = some .local) (hx : scope.names.lookup x = some .local)
    (hs : ∀ v, foldedSetIterable (.Tuple [.Name y1 p1, .Name y2 p2] kt pt) env v = pure v)
    (hek : env.scope.kind = .function) (h1k : env.kindOf y1 = some .local) (h2k : env.kindOf y2 = some .local) (hm1 : m y1 = some (.str f tf)) (hm2 : m y2 = some (.str g tg)) (hd1 : (y1 == ("__debug__" : Str)) = false) (hd2 : (y2 == ("__debug__" : Str)) = false) (hxd : (x == ("__debug__" : Str)) = false)
    (htest : ∀ C s₃ m₃ E' a t, s₃.heap.Ns C m₃ → m₃ x = some (.str a t) → wpAny (model prog w) A (isTrue test (compEnvC scope cl C env) (eval test (compEnvC scope cl C env))) (fun ok s₄ => ok = q a ∧ Keeps s₃ s₄) E' s₃)
    (F : Fr h₀ env.locals s.heap m) (N : News h₀ env.locals s.heap news)
    (h : ∀ D ys n h' tk', StrsAre (ys : Array Value).toList ([f, g].filter q) → (∀ p ∈ news, p.1 ≠ D) → Fr h₀ env.locals h' m → News h₀ env.locals h' ((D, listOf ys n) :: news) → Q (.ref D) { s with heap := h', toks := tk' }) :
    wpAny (model prog w) A (eval (.ListComp (.Name x pe) [⟨.Name x px, .Tuple [.Name y1 p1, .Name y2 p2] kt pt, [test], 0⟩] scope pos) env) Q E s := by
  refine comp_strs (I := s.heap.objs.size + 1) (fp := [s.heap.objs.size + 1, s.heap.objs.size]) (vs := #[.str f tf, .str g tg]) hclos hcell hkind hnames hx hs (.cons _ _ (.cons _ _ .nil)) (by rw [sizeLine_eq]; simp) (fun Q hQ => ?_) htest (fun C s₃ m₃ E' v hn hm => ?_) F N h
  · refine wpAny_Tuple_spliced (spliced_more (wpAny_Name (wpAny_loadName_local hek h1k F.ns hm1 (spliced_more (wpAny_Name (wpAny_loadName_local hek h2k F.ns hm2 (spliced_none ⟨by rw [sizeLine_eq]; simp, ?_⟩)) hd2))) hd1))
    have hT : (s.heap.push { cls := .type "tuple", data := .seq [Value.str f tf, .str g tg].toArray }).IsTuple s.heap.objs.size #[.str f tf, .str g tg] := ⟨_, Heap.get?_push_size _ rfl, rfl, _, rfl⟩
    refine wpAny_pyIter_tuple (s := { s with heap := s.heap.push _ }) hT ?_
    have hz : (s.heap.push { cls := .type "tuple", data := .seq [Value.str f tf, .str g tg].toArray }).objs.size = s.heap.objs.size + 1 := Heap.size_push _ _
    have W := Walks.tuple (prog := prog) (w := w) hh (s.heap.objs.size + 1) s.heap.objs.size (Nat.ne_of_lt (Nat.lt_succ_self _)) #[.str f tf, .str g tg]
    have hz2 := Heap.size_push (s.heap.push { cls := .type "tuple", data := .seq [Value.str f tf, Value.str g tg].toArray }) { cls := .type "tuple_iterator", data := .fields #[.ref s.heap.objs.size, .int 0 0] }
    rw [← hz] at W hQ
    refine hQ _ _ s.toks (fun b o e => Heap.get?_push_of_some _ (Heap.get?_push_of_some _ e)) (fun b hb e => ?_) (Nat.lt_of_lt_of_eq (Nat.lt_of_le_of_lt (Nat.le_of_eq (by first | rfl | exact hz.symm)) (Nat.lt_succ_self _)) hz2.symm) (fun b hb => ?_) W ⟨⟨_, Heap.get?_push_size _ rfl, rfl, rfl⟩, hT.at fun o e => Heap.get?_push_of_some _ e⟩
    · exact hb (by rw [e, hz]; exact Heap.get?_none_of_le (Nat.le_succ _))
    · rcases List.mem_cons.mp hb with rfl | hb
      · exact Nat.lt_of_lt_of_eq (Nat.lt_of_le_of_lt (Nat.le_of_eq (by first | rfl | exact hz.symm)) (Nat.lt_succ_self _)) hz2.symm
      · rw [List.mem_singleton.mp hb]; exact Nat.lt_of_lt_of_eq (Nat.lt_succ_of_lt (Nat.lt_of_lt_of_eq (Nat.lt_succ_self _) hz.symm)) hz2.symm
  · exact wpAny_Name (wpAny_loadName_local (env := compEnvC scope cl C env) hkind (lookup_relabel_local hx) hn hm ⟨rfl, _, _, rfl, fun _ _ e => e⟩) hxd
theorem test_eq {x c : Str} {px p2 pos : Pos} {k : Nat} {whole : Sem Value} {a : Str} {t : Tok} {Q : Bool → Shared → Prop} {env : Env} {m : Str → Option Value} (hk : env.scope.kind = .function) (hx : env.kindOf x = some .local) (hn : s.heap.Ns env.locals m) (hm : m x = some (.str a t)) (hxd : (x == ("__debug__" : Str)) = false)
    (h : Q (a == c) { s with toks := s.toks + 1 }) (hm2 : behindInMarks .Eq (.Constant (.str c) k p2) = false := by with_unfolding_all rfl) : wpAny (model prog w) A (isTrue (.Compare (.Name x px) [.Eq] [.Constant (.str c) k p2] pos) env whole) Q E s :=
  wpAny_isTrue_Compare1 (wpAny_Name (wpAny_loadName_local hk hx hn hm (wpAny_Constant_str (eq_str (wpAny_truthy_bool h)))) hxd) hm2
theorem test_ne {x c : Str} {px p2 pos : Pos} {k : Nat} {whole : Sem Value} {a : Str} {t : Tok} {Q : Bool → Shared → Prop} {env : Env} {m : Str → Option Value} (hk : env.scope.kind = .function) (hx : env.kindOf x = some .local) (hn : s.heap.Ns env.locals m) (hm : m x = some (.str a t)) (hxd : (x == ("__debug__" : Str)) = false)
    (h : Q (a != c) { s with toks := s.toks + 1 }) (hm2 : behindInMarks .NotEq (.Constant (.str c) k p2) = false := by with_unfolding_all rfl) : wpAny (model prog w) A (isTrue (.Compare (.Name x px) [.NotEq] [.Constant (.str c) k p2] pos) env whole) Q E s :=
  wpAny_isTrue_Compare1 (wpAny_Name (wpAny_loadName_local hk hx hn hm (wpAny_Constant_str (ne_str (wpAny_truthy_bool h)))) hxd) hm2
theorem test_or {x c1 c2 : Str} {px1 px2 p1 p2 pos1 pos2 pos : Pos} {k1 k2 : Nat} {whole : Sem Value} {a : Str} {t : Tok} {env : Env} {m : Str → Option Value} (hk : env.scope.kind = .function) (hx : env.kindOf x = some .local) (hn : s.heap.Ns env.locals m) (hm : m x = some (.str a t)) (hxd : (x == ("__debug__" : Str)) = false)
    (hm1 : behindInMarks .Eq (.Constant (.str c1) k1 p1) = false := by with_unfolding_all rfl) (hm2 : behindInMarks .Eq (.Constant (.str c2) k2 p2) = false := by with_unfolding_all rfl) :
    wpAny (model prog w) A (isTrue (.BoolOp .Or [.Compare (.Name x px1) [.Eq] [.Constant (.str c1) k1 p1] pos1, .Compare (.Name x px2) [.Eq] [.Constant (.str c2) k2 p2] pos2] pos) env whole) (fun ok s₄ => ok = (a == c1 || a == c2) ∧ Keeps s s₄) E s := by
  refine wpAny_isTrue_BoolOp (wpAny_allTrue_Or_cons (test_eq hk hx hn hm hxd ?_ hm1))
  cases h1 : (a == c1)
  · refine wpAny_allTrue_Or_cons (test_eq (s := { s with toks := s.toks + 1 }) hk hx hn hm hxd ?_ hm2)
    cases h2 : (a == c2)
    · exact wpAny_allTrue_Or_nil ⟨rfl, _, _, rfl, fun _ _ e => e⟩
    · exact ⟨rfl, _, _, rfl, fun _ _ e => e⟩
  · exact ⟨rfl, _, _, rfl, fun _ _ e => e⟩
end
end Mine
end

section
open PySem PySem.W PyProof.Rows PySem.Calls PySem.Spec
set_option Elab.async false
set_option maxRecDepth 100000
set_option maxHeartbeats 4000000
set_option rowWalk.seconds 0
namespace Mine

def StopQ (p : Prop) : Prop := p
section
variable {prog : Program} {w : World} {A : Around} {s : Shared} {env : Env} {h₀ : Heap}
theorem For_stop {E : Value → Shared → Prop} {Q : Flow → Shared → Prop} {x : Str} {px pos : Pos} {iter : PySem.Expr} {body : List Stmt} {m : Str → Option Value} (F : Fr h₀ env.locals s.heap m) (hx : env.kindOf x = some .local)
    (hp : (env.scope.kind == .class || (env.scope.kind == .module && env.locals != env.globals)) = false)
    (h : wpAny (model prog w) A (eval iter env) (fun xv s₁ => StopQ (wpAny (model prog w) A (pyIter xv) (fun it s₂ => LoopAtV prog w A h₀ env x body Q E it s₂) E s₁)) E s)
    (hs : ∀ x, foldedSetIterable iter env x = pure x := by intro _; rfl)
    (hE : PassesOwn (model prog w) A env E := by passes_own) :
    wpAny (model prog w) A (exec (.For (.Name x px) iter body [] pos) env) Q E s := For_invVF F hx hp h hs hE
theorem ifexp_two {E : Value → Shared → Prop} {Q : Value → Shared → Prop} {test : PySem.Expr} {a b : Int} {ka kb : Nat} {pa pb pos : Pos}
    (h : wpAny (model prog w) A (isTrue test env (eval test env)) (fun _ s₁ => StopQ (∀ (z : Int), (z = a ∨ z = b) → Q (.int z s₁.toks) { s₁ with toks := s₁.toks + 1 })) E s) :
    wpAny (model prog w) A (eval (.IfExp test (.Constant (.int a) ka pa) (.Constant (.int b) kb pb) pos) env) Q E s := by
  refine IfExp_ (wpAny_mono h (fun c s₁ h₁ => ?_) fun _ _ x => x)
  cases c
  · exact fun _ _ _ => h₁ _ (.inr rfl)
  · exact fun _ _ _ => h₁ _ (.inl rfl)
end
theorem stopQ {p : Prop} (h : p) : StopQ p := h
theorem stopE {M : Model} {A : Around} {t : Sem Value} {Q : Value → Shared → Prop} {E : Value → Shared → Prop} {s : Shared} (h : StopQ (wpAny M A t Q E s)) : wpAny M A t Q E s := h
abbrev rowOf (ns : List Int) : List Int := List.map (fun k' => k'.fmod (10 ^ Int.toNat 6)) (List.take (Int.toNat 4) ns) ++ List.drop ((List.map (fun k' => k'.fmod (10 ^ Int.toNat 6)) (List.take (Int.toNat 4) ns)).length : Int).toNat [712, 102613, 200421]
theorem row_len (ns : List Int) : 3 ≤ (rowOf ns).length ∧ (rowOf ns).length ≤ 4 := by
  simp [rowOf]; omega
theorem row_bnd (ns : List Int) : ∀ x ∈ rowOf ns, 0 ≤ x ∧ x < 1000000 := by
  intro x hx
  rcases List.mem_append.mp hx with hx | hx
  · obtain ⟨k, _, rfl⟩ := List.mem_map.mp hx
    have : (10 : Int) ^ Int.toNat 6 = 1000000 := by decide
    rw [this, Int.fmod_eq_emod_of_nonneg k (by decide)]
    omega
  · have := List.mem_of_mem_drop hx
    simp at this
    omega
theorem mem3 {α : Type} {a b c p : α} {l : List α} (h : p ∈ [a, b, c]) : p ∈ a :: b :: c :: l := by
  simp at h ⊢; rcases h with h | h | h <;> simp [h]
def TupsAre (vs : Array Value) (lvs : List LvS) (tups : List (Addr × Obj)) : Prop := vs.size = lvs.length ∧ ∀ (i : Nat) (lv : LvS), lvs[i]? = some lv → ∃ (T : Addr) (u1 u2 u3 u4 : Tok), vs[i]? = some (Value.ref T) ∧ (T, tupO #[.str lv.name u1, .str lv.own u2, .bool lv.closed, .str lv.leaf u3, .int lv.side u4]) ∈ tups
def LvJ (ll D9 ul sl rl : Addr) (ks rs : List Value) (uvs : Array Value) (uc : Nat) (svs : Array Value) (sc : Nat) (i : Nat) (m₁ : Str → Option Value) (nx : List (Addr × Obj)) : Prop :=
  ∃ (lvs : List LvS) (vs : Array Value) (c : Nat) (tups : List (Addr × Obj)), lvs.length = i ∧ (∀ lv ∈ lvs, LvOk lv) ∧ TupsAre vs lvs tups ∧ (∀ p ∈ tups, p.1 ≠ ll) ∧ nx = (D9, listOf ks.toArray 0) :: (ll, listOf vs c) :: (ul, listOf uvs uc) :: (sl, listOf svs sc) :: (rl, listOf rs.toArray 0) :: tups ∧
    ∀ p ∈ [(Str.ofString "levels", Value.ref ll), (Str.ofString "units", .ref ul), (Str.ofString "signs", .ref sl), (Str.ofString "row", .ref rl)], m₁ p.1 = some p.2
theorem lvJ0 {ll D9 ul sl rl : Addr} {ks rs : List Value} {uvs : Array Value} {uc : Nat} {svs : Array Value} {sc : Nat} {m₁ : Str → Option Value} (q1 : m₁ (Str.ofString "levels") = some (.ref ll)) (q2 : m₁ (Str.ofString "units") = some (.ref ul)) (q3 : m₁ (Str.ofString "signs") = some (.ref sl)) (q4 : m₁ (Str.ofString "row") = some (.ref rl)) :
    LvJ ll D9 ul sl rl ks rs uvs uc svs sc 0 m₁ [(D9, listOf ks.toArray 0), (ll, listOf #[] 0), (ul, listOf uvs uc), (sl, listOf svs sc), (rl, listOf rs.toArray 0)] :=
  ⟨[], #[], 0, [], rfl, fun _ h => (nomatch h), ⟨rfl, fun i lv h => by simp at h⟩, fun _ h => (nomatch h), rfl, fun p hp => by
    rcases List.mem_cons.mp hp with rfl | hp
    · exact q1
    rcases List.mem_cons.mp hp with rfl | hp
    · exact q2
    rcases List.mem_cons.mp hp with rfl | hp
    · exact q3
    rw [List.mem_singleton.mp hp]; exact q4⟩
theorem or_t {a b : Bool} (h : a = true) : a = (a || b) := by rw [h]; rfl
theorem or_f {a b : Bool} (h : a = false) : b = (a || b) := by rw [h]; rfl
theorem lev_end {g h' : Heap} {L' I T ll D9 ul sl rl : Addr} {it : Obj} {a1 a2 a3 a4 : Addr × Obj} {ks rs : List Value} {uvs : Array Value} {uc : Nat} {svs : Array Value} {sc i : Nat} {m' : Str → Option Value} {lvs : List LvS} {vs : Array Value} {c c' : Nat} {tups : List (Addr × Obj)} {nm ow lf : Str} {sd : Int} {b : Bool} {u1 u2 u3 u4 : Tok} {s₁ : Shared} {tk : Nat} {Q : Flow → Shared → Prop}
    (F : Fr g L' h' m') (N : News g L' h' ((T, tupO #[.str nm u1, .str ow u2, .bool b, .str lf u3, .int sd u4]) :: a1 :: a2 :: a3 :: a4 :: (I, it) :: (D9, listOf ks.toArray 0) :: (ll, listOf (vs.push (.ref T)) c') :: (ul, listOf uvs uc) :: (sl, listOf svs sc) :: (rl, listOf rs.toArray 0) :: tups))
    (hlen : lvs.length = i) (hok : ∀ lv ∈ lvs, LvOk lv) (ht : TupsAre vs lvs tups) (hne : ∀ p ∈ tups, p.1 ≠ ll)
    (hoff : ∀ p ∈ (D9, listOf ks.toArray 0) :: (ll, listOf vs c) :: (ul, listOf uvs uc) :: (sl, listOf svs sc) :: (rl, listOf rs.toArray 0) :: tups, p.1 ≠ I) (hT : T ≠ ll) (hTI : T ≠ I)
    (q1 : m' (Str.ofString "levels") = some (.ref ll)) (q2 : m' (Str.ofString "units") = some (.ref ul)) (q3 : m' (Str.ofString "signs") = some (.ref sl)) (q4 : m' (Str.ofString "row") = some (.ref rl)) (hnew : LvOk ⟨nm, ow, b, lf, sd⟩) :
    StopP (UnrPost g L' s₁ I it (fun m' n' => (D9, listOf ks.toArray 0) ∈ n' ∧ (∀ p ∈ n', p.1 ≠ I) ∧ LvJ ll D9 ul sl rl ks rs uvs uc svs sc (i + 1) m' n') Q) .next { s₁ with heap := h', toks := tk } := by
  have o1 := hoff _ (.head _)
  have o2 := hoff _ (.tail _ (.head _))
  have o3 := hoff _ (.tail _ (.tail _ (.head _)))
  have o4 := hoff _ (.tail _ (.tail _ (.tail _ (.head _))))
  have o5 := hoff _ (.tail _ (.tail _ (.tail _ (.tail _ (.head _)))))
  have o6 : ∀ p ∈ tups, p.1 ≠ I := fun p hp => hoff p (.tail _ (.tail _ (.tail _ (.tail _ (.tail _ hp)))))
  have hnx : ∀ p ∈ (D9, listOf ks.toArray 0) :: (ll, listOf (vs.push (.ref T)) c') :: (ul, listOf uvs uc) :: (sl, listOf svs sc) :: (rl, listOf rs.toArray 0) :: (T, tupO #[.str nm u1, .str ow u2, .bool b, .str lf u3, .int sd u4]) :: tups, p.1 ≠ I := by
    intro p hp
    rcases List.mem_cons.mp hp with rfl | hp
    · exact o1
    rcases List.mem_cons.mp hp with rfl | hp
    · exact o2
    rcases List.mem_cons.mp hp with rfl | hp
    · exact o3
    rcases List.mem_cons.mp hp with rfl | hp
    · exact o4
    rcases List.mem_cons.mp hp with rfl | hp
    · exact o5
    rcases List.mem_cons.mp hp with rfl | hp
    · exact hTI
    · exact o6 p hp
  refine UnrEnd.intro F N ((D9, listOf ks.toArray 0) :: (ll, listOf (vs.push (.ref T)) c') :: (ul, listOf uvs uc) :: (sl, listOf svs sc) :: (rl, listOf rs.toArray 0) :: (T, tupO #[.str nm u1, .str ow u2, .bool b, .str lf u3, .int sd u4]) :: tups) ?_ hnx ⟨.head _, hnx, lvs ++ [⟨nm, ow, b, lf, sd⟩], vs.push (.ref T), c', (T, tupO #[.str nm u1, .str ow u2, .bool b, .str lf u3, .int sd u4]) :: tups, by simp [hlen], ?_, ⟨by simp [ht.1], ?_⟩, ?_, rfl, ?_⟩
  · intro p hp
    rcases List.mem_cons.mp hp with rfl | hp
    · simp
    rcases List.mem_cons.mp hp with rfl | hp
    · simp
    rcases List.mem_cons.mp hp with rfl | hp
    · simp
    rcases List.mem_cons.mp hp with rfl | hp
    · simp
    rcases List.mem_cons.mp hp with rfl | hp
    · simp
    rcases List.mem_cons.mp hp with rfl | hp
    · simp
    rcases List.mem_cons.mp hp with rfl | hp
    · simp
    · simp [hp]
  · intro lv hlv
    rcases List.mem_append.mp hlv with h | h
    · exact hok lv h
    · rw [List.mem_singleton.mp h]; exact hnew
  · intro j lv hj
    by_cases hjl : j < lvs.length
    · rw [List.getElem?_append_left hjl] at hj
      obtain ⟨T', v1, v2, v3, v4, h1, h2⟩ := ht.2 j lv hj
      refine ⟨T', v1, v2, v3, v4, ?_, .tail _ h2⟩
      rw [Array.getElem?_push_lt (by rw [ht.1]; exact hjl)]
      rw [← h1, Array.getElem?_eq_getElem]
    · rw [List.getElem?_append_right (by omega)] at hj
      have hj0 : j - lvs.length = 0 := by
        have := (List.getElem?_eq_some_iff.mp hj).1
        simp at this
        omega
      rw [hj0] at hj
      simp only [List.getElem?_cons_zero, Option.some.injEq] at hj
      subst hj
      refine ⟨T, u1, u2, u3, u4, ?_, .head _⟩
      rw [show j = vs.size by rw [ht.1]; omega]
      simp
  · intro p hp
    rcases List.mem_cons.mp hp with rfl | hp
    · exact hT
    · exact hne p hp
  · intro p hp
    rcases List.mem_cons.mp hp with rfl | hp
    · exact q1
    rcases List.mem_cons.mp hp with rfl | hp
    · exact q2
    rcases List.mem_cons.mp hp with rfl | hp
    · exact q3
    rw [List.mem_singleton.mp hp]; exact q4
theorem fmod1000 (r : Int) : 0 ≤ r.fmod 1000 ∧ r.fmod 1000 < 1000 := by
  rw [Int.fmod_eq_emod_of_nonneg _ (by decide)]
  omega
theorem lev_done {h₀ : Heap} {L : Addr} {m : Str → Option Value} {s : Shared} {news : List (Addr × Obj)} {Q : Value → Shared → Prop}
    (hret : ∀ (T0 D : Addr) (vs' : Array Value) (k : Nat) (inner : Str) (t0 : Tok) (lvs : List LvS) (tups : List (Addr × Obj)) (h' : Heap) (tk' : Nat), (inner.length ≤ 6 ∧ okB inner = true ∧ PyData.strOk inner = true) → (2 ≤ lvs.length ∧ lvs.length ≤ 3) → (∀ lv ∈ lvs, LvOk lv) → TupsAre vs' lvs tups →
      Fr h₀ L h' m → News h₀ L h' ((T0, tupO #[.str inner t0, .ref D]) :: (D, listOf vs' k) :: (tups ++ news)) → Q (.ref T0) ⟨h', s.gens, s.drawn, tk', s.os⟩)
    {g h' : Heap} {L' T0 ll : Addr} {m' : Str → Option Value} {a1 a2 b1 b2 b3 : Addr × Obj} {vs : Array Value} {c : Nat} {tups : List (Addr × Obj)} {n z : Int} {R : List Int} {lvs : List LvS} {t0 : Tok} {tk : Nat}
    (F : Fr g L' h' m') (N : News g L' h' ((T0, tupO #[.str (joinE (pcs sgS n)) t0, .ref ll]) :: a1 :: a2 :: (ll, listOf vs c) :: b1 :: b2 :: b3 :: tups)) (hG : HidEq g s.heap) (hF : Fr h₀ L s.heap m) (hN : News h₀ L s.heap news)
    (hlen : lvs.length = (List.take (min (1 + z).toNat R.length - Int.toNat 1) (List.drop (Int.toNat 1) R)).length) (ht : TupsAre vs lvs tups) (hok : ∀ lv ∈ lvs, LvOk lv) (hz : z = 3 ∨ z = 2) (hR1 : 3 ≤ R.length) (hR2 : R.length ≤ 4) (hn0 : 0 ≤ n) (hn1 : n < 1000) :
    Q (.ref T0) ⟨h', s.gens, s.drawn, tk, s.os⟩ := by
  have hi := inner_all ⟨n.toNat, by omega⟩
  dsimp only at hi
  rw [show ((n.toNat : Nat) : Int) = n by omega] at hi
  simp only [Bool.and_eq_true, decide_eq_true_eq] at hi
  have hG' := hG
  obtain ⟨rfl⟩ := hG
  have N1 := newsS_new hF N
  have N2 := newsZ hG' hN F
  refine hret T0 ll vs c _ t0 lvs tups h' tk ⟨hi.1.1, hi.1.2, hi.2⟩ ?_ hok ht (backZ hG' hF F) fun p hp => ?_
  · simp only [List.length_take, List.length_drop] at hlen
    rcases (show R.length = 3 ∨ R.length = 4 by omega) with h | h <;> rcases hz with rfl | rfl <;> (rw [h] at hlen; rw [hlen]; decide)
  · rcases List.mem_cons.mp hp with rfl | hp
    · exact N1 _ (.head _)
    rcases List.mem_cons.mp hp with rfl | hp
    · exact N1 _ (.tail _ (.tail _ (.tail _ (.head _))))
    rcases List.mem_append.mp hp with hp | hp
    · exact N1 p (.tail _ (.tail _ (.tail _ (.tail _ (.tail _ (.tail _ (.tail _ hp)))))))
    · exact N2 p hp
theorem div_bnd {k : Int} (h0 : 0 ≤ k) (h1 : k < 1000000) : (0 ≤ (k.fdiv 200000).fmod 3 ∧ (k.fdiv 200000).fmod 3 < 3) ∧ (0 ≤ k.fmod 100 ∧ k.fmod 100 < 100) ∧ (0 ≤ (k.fdiv 100).fmod 100 ∧ (k.fdiv 100).fmod 100 < 100) := by
  rw [Int.fmod_eq_emod_of_nonneg _ (by decide), Int.fmod_eq_emod_of_nonneg _ (by decide), Int.fmod_eq_emod_of_nonneg _ (by decide), Int.fdiv_eq_ediv_of_nonneg _ (by decide), Int.fdiv_eq_ediv_of_nonneg _ (by decide)]
  omega
theorem pcs_len (ws : List Str) (n : Int) : (pcs ws n).length ≤ 3 := by
  unfold pcs
  split
  · split
    · split <;> simp
    · simp
  · simp
theorem pcs_size {vs : Array Value} {ws : List Str} {n : Int} (h : StrsAre vs.toList (pcs ws n)) : vs.size ≤ sizeLine := by
  have := strsAre_len h
  have := pcs_len ws n
  have e : vs.size = vs.toList.length := by simp
  rw [sizeLine_eq, e]
  omega
theorem pcs_el {ws : List Str} (h : ∀ y ∈ ws, y.length ≤ 2) (n : Int) : ∀ y ∈ pcs ws n, y.length ≤ 2 := by
  have g : ∀ k, (pc1 ws k).length ≤ 2 := fun k => by
    unfold pc1
    rw [List.getD_eq_getElem?_getD]
    cases e : ws[(k.fmod 10).toNat]? with
    | none => show Str.empty.length ≤ 2; decide +kernel
    | some y => exact h y (List.mem_of_getElem? e)
  intro y hy
  unfold pcs at hy
  split at hy
  · rcases List.mem_cons.mp hy with rfl | hy
    · exact g _
    split at hy
    · rcases List.mem_cons.mp hy with rfl | hy
      · exact g _
      split at hy
      · rw [List.mem_singleton.mp hy]; exact g _
      · cases hy
    · cases hy
  · cases hy
theorem sum_small : ∀ {ys : List Str} {n : Nat}, ys.length ≤ n → (∀ y ∈ ys, y.length ≤ 2) → (ys.map (·.length)).sum ≤ 2 * n
  | [], _, _, _ => Nat.zero_le _
  | y :: r, 0, h, _ => by simp at h
  | y :: r, n + 1, h, h2 => by
    have := sum_small (ys := r) (n := n) (by simpa using h) fun z hz => h2 z (.tail _ hz)
    have := h2 y (.head _)
    rw [List.map_cons, List.sum_cons]
    omega
theorem un_len : ∀ y ∈ unS, y.length ≤ 2 := by decide +kernel
theorem sg_len : ∀ y ∈ sgS, y.length ≤ 2 := by decide +kernel
theorem pcs_sumU (n : Int) : ((pcs unS n).map (·.length)).sum ≤ 100 := Nat.le_trans (sum_small (pcs_len _ _) (pcs_el un_len n)) (by decide)
theorem pcs_sumS (n : Int) : ((pcs sgS n).map (·.length)).sum ≤ 100 := Nat.le_trans (sum_small (pcs_len _ _) (pcs_el sg_len n)) (by decide)
theorem pcs_sumF (n : Int) (q : Str → Bool) : (((pcs unS n).filter q).map (·.length)).sum ≤ 100 := Nat.le_trans (sum_small (Nat.le_trans (List.length_filter_le _ _) (pcs_len _ _)) fun y hy => pcs_el un_len n y (List.mem_filter.mp hy).1) (by decide)
theorem item_nm {prog : Program} {w : World} {A : Around} {E : Value → Shared → Prop} {s : Shared} {value slice : PySem.Expr} {l : Addr} {n : Nat} {t1 t2 t3 : Tok} {k : Int} {u : Tok} {Q : Value → Shared → Prop} {h₀ : Heap} {L : Addr} {news : List (Addr × Obj)} (N : News h₀ L s.heap news)
    (hl : (l, listOf #[.str (Str.ofString "x") t1, .str (Str.ofString "Y") t2, .str (Str.ofString "z-Z") t3] n) ∈ news) (h0 : 0 ≤ k) (h1 : k < 3) (h : ∀ t, Q (.str (nmS.getD k.toNat Str.empty) t) s)
    (hsb : subscripted slice false (.ref l) (.int k u) = operate [.ref l, .int k u] (getItem (.ref l) (.int k u)) := by with_unfolding_all rfl) :
    wpAny (model prog w) A (subscriptTail value slice (.ref l) (.int k u)) Q E s :=
  item_str (ws := nmS) (News.isList N hl) (.cons _ _ (.cons _ _ (.cons _ _ .nil))) h0 ⟨h1, by omega⟩ h hsb
theorem join_small {prog : Program} {w : World} {A : Around} {E : Value → Shared → Prop} {s : Shared} {Q : Value → Shared → Prop} {t : Tok} {D : Addr} {items : Array Value} {ys : List Str} {n : Nat} {h₀ : Heap} {L : Addr} {news : List (Addr × Obj)} (N : News h₀ L s.heap news)
    (hl : (D, listOf items n) ∈ news) (hi : StrsAre items.toList ys) (hok : (ys.map (·.length)).sum ≤ 100) (h : ∀ t' k, Q (.str (joinE ys) t') { s with toks := k }) : wpAny (model prog w) A (call (.builtin "str.join") [.str (Str.ofString "") t, .ref D]) Q E s :=
  join_list (News.isList N hl) hi (by have e : (Str.ofString "").length = 0 := by decide +kernel
                                      rw [e]; omega) h
local macro_rules | `(tactic| k_all) => `(tactic| assumption)
theorem levels_C (w : World) (l : Addr) (vs : List Value) (ns : List Int) (mean : ExcName → Option Value) (mg mb : Str → Option Value) (news : List (Addr × Obj)) (dp un : Nat) (gd : Option (List Code)) (cn : Str) (cs : Scope) (a : Addr) (ccd : Value) (cl : List (Str × Addr)) (outer : List Env) (A₀ : Around) (base h₀ : Heap) (L : Addr) (m : Str → Option Value) (s : Shared) (Q E : Value → Shared → Prop) (hB : Below A₀ base outer h₀) (hF : Fr h₀ L s.heap m) (hX : (Mine.hd.heap_1 w.params).In h₀) (hN : News h₀ L s.heap news) (hT : Top Mine.view LO mean mg mb h₀) (hcs : cs.kind = .function)
    (hl : base.IsList l vs.toArray) (hi : IntsAre vs ns) (h63 : ns.length ≤ 63) (hdp : dp + 4 < recursionLimit) (hun : un + 8 * 4 < cLine)
    (hret : ∀ (T0 D : Addr) (vs' : Array Value) (k : Nat) (inner : Str) (t0 : Tok) (lvs : List LvS) (tups : List (Addr × Obj)) (h' : Heap) (tk' : Nat), (inner.length ≤ 6 ∧ okB inner = true ∧ PyData.strOk inner = true) → (2 ≤ lvs.length ∧ lvs.length ≤ 3) → (∀ lv ∈ lvs, LvOk lv) → TupsAre vs' lvs tups →
      Fr h₀ L h' m → News h₀ L h' ((T0, tupO #[.str inner t0, .ref D]) :: (D, listOf vs' k) :: (tups ++ news)) → Q (.ref T0) ⟨h', s.gens, s.drawn, tk', s.os⟩) :
    wpAny (model PySem.Challenge.rw_uq0033_01.row.prog w) (ktrTop dp un gd cn cs L a ccd cl outer) (call (.ref 351) [.ref l]) Q E s := by
  w_top off
  k_with_none
  (k_with "call ref" => ((with_reducible show wpAny _ _ (call (Value.ref 346) _) _ _ _); k_here; k_dflt (refine pieces_C _ _ _ _ _ _ _ _ _ _ _ _ _ _ _ _ _ _ _ _ _ _ _ _ _ _ _ _ (by k_asm) (by k_asm) (by k_asm) (by k_asm) (by k_asm) rfl (by k_mem) (by assumption) rfl (by assumption) (by omega) (by k_room) (by first | omega | ktr_units) ?_); intro D' v' k' h' tk' hs' l1 F' N'; (try k_lt l1); (try dsimp only)))
  (k_with "subscriptTail Name Slice ref ref" => (k_here; (with_reducible show wpAny _ _ (subscriptTail _ (PySem.Expr.Slice _ _ none _) (Value.ref _) (Value.ref _)) _ _ _); k_dflt (refine kmk_slice_ints (by k_asm) (by k_asm) (by kmk_list) (by kmk_part) (by kmk_part) (by l_ints) (by first | exact kmk_upto (by l_ints) (by omega) | exact kmk_from (by l_ints) (by omega) | exact kmk_run (by l_ints) (by omega) (by omega)) (by kmk_len) ?_ (by with_unfolding_all rfl) (by kmk_pure) (kmk_sz (by l_ints) (by rw [sizeLine_eq]; (try simp only [List.length_map, List.length_append, List.length_take, List.length_drop, List.length_cons, List.length_nil]); omega))); intro D' ws' h' F' N' l1 hI' hC' hL'; (try k_lt l1); (try k_sweep)))
  (k_with "exec For Name Subscript cons nil" => ((with_reducible show wpAny _ _ (exec (Stmt.For (Expr.Name _ _) (Expr.Subscript _ _ _) _ [] _) _) _ _ _); k_here; (rename Fr _ _ _ _ => lF'); k_dflt (with_unfolding_all refine For_stop lF' (by rfl) (by rfl) ?_)))
  (k_with "eval IfExp" => (k_here; k_dflt (with_unfolding_all refine ifexp_two ?_)))
  (k_with "subscriptTail" => ((with_reducible show wpAny _ _ (subscriptTail _ _ (Value.ref _) (Value.int _ _)) _ _ _); k_here; k_dflt (refine item_nm (by k_asm) (by k_mem) (by assumption) (by assumption) ?_); intro t9))
  (k_with "call builtin:str.join" => (k_here; k_dflt (refine join_small (by k_asm) (by k_mem) (by assumption) (by first | exact pcs_sumU _ | exact pcs_sumS _ | exact pcs_sumF _ _) ?_); intro t9 k9))
  (k_with "eval ListComp" => (k_here; refine stopE ?_))
  rcases cs with ⟨ck⟩
  dsimp only at hcs
  subst hcs
  refine wpAny_call ?_
  k_dflt (refine' code_defZ ?k1 ?k2 ?k3 ?k5 ?kA ?kF ?kK ?k6 ?k7 ?k8 ?k9 ?kB ?_ ?c2 ?c3 ?c4 ?c5; (case kA => exact rfl); (case kF => exact rfl); (case kK => first | exact rfl | assumption); (case k1 => k_asm); (case k2 => k_asm); (case k3 => k_asm); (case k5 => k_asm); (case k6 => k_is); (case k7 => k_is); (case k8 => ktr_room); (case k9 => first | exact BindsTo.of_eq rfl | exact binds_K (by k_in) rfl (by k_is) rfl rfl rfl); (case c5 => decide); (case kB => exact locs rfl); (case c2 => exact rfl); (case c3 => exact rfl); (case c4 => exact rfl); k_whole; intro g' L' h' hG F' N' B' X' T'; (try dsimp only); (try k_lift B'); (try k_fold))
  k_steps
  refine stopQ ?_
  intro z hz
  dsimp only
  rename News _ _ _ _ => N8
  have hRl := row_len ns
  have hRb := row_bnd ns
  rename IntsAre _ (_ ++ _) => hIR
  obtain ⟨R, hR, hRl, hRb⟩ : ∃ R, IntsAre _ R ∧ (3 ≤ R.length ∧ R.length ≤ 4) ∧ ∀ x ∈ R, 0 ≤ x ∧ x < 1000000 := ⟨_, hIR, hRl, hRb⟩
  obtain ⟨uvs, uc, svs, sc, hus, hss, N9⟩ : ∃ uvs uc svs sc, StrsAre (uvs : Array Value).toList unS ∧ StrsAre (svs : Array Value).toList sgS ∧ News _ _ _ [(_, listOf uvs uc), (_, listOf svs sc), (_, _)] := by
    refine ⟨_, _, _, _, ?_, ?_, fun p hp => N8 p (mem3 hp)⟩
    · exact .cons _ _ (.cons _ _ (.cons _ _ (.cons _ _ (.cons _ _ (.cons _ _ (.cons _ _ (.cons _ _ (.cons _ _ (.cons _ _ .nil)))))))))
    · exact .cons _ _ (.cons _ _ (.cons _ _ (.cons _ _ (.cons _ _ (.cons _ _ (.cons _ _ (.cons _ _ (.cons _ _ (.cons _ _ .nil)))))))))
  clear N8 hIR
  obtain ⟨hRl1, hRl2⟩ := hRl
  k_steps
  refine stopQ ?_
  dsimp only
  rename News _ _ _ _ => N8
  rename Fr _ _ _ _ => F8
  rename IntsAre _ (List.take _ _) => hK
  have hks : ∀ k ∈ (List.take (min (1 + z).toNat R.length - Int.toNat 1) (List.drop (Int.toNat 1) R)), 0 ≤ k ∧ k < 1000000 := fun k hk => hRb k (List.mem_of_mem_drop (List.mem_of_mem_take hk))
  refine listG_loop (LvJ _ _ _ _ _ _ _ _ _ _ _) rfl F8 N8 (.head _) hK (lvJ0 rfl rfl rfl rfl) ?_ ?_
  · rintro I i k t m₁ nx h tk9 it hki hit hmem hoff ⟨lvs, vs, c, tups, hlen, hok, htups, hne, rfl, hq⟩ F N
    rw [← kstB_self hq] at F
    obtain ⟨hk0, hk1⟩ := hks k (List.mem_of_getElem? hki)
    obtain ⟨⟨ha1, ha2⟩, ⟨hb1, hb2⟩, ⟨hc1, hc2⟩⟩ := div_bnd hk0 hk1
    have hvz : vs.size ≤ 3 := by
      have := htups.1
      have := (List.getElem?_eq_some_iff.mp hki).1
      simp only [List.length_take, List.length_drop] at this
      omega
    have hI1 := hoff _ (.tail _ (.head _))
    have hI2 := Ne.symm hI1
    dsimp only at hI1 hI2
    clear F8 N8 hmem
    refine stop_in ?_
    k_steps
    refine stopQ ?_
    rename Fr _ _ _ _ => F7
    rename News _ _ _ _ => N7
    rename StrsAre _ (pcs _ _) => hs7
    refine comp_list (q := fun u => u == Str.ofString "(" || u == Str.ofString ")") rfl (by with_unfolding_all rfl) (by decide) (by rfl) (by decide) (by rfl) (fun _ => rfl) hs7 (pcs_size hs7) (.head _) rfl (by rfl) (by rfl) (by decide +kernel) (by decide +kernel) (fun C s₃ m₃ E' a t hn hm => test_or (env := compEnvC _ _ C _) (by rfl) (by rfl) hn hm (by decide +kernel)) F7 N7 ?_
    intro D8 ys8 n8 h8 tk8 hs8 hne8 F8 N8
    have hD1 := hne8 _ (.tail _ (.tail _ (.tail _ (.tail _ (.head _)))))
    have hD2 := Ne.symm hD1
    clear F7 N7 hne8
    dsimp only at hD1 hD2 ⊢
    k_steps
    all_goals (rename Fr _ _ _ _ => F8; rename News _ _ _ _ => N8)
    · exact lev_end F8 N8 (by assumption) (by assumption) (by assumption) (by assumption) (by assumption) (by k_ne) (by k_ne) rfl rfl rfl rfl (lvOk_of ⟨ha1, ha2⟩ ⟨hb1, hb2⟩ ⟨hc1, hc2⟩ rfl rfl (or_t (by assumption)) rfl (fmod2 _))
    · exact lev_end F8 N8 (by assumption) (by assumption) (by assumption) (by assumption) (by assumption) (by k_ne) (by k_ne) rfl rfl rfl rfl (lvOk_of ⟨ha1, ha2⟩ ⟨hb1, hb2⟩ ⟨hc1, hc2⟩ rfl rfl (or_f (by assumption)) rfl (fmod2 _))
  · rintro m₁ _ h tk9 ⟨lvs, vs, c, tups, hlen, hok, htups, hne, rfl, hq⟩ F N
    rw [← kstB_self hq] at F
    clear F8 N8
    have hr0 := fmod1000 (R.getD (Int.toNat 0) 0)
    obtain ⟨hr0, hr1⟩ := hr0
    k_steps
    rename Fr _ _ _ _ => F8
    rename News _ _ _ _ => N8
    rename HidEq _ _ => hG8
    exact lev_done hret F8 N8 hG8 hF hN hlen htups hok hz hRl1 hRl2 hr0 hr1
end Mine
end

end

section
open PySem PySem.W PyProof.Rows PySem.Calls PySem.Spec
set_option Elab.async false
set_option maxRecDepth 100000
namespace Mine
def okL (l : List Nat) : Prop := ∀ c ∈ l, 31 < c ∧ c ≠ 127 ∧ c < 1114112
theorem okL_app {a b : List Nat} (ha : okL a) (hb : okL b) : okL (a ++ b) := fun c hc => (List.mem_append.mp hc).elim (ha c) (hb c)
theorem strOk_iff (x : Str) : PyData.strOk x = true ↔ ∀ c ∈ LL x, c < 1114112 := by
  unfold PyData.strOk
  rw [Array.all_eq_true_iff_forall_mem]
  constructor
  · intro h c hc; have := h c (by simpa using hc); simpa using this
  · intro h c hc; have := h c (by simpa using hc); simpa using this
theorem okL_of {x : Str} (h : okB x = true) (h2 : PyData.strOk x = true) : okL (LL x) := by
  intro c hc
  unfold okB at h
  have := List.all_eq_true.mp h c hc
  have h3 := (strOk_iff x).mp h2 c hc
  simp at this
  exact ⟨this.1, this.2, h3⟩
theorem okB_of {x : Str} (h : okL (LL x)) : okB x = true := by
  unfold okB
  refine List.all_eq_true.mpr fun c hc => ?_
  have := h c hc
  simp
  omega
theorem okLit {l : List Nat} (h : l.all (fun c => decide (31 < c ∧ c ≠ 127 ∧ c < 1114112)) = true) : okL l := fun c hc => of_decide_eq_true (List.all_eq_true.mp h c hc)
theorem okL_aes {l : List Nat} (h : okL l) : okL (l.flatMap aes) := by
  intro c hc
  obtain ⟨d, hd, hc⟩ := List.mem_flatMap.mp hc
  have := h d hd
  unfold aes at hc
  split at hc
  · exact okLit (by decide) c hc
  split at hc
  · exact okLit (by decide) c hc
  split at hc
  · exact okLit (by decide) c hc
  · rw [List.mem_singleton.mp hc]; exact this
theorem okL_qes {l : List Nat} (h : okL l) : okL (l.flatMap qes) := by
  intro c hc
  obtain ⟨d, hd, hc⟩ := List.mem_flatMap.mp hc
  have := h d hd
  unfold qes at hc
  split at hc
  · exact okLit (by decide) c hc
  split at hc
  · exact okLit (by decide) c hc
  · rw [List.mem_singleton.mp hc]; exact this
theorem okL_part {l : List Nat} (h : okL l) : okL (part l) := by
  unfold part
  split
  · exact fun _ h => nomatch h
  · exact okL_app (okL_app (okLit (by decide)) (okL_qes h)) (okLit (by decide))
theorem okL_page {n o f s : List Nat} (hn : okL n) (ho : okL o) (hf : okL f) (hs : okL s) : okL (pageL n o f s) := by
  unfold pageL
  have h1 : okL sA := okLit (by decide)
  have h2 : okL sQ := okLit (by decide)
  exact okL_app (okL_app (okL_app (okL_app (okLit (by decide)) hn) (okLit (by decide))) (okL_aes (okL_app (okL_app (okL_app (okL_app ho h1) (okL_part hf)) h2) (okL_part hs)))) (okLit (by decide))
theorem len_fm (g : Nat → List Nat) (k : Nat) (hg : ∀ c, (g c).length ≤ k) : ∀ l : List Nat, (l.flatMap g).length ≤ k * l.length
  | [] => by simp
  | c :: r => by
    have := len_fm g k hg r
    have := hg c
    rw [List.flatMap_cons, List.length_append, List.length_cons, Nat.mul_add]
    omega
theorem aes_len (c : Nat) : (aes c).length ≤ 5 := by
  unfold aes
  split
  · simp [aL]
  split
  · simp
  split
  · simp
  · simp
theorem qes_len (c : Nat) : (qes c).length ≤ 2 := by
  unfold qes
  split
  · simp
  split
  · simp
  · simp
theorem part_len (f : List Nat) : ((part f).flatMap aes).length ≤ 3 + 10 * f.length := by
  unfold part
  split
  · simp
  · rw [List.flatMap_append, List.flatMap_append, List.length_append, List.length_append]
    have h1 := len_fm aes 5 aes_len (f.flatMap qes)
    have h2 := len_fm qes 2 qes_len f
    have e1 : ([61, 34].flatMap aes).length = 2 := by decide
    have e2 : ([34].flatMap aes).length = 1 := by decide
    omega
theorem page_len {n o f s : List Nat} (hn : n.length ≤ 3) (ho : o.length ≤ 4) : (pageL n o f s).length ≤ 41 + 10 * (f.length + s.length) := by
  unfold pageL
  have h1 := part_len f
  have h2 := part_len s
  have h3 := len_fm aes 5 aes_len o
  have e1 : (sA.flatMap aes).length = 4 := by decide
  have e2 : (sQ.flatMap aes).length = 3 := by decide
  simp only [List.flatMap_append, List.length_append, List.length_cons, List.length_nil]
  omega
def bnd : Nat → Nat
  | 0 => 6
  | n + 1 => 41 + 10 * (bnd n + 4)
theorem ll_len (x : Str) : (LL x).length = x.length := by simp [Str.length, LL]
theorem mid_ok {I : List Nat} (hI : okL I) (hl : I.length ≤ 6) : ∀ r : List Lv, (∀ v ∈ r, okL v.name ∧ okL v.own ∧ okL v.leaf ∧ v.name.length ≤ 3 ∧ v.own.length ≤ 4 ∧ v.leaf.length ≤ 4) → okL (mid I 0 r) ∧ (mid I 0 r).length ≤ bnd r.length
  | [], _ => by
    rw [show mid I 0 [] = sp 0 0 I from rfl, sp00]
    exact ⟨hI, hl⟩
  | v :: r, h => by
    obtain ⟨h1, h2⟩ := mid_ok hI hl r fun u hu => h u (.tail _ hu)
    obtain ⟨a1, a2, a3, a4, a5, a6⟩ := h v (.head _)
    rw [← page_mid]
    have hlen : bnd (v :: r).length = 41 + 10 * (bnd r.length + 4) := rfl
    rw [hlen]
    cases v.side
    · refine ⟨okL_page a1 a2 h1 a3, Nat.le_trans (page_len a4 a5) ?_⟩
      simp only [Bool.false_eq_true, if_false]
      omega
    · refine ⟨okL_page a1 a2 a3 h1, Nat.le_trans (page_len a4 a5) ?_⟩
      simp only [if_true]
      omega
theorem rev_mem {lvs : List LvS} {n : Nat} (hok : ∀ lv ∈ lvs, LvOk lv) : ∀ v ∈ revL lvs n, okL v.name ∧ okL v.own ∧ okL v.leaf ∧ v.name.length ≤ 3 ∧ v.own.length ≤ 4 ∧ v.leaf.length ≤ 4 := by
  intro v hv
  unfold revL at hv
  rw [List.mem_reverse] at hv
  obtain ⟨lv, hl, rfl⟩ := List.mem_map.mp hv
  have k := hok lv (List.mem_of_mem_take hl)
  refine ⟨okL_of k.okn k.hin, okL_of k.oko k.hio, okL_of k.okl k.hil, ?_, ?_, ?_⟩
  · show (LL lv.name).length ≤ 3; rw [ll_len]; exact k.szn
  · show (LL lv.own).length ≤ 4; rw [ll_len]; exact k.szo
  · show (LL lv.leaf).length ≤ 4; rw [ll_len]; exact k.szl
theorem rev_len (lvs : List LvS) (n : Nat) : (revL lvs n).length ≤ n := by
  unfold revL; simp; omega
theorem bnd_mono : ∀ {a b : Nat}, a ≤ b → bnd a ≤ bnd b
  | _, b, h => by
    induction h with
    | refl => exact Nat.le_refl _
    | step _ ih => exact Nat.le_trans ih (by show bnd _ ≤ 41 + 10 * (bnd _ + 4); omega)
/-- the page before: its signs and its size -/
theorem before_ok {lvs : List LvS} {i : Nat} {inner B : Str} (hi : i ≤ 2) (hok : ∀ lv ∈ lvs, LvOk lv) (hin : inner.length ≤ 6 ∧ okB inner = true ∧ PyData.strOk inner = true) (hB : LL B = mid (LL inner) 0 (revL lvs i)) : okB B = true ∧ B.length ≤ 1491 ∧ PyData.strOk B = true := by
  have k := mid_ok (okL_of hin.2.1 hin.2.2) (by rw [ll_len]; exact hin.1) (revL lvs i) (rev_mem hok)
  rw [← hB, ll_len] at k
  exact ⟨okB_of k.1, Nat.le_trans k.2 (Nat.le_trans (bnd_mono (Nat.le_trans (rev_len lvs i) hi)) (by decide)), (strOk_iff B).mpr fun c hc => (k.1 c hc).2.2⟩
theorem map_inj {a b : List Str} (h : a.map LL = b.map LL) : a = b := by
  induction a generalizing b with
  | nil => cases b with
    | nil => rfl
    | cons y r => simp at h
  | cons x r ih => cases b with
    | nil => simp at h
    | cons y q =>
      simp only [List.map_cons, List.cons.injEq] at h
      rw [str_of_list h.1, ih h.2]
theorem filt_ll (f s : Str) : ([f, s].filter (fun x => x != Str.ofString "")).map LL = ([LL f, LL s] : List (List Nat)).filter (· ≠ []) := by
  have g : ∀ (x : Str), (x != Str.ofString "") = decide (LL x ≠ []) := fun x => by
    cases h : (x != Str.ofString "")
    · rw [eq_nil h]; rfl
    · exact (decide_eq_true (ne_nil h)).symm
  rw [List.filter_cons, List.filter_cons, List.filter_nil, List.filter_cons, List.filter_cons, List.filter_nil, g f, g s]
  cases decide (LL f ≠ []) <;> cases decide (LL s ≠ []) <;> rfl
structure TurnF (lvs : List LvS) (inner : Str) (lv : LvS) (i : Nat) (f s P S : Str) (ts : List Str) : Prop where
  page : pageF lv.name lv.own f s = P
  told : LL P = mid (LL inner) 0 (revL lvs (i + 1)) ++ [10]
  strip : stripF P = S
  frame : frameF lv.name lv.own f s = S
  check : checkF P = lv.closed
  peel : peelF P = ts
  filt : [f, s].filter (fun x => x != Str.ofString "") = ts
  txt : ∀ x ∈ ts, PyData.strOk x = true
  pre : (lv.name.length ≤ 10 ∧ okB lv.name = true ∧ lv.own.length ≤ 20 ∧ f.length + s.length ≤ 1600 ∧ okB lv.own = true ∧ okB f = true ∧ okB s = true) ∧ okB (Txt.lower (Txt.swapcase lv.name)) = true ∧ (Txt.lower lv.name == Txt.lower (Txt.swapcase lv.name)) = true
theorem turn_facts {lvs : List LvS} {i : Nat} {lv : LvS} {inner B : Str} (hlv : lvs[i]? = some lv) (hi : i ≤ 2) (hok : ∀ lv ∈ lvs, LvOk lv) (hin : inner.length ≤ 6 ∧ okB inner = true ∧ PyData.strOk inner = true) (hB : LL B = mid (LL inner) 0 (revL lvs i)) :
    ∃ P S ts, TurnF lvs inner lv i (if lv.side == 1 then lv.leaf else B) (if lv.side == 1 then B else lv.leaf) P S ts := by
  have k := hok lv (List.mem_of_getElem? hlv)
  obtain ⟨b1, b2, b3⟩ := before_ok hi hok hin hB
  obtain ⟨ou, ho, hc⟩ := k.unit
  have key : ∀ f s : Str, okB f = true → okB s = true → PyData.strOk f = true → PyData.strOk s = true → f.length + s.length ≤ 1600 → pageL (LL lv.name) (LL lv.own) (LL f) (LL s) = mid (LL inner) 0 (revL lvs (i + 1)) → ∃ P S ts, TurnF lvs inner lv i f s P S ts := by
    intro f s hf hs hf2 hs2 hl hp
    have e1 := page_list lv.name lv.own f s k.no (no13_ok hf) (no13_ok hs)
    have hpf : [f, s].filter (fun x => x != Str.ofString "") = peelF (pageF lv.name lv.own f s) := map_inj (by rw [peel_is e1 ho k.qn, filt_ll])
    refine ⟨_, _, _, rfl, by rw [e1, hp], str_of_list ?_, rfl, (check_is e1 ho k.qn).trans hc, rfl, hpf, fun x hx => ?_, ⟨Nat.le_trans k.szn (by decide), k.okn, Nat.le_trans k.szo (by decide), hl, k.oko, hf, hs⟩, k.low, k.swp⟩
    · exact (strip_is e1 ho k.qn).trans (frame_list _ _ _ _ ou ho).symm
    · rw [← hpf] at hx
      have hx := (List.mem_filter.mp hx).1
      rcases List.mem_cons.mp hx with rfl | hx
      · exact hf2
      · rw [List.mem_singleton.mp hx]; exact hs2
  have hpm := page_mid (LL inner) lv.lv (revL lvs i)
  rw [← revL_succ hlv, ← hB] at hpm
  have hsd : lv.lv.side = (lv.side == 1) := rfl
  rw [hsd] at hpm
  have hl4 := k.szl
  cases h1 : (lv.side == 1)
  · rw [h1] at hpm
    simp only [Bool.false_eq_true, if_false] at hpm ⊢
    exact key _ _ b1 k.okl b3 k.hil (by omega) hpm
  · rw [h1] at hpm
    simp only [if_true] at hpm ⊢
    exact key _ _ k.okl b1 k.hil b3 (by omega) hpm
end Mine
end

section
open PySem PySem.W PyProof.Rows PySem.Calls PySem.Spec PyProof.V
set_option Elab.async false
set_option maxRecDepth 100000
namespace Mine
theorem strs_carried : ∀ {vs : List Value} {ts : List Str}, StrsAre vs ts → CarriedAll vs (ts.map PyData.str)
  | _, _, .nil => .nil
  | _, _, .cons _ t r => .cons (.str _ t) (strs_carried r)
theorem strs_canLay : ∀ ts : List Str, (∀ x ∈ ts, PyData.strOk x = true) → PyData.canLayAll0 (ts.map PyData.str) = true
  | [], _ => rfl
  | y :: r, h => by simp [PyData.canLayAll0, PyData.canLay0, strs_canLay r fun x hx => h x (.tail _ hx), h y (.head _)]
theorem strs_depth : ∀ ts : List Str, PyData.depthAll (ts.map PyData.str) = 0
  | [] => rfl
  | _ :: r => by simp [PyData.depthAll, PyData.depth, strs_depth r]
theorem strs_shaped (ts : List Str) (h : ∀ x ∈ ts, PyData.strOk x = true) : SeqAt.shaped (.list (ts.map PyData.str)) = true := by
  simp [SeqAt.shaped, PyData.canLay0, PyData.depth, strs_canLay ts h, strs_depth]
theorem strs_sameAll : ∀ ts : List Str, PySem.Spec.sameAll (ts.map PyData.str) (ts.map PyData.str) = true
  | [] => by simp [PySem.Spec.sameAll]
  | a :: r => by simp only [List.map_cons, PySem.Spec.sameAll, PySem.Spec.same, strs_sameAll r]; simp
theorem strs_same (ts : List Str) : PySem.Spec.same (.list (ts.map PyData.str)) (.list (ts.map PyData.str)) = true := by
  simp only [PySem.Spec.same]; exact strs_sameAll ts
theorem ne_strs {prog : Program} {w : World} {A : Around} {E : Value → Shared → Prop} {s : Shared} {a b : Addr} {xs ys : Array Value} {na nb : Nat} {ts : List Str} {Q : Value → Shared → Prop} {h₀ : Heap} {L : Addr} {news : List (Addr × Obj)}
    (N : News h₀ L s.heap news) (ha : (a, listOf xs na) ∈ news) (hb : (b, listOf ys nb) ∈ news) (hi : StrsAre xs.toList ts) (hj : StrsAre ys.toList ts) (hts : ∀ x ∈ ts, PyData.strOk x = true) (hu : A.units + 64 < cLine) (h : Q (.bool false) s) :
    wpAny (model prog w) A (compareOp .NotEq (.ref a) (.ref b)) Q E s :=
  ne_dataH_same (reads_newData (ys := xs.toList) (News.isList N ha) (strs_carried hi)) (reads_newData (ys := ys.toList) (News.isList N hb) (strs_carried hj)) (strs_shaped _ hts) (strs_shaped _ hts) hu (SeqAt.noMix_of_shape (.list .str) rfl _ _ (list_map_has fun _ => rfl) (list_map_has fun _ => rfl)) (by rw [strs_same]; exact h)
end Mine
end

section
open PySem PySem.W PyProof.Rows PySem.Calls PySem.Spec
set_option Elab.async false
set_option maxRecDepth 100000
namespace Mine
section
variable {w : World} {lvs : List LvS} {inner : Str} {lv : LvS} {i : Nat} {f s0 P S : Str} {ts : List Str} {mean : ExcName → Option Value} {mg mb : Str → Option Value} {news : List (Addr × Obj)} {dp un : Nat} {gd : Option (List Code)} {cn : Str} {cs : Scope} {a : Addr} {ccd : Value} {cl : List (Str × Addr)} {outer : List Env} {A₀ : Around} {base h₀ : Heap} {L : Addr} {m : Str → Option Value} {s : Shared} {Q E : Value → Shared → Prop}
theorem page_W {t1 t2 t3 t4 : Tok} (hB : Below A₀ base outer h₀) (hF : Fr h₀ L s.heap m) (hX : (Mine.hd.heap_1 w.params).In h₀) (hN : News h₀ L s.heap news) (hT : Top Mine.view LO mean mg mb h₀) (hcs : cs.kind = .function) (ht : TurnF lvs inner lv i f s0 P S ts) (hdp : dp + 9 < recursionLimit) (hun : un + 8 * 9 < cLine)
    (hret : ∀ (t : Tok) (h' : Heap) (tk' : Nat), Fr h₀ L h' m → News h₀ L h' news → Q (.str P t) ⟨h', s.gens, s.drawn, tk', s.os⟩) :
    wpAny (model PySem.Challenge.rw_uq0033_01.row.prog w) (ktrTop dp un gd cn cs L a ccd cl outer) (call (.ref 372) [.str lv.name t1, .str lv.own t2, .str f t3, .str s0 t4]) Q E s :=
  page_C w lv.name lv.own f s0 t1 t2 t3 t4 mean mg mb news dp un gd cn cs a ccd cl outer A₀ base h₀ L m s Q E hB hF hX hN hT hcs ht.pre hdp hun fun t h' tk' F N => by
    show Q (.str (pageF lv.name lv.own f s0) t) _
    rw [ht.page]; exact hret t h' tk' F N
theorem frame_W {t1 t2 t3 t4 : Tok} (hB : Below A₀ base outer h₀) (hF : Fr h₀ L s.heap m) (hX : (Mine.hd.heap_1 w.params).In h₀) (hN : News h₀ L s.heap news) (hT : Top Mine.view LO mean mg mb h₀) (hcs : cs.kind = .function) (ht : TurnF lvs inner lv i f s0 P S ts) (hdp : dp + 5 < recursionLimit) (hun : un + 8 * 5 < cLine)
    (hret : ∀ (t : Tok) (h' : Heap) (tk' : Nat), Fr h₀ L h' m → News h₀ L h' news → Q (.str S t) ⟨h', s.gens, s.drawn, tk', s.os⟩) :
    wpAny (model PySem.Challenge.rw_uq0033_01.row.prog w) (ktrTop dp un gd cn cs L a ccd cl outer) (call (.ref 379) [.str lv.name t1, .str lv.own t2, .str f t3, .str s0 t4]) Q E s :=
  frame_C w lv.name lv.own f s0 t1 t2 t3 t4 mean mg mb news dp un gd cn cs a ccd cl outer A₀ base h₀ L m s Q E hB hF hX hN hT hcs ⟨ht.pre.1.1, ht.pre.1.2.2.1, by have := ht.pre.1.2.2.2.1; omega, by have := ht.pre.1.2.2.2.1; omega⟩ hdp hun fun t h' tk' F N => by
    show Q (.str (frameF lv.name lv.own f s0) t) _
    rw [ht.frame]; exact hret t h' tk' F N
theorem told_W {ll : Addr} {vs : Array Value} {nn : Nat} {t2 t3 : Tok} {z : Int} {tups : List (Addr × Obj)} (hB : Below A₀ base outer h₀) (hF : Fr h₀ L s.heap m) (hX : (Mine.hd.heap_1 w.params).In h₀) (hN : News h₀ L s.heap news) (hT : Top Mine.view LO mean mg mb h₀) (hcs : cs.kind = .function) (ht : TurnF lvs inner lv i f s0 P S ts) (hz : z = ((i + 1 : Nat) : Int))
    (hll : (ll, listOf vs nn) ∈ news) (htups : TupsAre vs lvs tups) (hsub : ∀ p ∈ tups, p ∈ news) (hlv : lvs[i]? = some lv) (htop : i ≤ 2) (hok : ∀ lv ∈ lvs, LvOk lv) (hin : inner.length ≤ 6 ∧ okB inner = true ∧ PyData.strOk inner = true) (hdp : dp + 4 < recursionLimit) (hun : un + 8 * 4 < cLine)
    (hret : ∀ (t : Tok) (h' : Heap) (tk' : Nat), P.length ≤ 4000 → Fr h₀ L h' m → News h₀ L h' news → Q (.str P t) ⟨h', s.gens, s.drawn, tk', s.os⟩) :
    wpAny (model PySem.Challenge.rw_uq0033_01.row.prog w) (ktrTop dp un gd cn cs L a ccd cl outer) (call (.ref 365) [.ref ll, .str inner t2, .int z t3]) Q E s := by
  subst hz
  refine told_C w ll vs nn lvs inner (i + 1) t2 t3 mean mg mb news dp un gd cn cs a ccd cl outer A₀ base h₀ L m s Q E hB hF hX hN hT hcs hll (fun j v hj => ?_) (by have := (List.getElem?_eq_some_iff.mp hlv).1; omega) (by omega) (fun v hv => ⟨(hok v hv).szn, (hok v hv).szo, (hok v hv).szl⟩) hin.1 hdp hun fun r t h' tk' hr hl F N => ?_
  · obtain ⟨T, u1, u2, u3, u4, e1, e2⟩ := htups.2 j v hj
    exact ⟨T, u1, u2, u3, u4, e1, hsub _ e2⟩
  · have e : r = P := str_of_list (hr.get.trans ht.told.symm)
    subst e
    exact hret t h' tk' hl F N
theorem strip_W {g0 : Array GenState} {tx : Tok} (hB : Below A₀ base outer h₀) (hF : Fr h₀ L s.heap m) (hX : (Mine.hd.heap_1 w.params).In h₀) (hN : News h₀ L s.heap news) (hT : Top Mine.view LO mean mg mb h₀) (hcs : cs.kind = .function) (hg : AllBare g0 → AllBare s.gens) (ht : TurnF lvs inner lv i f s0 P S ts) (hl : P.length ≤ 4000) (hdp : dp + 3 < recursionLimit) (hun : un + 8 * 3 < cLine)
    (hret : ∀ (t : Tok) (h' : Heap) (tk' : Nat) (g' : Array GenState), (AllBare g0 → AllBare g') → Fr h₀ L h' m → News h₀ L h' news → Q (.str S t) ⟨h', g', s.drawn, tk', s.os⟩) :
    wpAny (model PySem.Challenge.rw_uq0033_01.row.prog w) (ktrTop dp un gd cn cs L a ccd cl outer) (call (.ref 52) [.str P tx]) Q E s :=
  strip_C w P tx mean mg mb news dp un gd cn cs a ccd cl outer A₀ base h₀ L m s Q E hB hF hX hN hT hcs hl hdp hun fun t h' tk' g' hg' F N => by
    show Q (.str (stripF P) t) _
    rw [ht.strip]; exact hret t h' tk' g' (fun z => hg' (hg z)) F N
theorem check_W {g0 : Array GenState} {tx : Tok} (hB : Below A₀ base outer h₀) (hF : Fr h₀ L s.heap m) (hX : (Mine.hd.heap_1 w.params).In h₀) (hN : News h₀ L s.heap news) (hT : Top Mine.view LO mean mg mb h₀) (hcs : cs.kind = .function) (hg : AllBare g0 → AllBare s.gens) (ht : TurnF lvs inner lv i f s0 P S ts) (hl : P.length ≤ 4000) (hdp : dp + 5 < recursionLimit) (hun : un + 8 * 5 < cLine)
    (hret : ∀ (h' : Heap) (tk' : Nat) (g' : Array GenState), (AllBare g0 → AllBare g') → Fr h₀ L h' m → News h₀ L h' news → Q (.bool lv.closed) ⟨h', g', s.drawn, tk', s.os⟩) :
    wpAny (model PySem.Challenge.rw_uq0033_01.row.prog w) (ktrTop dp un gd cn cs L a ccd cl outer) (call (.ref 59) [.str P tx]) Q E s :=
  check_C w P tx mean mg mb news dp un gd cn cs a ccd cl outer A₀ base h₀ L m s Q E hB hF hX hN hT hcs hl hdp hun fun t h' tk' g' hg' F N => by
    show Q (.bool (checkF P)) _
    rw [ht.check]; exact hret h' tk' g' (fun z => hg' (hg z)) F N
theorem peel_W {g0 : Array GenState} {tx : Tok} (hB : Below A₀ base outer h₀) (hF : Fr h₀ L s.heap m) (hX : (Mine.hd.heap_1 w.params).In h₀) (hN : News h₀ L s.heap news) (hT : Top Mine.view LO mean mg mb h₀) (hcs : cs.kind = .function) (hg : AllBare g0 → AllBare s.gens) (ht : TurnF lvs inner lv i f s0 P S ts) (hl : P.length ≤ 4000) (hdp : dp + 5 < recursionLimit) (hun : un + 8 * 5 < cLine) (htk : 1 ≤ s.toks)
    (hret : ∀ (D : Addr) (vs : Array Value) (n : Nat) (h' : Heap) (tk' : Nat) (g' : Array GenState), (AllBare g0 → AllBare g') → StrsAre vs.toList ts → (∀ p ∈ news, p.1 ≠ D) → Fr h₀ L h' m → News h₀ L h' ((D, listOf vs n) :: news) → Q (.ref D) ⟨h', g', s.drawn, tk', s.os⟩) :
    wpAny (model PySem.Challenge.rw_uq0033_01.row.prog w) (ktrTop dp un gd cn cs L a ccd cl outer) (call (.ref 384) [.str P tx]) Q E s :=
  peeled_C w P tx mean mg mb news dp un gd cn cs a ccd cl outer A₀ base h₀ L m s Q E hB hF hX hN hT hcs hl hdp hun htk fun D vs n h' tk' g' hg' hv hne F N => hret D vs n h' tk' g' (fun z => hg' (hg z)) (ht.peel ▸ hv) hne F N
end
section
variable {prog : Program} {w : World} {A : Around} {E : Value → Shared → Prop} {s : Shared} {Q : Value → Shared → Prop}
theorem ne_self {x : Str} {t u : Tok} (h : Q (.bool false) s) : wpAny (model prog w) A (compareOp .NotEq (.str x t) (.str x u)) Q E s := by
  refine ne_str ?_
  rw [show (x != x) = false by simp]
  exact h
theorem isnot_self {b : Bool} (h : Q (.bool false) s) : wpAny (model prog w) A (compareOp .IsNot (.bool b) (.bool b)) Q E s := wpAny_isNot_self (by cases b <;> rfl) h
end
def LawJ (D : Addr) (ld : List (Addr × Obj)) (inner : Str) (ti : Tok) (lvs : List LvS) (i : Nat) (m₁ : Str → Option Value) (nx : List (Addr × Obj)) : Prop :=
  nx = ld ∧ ∃ (B : Str) (tb : Tok), Hid (LL B = mid (LL inner) 0 (revL lvs i)) ∧ ∀ p ∈ [(Str.ofString "levels", Value.ref D), (Str.ofString "inner", .str inner ti), (Str.ofString "before", .str B tb)], m₁ p.1 = some p.2
theorem lawJ_of {D : Addr} {ld : List (Addr × Obj)} {inner B : Str} {ti tb : Tok} {lvs : List LvS} {i : Nat} {m₁ : Str → Option Value} (hB : LL B = mid (LL inner) 0 (revL lvs i)) (q1 : m₁ (Str.ofString "levels") = some (.ref D)) (q2 : m₁ (Str.ofString "inner") = some (.str inner ti)) (q3 : m₁ (Str.ofString "before") = some (.str B tb)) : LawJ D ld inner ti lvs i m₁ ld :=
  ⟨rfl, B, tb, ⟨hB⟩, fun p hp => by
    rcases List.mem_cons.mp hp with rfl | hp
    · exact q1
    rcases List.mem_cons.mp hp with rfl | hp
    · exact q2
    rw [List.mem_singleton.mp hp]; exact q3⟩
theorem mid00 (inner : Str) (lvs : List LvS) : LL inner = mid (LL inner) 0 (revL lvs 0) := by
  rw [revL_zero]
  exact (sp00 _).symm
theorem lawJ_0 {D : Addr} {ld : List (Addr × Obj)} {inner : Str} {ti tb : Tok} {vs : Array Value} {lvs : List LvS} {tups : List (Addr × Obj)} {m₁ : Str → Option Value} (_ht : TupsAre vs lvs tups) (q1 : m₁ (Str.ofString "levels") = some (.ref D)) (q2 : m₁ (Str.ofString "inner") = some (.str inner ti)) (q3 : m₁ (Str.ofString "before") = some (.str inner tb)) : LawJ D ld inner ti lvs 0 m₁ ld :=
  lawJ_of (mid00 _ _) q1 q2 q3
theorem tups_get {vs : Array Value} {lvs : List LvS} {tups : List (Addr × Obj)} {i : Nat} (ht : TupsAre vs lvs tups) (hi : i < vs.size) : ∃ lv, lvs[i]? = some lv ∧ ∃ (T : Addr) (u1 u2 u3 u4 : Tok), vs[i]? = some (Value.ref T) ∧ (T, tupO #[.str lv.name u1, .str lv.own u2, .bool lv.closed, .str lv.leaf u3, .int lv.side u4]) ∈ tups := by
  have hl : i < lvs.length := by rw [← ht.1]; exact hi
  exact ⟨_, List.getElem?_eq_getElem hl, ht.2 i _ (List.getElem?_eq_getElem hl)⟩
theorem range_n (k : Nat) : Builtin.Range.rangeSize 1 ((k : Int) + 1) 1 = (k : Int) := by rw [rangeSize_nat]; omega
theorem strs_to {us : List Value} {a b : List Str} (h : a = b) (hs : StrsAre us a) : StrsAre us b := h ▸ hs
theorem slice_last {P : Str} {l : List Nat} {c : Nat} (h : LL P = l ++ [c]) : LL (Txt.slice P none (some (-1))) = l := by
  have hlen : P.length = l.length + 1 := by rw [← ll_len, h]; simp
  show (StrLaws.sliceText P none (some (-1))).cps.toList = _
  rw [StrLaws.sliceText_to_neg (by omega) (by omega)]
  show ((LL P).drop 0).take _ = _
  rw [h, hlen, List.drop_zero, show (-1 + ((l.length + 1 : Nat) : Int) - 0).toNat = l.length by omega]
  simp
theorem law_end {h₀ h' : Heap} {L I D : Addr} {ito : Obj} {m' : Str → Option Value} {a1 a2 a3 : Addr × Obj} {ld : List (Addr × Obj)} {s₁ : Shared} {g' : Array GenState} {tk' : Nat} {lvs : List LvS} {inner : Str} {ti tb : Tok} {lv : LvS} {i : Nat} {f s0 P S : Str} {ts : List Str} {Q : Flow → Shared → Prop} {s₂ : Shared}
    (F : Fr h₀ L h' m') (N : News h₀ L h' (a1 :: a2 :: a3 :: (I, ito) :: ld)) (hb : AllBare s₂.gens → AllBare g') (hg0 : s₂.gens = #[]) (hnI : ∀ p ∈ ld, p.1 ≠ I) (ht : TurnF lvs inner lv i f s0 P S ts)
    (q1 : m' (Str.ofString "levels") = some (.ref D)) (q2 : m' (Str.ofString "inner") = some (.str inner ti)) (q3 : m' (Str.ofString "before") = some (.str (Txt.slice P none (some (-1))) tb)) :
    StopP (TurnG h₀ L I ito (LawJ D ld inner ti lvs (i + 1)) s₁ Q) .next ⟨h', g', s₁.drawn, tk', s₁.os⟩ :=
  ⟨h', g', tk', m', ld, rfl, fun _ => hb (.of_eq hg0), F, fun p hp => N p (.tail _ (.tail _ (.tail _ hp))), hnI, lawJ_of (slice_last ht.told) q1 q2 q3⟩
theorem small_13 {b : Int} (h1 : 1 ≤ b) (h2 : b ≤ 4) : Builtin.Range.small 1 b 1 = true := by
  have : b = 1 ∨ b = 2 ∨ b = 3 ∨ b = 4 := by omega
  rcases this with rfl | rfl | rfl | rfl <;> decide
theorem For_stopG {prog : Program} {w : World} {A : Around} {s : Shared} {env : Env} {h₀ : Heap} {E : Value → Shared → Prop} {Q : Flow → Shared → Prop} {x : Str} {px pos : Pos} {iter : PySem.Expr} {body : List Stmt} {m : Str → Option Value} (_F : Fr h₀ env.locals s.heap m) (hh : A.handled = none) (hx : env.kindOf x = some .local)
    (hp : (env.scope.kind == .class || (env.scope.kind == .module && env.locals != env.globals)) = false)
    (h : wpAny (model prog w) A (eval iter env) (fun xv s₁ => StopQ (wpAny (model prog w) A (pyIter xv) (fun it s₂ => LoopAtG prog w A h₀ env x body Q E it s₂) E s₁)) E s)
    (hs : ∀ x, foldedSetIterable iter env x = pure x := by intro _; rfl)
    (hE : PassesOwn (model prog w) A env E := by passes_own) :
    wpAny (model prog w) A (exec (.For (.Name x px) iter body [] pos) env) Q E s := For_rangeG h₀ hh hx hp h hs hE
end Mine
end

section
open PySem PySem.W PyProof.Rows PySem.Calls
set_option Elab.async false
set_option maxRecDepth 100000
set_option maxHeartbeats 8000000
namespace Mine
def look : List (Addr × Obj) → Nat → Obj
  | [], _ => ⟨.none, none, .plain, ⟨[]⟩⟩
  | (b, o) :: r, a => bif Nat.beq b a then o else look r a
noncomputable def kk (a : Nat) (P : Params) : Obj := look (Mine.hd.heap_1 P) a
def fz : Obj := ⟨.none, none, .fields ⟨[]⟩, ⟨[]⟩⟩
def tf (o : Obj) : Obj := match o.data with
  | .func f => ⟨.none, none, .func { name := f.name, qualname := f.qualname, params := f.params, body := f.body, scope := f.scope, globals := 0, closure := [], defaults := .none, kwdefaults := .none }, ⟨[]⟩⟩
  | _ => o
noncomputable def dE (P : Params) (s : Str) (t : Tok) (v : Value) : DictEntry := ⟨PyData.keyHash P s, .str s t, v⟩
def d3 (v : Value) (n : Nat) (o : Obj) : Obj := match o.data with
  | .dict es _ => (match es.toList with
    | e :: r => ⟨o.cls, o.dict, .dict ⟨⟨e.hash, e.key, v⟩ :: r.take (n - 1)⟩ n, o.slots⟩
    | [] => o)
  | _ => o
def f29 (n : Nat) : Obj := ⟨.none, none, .fields ⟨[(.int 2 0), (.int 0 0), (.ref 37), (.int 6 0), (.int 0 0), (.ref 44), (.int 19 0), (.int 0 0), (.ref 51), (.int 37 0), (.int 0 0), (.ref 58), (.int 52 0), (.int 0 0), (.ref 81), (.int 61 0), (.int 0 0), (.ref 88), (.int 145 0), (.int 0 0), (.ref 221), (.int 148 0), (.int 0 0), (.ref 229), (.int 321 0), (.int 0 0), (.ref 331), (.int 334 0), (.int 0 0), (.ref 338), (.int 352 0), (.int 0 0), (.ref 345), (.int 358 0), (.int 0 0), (.ref 350), (.int 372 0), (.int 0 0), (.ref 357), (.int 384 0), (.int 0 0), (.ref 364), (.int 405 0), (.int 0 0), (.ref 371), (.int 413 0), (.int 0 0), (.ref 378), (.int 421 0), (.int 0 0), (.ref 383), (.int 436 0), (.int 0 0), (.ref 388)].take n⟩, ⟨[]⟩⟩
noncomputable def objs (nm : Value) (d f : Nat) (P : Params) : List Obj := [boot_o_0 P,
  ⟨(.type "dict"), none, (.dict ⟨[dE P (Str.ofString "builtins") 162 (.ref 4), dE P (Str.ofString "__main__") 163 (.ref 5), dE P (Str.ofString "_sre") 244 (.ref 12)]⟩ 3), ⟨[]⟩⟩,
  kk 2 P,
  d3 nm d (kk 3 P),
  boot_o_4 P,
  boot_o_5 P,
  boot_o_6 P,
  boot_o_7 P,
  boot_o_8 P,
  boot_o_9 P,
  boot_o_10 P,
  ⟨(.type "dict"), none, (.dict ⟨[dE P (Str.ofString "__name__") 247 (.str (Str.ofString "_sre") 246), dE P (Str.ofString "__doc__") 248 .none, dE P (Str.ofString "__package__") 250 (.str (Str.ofString "") 249), dE P (Str.ofString "__loader__") 251 (.builtin "off-the-table:_sre.__loader__:shared#opaque"), dE P (Str.ofString "__spec__") 252 (.builtin "off-the-table:_sre.__spec__:shared#opaque"), dE P (Str.ofString "compile") 253 (.builtin "_sre.compile"), dE P (Str.ofString "template") 254 (.builtin "off-the-table:_sre.template:shared#opaque"), dE P (Str.ofString "getcodesize") 255 (.builtin "off-the-table:_sre.getcodesize:shared#opaque"), dE P (Str.ofString "ascii_iscased") 256 (.builtin "off-the-table:_sre.ascii_iscased:shared#opaque"), dE P (Str.ofString "unicode_iscased") 257 (.builtin "off-the-table:_sre.unicode_iscased:shared#opaque"), dE P (Str.ofString "ascii_tolower") 258 (.builtin "off-the-table:_sre.ascii_tolower:shared#opaque"), dE P (Str.ofString "unicode_tolower") 259 (.builtin "off-the-table:_sre.unicode_tolower:shared#opaque"), dE P (Str.ofString "MAGIC") 261 (.int 20230612 260), dE P (Str.ofString "CODESIZE") 263 (.int 4 262), dE P (Str.ofString "MAXREPEAT") 265 (.int 4294967295 264), dE P (Str.ofString "MAXGROUPS") 267 (.int 1073741823 266), dE P (Str.ofString "copyright") 269 (.str (Str.ofString " SRE 2.2.2 Copyright (c) 1997-2002 by Secret Labs AB ") 268)]⟩ 17), ⟨[]⟩⟩,
  ⟨(.type "module"), (some 11), .plain, ⟨[]⟩⟩,
  ⟨(.type "dict"), none, (.dict ⟨[dE P (Str.ofString "__module__") 189 (.str (Str.ofString "_frozen_importlib") 186), dE P (Str.ofString "__firstlineno__") 190 (.int 971 187), dE P (Str.ofString "__doc__") 191 (.builtin "_frozen_importlib.BuiltinImporter.__doc__:str#opaque"), dE P (Str.ofString "_ORIGIN") 192 (.str (Str.ofString "built-in") 188), dE P (Str.ofString "find_spec") 193 (.builtin "_frozen_importlib.BuiltinImporter.find_spec#opaque"), dE P (Str.ofString "create_module") 194 (.builtin "_frozen_importlib.BuiltinImporter.create_module#opaque"), dE P (Str.ofString "exec_module") 195 (.builtin "_frozen_importlib.BuiltinImporter.exec_module#opaque"), dE P (Str.ofString "get_code") 196 (.builtin "_frozen_importlib.BuiltinImporter.get_code#opaque"), dE P (Str.ofString "get_source") 197 (.builtin "_frozen_importlib.BuiltinImporter.get_source#opaque"), dE P (Str.ofString "is_package") 198 (.builtin "_frozen_importlib.BuiltinImporter.is_package#opaque"), dE P (Str.ofString "load_module") 199 (.builtin "_frozen_importlib.BuiltinImporter.load_module#opaque"), dE P (Str.ofString "__static_attributes__") 200 (.ref 15), dE P (Str.ofString "__dict__") 202 (.ref 16), dE P (Str.ofString "__weakref__") 204 (.ref 17)]⟩ 14), ⟨[]⟩⟩,
  ⟨(.type "type"), none, (.cls ⟨(Str.ofString "BuiltinImporter"), [(.type "object")], [(.ref 14), (.type "object")], 13, (Str.ofString "BuiltinImporter"), true, [], [], false, none, false⟩), ⟨[]⟩⟩,
  ⟨(.type "tuple"), none, (.seq ⟨[]⟩ 0), ⟨[]⟩⟩,
  ⟨(.type "getset_descriptor"), none, (.fields ⟨[(.str (Str.ofString "__dict__") 201), (.ref 14), (.builtin "function.__dict__"), (.builtin "function.__dict__#set")]⟩), ⟨[]⟩⟩,
  ⟨(.type "getset_descriptor"), none, (.fields ⟨[(.str (Str.ofString "__weakref__") 203), (.ref 14), (.builtin "ExceptionGroup.__weakref__"), .none]⟩), ⟨[]⟩⟩,
  ⟨.none, none, (.seq ⟨[(.int 13 0), (.str ⟨⟨[6, 189, 10, 95, 95, 109, 111, 100, 117, 108, 101, 95, 95, 6, 186, 17, 95, 102, 114, 111, 122, 101, 110, 95, 105, 109, 112, 111, 114, 116, 108, 105, 98, 6, 190, 15, 95, 95, 102, 105, 114, 115, 116, 108, 105, 110, 101, 110, 111, 95, 95, 4, 187, 0, 971, 6, 191, 7, 95, 95, 100, 111, 99, 95, 95, 9, 52, 95, 102, 114, 111, 122, 101, 110, 95, 105, 109, 112, 111, 114, 116, 108, 105, 98, 46, 66, 117, 105, 108, 116, 105, 110, 73, 109, 112, 111, 114, 116, 101, 114, 46, 95, 95, 100, 111, 99, 95, 95, 58, 115, 116, 114, 35, 111, 112, 97, 113, 117, 101, 6, 192, 7, 95, 79, 82, 73, 71, 73, 78, 6, 188, 8, 98, 117, 105, 108, 116, 45, 105, 110, 6, 193, 9, 102, 105, 110, 100, 95, 115, 112, 101, 99, 9, 50, 95, 102, 114, 111, 122, 101, 110, 95, 105, 109, 112, 111, 114, 116, 108, 105, 98, 46, 66, 117, 105, 108, 116, 105, 110, 73, 109, 112, 111, 114, 116, 101, 114, 46, 102, 105, 110, 100, 95, 115, 112, 101, 99, 35, 111, 112, 97, 113, 117, 101, 6, 194, 13, 99, 114, 101, 97, 116, 101, 95, 109, 111, 100, 117, 108, 101, 9, 54, 95, 102, 114, 111, 122, 101, 110, 95, 105, 109, 112, 111, 114, 116, 108, 105, 98, 46, 66, 117, 105, 108, 116, 105, 110, 73, 109, 112, 111, 114, 116, 101, 114, 46, 99, 114, 101, 97, 116, 101, 95, 109, 111, 100, 117, 108, 101, 35, 111, 112, 97, 113, 117, 101, 6, 195, 11, 101, 120, 101, 99, 95, 109, 111, 100, 117, 108, 101, 9, 52, 95, 102, 114, 111, 122, 101, 110, 95, 105, 109, 112, 111, 114, 116, 108, 105, 98, 46, 66, 117, 105, 108, 116, 105, 110, 73, 109, 112, 111, 114, 116, 101, 114, 46, 101, 120, 101, 99, 95, 109, 111, 100, 117, 108, 101, 35, 111, 112, 97, 113, 117, 101, 6, 196, 8, 103, 101, 116, 95, 99, 111, 100, 101, 9, 49, 95, 102, 114, 111, 122, 101, 110, 95, 105, 109, 112, 111, 114, 116, 108, 105, 98, 46, 66, 117, 105, 108, 116, 105, 110, 73, 109, 112, 111, 114, 116, 101, 114, 46, 103, 101, 116, 95, 99, 111, 100, 101, 35, 111, 112, 97, 113, 117, 101, 6, 197, 10, 103, 101, 116, 95, 115, 111, 117, 114, 99, 101, 9, 51, 95, 102, 114, 111, 122, 101, 110, 95, 105, 109, 112, 111, 114, 116, 108, 105, 98, 46, 66, 117, 105, 108, 116, 105, 110, 73, 109, 112, 111, 114, 116, 101, 114, 46, 103, 101, 116, 95, 115, 111, 117, 114, 99, 101, 35, 111, 112, 97, 113, 117, 101, 6, 198, 10, 105, 115, 95, 112, 97, 99, 107, 97, 103, 101, 9, 51, 95, 102, 114, 111, 122, 101, 110, 95, 105, 109, 112, 111, 114, 116, 108, 105, 98, 46, 66, 117, 105, 108, 116, 105, 110, 73, 109, 112, 111, 114, 116, 101, 114, 46, 105, 115, 95, 112, 97, 99, 107, 97, 103, 101, 35, 111, 112, 97, 113, 117, 101, 6, 199, 11, 108, 111, 97, 100, 95, 109, 111, 100, 117, 108, 101, 9, 52, 95, 102, 114, 111, 122, 101, 110, 95, 105, 109, 112, 111, 114, 116, 108, 105, 98, 46, 66, 117, 105, 108, 116, 105, 110, 73, 109, 112, 111, 114, 116, 101, 114, 46, 108, 111, 97, 100, 95, 109, 111, 100, 117, 108, 101, 35, 111, 112, 97, 113, 117, 101, 6, 200, 21, 95, 95, 115, 116, 97, 116, 105, 99, 95, 97, 116, 116, 114, 105, 98, 117, 116, 101, 115, 95, 95, 4, 0, 0, 15, 6, 202, 8, 95, 95, 100, 105, 99, 116, 95, 95, 4, 0, 0, 16, 6, 204, 11, 95, 95, 119, 101, 97, 107, 114, 101, 102, 95, 95, 4, 0, 0, 17]⟩⟩ 0), (.bool true), (.bool true), (.str (Str.ofString "") 205), (.int 21 0), (.str ⟨⟨[6, 227, 10, 95, 95, 109, 111, 100, 117, 108, 101, 95, 95, 6, 217, 17, 95, 102, 114, 111, 122, 101, 110, 95, 105, 109, 112, 111, 114, 116, 108, 105, 98, 6, 228, 15, 95, 95, 102, 105, 114, 115, 116, 108, 105, 110, 101, 110, 111, 95, 95, 4, 218, 0, 562, 6, 229, 7, 95, 95, 100, 111, 99, 95, 95, 9, 47, 95, 102, 114, 111, 122, 101, 110, 95, 105, 109, 112, 111, 114, 116, 108, 105, 98, 46, 77, 111, 100, 117, 108, 101, 83, 112, 101, 99, 46, 95, 95, 100, 111, 99, 95, 95, 58, 115, 116, 114, 35, 111, 112, 97, 113, 117, 101, 6, 230, 8, 95, 95, 105, 110, 105, 116, 95, 95, 9, 44, 95, 102, 114, 111, 122, 101, 110, 95, 105, 109, 112, 111, 114, 116, 108, 105, 98, 46, 77, 111, 100, 117, 108, 101, 83, 112, 101, 99, 46, 95, 95, 105, 110, 105, 116, 95, 95, 35, 111, 112, 97, 113, 117, 101, 6, 231, 8, 95, 95, 114, 101, 112, 114, 95, 95, 9, 44, 95, 102, 114, 111, 122, 101, 110, 95, 105, 109, 112, 111, 114, 116, 108, 105, 98, 46, 77, 111, 100, 117, 108, 101, 83, 112, 101, 99, 46, 95, 95, 114, 101, 112, 114, 95, 95, 35, 111, 112, 97, 113, 117, 101, 6, 232, 6, 95, 95, 101, 113, 95, 95, 9, 42, 95, 102, 114, 111, 122, 101, 110, 95, 105, 109, 112, 111, 114, 116, 108, 105, 98, 46, 77, 111, 100, 117, 108, 101, 83, 112, 101, 99, 46, 95, 95, 101, 113, 95, 95, 35, 111, 112, 97, 113, 117, 101, 6, 233, 6, 99, 97, 99, 104, 101, 100, 9, 42, 95, 102, 114, 111, 122, 101, 110, 95, 105, 109, 112, 111, 114, 116, 108, 105, 98, 46, 77, 111, 100, 117, 108, 101, 83, 112, 101, 99, 46, 99, 97, 99, 104, 101, 100, 35, 111, 112, 97, 113, 117, 101, 6, 234, 6, 112, 97, 114, 101, 110, 116, 9, 42, 95, 102, 114, 111, 122, 101, 110, 95, 105, 109, 112, 111, 114, 116, 108, 105, 98, 46, 77, 111, 100, 117, 108, 101, 83, 112, 101, 99, 46, 112, 97, 114, 101, 110, 116, 35, 111, 112, 97, 113, 117, 101, 6, 235, 12, 104, 97, 115, 95, 108, 111, 99, 97, 116, 105, 111, 110, 9, 48, 95, 102, 114, 111, 122, 101, 110, 95, 105, 109, 112, 111, 114, 116, 108, 105, 98, 46, 77, 111, 100, 117, 108, 101, 83, 112, 101, 99, 46, 104, 97, 115, 95, 108, 111, 99, 97, 116, 105, 111, 110, 35, 111, 112, 97, 113, 117, 101, 6, 236, 21, 95, 95, 115, 116, 97, 116, 105, 99, 95, 97, 116, 116, 114, 105, 98, 117, 116, 101, 115, 95, 95, 4, 0, 0, 23, 6, 238, 8, 95, 95, 100, 105, 99, 116, 95, 95, 4, 0, 0, 24, 6, 240, 11, 95, 95, 119, 101, 97, 107, 114, 101, 102, 95, 95, 4, 0, 0, 25, 6, 241, 8, 95, 95, 104, 97, 115, 104, 95, 95, 0]⟩⟩ 0), (.bool true), (.bool true), (.str (Str.ofString "") 242)]⟩ 1), ⟨[]⟩⟩,
  ⟨(.type "list"), none, (.seq ⟨[]⟩ 0), ⟨[]⟩⟩,
  ⟨(.type "dict"), none, (.dict ⟨[dE P (Str.ofString "name") 208 (.str (Str.ofString "_sre") 207), dE P (Str.ofString "loader") 209 (.ref 14), dE P (Str.ofString "origin") 210 (.str (Str.ofString "built-in") 184), dE P (Str.ofString "loader_state") 211 .none, dE P (Str.ofString "submodule_search_locations") 212 .none, dE P (Str.ofString "_uninitialized_submodules") 213 (.ref 19), dE P (Str.ofString "_set_fileattr") 214 (.bool false), dE P (Str.ofString "_cached") 215 .none, dE P (Str.ofString "_initializing") 243 (.bool false)]⟩ 9), ⟨[]⟩⟩,
  ⟨(.type "dict"), none, (.dict ⟨[dE P (Str.ofString "__module__") 227 (.str (Str.ofString "_frozen_importlib") 217), dE P (Str.ofString "__firstlineno__") 228 (.int 562 218), dE P (Str.ofString "__doc__") 229 (.builtin "_frozen_importlib.ModuleSpec.__doc__:str#opaque"), dE P (Str.ofString "__init__") 230 (.builtin "_frozen_importlib.ModuleSpec.__init__#opaque"), dE P (Str.ofString "__repr__") 231 (.builtin "_frozen_importlib.ModuleSpec.__repr__#opaque"), dE P (Str.ofString "__eq__") 232 (.builtin "_frozen_importlib.ModuleSpec.__eq__#opaque"), dE P (Str.ofString "cached") 233 (.builtin "_frozen_importlib.ModuleSpec.cached#opaque"), dE P (Str.ofString "parent") 234 (.builtin "_frozen_importlib.ModuleSpec.parent#opaque"), dE P (Str.ofString "has_location") 235 (.builtin "_frozen_importlib.ModuleSpec.has_location#opaque"), dE P (Str.ofString "__static_attributes__") 236 (.ref 23), dE P (Str.ofString "__dict__") 238 (.ref 24), dE P (Str.ofString "__weakref__") 240 (.ref 25), dE P (Str.ofString "__hash__") 241 .none]⟩ 13), ⟨[]⟩⟩,
  ⟨(.type "type"), none, (.cls ⟨(Str.ofString "ModuleSpec"), [(.type "object")], [(.ref 22), (.type "object")], 21, (Str.ofString "ModuleSpec"), true, [], [], false, none, false⟩), ⟨[]⟩⟩,
  ⟨(.type "tuple"), none, (.seq ⟨[(.str (Str.ofString "_cached") 219), (.str (Str.ofString "_set_fileattr") 220), (.str (Str.ofString "_uninitialized_submodules") 221), (.str (Str.ofString "loader") 222), (.str (Str.ofString "loader_state") 223), (.str (Str.ofString "name") 224), (.str (Str.ofString "origin") 225), (.str (Str.ofString "submodule_search_locations") 226)]⟩ 0), ⟨[]⟩⟩,
  ⟨(.type "getset_descriptor"), none, (.fields ⟨[(.str (Str.ofString "__dict__") 237), (.ref 22), (.builtin "function.__dict__"), (.builtin "function.__dict__#set")]⟩), ⟨[]⟩⟩,
  ⟨(.type "getset_descriptor"), none, (.fields ⟨[(.str (Str.ofString "__weakref__") 239), (.ref 22), (.builtin "ExceptionGroup.__weakref__"), .none]⟩), ⟨[]⟩⟩,
  ⟨(.ref 22), (some 20), .plain, ⟨[]⟩⟩,
  ⟨.none, none, (.seq ⟨[(.int 11 0), (.str ⟨⟨[6, 247, 8, 95, 95, 110, 97, 109, 101, 95, 95, 6, 246, 4, 95, 115, 114, 101, 6, 248, 7, 95, 95, 100, 111, 99, 95, 95, 0, 6, 250, 11, 95, 95, 112, 97, 99, 107, 97, 103, 101, 95, 95, 6, 249, 0, 6, 251, 10, 95, 95, 108, 111, 97, 100, 101, 114, 95, 95, 4, 0, 0, 14, 6, 252, 8, 95, 95, 115, 112, 101, 99, 95, 95, 4, 0, 0, 26, 6, 253, 7, 99, 111, 109, 112, 105, 108, 101, 9, 12, 95, 115, 114, 101, 46, 99, 111, 109, 112, 105, 108, 101, 6, 254, 8, 116, 101, 109, 112, 108, 97, 116, 101, 9, 13, 95, 115, 114, 101, 46, 116, 101, 109, 112, 108, 97, 116, 101, 6, 255, 11, 103, 101, 116, 99, 111, 100, 101, 115, 105, 122, 101, 9, 16, 95, 115, 114, 101, 46, 103, 101, 116, 99, 111, 100, 101, 115, 105, 122, 101, 6, 256, 13, 97, 115, 99, 105, 105, 95, 105, 115, 99, 97, 115, 101, 100, 9, 18, 95, 115, 114, 101, 46, 97, 115, 99, 105, 105, 95, 105, 115, 99, 97, 115, 101, 100, 6, 257, 15, 117, 110, 105, 99, 111, 100, 101, 95, 105, 115, 99, 97, 115, 101, 100, 9, 20, 95, 115, 114, 101, 46, 117, 110, 105, 99, 111, 100, 101, 95, 105, 115, 99, 97, 115, 101, 100, 6, 258, 13, 97, 115, 99, 105, 105, 95, 116, 111, 108, 111, 119, 101, 114, 9, 18, 95, 115, 114, 101, 46, 97, 115, 99, 105, 105, 95, 116, 111, 108, 111, 119, 101, 114, 6, 259, 15, 117, 110, 105, 99, 111, 100, 101, 95, 116, 111, 108, 111, 119, 101, 114, 9, 20, 95, 115, 114, 101, 46, 117, 110, 105, 99, 111, 100, 101, 95, 116, 111, 108, 111, 119, 101, 114, 6, 261, 5, 77, 65, 71, 73, 67, 4, 260, 0, 20230612, 6, 263, 8, 67, 79, 68, 69, 83, 73, 90, 69, 4, 262, 0, 4, 6, 265, 9, 77, 65, 88, 82, 69, 80, 69, 65, 84, 4, 264, 0, 4294967295, 6, 267, 9, 77, 65, 88, 71, 82, 79, 85, 80, 83, 4, 266, 0, 1073741823, 6, 269, 9, 99, 111, 112, 121, 114, 105, 103, 104, 116, 6, 268, 53, 32, 83, 82, 69, 32, 50, 46, 50, 46, 50, 32, 67, 111, 112, 121, 114, 105, 103, 104, 116, 32, 40, 99, 41, 32, 49, 57, 57, 55, 45, 50, 48, 48, 50, 32, 98, 121, 32, 83, 101, 99, 114, 101, 116, 32, 76, 97, 98, 115, 32, 65, 66, 32]⟩⟩ 0), (.bool true), (.bool false), (.str (Str.ofString "_sre") 271)]⟩ 0), ⟨[]⟩⟩,
  ⟨(.type "tuple"), none, (.seq ⟨[]⟩ 0), ⟨[]⟩⟩,
  f29 f,
  ⟨(.type "code"), none, (.fields ⟨[(.str (Str.ofString "<module>") 277), (.str (Str.ofString "<module>") 278), (.str (Str.ofString "/claim/cut.py") 279), (.int 1 0), (.int 0 0), (.int 0 0), (.int 0 0), (.int 0 0), (.ref 28), (.bool false), (.int 276 0), (.ref 29), .none, .none, .none, .none, (.int 280 0), (.int 1 0), (.str (Str.ofString "/claim/cut.py") 281)]⟩), ⟨[]⟩⟩,
  ⟨(.type "frame"), none, .plain, ⟨[(some (.ref 30)), (some (.ref 3)), (some (.ref 3)), none, (some (.str (Str.ofString "__main__") 164)), none, (some (.ref 0))]⟩⟩,
  kk 32 P,
  fz,
  kk 34 P,
  kk 35 P,
  tf (kk 38 P),
  kk 37 P,
  kk 38 P,
  kk 39 P,
  fz,
  kk 41 P,
  kk 42 P,
  tf (kk 45 P),
  kk 44 P,
  kk 45 P,
  kk 46 P,
  fz,
  kk 48 P,
  kk 49 P,
  tf (kk 52 P),
  kk 51 P,
  kk 52 P,
  kk 53 P,
  fz,
  kk 55 P,
  kk 56 P,
  tf (kk 59 P),
  kk 58 P,
  kk 59 P,
  ⟨(.type "list"), none, (.seq ⟨[(.int 14 328), (.int 14 329), (.int 4 330), (.int 1 331), (.int 1 332), (.int 9 333), (.int 0 334), (.int 4227896069 335), (.int 939524097 336), (.int 0 337), (.int 0 338), (.int 0 339), (.int 0 340), (.int 0 341), (.int 0 342), (.int 13 343), (.int 11 344), (.int 9 345), (.int 0 346), (.int 4227896069 347), (.int 939524097 348), (.int 0 349), (.int 0 350), (.int 0 351), (.int 0 352), (.int 0 353), (.int 0 354), (.int 1 355)]⟩ 0), ⟨[]⟩⟩,
  ⟨(.type "dict"), none, (.dict ⟨[]⟩ 0), ⟨[]⟩⟩,
  ⟨(.type "tuple"), none, (.seq ⟨[.none]⟩ 0), ⟨[]⟩⟩,
  kk 63 P,
  kk 64 P,
  ⟨(.type "list"), none, (.seq ⟨[(.int 14 362), (.int 10 363), (.int 4 364), (.int 1 365), (.int 1 366), (.int 22 367), (.int 0 368), (.int 31 369), (.int 16 370), (.int 127 371), (.int 0 372), (.int 13 373), (.int 7 374), (.int 22 375), (.int 0 376), (.int 31 377), (.int 16 378), (.int 127 379), (.int 0 380), (.int 1 381)]⟩ 0), ⟨[]⟩⟩,
  ⟨(.type "dict"), none, (.dict ⟨[]⟩ 0), ⟨[]⟩⟩,
  ⟨(.type "tuple"), none, (.seq ⟨[.none]⟩ 0), ⟨[]⟩⟩,
  kk 68 P,
  kk 69 P,
  ⟨(.type "list"), none, (.seq ⟨[(.int 14 388), (.int 14 389), (.int 4 390), (.int 1 391), (.int 1 392), (.int 9 393), (.int 4294966783 394), (.int 0 395), (.int 0 396), (.int 2147483648 397), (.int 0 398), (.int 0 399), (.int 0 400), (.int 0 401), (.int 0 402), (.int 13 403), (.int 11 404), (.int 9 405), (.int 4294966783 406), (.int 0 407), (.int 0 408), (.int 2147483648 409), (.int 0 410), (.int 0 411), (.int 0 412), (.int 0 413), (.int 0 414), (.int 1 415)]⟩ 0), ⟨[]⟩⟩,
  ⟨(.type "dict"), none, (.dict ⟨[]⟩ 0), ⟨[]⟩⟩,
  ⟨(.type "tuple"), none, (.seq ⟨[.none]⟩ 0), ⟨[]⟩⟩,
  kk 73 P,
  kk 74 P,
  kk 75 P,
  kk 76 P,
  fz,
  kk 78 P,
  kk 79 P,
  tf (kk 82 P),
  kk 81 P,
  kk 82 P,
  ⟨(.type "tuple"), none, (.seq ⟨[]⟩ 0), ⟨[]⟩⟩,
  ⟨(.type "builtin_function_or_method"), none, (.fields ⟨[(.builtin "type.__prepare__"), (.type "type")]⟩), ⟨[]⟩⟩,
  ⟨(.type "dict"), none, (.dict ⟨[dE P (Str.ofString "__module__") 436 (.str (Str.ofString "cpy313.wsgiref.headers") 323), dE P (Str.ofString "__qualname__") 438 (.str (Str.ofString "Headers") 437), dE P (Str.ofString "__firstlineno__") 440 (.int 61 439), dE P (Str.ofString "__init__") 450 (.ref 97), dE P (Str.ofString "_convert_string_type") 460 (.ref 104), dE P (Str.ofString "__len__") 467 (.ref 111), dE P (Str.ofString "__setitem__") 476 (.ref 118), dE P (Str.ofString "__delitem__") 482 (.ref 123), dE P (Str.ofString "__getitem__") 490 (.ref 130), dE P (Str.ofString "__contains__") 498 (.ref 137), dE P (Str.ofString "get_all") 506 (.ref 144), dE P (Str.ofString "get") 517 (.ref 152), dE P (Str.ofString "keys") 523 (.ref 157), dE P (Str.ofString "values") 529 (.ref 162), dE P (Str.ofString "items") 536 (.ref 169), dE P (Str.ofString "__repr__") 543 (.ref 176), dE P (Str.ofString "__str__") 549 (.ref 181), dE P (Str.ofString "__bytes__") 556 (.ref 188), dE P (Str.ofString "setdefault") 565 (.ref 195), dE P (Str.ofString "add_header") 578 (.ref 202), dE P (Str.ofString "__static_attributes__") 580 (.ref 203)]⟩ 21), ⟨[]⟩⟩,
  ⟨(.type "tuple"), none, (.seq ⟨[]⟩ 0), ⟨[]⟩⟩,
  ⟨.none, none, (.fields ⟨[(.int 63 0), (.int 4 0), (.ref 96), (.int 73 0), (.int 4 0), (.ref 103), (.int 81 0), (.int 4 0), (.ref 110), (.int 84 0), (.int 4 0), (.ref 117), (.int 88 0), (.int 4 0), (.ref 122), (.int 92 0), (.int 4 0), (.ref 129), (.int 95 0), (.int 4 0), (.ref 136), (.int 98 0), (.int 4 0), (.ref 143), (.int 101 0), (.int 4 0), (.ref 151), (.int 108 0), (.int 4 0), (.ref 156), (.int 111 0), (.int 4 0), (.ref 161), (.int 114 0), (.int 4 0), (.ref 168), (.int 117 0), (.int 4 0), (.ref 175), (.int 120 0), (.int 4 0), (.ref 180), (.int 123 0), (.int 4 0), (.ref 187), (.int 126 0), (.int 4 0), (.ref 194), (.int 129 0), (.int 4 0), (.ref 201)]⟩), ⟨[]⟩⟩,
  ⟨(.type "code"), none, (.fields ⟨[(.str (Str.ofString "Headers") 431), (.str (Str.ofString "Headers") 432), (.str (Str.ofString "/claim/cut.py") 433), (.int 61 0), (.int 0 0), (.int 0 0), (.int 0 0), (.int 0 0), (.ref 86), (.bool false), (.int 276 0), (.ref 87), .none, .none, .none, .none, (.int 434 0), (.int 61 0), (.str (Str.ofString "/claim/cut.py") 435)]⟩), ⟨[]⟩⟩,
  ⟨(.type "frame"), none, .plain, ⟨[(some (.ref 88)), (some (.ref 3)), (some (.ref 85)), none, (some (.str (Str.ofString "cpy313.wsgiref.headers") 323)), none, (some (.ref 0))]⟩⟩,
  kk 90 P,
  kk 91 P,
  fz,
  kk 93 P,
  kk 94 P,
  tf (kk 97 P),
  kk 96 P,
  kk 97 P,
  kk 98 P,
  fz,
  kk 100 P,
  kk 101 P,
  tf (kk 104 P),
  kk 103 P,
  kk 104 P,
  kk 105 P,
  fz,
  kk 107 P,
  kk 108 P,
  tf (kk 111 P),
  kk 110 P,
  kk 111 P,
  kk 112 P,
  fz,
  kk 114 P,
  kk 115 P,
  tf (kk 118 P),
  kk 117 P,
  kk 118 P,
  kk 119 P,
  fz,
  tf (kk 123 P),
  kk 122 P,
  kk 123 P,
  kk 124 P,
  fz,
  kk 126 P,
  kk 127 P,
  tf (kk 130 P),
  kk 129 P,
  kk 130 P,
  kk 131 P,
  fz,
  kk 133 P,
  kk 134 P,
  tf (kk 137 P),
  kk 136 P,
  kk 137 P,
  kk 138 P,
  fz,
  kk 140 P,
  kk 141 P,
  tf (kk 144 P),
  kk 143 P,
  kk 144 P,
  kk 145 P,
  kk 146 P,
  fz,
  kk 148 P,
  kk 149 P,
  tf (kk 152 P),
  kk 151 P,
  kk 152 P,
  kk 153 P,
  fz,
  tf (kk 157 P),
  kk 156 P,
  kk 157 P,
  kk 158 P,
  fz,
  tf (kk 162 P),
  kk 161 P,
  kk 162 P,
  kk 163 P,
  fz,
  kk 165 P,
  kk 166 P,
  tf (kk 169 P),
  kk 168 P,
  kk 169 P,
  kk 170 P,
  fz,
  kk 172 P,
  kk 173 P,
  tf (kk 176 P),
  kk 175 P,
  kk 176 P,
  kk 177 P,
  fz,
  tf (kk 181 P),
  kk 180 P,
  kk 181 P,
  kk 182 P,
  fz,
  kk 184 P,
  kk 185 P,
  tf (kk 188 P),
  kk 187 P,
  kk 188 P,
  kk 189 P,
  fz,
  kk 191 P,
  kk 192 P,
  tf (kk 195 P),
  kk 194 P,
  kk 195 P,
  kk 196 P,
  fz,
  kk 198 P,
  kk 199 P,
  tf (kk 202 P),
  kk 201 P,
  kk 202 P,
  kk 203 P,
  kk 204 P,
  kk 205 P,
  kk 206 P,
  kk 207 P,
  ⟨(.type "super"), none, (.fields ⟨[(.ref 205), (.ref 205), (.ref 205)]⟩), ⟨[]⟩⟩,
  ⟨(.type "builtin_function_or_method"), none, (.fields ⟨[(.builtin "object.__init_subclass__"), (.ref 205)]⟩), ⟨[]⟩⟩,
  ⟨(.type "list"), none, (.seq ⟨[(.int 14 593), (.int 4 594), (.int 0 595), (.int 3 596), (.int 4294967295 597), (.int 6 598), (.int 0 599), (.int 24 600), (.int 9 601), (.int 1 602), (.int 4294967295 603), (.int 13 604), (.int 4 605), (.int 8 606), (.int 14 607), (.int 0 608), (.int 1 609), (.int 16 610), (.int 58 611), (.int 24 612), (.int 9 613), (.int 1 614), (.int 4294967295 615), (.int 13 616), (.int 4 617), (.int 8 618), (.int 14 619), (.int 0 620), (.int 1 621), (.int 6 622), (.int 5 623), (.int 1 624)]⟩ 0), ⟨[]⟩⟩,
  ⟨(.type "dict"), none, (.dict ⟨[]⟩ 0), ⟨[]⟩⟩,
  ⟨(.type "tuple"), none, (.seq ⟨[.none]⟩ 0), ⟨[]⟩⟩,
  kk 213 P,
  kk 214 P,
  kk 215 P,
  kk 216 P,
  fz,
  kk 218 P,
  kk 219 P,
  tf (kk 222 P),
  kk 221 P,
  kk 222 P,
  kk 223 P,
  ⟨(.type "tuple"), none, (.seq ⟨[]⟩ 0), ⟨[]⟩⟩,
  ⟨(.type "builtin_function_or_method"), none, (.fields ⟨[(.builtin "type.__prepare__"), (.type "type")]⟩), ⟨[]⟩⟩,
  ⟨(.type "dict"), none, (.dict ⟨[dE P (Str.ofString "__module__") 666 (.str (Str.ofString "cpy313.xml.etree.ElementTree") 588), dE P (Str.ofString "__qualname__") 668 (.str (Str.ofString "C14NWriterTarget") 667), dE P (Str.ofString "__firstlineno__") 670 (.int 148 669), dE P (Str.ofString "__init__") 692 (.ref 238), dE P (Str.ofString "_iter_namespaces") 702 (.ref 246), dE P (Str.ofString "_resolve_prefix_name") 714 (.ref 253), dE P (Str.ofString "_qname") 727 (.ref 261), dE P (Str.ofString "data") 735 (.ref 268), dE P (Str.ofString "_flush") 748 (.ref 277), dE P (Str.ofString "start_ns") 757 (.ref 284), dE P (Str.ofString "start") 767 (.ref 291), dE P (Str.ofString "_start") 773 (.ref 297), dE P (Str.ofString "end") 781 (.ref 304), dE P (Str.ofString "comment") 789 (.ref 311), dE P (Str.ofString "pi") 798 (.ref 318), dE P (Str.ofString "__static_attributes__") 816 (.ref 319)]⟩ 16), ⟨[]⟩⟩,
  ⟨(.type "tuple"), none, (.seq ⟨[]⟩ 0), ⟨[]⟩⟩,
  ⟨.none, none, (.fields ⟨[(.int 150 0), (.int 4 0), (.ref 237), (.int 178 0), (.int 4 0), (.ref 245), (.int 183 0), (.int 4 0), (.ref 252), (.int 190 0), (.int 4 0), (.ref 260), (.int 217 0), (.int 4 0), (.ref 267), (.int 221 0), (.int 4 0), (.ref 276), (.int 235 0), (.int 4 0), (.ref 283), (.int 238 0), (.int 4 0), (.ref 290), (.int 251 0), (.int 4 0), (.ref 296), (.int 296 0), (.int 4 0), (.ref 303), (.int 308 0), (.int 4 0), (.ref 310), (.int 311 0), (.int 4 0), (.ref 317)]⟩), ⟨[]⟩⟩,
  ⟨(.type "code"), none, (.fields ⟨[(.str (Str.ofString "C14NWriterTarget") 661), (.str (Str.ofString "C14NWriterTarget") 662), (.str (Str.ofString "/claim/cut.py") 663), (.int 148 0), (.int 0 0), (.int 0 0), (.int 0 0), (.int 0 0), (.ref 227), (.bool false), (.int 276 0), (.ref 228), .none, .none, .none, .none, (.int 664 0), (.int 148 0), (.str (Str.ofString "/claim/cut.py") 665)]⟩), ⟨[]⟩⟩,
  ⟨(.type "frame"), none, .plain, ⟨[(some (.ref 229)), (some (.ref 3)), (some (.ref 226)), none, (some (.str (Str.ofString "cpy313.xml.etree.ElementTree") 588)), none, (some (.ref 0))]⟩⟩,
  kk 231 P,
  kk 232 P,
  fz,
  kk 234 P,
  kk 235 P,
  tf (kk 238 P),
  kk 237 P,
  kk 238 P,
  kk 239 P,
  kk 240 P,
  fz,
  kk 242 P,
  kk 243 P,
  tf (kk 246 P),
  kk 245 P,
  kk 246 P,
  kk 247 P,
  fz,
  kk 249 P,
  kk 250 P,
  tf (kk 253 P),
  kk 252 P,
  kk 253 P,
  kk 254 P,
  kk 255 P,
  fz,
  kk 257 P,
  kk 258 P,
  tf (kk 261 P),
  kk 260 P,
  kk 261 P,
  kk 262 P,
  fz,
  kk 264 P,
  kk 265 P,
  tf (kk 268 P),
  kk 267 P,
  kk 268 P,
  kk 269 P,
  kk 270 P,
  kk 271 P,
  fz,
  kk 273 P,
  kk 274 P,
  tf (kk 277 P),
  kk 276 P,
  kk 277 P,
  kk 278 P,
  fz,
  kk 280 P,
  kk 281 P,
  tf (kk 284 P),
  kk 283 P,
  kk 284 P,
  kk 285 P,
  fz,
  kk 287 P,
  kk 288 P,
  tf (kk 291 P),
  kk 290 P,
  kk 291 P,
  kk 292 P,
  kk 293 P,
  fz,
  tf (kk 297 P),
  kk 296 P,
  kk 297 P,
  kk 298 P,
  fz,
  kk 300 P,
  kk 301 P,
  tf (kk 304 P),
  kk 303 P,
  kk 304 P,
  kk 305 P,
  fz,
  kk 307 P,
  kk 308 P,
  tf (kk 311 P),
  kk 310 P,
  kk 311 P,
  kk 312 P,
  fz,
  kk 314 P,
  kk 315 P,
  tf (kk 318 P),
  kk 317 P,
  kk 318 P,
  kk 319 P,
  kk 320 P,
  kk 321 P,
  kk 322 P,
  kk 323 P,
  ⟨(.type "super"), none, (.fields ⟨[(.ref 321), (.ref 321), (.ref 321)]⟩), ⟨[]⟩⟩,
  ⟨(.type "builtin_function_or_method"), none, (.fields ⟨[(.builtin "object.__init_subclass__"), (.ref 321)]⟩), ⟨[]⟩⟩,
  kk 326 P,
  fz,
  kk 328 P,
  kk 329 P,
  tf (kk 332 P),
  kk 331 P,
  kk 332 P,
  kk 333 P,
  fz,
  kk 335 P,
  kk 336 P,
  tf (kk 339 P),
  kk 338 P,
  kk 339 P,
  kk 340 P,
  fz,
  kk 342 P,
  kk 343 P,
  tf (kk 346 P),
  kk 345 P,
  kk 346 P,
  kk 347 P,
  fz,
  tf (kk 351 P),
  kk 350 P,
  kk 351 P,
  kk 352 P,
  fz,
  kk 354 P,
  kk 355 P,
  tf (kk 358 P),
  kk 357 P,
  kk 358 P,
  kk 359 P,
  fz,
  kk 361 P,
  kk 362 P,
  tf (kk 365 P),
  kk 364 P,
  kk 365 P,
  kk 366 P,
  fz,
  kk 368 P,
  kk 369 P,
  tf (kk 372 P),
  kk 371 P,
  kk 372 P,
  kk 373 P,
  fz,
  kk 375 P,
  kk 376 P,
  tf (kk 379 P),
  kk 378 P,
  kk 379 P,
  kk 380 P,
  fz,
  tf (kk 384 P),
  kk 383 P,
  kk 384 P,
  kk 385 P,
  fz,
  tf (kk 389 P),
  kk 388 P,
  kk 389 P]
noncomputable def o11 (P : Params) : Obj := ⟨(.type "dict"), none, (.dict ⟨[dE P (Str.ofString "__name__") 247 (.str (Str.ofString "_sre") 246), dE P (Str.ofString "__doc__") 248 .none, dE P (Str.ofString "__package__") 250 (.str (Str.ofString "") 249), dE P (Str.ofString "__loader__") 251 (.ref 14), dE P (Str.ofString "__spec__") 252 (.ref 26), dE P (Str.ofString "compile") 253 (.builtin "_sre.compile"), dE P (Str.ofString "template") 254 (.builtin "_sre.template"), dE P (Str.ofString "getcodesize") 255 (.builtin "_sre.getcodesize"), dE P (Str.ofString "ascii_iscased") 256 (.builtin "_sre.ascii_iscased"), dE P (Str.ofString "unicode_iscased") 257 (.builtin "_sre.unicode_iscased"), dE P (Str.ofString "ascii_tolower") 258 (.builtin "_sre.ascii_tolower"), dE P (Str.ofString "unicode_tolower") 259 (.builtin "_sre.unicode_tolower"), dE P (Str.ofString "MAGIC") 261 (.int 20230612 260), dE P (Str.ofString "CODESIZE") 263 (.int 4 262), dE P (Str.ofString "MAXREPEAT") 265 (.int 4294967295 264), dE P (Str.ofString "MAXGROUPS") 267 (.int 1073741823 266), dE P (Str.ofString "copyright") 269 (.str (Str.ofString " SRE 2.2.2 Copyright (c) 1997-2002 by Secret Labs AB ") 268)]⟩ 17), ⟨[]⟩⟩
def ev {α : Type} : List α → List α
  | [] => []
  | [a] => [a]
  | a :: _ :: r => a :: ev r
def od {α : Type} : List α → List α
  | [] => []
  | [_] => []
  | _ :: b :: r => b :: od r
def bt : Nat → List Obj → BT
  | 0, _ => .nil
  | _ + 1, [] => .nil
  | k + 1, v :: r => .node v (bt k (ev r)) (bt k (od r))
noncomputable abbrev pw : Program := PySem.Challenge.pw_uq0033_01
def nM : Value := .str (Str.ofString "__main__") 164
def nH : Value := .str (Str.ofString "cpy313.wsgiref.headers") 323
def nE : Value := .str (Str.ofString "cpy313.xml.etree.ElementTree") 588
def nL : Value := .str (Str.ofString "law_uq0033_01") 838
noncomputable def sT (nm : Value) (d f n t : Nat) (w : World) (os : OsState) : SharedT := ⟨bt 10 ((objs nm d f w.params).take n), n, {}, ⟨[]⟩, {}, t, os⟩
noncomputable def hI (P : Params) : Heap := ⟨⟨((objs nM 10 0 P).take 28).set 11 (o11 P)⟩, {}⟩
noncomputable def hO (P : Params) : Heap := ⟨⟨(objs nM 10 0 P).take 28⟩, {}⟩
noncomputable def hF (P : Params) : Heap := ⟨⟨objs nL 34 54 P⟩, {}⟩
noncomputable def env1 : Env := { scope := pw.main.scope, locals := mainNs, globals := mainNs, cells := [], code := .ref 30, frame := some 31 }
noncomputable def body1 : List Stmt := behindTheImports pw
noncomputable def cE : Code := .body body1 env1
noncomputable def sl (i n : Nat) : List Stmt := (body1.drop i).take n
def p0 : Pos := ⟨0, 0, 0, 0⟩
abbrev an : Option Value := some (.ref 6)
theorem imp0 (w : World) : importEnds treeTable (opening pw) w 800 (start (opening pw)).1 (start (opening pw)).2 = some ⟨hI w.params, ⟨[]⟩, {}, 276, (start (opening pw)).1.os⟩ := by
  rw [PySem.W.Fast.te10274390034422433532, PySem.W.Fast.te14364793385576792824, PySem.W.Fast.te1435165496053646825]
  kernel_rfl
theorem fen0 (w : World) : (fun os => (fenceModules? pw ⟨hI w.params, ⟨[]⟩, {}, 276, os⟩).map (fun s => (s.heap, s.gens, s.drawn, s.toks))) = fun _ => some (hO w.params, ⟨[]⟩, {}, 276) := by
  rw [PySem.W.Fast.te14289696077712309145]
  kernel_rfl
theorem siz0 (w : World) : ((hO w.params).isNs mainGlobals && (⟨[]⟩ : Array GenState).size == 0, (hO w.params).objs.size, (hO w.params).nsMap mainGlobals (Str.ofString "__annotations__")) = (true, 28, an) := by
  kernel_rfl
theorem bt_get0 (k : Nat) (v : Obj) (r : List Obj) : (bt (k + 1) (v :: r)).get 0 = some v := rfl
theorem ev_get {α : Type} : ∀ (l : List α) (j : Nat), (ev l)[j]? = l[2 * j]?
  | [], j => by simp [ev]
  | [a], 0 => rfl
  | [a], j + 1 => by simp [ev]
  | a :: b :: r, 0 => rfl
  | a :: b :: r, j + 1 => by
    show (ev r)[j]? = _
    rw [ev_get r j, show 2 * (j + 1) = 2 * j + 1 + 1 by omega, List.getElem?_cons_succ, List.getElem?_cons_succ]
theorem od_get {α : Type} : ∀ (l : List α) (j : Nat), (od l)[j]? = l[2 * j + 1]?
  | [], j => by simp [od]
  | [a], j => by simp [od]
  | a :: b :: r, 0 => rfl
  | a :: b :: r, j + 1 => by
    show (od r)[j]? = _
    rw [od_get r j, show 2 * (j + 1) + 1 = 2 * j + 1 + 1 + 1 by omega, List.getElem?_cons_succ, List.getElem?_cons_succ]
theorem ev_len {α : Type} : ∀ (l : List α), (ev l).length = (l.length + 1) / 2
  | [] => by simp [ev]
  | [a] => by simp [ev]
  | a :: b :: r => by simp only [ev, List.length_cons, ev_len r]; omega
theorem od_len {α : Type} : ∀ (l : List α), (od l).length = l.length / 2
  | [] => by simp [od]
  | [a] => by simp [od]
  | a :: b :: r => by simp only [od, List.length_cons, od_len r]; omega
theorem bt_get : ∀ (k : Nat) (l : List Obj) (i : Nat), l.length < 2 ^ k → (bt k l).get i = l[i]?
  | 0, [], i, _ => by simp [bt, BT.get]
  | 0, a :: r, i, h => by simp at h
  | k + 1, [], i, _ => by simp [bt, BT.get]
  | k + 1, v :: r, i, h => by
    simp only [List.length_cons, Nat.pow_succ] at h
    rw [bt, BT.get_node]
    by_cases h0 : i = 0
    · subst h0; rfl
    · obtain ⟨j, rfl⟩ : ∃ j, i = j + 1 := ⟨i - 1, by omega⟩
      rw [if_neg h0, List.getElem?_cons_succ]
      by_cases h1 : (j + 1) % 2 = 1
      · rw [if_pos h1, bt_get k (ev r) _ (by rw [ev_len]; omega), ev_get]
        congr 1; omega
      · rw [if_neg h1, bt_get k (od r) _ (by rw [od_len]; omega), od_get]
        congr 1; omega
theorem abs_bt (l : List Obj) (n : Nat) (life : Life) (hn : l.length = n) (h : l.length < 2 ^ 10) : absHeap (bt 10 l) n life = ⟨⟨l⟩, life⟩ := by
  subst hn
  have e : (bt 10 l).list l.length = l := by
    unfold BT.list
    refine List.ext_getElem? fun i => ?_
    rw [List.getElem?_map]
    by_cases hi : i < l.length
    · rw [List.getElem?_range hi, Option.map_some, bt_get 10 l i h, List.getElem?_eq_getElem hi]
      rfl
    · rw [List.getElem?_eq_none (by simpa using hi), List.getElem?_eq_none (by omega)]
      rfl
  unfold absHeap
  rw [e]
theorem objs_len (nm : Value) (d f : Nat) (P : Params) : (objs nm d f P).length = 390 := rfl
theorem sT_abs (nm : Value) (d f n t : Nat) (w : World) (os : OsState) (h : n ≤ 390) : (sT nm d f n t w os).abs = ⟨⟨⟨(objs nm d f w.params).take n⟩, {}⟩, ⟨[]⟩, {}, t, os⟩ := by
  have l : ((objs nm d f w.params).take n).length = n := by rw [List.length_take, objs_len]; omega
  show (⟨absHeap (bt 10 ((objs nm d f w.params).take n)) n {}, ⟨[]⟩, {}, t, os⟩ : Shared) = _
  rw [abs_bt _ _ _ l (by omega)]
theorem pre0 (w : World) (os : OsState) : topGo treeTable pw w 28 an 12 ⟨hO w.params, ⟨[]⟩, {}, 276, os⟩ (topStub pw) = some (⟨⟨⟨(objs nM 10 0 w.params).take 32⟩, {}⟩, ⟨[]⟩, {}, 282, os⟩, ⟨denote treeTable cE, cE, p0, [topFrame p0]⟩) := by
  rw [PySem.W.Fast.te15667345088766844465, PySem.W.Fast.te14364793385576792824, PySem.W.Fast.te11892475500146522536]
  kernel_rfl
theorem blk0 (w : World) (s : Shared) : segRun treeTable pw w 28 an 1 1 s (blockOf body1 env1 cE p0 [topFrame p0]) = some (.next, s, cE, p0) := by
  kernel_rfl
theorem seg_q : @segRunT = @PySem.W.Fast.tw10110043849684766642 := PySem.W.Fast.te10110043849684766642
theorem tab_q : treeTable = PySem.W.Fast.tw14364793385576792824 := PySem.W.Fast.te14364793385576792824
theorem g9 (w : World) (os : OsState) : segRunT treeTable pw w 28 an 1 431 (sT nM 10 0 32 282 w os) (piecesOf (sl 0 10) env1 cE p0 [topFrame p0]) = some (.next, sT nH 18 15 83 429 w os, cE, ⟨52, 0, 60, 20⟩) := by
  rw [seg_q, tab_q]
  kernel_rfl
theorem g10 (w : World) (os : OsState) : segRunT treeTable pw w 28 an 1 760 (sT nH 18 15 83 429 w os) (piecesOf (sl 10 1) env1 cE ⟨52, 0, 60, 20⟩ [topFrame p0]) = some (.next, sT nH 19 18 210 588 w os, cE, ⟨61, 0, 141, 93⟩) := by
  rw [seg_q, tab_q]
  kernel_rfl
theorem g12 (w : World) (os : OsState) : segRunT treeTable pw w 28 an 1 120 (sT nH 19 18 210 588 w os) (piecesOf (sl 11 2) env1 cE ⟨61, 0, 141, 93⟩ [topFrame p0]) = some (.next, sT nE 20 18 215 628 w os, cE, ⟨143, 0, 143, 10⟩) := by
  rw [seg_q, tab_q]
  kernel_rfl
theorem g13w (b : Bool) (w : World) (os : OsState) : (fun w => segRunT treeTable pw w 28 an 1 145 (sT nE 20 18 215 628 w os) (piecesOf (sl 13 1) env1 cE ⟨143, 0, 143, 10⟩ [topFrame p0]) = some (.next, sT nE 21 18 216 650 w os, cE, ⟨144, 0, 144, 14⟩)) (w.withFollow "special-get-raises" b) := by
  dsimp only
  rw [seg_q, tab_q]
  cases b
  · kernel_rfl
  · kernel_rfl
theorem g13 (w : World) (os : OsState) : segRunT treeTable pw w 28 an 1 145 (sT nE 20 18 215 628 w os) (piecesOf (sl 13 1) env1 cE ⟨143, 0, 143, 10⟩ [topFrame p0]) = some (.next, sT nE 21 18 216 650 w os, cE, ⟨144, 0, 144, 14⟩) :=
  byRow2 "special-get-raises" (P := fun w => segRunT treeTable pw w 28 an 1 145 (sT nE 20 18 215 628 w os) (piecesOf (sl 13 1) env1 cE ⟨143, 0, 143, 10⟩ [topFrame p0]) = some (.next, sT nE 21 18 216 650 w os, cE, ⟨144, 0, 144, 14⟩)) (fun w => g13w false w os) (fun w => g13w true w os) w
theorem g15 (w : World) (os : OsState) : segRunT treeTable pw w 28 an 1 86 (sT nE 21 18 216 650 w os) (piecesOf (sl 14 2) env1 cE ⟨144, 0, 144, 14⟩ [topFrame p0]) = some (.next, sT nE 23 21 224 659 w os, cE, ⟨147, 0, 147, 23⟩) := by
  rw [seg_q, tab_q]
  kernel_rfl
theorem g16 (w : World) (os : OsState) : segRunT treeTable pw w 28 an 1 690 (sT nE 23 21 224 659 w os) (piecesOf (sl 16 1) env1 cE ⟨147, 0, 147, 23⟩ [topFrame p0]) = some (.next, sT nE 24 24 326 824 w os, cE, ⟨148, 0, 320, 29⟩) := by
  rw [seg_q, tab_q]
  kernel_rfl
theorem g27 (w : World) (os : OsState) : segRunT treeTable pw w 28 an 1 351 (sT nE 24 24 326 824 w os) (piecesOf (sl 17 11) env1 cE ⟨148, 0, 320, 29⟩ [topFrame p0]) = some (.next, sT nL 34 54 390 924 w os, cE, ⟨436, 0, 452, 15⟩) := by
  rw [seg_q, tab_q]
  kernel_rfl
theorem fin0 (w : World) (h : Heap) (g : Array GenState) (d : Drawn) (t : Nat) (os : OsState) : topRun treeTable pw w 28 an 2 ⟨h, g, d, t, os⟩ ⟨doneF .next, cE, ⟨436, 0, 452, 15⟩, [topFrame p0]⟩ = some ⟨h, g, d, t, os⟩ := by
  kernel_rfl
theorem parts : sl 0 10 ++ (sl 10 1 ++ (sl 11 2 ++ (sl 13 1 ++ (sl 14 2 ++ (sl 16 1 ++ (sl 17 11 ++ [])))))) = body1 := by
  kernel_rfl
theorem run0 (w : World) (os : OsState) : topRun treeTable pw w 28 an (12 + (1 + (431 + (760 + (120 + (145 + (86 + (690 + (351 + 2))))))))) ⟨hO w.params, ⟨[]⟩, {}, 276, os⟩ (topStub pw) = some ⟨hF w.params, ⟨[]⟩, {}, 924, os⟩ := by
  have f : topRun treeTable pw w 28 an 2 (sT nL 34 54 390 924 w os).abs ⟨doneF .next, cE, ⟨436, 0, 452, 15⟩, [topFrame p0]⟩ = some ⟨hF w.params, ⟨[]⟩, {}, 924, os⟩ := by
    rw [sT_abs _ _ _ _ _ _ _ (by omega), List.take_of_length_le (by rw [objs_len]; omega)]
    exact fin0 w _ _ _ _ os
  have h := piece_app (segRun_of (g9 w os)) (piece_app (segRun_of (g10 w os)) (piece_app (segRun_of (g12 w os)) (piece_app (segRun_of (g13 w os)) (piece_app (segRun_of (g15 w os)) (piece_app (segRun_of (g16 w os)) (piece_app (segRun_of (g27 w os)) (piece_nil f)))))))
  rw [parts] at h
  have b := piece_block (blk0 w _) h
  rw [sT_abs _ _ _ _ _ _ _ (by omega)] at b
  exact go_top (pre0 w os) b
noncomputable abbrev HK : Hook := kmHook Mine.hd.heap_1 [2, 3, 32, 34, 35, 37, 38, 39, 41, 42, 44, 45, 46, 48, 49, 51, 52, 53, 55, 56, 58, 59, 63, 64, 68, 69, 73, 74, 75, 76, 78, 79, 81, 82, 90, 91, 93, 94, 96, 97, 98, 100, 101, 103, 104, 105, 107, 108, 110, 111, 112, 114, 115, 117, 118, 119, 122, 123, 124, 126, 127, 129, 130, 131, 133, 134, 136, 137, 138, 140, 141, 143, 144, 145, 146, 148, 149, 151, 152, 153, 156, 157, 158, 161, 162, 163, 165, 166, 168, 169, 170, 172, 173, 175, 176, 177, 180, 181, 182, 184, 185, 187, 188, 189, 191, 192, 194, 195, 196, 198, 199, 201, 202, 203, 204, 205, 206, 207, 213, 214, 215, 216, 218, 219, 221, 222, 223, 231, 232, 234, 235, 237, 238, 239, 240, 242, 243, 245, 246, 247, 249, 250, 252, 253, 254, 255, 257, 258, 260, 261, 262, 264, 265, 267, 268, 269, 270, 271, 273, 274, 276, 277, 278, 280, 281, 283, 284, 285, 287, 288, 290, 291, 292, 293, 296, 297, 298, 300, 301, 303, 304, 305, 307, 308, 310, 311, 312, 314, 315, 317, 318, 319, 320, 321, 322, 323, 326, 328, 329, 331, 332, 333, 335, 336, 338, 339, 340, 342, 343, 345, 346, 347, 350, 351, 352, 354, 355, 357, 358, 359, 361, 362, 364, 365, 366, 368, 369, 371, 372, 373, 375, 376, 378, 379, 380, 383, 384, 385, 388, 389] (fun _ => by kernel_rfl) [294]
theorem lk1 (w : World) (os : OsState) : (staticsOk (importedModules pw.main.body) (hO w.params) (hF w.params) && namesBound pw (hF w.params) && gensDone ⟨hF w.params, ⟨[]⟩, {}, 924, os⟩ && laidKept (hO w.params) (hF w.params)) = true := by
  rw [PySem.W.Fast.te5923862056798008813]
  kernel_rfl
theorem lk2 (w : World) (os : OsState) : openSeen Mine.view LH (importedModules pw.main.body) (fun s => xlAt Mine.view [] s && recOk (RowW.records PySem.Challenge.rw_uq0033_01.row.toRowW) s) true ⟨hF w.params, ⟨[]⟩, {}, 924, os⟩ = openGood Mine.view LH := by
  rw [PySem.W.Fast.te4187177175401517315, PySem.W.Fast.te5923862056798008813]
  kernel_rfl
theorem lk3 (w : World) (os : OsState) : HK.obs ⟨hF w.params, ⟨[]⟩, {}, 924, os⟩ = HK.val w := by
  kernel_rfl
theorem left : LeftO pw Mine.view LH (fun s => xlAt Mine.view [] s && recOk (RowW.records PySem.Challenge.rw_uq0033_01.row.toRowW) s) HK.obs HK.val 4872 :=
  LeftO.of_pieces (open_cut imp0 (by rfl) fen0) siz0 run0 (by rfl) (fun w => funext fun os => looks_pair (lk1 w os) (looks_pair (lk2 w os) (lk3 w os)))
end Mine
end

section
open PySem PySem.W PyProof.Rows PySem.Calls PySem.Spec
set_option Elab.async false
set_option maxRecDepth 100000
set_option maxHeartbeats 8000000
set_option rowWalk.seconds 0
namespace Mine
/-- what the law's call is to show: True, all kept, the generators bare -/
def LawEnd (s₁ : Shared) (v : Value) (s' : Shared) : Prop :=
  v = .bool true ∧ (∀ b o, s₁.heap.get? b = some o → s'.heap.get? b = some o) ∧ s'.os = s₁.os ∧ AllBare s'.gens
theorem law_post {M : Model} {A : Around} {cd : Code} {s s₁ : Shared} {cw : ClaimW} {cl : Str → Option Addr} {mean : ExcName → Option Value} {args : List WData} (hr : ∀ x, cw.raises args x = false) (hp : cw.post args (.bool true) args = true)
    (h : codeAny M A cd (fun r s' => ∃ v, r = .ok (.ret v) ∧ LawEnd s₁ v s') s) : codeAny M A cd (GoodWG cw cl mean args s₁) s :=
  codeAny_mono h fun r s' ⟨f, hf, h1, hk, hos, hg⟩ => by
    subst hf h1
    exact ⟨.inl ⟨_, .bool true, [], rfl, hr, .bool _, hp, fun _ => ⟨List.nodup_nil, fun _ h => nomatch h⟩⟩, .of_keep hk, hos, hg⟩
theorem law_true (args : List WData) : PySem.Challenge.rw_uq0033_01.row.claim.post args (.bool true) args = true := by
  have h : ∀ (R : WRecords) (e : WCtx), e.res = some (.bool true) → (WShape.has R (.bool true) .bool && WTm.holds R (.eq .res (.lit (.bool true))) e) = true := fun R e he => by
    unfold WTm.holds
    rw [w_eq_bool (k := true) (l := true) (by simp [WTm.value, he]) (by simp [WTm.value])]
    simp [WShape.has, WShape.arms]
  exact h _ _ rfl
theorem loose_is : looseW Mine.view [Str.ofString "tspecials", Str.ofString "_name_disallowed_re", Str.ofString "_value_disallowed_re",
      Str.ofString "_formatparam", Str.ofString "_twin_re_1", Str.ofString "_namespace_map", Str.ofString "_looks_like_prefix_name", Str.ofString "C14NWriterTarget"] = LO := by decide +kernel
theorem top_is {mean : ExcName → Option Value} {mg mb : Str → Option Value} {h : Heap} (T : Top Mine.view (looseW Mine.view [Str.ofString "tspecials", Str.ofString "_name_disallowed_re", Str.ofString "_value_disallowed_re",
      Str.ofString "_formatparam", Str.ofString "_twin_re_1", Str.ofString "_namespace_map", Str.ofString "_looks_like_prefix_name", Str.ofString "C14NWriterTarget"]) mean mg mb h) : Top Mine.view LO mean mg mb h := loose_is ▸ T
theorem tups_sz {vs : Array Value} {lvs : List LvS} {tups : List (Addr × Obj)} (h : TupsAre vs lvs tups) (h2 : 2 ≤ lvs.length ∧ lvs.length ≤ 3) : 2 ≤ vs.size ∧ vs.size ≤ 3 := by rw [h.1]; exact h2
theorem law_holds : PySem.Challenge.rw_uq0033_01.Holds := Mine.hd ⟨Mine.left, by
  w_top off
  k_with_none
  (k_with "call ref" => ((with_reducible show wpAny _ _ (call (Value.ref 351) _) _ _ _); k_here; k_dflt (refine levels_C _ _ _ _ _ _ _ _ _ _ _ _ _ _ _ _ _ _ _ _ _ _ _ _ _ (by k_asm) (by k_asm) (by k_asm) (by k_asm) (by k_asm) rfl (by k_asm) (by assumption) (by omega) (by ktr_room) (by ktr_units) ?_); intro T' D' vs' k' inner' t' lvs' tups' h' tk' hin' hlen' hok' htups' F' N'; (have hz9 := tups_sz htups' hlen'); (obtain ⟨hz8, hz9⟩ := hz9); (try dsimp only)))
  (k_with "call builtin:len" => ((with_reducible show wpAny _ _ (call (Value.builtin "len") [Value.ref _]) _ _ _); k_here; k_dflt (refine len_list (News.isList (by k_asm) (by k_mem)) (by omega) ?_)))
  (k_with "exec For Name Call cons nil" => ((with_reducible show wpAny _ _ (exec (Stmt.For (Expr.Name _ _) (Expr.Call _ _ _ _) _ [] _) _) _ _ _); k_here; (rename Fr _ _ _ _ => lF'); k_dflt (with_unfolding_all refine For_stopG lF' (by rfl) (by rfl) (by rfl) ?_)))
  (k_with "subscriptTail" => ((with_reducible show wpAny _ _ (subscriptTail _ _ (Value.ref _) (Value.int _ _)) _ _ _); k_here; k_dflt (refine item_sub (by assumption) (by omega) (by omega) (by assumption) ?_)))
  (k_with "call ref" => ((with_reducible show wpAny _ _ (call (Value.ref 372) _) _ _ _); k_here; k_dflt (refine page_W (by k_asm) (by k_asm) (by k_asm) (by k_asm) (by k_asm) rfl (by assumption) (by ktr_room) (by ktr_units) ?_); intro t9 h9 tk9 F9 N9; (try dsimp only)))
  (k_with "call ref" => ((with_reducible show wpAny _ _ (call (Value.ref 379) _) _ _ _); k_here; k_dflt (refine frame_W (by k_asm) (by k_asm) (by k_asm) (by k_asm) (by k_asm) rfl (by assumption) (by ktr_room) (by ktr_units) ?_); intro t9 h9 tk9 F9 N9; (try dsimp only)))
  (k_with "call ref" => ((with_reducible show wpAny _ _ (call (Value.ref 365) _) _ _ _); k_here; k_dflt (refine told_W (by k_asm) (by k_asm) (by k_asm) (by k_asm) (by k_asm) rfl (by assumption) (by omega) (by k_mem) (by assumption) (fun p hp => by repeat (first | exact List.mem_append_left _ hp | refine List.Mem.tail _ ?_)) (by assumption) (by assumption) (by assumption) (by assumption) (by ktr_room) (by ktr_units) ?_); intro t9 h9 tk9 hl9 F9 N9; (try dsimp only)))
  (k_with "call ref" => ((with_reducible show wpAny _ _ (call (Value.ref 52) _) _ _ _); k_here; k_dflt (refine strip_W (by k_asm) (by k_asm) (by k_asm) (by k_asm) (by k_asm) rfl (by first | assumption | exact fun z => z) (by assumption) (by assumption) (by ktr_room) (by ktr_units) ?_); intro t9 h9 tk9 g9 hg9 F9 N9; (try dsimp only)))
  (k_with "call ref" => ((with_reducible show wpAny _ _ (call (Value.ref 59) _) _ _ _); k_here; k_dflt (refine check_W (by k_asm) (by k_asm) (by k_asm) (by k_asm) (by k_asm) rfl (by first | assumption | exact fun z => z) (by assumption) (by assumption) (by ktr_room) (by ktr_units) ?_); intro h9 tk9 g9 hg9 F9 N9; (try dsimp only)))
  (k_with "call ref" => ((with_reducible show wpAny _ _ (call (Value.ref 384) _) _ _ _); k_here; k_dflt (refine peel_W (by k_asm) (by k_asm) (by k_asm) (by k_asm) (by k_asm) rfl (by first | assumption | exact fun z => z) (by assumption) (by assumption) (by ktr_room) (by ktr_units) (by first | assumption | omega | (dsimp only; omega)) ?_); intro D9 v9 n9 h9 tk9 g9 hg9 hs9 hn9 F9 N9; (try dsimp only)))
  (k_with "compareOp NotEq str str" => (k_here; k_dflt (with_reducible refine ne_self ?_)))
  (k_with "compareOp IsNot bool bool" => (k_here; k_dflt (with_reducible refine isnot_self ?_)))
  (k_with "eval ListComp" => (k_here; refine stopE ?_))
  (k_with "execs cons" => (refine execs_consP (by first | assumption | omega | (dsimp only; omega) | (dsimp only; assumption)) ?_; (try dsimp only)))
  (k_with "execs cons" => ((fail_if_success (fail_if_success k_gentoks)); k_here; (refine gen_toks (by first | assumption | omega) ?_); intro tk9 hPos9))
  (k_with "execs nil" => ((fail_if_success (fail_if_success k_gentoks)); k_here; (refine gen_toks (by first | assumption | omega) ?_); intro tk9 hPos9))
  (k_with "compareOp NotEq ref ref" => ((with_reducible show wpAny _ _ (compareOp CmpOp.NotEq (Value.ref _) (Value.ref _)) _ _ _); k_here; k_dflt (refine ne_strs (by k_asm) (by k_mem) (by k_mem) (by assumption) (by assumption) (by assumption) (by ktr_units) ?_)))
  k_fill
  intro w s₀ s₁ mg mb G Y fa o pm cd doc dV kV ho hd hcd hD hmg hg args vals as hpre hlay hrd hwl hlo
  have KX := km_in_of Y
  have X := (Ground.X G).1
  have V := (Ground.X G).2
  refine Ground.open G ?_
  intro T B D TE TW
  try (refine guard_noD D (by decide +kernel) ?_; clear D)
  obtain ⟨_, _, he, B0⟩ := based_of_top T rfl hmg ho hd
  have he' : cd = _ := he
  subst he'
  clear he
  clear hmg
  wrow_args hpre hlay hrd hwl hlo
  first | refine callC_kw (enter_call ?_) | refine enter_call ?_
  w_top on
  refine law_post (fun _ => rfl) (law_true _) ?_
  have K0 := below_caller (Top.heap T)
  have T0 := top_is T
  w_call any ho hd hcd hD T F
  clear hd
  k_drop
  k_steps
  refine stopQ ?_
  dsimp only
  rename Fr _ _ _ _ => F8
  rename News _ _ _ _ => N8
  rename IsRange _ _ _ _ _ _ _ _ => R8
  rename TupsAre _ _ _ => ht8
  rename (∀ lv, lv ∈ _ → LvOk lv) => hok8
  rename (Str.length _ ≤ 6 ∧ _) => hin8
  refine rangeG_loop (LawJ _ _ _ _ _) R8 (small_13 (by omega) (by omega)) (range_n _) F8 N8 (lawJ_0 ht8 rfl rfl rfl) ?_ ?_
  · rintro I i t m₁ _ h g tk9 ito hi htk hgT hnI ⟨rfl, B, tb, hB, hq⟩ F N
    rw [← kstB_self hq] at F
    clear F8 N8 R8
    obtain ⟨lv, hlv, T9, u1, u2, u3, u4, hv, hTm⟩ := tups_get ht8 hi
    have hIL := News.isList N (.tail _ (.tail _ (.head _)))
    have hIT : IsTup h T9 _ := News.isTup N (.tail _ (.tail _ (.tail _ (List.mem_append_left _ hTm))))
    have hei : ((1 : Int) + (i : Int) - 1).toNat = i := by omega
    rw [← hei] at hv
    have hi2 : i ≤ 2 := by omega
    have hf := turn_facts hlv hi2 hok8 hin8 hB.get
    have hlo := hok8 lv (List.mem_of_getElem? hlv)
    rcases hlo.sd with hside | hside
    · rw [hside] at hf hIT
      rw [show ((0 : Int) == 1) = false from rfl] at hf
      simp only [Bool.false_eq_true, if_false] at hf
      obtain ⟨P, S, ts, ht⟩ := hf
      clear hlo
      refine stop_in ?_
      k_steps
      refine stopQ ?_
      rename Fr _ _ _ _ => F7
      rename News _ _ _ _ => N7
      have htx := ht.txt
      refine comp_tup (q := fun x => x != Str.ofString "") rfl (by with_unfolding_all rfl) (by decide) (by rfl) (by decide) (by rfl) (fun _ => rfl) rfl (by rfl) (by rfl) (by rfl) (by rfl) (by decide +kernel) (by decide +kernel) (by decide +kernel) (fun C s₃ m₃ E' a t hn hm => test_ne (env := compEnvC _ _ C _) (by rfl) (by rfl) hn hm (by decide +kernel) ⟨rfl, _, _, rfl, fun _ _ e => e⟩) F7 N7 ?_
      intro D8 ys8 n8 h8 tk8 hs8 hne8 F8 N8
      replace hs8 := strs_to ht.filt hs8
      clear F7 N7 hne8
      dsimp only
      k_steps
      rename Fr _ _ _ _ => F8
      rename News _ _ _ _ => N8
      exact law_end F8 N8 (by assumption) hg hnI ht rfl rfl rfl
    · rw [hside] at hf hIT
      simp only [beq_self_eq_true, if_true] at hf
      obtain ⟨P, S, ts, ht⟩ := hf
      clear hlo
      refine stop_in ?_
      k_steps
      refine stopQ ?_
      rename Fr _ _ _ _ => F7
      rename News _ _ _ _ => N7
      have htx := ht.txt
      refine comp_tup (q := fun x => x != Str.ofString "") rfl (by with_unfolding_all rfl) (by decide) (by rfl) (by decide) (by rfl) (fun _ => rfl) rfl (by rfl) (by rfl) (by rfl) (by rfl) (by decide +kernel) (by decide +kernel) (by decide +kernel) (fun C s₃ m₃ E' a t hn hm => test_ne (env := compEnvC _ _ C _) (by rfl) (by rfl) hn hm (by decide +kernel) ⟨rfl, _, _, rfl, fun _ _ e => e⟩) F7 N7 ?_
      intro D8 ys8 n8 h8 tk8 hs8 hne8 F8 N8
      replace hs8 := strs_to ht.filt hs8
      clear F7 N7 hne8
      dsimp only
      k_steps
      rename Fr _ _ _ _ => F8
      rename News _ _ _ _ => N8
      exact law_end F8 N8 (by assumption) hg hnI ht rfl rfl rfl
  · rintro m₁ _ h g tk9 hgT ⟨rfl, B, tb, hB, hq⟩ F N
    clear F8 N8 R8
    dsimp only
    k_steps
    exact ⟨rfl, fun b o e => F.keep b o e, rfl, hgT (.of_eq hg)⟩⟩
end Mine
end

set_option maxRecDepth 100000 in
theorem PySem.Challenge.cw_uq0033_01_holds : PySem.Challenge.rw_uq0033_01.Holds :=
  Mine.law_holds
