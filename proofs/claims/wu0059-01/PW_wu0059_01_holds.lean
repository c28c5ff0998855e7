import PyProof.Rows.All
import Wide.All
import OpenK.AllK
import Wide.FinOn
import Lean
import PySem.Challenge.RW_wu0059_01
open PySem PySem.W PyProof.Rows PySem.Calls
set_option Elab.async false
set_option maxRecDepth 100000
set_option linter.unusedVariables false
set_option maxHeartbeats 8000000
namespace Mine
section
local macro_rules
  | `(tactic| refine $h:ident (q := $q) (loose := $l) (Xt := $xt) (XP := $xp) (Yf := $_ ($_ $k $as $_)) (Ya := $_) (YP := $_) (N := $n) $hl $_ $_ $a $b $c $d $e $f $g $i $j $m $hw $hc) =>
    `(tactic| (refine' holds_openX (q := $q) (loose := $l) (Xt := $xt) (XP := $xp) (Yf := PySem.W.X.obsZ $as) (Ya := PySem.W.X.valZ $k 177 449) (N := $n) $hl $a $b $c $d $e $f $g $i $j $m $hw $hc; (case' hl => unfold LeftO)))
open_top hd for PySem.Challenge.rw_wu0059_01
end
theorem andI {G C : Prop} (h : C) (k : C → G) : G := k h
theorem ex1 {G : Prop} {α0 : Type} {p : α0 → Prop} (h : ∃ x0, p x0) (k : ∀ x0, p x0 → G) : G := h.elim fun x0 h => k x0 h
theorem ex2 {G : Prop} {α0 α1 : Type} {p : α0 → α1 → Prop} (h : ∃ x0 x1, p x0 x1) (k : ∀ x0 x1, p x0 x1 → G) : G := h.elim fun x0 h => h.elim fun x1 h => k x0 x1 h
theorem ex3 {G : Prop} {α0 α1 α2 : Type} {p : α0 → α1 → α2 → Prop} (h : ∃ x0 x1 x2, p x0 x1 x2) (k : ∀ x0 x1 x2, p x0 x1 x2 → G) : G := h.elim fun x0 h => h.elim fun x1 h => h.elim fun x2 h => k x0 x1 x2 h
theorem ex4 {G : Prop} {α0 α1 α2 α3 : Type} {p : α0 → α1 → α2 → α3 → Prop} (h : ∃ x0 x1 x2 x3, p x0 x1 x2 x3) (k : ∀ x0 x1 x2 x3, p x0 x1 x2 x3 → G) : G := h.elim fun x0 h => h.elim fun x1 h => h.elim fun x2 h => h.elim fun x3 h => k x0 x1 x2 x3 h
theorem ex5 {G : Prop} {α0 α1 α2 α3 α4 : Type} {p : α0 → α1 → α2 → α3 → α4 → Prop} (h : ∃ x0 x1 x2 x3 x4, p x0 x1 x2 x3 x4) (k : ∀ x0 x1 x2 x3 x4, p x0 x1 x2 x3 x4 → G) : G := h.elim fun x0 h => h.elim fun x1 h => h.elim fun x2 h => h.elim fun x3 h => h.elim fun x4 h => k x0 x1 x2 x3 x4 h
theorem ex6 {G : Prop} {α0 α1 α2 α3 α4 α5 : Type} {p : α0 → α1 → α2 → α3 → α4 → α5 → Prop} (h : ∃ x0 x1 x2 x3 x4 x5, p x0 x1 x2 x3 x4 x5) (k : ∀ x0 x1 x2 x3 x4 x5, p x0 x1 x2 x3 x4 x5 → G) : G := h.elim fun x0 h => h.elim fun x1 h => h.elim fun x2 h => h.elim fun x3 h => h.elim fun x4 h => h.elim fun x5 h => k x0 x1 x2 x3 x4 x5 h
theorem ex7 {G : Prop} {α0 α1 α2 α3 α4 α5 α6 : Type} {p : α0 → α1 → α2 → α3 → α4 → α5 → α6 → Prop} (h : ∃ x0 x1 x2 x3 x4 x5 x6, p x0 x1 x2 x3 x4 x5 x6) (k : ∀ x0 x1 x2 x3 x4 x5 x6, p x0 x1 x2 x3 x4 x5 x6 → G) : G := h.elim fun x0 h => h.elim fun x1 h => h.elim fun x2 h => h.elim fun x3 h => h.elim fun x4 h => h.elim fun x5 h => h.elim fun x6 h => k x0 x1 x2 x3 x4 x5 x6 h
theorem ex8 {G : Prop} {α0 α1 α2 α3 α4 α5 α6 α7 : Type} {p : α0 → α1 → α2 → α3 → α4 → α5 → α6 → α7 → Prop} (h : ∃ x0 x1 x2 x3 x4 x5 x6 x7, p x0 x1 x2 x3 x4 x5 x6 x7) (k : ∀ x0 x1 x2 x3 x4 x5 x6 x7, p x0 x1 x2 x3 x4 x5 x6 x7 → G) : G := h.elim fun x0 h => h.elim fun x1 h => h.elim fun x2 h => h.elim fun x3 h => h.elim fun x4 h => h.elim fun x5 h => h.elim fun x6 h => h.elim fun x7 h => k x0 x1 x2 x3 x4 x5 x6 x7 h
theorem ex9 {G : Prop} {α0 α1 α2 α3 α4 α5 α6 α7 α8 : Type} {p : α0 → α1 → α2 → α3 → α4 → α5 → α6 → α7 → α8 → Prop} (h : ∃ x0 x1 x2 x3 x4 x5 x6 x7 x8, p x0 x1 x2 x3 x4 x5 x6 x7 x8) (k : ∀ x0 x1 x2 x3 x4 x5 x6 x7 x8, p x0 x1 x2 x3 x4 x5 x6 x7 x8 → G) : G := h.elim fun x0 h => h.elim fun x1 h => h.elim fun x2 h => h.elim fun x3 h => h.elim fun x4 h => h.elim fun x5 h => h.elim fun x6 h => h.elim fun x7 h => h.elim fun x8 h => k x0 x1 x2 x3 x4 x5 x6 x7 x8 h
theorem ex10 {G : Prop} {α0 α1 α2 α3 α4 α5 α6 α7 α8 α9 : Type} {p : α0 → α1 → α2 → α3 → α4 → α5 → α6 → α7 → α8 → α9 → Prop} (h : ∃ x0 x1 x2 x3 x4 x5 x6 x7 x8 x9, p x0 x1 x2 x3 x4 x5 x6 x7 x8 x9) (k : ∀ x0 x1 x2 x3 x4 x5 x6 x7 x8 x9, p x0 x1 x2 x3 x4 x5 x6 x7 x8 x9 → G) : G := h.elim fun x0 h => h.elim fun x1 h => h.elim fun x2 h => h.elim fun x3 h => h.elim fun x4 h => h.elim fun x5 h => h.elim fun x6 h => h.elim fun x7 h => h.elim fun x8 h => h.elim fun x9 h => k x0 x1 x2 x3 x4 x5 x6 x7 x8 x9 h
theorem and2 {G p0 p1 : Prop} (k : p0 → p1 → G) (h : p0 ∧ p1) : G := k h.1 h.2
theorem and3 {G p0 p1 p2 : Prop} (k : p0 → p1 → p2 → G) (h : p0 ∧ p1 ∧ p2) : G := k h.1 h.2.1 h.2.2
theorem and4 {G p0 p1 p2 p3 : Prop} (k : p0 → p1 → p2 → p3 → G) (h : p0 ∧ p1 ∧ p2 ∧ p3) : G := k h.1 h.2.1 h.2.2.1 h.2.2.2
theorem and5 {G p0 p1 p2 p3 p4 : Prop} (k : p0 → p1 → p2 → p3 → p4 → G) (h : p0 ∧ p1 ∧ p2 ∧ p3 ∧ p4) : G := k h.1 h.2.1 h.2.2.1 h.2.2.2.1 h.2.2.2.2
theorem and6 {G p0 p1 p2 p3 p4 p5 : Prop} (k : p0 → p1 → p2 → p3 → p4 → p5 → G) (h : p0 ∧ p1 ∧ p2 ∧ p3 ∧ p4 ∧ p5) : G := k h.1 h.2.1 h.2.2.1 h.2.2.2.1 h.2.2.2.2.1 h.2.2.2.2.2
theorem and7 {G p0 p1 p2 p3 p4 p5 p6 : Prop} (k : p0 → p1 → p2 → p3 → p4 → p5 → p6 → G) (h : p0 ∧ p1 ∧ p2 ∧ p3 ∧ p4 ∧ p5 ∧ p6) : G := k h.1 h.2.1 h.2.2.1 h.2.2.2.1 h.2.2.2.2.1 h.2.2.2.2.2.1 h.2.2.2.2.2.2
theorem and8 {G p0 p1 p2 p3 p4 p5 p6 p7 : Prop} (k : p0 → p1 → p2 → p3 → p4 → p5 → p6 → p7 → G) (h : p0 ∧ p1 ∧ p2 ∧ p3 ∧ p4 ∧ p5 ∧ p6 ∧ p7) : G := k h.1 h.2.1 h.2.2.1 h.2.2.2.1 h.2.2.2.2.1 h.2.2.2.2.2.1 h.2.2.2.2.2.2.1 h.2.2.2.2.2.2.2
theorem and9 {G p0 p1 p2 p3 p4 p5 p6 p7 p8 : Prop} (k : p0 → p1 → p2 → p3 → p4 → p5 → p6 → p7 → p8 → G) (h : p0 ∧ p1 ∧ p2 ∧ p3 ∧ p4 ∧ p5 ∧ p6 ∧ p7 ∧ p8) : G := k h.1 h.2.1 h.2.2.1 h.2.2.2.1 h.2.2.2.2.1 h.2.2.2.2.2.1 h.2.2.2.2.2.2.1 h.2.2.2.2.2.2.2.1 h.2.2.2.2.2.2.2.2
theorem and11 {G p0 p1 p2 p3 p4 p5 p6 p7 p8 p9 p10 : Prop} (k : p0 → p1 → p2 → p3 → p4 → p5 → p6 → p7 → p8 → p9 → p10 → G) (h : p0 ∧ p1 ∧ p2 ∧ p3 ∧ p4 ∧ p5 ∧ p6 ∧ p7 ∧ p8 ∧ p9 ∧ p10) : G := k h.1 h.2.1 h.2.2.1 h.2.2.2.1 h.2.2.2.2.1 h.2.2.2.2.2.1 h.2.2.2.2.2.2.1 h.2.2.2.2.2.2.2.1 h.2.2.2.2.2.2.2.2.1 h.2.2.2.2.2.2.2.2.2.1 h.2.2.2.2.2.2.2.2.2.2
theorem and12 {G p0 p1 p2 p3 p4 p5 p6 p7 p8 p9 p10 p11 : Prop} (k : p0 → p1 → p2 → p3 → p4 → p5 → p6 → p7 → p8 → p9 → p10 → p11 → G) (h : p0 ∧ p1 ∧ p2 ∧ p3 ∧ p4 ∧ p5 ∧ p6 ∧ p7 ∧ p8 ∧ p9 ∧ p10 ∧ p11) : G := k h.1 h.2.1 h.2.2.1 h.2.2.2.1 h.2.2.2.2.1 h.2.2.2.2.2.1 h.2.2.2.2.2.2.1 h.2.2.2.2.2.2.2.1 h.2.2.2.2.2.2.2.2.1 h.2.2.2.2.2.2.2.2.2.1 h.2.2.2.2.2.2.2.2.2.2.1 h.2.2.2.2.2.2.2.2.2.2.2
theorem and13 {G p0 p1 p2 p3 p4 p5 p6 p7 p8 p9 p10 p11 p12 : Prop} (k : p0 → p1 → p2 → p3 → p4 → p5 → p6 → p7 → p8 → p9 → p10 → p11 → p12 → G) (h : p0 ∧ p1 ∧ p2 ∧ p3 ∧ p4 ∧ p5 ∧ p6 ∧ p7 ∧ p8 ∧ p9 ∧ p10 ∧ p11 ∧ p12) : G := k h.1 h.2.1 h.2.2.1 h.2.2.2.1 h.2.2.2.2.1 h.2.2.2.2.2.1 h.2.2.2.2.2.2.1 h.2.2.2.2.2.2.2.1 h.2.2.2.2.2.2.2.2.1 h.2.2.2.2.2.2.2.2.2.1 h.2.2.2.2.2.2.2.2.2.2.1 h.2.2.2.2.2.2.2.2.2.2.2.1 h.2.2.2.2.2.2.2.2.2.2.2.2
theorem and15 {G p0 p1 p2 p3 p4 p5 p6 p7 p8 p9 p10 p11 p12 p13 p14 : Prop} (k : p0 → p1 → p2 → p3 → p4 → p5 → p6 → p7 → p8 → p9 → p10 → p11 → p12 → p13 → p14 → G) (h : p0 ∧ p1 ∧ p2 ∧ p3 ∧ p4 ∧ p5 ∧ p6 ∧ p7 ∧ p8 ∧ p9 ∧ p10 ∧ p11 ∧ p12 ∧ p13 ∧ p14) : G := k h.1 h.2.1 h.2.2.1 h.2.2.2.1 h.2.2.2.2.1 h.2.2.2.2.2.1 h.2.2.2.2.2.2.1 h.2.2.2.2.2.2.2.1 h.2.2.2.2.2.2.2.2.1 h.2.2.2.2.2.2.2.2.2.1 h.2.2.2.2.2.2.2.2.2.2.1 h.2.2.2.2.2.2.2.2.2.2.2.1 h.2.2.2.2.2.2.2.2.2.2.2.2.1 h.2.2.2.2.2.2.2.2.2.2.2.2.2.1 h.2.2.2.2.2.2.2.2.2.2.2.2.2.2
theorem and16 {G p0 p1 p2 p3 p4 p5 p6 p7 p8 p9 p10 p11 p12 p13 p14 p15 : Prop} (k : p0 → p1 → p2 → p3 → p4 → p5 → p6 → p7 → p8 → p9 → p10 → p11 → p12 → p13 → p14 → p15 → G) (h : p0 ∧ p1 ∧ p2 ∧ p3 ∧ p4 ∧ p5 ∧ p6 ∧ p7 ∧ p8 ∧ p9 ∧ p10 ∧ p11 ∧ p12 ∧ p13 ∧ p14 ∧ p15) : G := k h.1 h.2.1 h.2.2.1 h.2.2.2.1 h.2.2.2.2.1 h.2.2.2.2.2.1 h.2.2.2.2.2.2.1 h.2.2.2.2.2.2.2.1 h.2.2.2.2.2.2.2.2.1 h.2.2.2.2.2.2.2.2.2.1 h.2.2.2.2.2.2.2.2.2.2.1 h.2.2.2.2.2.2.2.2.2.2.2.1 h.2.2.2.2.2.2.2.2.2.2.2.2.1 h.2.2.2.2.2.2.2.2.2.2.2.2.2.1 h.2.2.2.2.2.2.2.2.2.2.2.2.2.2.1 h.2.2.2.2.2.2.2.2.2.2.2.2.2.2.2

/-- what the top left -/
structure Gd (w : World) (h : Heap) : Prop where
  X : (hd.heap_39 w.params).In h
  T : ∃ p loose mean mg mb, Top p loose mean mg mb h

theorem Gd.keeps {w : World} {h h' : Heap} (G : Gd w h) (k : ∀ b o, h.get? b = some o → h'.get? b = some o) : Gd w h' :=
  ⟨G.X.keeps k, let ⟨p, l, m, mg, mb, T⟩ := G.T; ⟨p, l, m, mg, mb, T.keeps k⟩⟩

/-- all but the objects at l stand as they stood -/
noncomputable def Kb (l : List Addr) (h h' : Heap) : Prop := ∀ b o, b ∉ l → h.get? b = some o → h'.get? b = some o

theorem enter {prog : Program} {w : World} {A : Around} {E : Value → Shared → Prop} {s : Shared} {Q : Value → Shared → Prop}
    {name qual : Str} {params : Arguments} {body : List Stmt} {scope : Scope} {dV kV doc pm cdv ct oc : Value} {an od : Option Addr} {osl : Array (Option Value)} {f : Addr} {pos : List Value} {kw : List (Str × Value)} (binds : List (Str × Value))
    (G : Gd w s.heap) (hroom : A.depth < recursionLimit)
    (ho : (hd.heap_39 w.params).lookup f = some ⟨oc, od, .func (fnOf name qual params body scope dV kV doc pm an cdv ct), osl⟩)
    (hcd : codeIn (hd.heap_39 w.params) cdv qual = true)
    (hbind : BindsTo s (fnOf name qual params body scope dV kV doc pm an cdv ct) ⟨pos, kw⟩ binds)
    (hloc : ∀ y ∈ binds, scope.names.lookup y.1 = some .local)
    (hcell : ∀ x ∈ scope.names, x.2 ≠ .cell)
    (hco : scope.isCoroutine = false) (hgen : scope.isGenerator = false) (hk : scope.kind = .function)
    (h : ∀ L h₁ tk, Fr s.heap L h₁ (fun y => binds.reverse.lookup y) → News s.heap L h₁ [] → (hd.heap_39 w.params).In s.heap →
      wpAny (model prog w) (A.deeper (envOf qual scope L f cdv)) (execs body (envOf qual scope L f cdv))
        (fun fl s' => Q (match fl with | .ret v => v | _ => .none) s') (fun _ _ => False)
        { s with heap := h₁, toks := tk }) :
    wpAny (model prog w) A (call (.ref f) pos kw) Q E s := by
  have hZqq := G.T
  refine ex5 hZqq ?_; (try clear hZqq); intro p l m mg mb; intro T
  refine wpAny_call (codeAny_call_def (fd := fnOf name qual params body scope dV kV doc pm an cdv ct) (body := body) (binds := binds) hroom (G.X _ _ ho) rfl T.nolimit (codeRec_of G.X hcd) rfl hbind hcell hloc (fun h₁ hns hk₁ => ?_) hco hgen hk)
  exact wpAny_mono (h s.heap.objs.size h₁ _ ⟨hns, hk₁, Nat.le_refl _⟩ News.nil G.X) (fun fl s' hl => hl) fun _ _ y => y.elim

/-- into a def that changes objects of its caller's: those of mods are the ledger's -/
theorem enterM {prog : Program} {w : World} {A : Around} {E : Value → Shared → Prop} {s : Shared} {Q : Value → Shared → Prop} {base : Heap}
    {name qual : Str} {params : Arguments} {body : List Stmt} {scope : Scope} {dV kV doc pm cdv ct oc : Value} {an od : Option Addr} {osl : Array (Option Value)} {f : Addr} {pos : List Value} {kw : List (Str × Value)} (binds : List (Str × Value))
    (G : Gd w base) (hb : ∀ b o, base.get? b = some o → s.heap.get? b = some o) (mods : List (Addr × Obj)) (hm : ∀ p ∈ mods, s.heap.get? p.1 = some p.2 ∧ base.get? p.1 = none)
    (hroom : A.depth < recursionLimit)
    (ho : (hd.heap_39 w.params).lookup f = some ⟨oc, od, .func (fnOf name qual params body scope dV kV doc pm an cdv ct), osl⟩)
    (hcd : codeIn (hd.heap_39 w.params) cdv qual = true)
    (hbind : BindsTo s (fnOf name qual params body scope dV kV doc pm an cdv ct) ⟨pos, kw⟩ binds)
    (hloc : ∀ y ∈ binds, scope.names.lookup y.1 = some .local)
    (hcell : ∀ x ∈ scope.names, x.2 ≠ .cell)
    (hco : scope.isCoroutine = false) (hgen : scope.isGenerator = false) (hk : scope.kind = .function)
    (h : ∀ g L h₁ tk, Fr g L h₁ (fun y => binds.reverse.lookup y) → News g L h₁ mods → Gd w g → (hd.heap_39 w.params).In g → (∀ b o, b ∉ mods.map (·.1) → s.heap.get? b = some o → g.get? b = some o) →
      wpAny (model prog w) (A.deeper (envOf qual scope L f cdv)) (execs body (envOf qual scope L f cdv))
        (fun fl s' => Q (match fl with | .ret v => v | _ => .none) s') (fun _ _ => False)
        { s with heap := h₁, toks := tk }) :
    wpAny (model prog w) A (call (.ref f) pos kw) Q E s := by
  have Gs := G.keeps hb
  have hZqq := Gs.T
  refine ex5 hZqq ?_; (try clear hZqq); intro p l m mg mb; intro T
  refine wpAny_call (codeAny_call_def (fd := fnOf name qual params body scope dV kV doc pm an cdv ct) (body := body) (binds := binds) hroom (Gs.X _ _ ho) rfl T.nolimit (codeRec_of Gs.X hcd) rfl hbind hcell hloc (fun h₁ hns hk₁ => ?_) hco hgen hk)
  have Gg : Gd w (hideAll s.heap (mods.map (·.1))) := G.keeps fun b o e => hideAll_get _ (hb b o e) fun q => by
    have hZqq := List.mem_map.mp q
    refine ex1 hZqq ?_; (try clear hZqq); intro p; refine and2 ?_; intro hp yZq2x2
    obtain rfl := yZq2x2
    rw [(hm p hp).2] at e; cases e
  refine wpAny_mono (h (hideAll s.heap (mods.map (·.1))) s.heap.objs.size h₁ _ ⟨hns, fun b o e => hk₁ b o (of_hideAll _ e), Nat.le_of_eq (hideAll_size _ _)⟩
    (fun p hp => ⟨hk₁ _ _ (hm p hp).1, Nat.ne_of_lt (Heap.lt_size (hm p hp).1), hideAll_none _ (List.mem_map_of_mem hp)⟩) Gg Gg.X (fun b o hn e => hideAll_get _ e hn)) (fun fl s' hl => hl) fun _ _ y => y.elim

theorem enterC {prog : Program} {w : World} {A : Around} {E : Value → Shared → Prop} {s : Shared} {Q : Value → Shared → Prop}
    {name qual : Str} {params : Arguments} {body : List Stmt} {scope : Scope} {dV kV doc pm cdv ct oc : Value} {an od : Option Addr} {osl : Array (Option Value)} {f : Addr} {pos : List Value} {kw : List (Str × Value)} (binds : List (Str × Value))
    (G : Gd w s.heap) (hroom : A.depth < recursionLimit)
    (ho : (hd.heap_39 w.params).lookup f = some ⟨oc, od, .func (fnOf name qual params body scope dV kV doc pm an cdv ct), osl⟩)
    (hcd : codeIn (hd.heap_39 w.params) cdv qual = true)
    (hbind : BindsTo s (fnOf name qual params body scope dV kV doc pm an cdv ct) ⟨pos, kw⟩ binds)
    (hkind : (binds.all fun y => scope.names.lookup y.1 == some .local || scope.names.lookup y.1 == some .cell) = true)
    (hnd : ((cellsFrom 0 scope.names []).map (·.1)).Nodup)
    (hco : scope.isCoroutine = false) (hgen : scope.isGenerator = false) (hk : scope.kind = .function)
    (h : ∀ L h₁ tk cells, Fr s.heap L h₁ (bindL (envOfC qual scope L f cdv).kindOf binds fun _ => none) → News s.heap L h₁ cells →
      CellsAre (bindC (envOfC qual scope L f cdv).kindOf binds fun _ => none) (cellsFrom (L + 1) scope.names []) cells → (hd.heap_39 w.params).In s.heap →
      wpAny (model prog w) (A.deeper (envOfC qual scope L f cdv)) (execs body (envOfC qual scope L f cdv))
        (fun fl s' => Q (match fl with | .ret v => v | _ => .none) s') (fun _ _ => False)
        { s with heap := h₁, toks := tk }) :
    wpAny (model prog w) A (call (.ref f) pos kw) Q E s := by
  have hZqq := G.T
  refine ex5 hZqq ?_; (try clear hZqq); intro p l m mg mb; intro T
  refine wpAny_call (codeAny_call_function (fd := fnOf name qual params body scope dV kV doc pm an cdv ct) (body := body) hroom (G.X _ _ ho) rfl hco hgen rfl (codeRec_of G.X hcd) (hbind _ _ _ _ ?_))
  refine wpAny_newFunctionEnv_cells hk (kindsX hkind _) fun env' he s' x => ?_
  subst he
  refine ⟨T.nolimit.keeps x.toInCall.keep, codeAny_func ?_⟩
  have hZqq := x.done
  refine ex2 hZqq ?_; (try clear hZqq); intro h₁ tk; refine and2 ?_; intro yZq4x2 _
  obtain rfl := yZq4x2
  have hk₁ := x.toInCall.keep
  have hZqq := Cl.news (h₀ := s.heap) (Nat.le_refl _) fun n c hm => ⟨x.cell n c (lookup_of_mem_nodup (cellsFrom_names scope.names 0 (s.heap.objs.size + 1) [] [] rfl ▸ hnd) hm), x.above n c hm⟩
  refine ex1 hZqq ?_; (try clear hZqq); intro cells; refine and2 ?_; intro NC Y
  exact wpAny_mono (h s.heap.objs.size h₁ tk cells ⟨x.toInCall.ns, hk₁, Nat.le_refl _⟩ NC Y G.X) (fun fl s' hl => hl) fun _ _ y => y.elim

theorem Kb.refl (l : List Addr) (h : Heap) : Kb l h h := fun _ _ _ e => e
theorem Kb.trans {l : List Addr} {h h' h'' : Heap} (x : Kb l h h') (y : Kb l h' h'') : Kb l h h'' := fun b o hb e => y b o hb (x b o hb e)
theorem Kb.mono {l l' : List Addr} {h h' : Heap} (x : Kb l h h') (k : ∀ a ∈ l, a ∈ l') : Kb l' h h' := fun b o hb e => x b o (fun q => hb (k b q)) e
theorem Kb.all {h h' : Heap} (x : Kb [] h h') : ∀ b o, h.get? b = some o → h'.get? b = some o := fun b o e => x b o (by simp) e
theorem Kb.of {h h' : Heap} (l : List Addr) (x : ∀ b o, h.get? b = some o → h'.get? b = some o) : Kb l h h' := fun b o _ e => x b o e

/-- what a call hands on -/
noncomputable def Out (mods : List Addr) (s : Shared) (Q : Value → Shared → Prop) (P : Value → Heap → Prop) : Prop :=
  ∀ v h' tk', Kb mods s.heap h' → P v h' → Q v { s with heap := h', toks := tk' }

/-- room below: k calls deep -/
structure Rm (A : Around) (k : Nat) : Prop where
  h : A.handled = none
  d : A.depth + k < recursionLimit
  u : A.units + 4 * k + 8 < cLine
theorem Rm.deeper {A : Around} {k : Nat} (r : Rm A (k + 1)) (env : Env) : Rm (A.deeper env) k := by
  obtain ⟨h, d, u⟩ := r
  exact ⟨h, by rw [depth_deeper]; omega, by rw [Around.deeper_units]; omega⟩
theorem Rm.le {A : Around} {k j : Nat} (r : Rm A k) (h : j ≤ k) : Rm A j := by
  obtain ⟨a, d, u⟩ := r
  exact ⟨a, by omega, by omega⟩
theorem Rm.room {A : Around} {k : Nat} (r : Rm A k) : A.depth < recursionLimit := by have := r.d; omega
theorem Rm.units {A : Around} {k : Nat} (r : Rm A k) : A.units < cLine := by have := r.u; omega

theorem fr_kb {h₀ h h' : Heap} {L : Addr} {m : Str → Option Value} {l : List Addr} (F : Fr h₀ L h m) (k : Kb l h h') (hL : L ∉ l) (h0 : ∀ a ∈ l, h₀.get? a = none) : Fr h₀ L h' m := by
  obtain ⟨⟨o, es, ep, e, r⟩, kp, ab⟩ := F
  exact ⟨⟨o, es, ep, k _ _ hL e, r⟩, fun b o q => k b o (fun z => by rw [h0 b z] at q; cases q) (kp b o q), ab⟩
theorem news_kb {h₀ h h' : Heap} {L : Addr} {news : List (Addr × Obj)} {l : List Addr} (N : News h₀ L h news) (k : Kb l h h') (hn : ∀ p ∈ news, p.1 ∉ l) : News h₀ L h' news :=
  fun p hp => ⟨k _ _ (hn p hp) (N p hp).1, (N p hp).2⟩
theorem fr_kb0 {h₀ h h' : Heap} {L : Addr} {m : Str → Option Value} (F : Fr h₀ L h m) (k : Kb [] h h') : Fr h₀ L h' m := fr_kb F k (by simp) (by simp)
theorem news_kb0 {h₀ h h' : Heap} {L : Addr} {news : List (Addr × Obj)} (N : News h₀ L h news) (k : Kb [] h h') : News h₀ L h' news := news_kb N k (by simp)
theorem news_add {h₀ h : Heap} {L a : Addr} {o : Obj} {news : List (Addr × Obj)} (N : News h₀ L h news) (e : h.get? a = some o) (hL : a ≠ L) (h0 : h₀.get? a = none) : News h₀ L h ((a, o) :: news) := fun p hp => by
  rcases List.mem_cons.mp hp with rfl | q
  · exact ⟨e, hL, h0⟩
  · exact N p q
theorem allLt_mem {d : Addr} : ∀ {l : List (Addr × Obj)}, AllLt d l → ∀ p ∈ l, p.1 < d
  | [], _, _, hp => nomatch hp
  | x :: r, h, p, hp => by
    rcases List.mem_cons.mp hp with q | q
    · rw [q]; exact h.1
    · exact allLt_mem h.2 p q
/-- one object of the ledger changed by a call -/
theorem news_turn {h₀ h h' : Heap} {L a : Addr} {o o' : Obj} {pre post : List (Addr × Obj)} (N : News h₀ L h (pre ++ (a, o) :: post)) (k : Kb [a] h h') (e : h'.get? a = some o')
    (h1 : ∀ p ∈ pre, p.1 ≠ a) (h2 : ∀ p ∈ post, p.1 ≠ a) : News h₀ L h' (pre ++ (a, o') :: post) := fun p hp => by
  rcases List.mem_append.mp hp with q | q
  · exact ⟨k _ _ (by simpa using h1 p q) (N p (List.mem_append_left _ q)).1, (N p (List.mem_append_left _ q)).2⟩
  · rcases List.mem_cons.mp q with rfl | q
    · exact ⟨e, (N (a, o) (by simp)).2⟩
    · have m : p ∈ pre ++ (a, o) :: post := List.mem_append_right _ (.tail _ q)
      exact ⟨k _ _ (by simpa using h2 p q) (N p m).1, (N p m).2⟩
theorem news_rot {h₀ h : Heap} {L : Addr} {x y z : Addr × Obj} {r : List (Addr × Obj)} (N : News h₀ L h (x :: y :: z :: r)) : News h₀ L h (y :: z :: x :: r) := fun p hp => N p (by
  simp only [List.mem_cons] at hp ⊢
  rcases hp with h | h | h | h <;> simp [h])
theorem news_rot2 {h₀ h : Heap} {L : Addr} {x y z : Addr × Obj} (N : News h₀ L h (x :: y :: z :: [])) : News h₀ L h (y :: x :: z :: []) := fun p hp => N p (by
  simp only [List.mem_cons] at hp ⊢
  rcases hp with h | h | h | h <;> simp [h])
theorem fr_turn {h₀ h h' : Heap} {L a : Addr} {o : Obj} {m : Str → Option Value} {news : List (Addr × Obj)} (F : Fr h₀ L h m) (N : News h₀ L h news) (hm : (a, o) ∈ news) (k : Kb [a] h h') : Fr h₀ L h' m :=
  fr_kb F k (by simpa using Ne.symm (N _ hm).2.1) (by simpa using (N _ hm).2.2)
/-- the frame's map with one name written out -/
theorem fr_say {h₀ h : Heap} {L : Addr} {m : Str → Option Value} (F : Fr h₀ L h m) {x : Str} {v : Value} (e : m x = some v) : Fr h₀ L h (fun y => if y = x then some v else m y) := by
  have : (fun y => if y = x then some v else m y) = m := by
    funext y; by_cases q : y = x
    · rw [if_pos q, q, e]
    · rw [if_neg q]
  rw [this]; exact F

/-- what names hold -/
noncomputable def Has (m : Str → Option Value) : List (Str × Value) → Prop
  | [] => True
  | (x, v) :: r => m x = some v ∧ Has m r
theorem has_lookup {m : Str → Option Value} : ∀ {l : List (Str × Value)}, Has m l → ∀ y, (l.lookup y).or (m y) = m y
  | [], _, y => rfl
  | (x, v) :: r, h, y => by
    rw [List.lookup_cons]
    by_cases q : (y == x) = true
    · rw [q]; rw [beq_iff_eq.mp q, h.1]; rfl
    · rw [Bool.not_eq_true _ |>.mp q]; exact has_lookup h.2 y
theorem fr_has {h₀ h : Heap} {L : Addr} {m : Str → Option Value} {l : List (Str × Value)} (F : Fr h₀ L h m) (e : Has m l) : Fr h₀ L h (fun y => (l.lookup y).or (m y)) := by
  have : (fun y => (l.lookup y).or (m y)) = m := funext fun y => has_lookup e y
  rw [this]; exact F

section
variable {prog : Program} {w : World} {A : Around} {E : Value → Shared → Prop} {s : Shared} {env : Env}
/-- a goal that no line opens -/
noncomputable def Hold (P : Prop) : Prop := P
/-- a while by a measure: nothing raises within -/
theorem r_while {test : Expr} {body : List Stmt} {pos : Pos} {Q : Flow → Shared → Prop} (I : Nat → Shared → Prop) (n : Nat) (h0 : I n s)
    (turn : ∀ n s, I n s → wpAny (model prog w) A (isTrue test env (eval test env)) (fun b s₂ =>
        if b then wpAny (model prog w) A (execs body env) (fun f s₃ => match f with
            | .next | .cont => Hold (∃ m, m < n ∧ I m s₃)
            | .brk => Q .next s₃
            | .ret v => Q (.ret v) s₃) (fun _ _ => False) s₂
        else Q .next s₂) (fun _ _ => False) s) :
    wpAny (model prog w) A (exec (.While test body [] pos) env) Q E s := by
  refine wpAny_While (codeAny_whileLoop I (fun n s hI => ?_) n h0)
  refine wpAny_mono (turn n s hI) (fun b s₂ h₂ => ?_) fun _ _ x => x.elim
  cases b with
  | false =>
    simp only [Bool.false_eq_true, if_false] at h₂ ⊢
    exact wpAny_execs_nil h₂
  | true =>
    simp only [if_true] at h₂ ⊢
    exact wpAny_mono h₂ (fun f s₃ h₃ => by cases f <;> exact h₃) fun _ _ x => x.elim
end
section
variable {prog : Program} {w : World} {A : Around} {E : Value → Shared → Prop} {s : Shared} {env : Env}
noncomputable abbrev Led := List (Addr × Obj)

/-- how a turn of a for ends -/
noncomputable def TurnEnd' (h₀ : Heap) (L I : Addr) (oI : Obj) (s : Shared) (Jn : (Str → Option Value) → Led → Prop) (Q : Flow → Shared → Prop) (f : Flow) (s₃ : Shared) : Prop :=
  match f with
  | .next | .cont => Hold (∃ h' tk m' news', s₃ = { s with heap := h', toks := tk } ∧ Fr h₀ L h' m' ∧ News h₀ L h' ((I, oI) :: news') ∧ (∀ p ∈ news', p.1 ≠ I) ∧ Jn m' news')
  | .brk => Q .next s₃
  | .ret v => Q (.ret v) s₃

noncomputable def Loop (prog : Program) (w : World) (A : Around) (h₀ : Heap) (L : Addr) (env : Env) (target : Expr) (body orelse : List Stmt) (Q : Flow → Shared → Prop) (it : Value) (s : Shared) : Prop :=
  ∃ (I : Addr) (fixO : Led) (n : Nat) (P : Nat → Value → Prop) (St : Nat → Heap → Prop) (m₀ : Str → Option Value) (news : Led) (J : Nat → (Str → Option Value) → Led → Prop),
    it = .ref I ∧ Walks prog w A I (I :: fixO.map (·.1)) [I] n P St ∧ (∀ i h, St i h → ∃ o, h.get? I = some o) ∧ h₀.get? I = none ∧ L ≠ I ∧ (∀ p ∈ fixO, p.1 ≠ L) ∧ (∀ p ∈ news, p.1 ≠ I) ∧
    St 0 s.heap ∧ Fr h₀ L s.heap m₀ ∧ News h₀ L s.heap news ∧ J 0 m₀ news ∧
    (∀ i m news, J i m news → ∀ p ∈ fixO, p ∈ news ∨ h₀.get? p.1 = some p.2) ∧
    (∀ i (s' : Shared) v (Q' : Unit → Shared → Prop), St i s'.heap → Q' () s' → wpAny (model prog w) A (letOwnedTupleGo target (.ref I) v) Q' (fun _ _ => False) s') ∧
    (∀ i v m₁ news₁ oI h tk, i < n → P i v → J i m₁ news₁ → (∀ p ∈ news₁, p.1 ≠ I) → Fr h₀ L h m₁ → News h₀ L h ((I, oI) :: news₁) →
      wpAny (model prog w) A (assign target env v) (fun _ s₂ => wpAny (model prog w) A (execs body env) (TurnEnd' h₀ L I oI s (J (i + 1)) Q) (fun _ _ => False) s₂) (fun _ _ => False) { s with heap := h, toks := tk }) ∧
    ∀ h tk m₁ news₁, J n m₁ news₁ → Fr h₀ L h m₁ → News h₀ L h news₁ → wpAny (model prog w) A (execs orelse env) Q (fun _ _ => False) { s with heap := h, toks := tk }

theorem r_for {target iter : Expr} {body orelse : List Stmt} {pos : Pos} (h₀ : Heap) (L : Addr) {Q : Flow → Shared → Prop}
    (h : wpAny (model prog w) A (eval iter env) (fun xv s₁ => wpAny (model prog w) A (pyIter xv) (fun it s₂ => Loop prog w A h₀ L env target body orelse Q it s₂) E s₁) E s)
    (hs : ∀ x, foldedSetIterable iter env x = pure x := by intro _; rfl) (hEL : env.locals = L := by rfl) :
    wpAny (model prog w) A (exec (.For target iter body orelse pos) env) Q E s := by
  subst hEL
  refine wpAny_For (wpAny_mono h (fun xv s₁ h₁ => wpAny_mono h₁ (fun it s₂ h₂ => ?_) fun _ _ e => e) fun _ _ e => e) hs
  refine ex8 h₂ ?_; (try clear h₂); intro I fixO n P St m₀ news J; refine and15 ?_; intro yZq9x8 W hob h0I hLI hfL hnI hst F N hJ hfx hgo turn done
  obtain rfl := yZq9x8
  refine codeAny_forLoop_any (fun k s' => ∃ h' tk m' news' i, s' = { s₂ with heap := h', toks := tk } ∧ St i h' ∧ Fr h₀ env.locals h' m' ∧ News h₀ env.locals h' news' ∧ (∀ p ∈ news', p.1 ≠ I) ∧ J i m' news' ∧ i ≤ n ∧ k = n + 1 - i) ?_ (n + 1)
    ⟨s₂.heap, s₂.toks, m₀, news, 0, rfl, hst, F, N, hnI, hJ, Nat.zero_le _, rfl⟩
  intro k s' xZq1
  refine ex5 xZq1 ?_; (try clear xZq1); intro h' tk m' news' i; refine and8 ?_; intro yZq10x5 hst' F' N' hn' hJ' hi yZq10x12
  obtain rfl := yZq10x5
  obtain rfl := yZq10x12
  have next : ∀ h₁ : Heap, (∀ b o, b ∉ [I] → h'.get? b = some o → h₁.get? b = some o) → Fr h₀ env.locals h₁ m' ∧ News h₀ env.locals h₁ news' := fun h₁ hk₁ =>
    ⟨⟨F'.ns.at' fun o e => hk₁ _ o (by simpa using hLI) e, fun b o e => hk₁ b o (by simp; rintro rfl; rw [h0I] at e; cases e) (F'.keep b o e), F'.above⟩, fun p hp => ⟨hk₁ _ _ (by simpa using hn' p hp) (N' p hp).1, (N' p hp).2⟩⟩
  by_cases hlt : i < n
  · refine W.item i _ _ _ hlt hst' fun v h₁ tk₁ hP hst₁ hk₁ => ?_
    obtain ⟨F₁, N₁⟩ := next h₁ hk₁
    obtain ⟨oI, hoI⟩ := hob _ _ hst₁
    have N₂ : News h₀ env.locals h₁ ((I, oI) :: news') := fun p hp => by
      rcases List.mem_cons.mp hp with rfl | q
      · exact ⟨hoI, Ne.symm hLI, h0I⟩
      · exact N₁ p q
    refine wpAny_noRaise (hgo (i + 1) _ v _ hst₁ ?_)
    refine wpAny_noRaise (wpAny_mono (turn i v m' news' oI h₁ tk₁ hlt hP hJ' hn' F₁ N₂) (fun _ s₃ h₃ => ?_) fun _ _ e => e)
    refine wpAny_noRaise (wpAny_mono h₃ (fun f s₄ h₄ => ?_) fun _ _ e => e)
    have fin : (∃ h' tk m' news', s₄ = { s₂ with heap := h', toks := tk } ∧ Fr h₀ env.locals h' m' ∧ News h₀ env.locals h' ((I, oI) :: news') ∧ (∀ p ∈ news', p.1 ≠ I) ∧ J (i + 1) m' news') →
        ∃ m, m < n + 1 - i ∧ ∃ h' tk m' news' j, s₄ = { s₂ with heap := h', toks := tk } ∧ St j h' ∧ Fr h₀ env.locals h' m' ∧ News h₀ env.locals h' news' ∧ (∀ p ∈ news', p.1 ≠ I) ∧ J j m' news' ∧ j ≤ n ∧ m = n + 1 - j := by
      intro xZq1
      refine ex4 xZq1 ?_; (try clear xZq1); intro h5 tk5 m5 news5; refine and5 ?_; intro yZq11x4 F5 N5 hn5 hJ5
      obtain rfl := yZq11x4
      refine ⟨n + 1 - (i + 1), by omega, h5, tk5, m5, news5, i + 1, rfl, ?_, F5, fun p hp => N5 p (.tail _ hp), hn5, hJ5, hlt, rfl⟩
      refine W.frame _ _ _ hst₁ fun b hb o e => ?_
      rcases List.mem_cons.mp hb with rfl | hb
      · rw [hoI] at e; cases e
        exact (N5 _ (.head _)).1
      · have hZqq := List.mem_map.mp hb
        refine ex1 hZqq ?_; (try clear hZqq); intro p; refine and2 ?_; intro hp yZq12x2
        obtain rfl := yZq12x2
        have a1 : h₁.get? p.1 = some p.2 := (hfx _ _ _ hJ' p hp).elim (fun q => (N₁ p q).1) fun q => F₁.keep _ _ q
        rw [a1] at e; cases e
        exact (hfx _ _ _ hJ5 p hp).elim (fun q => (N5 p (.tail _ q)).1) fun q => F5.keep _ _ q
    cases f with
    | ret v => exact h₄
    | brk => exact h₄
    | next => exact fin h₄
    | cont => exact fin h₄
  · have hin : i = n := by omega
    subst hin
    refine W.done _ _ _ hst' fun h₁ tk₁ hk₁ => ?_
    obtain ⟨F₁, N₁⟩ := next h₁ hk₁
    exact wpAny_noRaise (wpAny_mono (done h₁ tk₁ m' news' hJ' F₁ N₁) (fun f s₃ q => q) fun _ _ e => e)

theorem loop_list {l : Addr} {ol : Obj} {vs : List Value} {target : Expr} {body orelse : List Stmt} {h₀ : Heap} {L : Addr} {Q : Flow → Shared → Prop} {m₀ : Str → Option Value} {news : Led}
    (J : Nat → (Str → Option Value) → Led → Prop) (hh : A.handled = none) (F : Fr h₀ L s.heap m₀) (N : News h₀ L s.heap news)
    (hol : s.heap.get? l = some ol) (hc : ol.cls = .type "list") (hd : ∃ n, ol.data = .seq vs.toArray n) (hlL : l ≠ L)
    (hJ : J 0 m₀ news) (hfx : ∀ i m news, J i m news → (l, ol) ∈ news ∨ h₀.get? l = some ol)
    (turn : ∀ i v m₁ news₁ I oI h tk, vs[i]? = some v → J i m₁ news₁ → (∀ p ∈ news₁, p.1 ≠ I) → Fr h₀ L h m₁ → News h₀ L h ((I, oI) :: news₁) →
      wpAny (model prog w) A (assign target env v) (fun _ s₂ => wpAny (model prog w) A (execs body env) (TurnEnd' h₀ L I oI s (J (i + 1)) Q) (fun _ _ => False) s₂) (fun _ _ => False) { s with heap := h, toks := tk })
    (done : ∀ h tk m₁ news₁, J vs.length m₁ news₁ → Fr h₀ L h m₁ → News h₀ L h news₁ → wpAny (model prog w) A (execs orelse env) Q (fun _ _ => False) { s with heap := h, toks := tk })
    (ht : (∀ it v, letOwnedTupleGo target it v = pure ()) ∨ ∃ elts x1 pos, target = .Tuple elts x1 pos := by first | exact .inl (fun _ _ => rfl) | exact .inr ⟨_, _, _, rfl⟩) :
    wpAny (model prog w) A (pyIter (.ref l)) (fun it s₂ => Loop prog w A h₀ L env target body orelse Q it s₂) E s := by
  have hls : s.heap.IsList l vs.toArray := ⟨ol, hol, hc, hd⟩
  have hlt := Heap.lt_size hol
  refine wpAny_pyIter_list hls ?_
  have W := Walks.list (prog := prog) (w := w) hh s.heap.objs.size l (Nat.ne_of_lt hlt) vs.toArray
  have hlen : vs.toArray.size = vs.length := by simp
  rw [hlen] at W
  refine ⟨_, [(l, ol)], _, _, _, m₀, news, J, rfl, W, ?_, ?_, ?_, ?_, ?_, ⟨⟨_, Heap.get?_push_size _ rfl, rfl, rfl⟩, hls.at fun o e => Heap.get?_push_of_some _ e⟩, F.push _, (fun p hp => ⟨Heap.get?_push_of_some _ (N p hp).1, (N p hp).2⟩), hJ, ?_, ?_, ?_, ?_⟩
  · rintro i h ⟨⟨o, e, _⟩, _⟩; exact ⟨o, e⟩
  · cases q : h₀.get? s.heap.objs.size with
    | none => rfl
    | some o => exact absurd (Heap.lt_size (F.keep _ _ q)) (Nat.lt_irrefl _)
  · exact Nat.ne_of_lt F.ns.lt
  · intro p hp; rw [List.mem_singleton.mp hp]; exact hlL
  · intro p hp q; exact absurd (Heap.lt_size (N p hp).1) (q ▸ Nat.lt_irrefl _)
  · intro i m news hJ p hp; rw [List.mem_singleton.mp hp]; exact hfx i m news hJ
  · intro i s' v Q' hst hq
    rcases ht with ht | ⟨elts, x1, ps, rfl⟩
    · rw [ht]; exact wpAny_pure hq
    · cases v <;> first | exact wpAny_letOwnedTupleGo_listiter hst.1 hq | exact wpAny_pure hq
  · intro i v m₁ news₁ oI h tk _ hP hJ hn F₁ N₁
    exact turn i v m₁ news₁ _ oI h tk (by simpa using hP) hJ hn F₁ N₁
  · intro h tk m₁ news₁ hJ F₁ N₁
    exact done h tk m₁ news₁ hJ F₁ N₁

theorem loop_range {r : Addr} {b : Int} {t u v : Tok} {n : Nat} {target : Expr} {body orelse : List Stmt} {h₀ : Heap} {L : Addr} {Q : Flow → Shared → Prop} {m₀ : Str → Option Value} {news : Led}
    (J : Nat → (Str → Option Value) → Led → Prop) (hh : A.handled = none) (F : Fr h₀ L s.heap m₀) (N : News h₀ L s.heap news)
    (hr : IsRange s.heap r 0 b 1 t u v) (hb : b = (n : Int)) (hn : n < 100000) (hJ : J 0 m₀ news)
    (turn : ∀ (i : Nat) (ti : Tok) m₁ news₁ I oI h tk, i < n → J i m₁ news₁ → (∀ p ∈ news₁, p.1 ≠ I) → Fr h₀ L h m₁ → News h₀ L h ((I, oI) :: news₁) →
      wpAny (model prog w) A (assign target env (.int i ti)) (fun _ s₂ => wpAny (model prog w) A (execs body env) (TurnEnd' h₀ L I oI s (J (i + 1)) Q) (fun _ _ => False) s₂) (fun _ _ => False) { s with heap := h, toks := tk })
    (done : ∀ h tk m₁ news₁, J n m₁ news₁ → Fr h₀ L h m₁ → News h₀ L h news₁ → wpAny (model prog w) A (execs orelse env) Q (fun _ _ => False) { s with heap := h, toks := tk })
    (ht : ∀ it v, letOwnedTupleGo target it v = pure () := by intro _ _; rfl) :
    wpAny (model prog w) A (pyIter (.ref r)) (fun it s₂ => Loop prog w A h₀ L env target body orelse Q it s₂) E s := by
  subst hb
  have hz : Builtin.Range.rangeSize 0 (n : Int) 1 = (n : Int) := by
    unfold Builtin.Range.rangeSize; simp; omega
  refine wpAny_pyIter_range hr (small_one (by omega) (by omega) (by omega) (by omega)) ?_
  have W := Walks.range (prog := prog) (w := w) hh s.heap.objs.size 0 1 n
  refine ⟨_, [], n, _, _, m₀, news, J, rfl, W, ?_, ?_, ?_, ?_, ?_, ?_, F.push _, (fun p hp => ⟨Heap.get?_push_of_some _ (N p hp).1, (N p hp).2⟩), hJ, ?_, ?_, ?_, ?_⟩
  · intro i h e; exact ⟨_, e⟩
  · cases q : h₀.get? s.heap.objs.size with
    | none => rfl
    | some o => exact absurd (Heap.lt_size (F.keep _ _ q)) (Nat.lt_irrefl _)
  · exact Nat.ne_of_lt F.ns.lt
  · intro p hp; cases hp
  · intro p hp q; exact absurd (Heap.lt_size (N p hp).1) (q ▸ Nat.lt_irrefl _)
  · show IsRangeIter _ _ _ _ _
    rw [hz]
    simpa using Heap.get?_push_size s.heap rfl
  · intro i m news hJ p hp; cases hp
  · intro i s' v Q' hst hq
    rw [ht]; exact wpAny_pure hq
  · rintro i v m₁ news₁ oI h tk hi ⟨t, rfl⟩ hJ hn F₁ N₁
    have e : (0 : Int) + (i : Int) * 1 = (i : Int) := by omega
    rw [e]
    exact turn i t m₁ news₁ _ oI h tk hi hJ hn F₁ N₁
  · intro h tk m₁ news₁ hJ F₁ N₁
    exact done h tk m₁ news₁ hJ F₁ N₁
end
noncomputable abbrev listO (vs : List Value) (n : Nat) : Obj := { cls := .type "list", data := .seq vs.toArray n }
noncomputable abbrev tupO (vs : List Value) (n : Nat) : Obj := { cls := .type "tuple", data := .seq vs.toArray n }
section
variable {prog : Program} {w : World} {A : Around} {E : Value → Shared → Prop} {s : Shared} {h₀ : Heap} {L : Addr} {m : Str → Option Value} {news : Led}
/-- one object of the ledger changed, those of K kept -/
theorem news_same {h h' : Heap} {D : Addr} {o o' : Obj} (N : News h₀ L h news) (hm : (D, o) ∈ news) (hs : Heap.SameBut D h h') (ho : h'.get? D = some o') (K : Led) (hK : ∀ p ∈ K, p ∈ news ∧ p.1 ≠ D) : News h₀ L h' ((D, o') :: K) := fun p hp => by
  rcases List.mem_cons.mp hp with rfl | q
  · exact ⟨ho, (N _ hm).2⟩
  · exact ⟨(hs.2 _ (hK p q).2).trans (N p (hK p q).1).1, (N p (hK p q).1).2⟩
theorem fr_same {h h' : Heap} {D : Addr} {o : Obj} (F : Fr h₀ L h m) (N : News h₀ L h news) (hm : (D, o) ∈ news) (hs : Heap.SameBut D h h') : Fr h₀ L h' m :=
  F.change hs (N _ hm).2.1 (N _ hm).2.2
theorem r_append {D : Addr} {vs : List Value} {n : Nat} {x : Value} {Q : Value → Shared → Prop} (K : Led) (F : Fr h₀ L s.heap m) (N : News h₀ L s.heap news) (hm : (D, listO vs n) ∈ news) (hK : ∀ p ∈ K, p ∈ news ∧ p.1 ≠ D)
    (hz : vs.length ≤ 1000) (h : ∀ h', Fr h₀ L h' m → News h₀ L h' ((D, listO (vs ++ [x]) (n + 1)) :: K) → Q .none { s with heap := h' }) :
    wpAny (model prog w) A (call (.builtin "list.append") [.ref D, x]) Q E s := by
  refine append_at (N.get hm) (fun h' hs e => h h' (fr_same F N hm hs) (news_same N hm hs ?_ K hK)) (by simp; show vs.length ≤ 2 ^ 24; omega)
  rw [e]; simp
end
theorem ints_snoc {vs : List Value} {ns : List Int} {i : Int} {t : Tok} (h : IntsAre vs ns) : IntsAre (vs ++ [.int i t]) (ns ++ [i]) := ksk_snoc h
theorem sp_lack {prog : Program} {w : World} {A : Around} {E : Value → Shared → Prop} {s : Shared} {Q : Value → Shared → Prop}
   {pa : Addr} {i j : Int} {ti tj : Tok} {n : Nat}
   (G : Gd w s.heap) (R : Rm A 0) (hp : s.heap.get? pa = some (listO [.int i ti, .int j tj] n))
   (hQ : Out [] s Q (fun v _ => v = .int i ti)) :
   wpAny (model prog w) A (call (.ref 140) [.ref pa]) Q E s := by
  (((have kkZq : PySem.Challenge.rw_wu0059_01 = PySem.Challenge.rw_wu0059_01 ∧ Mine.hd.heap_39 = Mine.hd.heap_39 := ⟨rfl, rfl⟩); revert kkZq; k_fill; intro kkZq; clear kkZq; w_on))
  refine enter [(Str.ofString "pair", .ref pa)] G R.room (by k_is) (by k_is) (by (first | exact BindsTo.of_eq rfl | exact binds_K (Gd.X (by assumption)) rfl (by k_is) rfl rfl rfl | exact binds_K (Gd.X (Gd.keeps (by assumption) (by assumption))) rfl (by k_is) rfl rfl rfl)) (locs rfl) (by decide) rfl rfl rfl ?_
  intro L h₁ tk F N X
  have hl : s.heap.IsList pa [.int i ti, .int j tj].toArray := ⟨_, hp, rfl, n, rfl⟩
  walk1
  walk1
  walk1
  walk1
  walk1
  refine item_listL (hl.at fun o e => F.keep _ o e) (by decide) (by decide) rfl ?_ rfl
  dsimp only
  exact hQ _ _ _ (Kb.of _ F.keep) rfl

noncomputable def PairAt (h : Heap) (q : Addr × Int × Int) : Prop := ∃ ti tj n, h.get? q.1 = some (listO [.int q.2.1 ti, .int q.2.2 tj] n)

theorem sp_bl {prog : Program} {w : World} {A : Around} {E : Value → Shared → Prop} {s : Shared} {Q : Value → Shared → Prop}
   {la : Addr} {ps : List (Addr × Int × Int)} {x : Int} {tx t0 : Tok}
   (G : Gd w s.heap) (R : Rm A 2) (hl : s.heap.IsList la (ps.map fun q => Value.ref q.1).toArray) (hps : ∀ q ∈ ps, PairAt s.heap q)
   (hsz : ps.length ≤ 1000) (hso : ps.Pairwise fun a b => a.2.1 ≤ b.2.1)
   (hQ : Out [] s Q (fun v _ => ∃ (r : Nat) (t : Tok), v = .int r t ∧ r ≤ ps.length ∧ (∀ k (h : k < ps.length), k < r → ps[k].2.1 < x) ∧ ∀ k (h : k < ps.length), r ≤ k → x ≤ ps[k].2.1)) :
   wpAny (model prog w) A (call (.ref 41) [.ref la, .int x tx, .int 0 t0, .none] [(Str.ofString "key", .ref 140)]) Q E s := by
  (((have kkZq : PySem.Challenge.rw_wu0059_01 = PySem.Challenge.rw_wu0059_01 ∧ Mine.hd.heap_39 = Mine.hd.heap_39 := ⟨rfl, rfl⟩); revert kkZq; k_fill; intro kkZq; clear kkZq; w_on))
  refine enter [(Str.ofString "a", .ref la), (Str.ofString "x", .int x tx), (Str.ofString "lo", .int 0 t0), (Str.ofString "hi", .none), (Str.ofString "key", .ref 140)] G R.room (by k_is) (by k_is) (by (first | exact BindsTo.of_eq rfl | exact binds_K (Gd.X (by assumption)) rfl (by k_is) rfl rfl rfl | exact binds_K (Gd.X (Gd.keeps (by assumption) (by assumption))) rfl (by k_is) rfl rfl rfl)) (locs rfl) (by decide) rfl rfl rfl ?_
  intro L h₁ tk F N X
  have hZqq := G.T
  refine ex5 hZqq ?_; (try clear hZqq); intro p l m mg mb; intro T
  (repeat' (first | (k_unfold; (try dsimp only)) | ( (fail_if_success (with_reducible show wpAny _ _ (exec (Stmt.While _ _ _ _) _) _ _ _)); (fail_if_success (with_reducible show wpAny _ _ (exec (Stmt.For _ _ _ _ _) _) _ _ _)); (fail_if_success (with_reducible show wpAny _ _ (exec (Stmt.Try _ _ _ _ _) _) _ _ _)); (fail_if_success (with_reducible show wpAny _ _ (pyIter _) (fun it s₂ => Loop _ _ _ _ _ _ _ _ _ _ it s₂) _ _)); (fail_if_success (with_reducible show wpAny _ _ (call (Value.ref _) _ _) _ _ _)); (try k_fold); walk1; (try ((first | (with_reducible show wpAny _ _ (spliced _) _ _ _) | (with_reducible show wpAny _ _ (newList _) _ _ _) | (with_reducible show wpAny _ _ (execs _ _) _ _ _)); dsimp only)))))
  refine PyProof.Rows.len_list (hl.at fun o e => Fr.keep ‹_› _ o e) (by simp; omega) ?_
  (repeat' (first | (k_unfold; (try dsimp only)) | ( (fail_if_success (with_reducible show wpAny _ _ (exec (Stmt.While _ _ _ _) _) _ _ _)); (fail_if_success (with_reducible show wpAny _ _ (exec (Stmt.For _ _ _ _ _) _) _ _ _)); (fail_if_success (with_reducible show wpAny _ _ (exec (Stmt.Try _ _ _ _ _) _) _ _ _)); (fail_if_success (with_reducible show wpAny _ _ (pyIter _) (fun it s₂ => Loop _ _ _ _ _ _ _ _ _ _ it s₂) _ _)); (fail_if_success (with_reducible show wpAny _ _ (call (Value.ref _) _ _) _ _ _)); (try k_fold); walk1; (try ((first | (with_reducible show wpAny _ _ (spliced _) _ _ _) | (with_reducible show wpAny _ _ (newList _) _ _ _) | (with_reducible show wpAny _ _ (execs _ _) _ _ _)); dsimp only)))))
  rename Fr _ _ _ _ => F1
  refine r_while (fun n s' => ∃ (lo hi : Int) (tl th : Tok) (h' : Heap) (tk : Nat) (m' : Str → Option Value), s' = { s with heap := h', toks := tk } ∧ Fr s.heap L h' m' ∧
    Has m' [(Str.ofString "a", .ref la), (Str.ofString "x", .int x tx), (Str.ofString "key", .ref 140), (Str.ofString "lo", .int lo tl), (Str.ofString "hi", .int hi th)] ∧
    0 ≤ lo ∧ lo ≤ hi ∧ hi ≤ ps.length ∧ (∀ k (h : k < ps.length), (k : Int) < lo → ps[k].2.1 < x) ∧ (∀ k (h : k < ps.length), hi ≤ k → x ≤ ps[k].2.1) ∧ n = (hi - lo).toNat) ps.length
    ⟨0, ps.length, _, _, _, _, _, rfl, F1, ⟨rfl, rfl, rfl, rfl, by simp; rfl, trivial⟩, by omega, by omega, by omega, by intro k h h'; omega, by intro k h h'; omega, by omega⟩ ?_
  intro n s' xZq1
  refine ex7 xZq1 ?_; (try clear xZq1); intro lo hi tl th h' tk m'; refine and9 ?_; intro yZq1x7 F2 em b1 b2 b3 b4 b5 yZq1x15
  obtain rfl := yZq1x7
  obtain rfl := yZq1x15
  clear F1
  have F3 := fr_has F2 em
  clear F2
  (repeat' (first | (k_unfold; (try dsimp only)) | ( (fail_if_success (with_reducible show wpAny _ _ (exec (Stmt.While _ _ _ _) _) _ _ _)); (fail_if_success (with_reducible show wpAny _ _ (exec (Stmt.For _ _ _ _ _) _) _ _ _)); (fail_if_success (with_reducible show wpAny _ _ (exec (Stmt.Try _ _ _ _ _) _) _ _ _)); (fail_if_success (with_reducible show wpAny _ _ (pyIter _) (fun it s₂ => Loop _ _ _ _ _ _ _ _ _ _ it s₂) _ _)); (fail_if_success (with_reducible show wpAny _ _ (call (Value.ref _) _ _) _ _ _)); (try k_fold); walk1; (try ((first | (with_reducible show wpAny _ _ (spliced _) _ _ _) | (with_reducible show wpAny _ _ (newList _) _ _ _) | (with_reducible show wpAny _ _ (execs _ _) _ _ _)); dsimp only)))))
  · have ed : Int.fdiv (lo + hi) 2 = (lo + hi) / 2 := Int.fdiv_eq_ediv_of_nonneg _ (by decide)
    have hk : ((lo + hi) / 2).toNat < ps.length := by omega
    have hZqq := hps _ (List.getElem_mem hk)
    refine ex3 hZqq ?_; (try clear hZqq); intro ti tj n; intro hq
    refine item_listL (hl.at fun o e => Fr.keep ‹_› _ o e) (by omega) (by omega) (by rw [ed]; show (ps.map _)[((lo + hi) / 2).toNat]? = some (Value.ref ps[((lo + hi) / 2).toNat].1); simp [hk]) ?_
    (repeat' (first | (k_unfold; (try dsimp only)) | ( (fail_if_success (with_reducible show wpAny _ _ (exec (Stmt.While _ _ _ _) _) _ _ _)); (fail_if_success (with_reducible show wpAny _ _ (exec (Stmt.For _ _ _ _ _) _) _ _ _)); (fail_if_success (with_reducible show wpAny _ _ (exec (Stmt.Try _ _ _ _ _) _) _ _ _)); (fail_if_success (with_reducible show wpAny _ _ (pyIter _) (fun it s₂ => Loop _ _ _ _ _ _ _ _ _ _ it s₂) _ _)); (fail_if_success (with_reducible show wpAny _ _ (call (Value.ref _) _ _) _ _ _)); (try k_fold); walk1; (try ((first | (with_reducible show wpAny _ _ (spliced _) _ _ _) | (with_reducible show wpAny _ _ (newList _) _ _ _) | (with_reducible show wpAny _ _ (execs _ _) _ _ _)); dsimp only)))))
    refine sp_lack (G.keeps (Fr.keep ‹_›)) ((R.deeper _).le (by omega)) (Fr.keep ‹_› _ _ hq) ?_
    rintro v h' tk' kb rfl
    have F4 := fr_kb0 ‹_› kb
    (repeat' (first | (k_unfold; (try dsimp only)) | ( (fail_if_success (with_reducible show wpAny _ _ (exec (Stmt.While _ _ _ _) _) _ _ _)); (fail_if_success (with_reducible show wpAny _ _ (exec (Stmt.For _ _ _ _ _) _) _ _ _)); (fail_if_success (with_reducible show wpAny _ _ (exec (Stmt.Try _ _ _ _ _) _) _ _ _)); (fail_if_success (with_reducible show wpAny _ _ (pyIter _) (fun it s₂ => Loop _ _ _ _ _ _ _ _ _ _ it s₂) _ _)); (fail_if_success (with_reducible show wpAny _ _ (call (Value.ref _) _ _) _ _ _)); (try k_fold); walk1; (try ((first | (with_reducible show wpAny _ _ (spliced _) _ _ _) | (with_reducible show wpAny _ _ (newList _) _ _ _) | (with_reducible show wpAny _ _ (execs _ _) _ _ _)); dsimp only)))))
    · refine Exists.intro _ ⟨?_, (lo + hi) / 2 + 1, hi, _, _, _, _, _, rfl, ‹_›, ⟨rfl, rfl, rfl, by rw [← ed]; rfl, rfl, trivial⟩, by omega, by omega, by omega, ?_, b5, rfl⟩
      · omega
      · intro k h1 h2
        rcases Nat.lt_or_ge k ((lo + hi) / 2).toNat with q | q
        · have := List.pairwise_iff_getElem.mp hso k _ h1 hk q
          omega
        · have : k = ((lo + hi) / 2).toNat := by omega
          subst this
          assumption
    · refine Exists.intro _ ⟨?_, lo, (lo + hi) / 2, _, _, _, _, _, rfl, ‹_›, ⟨rfl, rfl, rfl, rfl, by rw [← ed]; rfl, trivial⟩, by omega, by omega, by omega, b4, ?_, rfl⟩
      · omega
      · intro k h1 h2
        rcases Nat.lt_or_ge ((lo + hi) / 2).toNat k with q | q
        · have := List.pairwise_iff_getElem.mp hso _ k hk h1 q
          omega
        · have : k = ((lo + hi) / 2).toNat := by omega
          subst this
          omega
  · refine hQ _ _ _ (Kb.of _ (Fr.keep ‹_›)) ⟨lo.toNat, _, by rw [Int.toNat_of_nonneg b1], by omega, fun k h1 h2 => b4 k h1 (by omega), fun k h1 h2 => b5 k h1 (by omega)⟩
theorem sp_br {prog : Program} {w : World} {A : Around} {E : Value → Shared → Prop} {s : Shared} {Q : Value → Shared → Prop}
   {la : Addr} {ps : List (Addr × Int × Int)} {x : Int} {tx : Tok}
   (G : Gd w s.heap) (R : Rm A 2) (hl : s.heap.IsList la (ps.map fun q => Value.ref q.1).toArray) (hps : ∀ q ∈ ps, PairAt s.heap q)
   (hsz : ps.length ≤ 1000) (hso : ps.Pairwise fun a b => a.2.1 ≤ b.2.1)
   (hQ : Out [] s Q (fun v _ => ∃ (r : Nat) (t : Tok), v = .int r t ∧ r ≤ ps.length ∧ (∀ k (h : k < ps.length), k < r → ps[k].2.1 ≤ x) ∧ ∀ k (h : k < ps.length), r ≤ k → x < ps[k].2.1)) :
   wpAny (model prog w) A (call (.ref 23) [.ref la, .int x tx] [(Str.ofString "key", .ref 140)]) Q E s := by
  (((have kkZq : PySem.Challenge.rw_wu0059_01 = PySem.Challenge.rw_wu0059_01 ∧ Mine.hd.heap_39 = Mine.hd.heap_39 := ⟨rfl, rfl⟩); revert kkZq; k_fill; intro kkZq; clear kkZq; w_on))
  refine enter [(Str.ofString "a", .ref la), (Str.ofString "x", .int x tx), (Str.ofString "lo", .int 0 _), (Str.ofString "hi", .none), (Str.ofString "key", .ref 140)] G R.room (by k_is) (by k_is) (by (first | exact BindsTo.of_eq rfl | exact binds_K (Gd.X (by assumption)) rfl (by k_is) rfl rfl rfl | exact binds_K (Gd.X (Gd.keeps (by assumption) (by assumption))) rfl (by k_is) rfl rfl rfl)) (locs rfl) (by decide) rfl rfl rfl ?_
  intro L h₁ tk F N X
  have hZqq := G.T
  refine ex5 hZqq ?_; (try clear hZqq); intro p l m mg mb; intro T
  (repeat' (first | (k_unfold; (try dsimp only)) | ( (fail_if_success (with_reducible show wpAny _ _ (exec (Stmt.While _ _ _ _) _) _ _ _)); (fail_if_success (with_reducible show wpAny _ _ (exec (Stmt.For _ _ _ _ _) _) _ _ _)); (fail_if_success (with_reducible show wpAny _ _ (exec (Stmt.Try _ _ _ _ _) _) _ _ _)); (fail_if_success (with_reducible show wpAny _ _ (pyIter _) (fun it s₂ => Loop _ _ _ _ _ _ _ _ _ _ it s₂) _ _)); (fail_if_success (with_reducible show wpAny _ _ (call (Value.ref _) _ _) _ _ _)); (try k_fold); walk1; (try ((first | (with_reducible show wpAny _ _ (spliced _) _ _ _) | (with_reducible show wpAny _ _ (newList _) _ _ _) | (with_reducible show wpAny _ _ (execs _ _) _ _ _)); dsimp only)))))
  refine PyProof.Rows.len_list (hl.at fun o e => Fr.keep ‹_› _ o e) (by simp; omega) ?_
  (repeat' (first | (k_unfold; (try dsimp only)) | ( (fail_if_success (with_reducible show wpAny _ _ (exec (Stmt.While _ _ _ _) _) _ _ _)); (fail_if_success (with_reducible show wpAny _ _ (exec (Stmt.For _ _ _ _ _) _) _ _ _)); (fail_if_success (with_reducible show wpAny _ _ (exec (Stmt.Try _ _ _ _ _) _) _ _ _)); (fail_if_success (with_reducible show wpAny _ _ (pyIter _) (fun it s₂ => Loop _ _ _ _ _ _ _ _ _ _ it s₂) _ _)); (fail_if_success (with_reducible show wpAny _ _ (call (Value.ref _) _ _) _ _ _)); (try k_fold); walk1; (try ((first | (with_reducible show wpAny _ _ (spliced _) _ _ _) | (with_reducible show wpAny _ _ (newList _) _ _ _) | (with_reducible show wpAny _ _ (execs _ _) _ _ _)); dsimp only)))))
  rename Fr _ _ _ _ => F1
  refine r_while (fun n s' => ∃ (lo hi : Int) (tl th : Tok) (h' : Heap) (tk : Nat) (m' : Str → Option Value), s' = { s with heap := h', toks := tk } ∧ Fr s.heap L h' m' ∧
    Has m' [(Str.ofString "a", .ref la), (Str.ofString "x", .int x tx), (Str.ofString "key", .ref 140), (Str.ofString "lo", .int lo tl), (Str.ofString "hi", .int hi th)] ∧
    0 ≤ lo ∧ lo ≤ hi ∧ hi ≤ ps.length ∧ (∀ k (h : k < ps.length), (k : Int) < lo → ps[k].2.1 ≤ x) ∧ (∀ k (h : k < ps.length), hi ≤ k → x < ps[k].2.1) ∧ n = (hi - lo).toNat) ps.length
    ⟨0, ps.length, _, _, _, _, _, rfl, F1, ⟨rfl, rfl, rfl, rfl, by simp; rfl, trivial⟩, by omega, by omega, by omega, by intro k h h'; omega, by intro k h h'; omega, by omega⟩ ?_
  intro n s' xZq1
  refine ex7 xZq1 ?_; (try clear xZq1); intro lo hi tl th h' tk m'; refine and9 ?_; intro yZq1x7 F2 em b1 b2 b3 b4 b5 yZq1x15
  obtain rfl := yZq1x7
  obtain rfl := yZq1x15
  clear F1
  have F3 := fr_has F2 em
  clear F2
  (repeat' (first | (k_unfold; (try dsimp only)) | ( (fail_if_success (with_reducible show wpAny _ _ (exec (Stmt.While _ _ _ _) _) _ _ _)); (fail_if_success (with_reducible show wpAny _ _ (exec (Stmt.For _ _ _ _ _) _) _ _ _)); (fail_if_success (with_reducible show wpAny _ _ (exec (Stmt.Try _ _ _ _ _) _) _ _ _)); (fail_if_success (with_reducible show wpAny _ _ (pyIter _) (fun it s₂ => Loop _ _ _ _ _ _ _ _ _ _ it s₂) _ _)); (fail_if_success (with_reducible show wpAny _ _ (call (Value.ref _) _ _) _ _ _)); (try k_fold); walk1; (try ((first | (with_reducible show wpAny _ _ (spliced _) _ _ _) | (with_reducible show wpAny _ _ (newList _) _ _ _) | (with_reducible show wpAny _ _ (execs _ _) _ _ _)); dsimp only)))))
  · have ed : Int.fdiv (lo + hi) 2 = (lo + hi) / 2 := Int.fdiv_eq_ediv_of_nonneg _ (by decide)
    have hk : ((lo + hi) / 2).toNat < ps.length := by omega
    have hZqq := hps _ (List.getElem_mem hk)
    refine ex3 hZqq ?_; (try clear hZqq); intro ti tj n; intro hq
    refine item_listL (hl.at fun o e => Fr.keep ‹_› _ o e) (by omega) (by omega) (by rw [ed]; show (ps.map _)[((lo + hi) / 2).toNat]? = some (Value.ref ps[((lo + hi) / 2).toNat].1); simp [hk]) ?_
    (repeat' (first | (k_unfold; (try dsimp only)) | ( (fail_if_success (with_reducible show wpAny _ _ (exec (Stmt.While _ _ _ _) _) _ _ _)); (fail_if_success (with_reducible show wpAny _ _ (exec (Stmt.For _ _ _ _ _) _) _ _ _)); (fail_if_success (with_reducible show wpAny _ _ (exec (Stmt.Try _ _ _ _ _) _) _ _ _)); (fail_if_success (with_reducible show wpAny _ _ (pyIter _) (fun it s₂ => Loop _ _ _ _ _ _ _ _ _ _ it s₂) _ _)); (fail_if_success (with_reducible show wpAny _ _ (call (Value.ref _) _ _) _ _ _)); (try k_fold); walk1; (try ((first | (with_reducible show wpAny _ _ (spliced _) _ _ _) | (with_reducible show wpAny _ _ (newList _) _ _ _) | (with_reducible show wpAny _ _ (execs _ _) _ _ _)); dsimp only)))))
    refine sp_lack (G.keeps (Fr.keep ‹_›)) ((R.deeper _).le (by omega)) (Fr.keep ‹_› _ _ hq) ?_
    rintro v h' tk' kb rfl
    have F4 := fr_kb0 ‹_› kb
    (repeat' (first | (k_unfold; (try dsimp only)) | ( (fail_if_success (with_reducible show wpAny _ _ (exec (Stmt.While _ _ _ _) _) _ _ _)); (fail_if_success (with_reducible show wpAny _ _ (exec (Stmt.For _ _ _ _ _) _) _ _ _)); (fail_if_success (with_reducible show wpAny _ _ (exec (Stmt.Try _ _ _ _ _) _) _ _ _)); (fail_if_success (with_reducible show wpAny _ _ (pyIter _) (fun it s₂ => Loop _ _ _ _ _ _ _ _ _ _ it s₂) _ _)); (fail_if_success (with_reducible show wpAny _ _ (call (Value.ref _) _ _) _ _ _)); (try k_fold); walk1; (try ((first | (with_reducible show wpAny _ _ (spliced _) _ _ _) | (with_reducible show wpAny _ _ (newList _) _ _ _) | (with_reducible show wpAny _ _ (execs _ _) _ _ _)); dsimp only)))))
    · refine Exists.intro _ ⟨?_, lo, (lo + hi) / 2, _, _, _, _, _, rfl, ‹_›, ⟨rfl, rfl, rfl, rfl, by rw [← ed]; rfl, trivial⟩, by omega, by omega, by omega, b4, ?_, rfl⟩
      · omega
      · intro k h1 h2
        rcases Nat.lt_or_ge ((lo + hi) / 2).toNat k with q | q
        · have := List.pairwise_iff_getElem.mp hso _ k hk h1 q
          omega
        · have : k = ((lo + hi) / 2).toNat := by omega
          subst this
          omega
    · refine Exists.intro _ ⟨?_, (lo + hi) / 2 + 1, hi, _, _, _, _, _, rfl, ‹_›, ⟨rfl, rfl, rfl, by rw [← ed]; rfl, rfl, trivial⟩, by omega, by omega, by omega, ?_, b5, rfl⟩
      · omega
      · intro k h1 h2
        rcases Nat.lt_or_ge k ((lo + hi) / 2).toNat with q | q
        · have := List.pairwise_iff_getElem.mp hso k _ h1 hk q
          omega
        · have : k = ((lo + hi) / 2).toNat := by omega
          subst this
          omega
  · refine hQ _ _ _ (Kb.of _ (Fr.keep ‹_›)) ⟨lo.toNat, _, by rw [Int.toNat_of_nonneg b1], by omega, fun k h1 h2 => b4 k h1 (by omega), fun k h1 h2 => b5 k h1 (by omega)⟩

theorem PairAt.keeps {h h' : Heap} {q : Addr × Int × Int} (p : PairAt h q) (k : ∀ b o, h.get? b = some o → h'.get? b = some o) : PairAt h' q := by
  obtain ⟨ti, tj, n, e⟩ := p; exact ⟨ti, tj, n, k _ _ e⟩
theorem PairAt.kb {l : List Addr} {h h' : Heap} {q : Addr × Int × Int} (p : PairAt h q) (k : Kb l h h') (hn : q.1 ∉ l) : PairAt h' q := by
  obtain ⟨ti, tj, n, e⟩ := p; exact ⟨ti, tj, n, k _ _ hn e⟩
noncomputable abbrev refsOf (ps : List (Addr × Int × Int)) : List Value := ps.map fun q => Value.ref q.1
noncomputable def insL (p : Addr × Int × Int) : List (Addr × Int × Int) → List (Addr × Int × Int)
  | [] => [p]
  | q :: r => if q.2.1 < p.2.1 then q :: insL p r else p :: q :: r
theorem insL_at (p : Addr × Int × Int) : ∀ (ps : List (Addr × Int × Int)) (r : Nat), r ≤ ps.length → (∀ k (h : k < ps.length), k < r → ps[k].2.1 < p.2.1) → (∀ k (h : k < ps.length), r ≤ k → p.2.1 ≤ ps[k].2.1) → ps.take r ++ p :: ps.drop r = insL p ps
  | [], r, _, _, _ => by simp [insL]
  | q :: t, 0, _, _, h2 => by
    have := h2 0 (by simp) (Nat.le_refl _)
    simp only [List.getElem_cons_zero] at this
    simp only [List.take_zero, List.drop_zero, List.nil_append, insL]
    rw [if_neg (by omega)]
  | q :: t, r + 1, h0, h1, h2 => by
    have := h1 0 (by simp) (Nat.succ_pos _)
    simp only [List.getElem_cons_zero] at this
    simp only [List.take_succ_cons, List.drop_succ_cons, List.cons_append, insL]
    rw [if_pos this, insL_at p t r (by simpa using h0) (fun k h hk => h1 (k + 1) (by simpa using h) (by omega)) (fun k h hk => h2 (k + 1) (by simpa using h) (by omega))]

theorem pair_ne_list {h : Heap} {q : Addr × Int × Int} {la : Addr} {ps : List (Addr × Int × Int)} {n : Nat} (p : PairAt h q) (e : h.get? la = some (listO (refsOf ps) n)) : q.1 ≠ la := by
  refine ex3 p ?_; (try clear p); intro ti tj k; intro e'
  intro z
  rw [z, e] at e'
  have := congrArg (fun o : Option Obj => o.map Obj.data) e'
  simp only [Option.map_some, Option.some.injEq, Data.seq.injEq] at this
  have := congrArg Array.toList this.1
  cases ps with
  | nil => simp at this
  | cons a r => simp [refsOf] at this

theorem sp_il {prog : Program} {w : World} {A : Around} {E : Value → Shared → Prop} {s : Shared} {Q : Value → Shared → Prop} {base : Heap}
   {la : Addr} {ps : List (Addr × Int × Int)} {p : Addr × Int × Int} {n : Nat}
   (G : Gd w base) (hb : ∀ b o, base.get? b = some o → s.heap.get? b = some o) (R : Rm A 3) (hl : s.heap.get? la = some (listO (refsOf ps) n)) (hla : base.get? la = none)
   (hps : ∀ q ∈ ps, PairAt s.heap q) (hp : PairAt s.heap p)
   (hsz : ps.length ≤ 1000) (hso : ps.Pairwise fun a b => a.2.1 ≤ b.2.1)
   (hQ : Out [la] s Q (fun v h' => v = .none ∧ ∃ n', h'.get? la = some (listO (refsOf (insL p ps)) n'))) :
   wpAny (model prog w) A (call (.ref 32) [.ref la, .ref p.1] [(Str.ofString "key", .ref 140)]) Q E s := by
  (((have kkZq : PySem.Challenge.rw_wu0059_01 = PySem.Challenge.rw_wu0059_01 ∧ Mine.hd.heap_39 = Mine.hd.heap_39 := ⟨rfl, rfl⟩); revert kkZq; k_fill; intro kkZq; clear kkZq; w_on))
  refine enterM [(Str.ofString "a", .ref la), (Str.ofString "x", .ref p.1), (Str.ofString "lo", .int 0 _), (Str.ofString "hi", .none), (Str.ofString "key", .ref 140)] G hb [(la, listO (refsOf ps) n)] (by simp; exact ⟨hl, hla⟩) R.room (by k_is) (by k_is) (by (first | exact BindsTo.of_eq rfl | exact binds_K (Gd.X (by assumption)) rfl (by k_is) rfl rfl rfl | exact binds_K (Gd.X (Gd.keeps (by assumption) (by assumption))) rfl (by k_is) rfl rfl rfl)) (locs rfl) (by decide) rfl rfl rfl ?_
  intro g L h₁ tk F N Gg X kg
  have hZqq := Gg.T
  refine ex5 hZqq ?_; (try clear hZqq); intro pp l m mg mb; intro T
  have hps' : ∀ q ∈ ps, PairAt g q := fun q hq => by
    have hZqq := hps q hq
    refine ex3 hZqq ?_; (try clear hZqq); intro ti tj k; intro e
    exact ⟨ti, tj, k, kg _ _ (by simpa using pair_ne_list (hps q hq) hl) e⟩
  have hp' : PairAt g p := by
    have hZqq := id hp
    refine ex3 hZqq ?_; (try clear hZqq); intro ti tj k; intro e
    exact ⟨ti, tj, k, kg _ _ (by simpa using pair_ne_list hp hl) e⟩
  (repeat' (first | (k_unfold; (try dsimp only)) | ( (fail_if_success (with_reducible show wpAny _ _ (exec (Stmt.While _ _ _ _) _) _ _ _)); (fail_if_success (with_reducible show wpAny _ _ (exec (Stmt.For _ _ _ _ _) _) _ _ _)); (fail_if_success (with_reducible show wpAny _ _ (exec (Stmt.Try _ _ _ _ _) _) _ _ _)); (fail_if_success (with_reducible show wpAny _ _ (pyIter _) (fun it s₂ => Loop _ _ _ _ _ _ _ _ _ _ it s₂) _ _)); (fail_if_success (with_reducible show wpAny _ _ (call (Value.ref _) _ _) _ _ _)); (try k_fold); walk1; (try ((first | (with_reducible show wpAny _ _ (spliced _) _ _ _) | (with_reducible show wpAny _ _ (newList _) _ _ _) | (with_reducible show wpAny _ _ (execs _ _) _ _ _)); dsimp only)))))
  have hZqq := id hp'
  refine ex3 hZqq ?_; (try clear hZqq); intro ti tj k; intro ep
  refine sp_lack (Gg.keeps (Fr.keep ‹_›)) ((R.deeper _).le (by omega)) (Fr.keep ‹_› _ _ ep) ?_
  rintro v h' tk' kb rfl
  have F1 := fr_kb0 ‹_› kb
  have N1 := news_kb0 ‹_› kb
  (repeat' (first | (k_unfold; (try dsimp only)) | ( (fail_if_success (with_reducible show wpAny _ _ (exec (Stmt.While _ _ _ _) _) _ _ _)); (fail_if_success (with_reducible show wpAny _ _ (exec (Stmt.For _ _ _ _ _) _) _ _ _)); (fail_if_success (with_reducible show wpAny _ _ (exec (Stmt.Try _ _ _ _ _) _) _ _ _)); (fail_if_success (with_reducible show wpAny _ _ (pyIter _) (fun it s₂ => Loop _ _ _ _ _ _ _ _ _ _ it s₂) _ _)); (fail_if_success (with_reducible show wpAny _ _ (call (Value.ref _) _ _) _ _ _)); (try k_fold); walk1; (try ((first | (with_reducible show wpAny _ _ (spliced _) _ _ _) | (with_reducible show wpAny _ _ (newList _) _ _ _) | (with_reducible show wpAny _ _ (execs _ _) _ _ _)); dsimp only)))))
  have N2 := ‹News _ _ _ _›
  refine sp_bl (Gg.keeps (Fr.keep ‹_›)) (R.deeper _) ⟨_, N2.get (.head _), rfl, n, rfl⟩ (fun q hq => (hps' q hq).keeps (Fr.keep ‹_›)) hsz hso ?_
  intro v h' tk' kb xZq1
  refine ex2 xZq1 ?_; (try clear xZq1); intro r t; refine and4 ?_; intro yZq8x2 r1 r2 r3
  obtain rfl := yZq8x2
  have F3 := fr_kb0 ‹_› kb
  have N3 := news_kb0 ‹_› kb
  (repeat' (first | (k_unfold; (try dsimp only)) | ( (fail_if_success (with_reducible show wpAny _ _ (exec (Stmt.While _ _ _ _) _) _ _ _)); (fail_if_success (with_reducible show wpAny _ _ (exec (Stmt.For _ _ _ _ _) _) _ _ _)); (fail_if_success (with_reducible show wpAny _ _ (exec (Stmt.Try _ _ _ _ _) _) _ _ _)); (fail_if_success (with_reducible show wpAny _ _ (pyIter _) (fun it s₂ => Loop _ _ _ _ _ _ _ _ _ _ it s₂) _ _)); (fail_if_success (with_reducible show wpAny _ _ (call (Value.ref _) _ _) _ _ _)); (try k_fold); walk1; (try ((first | (with_reducible show wpAny _ _ (spliced _) _ _ _) | (with_reducible show wpAny _ _ (newList _) _ _ _) | (with_reducible show wpAny _ _ (execs _ _) _ _ _)); dsimp only)))))
  refine kl_insert (l := refsOf (insL p ps)) ‹Fr _ _ _ _› ‹News _ _ _ _› (by simp [Builtin.List.listFitsIndex]; omega) ?_ (Upd.head (by simp)) (by simp; show ps.length ≤ 2 ^ 24; omega) ?_
  · show kl_ins (refsOf ps) r (.ref p.1) = _
    unfold kl_ins
    have e1 : (if (r : Int) < 0 then ((r : Int) + ((refsOf ps).length : Int)).toNat else min (r : Int).toNat (refsOf ps).length) = r := by
      rw [if_neg (by omega)]; simp; omega
    rw [e1, ← insL_at p ps r r1 r2 r3]
    simp [refsOf]
  · intro h5 F5 N5
    (repeat' (first | (k_unfold; (try dsimp only)) | ( (fail_if_success (with_reducible show wpAny _ _ (exec (Stmt.While _ _ _ _) _) _ _ _)); (fail_if_success (with_reducible show wpAny _ _ (exec (Stmt.For _ _ _ _ _) _) _ _ _)); (fail_if_success (with_reducible show wpAny _ _ (exec (Stmt.Try _ _ _ _ _) _) _ _ _)); (fail_if_success (with_reducible show wpAny _ _ (pyIter _) (fun it s₂ => Loop _ _ _ _ _ _ _ _ _ _ it s₂) _ _)); (fail_if_success (with_reducible show wpAny _ _ (call (Value.ref _) _ _) _ _ _)); (try k_fold); walk1; (try ((first | (with_reducible show wpAny _ _ (spliced _) _ _ _) | (with_reducible show wpAny _ _ (newList _) _ _ _) | (with_reducible show wpAny _ _ (execs _ _) _ _ _)); dsimp only)))))
    refine hQ _ _ _ (fun b o hb e => F5.keep b o (kg b o (by simpa using hb) e)) ⟨rfl, _, N5.get (.head _)⟩
noncomputable def insP (p : Int × Int) : List (Int × Int) → List (Int × Int)
  | [] => [p]
  | q :: r => if q.1 < p.1 then q :: insP p r else p :: q :: r
theorem insL_map (p : Addr × Int × Int) : ∀ ps : List (Addr × Int × Int), (insL p ps).map (·.2) = insP p.2 (ps.map (·.2))
  | [] => rfl
  | q :: r => by
    simp only [insL, insP, List.map_cons]
    split
    · rw [List.map_cons, insL_map p r]
    · rfl
theorem insL_mem {p : Addr × Int × Int} : ∀ {ps : List (Addr × Int × Int)} {q : Addr × Int × Int}, q ∈ insL p ps → q = p ∨ q ∈ ps
  | [], q, h => by simpa [insL] using h
  | a :: r, q, h => by
    simp only [insL] at h
    split at h
    · rcases List.mem_cons.mp h with e | e
      · exact .inr (by simp [e])
      · rcases insL_mem e with e | e
        · exact .inl e
        · exact .inr (by simp [e])
    · rcases List.mem_cons.mp h with e | e
      · exact .inl e
      · exact .inr e
noncomputable def sortedP (l : List (Int × Int)) : Prop := l.Pairwise fun a b => a.1 ≤ b.1
theorem insP_mem {p : Int × Int} : ∀ {ps : List (Int × Int)} {q : Int × Int}, q ∈ insP p ps → q = p ∨ q ∈ ps
  | [], q, h => by simpa [insP] using h
  | a :: r, q, h => by
    simp only [insP] at h
    split at h
    · rcases List.mem_cons.mp h with e | e
      · exact .inr (by simp [e])
      · rcases insP_mem e with e | e
        · exact .inl e
        · exact .inr (by simp [e])
    · rcases List.mem_cons.mp h with e | e
      · exact .inl e
      · exact .inr e
theorem insP_sorted {p : Int × Int} : ∀ {ps : List (Int × Int)}, sortedP ps → sortedP (insP p ps)
  | [], _ => by simp [sortedP, insP]
  | a :: r, h => by
    obtain ⟨h1, h2⟩ := List.pairwise_cons.mp h
    simp only [insP]
    split
    · refine List.pairwise_cons.mpr ⟨fun q hq => ?_, insP_sorted h2⟩
      rcases insP_mem hq with e | e
      · subst e; omega
      · exact h1 q e
    · refine List.pairwise_cons.mpr ⟨fun q hq => ?_, h⟩
      rcases List.mem_cons.mp hq with e | e
      · subst e; omega
      · have := h1 q e; omega
noncomputable def laidP (ns : List Int) : List (Int × Int) := ns.zipIdx.foldl (fun acc x => insP (x.1, (x.2 : Int)) acc) []
theorem laidP_snoc (ns : List Int) (x : Int) : laidP (ns ++ [x]) = insP (x, (ns.length : Int)) (laidP ns) := by
  unfold laidP
  rw [List.zipIdx_append, List.foldl_append]; simp
theorem laidP_sorted : ∀ ns : List Int, sortedP (laidP ns.reverse)
  | [] => by simp [laidP, sortedP]
  | x :: r => by rw [List.reverse_cons, laidP_snoc]; exact insP_sorted (laidP_sorted r)
theorem insP_length (p : Int × Int) : ∀ l, (insP p l).length = l.length + 1
  | [] => rfl
  | a :: r => by simp only [insP]; split <;> simp [insP_length p r]
theorem laidP_length : ∀ ns : List Int, (laidP ns.reverse).length = ns.length
  | [] => rfl
  | x :: r => by rw [List.reverse_cons, laidP_snoc, insP_length, laidP_length r]; rfl
theorem sorted_of_map {ps : List (Addr × Int × Int)} (h : sortedP (ps.map (·.2))) : ps.Pairwise fun a b => a.2.1 ≤ b.2.1 := by
  simpa [sortedP, List.pairwise_map] using h

noncomputable def PairIn (news : Led) (q : Addr × Int × Int) : Prop := ∃ ti tj n, (q.1, listO [.int q.2.1 ti, .int q.2.2 tj] n) ∈ news
theorem PairIn.at {h₀ h : Heap} {L : Addr} {news : Led} {q : Addr × Int × Int} (p : PairIn news q) (N : News h₀ L h news) : PairAt h q := by
  obtain ⟨ti, tj, n, e⟩ := p; exact ⟨ti, tj, n, N.get e⟩
theorem PairIn.mono {news news' : Led} {q : Addr × Int × Int} (p : PairIn news q) (h : ∀ x ∈ news, x ∈ news') : PairIn news' q := by
  obtain ⟨ti, tj, n, e⟩ := p; exact ⟨ti, tj, n, h _ e⟩

theorem sp_laid {prog : Program} {w : World} {A : Around} {E : Value → Shared → Prop} {s : Shared} {Q : Value → Shared → Prop}
   {fa : Addr} {vs : List Value} {ns : List Int} {nf : Nat}
   (G : Gd w s.heap) (R : Rm A 4) (hl : s.heap.get? fa = some (listO vs nf)) (hi : IntsAre vs ns) (hsz : ns.length ≤ 900)
   (hQ : Out [] s Q (fun v h' => ∃ la ps n, v = .ref la ∧ h'.get? la = some (listO (refsOf ps) n) ∧ s.heap.get? la = none ∧ (∀ q ∈ ps, PairAt h' q ∧ s.heap.get? q.1 = none) ∧ ps.map (·.2) = laidP ns)) :
   wpAny (model prog w) A (call (.ref 147) [.ref fa]) Q E s := by
  (((have kkZq : PySem.Challenge.rw_wu0059_01 = PySem.Challenge.rw_wu0059_01 ∧ Mine.hd.heap_39 = Mine.hd.heap_39 := ⟨rfl, rfl⟩); revert kkZq; k_fill; intro kkZq; clear kkZq; w_on))
  refine enter [(Str.ofString "flags", .ref fa)] G R.room (by k_is) (by k_is) (by (first | exact BindsTo.of_eq rfl | exact binds_K (Gd.X (by assumption)) rfl (by k_is) rfl rfl rfl | exact binds_K (Gd.X (Gd.keeps (by assumption) (by assumption))) rfl (by k_is) rfl rfl rfl)) (locs rfl) (by decide) rfl rfl rfl ?_
  intro L h₁ tk F N X
  have hZqq := G.T
  refine ex5 hZqq ?_; (try clear hZqq); intro pp l m mg mb; intro T
  (repeat' (first | (k_unfold; (try dsimp only)) | ( (fail_if_success (with_reducible show wpAny _ _ (exec (Stmt.While _ _ _ _) _) _ _ _)); (fail_if_success (with_reducible show wpAny _ _ (exec (Stmt.For _ _ _ _ _) _) _ _ _)); (fail_if_success (with_reducible show wpAny _ _ (exec (Stmt.Try _ _ _ _ _) _) _ _ _)); (fail_if_success (with_reducible show wpAny _ _ (pyIter _) (fun it s₂ => Loop _ _ _ _ _ _ _ _ _ _ it s₂) _ _)); (fail_if_success (with_reducible show wpAny _ _ (call (Value.ref _) _ _) _ _ _)); (try k_fold); walk1; (try ((first | (with_reducible show wpAny _ _ (spliced _) _ _ _) | (with_reducible show wpAny _ _ (newList _) _ _ _) | (with_reducible show wpAny _ _ (execs _ _) _ _ _)); dsimp only)))))
  refine r_for s.heap L ?_
  (repeat' (first | (k_unfold; (try dsimp only)) | ( (fail_if_success (with_reducible show wpAny _ _ (exec (Stmt.While _ _ _ _) _) _ _ _)); (fail_if_success (with_reducible show wpAny _ _ (exec (Stmt.For _ _ _ _ _) _) _ _ _)); (fail_if_success (with_reducible show wpAny _ _ (exec (Stmt.Try _ _ _ _ _) _) _ _ _)); (fail_if_success (with_reducible show wpAny _ _ (pyIter _) (fun it s₂ => Loop _ _ _ _ _ _ _ _ _ _ it s₂) _ _)); (fail_if_success (with_reducible show wpAny _ _ (call (Value.ref _) _ _) _ _ _)); (try k_fold); walk1; (try ((first | (with_reducible show wpAny _ _ (spliced _) _ _ _) | (with_reducible show wpAny _ _ (newList _) _ _ _) | (with_reducible show wpAny _ _ (execs _ _) _ _ _)); dsimp only)))))
  have hL : s.heap.IsList fa vs.toArray := ⟨_, hl, rfl, _, rfl⟩
  have hlen := hi.length
  refine PyProof.Rows.len_list (hL.at fun o e => Fr.keep ‹_› _ o e) (by simp; omega) ?_
  (repeat' (first | (k_unfold; (try dsimp only)) | ( (fail_if_success (with_reducible show wpAny _ _ (exec (Stmt.While _ _ _ _) _) _ _ _)); (fail_if_success (with_reducible show wpAny _ _ (exec (Stmt.For _ _ _ _ _) _) _ _ _)); (fail_if_success (with_reducible show wpAny _ _ (exec (Stmt.Try _ _ _ _ _) _) _ _ _)); (fail_if_success (with_reducible show wpAny _ _ (pyIter _) (fun it s₂ => Loop _ _ _ _ _ _ _ _ _ _ it s₂) _ _)); (fail_if_success (with_reducible show wpAny _ _ (call (Value.ref _) _ _) _ _ _)); (try k_fold); walk1; (try ((first | (with_reducible show wpAny _ _ (spliced _) _ _ _) | (with_reducible show wpAny _ _ (newList _) _ _ _) | (with_reducible show wpAny _ _ (execs _ _) _ _ _)); dsimp only)))))
  refine loop_range (n := ns.length) (fun i m news => ∃ la ps n rest, Has m [(Str.ofString "flags", .ref fa), (Str.ofString "lacking", .ref la)] ∧ news = (la, listO (refsOf ps) n) :: rest ∧ (∀ q ∈ ps, PairIn rest q) ∧ (∀ p ∈ rest, p.1 ≠ la) ∧ ps.map (·.2) = laidP (ns.take i))
    R.h ‹_› ‹_› ‹_› rfl (by omega) ⟨_, [], 0, [], ⟨rfl, rfl, trivial⟩, rfl, by simp, by simp, by simp [laidP]⟩ ?_ ?_
  · have hi' := ‹IntsAre vs ns›
    (repeat ((first | (with_reducible rename Fr _ _ _ _ => zzZq) | (with_reducible rename News _ _ _ _ => zzZq) | (with_reducible rename IsRange _ _ _ _ _ _ _ _ => zzZq)); clear zzZq))
    intro i ti m₁ news₁ I oI h tk hi xZq1 hnI F1 N1
    refine ex4 xZq1 ?_; (try clear xZq1); intro la ps n rest; refine and5 ?_; intro em yZq1x5 hps hrest emap
    obtain rfl := yZq1x5
    replace F1 := fr_has F1 em
    refine wpAny_assign_Name ?_
    (repeat' (first | (k_unfold; (try dsimp only)) | ( (fail_if_success (with_reducible show wpAny _ _ (exec (Stmt.While _ _ _ _) _) _ _ _)); (fail_if_success (with_reducible show wpAny _ _ (exec (Stmt.For _ _ _ _ _) _) _ _ _)); (fail_if_success (with_reducible show wpAny _ _ (exec (Stmt.Try _ _ _ _ _) _) _ _ _)); (fail_if_success (with_reducible show wpAny _ _ (pyIter _) (fun it s₂ => Loop _ _ _ _ _ _ _ _ _ _ it s₂) _ _)); (fail_if_success (with_reducible show wpAny _ _ (call (Value.ref _) _ _) _ _ _)); (try k_fold); walk1; (try ((first | (with_reducible show wpAny _ _ (spliced _) _ _ _) | (with_reducible show wpAny _ _ (newList _) _ _ _) | (with_reducible show wpAny _ _ (execs _ _) _ _ _)); dsimp only)))))
    rename News _ _ _ _ => N2
    rename Fr _ _ _ _ => F2
    have hZqq := ‹I < _ ∧ la < _ ∧ AllLt _ rest›
    refine andI hZqq ?_; (try clear hZqq); refine and3 ?_; intro x1 x2 x3
    have x4 := allLt_mem x3
    have x5 : i < vs.length := by omega
    have es : sortedP (laidP (ns.take i)) := by have := laidP_sorted (ns.take i).reverse; rwa [List.reverse_reverse] at this
    have el : ps.length = i := by
      have := congrArg List.length emap
      have e2 := laidP_length (ns.take i).reverse
      rw [List.reverse_reverse] at e2
      rw [List.length_map, e2] at this
      simp at this; omega
    have eg : ns.getD (Int.toNat (i : Int)) 0 = ns[i] := by simp; rw [List.getElem?_eq_getElem hi]; rfl
    rw [eg] at N2
    refine sp_il (p := (_, ns[i], (i : Int))) (ps := ps) (n := n) G F2.keep (R.deeper _) (N2.get (by simp)) (N2.fresh (o := listO (refsOf ps) n) (by simp)) (fun q hq => ((hps q hq).mono (by intro x hx; simp [hx])).at N2) ⟨_, _, 0, N2.get (.head _)⟩ (by omega) (sorted_of_map (by rw [emap]; exact es)) ?_
    intro v h5 tk5 kb xZq1
    obtain ⟨rfl, n', e5⟩ := xZq1
    have F3 := fr_turn (o := listO (refsOf ps) n) F2 N2 (by simp) kb
    have N3 := news_turn (pre := [_, _]) N2 kb e5 (by intro p hp; simp at hp; rcases hp with rfl | rfl; exact Nat.ne_of_gt x2; exact fun z => hnI (la, listO (refsOf ps) n) (.head _) z.symm) hrest
    (repeat' (first | (k_unfold; (try dsimp only)) | ( (fail_if_success (with_reducible show wpAny _ _ (exec (Stmt.While _ _ _ _) _) _ _ _)); (fail_if_success (with_reducible show wpAny _ _ (exec (Stmt.For _ _ _ _ _) _) _ _ _)); (fail_if_success (with_reducible show wpAny _ _ (exec (Stmt.Try _ _ _ _ _) _) _ _ _)); (fail_if_success (with_reducible show wpAny _ _ (pyIter _) (fun it s₂ => Loop _ _ _ _ _ _ _ _ _ _ it s₂) _ _)); (fail_if_success (with_reducible show wpAny _ _ (call (Value.ref _) _ _) _ _ _)); (try k_fold); walk1; (try ((first | (with_reducible show wpAny _ _ (spliced _) _ _ _) | (with_reducible show wpAny _ _ (newList _) _ _ _) | (with_reducible show wpAny _ _ (execs _ _) _ _ _)); dsimp only)))))
    refine ⟨_, _, _, _, rfl, F3, news_rot N3, ?_, la, _, _, _, ⟨rfl, rfl, trivial⟩, rfl, ?_, ?_, ?_⟩
    · intro p hp
      simp at hp
      rcases hp with rfl | rfl | h
      · exact hnI (la, listO (refsOf ps) n) (.head _)
      · exact Nat.ne_of_gt x1
      · exact hnI _ (.tail _ h)
    · intro q hq
      rcases insL_mem hq with rfl | h
      · exact ⟨_, _, 0, .head _⟩
      · exact (hps q h).mono fun x hx => .tail _ hx
    · intro p hp
      rcases List.mem_cons.mp hp with rfl | h
      · exact Nat.ne_of_gt x2
      · exact hrest p h
    · rw [insL_map, emap, List.take_add_one, List.getElem?_eq_getElem hi, Option.toList_some, laidP_snoc]
      rw [show (ns.take i).length = i by simp; omega]
  · (repeat ((first | (with_reducible rename Fr _ _ _ _ => zzZq) | (with_reducible rename News _ _ _ _ => zzZq) | (with_reducible rename IsRange _ _ _ _ _ _ _ _ => zzZq)); clear zzZq))
    intro h tk m₁ news₁ xZq1 F1 N1
    refine ex4 xZq1 ?_; (try clear xZq1); intro la ps n rest; refine and5 ?_; intro em yZq4x5 hps hrest emap
    obtain rfl := yZq4x5
    replace F1 := fr_has F1 em
    (repeat' (first | (k_unfold; (try dsimp only)) | ( (fail_if_success (with_reducible show wpAny _ _ (exec (Stmt.While _ _ _ _) _) _ _ _)); (fail_if_success (with_reducible show wpAny _ _ (exec (Stmt.For _ _ _ _ _) _) _ _ _)); (fail_if_success (with_reducible show wpAny _ _ (exec (Stmt.Try _ _ _ _ _) _) _ _ _)); (fail_if_success (with_reducible show wpAny _ _ (pyIter _) (fun it s₂ => Loop _ _ _ _ _ _ _ _ _ _ it s₂) _ _)); (fail_if_success (with_reducible show wpAny _ _ (call (Value.ref _) _ _) _ _ _)); (try k_fold); walk1; (try ((first | (with_reducible show wpAny _ _ (spliced _) _ _ _) | (with_reducible show wpAny _ _ (newList _) _ _ _) | (with_reducible show wpAny _ _ (execs _ _) _ _ _)); dsimp only)))))
    rw [List.take_length] at emap
    refine hQ _ _ _ (Kb.of _ F1.keep) ⟨la, ps, n, rfl, N1.get (.head _), N1.fresh (.head _), fun q hq => ⟨((hps q hq).mono fun x hx => .tail _ hx).at N1, ?_⟩, emap⟩
    have hZqq := hps q hq
    refine ex3 hZqq ?_; (try clear hZqq); intro _ _ _; intro e
    exact N1.fresh (.tail _ e)
noncomputable def srt (l : List Int) : List Int := l.mergeSort fun a b => decide (a ≤ b)
theorem srt_perm (l : List Int) : (srt l).Perm l := List.mergeSort_perm _ _
theorem srt_pair (l : List Int) : (srt l).Pairwise (· ≤ ·) := by
  have := List.pairwise_mergeSort (le := fun a b : Int => decide (a ≤ b)) (by intro a b c; simp; omega) (by intro a b; simp; omega) l
  exact this.imp (by intro a b h; simpa using h)
theorem srt_uniq {l n : List Int} (p : n.Perm l) (o : n.Pairwise (· ≤ ·)) : n = srt l := lks_uniq (p.trans (srt_perm l).symm) o (srt_pair l)
noncomputable def bnd (rs fs : List Int) (a : Nat) : Int := ((srt rs).take (rs.length - a)).sum + (fs.map fun k => if (a : Int) < k then (a : Int) else k).sum
theorem sp_least {prog : Program} {w : World} {A : Around} {E : Value → Shared → Prop} {s : Shared} {Q : Value → Shared → Prop}
   {ra fa : Addr} {vr vf : List Value} {rs fs : List Int} {nr nf : Nat}
   (G : Gd w s.heap) (R : Rm A 4) (hr : s.heap.get? ra = some (listO vr nr)) (hir : IntsAre vr rs) (hf : s.heap.get? fa = some (listO vf nf)) (hif : IntsAre vf fs)
   (hzr : rs.length ≤ 6) (hzf : fs.length ≤ 6) (hbr : ∀ x ∈ rs, 0 ≤ x ∧ x < 2 ^ 20) (hbf : ∀ x ∈ fs, 0 ≤ x ∧ x < 2 ^ 20)
   (hQ : Out [] s Q (fun v h' => ∃ M t, v = .int M t ∧ (∃ a, a ≤ rs.length ∧ M = bnd rs fs a) ∧ ∀ a, a ≤ rs.length → M ≤ bnd rs fs a)) :
   wpAny (model prog w) A (call (.ref 171) [.ref ra, .ref fa]) Q E s := by
  (((have kkZq : PySem.Challenge.rw_wu0059_01 = PySem.Challenge.rw_wu0059_01 ∧ Mine.hd.heap_39 = Mine.hd.heap_39 := ⟨rfl, rfl⟩); revert kkZq; k_fill; intro kkZq; clear kkZq; w_on))
  (((rename Rm _ _ => rrZq); (rename Around => aaZq); (have e0Zq := Rm.h rrZq); rcases aaZq with ⟨hhZq, d1Zq, d2Zq, d3Zq, d4Zq⟩; dsimp only at e0Zq; subst e0Zq))
  have R := ‹Rm _ 4›
  refine enterC [(Str.ofString "rows", .ref ra), (Str.ofString "flags", .ref fa)] G R.room (by k_is) (by k_is) (by (first | exact BindsTo.of_eq rfl | exact binds_K (Gd.X (by assumption)) rfl (by k_is) rfl rfl rfl | exact binds_K (Gd.X (Gd.keeps (by assumption) (by assumption))) rfl (by k_is) rfl rfl rfl)) rfl (by decide +kernel) rfl rfl rfl ?_
  intro L h₁ tk cells F N Y X
  have hZqq := G.T
  refine ex5 hZqq ?_; (try clear hZqq); intro pp l m mg mb; intro T
  k_cells Y
  (repeat' (first | (k_unfold; (try dsimp only)) | ( (fail_if_success (with_reducible show wpAny _ _ (exec (Stmt.While _ _ _ _) _) _ _ _)); (fail_if_success (with_reducible show wpAny _ _ (exec (Stmt.For _ _ _ _ _) _) _ _ _)); (fail_if_success (with_reducible show wpAny _ _ (exec (Stmt.Try _ _ _ _ _) _) _ _ _)); (fail_if_success (with_reducible show wpAny _ _ (pyIter _) (fun it s₂ => Loop _ _ _ _ _ _ _ _ _ _ it s₂) _ _)); (fail_if_success (with_reducible show wpAny _ _ (call (Value.ref _) _ _) _ _ _)); walk1; (try ((first | (with_reducible show wpAny _ _ (spliced _) _ _ _) | (with_reducible show wpAny _ _ (newList _) _ _ _) | (with_reducible show wpAny _ _ (execs _ _) _ _ _)); dsimp only)))))
  refine r_for s.heap L ?_
  (repeat' (first | (k_unfold; (try dsimp only)) | ( (fail_if_success (with_reducible show wpAny _ _ (exec (Stmt.While _ _ _ _) _) _ _ _)); (fail_if_success (with_reducible show wpAny _ _ (exec (Stmt.For _ _ _ _ _) _) _ _ _)); (fail_if_success (with_reducible show wpAny _ _ (exec (Stmt.Try _ _ _ _ _) _) _ _ _)); (fail_if_success (with_reducible show wpAny _ _ (pyIter _) (fun it s₂ => Loop _ _ _ _ _ _ _ _ _ _ it s₂) _ _)); (fail_if_success (with_reducible show wpAny _ _ (call (Value.ref _) _ _) _ _ _)); walk1; (try ((first | (with_reducible show wpAny _ _ (spliced _) _ _ _) | (with_reducible show wpAny _ _ (newList _) _ _ _) | (with_reducible show wpAny _ _ (execs _ _) _ _ _)); dsimp only)))))
  have hLr : s.heap.IsList ra vr.toArray := ⟨_, hr, rfl, _, rfl⟩
  have hLf : s.heap.IsList fa vf.toArray := ⟨_, hf, rfl, _, rfl⟩
  have hlen := hir.length
  have hlen' := hif.length
  refine PyProof.Rows.len_list (hLr.at fun o e => Fr.keep ‹_› _ o e) (by simp; omega) ?_
  (repeat' (first | (k_unfold; (try dsimp only)) | ( (fail_if_success (with_reducible show wpAny _ _ (exec (Stmt.While _ _ _ _) _) _ _ _)); (fail_if_success (with_reducible show wpAny _ _ (exec (Stmt.For _ _ _ _ _) _) _ _ _)); (fail_if_success (with_reducible show wpAny _ _ (exec (Stmt.Try _ _ _ _ _) _) _ _ _)); (fail_if_success (with_reducible show wpAny _ _ (pyIter _) (fun it s₂ => Loop _ _ _ _ _ _ _ _ _ _ it s₂) _ _)); (fail_if_success (with_reducible show wpAny _ _ (call (Value.ref _) _ _) _ _ _)); walk1; (try ((first | (with_reducible show wpAny _ _ (spliced _) _ _ _) | (with_reducible show wpAny _ _ (newList _) _ _ _) | (with_reducible show wpAny _ _ (execs _ _) _ _ _)); dsimp only)))))
  refine loop_range (n := rs.length + 1) (fun i m news => ∃ ba vs n o u, Has m [(Str.ofString "rows", .ref ra), (Str.ofString "flags", .ref fa), (Str.ofString "bounds", .ref ba)] ∧ news = [(ba, listO vs n), (L + 1, o)] ∧ o.data = .cell u ∧ L + 1 ≠ ba ∧ IntsAre vs ((List.range i).map (bnd rs fs)))
    rfl ‹_› ‹_› ‹_› (by omega) (by omega) ⟨_, [], 0, _, _, ⟨rfl, rfl, rfl, trivial⟩, rfl, by assumption, Nat.ne_of_lt (by assumption), .nil⟩ ?_ ?_
  · (repeat ((first | (with_reducible rename Fr _ _ _ _ => zzZq) | (with_reducible rename News _ _ _ _ => zzZq) | (with_reducible rename IsRange _ _ _ _ _ _ _ _ => zzZq)); clear zzZq))
    intro i ti m₁ news₁ I oI h tk hi xZq1 hnI F1 N1
    refine ex5 xZq1 ?_; (try clear xZq1); intro ba vs n o u; refine and5 ?_; intro em yZq1x6 eo hba hints
    obtain rfl := yZq1x6
    replace F1 := fr_has F1 em
    have y1 : (I : Nat) ≠ L + 1 := fun z => hnI (L + 1, o) (by simp) z.symm
    have y2 : (ba : Nat) ≠ L + 1 := Ne.symm hba
    have y3 : (I : Nat) ≠ ba := fun z => hnI (ba, listO vs n) (by simp) z.symm
    refine wpAny_assign_Name ?_
    (repeat' (first | (k_unfold; (try dsimp only)) | ( (fail_if_success (with_reducible show wpAny _ _ (exec (Stmt.While _ _ _ _) _) _ _ _)); (fail_if_success (with_reducible show wpAny _ _ (exec (Stmt.For _ _ _ _ _) _) _ _ _)); (fail_if_success (with_reducible show wpAny _ _ (exec (Stmt.Try _ _ _ _ _) _) _ _ _)); (fail_if_success (with_reducible show wpAny _ _ (pyIter _) (fun it s₂ => Loop _ _ _ _ _ _ _ _ _ _ it s₂) _ _)); (fail_if_success (with_reducible show wpAny _ _ (call (Value.ref _) _ _) _ _ _)); walk1; (try ((first | (with_reducible show wpAny _ _ (spliced _) _ _ _) | (with_reducible show wpAny _ _ (newList _) _ _ _) | (with_reducible show wpAny _ _ (execs _ _) _ _ _)); dsimp only)))))
    have es : ‹List Int› = srt rs := srt_uniq ‹_› ‹_›
    rename Obj => oc
    refine r_append [(I, oI), (L + 1, oc)] ‹_› ‹_› (D := ba) (vs := vs) (n := n) (by simp) ?_ (by have := hints.length; simp at this; omega) ?_
    · intro p hp
      simp at hp
      rcases hp with rfl | rfl
      · exact ⟨by simp, y3⟩
      · exact ⟨by simp, hba⟩
    intro h5 F5 N5
    (repeat' (first | (k_unfold; (try dsimp only)) | ( (fail_if_success (with_reducible show wpAny _ _ (exec (Stmt.While _ _ _ _) _) _ _ _)); (fail_if_success (with_reducible show wpAny _ _ (exec (Stmt.For _ _ _ _ _) _) _ _ _)); (fail_if_success (with_reducible show wpAny _ _ (exec (Stmt.Try _ _ _ _ _) _) _ _ _)); (fail_if_success (with_reducible show wpAny _ _ (pyIter _) (fun it s₂ => Loop _ _ _ _ _ _ _ _ _ _ it s₂) _ _)); (fail_if_success (with_reducible show wpAny _ _ (call (Value.ref _) _ _) _ _ _)); walk1; (try ((first | (with_reducible show wpAny _ _ (spliced _) _ _ _) | (with_reducible show wpAny _ _ (newList _) _ _ _) | (with_reducible show wpAny _ _ (execs _ _) _ _ _)); dsimp only)))))
    refine ⟨_, _, _, _, rfl, F5, news_rot2 N5, ?_, ba, _, _, oc, _, ⟨rfl, rfl, rfl, trivial⟩, rfl, by assumption, hba, ?_⟩
    · intro p hp
      simp at hp
      rcases hp with rfl | rfl
      · exact Ne.symm y3
      · exact Ne.symm y1
    · rw [List.range_succ, List.map_append]
      have e9 : bnd rs fs i = ((srt rs).take (Int.toNat ((rs.length : Int) - (i : Int)))).sum + (fs.map fun k => if (i : Int) < k then (i : Int) else k).sum := by
        unfold bnd; congr 3; omega
      show IntsAre _ (_ ++ [bnd rs fs i])
      rw [e9, ← es]
      exact ints_snoc hints
  · (repeat ((first | (with_reducible rename Fr _ _ _ _ => zzZq) | (with_reducible rename News _ _ _ _ => zzZq) | (with_reducible rename IsRange _ _ _ _ _ _ _ _ => zzZq)); clear zzZq))
    intro h tk m₁ news₁ xZq1 F1 N1
    refine ex5 xZq1 ?_; (try clear xZq1); intro ba vs n o u; refine and5 ?_; intro em yZq2x6 eo hba hints
    obtain rfl := yZq2x6
    replace F1 := fr_has F1 em
    (repeat' (first | (k_unfold; (try dsimp only)) | ( (fail_if_success (with_reducible show wpAny _ _ (exec (Stmt.While _ _ _ _) _) _ _ _)); (fail_if_success (with_reducible show wpAny _ _ (exec (Stmt.For _ _ _ _ _) _) _ _ _)); (fail_if_success (with_reducible show wpAny _ _ (exec (Stmt.Try _ _ _ _ _) _) _ _ _)); (fail_if_success (with_reducible show wpAny _ _ (pyIter _) (fun it s₂ => Loop _ _ _ _ _ _ _ _ _ _ it s₂) _ _)); (fail_if_success (with_reducible show wpAny _ _ (call (Value.ref _) _ _) _ _ _)); walk1; (try ((first | (with_reducible show wpAny _ _ (spliced _) _ _ _) | (with_reducible show wpAny _ _ (newList _) _ _ _) | (with_reducible show wpAny _ _ (execs _ _) _ _ _)); dsimp only)))))
    refine min_list_N rfl ‹_› ‹_› ⟨_, N1.get (.head _), rfl, n, rfl⟩ hints (by simp) ?_
    rintro h5 M t tk5 F5 N5 hM hle
    (repeat' (first | (k_unfold; (try dsimp only)) | ( (fail_if_success (with_reducible show wpAny _ _ (exec (Stmt.While _ _ _ _) _) _ _ _)); (fail_if_success (with_reducible show wpAny _ _ (exec (Stmt.For _ _ _ _ _) _) _ _ _)); (fail_if_success (with_reducible show wpAny _ _ (exec (Stmt.Try _ _ _ _ _) _) _ _ _)); (fail_if_success (with_reducible show wpAny _ _ (pyIter _) (fun it s₂ => Loop _ _ _ _ _ _ _ _ _ _ it s₂) _ _)); (fail_if_success (with_reducible show wpAny _ _ (call (Value.ref _) _ _) _ _ _)); walk1; (try ((first | (with_reducible show wpAny _ _ (spliced _) _ _ _) | (with_reducible show wpAny _ _ (newList _) _ _ _) | (with_reducible show wpAny _ _ (execs _ _) _ _ _)); dsimp only)))))
    refine hQ _ _ _ (Kb.of _ F5.keep) ⟨M, _, rfl, ?_, ?_⟩
    · have hZqq := List.mem_map.mp hM
      refine ex1 hZqq ?_; (try clear hZqq); intro a; refine and2 ?_; intro ha yZq3x2
      obtain rfl := yZq3x2
      exact ⟨a, by have := List.mem_range.mp ha; omega, rfl⟩
    · intro a ha
      exact hle _ (List.mem_map.mpr ⟨a, List.mem_range.mpr (by omega), rfl⟩)
theorem bitOr_nat (a b : Nat) : Builtin.bitOr (a : Int) (b : Int) = ((a ||| b : Nat) : Int) := by
  rw [← bitOr_eq]
  have na : ∀ n : Nat, Spec.bitNot (n : Int) = -(n : Int) - 1 := fun n => by unfold Spec.bitNot; omega
  unfold Spec.bitOr Spec.bitAnd
  have h1 : decide (0 ≤ Spec.bitNot (a : Int)) = false := by rw [na]; simp; omega
  have h2 : decide (0 ≤ Spec.bitNot (b : Int)) = false := by rw [na]; simp; omega
  simp only [h1, h2]
  have nn : ∀ n : Nat, Spec.bitNot (Spec.bitNot (n : Int)) = (n : Int) := fun n => by unfold Spec.bitNot; omega
  rw [nn, nn, nn]; simp
theorem sp_isub {prog : Program} {w : World} {A : Around} {E : Value → Shared → Prop} {s : Shared} {Q : Value → Shared → Prop}
   {a b : Int} {ta tb : Tok} (G : Gd w s.heap) (R : Rm A 0) (hQ : Out [] s Q (fun v h' => ∃ t, v = .int (a - b) t)) :
   wpAny (model prog w) A (call (.ref 105) [.int a ta, .int b tb]) Q E s := by
  (((have kkZq : PySem.Challenge.rw_wu0059_01 = PySem.Challenge.rw_wu0059_01 ∧ Mine.hd.heap_39 = Mine.hd.heap_39 := ⟨rfl, rfl⟩); revert kkZq; k_fill; intro kkZq; clear kkZq; w_on))
  (((rename Rm _ _ => rrZq); (rename Around => aaZq); (have e0Zq := Rm.h rrZq); rcases aaZq with ⟨hhZq, d1Zq, d2Zq, d3Zq, d4Zq⟩; dsimp only at e0Zq; subst e0Zq))
  have R := ‹Rm _ 0›
  refine enter [(Str.ofString "a", .int a ta), (Str.ofString "b", .int b tb)] G R.room (by k_is) (by k_is) (by (first | exact BindsTo.of_eq rfl | exact binds_K (Gd.X (by assumption)) rfl (by k_is) rfl rfl rfl | exact binds_K (Gd.X (Gd.keeps (by assumption) (by assumption))) rfl (by k_is) rfl rfl rfl)) (locs rfl) (by decide) rfl rfl rfl ?_
  intro L h₁ tk F N X
  have hZqq := G.T
  refine ex5 hZqq ?_; (try clear hZqq); intro pp l m mg mb; intro T
  (repeat' (first | (k_unfold; (try dsimp only)) | ( (fail_if_success (with_reducible show wpAny _ _ (exec (Stmt.While _ _ _ _) _) _ _ _)); (fail_if_success (with_reducible show wpAny _ _ (exec (Stmt.For _ _ _ _ _) _) _ _ _)); (fail_if_success (with_reducible show wpAny _ _ (exec (Stmt.Try _ _ _ _ _) _) _ _ _)); (fail_if_success (with_reducible show wpAny _ _ (pyIter _) (fun it s₂ => Loop _ _ _ _ _ _ _ _ _ _ it s₂) _ _)); (fail_if_success (with_reducible show wpAny _ _ (call (Value.ref _) _ _) _ _ _)); walk1; (try ((first | (with_reducible show wpAny _ _ (spliced _) _ _ _) | (with_reducible show wpAny _ _ (newList _) _ _ _) | (with_reducible show wpAny _ _ (execs _ _) _ _ _)); dsimp only)))))
  exact hQ _ _ _ (Kb.of _ (Fr.keep ‹_›)) ⟨_, rfl⟩
theorem sp_ior {prog : Program} {w : World} {A : Around} {E : Value → Shared → Prop} {s : Shared} {Q : Value → Shared → Prop}
   {a b : Nat} {ta tb : Tok} (G : Gd w s.heap) (R : Rm A 0) (hQ : Out [] s Q (fun v h' => ∃ t, v = .int ((a ||| b : Nat) : Int) t)) :
   wpAny (model prog w) A (call (.ref 98) [.int a ta, .int b tb]) Q E s := by
  (((have kkZq : PySem.Challenge.rw_wu0059_01 = PySem.Challenge.rw_wu0059_01 ∧ Mine.hd.heap_39 = Mine.hd.heap_39 := ⟨rfl, rfl⟩); revert kkZq; k_fill; intro kkZq; clear kkZq; w_on))
  (((rename Rm _ _ => rrZq); (rename Around => aaZq); (have e0Zq := Rm.h rrZq); rcases aaZq with ⟨hhZq, d1Zq, d2Zq, d3Zq, d4Zq⟩; dsimp only at e0Zq; subst e0Zq))
  have R := ‹Rm _ 0›
  refine enter [(Str.ofString "a", .int a ta), (Str.ofString "b", .int b tb)] G R.room (by k_is) (by k_is) (by (first | exact BindsTo.of_eq rfl | exact binds_K (Gd.X (by assumption)) rfl (by k_is) rfl rfl rfl | exact binds_K (Gd.X (Gd.keeps (by assumption) (by assumption))) rfl (by k_is) rfl rfl rfl)) (locs rfl) (by decide) rfl rfl rfl ?_
  intro L h₁ tk F N X
  have hZqq := G.T
  refine ex5 hZqq ?_; (try clear hZqq); intro pp l m mg mb; intro T
  (repeat' (first | (k_unfold; (try dsimp only)) | ( (fail_if_success (with_reducible show wpAny _ _ (exec (Stmt.While _ _ _ _) _) _ _ _)); (fail_if_success (with_reducible show wpAny _ _ (exec (Stmt.For _ _ _ _ _) _) _ _ _)); (fail_if_success (with_reducible show wpAny _ _ (exec (Stmt.Try _ _ _ _ _) _) _ _ _)); (fail_if_success (with_reducible show wpAny _ _ (pyIter _) (fun it s₂ => Loop _ _ _ _ _ _ _ _ _ _ it s₂) _ _)); (fail_if_success (with_reducible show wpAny _ _ (call (Value.ref _) _ _) _ _ _)); walk1; (try ((first | (with_reducible show wpAny _ _ (spliced _) _ _ _) | (with_reducible show wpAny _ _ (newList _) _ _ _) | (with_reducible show wpAny _ _ (execs _ _) _ _ _)); dsimp only)))))
  exact hQ _ _ _ (Kb.of _ (Fr.keep ‹_›)) ⟨_, congrArg (fun z => Value.int z _) (bitOr_nat a b)⟩
theorem sp_ilshift {prog : Program} {w : World} {A : Around} {E : Value → Shared → Prop} {s : Shared} {Q : Value → Shared → Prop}
   {k : Nat} {ta tb : Tok} (hk : k < 6) (G : Gd w s.heap) (R : Rm A 0) (hQ : Out [] s Q (fun v h' => ∃ t, v = .int ((2 ^ (7 + k) : Nat) : Int) t)) :
   wpAny (model prog w) A (call (.ref 91) [.int 128 ta, .int k tb]) Q E s := by
  (((have kkZq : PySem.Challenge.rw_wu0059_01 = PySem.Challenge.rw_wu0059_01 ∧ Mine.hd.heap_39 = Mine.hd.heap_39 := ⟨rfl, rfl⟩); revert kkZq; k_fill; intro kkZq; clear kkZq; w_on))
  (((rename Rm _ _ => rrZq); (rename Around => aaZq); (have e0Zq := Rm.h rrZq); rcases aaZq with ⟨hhZq, d1Zq, d2Zq, d3Zq, d4Zq⟩; dsimp only at e0Zq; subst e0Zq))
  have R := ‹Rm _ 0›
  refine enter [(Str.ofString "a", .int 128 ta), (Str.ofString "b", .int k tb)] G R.room (by k_is) (by k_is) (by (first | exact BindsTo.of_eq rfl | exact binds_K (Gd.X (by assumption)) rfl (by k_is) rfl rfl rfl | exact binds_K (Gd.X (Gd.keeps (by assumption) (by assumption))) rfl (by k_is) rfl rfl rfl)) (locs rfl) (by decide) rfl rfl rfl ?_
  intro L h₁ tk F N X
  have hZqq := G.T
  refine ex5 hZqq ?_; (try clear hZqq); intro pp l m mg mb; intro T
  (repeat' (first | (k_unfold; (try dsimp only)) | ( (fail_if_success (with_reducible show wpAny _ _ (exec (Stmt.While _ _ _ _) _) _ _ _)); (fail_if_success (with_reducible show wpAny _ _ (exec (Stmt.For _ _ _ _ _) _) _ _ _)); (fail_if_success (with_reducible show wpAny _ _ (exec (Stmt.Try _ _ _ _ _) _) _ _ _)); (fail_if_success (with_reducible show wpAny _ _ (pyIter _) (fun it s₂ => Loop _ _ _ _ _ _ _ _ _ _ it s₂) _ _)); (fail_if_success (with_reducible show wpAny _ _ (call (Value.ref _) _ _) _ _ _)); walk1; (try ((first | (with_reducible show wpAny _ _ (spliced _) _ _ _) | (with_reducible show wpAny _ _ (newList _) _ _ _) | (with_reducible show wpAny _ _ (execs _ _) _ _ _)); dsimp only)))))
  have e9 : (128 : Int) * 2 ^ Int.toNat (k : Int) = ((2 ^ (7 + k) : Nat) : Int) := by
    rcases k with _ | _ | _ | _ | _ | _ | k <;> first | rfl | omega
  exact hQ _ _ _ (Kb.of _ (Fr.keep ‹_›)) ⟨_, congrArg (fun z => Value.int z _) e9⟩
noncomputable def fil (D : Addr) (news : Led) : Led := news.filter fun p => p.1 != D
theorem mem_fil {D : Addr} {news : Led} {p : Addr × Obj} : p ∈ fil D news ↔ p ∈ news ∧ p.1 ≠ D := by simp [fil]
theorem PairIn.fil {D : Addr} {news : Led} {q : Addr × Int × Int} (h : PairIn news q) (hn : q.1 ≠ D) : PairIn (fil D news) q := by
  obtain ⟨ti, tj, n, e⟩ := h; exact ⟨ti, tj, n, mem_fil.mpr ⟨e, hn⟩⟩
theorem PairIn.cons {x : Addr × Obj} {news : Led} {q : Addr × Int × Int} (h : PairIn news q) : PairIn (x :: news) q := h.mono fun _ m => .tail _ m
theorem PairIn.ne_list {h₀ h : Heap} {L la : Addr} {news : Led} {q : Addr × Int × Int} {ps : List (Addr × Int × Int)} {n : Nat} (p : PairIn news q) (N : News h₀ L h news) (e : (la, listO (refsOf ps) n) ∈ news) : q.1 ≠ la := pair_ne_list (p.at N) (N.get e)

section
variable {prog : Program} {w : World} {A : Around} {E : Value → Shared → Prop} {s : Shared} {h₀ : Heap} {L : Addr} {m : Str → Option Value} {news : Led}
theorem news_fil {h : Heap} {D : Addr} (N : News h₀ L h news) : News h₀ L h (fil D news) := fun p hp => N p (mem_fil.mp hp).1
theorem turn_end {I : Addr} {oI : Obj} {h' : Heap} {tk : Nat} {Jn : (Str → Option Value) → Led → Prop} (hI : (I, oI) ∈ news) (F : Fr h₀ L h' m) (N : News h₀ L h' news) (hJ : Jn m (fil I news)) :
    Hold (∃ h₁ tk₁ m' news', ({ s with heap := h', toks := tk } : Shared) = { s with heap := h₁, toks := tk₁ } ∧ Fr h₀ L h₁ m' ∧ News h₀ L h₁ ((I, oI) :: news') ∧ (∀ p ∈ news', p.1 ≠ I) ∧ Jn m' news') :=
  ⟨h', tk, m, fil I news, rfl, F, fun p hp => by
    rcases List.mem_cons.mp hp with rfl | q
    · exact N _ hI
    · exact N p (mem_fil.mp q).1, fun p hp => (mem_fil.mp hp).2, hJ⟩
theorem news_call {h h' : Heap} {D : Addr} {o o' : Obj} (N : News h₀ L h news) (hm : (D, o) ∈ news) (k : Kb [D] h h') (e : h'.get? D = some o') : News h₀ L h' ((D, o') :: fil D news) := fun p hp => by
  rcases List.mem_cons.mp hp with rfl | q
  · exact ⟨e, (N _ hm).2⟩
  · have := mem_fil.mp q
    exact ⟨k _ _ (by simpa using this.2) (N p this.1).1, (N p this.1).2⟩
theorem r_append' {D : Addr} {vs : List Value} {n : Nat} {x : Value} {Q : Value → Shared → Prop} (F : Fr h₀ L s.heap m) (N : News h₀ L s.heap news) (hm : (D, listO vs n) ∈ news)
    (hz : vs.length ≤ 1000) (h : ∀ h', Fr h₀ L h' m → News h₀ L h' ((D, listO (vs ++ [x]) (n + 1)) :: fil D news) → Q .none { s with heap := h' }) :
    wpAny (model prog w) A (call (.builtin "list.append") [.ref D, x]) Q E s :=
  r_append (fil D news) F N hm (fun p hp => mem_fil.mp hp) hz h
theorem last_snoc (p : List Value) (y : Value) : kl_last (p ++ [y]) = some (p, y) := by
  induction p with
  | nil => rfl
  | cons x r ih => show (match kl_last (r ++ [y]) with | some (p, y) => some (x :: p, y) | none => some ([], x)) = _; rw [ih]
theorem r_pop {D : Addr} {p : List Value} {n : Nat} {y : Value} {Q : Value → Shared → Prop} (F : Fr h₀ L s.heap m) (N : News h₀ L s.heap news) (hm : (D, listO (p ++ [y]) n) ∈ news)
    (hz : p.length ≤ 1000) (h : ∀ h', Fr h₀ L h' m → News h₀ L h' ((D, listO p (n + 1)) :: fil D news) → Q y { s with heap := h' }) :
    wpAny (model prog w) A (call (.builtin "list.pop") [.ref D]) Q E s := by
  have N' : News h₀ L s.heap ((D, PySem.W.listOf (p ++ [y]).toArray n) :: fil D news) := fun q hq => by
    rcases List.mem_cons.mp hq with rfl | z
    · exact N _ hm
    · exact N q (mem_fil.mp z).1
  exact kl_pop F N' (by simpa using last_snoc p y) (Upd.head fun q hq => (mem_fil.mp hq).2) (by simp; show p.length + 1 ≤ 2 ^ 24; omega) h
theorem r_len {D : Addr} {vs : List Value} {n : Nat} {Q : Value → Shared → Prop} (N : News h₀ L s.heap news) (hm : (D, listO vs n) ∈ news) (hz : vs.length ≤ 1000)
    (h : ∀ t tk, Q (.int vs.length t) { s with toks := tk }) : wpAny (model prog w) A (call (.builtin "len") [.ref D]) Q E s := by
  have e : (vs.toArray.size : Int) = vs.length := by simp
  refine PyProof.Rows.len_list ⟨_, N.get hm, rfl, n, rfl⟩ (by rw [e]; omega) ?_
  rw [e]; exact h _ _
/-- the pairs of a call, as a ledger -/
theorem pairs_led {h : Heap} : ∀ (ps : List (Addr × Int × Int)), (∀ q ∈ ps, PairAt h q ∧ h₀.get? q.1 = none ∧ q.1 ≠ L) → ∃ rest : Led, News h₀ L h rest ∧ (∀ q ∈ ps, PairIn rest q) ∧ ∀ p ∈ rest, ∃ q ∈ ps, p.1 = q.1
  | [], _ => ⟨[], News.nil, by simp, by simp⟩
  | q :: r, hq => by
    have hZqq := pairs_led r fun x hx => hq x (.tail _ hx)
    refine ex1 hZqq ?_; (try clear hZqq); intro rest; refine and3 ?_; intro N h1 h2
    have hZqq := hq q (.head _)
    refine andI hZqq ?_; (try clear hZqq); refine and3 ?_; intro yZq1x0 h0 hL
    refine ex3 yZq1x0 ?_; (try clear yZq1x0); intro ti tj n; intro e
    refine ⟨(q.1, _) :: rest, news_add N e hL h0, fun x hx => ?_, fun p hp => ?_⟩
    · rcases List.mem_cons.mp hx with rfl | z
      · exact ⟨ti, tj, n, .head _⟩
      · exact (h1 x z).cons
    · rcases List.mem_cons.mp hp with rfl | z
      · exact ⟨q, .head _, rfl⟩
      · have hZqq := h2 p z
        refine ex1 hZqq ?_; (try clear hZqq); intro y; refine and2 ?_; intro hy e
        exact ⟨y, .tail _ hy, e⟩
end

theorem ne_frame {h₀ h : Heap} {L a : Addr} {o : Obj} {m : Str → Option Value} (F : Fr h₀ L h m) (e : h₀.get? a = some o) : a ≠ L := by
  have h1 := F.above
  have h2 := Heap.lt_size e
  rintro rfl; exact Nat.lt_irrefl _ (Nat.lt_of_lt_of_le h2 h1)

section
variable {prog : Program} {w : World} {A : Around} {E : Value → Shared → Prop} {s : Shared} {env : Env}
noncomputable def TurnEnd2 (h₀ : Heap) (L I : Addr) (oI : Obj) (l : Addr) (ol : Obj) (s : Shared) (Jn : (Str → Option Value) → Led → Prop) (Q : Flow → Shared → Prop) (f : Flow) (s₃ : Shared) : Prop :=
  match f with
  | .next | .cont => Hold (∃ h' tk m' news', s₃ = { s with heap := h', toks := tk } ∧ Fr h₀ L h' m' ∧ News h₀ L h' ((I, oI) :: (l, ol) :: news') ∧ (∀ p ∈ news', p.1 ≠ I) ∧ Jn m' news')
  | .brk => Q .next s₃
  | .ret v => Q (.ret v) s₃
theorem turn_end2 {h₀ : Heap} {L I l : Addr} {oI ol : Obj} {h' : Heap} {tk : Nat} {m : Str → Option Value} {news : Led} {Jn : (Str → Option Value) → Led → Prop} (hI : (I, oI) ∈ news) (hl : (l, ol) ∈ news) (F : Fr h₀ L h' m) (N : News h₀ L h' news) (hJ : Jn m (fil I news)) :
    Hold (∃ h₁ tk₁ m' news', ({ s with heap := h', toks := tk } : Shared) = { s with heap := h₁, toks := tk₁ } ∧ Fr h₀ L h₁ m' ∧ News h₀ L h₁ ((I, oI) :: (l, ol) :: news') ∧ (∀ p ∈ news', p.1 ≠ I) ∧ Jn m' news') :=
  ⟨h', tk, m, fil I news, rfl, F, fun p hp => by
    rcases List.mem_cons.mp hp with rfl | q
    · exact N _ hI
    · rcases List.mem_cons.mp q with rfl | q
      · exact N _ hl
      · exact N p (mem_fil.mp q).1, fun p hp => (mem_fil.mp hp).2, hJ⟩
/-- a for over a list that is the call's own: the list's object is the rule's business -/
theorem loop_own {l : Addr} {vs : List Value} {nl : Nat} {target : Expr} {body orelse : List Stmt} {h₀ : Heap} {L : Addr} {Q : Flow → Shared → Prop} {m₀ : Str → Option Value} {news : Led}
    (J : Nat → (Str → Option Value) → Led → Prop) (hh : A.handled = none) (F : Fr h₀ L s.heap m₀) (N : News h₀ L s.heap ((l, listO vs nl) :: news)) (hJ : J 0 m₀ news)
    (turn : ∀ i v m₁ news₁ I oI h tk, vs[i]? = some v → J i m₁ news₁ → (∀ p ∈ news₁, p.1 ≠ I) → l ≠ I → Fr h₀ L h m₁ → News h₀ L h ((I, oI) :: (l, listO vs nl) :: news₁) →
      wpAny (model prog w) A (assign target env v) (fun _ s₂ => wpAny (model prog w) A (execs body env) (TurnEnd2 h₀ L I oI l (listO vs nl) s (J (i + 1)) Q) (fun _ _ => False) s₂) (fun _ _ => False) { s with heap := h, toks := tk })
    (done : ∀ h tk m₁ news₁, J vs.length m₁ news₁ → Fr h₀ L h m₁ → News h₀ L h ((l, listO vs nl) :: news₁) → wpAny (model prog w) A (execs orelse env) Q (fun _ _ => False) { s with heap := h, toks := tk })
    (ht : (∀ it v, letOwnedTupleGo target it v = pure ()) ∨ ∃ elts x1 pos, target = .Tuple elts x1 pos := by first | exact .inl (fun _ _ => rfl) | exact .inr ⟨_, _, _, rfl⟩) :
    wpAny (model prog w) A (pyIter (.ref l)) (fun it s₂ => Loop prog w A h₀ L env target body orelse Q it s₂) E s := by
  refine loop_list (ol := listO vs nl) (fun i m nw => ∃ news₁, nw = (l, listO vs nl) :: news₁ ∧ J i m news₁) hh F N (N.get (.head _)) rfl ⟨_, rfl⟩ (N _ (.head _)).2.1 ⟨news, rfl, hJ⟩ (fun i m nw h => by obtain ⟨_, rfl, _⟩ := h; exact .inl (.head _)) ?_ ?_ ht
  · intro i v m₁ _ I oI h tk hv xZq1 hn F₁ N₁
    refine ex1 xZq1 ?_; (try clear xZq1); intro news₁; refine and2 ?_; intro yZq3x1 hJ
    obtain rfl := yZq3x1
    refine wpAny_mono (turn i v m₁ news₁ I oI h tk hv hJ (fun p hp => hn p (.tail _ hp)) (hn _ (.head _)) F₁ N₁) (fun _ s₂ h₂ => wpAny_mono h₂ (fun f s₃ h₃ => ?_) fun _ _ e => e) fun _ _ e => e
    have fin : (∃ h' tk m' news', s₃ = { s with heap := h', toks := tk } ∧ Fr h₀ L h' m' ∧ News h₀ L h' ((I, oI) :: (l, listO vs nl) :: news') ∧ (∀ p ∈ news', p.1 ≠ I) ∧ J (i + 1) m' news') →
        (∃ h' tk m' nw, s₃ = { s with heap := h', toks := tk } ∧ Fr h₀ L h' m' ∧ News h₀ L h' ((I, oI) :: nw) ∧ (∀ p ∈ nw, p.1 ≠ I) ∧ ∃ news₁, nw = (l, listO vs nl) :: news₁ ∧ J (i + 1) m' news₁) := by
      intro xZq1
      refine ex4 xZq1 ?_; (try clear xZq1); intro h' tk m' news'; refine and5 ?_; intro e F' N' hn' hJ'
      exact ⟨h', tk, m', _, e, F', N', List.forall_mem_cons.mpr ⟨hn _ (.head _), hn'⟩, news', rfl, hJ'⟩
    cases f with
    | ret v => exact h₃
    | brk => exact h₃
    | next => exact fin h₃
    | cont => exact fin h₃
  · intro h tk m₁ _ xZq1 F₁ N₁
    refine ex1 xZq1 ?_; (try clear xZq1); intro news₁; refine and2 ?_; intro yZq5x1 hJ
    obtain rfl := yZq5x1
    exact done h tk m₁ news₁ hJ F₁ N₁
end
theorem order2 {M : Model} {A : Around} {E : Value → Shared → Prop} {s : Shared} {f g : Value → Sem Unit} {x y : Value} {Q : Unit → Shared → Prop} (h : wpAny M A (f x) (fun _ s₁ => wpAny M A (g y) Q E s₁) E s) : wpAny M A (assignInOrder [f, g] [x, y]) Q E s := by
  show wpAny M A (do holding [y] (f x); assignInOrder [g] [y]) Q E s
  refine wpAny_bind (wpAny_holding (wpAny_mono h (fun _ s₁ h₁ => ?_) fun _ _ e => e))
  show wpAny M A (do holding [] (g y); assignInOrder [] []) Q E s₁
  exact wpAny_bind (wpAny_holding (wpAny_mono h₁ (fun _ s₂ h₂ => wpAny_pure h₂) fun _ _ e => e))
/-- a while, its two ways out met in one place -/
theorem r_while2 {prog : Program} {w : World} {A : Around} {E : Value → Shared → Prop} {s : Shared} {env : Env} {test : Expr} {body : List Stmt} {pos : Pos} {Q : Flow → Shared → Prop} (I : Nat → Shared → Prop) (X : Shared → Prop) (n : Nat) (h0 : I n s)
    (turn : ∀ n s, I n s → wpAny (model prog w) A (isTrue test env (eval test env)) (fun b s₂ =>
        if b then wpAny (model prog w) A (execs body env) (fun f s₃ => match f with
            | .next | .cont => Hold (∃ m, m < n ∧ I m s₃)
            | .brk => Hold (X s₃)
            | .ret v => Q (.ret v) s₃) (fun _ _ => False) s₂
        else Hold (X s₂)) (fun _ _ => False) s)
    (hX : ∀ s, X s → Q .next s) :
    wpAny (model prog w) A (exec (.While test body [] pos) env) Q E s := by
  refine r_while I n h0 fun n s hI => wpAny_mono (turn n s hI) (fun b s₂ h₂ => ?_) fun _ _ x => x
  cases b with
  | false =>
    simp only [Bool.false_eq_true, if_false] at h₂ ⊢
    exact hX _ h₂
  | true =>
    simp only [if_true] at h₂ ⊢
    refine wpAny_mono h₂ (fun f s₃ h₃ => ?_) fun _ _ x => x
    cases f with
    | brk => exact hX _ h₃
    | next => exact h₃
    | cont => exact h₃
    | ret v => exact h₃

noncomputable def dn (lk : List (Int × Int)) : Nat := lk.countP fun q => decide (q.1 ≤ 0)
noncomputable def tkn (lk : List (Int × Int)) (wish : Int) : Nat := min (lk.length - dn lk) wish.toNat
noncomputable def rowTaken (lk : List (Int × Int)) (wish : Int) : List (Int × Int) := (lk.drop (lk.length - tkn lk wish)).reverse
noncomputable def addBit (m : Nat) (q : Int × Int) : Nat := m ||| 2 ^ (7 + q.2.toNat)
noncomputable def putBack (acc : List (Int × Int)) (q : Int × Int) : List (Int × Int) := insP (q.1 - 1, q.2) acc
noncomputable def rowMask (lk : List (Int × Int)) (wish : Int) : Nat := (rowTaken lk wish).foldl addBit 0
noncomputable def rowNext (lk : List (Int × Int)) (wish : Int) : List (Int × Int) := (rowTaken lk wish).foldl putBack (lk.take (lk.length - tkn lk wish))
theorem rowNext_def (lk : List (Int × Int)) (x : Int) : rowNext lk x = (rowTaken lk x).foldl putBack (lk.take (lk.length - tkn lk x)) := rfl
noncomputable def masksP : List Int → List (Int × Int) → List Nat
  | [], _ => []
  | x :: r, lk => rowMask lk x :: masksP r (rowNext lk x)
theorem masksP_snoc (x : Int) : ∀ (l : List Int) (lk : List (Int × Int)), masksP (l ++ [x]) lk = masksP l lk ++ [rowMask (l.foldl rowNext lk) x]
  | [], lk => rfl
  | a :: r, lk => by simp only [List.cons_append, masksP, masksP_snoc x r, List.foldl_cons]
theorem masksP_length : ∀ (l : List Int) (lk : List (Int × Int)), (masksP l lk).length = l.length
  | [], _ => rfl
  | a :: r, lk => by simp [masksP, masksP_length r]
theorem dn_of : ∀ (lk : List (Int × Int)) (r : Nat), r ≤ lk.length → (∀ k (h : k < lk.length), k < r → lk[k].1 ≤ 0) → (∀ k (h : k < lk.length), r ≤ k → 0 < lk[k].1) → dn lk = r
  | [], r, h0, _, _ => by simp at h0; subst h0; rfl
  | a :: l, 0, _, _, h2 => by
    have := h2 0 (by simp) (Nat.le_refl _)
    simp only [List.getElem_cons_zero] at this
    have ih := dn_of l 0 (Nat.zero_le _) (by intro k h q; omega) (fun k h q => by have := h2 (k + 1) (by simpa using h) (by omega); simpa using this)
    unfold dn at ih ⊢
    rw [List.countP_cons, ih]; simp; omega
  | a :: l, r + 1, h0, h1, h2 => by
    have := h1 0 (by simp) (by omega)
    simp only [List.getElem_cons_zero] at this
    have ih := dn_of l r (by simpa using h0) (fun k h q => by have := h1 (k + 1) (by simpa using h) (by omega); simpa using this) (fun k h q => by have := h2 (k + 1) (by simpa using h) (by omega); simpa using this)
    unfold dn at ih ⊢
    rw [List.countP_cons, ih]; simp; omega

noncomputable def Good (lk : List (Int × Int)) : Prop := sortedP lk ∧ lk.length ≤ 6 ∧ ∀ q ∈ lk, 0 ≤ q.2 ∧ q.2 < 6
theorem laid_places : ∀ (ns : List Int) (q : Int × Int), q ∈ laidP ns.reverse → 0 ≤ q.2 ∧ q.2 < ns.length
  | [], q, h => by simp [laidP] at h
  | x :: r, q, h => by
    rw [List.reverse_cons, laidP_snoc] at h
    rcases insP_mem h with e | e
    · subst e; simp; omega
    · have := laid_places r q e
      simp; omega
theorem good_laid {fs : List Int} (h : fs.length ≤ 6) : Good (laidP fs) := by
  have h1 := laidP_sorted fs.reverse
  have h2 := laidP_length fs.reverse
  have h3 := laid_places fs.reverse
  rw [List.reverse_reverse] at h1 h2 h3
  refine ⟨h1, by rw [h2]; simpa using h, fun q hq => ?_⟩
  have := h3 q hq
  simp at this; omega
theorem putBack_good : ∀ (tk acc : List (Int × Int)), sortedP acc → sortedP (tk.foldl putBack acc) ∧ (tk.foldl putBack acc).length = acc.length + tk.length ∧ ((∀ q ∈ acc, 0 ≤ q.2 ∧ q.2 < 6) → (∀ q ∈ tk, 0 ≤ q.2 ∧ q.2 < 6) → ∀ q ∈ tk.foldl putBack acc, 0 ≤ q.2 ∧ q.2 < 6)
  | [], acc, h => ⟨h, by simp, fun a _ => a⟩
  | x :: r, acc, h => by
    have hZqq := putBack_good r (putBack acc x) (insP_sorted h)
    refine andI hZqq ?_; (try clear hZqq); refine and3 ?_; intro a b c
    rw [List.foldl_cons]
    refine ⟨a, by rw [b]; simp [putBack, insP_length]; omega, fun h1 h2 => c (fun q hq => ?_) fun q hq => h2 q (.tail _ hq)⟩
    rcases insP_mem hq with e | e
    · subst e; exact h2 x (.head _)
    · exact h1 q e
theorem good_next {lk : List (Int × Int)} (x : Int) (g : Good lk) : Good (rowNext lk x) := by
  refine andI g ?_; (try clear g); refine and3 ?_; intro g1 g2 g3
  have hZqq := putBack_good (rowTaken lk x) (lk.take (lk.length - tkn lk x)) (List.Pairwise.sublist (List.take_sublist _ _) g1)
  refine andI hZqq ?_; (try clear hZqq); refine and3 ?_; intro a b c
  refine ⟨a, ?_, c (fun q hq => g3 q (List.mem_of_mem_take hq)) fun q hq => g3 q (List.mem_of_mem_drop (List.mem_reverse.mp hq))⟩
  show ((rowTaken lk x).foldl putBack _).length ≤ 6
  rw [b]; unfold rowTaken; simp; omega
theorem good_fold : ∀ (l : List Int) {lk : List (Int × Int)}, Good lk → Good (l.foldl rowNext lk)
  | [], _, g => g
  | x :: r, _, g => good_fold r (good_next x g)
section
variable {prog : Program} {w : World} {A : Around} {E : Value → Shared → Prop} {s : Shared} {h₀ : Heap} {L : Addr} {m : Str → Option Value} {news : Led}
/-- list + list, both known -/
theorem r_add {l b : Addr} {vs ws : List Value} {Q : Value → Shared → Prop} (F : Fr h₀ L s.heap m) (N : News h₀ L s.heap news) (hl : s.heap.IsList l vs.toArray) (hb : s.heap.IsList b ws.toArray) (hz : vs.length + ws.length ≤ 1000)
    (h : ∀ D h', Fr h₀ L h' m → News h₀ L h' ((D, listO (vs ++ ws) 0) :: news) → (∀ p ∈ news, p.1 < D) → Q (.ref D) { s with heap := h' }) :
    wpAny (model prog w) A (binaryOp .Add (.ref l) (.ref b)) Q E s :=
  PyProof.Rows.add_lists (vs := vs) (ws := ws) F N hl hb (fun h' F' N' => h _ h' F' N' fun p hp => Heap.lt_size (N p hp).1) (by show vs.length + ws.length ≤ 2 ^ 24; omega)
end
theorem isL {h : Heap} {a : Addr} {vs : List Value} {n : Nat} (e : h.get? a = some (listO vs n)) : h.IsList a vs.toArray := ⟨_, e, rfl, n, rfl⟩
section
variable {prog : Program} {w : World} {A : Around} {E : Value → Shared → Prop} {s : Shared} {env : Env}
noncomputable def QX (X : Shared → Prop) (Q : Flow → Shared → Prop) : Flow → Shared → Prop
  | .next, s => Hold (X s)
  | .ret v, s => Q (.ret v) s
  | _, _ => False
/-- a for, its ways out (end and break) met in one place -/
theorem r_for2 {target iter : Expr} {body orelse : List Stmt} {pos : Pos} (h₀ : Heap) (L : Addr) {Q : Flow → Shared → Prop} (X : Shared → Prop)
    (h : wpAny (model prog w) A (eval iter env) (fun xv s₁ => wpAny (model prog w) A (pyIter xv) (fun it s₂ => Loop prog w A h₀ L env target body orelse (QX X Q) it s₂) E s₁) E s)
    (hX : ∀ s, X s → Q .next s)
    (hs : ∀ x, foldedSetIterable iter env x = pure x := by intro _; rfl) (hEL : env.locals = L := by rfl) :
    wpAny (model prog w) A (exec (.For target iter body orelse pos) env) Q E s :=
  wpAny_mono (r_for h₀ L h hs hEL) (fun f s₂ h₂ => by
    cases f with
    | next => exact hX _ h₂
    | ret v => exact h₂
    | brk => exact h₂.elim
    | cont => exact h₂.elim) fun _ _ e => e
end
section
variable {prog : Program} {w : World} {A : Around} {E : Value → Shared → Prop} {s : Shared} {h₀ : Heap} {L l : Addr} {m : Str → Option Value} {news : Led} {value slice : PySem.Expr} {vs : List Value} {ns : List Int} {Q : Value → Shared → Prop}
theorem r_from {k : Nat} {t : Tok} (F : Fr h₀ L s.heap m) (N : News h₀ L s.heap news) (hl : s.heap.IsList l vs.toArray) (hi : IntsAre vs ns) (hz : vs.length ≤ 1000)
    (h : ∀ D ws h', Fr h₀ L h' m → News h₀ L h' ((D, listO ws 0) :: news) → (∀ p ∈ news, p.1 < D) → IntsAre ws (ns.drop k) → Q (.ref D) { s with heap := h' })
    (hs : subscripted slice false (.ref l) (.ref s.heap.objs.size) = operate [.ref s.heap.objs.size, .ref l] (getItem (.ref l) (.ref s.heap.objs.size)) := by with_unfolding_all rfl) (ht : ∀ r, letTemporaryGo value (.ref l) r = pure () := by intro _; with_unfolding_all rfl) :
    wpAny (model prog w) A (subscriptTail value slice (.ref l) (.ref s.heap.objs.size)) Q E { s with heap := s.heap.push { cls := .type "slice", data := .fields #[.int k t, .none, .none] } } :=
  kmk_slice_ints F N hl (IsPart.int _ _) IsPart.none hi (kmk_from hi (by omega)) rfl (fun D ws h' F' N' l' i' _ _ => h D ws h' F' N' l' i') hs ht (by show vs.toArray.size ≤ 2 ^ 24; simp; omega)
theorem r_upto {k : Nat} {t : Tok} (F : Fr h₀ L s.heap m) (N : News h₀ L s.heap news) (hl : s.heap.IsList l vs.toArray) (hi : IntsAre vs ns) (hz : vs.length ≤ 1000)
    (h : ∀ D ws h', Fr h₀ L h' m → News h₀ L h' ((D, listO ws 0) :: news) → (∀ p ∈ news, p.1 < D) → IntsAre ws (ns.take k) → Q (.ref D) { s with heap := h' })
    (hs : subscripted slice false (.ref l) (.ref s.heap.objs.size) = operate [.ref s.heap.objs.size, .ref l] (getItem (.ref l) (.ref s.heap.objs.size)) := by with_unfolding_all rfl) (ht : ∀ r, letTemporaryGo value (.ref l) r = pure () := by intro _; with_unfolding_all rfl) :
    wpAny (model prog w) A (subscriptTail value slice (.ref l) (.ref s.heap.objs.size)) Q E { s with heap := s.heap.push { cls := .type "slice", data := .fields #[.none, .int k t, .none] } } :=
  kmk_slice_ints F N hl IsPart.none (IsPart.int _ _) hi (kmk_upto hi (by omega)) rfl (fun D ws h' F' N' l' i' _ _ => h D ws h' F' N' l' i') hs ht (by show vs.toArray.size ≤ 2 ^ 24; simp; omega)
theorem pick_last (hi : IntsAre vs ns) : IntsAre (slicePick vs.toArray (some (-1)) none none).toList (ns.drop (ns.length - 1)) := by
  have hle := hi.length
  have e : sliceBounds (some (-1)) none none vs.toArray.size = (((vs.length - 1 : Nat) : Int), ((vs.toArray.size : Nat) : Int), 1) := by
    simp only [sliceBounds, Option.getD_none, show (1 : Int) > 0 by decide, if_true, show ((-1 : Int) < 0) by decide, List.size_toArray]
    congr 1
    omega
  rw [kmk_pick_nat _ e]
  show IntsAre ((vs.drop (vs.length - 1)).take (vs.toArray.size - (vs.length - 1))) _
  rw [List.size_toArray, List.take_of_length_le (by rw [List.length_drop]; omega), hle]
  exact hi.drop _
theorem r_last {t : Tok} (F : Fr h₀ L s.heap m) (N : News h₀ L s.heap news) (hl : s.heap.IsList l vs.toArray) (hi : IntsAre vs ns) (hz : vs.length ≤ 1000)
    (h : ∀ D ws h', Fr h₀ L h' m → News h₀ L h' ((D, listO ws 0) :: news) → (∀ p ∈ news, p.1 < D) → IntsAre ws (ns.drop (ns.length - 1)) → Q (.ref D) { s with heap := h' })
    (hs : subscripted slice false (.ref l) (.ref s.heap.objs.size) = operate [.ref s.heap.objs.size, .ref l] (getItem (.ref l) (.ref s.heap.objs.size)) := by with_unfolding_all rfl) (ht : ∀ r, letTemporaryGo value (.ref l) r = pure () := by intro _; with_unfolding_all rfl) :
    wpAny (model prog w) A (subscriptTail value slice (.ref l) (.ref s.heap.objs.size)) Q E { s with heap := s.heap.push { cls := .type "slice", data := .fields #[.int (-1) t, .none, .none] } } :=
  kmk_slice_ints F N hl (IsPart.int _ _) IsPart.none hi (pick_last hi) rfl (fun D ws h' F' N' l' i' _ _ => h D ws h' F' N' l' i') hs ht (by show vs.toArray.size ≤ 2 ^ 24; simp; omega)
end
theorem sp_masks {prog : Program} {w : World} {A : Around} {E : Value → Shared → Prop} {s : Shared} {Q : Value → Shared → Prop}
   {ra fa : Addr} {vr vf : List Value} {rs fs : List Int} {nr nf : Nat}
   (G : Gd w s.heap) (R : Rm A 6) (hr : s.heap.get? ra = some (listO vr nr)) (hir : IntsAre vr rs) (hf : s.heap.get? fa = some (listO vf nf)) (hif : IntsAre vf fs)
   (hzr : rs.length ≤ 6) (hzf : fs.length ≤ 6)
   (hQ : Out [] s Q (fun v h' => ∃ ma vs n, v = .ref ma ∧ h'.get? ma = some (listO vs n) ∧ s.heap.get? ma = none ∧ IntsAre vs ((masksP rs (laidP fs)).map fun (k : Nat) => (k : Int)))) :
   wpAny (model prog w) A (call (.ref 159) [.ref ra, .ref fa]) Q E s := by
  (((have kkZq : PySem.Challenge.rw_wu0059_01 = PySem.Challenge.rw_wu0059_01 ∧ Mine.hd.heap_39 = Mine.hd.heap_39 := ⟨rfl, rfl⟩); revert kkZq; k_fill; intro kkZq; clear kkZq; w_on))
  (((rename Rm _ _ => rrZq); (rename Around => aaZq); (have e0Zq := Rm.h rrZq); rcases aaZq with ⟨hhZq, d1Zq, d2Zq, d3Zq, d4Zq⟩; dsimp only at e0Zq; subst e0Zq))
  have R := ‹Rm _ 6›
  refine enter [(Str.ofString "rows", .ref ra), (Str.ofString "flags", .ref fa)] G R.room (by k_is) (by k_is) (by (first | exact BindsTo.of_eq rfl | exact binds_K (Gd.X (by assumption)) rfl (by k_is) rfl rfl rfl | exact binds_K (Gd.X (Gd.keeps (by assumption) (by assumption))) rfl (by k_is) rfl rfl rfl)) (locs rfl) (by decide) rfl rfl rfl ?_
  intro L h₁ tk F N X
  have hZqq := G.T
  refine ex5 hZqq ?_; (try clear hZqq); intro pp l m mg mb; intro T
  (repeat' (first | (k_unfold; (try dsimp only)) | ( (fail_if_success (with_reducible show wpAny _ _ (exec (Stmt.While _ _ _ _) _) _ _ _)); (fail_if_success (with_reducible show wpAny _ _ (exec (Stmt.For _ _ _ _ _) _) _ _ _)); (fail_if_success (with_reducible show wpAny _ _ (exec (Stmt.Try _ _ _ _ _) _) _ _ _)); (fail_if_success (with_reducible show wpAny _ _ (pyIter _) (fun it s₂ => Loop _ _ _ _ _ _ _ _ _ _ it s₂) _ _)); (fail_if_success (with_reducible show wpAny _ _ (call (Value.ref _) _ _) _ _ _)); (try k_fold); walk1; (try ((first | (with_reducible show wpAny _ _ (spliced _) _ _ _) | (with_reducible show wpAny _ _ (newList _) _ _ _) | (with_reducible show wpAny _ _ (execs _ _) _ _ _)); dsimp only)))))
  refine sp_laid (G.keeps (Fr.keep ‹_›)) ((R.deeper _).le (by omega)) (Fr.keep ‹_› _ _ hf) hif (by omega) ?_
  intro v h2 tk2 kb xZq1
  refine ex3 xZq1 ?_; (try clear xZq1); intro la ps n; refine and5 ?_; intro yZq1x3 ela fla hps emap
  obtain rfl := yZq1x3
  rename Fr _ _ _ _ => F0
  have F1 := fr_kb0 F0 kb
  have down : ∀ a, h₁.get? a = none → s.heap.get? a = none := fun a e => by
    cases q : s.heap.get? a with
    | none => rfl
    | some o => rw [F0.keep _ _ q] at e; cases e
  have hLo : ∀ a, h₁.get? a = none → a ≠ L := fun a e z => by
    have hZqq := F0.ns
    refine ex3 hZqq ?_; (try clear hZqq); intro o _ _; refine and2 ?_; intro ho _
    rw [z, ho] at e; cases e
  have hZqq := pairs_led (h₀ := s.heap) (L := L) (h := h2) ps fun q hq => ⟨(hps q hq).1, down _ (hps q hq).2, hLo _ (hps q hq).2⟩
  refine ex1 hZqq ?_; (try clear hZqq); intro rest; refine and3 ?_; intro N1 hr1 hr2
  replace N1 := news_add N1 ela (hLo _ fla) (down _ fla)
  clear F0
  (repeat' (first | (k_unfold; (try dsimp only)) | ( (fail_if_success (with_reducible show wpAny _ _ (exec (Stmt.While _ _ _ _) _) _ _ _)); (fail_if_success (with_reducible show wpAny _ _ (exec (Stmt.For _ _ _ _ _) _) _ _ _)); (fail_if_success (with_reducible show wpAny _ _ (exec (Stmt.Try _ _ _ _ _) _) _ _ _)); (fail_if_success (with_reducible show wpAny _ _ (pyIter _) (fun it s₂ => Loop _ _ _ _ _ _ _ _ _ _ it s₂) _ _)); (fail_if_success (with_reducible show wpAny _ _ (call (Value.ref _) _ _) _ _ _)); (try k_fold); walk1; (try ((first | (with_reducible show wpAny _ _ (spliced _) _ _ _) | (with_reducible show wpAny _ _ (newList _) _ _ _) | (with_reducible show wpAny _ _ (execs _ _) _ _ _)); dsimp only)))))
  refine r_for s.heap L ?_
  (repeat' (first | (k_unfold; (try dsimp only)) | ( (fail_if_success (with_reducible show wpAny _ _ (exec (Stmt.While _ _ _ _) _) _ _ _)); (fail_if_success (with_reducible show wpAny _ _ (exec (Stmt.For _ _ _ _ _) _) _ _ _)); (fail_if_success (with_reducible show wpAny _ _ (exec (Stmt.Try _ _ _ _ _) _) _ _ _)); (fail_if_success (with_reducible show wpAny _ _ (pyIter _) (fun it s₂ => Loop _ _ _ _ _ _ _ _ _ _ it s₂) _ _)); (fail_if_success (with_reducible show wpAny _ _ (call (Value.ref _) _ _) _ _ _)); (try k_fold); walk1; (try ((first | (with_reducible show wpAny _ _ (spliced _) _ _ _) | (with_reducible show wpAny _ _ (newList _) _ _ _) | (with_reducible show wpAny _ _ (execs _ _) _ _ _)); dsimp only)))))
  have hlenr := hir.length
  refine loop_list (vs := vr) (ol := listO vr nr) (fun i m news => ∃ la ma ps n vs nm, Has m [(Str.ofString "rows", .ref ra), (Str.ofString "flags", .ref fa), (Str.ofString "lacking", .ref la), (Str.ofString "masks", .ref ma)] ∧
      (la, listO (refsOf ps) n) ∈ news ∧ (ma, listO vs nm) ∈ news ∧ la ≠ ma ∧ (∀ q ∈ ps, PairIn news q ∧ q.1 ≠ ma) ∧ ps.map (·.2) = (rs.take i).foldl rowNext (laidP fs) ∧ IntsAre vs ((masksP (rs.take i) (laidP fs)).map fun (k : Nat) => (k : Int)))
    rfl ‹_› ‹_› (Fr.keep ‹_› _ _ hr) rfl ⟨_, rfl⟩ ?_ ⟨la, _, ps, n, [], 0, ⟨rfl, rfl, rfl, rfl, trivial⟩, by simp, by simp, ?_, fun q hq => ⟨(hr1 q hq).cons.cons, ?_⟩, emap, .nil⟩ (fun _ _ _ _ => .inr hr) ?_ ?_
  · exact ne_frame ‹_› hr
  · obtain ⟨q, _⟩ := ‹la < _ ∧ AllLt _ rest›
    exact Nat.ne_of_lt q
  · obtain ⟨_, z⟩ := ‹la < _ ∧ AllLt _ rest›
    have hZqq := hr1 q hq
    refine ex3 hZqq ?_; (try clear hZqq); intro _ _ _; intro e
    exact Nat.ne_of_lt (allLt_mem z _ e)
  · (repeat ((first | (with_reducible rename Fr _ _ _ _ => zzZq) | (with_reducible rename News _ _ _ _ => zzZq) | (with_reducible rename IsRange _ _ _ _ _ _ _ _ => zzZq)); clear zzZq))
    intro i v m₁ news₁ I oI h tk hv xZq1 hnI F1 N1
    refine ex6 xZq1 ?_; (try clear xZq1); intro la ma ps n vs nm; refine and7 ?_; intro em ela ema hlm hps' emap hints
    have hps := fun q hq => (hps' q hq).1
    replace F1 := fr_has F1 em
    have hi : i < rs.length := by
      have := (List.getElem?_eq_some_iff.mp hv).1
      omega
    obtain ⟨tw, hw⟩ := hir.get i rs[i] (by simp [hi])
    rw [hv] at hw
    obtain rfl : v = _ := Option.some.inj hw
    have gd : Good ((rs.take i).foldl rowNext (laidP fs)) := good_fold _ (good_laid hzf)
    refine wpAny_assign_Name ?_
    (repeat' (first | (k_unfold; (try dsimp only)) | ( (fail_if_success (with_reducible show wpAny _ _ (exec (Stmt.While _ _ _ _) _) _ _ _)); (fail_if_success (with_reducible show wpAny _ _ (exec (Stmt.For _ _ _ _ _) _) _ _ _)); (fail_if_success (with_reducible show wpAny _ _ (exec (Stmt.Try _ _ _ _ _) _) _ _ _)); (fail_if_success (with_reducible show wpAny _ _ (pyIter _) (fun it s₂ => Loop _ _ _ _ _ _ _ _ _ _ it s₂) _ _)); (fail_if_success (with_reducible show wpAny _ _ (call (Value.ref _) _ _) _ _ _)); (try k_fold); walk1; (try ((first | (with_reducible show wpAny _ _ (spliced _) _ _ _) | (with_reducible show wpAny _ _ (newList _) _ _ _) | (with_reducible show wpAny _ _ (execs _ _) _ _ _)); dsimp only)))))
    rename News _ _ _ _ => N2
    rename Fr _ _ _ _ => F2
    have gl : ps.length ≤ 6 := by have := gd.2.1; rw [← emap] at this; simpa using this
    refine sp_br (G.keeps F2.keep) ((R.deeper _).le (by omega)) ⟨_, N2.get (.tail _ ela), rfl, n, rfl⟩ (fun q hq => (hps q hq).cons.at N2) (by omega) (sorted_of_map (by rw [emap]; exact gd.1)) ?_
    intro v h5 tk5 kb xZq1
    refine ex2 xZq1 ?_; (try clear xZq1); intro r t; refine and4 ?_; intro yZq6x2 r1 r2 r3
    obtain rfl := yZq6x2
    replace F2 := fr_kb0 F2 kb
    replace N2 := news_kb0 N2 kb
    (repeat' (first | (k_unfold; (try dsimp only)) | ( (fail_if_success (with_reducible show wpAny _ _ (exec (Stmt.While _ _ _ _) _) _ _ _)); (fail_if_success (with_reducible show wpAny _ _ (exec (Stmt.For _ _ _ _ _) _) _ _ _)); (fail_if_success (with_reducible show wpAny _ _ (exec (Stmt.Try _ _ _ _ _) _) _ _ _)); (fail_if_success (with_reducible show wpAny _ _ (pyIter _) (fun it s₂ => Loop _ _ _ _ _ _ _ _ _ _ it s₂) _ _)); (fail_if_success (with_reducible show wpAny _ _ (call (Value.ref _) _ _) _ _ _)); (try k_fold); walk1; (try ((first | (with_reducible show wpAny _ _ (spliced _) _ _ _) | (with_reducible show wpAny _ _ (newList _) _ _ _) | (with_reducible show wpAny _ _ (execs _ _) _ _ _)); dsimp only)))))
    rename News _ _ _ _ => N3
    rename Fr _ _ _ _ => F3
    obtain ⟨x1, x2⟩ := ‹I < _ ∧ AllLt _ news₁›
    have x3 := allLt_mem x2
    have hlI : la ≠ I := hnI _ ela
    have hmI : ma ≠ I := hnI _ ema
    refine r_while2 (fun n s' => ∃ (j na nt : Nat) (h' : Heap) (tk' : Nat) (m' : Str → Option Value) (nw : Led) (ta : Addr), s' = { s with heap := h', toks := tk' } ∧ Fr s.heap L h' m' ∧ News s.heap L h' nw ∧
        Has m' [(Str.ofString "rows", .ref ra), (Str.ofString "flags", .ref fa), (Str.ofString "lacking", .ref la), (Str.ofString "masks", .ref ma), (Str.ofString "wish", .int rs[i] tw), (Str.ofString "done", .int r t), (Str.ofString "taken", .ref ta)] ∧
        (la, listO (refsOf (ps.take j)) na) ∈ nw ∧ (ta, listO (refsOf (ps.drop j).reverse) nt) ∈ nw ∧ (ma, listO vs nm) ∈ nw ∧ (I, oI) ∈ nw ∧ (∀ q ∈ ps, PairIn nw q) ∧ ta ≠ la ∧ ta ≠ ma ∧ ta ≠ I ∧ r ≤ j ∧ j ≤ ps.length ∧ ps.length - j ≤ rs[i].toNat ∧ n = j)
      (fun s' => ∃ (j na nt : Nat) (h' : Heap) (tk' : Nat) (m' : Str → Option Value) (nw : Led) (ta : Addr), s' = { s with heap := h', toks := tk' } ∧ Fr s.heap L h' m' ∧ News s.heap L h' nw ∧
        Has m' [(Str.ofString "rows", .ref ra), (Str.ofString "flags", .ref fa), (Str.ofString "lacking", .ref la), (Str.ofString "masks", .ref ma), (Str.ofString "taken", .ref ta)] ∧
        (la, listO (refsOf (ps.take j)) na) ∈ nw ∧ (ta, listO (refsOf (ps.drop j).reverse) nt) ∈ nw ∧ (ma, listO vs nm) ∈ nw ∧ (I, oI) ∈ nw ∧ (∀ q ∈ ps, PairIn nw q) ∧ ta ≠ la ∧ ta ≠ ma ∧ ta ≠ I ∧ j = ps.length - min (ps.length - r) rs[i].toNat) ps.length
      ⟨ps.length, n, 0, _, _, _, _, _, rfl, F3, N3, ⟨rfl, rfl, rfl, rfl, rfl, rfl, rfl, trivial⟩, by rw [List.take_length]; exact .tail _ (.tail _ ela), by rw [List.drop_length]; exact .head _, .tail _ (.tail _ ema), .tail _ (.head _),
        fun q hq => (hps q hq).cons.cons, Ne.symm (Nat.ne_of_lt (x3 _ ela)), Ne.symm (Nat.ne_of_lt (x3 _ ema)), Ne.symm (Nat.ne_of_lt x1), r1, Nat.le_refl _, by omega, rfl⟩ ?_ ?_
    rotate_left
    · (repeat ((first | (with_reducible rename Fr _ _ _ _ => zzZq) | (with_reducible rename News _ _ _ _ => zzZq) | (with_reducible rename IsRange _ _ _ _ _ _ _ _ => zzZq)); clear zzZq))
      intro s5 xZq1
      refine ex8 xZq1 ?_; (try clear xZq1); intro j na nt h5 tk5 m5 nw ta; refine and13 ?_; intro yZq7x8 F5 N5 em5 e1 e2 e3 e4 e5 d1 d2 d3 hj
      obtain rfl := yZq7x8
      replace F5 := fr_has F5 em5
      (repeat' (first | (k_unfold; (try dsimp only)) | ( (fail_if_success (with_reducible show wpAny _ _ (exec (Stmt.While _ _ _ _) _) _ _ _)); (fail_if_success (with_reducible show wpAny _ _ (exec (Stmt.For _ _ _ _ _) _) _ _ _)); (fail_if_success (with_reducible show wpAny _ _ (exec (Stmt.Try _ _ _ _ _) _) _ _ _)); (fail_if_success (with_reducible show wpAny _ _ (pyIter _) (fun it s₂ => Loop _ _ _ _ _ _ _ _ _ _ it s₂) _ _)); (fail_if_success (with_reducible show wpAny _ _ (call (Value.ref _) _ _) _ _ _)); (try k_fold); walk1; (try ((first | (with_reducible show wpAny _ _ (spliced _) _ _ _) | (with_reducible show wpAny _ _ (newList _) _ _ _) | (with_reducible show wpAny _ _ (execs _ _) _ _ _)); dsimp only)))))
      refine r_for s.heap L ?_
      (repeat' (first | (k_unfold; (try dsimp only)) | ( (fail_if_success (with_reducible show wpAny _ _ (exec (Stmt.While _ _ _ _) _) _ _ _)); (fail_if_success (with_reducible show wpAny _ _ (exec (Stmt.For _ _ _ _ _) _) _ _ _)); (fail_if_success (with_reducible show wpAny _ _ (exec (Stmt.Try _ _ _ _ _) _) _ _ _)); (fail_if_success (with_reducible show wpAny _ _ (pyIter _) (fun it s₂ => Loop _ _ _ _ _ _ _ _ _ _ it s₂) _ _)); (fail_if_success (with_reducible show wpAny _ _ (call (Value.ref _) _ _) _ _ _)); (try k_fold); walk1; (try ((first | (with_reducible show wpAny _ _ (spliced _) _ _ _) | (with_reducible show wpAny _ _ (newList _) _ _ _) | (with_reducible show wpAny _ _ (execs _ _) _ _ _)); dsimp only)))))
      rename News _ _ _ _ => N6
      rename Fr _ _ _ _ => F6
      refine loop_list (vs := refsOf (ps.drop j).reverse) (ol := listO (refsOf (ps.drop j).reverse) nt) (fun i2 m news => ∃ (ps2 : List (Addr × Int × Int)) (n2 mk : Nat) (tmk : Tok),
          Has m [(Str.ofString "rows", .ref ra), (Str.ofString "flags", .ref fa), (Str.ofString "lacking", .ref la), (Str.ofString "masks", .ref ma), (Str.ofString "taken", .ref ta), (Str.ofString "mask", .int mk tmk)] ∧
          (la, listO (refsOf ps2) n2) ∈ news ∧ (ta, listO (refsOf (ps.drop j).reverse) nt) ∈ news ∧ (ma, listO vs nm) ∈ news ∧ (I, oI) ∈ news ∧ (∀ q ∈ ps2, PairIn news q ∧ q.1 ≠ ma ∧ q.1 ≠ I) ∧ (∀ q ∈ ps, PairIn news q) ∧
          ps2.map (·.2) = (((ps.drop j).reverse.map (·.2)).take i2).foldl putBack ((ps.take j).map (·.2)) ∧ mk = (((ps.drop j).reverse.map (·.2)).take i2).foldl addBit 0)
        rfl F6 N6 (N6.get e2) rfl ⟨_, rfl⟩ (N6 _ e2).2.1 ⟨ps.take j, na, 0, _, ⟨rfl, rfl, rfl, rfl, rfl, rfl, trivial⟩, e1, e2, e3, e4, fun q hq => ⟨e5 q (List.mem_of_mem_take hq), (hps' q (List.mem_of_mem_take hq)).2, by obtain ⟨_, _, _, e⟩ := hps q (List.mem_of_mem_take hq); exact hnI _ e⟩, e5, rfl, rfl⟩ (fun i2 m news h => by obtain ⟨_, _, _, _, _, _, h, _⟩ := h; exact .inl h) ?_ ?_
      · (repeat ((first | (with_reducible rename Fr _ _ _ _ => zzZq) | (with_reducible rename News _ _ _ _ => zzZq) | (with_reducible rename IsRange _ _ _ _ _ _ _ _ => zzZq)); clear zzZq))
        intro i2 v m₂ news₂ I2 oI2 h2 tk2 hv2 xZq1 hnI2 F2 N2
        refine ex4 xZq1 ?_; (try clear xZq1); intro ps2 n2 mk tmk; refine and9 ?_; intro em2 f1 f2 f3 f4 f5' f6 fm fk
        have f5 := fun q hq => (f5' q hq).1
        replace F2 := fr_has F2 em2
        obtain ⟨hi2, hv2'⟩ := List.getElem?_eq_some_iff.mp hv2
        have hi2' : i2 < (ps.drop j).reverse.length := by simpa using hi2
        obtain rfl : v = .ref ((ps.drop j).reverse[i2]).1 := by rw [← hv2']; simp
        have hmem : (ps.drop j).reverse[i2] ∈ ps := List.mem_of_mem_drop (List.mem_reverse.mp (List.getElem_mem hi2'))
        generalize hq : (ps.drop j).reverse[i2] = q at hmem hv2
        obtain ⟨qa, ql, qp⟩ := q
        have hZqq := f6 _ hmem
        refine ex3 hZqq ?_; (try clear hZqq); intro t1 t2 nq; intro eq
        have pl := gd.2.2 (ql, qp) (by rw [← emap]; exact List.mem_map.mpr ⟨_, hmem, rfl⟩)
        dsimp only at eq pl
        obtain ⟨pk, rfl⟩ : ∃ k : Nat, qp = k := ⟨qp.toNat, by omega⟩
        refine kun_list (items := #[.int ql t1, .int pk t2]) F2 N2 ⟨_, N2.get (.tail _ eq), rfl, nq, rfl⟩ rfl rfl rfl ?_
        intro h3 F3 N3
        refine order2 (wpAny_assign_Name ?_)
        (repeat' (first | (k_unfold; (try dsimp only)) | ( (fail_if_success (with_reducible show wpAny _ _ (exec (Stmt.While _ _ _ _) _) _ _ _)); (fail_if_success (with_reducible show wpAny _ _ (exec (Stmt.For _ _ _ _ _) _) _ _ _)); (fail_if_success (with_reducible show wpAny _ _ (exec (Stmt.Try _ _ _ _ _) _) _ _ _)); (fail_if_success (with_reducible show wpAny _ _ (pyIter _) (fun it s₂ => Loop _ _ _ _ _ _ _ _ _ _ it s₂) _ _)); (fail_if_success (with_reducible show wpAny _ _ (call (Value.ref _) _ _) _ _ _)); (try k_fold); walk1; (try ((first | (with_reducible show wpAny _ _ (spliced _) _ _ _) | (with_reducible show wpAny _ _ (newList _) _ _ _) | (with_reducible show wpAny _ _ (execs _ _) _ _ _)); dsimp only)))))
        refine sp_ilshift (by omega) (G.keeps (Fr.keep ‹_›)) ((R.deeper _).le (by omega)) ?_
        rintro v h7 tk7 kb ⟨t7, rfl⟩
        have F7 := fr_kb0 ‹Fr _ _ _ _› kb
        have N7 := news_kb0 ‹News _ _ _ _› kb
        (repeat' (first | (k_unfold; (try dsimp only)) | ( (fail_if_success (with_reducible show wpAny _ _ (exec (Stmt.While _ _ _ _) _) _ _ _)); (fail_if_success (with_reducible show wpAny _ _ (exec (Stmt.For _ _ _ _ _) _) _ _ _)); (fail_if_success (with_reducible show wpAny _ _ (exec (Stmt.Try _ _ _ _ _) _) _ _ _)); (fail_if_success (with_reducible show wpAny _ _ (pyIter _) (fun it s₂ => Loop _ _ _ _ _ _ _ _ _ _ it s₂) _ _)); (fail_if_success (with_reducible show wpAny _ _ (call (Value.ref _) _ _) _ _ _)); (try k_fold); walk1; (try ((first | (with_reducible show wpAny _ _ (spliced _) _ _ _) | (with_reducible show wpAny _ _ (newList _) _ _ _) | (with_reducible show wpAny _ _ (execs _ _) _ _ _)); dsimp only)))))
        refine sp_ior (G.keeps (Fr.keep ‹_›)) ((R.deeper _).le (by omega)) ?_
        rintro v h8 tk8 kb ⟨t8, rfl⟩
        have F8 := fr_kb0 ‹Fr _ _ _ _› kb
        have N8 := news_kb0 ‹News _ _ _ _› kb
        (repeat' (first | (k_unfold; (try dsimp only)) | ( (fail_if_success (with_reducible show wpAny _ _ (exec (Stmt.While _ _ _ _) _) _ _ _)); (fail_if_success (with_reducible show wpAny _ _ (exec (Stmt.For _ _ _ _ _) _) _ _ _)); (fail_if_success (with_reducible show wpAny _ _ (exec (Stmt.Try _ _ _ _ _) _) _ _ _)); (fail_if_success (with_reducible show wpAny _ _ (pyIter _) (fun it s₂ => Loop _ _ _ _ _ _ _ _ _ _ it s₂) _ _)); (fail_if_success (with_reducible show wpAny _ _ (call (Value.ref _) _ _) _ _ _)); (try k_fold); walk1; (try ((first | (with_reducible show wpAny _ _ (spliced _) _ _ _) | (with_reducible show wpAny _ _ (newList _) _ _ _) | (with_reducible show wpAny _ _ (execs _ _) _ _ _)); dsimp only)))))
        refine sp_isub (G.keeps (Fr.keep ‹_›)) ((R.deeper _).le (by omega)) ?_
        rintro v h9 tk9 kb ⟨t9, rfl⟩
        have F9 := fr_kb0 ‹Fr _ _ _ _› kb
        have N9 := news_kb0 ‹News _ _ _ _› kb
        (repeat' (first | (k_unfold; (try dsimp only)) | ( (fail_if_success (with_reducible show wpAny _ _ (exec (Stmt.While _ _ _ _) _) _ _ _)); (fail_if_success (with_reducible show wpAny _ _ (exec (Stmt.For _ _ _ _ _) _) _ _ _)); (fail_if_success (with_reducible show wpAny _ _ (exec (Stmt.Try _ _ _ _ _) _) _ _ _)); (fail_if_success (with_reducible show wpAny _ _ (pyIter _) (fun it s₂ => Loop _ _ _ _ _ _ _ _ _ _ it s₂) _ _)); (fail_if_success (with_reducible show wpAny _ _ (call (Value.ref _) _ _) _ _ _)); (try k_fold); walk1; (try ((first | (with_reducible show wpAny _ _ (spliced _) _ _ _) | (with_reducible show wpAny _ _ (newList _) _ _ _) | (with_reducible show wpAny _ _ (execs _ _) _ _ _)); dsimp only)))))
        rename News _ _ _ _ => NA
        rename Fr _ _ _ _ => FA
        obtain ⟨y1, y2⟩ := ‹I2 < _ ∧ AllLt _ news₂›
        have y3 := allLt_mem y2
        have sg := putBack_good (((ps.drop j).reverse.map (·.2)).take i2) ((ps.take j).map (·.2)) (by rw [List.map_take, emap]; exact List.Pairwise.sublist (List.take_sublist _ _) gd.1)
        rw [← fm] at sg
        have lz : ps2.length ≤ 6 := by
          have := sg.2.1
          simp at this; omega
        have hlI2 : la ≠ I2 := hnI2 _ f1
        have p2 : ∀ q, PairIn news₂ q → q.1 ≠ I2 := fun q hq => by obtain ⟨_, _, _, e⟩ := hq; exact hnI2 _ e
        refine sp_il (p := (_, ql - 1, (pk : Int))) (ps := ps2) (n := n2) G FA.keep ((R.deeper _).le (by omega)) (NA.get (.tail _ (.tail _ f1))) (NA.fresh (.tail _ (.tail _ f1))) (fun q hq => (f5 q hq).cons.cons.at NA) ⟨_, _, 0, NA.get (.head _)⟩ (by omega) (sorted_of_map sg.1) ?_
        intro v h10 tk10 kb xZq1
        obtain ⟨rfl, n', e10⟩ := xZq1
        have FB := fr_turn FA NA (.tail _ (.tail _ f1)) kb
        have NB := news_call NA (.tail _ (.tail _ f1)) kb e10
        (repeat' (first | (k_unfold; (try dsimp only)) | ( (fail_if_success (with_reducible show wpAny _ _ (exec (Stmt.While _ _ _ _) _) _ _ _)); (fail_if_success (with_reducible show wpAny _ _ (exec (Stmt.For _ _ _ _ _) _) _ _ _)); (fail_if_success (with_reducible show wpAny _ _ (exec (Stmt.Try _ _ _ _ _) _) _ _ _)); (fail_if_success (with_reducible show wpAny _ _ (pyIter _) (fun it s₂ => Loop _ _ _ _ _ _ _ _ _ _ it s₂) _ _)); (fail_if_success (with_reducible show wpAny _ _ (call (Value.ref _) _ _) _ _ _)); (try k_fold); walk1; (try ((first | (with_reducible show wpAny _ _ (spliced _) _ _ _) | (with_reducible show wpAny _ _ (newList _) _ _ _) | (with_reducible show wpAny _ _ (execs _ _) _ _ _)); dsimp only)))))
        refine turn_end (I := I2) (oI := oI2) (.tail _ (mem_fil.mpr ⟨.tail _ (.head _), Ne.symm hlI2⟩)) FB NB ⟨_, n', mk ||| 2 ^ (7 + pk), t8, ⟨rfl, rfl, rfl, rfl, rfl, rfl, trivial⟩, mem_fil.mpr ⟨.head _, hlI2⟩,
          mem_fil.mpr ⟨.tail _ (mem_fil.mpr ⟨.tail _ (.tail _ f2), d1⟩), hnI2 _ f2⟩, mem_fil.mpr ⟨.tail _ (mem_fil.mpr ⟨.tail _ (.tail _ f3), Ne.symm hlm⟩), hnI2 _ f3⟩,
          mem_fil.mpr ⟨.tail _ (mem_fil.mpr ⟨.tail _ (.tail _ f4), Ne.symm hlI⟩), hnI2 _ f4⟩, ?_, ?_, ?_, ?_⟩
        · intro q hq
          rcases insL_mem hq with rfl | hq
          · exact ⟨PairIn.fil (PairIn.cons (PairIn.fil ⟨_, _, 0, .head _⟩ (Nat.ne_of_gt (y3 _ f1)))) (Nat.ne_of_gt y1), Nat.ne_of_gt (y3 _ f3), Nat.ne_of_gt (y3 _ f4)⟩
          · refine ⟨?_, (f5' q hq).2⟩
            exact PairIn.fil (PairIn.cons (PairIn.fil (f5 q hq).cons.cons ((f5 q hq).cons.cons.ne_list NA (.tail _ (.tail _ f1))))) (p2 q (f5 q hq))
        · intro q hq
          exact PairIn.fil (PairIn.cons (PairIn.fil (f6 q hq).cons.cons ((f6 q hq).cons.cons.ne_list NA (.tail _ (.tail _ f1))))) (p2 q (f6 q hq))
        · have e9 : ((ps.drop j).reverse.map (·.2))[i2]? = some (ql, (pk : Int)) := by
            rw [List.getElem?_map, List.getElem?_eq_getElem hi2', hq]; rfl
          rw [insL_map, fm, List.take_add_one, e9, Option.toList_some, List.foldl_append]; rfl
        · have e9 : ((ps.drop j).reverse.map (·.2))[i2]? = some (ql, (pk : Int)) := by
            rw [List.getElem?_map, List.getElem?_eq_getElem hi2', hq]; rfl
          rw [List.take_add_one, e9, Option.toList_some, List.foldl_append, fk]; rfl
      · (repeat ((first | (with_reducible rename Fr _ _ _ _ => zzZq) | (with_reducible rename News _ _ _ _ => zzZq) | (with_reducible rename IsRange _ _ _ _ _ _ _ _ => zzZq)); clear zzZq))
        intro h tk2 m₂ news₂ xZq1 F2 N2
        refine ex4 xZq1 ?_; (try clear xZq1); intro ps2 n2 mk tmk; refine and9 ?_; intro em2 f1 f2 f3 f4 f5' f6 fm fk
        have f5 := fun q hq => (f5' q hq).1
        replace F2 := fr_has F2 em2
        (repeat' (first | (k_unfold; (try dsimp only)) | ( (fail_if_success (with_reducible show wpAny _ _ (exec (Stmt.While _ _ _ _) _) _ _ _)); (fail_if_success (with_reducible show wpAny _ _ (exec (Stmt.For _ _ _ _ _) _) _ _ _)); (fail_if_success (with_reducible show wpAny _ _ (exec (Stmt.Try _ _ _ _ _) _) _ _ _)); (fail_if_success (with_reducible show wpAny _ _ (pyIter _) (fun it s₂ => Loop _ _ _ _ _ _ _ _ _ _ it s₂) _ _)); (fail_if_success (with_reducible show wpAny _ _ (call (Value.ref _) _ _) _ _ _)); (try k_fold); walk1; (try ((first | (with_reducible show wpAny _ _ (spliced _) _ _ _) | (with_reducible show wpAny _ _ (newList _) _ _ _) | (with_reducible show wpAny _ _ (execs _ _) _ _ _)); dsimp only)))))
        refine r_append' F2 N2 f3 (by have := hints.length; rw [List.length_map, masksP_length] at this; simp at this; omega) ?_
        intro h7 F7 N7
        (repeat' (first | (k_unfold; (try dsimp only)) | ( (fail_if_success (with_reducible show wpAny _ _ (exec (Stmt.While _ _ _ _) _) _ _ _)); (fail_if_success (with_reducible show wpAny _ _ (exec (Stmt.For _ _ _ _ _) _) _ _ _)); (fail_if_success (with_reducible show wpAny _ _ (exec (Stmt.Try _ _ _ _ _) _) _ _ _)); (fail_if_success (with_reducible show wpAny _ _ (pyIter _) (fun it s₂ => Loop _ _ _ _ _ _ _ _ _ _ it s₂) _ _)); (fail_if_success (with_reducible show wpAny _ _ (call (Value.ref _) _ _) _ _ _)); (try k_fold); walk1; (try ((first | (with_reducible show wpAny _ _ (spliced _) _ _ _) | (with_reducible show wpAny _ _ (newList _) _ _ _) | (with_reducible show wpAny _ _ (execs _ _) _ _ _)); dsimp only)))))
        have hpm : ∀ k (h : k < ((rs.take i).foldl rowNext (laidP fs)).length), ∃ h' : k < ps.length, ((rs.take i).foldl rowNext (laidP fs))[k].1 = ps[k].2.1 := fun k h => by
          have e1 : k < (ps.map (·.2)).length := by rw [emap]; exact h
          refine ⟨by simpa using e1, ?_⟩
          have e2 : ((rs.take i).foldl rowNext (laidP fs))[k] = (ps.map (·.2))[k] := by congr 1; exact emap.symm
          rw [e2]; simp
        have el : ((rs.take i).foldl rowNext (laidP fs)).length = ps.length := by rw [← emap]; simp
        have hdn : dn ((rs.take i).foldl rowNext (laidP fs)) = r := dn_of _ r (by omega) (fun k h q => by obtain ⟨h', e⟩ := hpm k h; rw [e]; exact r2 k h' q) (fun k h q => by obtain ⟨h', e⟩ := hpm k h; rw [e]; exact r3 k h' q)
        have hjj : j = ((rs.take i).foldl rowNext (laidP fs)).length - tkn ((rs.take i).foldl rowNext (laidP fs)) rs[i] := by unfold tkn; rw [hdn, el]; exact hj
        have htk : (ps.drop j).reverse.map (·.2) = rowTaken ((rs.take i).foldl rowNext (laidP fs)) rs[i] := by
          unfold rowTaken; rw [← hjj, ← emap, List.map_reverse, List.map_drop]
        have hlt : (refsOf (ps.drop j).reverse).length = ((ps.drop j).reverse.map (·.2)).length := by simp
        rw [hlt, List.take_length, htk] at fm fk
        have e8 : rs.take (i + 1) = rs.take i ++ [rs[i]] := by rw [List.take_add_one, List.getElem?_eq_getElem hi]; rfl
        refine turn_end (I := I) (oI := oI) (.tail _ (mem_fil.mpr ⟨f4, Ne.symm hmI⟩)) F7 N7 ⟨la, ma, ps2, n2, _, nm + 1, ⟨rfl, rfl, rfl, rfl, trivial⟩, mem_fil.mpr ⟨.tail _ (mem_fil.mpr ⟨f1, hlm⟩), hlI⟩, mem_fil.mpr ⟨.head _, hmI⟩, hlm, ?_, ?_, ?_⟩
        · intro q hq
          have hZqq := f5 q hq
          refine ex3 hZqq ?_; (try clear hZqq); intro b1 b2 b3; intro b4
          exact ⟨⟨b1, b2, b3, mem_fil.mpr ⟨.tail _ (mem_fil.mpr ⟨b4, (f5' q hq).2.1⟩), (f5' q hq).2.2⟩⟩, (f5' q hq).2.1⟩
        · rw [e8, List.foldl_append, fm]
          have e7 : ((rs.take i).foldl rowNext (laidP fs)).take j = (ps.take j).map (·.2) := by rw [← emap, List.map_take]
          show _ = rowNext _ _
          rw [rowNext_def, ← hjj, e7]
        · rw [e8, masksP_snoc, List.map_append]
          have : mk = rowMask ((rs.take i).foldl rowNext (laidP fs)) rs[i] := fk
          rw [← this]
          exact ints_snoc hints
    (repeat ((first | (with_reducible rename Fr _ _ _ _ => zzZq) | (with_reducible rename News _ _ _ _ => zzZq) | (with_reducible rename IsRange _ _ _ _ _ _ _ _ => zzZq)); clear zzZq))
    intro j s5 xZq1
    refine ex8 xZq1 ?_; (try clear xZq1); intro j' na nt h5 tk5 m5 nw ta; refine and16 ?_; intro yZq14x8 F5 N5 em5 e1 e2 e3 e4 e5 d1 d2 d3 j1 j2 j3 yZq14x23
    obtain rfl := yZq14x8
    obtain rfl := yZq14x23
    replace F5 := fr_has F5 em5
    (repeat' (first | (k_unfold; (try dsimp only)) | ( (fail_if_success (with_reducible show wpAny _ _ (exec (Stmt.While _ _ _ _) _) _ _ _)); (fail_if_success (with_reducible show wpAny _ _ (exec (Stmt.For _ _ _ _ _) _) _ _ _)); (fail_if_success (with_reducible show wpAny _ _ (exec (Stmt.Try _ _ _ _ _) _) _ _ _)); (fail_if_success (with_reducible show wpAny _ _ (pyIter _) (fun it s₂ => Loop _ _ _ _ _ _ _ _ _ _ it s₂) _ _)); (fail_if_success (with_reducible show wpAny _ _ (call (Value.ref _) _ _) _ _ _)); (try k_fold); walk1; (try ((first | (with_reducible show wpAny _ _ (spliced _) _ _ _) | (with_reducible show wpAny _ _ (newList _) _ _ _) | (with_reducible show wpAny _ _ (execs _ _) _ _ _)); dsimp only)))))
    refine r_len N5 e1 (by simp; omega) ?_
    intro t5 tk5
    (repeat' (first | (k_unfold; (try dsimp only)) | ( (fail_if_success (with_reducible show wpAny _ _ (exec (Stmt.While _ _ _ _) _) _ _ _)); (fail_if_success (with_reducible show wpAny _ _ (exec (Stmt.For _ _ _ _ _) _) _ _ _)); (fail_if_success (with_reducible show wpAny _ _ (exec (Stmt.Try _ _ _ _ _) _) _ _ _)); (fail_if_success (with_reducible show wpAny _ _ (pyIter _) (fun it s₂ => Loop _ _ _ _ _ _ _ _ _ _ it s₂) _ _)); (fail_if_success (with_reducible show wpAny _ _ (call (Value.ref _) _ _) _ _ _)); (try k_fold); walk1; (try ((first | (with_reducible show wpAny _ _ (spliced _) _ _ _) | (with_reducible show wpAny _ _ (newList _) _ _ _) | (with_reducible show wpAny _ _ (execs _ _) _ _ _)); dsimp only)))))
    rotate_left
    · refine ⟨j, na, nt, _, _, _, nw, ta, rfl, ‹_›, ‹_›, ⟨rfl, rfl, rfl, rfl, rfl, trivial⟩, e1, e2, e3, e4, e5, d1, d2, d3, ?_⟩
      simp at *
      omega
    refine r_len N5 e2 (by simp; omega) ?_
    intro t6 tk6
    (repeat' (first | (k_unfold; (try dsimp only)) | ( (fail_if_success (with_reducible show wpAny _ _ (exec (Stmt.While _ _ _ _) _) _ _ _)); (fail_if_success (with_reducible show wpAny _ _ (exec (Stmt.For _ _ _ _ _) _) _ _ _)); (fail_if_success (with_reducible show wpAny _ _ (exec (Stmt.Try _ _ _ _ _) _) _ _ _)); (fail_if_success (with_reducible show wpAny _ _ (pyIter _) (fun it s₂ => Loop _ _ _ _ _ _ _ _ _ _ it s₂) _ _)); (fail_if_success (with_reducible show wpAny _ _ (call (Value.ref _) _ _) _ _ _)); (try k_fold); walk1; (try ((first | (with_reducible show wpAny _ _ (spliced _) _ _ _) | (with_reducible show wpAny _ _ (newList _) _ _ _) | (with_reducible show wpAny _ _ (execs _ _) _ _ _)); dsimp only)))))
    rotate_left
    · refine ⟨j, na, nt, _, _, _, nw, ta, rfl, ‹_›, ‹_›, ⟨rfl, rfl, rfl, rfl, rfl, trivial⟩, e1, e2, e3, e4, e5, d1, d2, d3, ?_⟩
      simp at *
      omega
    obtain ⟨k, rfl⟩ : ∃ k, j = k + 1 := ⟨j - 1, by simp at *; omega⟩
    have hk : k < ps.length := by omega
    have e1' : refsOf (ps.take (k + 1)) = refsOf (ps.take k) ++ [.ref ps[k].1] := by
      show (ps.take (k + 1)).map _ = (ps.take k).map _ ++ [_]
      rw [List.take_add_one, List.getElem?_eq_getElem hk, List.map_append]; rfl
    have e2' : refsOf (ps.drop k).reverse = refsOf (ps.drop (k + 1)).reverse ++ [.ref ps[k].1] := by
      show ((ps.drop k).reverse).map _ = ((ps.drop (k + 1)).reverse).map _ ++ [_]
      rw [List.drop_eq_getElem_cons hk, List.reverse_cons, List.map_append]; rfl
    have z1 : ((refsOf (ps.drop (k + 1)).reverse).length : Int) < rs[i] := by assumption
    rw [e1'] at e1
    refine r_pop ‹_› ‹_› e1 (by simp; omega) ?_
    intro h7 F7 N7
    (repeat' (first | (k_unfold; (try dsimp only)) | ( (fail_if_success (with_reducible show wpAny _ _ (exec (Stmt.While _ _ _ _) _) _ _ _)); (fail_if_success (with_reducible show wpAny _ _ (exec (Stmt.For _ _ _ _ _) _) _ _ _)); (fail_if_success (with_reducible show wpAny _ _ (exec (Stmt.Try _ _ _ _ _) _) _ _ _)); (fail_if_success (with_reducible show wpAny _ _ (pyIter _) (fun it s₂ => Loop _ _ _ _ _ _ _ _ _ _ it s₂) _ _)); (fail_if_success (with_reducible show wpAny _ _ (call (Value.ref _) _ _) _ _ _)); (try k_fold); walk1; (try ((first | (with_reducible show wpAny _ _ (spliced _) _ _ _) | (with_reducible show wpAny _ _ (newList _) _ _ _) | (with_reducible show wpAny _ _ (execs _ _) _ _ _)); dsimp only)))))
    rename Fr _ _ _ _ => F8
    rename News _ _ _ _ => N8
    refine r_append' F8 N8 (.tail _ (mem_fil.mpr ⟨e2, d1⟩)) (by simp; omega) ?_
    intro h9 F9 N9
    (repeat' (first | (k_unfold; (try dsimp only)) | ( (fail_if_success (with_reducible show wpAny _ _ (exec (Stmt.While _ _ _ _) _) _ _ _)); (fail_if_success (with_reducible show wpAny _ _ (exec (Stmt.For _ _ _ _ _) _) _ _ _)); (fail_if_success (with_reducible show wpAny _ _ (exec (Stmt.Try _ _ _ _ _) _) _ _ _)); (fail_if_success (with_reducible show wpAny _ _ (pyIter _) (fun it s₂ => Loop _ _ _ _ _ _ _ _ _ _ it s₂) _ _)); (fail_if_success (with_reducible show wpAny _ _ (call (Value.ref _) _ _) _ _ _)); (try k_fold); walk1; (try ((first | (with_reducible show wpAny _ _ (spliced _) _ _ _) | (with_reducible show wpAny _ _ (newList _) _ _ _) | (with_reducible show wpAny _ _ (execs _ _) _ _ _)); dsimp only)))))
    refine Exists.intro k ⟨by omega, k, _, _, _, _, _, _, ta, rfl, F9, N9, ⟨rfl, rfl, rfl, rfl, rfl, rfl, rfl, trivial⟩, .tail _ (mem_fil.mpr ⟨.head _, Ne.symm d1⟩), by rw [e2']; exact .head _, .tail _ (mem_fil.mpr ⟨.tail _ (mem_fil.mpr ⟨e3, Ne.symm hlm⟩), Ne.symm d2⟩),
      .tail _ (mem_fil.mpr ⟨.tail _ (mem_fil.mpr ⟨e4, Ne.symm hlI⟩), Ne.symm d3⟩), fun q hq => ?_, d1, d2, d3, ?_, ?_, ?_, rfl⟩
    · have y1 := (e5 q hq).ne_list N5 (ps := ps.take (k + 1)) (by rw [e1']; exact e1)
      have y2 := (e5 q hq).ne_list N5 (ps := (ps.drop (k + 1)).reverse) e2
      exact (((e5 q hq).fil y1).cons.fil y2).cons
    · simp at *; omega
    · omega
    · simp at z1; omega
  · (repeat ((first | (with_reducible rename Fr _ _ _ _ => zzZq) | (with_reducible rename News _ _ _ _ => zzZq) | (with_reducible rename IsRange _ _ _ _ _ _ _ _ => zzZq)); clear zzZq))
    intro h tk m₁ news₁ xZq1 F1 N1
    refine ex6 xZq1 ?_; (try clear xZq1); intro la ma ps n vs nm; refine and7 ?_; intro em ela ema hlm hps emap hints
    replace F1 := fr_has F1 em
    (repeat' (first | (k_unfold; (try dsimp only)) | ( (fail_if_success (with_reducible show wpAny _ _ (exec (Stmt.While _ _ _ _) _) _ _ _)); (fail_if_success (with_reducible show wpAny _ _ (exec (Stmt.For _ _ _ _ _) _) _ _ _)); (fail_if_success (with_reducible show wpAny _ _ (exec (Stmt.Try _ _ _ _ _) _) _ _ _)); (fail_if_success (with_reducible show wpAny _ _ (pyIter _) (fun it s₂ => Loop _ _ _ _ _ _ _ _ _ _ it s₂) _ _)); (fail_if_success (with_reducible show wpAny _ _ (call (Value.ref _) _ _) _ _ _)); (try k_fold); walk1; (try ((first | (with_reducible show wpAny _ _ (spliced _) _ _ _) | (with_reducible show wpAny _ _ (newList _) _ _ _) | (with_reducible show wpAny _ _ (execs _ _) _ _ _)); dsimp only)))))
    have e8 : rs.take vr.length = rs := by rw [hlenr, List.take_length]
    rw [e8] at hints
    exact hQ _ _ _ (Kb.of _ F1.keep) ⟨ma, vs, nm, rfl, N1.get ema, N1.fresh ema, hints⟩
noncomputable def dfl : List Int := [6, 5, 1, 0, 3, 5, 5, 2, 1, 0]
noncomputable def inp (ns : List Int) : List Int := ns.take 10 ++ dfl.drop ns.length
noncomputable def szOf (x : Int) : Int := if x % 9 < 7 then x % 9 else if x % 9 = 7 then 127 else 7 + 64 * (x / 9 % 4096)
theorem inp_length (ns : List Int) : (inp ns).length = 10 := by unfold inp dfl; simp; omega
theorem szOf_range (x : Int) : 0 ≤ szOf x ∧ szOf x < 262144 := by unfold szOf; split <;> (try split) <;> omega

theorem sp_sizes {prog : Program} {w : World} {A : Around} {E : Value → Shared → Prop} {s : Shared} {Q : Value → Shared → Prop}
   {sa : Addr} {vs : List Value} {ns : List Int}
   (G : Gd w s.heap) (R : Rm A 2) (hl : s.heap.IsList sa vs.toArray) (hi : IntsAre vs ns) (hz : ns.length ≤ 100)
   (hQ : Out [] s Q (fun v h' => ∃ oa vo n, v = .ref oa ∧ h'.get? oa = some (listO vo n) ∧ s.heap.get? oa = none ∧ IntsAre vo ((inp ns).map szOf))) :
   wpAny (model prog w) A (call (.ref 112) [.ref sa]) Q E s := by
  (((have kkZq : PySem.Challenge.rw_wu0059_01 = PySem.Challenge.rw_wu0059_01 ∧ Mine.hd.heap_39 = Mine.hd.heap_39 := ⟨rfl, rfl⟩); revert kkZq; k_fill; intro kkZq; clear kkZq; w_on))
  (((rename Rm _ _ => rrZq); (rename Around => aaZq); (have e0Zq := Rm.h rrZq); rcases aaZq with ⟨hhZq, d1Zq, d2Zq, d3Zq, d4Zq⟩; dsimp only at e0Zq; subst e0Zq))
  have R := ‹Rm _ 2›
  refine enter [(Str.ofString "script", .ref sa)] G R.room (by k_is) (by k_is) (by (first | exact BindsTo.of_eq rfl | exact binds_K (Gd.X (by assumption)) rfl (by k_is) rfl rfl rfl | exact binds_K (Gd.X (Gd.keeps (by assumption) (by assumption))) rfl (by k_is) rfl rfl rfl)) (locs rfl) (by decide) rfl rfl rfl ?_
  intro L h₁ tk F N X
  have hZqq := G.T
  refine ex5 hZqq ?_; (try clear hZqq); intro pp l m mg mb; intro T
  have hlen := hi.length
  (repeat' (first | (k_unfold; (try dsimp only)) | ( (fail_if_success (with_reducible show wpAny _ _ (exec (Stmt.While _ _ _ _) _) _ _ _)); (fail_if_success (with_reducible show wpAny _ _ (exec (Stmt.For _ _ _ _ _) _) _ _ _)); (fail_if_success (with_reducible show wpAny _ _ (exec (Stmt.Try _ _ _ _ _) _) _ _ _)); (fail_if_success (with_reducible show wpAny _ _ (pyIter _) (fun it s₂ => Loop _ _ _ _ _ _ _ _ _ _ it s₂) _ _)); (fail_if_success (with_reducible show wpAny _ _ (call (Value.ref _) _ _) _ _ _)); walk1; (try ((first | (with_reducible show wpAny _ _ (spliced _) _ _ _) | (with_reducible show wpAny _ _ (newList _) _ _ _) | (with_reducible show wpAny _ _ (execs _ _) _ _ _)); dsimp only)))))
  refine r_for s.heap L ?_
  (repeat' ((fail_if_success (with_reducible show wpAny _ _ (subscriptTail _ (PySem.Expr.Slice (some _) none none _) _ _) _ _ _)); (first | (k_unfold; (try dsimp only)) | ( (fail_if_success (with_reducible show wpAny _ _ (exec (Stmt.While _ _ _ _) _) _ _ _)); (fail_if_success (with_reducible show wpAny _ _ (exec (Stmt.For _ _ _ _ _) _) _ _ _)); (fail_if_success (with_reducible show wpAny _ _ (exec (Stmt.Try _ _ _ _ _) _) _ _ _)); (fail_if_success (with_reducible show wpAny _ _ (pyIter _) (fun it s₂ => Loop _ _ _ _ _ _ _ _ _ _ it s₂) _ _)); (fail_if_success (with_reducible show wpAny _ _ (call (Value.ref _) _ _) _ _ _)); walk1; (try ((first | (with_reducible show wpAny _ _ (spliced _) _ _ _) | (with_reducible show wpAny _ _ (newList _) _ _ _) | (with_reducible show wpAny _ _ (execs _ _) _ _ _)); dsimp only))))))
  walk1
  refine kmk_slice_ints ‹_› ‹_› (News.isList ‹_› (.head _)) (IsPart.int _ _) IsPart.none (by l_ints) (kmk_from (by l_ints) (by omega)) rfl ?_ (by with_unfolding_all rfl) (by intro _; with_unfolding_all rfl) (Nat.le_of_ble_eq_true rfl)
  intro D' ws' h' F' N' l1 hI' hC' hL'
  k_lt l1
  (repeat' (first | (k_unfold; (try dsimp only)) | ( (fail_if_success (with_reducible show wpAny _ _ (exec (Stmt.While _ _ _ _) _) _ _ _)); (fail_if_success (with_reducible show wpAny _ _ (exec (Stmt.For _ _ _ _ _) _) _ _ _)); (fail_if_success (with_reducible show wpAny _ _ (exec (Stmt.Try _ _ _ _ _) _) _ _ _)); (fail_if_success (with_reducible show wpAny _ _ (pyIter _) (fun it s₂ => Loop _ _ _ _ _ _ _ _ _ _ it s₂) _ _)); (fail_if_success (with_reducible show wpAny _ _ (call (Value.ref _) _ _) _ _ _)); walk1; (try ((first | (with_reducible show wpAny _ _ (spliced _) _ _ _) | (with_reducible show wpAny _ _ (newList _) _ _ _) | (with_reducible show wpAny _ _ (execs _ _) _ _ _)); dsimp only)))))
  rename Addr => dd
  rename News _ _ _ _ => N1
  rename Fr _ _ _ _ => F1
  have hI := ‹IntsAre _ (List.take 10 ns ++ _)›
  have e0 : List.take 10 ns ++ List.drop (Int.toNat ↑(List.length ns)) [6, 5, 1, 0, 3, 5, 5, 2, 1, 0] = inp ns := rfl
  rw [e0] at hI
  have hIl := hI.length
  rw [inp_length] at hIl
  refine loop_own (fun i m news => ∃ oa vo no, Has m [(Str.ofString "script", .ref sa), (Str.ofString "sizes", .ref oa)] ∧ (oa, listO vo no) ∈ news ∧ oa ≠ dd ∧ IntsAre vo (((inp ns).take i).map szOf))
    rfl F1 N1 ⟨_, [], 0, ⟨rfl, rfl, trivial⟩, by simp, by rename _ < dd ∧ _ < dd ∧ _ < dd ∧ _ < dd => zz; exact Nat.ne_of_lt zz.2.2.2, .nil⟩ ?_ ?_
  · (repeat ((first | (with_reducible rename Fr _ _ _ _ => zzZq) | (with_reducible rename News _ _ _ _ => zzZq) | (with_reducible rename IsRange _ _ _ _ _ _ _ _ => zzZq)); clear zzZq))
    intro i v m₁ news₁ I oI h tk hv xZq1 hnI hlI F1 N1
    refine ex3 xZq1 ?_; (try clear xZq1); intro oa vo no; refine and4 ?_; intro em eo hod hints
    replace F1 := fr_has F1 em
    obtain ⟨hi0, hv0⟩ := List.getElem?_eq_some_iff.mp hv
    have hi1 : i < (inp ns).length := by rw [inp_length]; omega
    obtain ⟨tv, hw⟩ := hI.get i (inp ns)[i] (List.getElem?_eq_getElem hi1)
    rw [hv] at hw
    obtain rfl : v = _ := Option.some.inj hw
    refine wpAny_assign_Name ?_
    (repeat' (first | (k_unfold; (try dsimp only)) | ( (fail_if_success (with_reducible show wpAny _ _ (exec (Stmt.While _ _ _ _) _) _ _ _)); (fail_if_success (with_reducible show wpAny _ _ (exec (Stmt.For _ _ _ _ _) _) _ _ _)); (fail_if_success (with_reducible show wpAny _ _ (exec (Stmt.Try _ _ _ _ _) _) _ _ _)); (fail_if_success (with_reducible show wpAny _ _ (pyIter _) (fun it s₂ => Loop _ _ _ _ _ _ _ _ _ _ it s₂) _ _)); (fail_if_success (with_reducible show wpAny _ _ (call (Value.ref _) _ _) _ _ _)); walk1; (try ((first | (with_reducible show wpAny _ _ (spliced _) _ _ _) | (with_reducible show wpAny _ _ (newList _) _ _ _) | (with_reducible show wpAny _ _ (execs _ _) _ _ _)); dsimp only)))))
    all_goals refine listMethod_K ‹News _ _ _ _› (.tail _ (.tail _ eo)) PySem.F.slot_list_append PySem.F.type_list_append ?_
    all_goals (repeat' (first | (k_unfold; (try dsimp only)) | ( (fail_if_success (with_reducible show wpAny _ _ (exec (Stmt.While _ _ _ _) _) _ _ _)); (fail_if_success (with_reducible show wpAny _ _ (exec (Stmt.For _ _ _ _ _) _) _ _ _)); (fail_if_success (with_reducible show wpAny _ _ (exec (Stmt.Try _ _ _ _ _) _) _ _ _)); (fail_if_success (with_reducible show wpAny _ _ (pyIter _) (fun it s₂ => Loop _ _ _ _ _ _ _ _ _ _ it s₂) _ _)); (fail_if_success (with_reducible show wpAny _ _ (call (Value.ref _) _ _) _ _ _)); walk1; (try ((first | (with_reducible show wpAny _ _ (spliced _) _ _ _) | (with_reducible show wpAny _ _ (newList _) _ _ _) | (with_reducible show wpAny _ _ (execs _ _) _ _ _)); dsimp only)))))
    all_goals refine r_append' ‹Fr _ _ _ _› ‹News _ _ _ _› (.tail _ (.tail _ eo)) ?_ ?_
    all_goals try (have q := hints.length; simp at q; omega)
    all_goals intro h7 F7 N7
    all_goals (repeat' (first | (k_unfold; (try dsimp only)) | ( (fail_if_success (with_reducible show wpAny _ _ (exec (Stmt.While _ _ _ _) _) _ _ _)); (fail_if_success (with_reducible show wpAny _ _ (exec (Stmt.For _ _ _ _ _) _) _ _ _)); (fail_if_success (with_reducible show wpAny _ _ (exec (Stmt.Try _ _ _ _ _) _) _ _ _)); (fail_if_success (with_reducible show wpAny _ _ (pyIter _) (fun it s₂ => Loop _ _ _ _ _ _ _ _ _ _ it s₂) _ _)); (fail_if_success (with_reducible show wpAny _ _ (call (Value.ref _) _ _) _ _ _)); walk1; (try ((first | (with_reducible show wpAny _ _ (spliced _) _ _ _) | (with_reducible show wpAny _ _ (newList _) _ _ _) | (with_reducible show wpAny _ _ (execs _ _) _ _ _)); dsimp only)))))
    all_goals have hIo := hnI _ eo
    all_goals refine turn_end2 (I := I) (oI := oI) (.tail _ (mem_fil.mpr ⟨.head _, Ne.symm hIo⟩)) (.tail _ (mem_fil.mpr ⟨.tail _ (.head _), Ne.symm hod⟩)) F7 N7 ⟨oa, _, no + 1, ⟨rfl, rfl, trivial⟩, mem_fil.mpr ⟨.head _, hIo⟩, hod, ?_⟩
    all_goals rw [List.take_add_one, List.getElem?_eq_getElem hi1, Option.toList_some, List.map_append]
    · have q : szOf (inp ns)[i] = Int.fmod (inp ns)[i] 9 := by
        unfold szOf; rw [← Int.fmod_eq_emod_of_nonneg _ (by omega : (0:Int) ≤ 9), if_pos ‹_›]
      show IntsAre _ (_ ++ [szOf _])
      rw [q]; exact ints_snoc hints
    · have q : szOf (inp ns)[i] = 127 := by
        unfold szOf; rw [← Int.fmod_eq_emod_of_nonneg _ (by omega : (0:Int) ≤ 9), if_neg ‹_›, if_pos ‹_›]
      show IntsAre _ (_ ++ [szOf _])
      rw [q]; exact ints_snoc hints
    · have q : szOf (inp ns)[i] = 7 + 64 * Int.fmod (Int.fdiv (inp ns)[i] 9) 4096 := by
        unfold szOf; rw [← Int.fmod_eq_emod_of_nonneg _ (by omega : (0:Int) ≤ 9), if_neg ‹_›, if_neg ‹_›, Int.fmod_eq_emod_of_nonneg _ (by omega), Int.fdiv_eq_ediv_of_nonneg _ (by omega)]
      show IntsAre _ (_ ++ [szOf _])
      rw [q]; exact ints_snoc hints
  · (repeat ((first | (with_reducible rename Fr _ _ _ _ => zzZq) | (with_reducible rename News _ _ _ _ => zzZq) | (with_reducible rename IsRange _ _ _ _ _ _ _ _ => zzZq)); clear zzZq))
    intro h tk m₁ news₁ xZq1 F1 N1
    refine ex3 xZq1 ?_; (try clear xZq1); intro oa vo no; refine and4 ?_; intro em eo hod hints
    replace F1 := fr_has F1 em
    (repeat' (first | (k_unfold; (try dsimp only)) | ( (fail_if_success (with_reducible show wpAny _ _ (exec (Stmt.While _ _ _ _) _) _ _ _)); (fail_if_success (with_reducible show wpAny _ _ (exec (Stmt.For _ _ _ _ _) _) _ _ _)); (fail_if_success (with_reducible show wpAny _ _ (exec (Stmt.Try _ _ _ _ _) _) _ _ _)); (fail_if_success (with_reducible show wpAny _ _ (pyIter _) (fun it s₂ => Loop _ _ _ _ _ _ _ _ _ _ it s₂) _ _)); (fail_if_success (with_reducible show wpAny _ _ (call (Value.ref _) _ _) _ _ _)); walk1; (try ((first | (with_reducible show wpAny _ _ (spliced _) _ _ _) | (with_reducible show wpAny _ _ (newList _) _ _ _) | (with_reducible show wpAny _ _ (execs _ _) _ _ _)); dsimp only)))))
    rw [hIl, show (inp ns).take 10 = inp ns from List.take_of_length_le (by rw [inp_length]; exact Nat.le_refl _)] at hints
    exact hQ _ _ _ (Kb.of _ F1.keep) ⟨oa, vo, no, rfl, N1.get (.tail _ eo), N1.fresh (.tail _ eo), hints⟩
noncomputable def preW (h : Int) : List Int := if h = 0 then [] else if h < 64 then [64 + h] else [64 + h / 64, 64 + h % 64]
noncomputable def encW (x : Int) : List Int := preW (x / 64) ++ [x % 64]
theorem preW_step {h : Int} (h0 : 0 < h) (h1 : h < 4096) : preW h = preW (h / 64) ++ [64 + h % 64] := by
  unfold preW
  by_cases q : h < 64
  · have e : h / 64 = 0 := by omega
    have e2 : h % 64 = h := by omega
    rw [if_neg (by omega), if_pos q, if_pos e, e2]; rfl
  · have e : h / 64 ≠ 0 := by omega
    rw [if_neg (by omega), if_neg q, if_neg e, if_pos (by omega)]; rfl
theorem preW_length (h : Int) : (preW h).length ≤ 2 := by unfold preW; split <;> (try split) <;> simp
theorem encW_length (h : Int) : (encW h).length ≤ 3 := by have := preW_length (h / 64); simp [encW]; omega
theorem encs_length (xs : List Int) : (xs.flatMap encW).length ≤ 3 * xs.length := by
  induction xs with
  | nil => simp
  | cons x r ih => have := encW_length x; simp only [List.flatMap_cons, List.length_append, List.length_cons]; omega

theorem fdivK {k : Int} {x : Int} (hk : 0 ≤ k := by omega) : Int.fdiv x k = x / k := Int.fdiv_eq_ediv_of_nonneg _ hk
theorem fmodK {k : Int} {x : Int} (hk : 0 ≤ k := by omega) : Int.fmod x k = x % k := Int.fmod_eq_emod_of_nonneg _ hk
theorem sp_octets {prog : Program} {w : World} {A : Around} {E : Value → Shared → Prop} {s : Shared} {Q : Value → Shared → Prop}
   {sa : Addr} {vs : List Value} {nv : Nat} {ns : List Int}
   (G : Gd w s.heap) (R : Rm A 2) (hl : s.heap.get? sa = some (listO vs nv)) (hi : IntsAre vs ns) (hz : ns.length ≤ 10) (hr : ∀ x ∈ ns, 0 ≤ x ∧ x < 262144)
   (hQ : Out [] s Q (fun v h' => ∃ oa vo n, v = .ref oa ∧ h'.get? oa = some (listO vo n) ∧ s.heap.get? oa = none ∧ IntsAre vo (ns.flatMap encW))) :
   wpAny (model prog w) A (call (.ref 119) [.ref sa]) Q E s := by
  (((have kkZq : PySem.Challenge.rw_wu0059_01 = PySem.Challenge.rw_wu0059_01 ∧ Mine.hd.heap_39 = Mine.hd.heap_39 := ⟨rfl, rfl⟩); revert kkZq; k_fill; intro kkZq; clear kkZq; w_on))
  (((rename Rm _ _ => rrZq); (rename Around => aaZq); (have e0Zq := Rm.h rrZq); rcases aaZq with ⟨hhZq, d1Zq, d2Zq, d3Zq, d4Zq⟩; dsimp only at e0Zq; subst e0Zq))
  have R := ‹Rm _ 2›
  refine enter [(Str.ofString "sizes", .ref sa)] G R.room (by k_is) (by k_is) (by (first | exact BindsTo.of_eq rfl | exact binds_K (Gd.X (by assumption)) rfl (by k_is) rfl rfl rfl | exact binds_K (Gd.X (Gd.keeps (by assumption) (by assumption))) rfl (by k_is) rfl rfl rfl)) (locs rfl) (by decide) rfl rfl rfl ?_
  intro L h₁ tk F N X
  have hZqq := G.T
  refine ex5 hZqq ?_; (try clear hZqq); intro pp l m mg mb; intro T
  have hlen := hi.length
  (repeat' (first | (k_unfold; (try dsimp only)) | ( (fail_if_success (with_reducible show wpAny _ _ (exec (Stmt.While _ _ _ _) _) _ _ _)); (fail_if_success (with_reducible show wpAny _ _ (exec (Stmt.For _ _ _ _ _) _) _ _ _)); (fail_if_success (with_reducible show wpAny _ _ (exec (Stmt.Try _ _ _ _ _) _) _ _ _)); (fail_if_success (with_reducible show wpAny _ _ (pyIter _) (fun it s₂ => Loop _ _ _ _ _ _ _ _ _ _ it s₂) _ _)); (fail_if_success (with_reducible show wpAny _ _ (call (Value.ref _) _ _) _ _ _)); (try k_fold); walk1; (try ((first | (with_reducible show wpAny _ _ (spliced _) _ _ _) | (with_reducible show wpAny _ _ (newList _) _ _ _) | (with_reducible show wpAny _ _ (execs _ _) _ _ _)); dsimp only)))))
  refine r_for s.heap L ?_
  (repeat' (first | (k_unfold; (try dsimp only)) | ( (fail_if_success (with_reducible show wpAny _ _ (exec (Stmt.While _ _ _ _) _) _ _ _)); (fail_if_success (with_reducible show wpAny _ _ (exec (Stmt.For _ _ _ _ _) _) _ _ _)); (fail_if_success (with_reducible show wpAny _ _ (exec (Stmt.Try _ _ _ _ _) _) _ _ _)); (fail_if_success (with_reducible show wpAny _ _ (pyIter _) (fun it s₂ => Loop _ _ _ _ _ _ _ _ _ _ it s₂) _ _)); (fail_if_success (with_reducible show wpAny _ _ (call (Value.ref _) _ _) _ _ _)); (try k_fold); walk1; (try ((first | (with_reducible show wpAny _ _ (spliced _) _ _ _) | (with_reducible show wpAny _ _ (newList _) _ _ _) | (with_reducible show wpAny _ _ (execs _ _) _ _ _)); dsimp only)))))
  refine loop_list (vs := vs) (ol := listO vs nv) (fun i m news => ∃ oa vo no, Has m [(Str.ofString "sizes", .ref sa), (Str.ofString "octets", .ref oa)] ∧ (oa, listO vo no) ∈ news ∧ IntsAre vo ((ns.take i).flatMap encW))
    rfl ‹_› ‹_› (Fr.keep ‹_› _ _ hl) rfl ⟨_, rfl⟩ (ne_frame ‹_› hl) ⟨_, [], 0, ⟨rfl, rfl, trivial⟩, by simp, .nil⟩ (fun _ _ _ _ => .inr hl) ?_ ?_
  · (repeat ((first | (with_reducible rename Fr _ _ _ _ => zzZq) | (with_reducible rename News _ _ _ _ => zzZq) | (with_reducible rename IsRange _ _ _ _ _ _ _ _ => zzZq)); clear zzZq))
    intro i v m₁ news₁ I oI h tk hv xZq1 hnI F1 N1
    refine ex3 xZq1 ?_; (try clear xZq1); intro oa vo no; refine and3 ?_; intro em eo hints
    replace F1 := fr_has F1 em
    have hi0 : i < ns.length := by have := (List.getElem?_eq_some_iff.mp hv).1; omega
    obtain ⟨tv, hw⟩ := hi.get i ns[i] (List.getElem?_eq_getElem hi0)
    rw [hv] at hw
    obtain rfl : v = _ := Option.some.inj hw
    have hrx := hr _ (List.getElem_mem hi0)
    generalize hx : ns[i] = x at hrx hv hw
    refine wpAny_assign_Name ?_
    (repeat' (first | (k_unfold; (try dsimp only)) | ( (fail_if_success (with_reducible show wpAny _ _ (exec (Stmt.While _ _ _ _) _) _ _ _)); (fail_if_success (with_reducible show wpAny _ _ (exec (Stmt.For _ _ _ _ _) _) _ _ _)); (fail_if_success (with_reducible show wpAny _ _ (exec (Stmt.Try _ _ _ _ _) _) _ _ _)); (fail_if_success (with_reducible show wpAny _ _ (pyIter _) (fun it s₂ => Loop _ _ _ _ _ _ _ _ _ _ it s₂) _ _)); (fail_if_success (with_reducible show wpAny _ _ (call (Value.ref _) _ _) _ _ _)); (try k_fold); walk1; (try ((first | (with_reducible show wpAny _ _ (spliced _) _ _ _) | (with_reducible show wpAny _ _ (newList _) _ _ _) | (with_reducible show wpAny _ _ (execs _ _) _ _ _)); dsimp only)))))
    refine r_while2 (fun n s' => ∃ (hh : Int) (th : Tok) (wd : List Int) (vw : List Value) (nw : Nat) (wa : Addr) (h' : Heap) (tk' : Nat) (m' : Str → Option Value) (nws : Led), s' = { s with heap := h', toks := tk' } ∧ Fr s.heap L h' m' ∧ News s.heap L h' nws ∧
        Has m' [(Str.ofString "sizes", .ref sa), (Str.ofString "octets", .ref oa), (Str.ofString "word", .ref wa), (Str.ofString "high", .int hh th)] ∧
        (wa, listO vw nw) ∈ nws ∧ IntsAre vw wd ∧ (oa, listO vo no) ∈ nws ∧ (I, oI) ∈ nws ∧ encW x = preW hh ++ wd ∧ 0 ≤ hh ∧ hh < 4096 ∧ n = hh.toNat)
      (fun s' => ∃ (vw : List Value) (nw : Nat) (wa : Addr) (h' : Heap) (tk' : Nat) (m' : Str → Option Value) (nws : Led), s' = { s with heap := h', toks := tk' } ∧ Fr s.heap L h' m' ∧ News s.heap L h' nws ∧
        Has m' [(Str.ofString "sizes", .ref sa), (Str.ofString "octets", .ref oa), (Str.ofString "word", .ref wa)] ∧
        (wa, listO vw nw) ∈ nws ∧ IntsAre vw (encW x) ∧ (oa, listO vo no) ∈ nws ∧ (I, oI) ∈ nws) (x / 64).toNat
      ⟨Int.fdiv x 64, _, [Int.fmod x 64], _, 0, _, _, _, _, _, rfl, ‹_›, ‹_›, ⟨rfl, rfl, rfl, rfl, trivial⟩, .head _, .cons _ _ .nil, .tail _ (.tail _ eo), .tail _ (.head _), by rw [fdivK, fmodK]; rfl, by rw [fdivK]; omega, by rw [fdivK]; omega, by rw [fdivK]⟩ ?_ ?_
    · (repeat ((first | (with_reducible rename Fr _ _ _ _ => zzZq) | (with_reducible rename News _ _ _ _ => zzZq) | (with_reducible rename IsRange _ _ _ _ _ _ _ _ => zzZq)); clear zzZq))
      intro n s5 xZq1
      refine ex10 xZq1 ?_; (try clear xZq1); intro hh th wd vw nw wa h5 tk5 m5 nws; refine and12 ?_; intro yZq2x10 F5 N5 em5 e1 e2 e3 e4 e5 e6 e7 yZq2x21
      obtain rfl := yZq2x10
      obtain rfl := yZq2x21
      replace F5 := fr_has F5 em5
      (repeat' (first | (k_unfold; (try dsimp only)) | ( (fail_if_success (with_reducible show wpAny _ _ (exec (Stmt.While _ _ _ _) _) _ _ _)); (fail_if_success (with_reducible show wpAny _ _ (exec (Stmt.For _ _ _ _ _) _) _ _ _)); (fail_if_success (with_reducible show wpAny _ _ (exec (Stmt.Try _ _ _ _ _) _) _ _ _)); (fail_if_success (with_reducible show wpAny _ _ (pyIter _) (fun it s₂ => Loop _ _ _ _ _ _ _ _ _ _ it s₂) _ _)); (fail_if_success (with_reducible show wpAny _ _ (call (Value.ref _) _ _) _ _ _)); (try k_fold); walk1; (try ((first | (with_reducible show wpAny _ _ (spliced _) _ _ _) | (with_reducible show wpAny _ _ (newList _) _ _ _) | (with_reducible show wpAny _ _ (execs _ _) _ _ _)); dsimp only)))))
      · have hle := encW_length x
        have hlw := e2.length
        have e5' := congrArg List.length e5
        rw [List.length_append] at e5'
        refine r_add ‹_› ‹_› (isL (News.get ‹_› (.head _))) (isL (News.get ‹_› (.tail _ e1))) (by simp; omega) ?_
        intro D h7 F7 N7 l7
        (repeat' (first | (k_unfold; (try dsimp only)) | ( (fail_if_success (with_reducible show wpAny _ _ (exec (Stmt.While _ _ _ _) _) _ _ _)); (fail_if_success (with_reducible show wpAny _ _ (exec (Stmt.For _ _ _ _ _) _) _ _ _)); (fail_if_success (with_reducible show wpAny _ _ (exec (Stmt.Try _ _ _ _ _) _) _ _ _)); (fail_if_success (with_reducible show wpAny _ _ (pyIter _) (fun it s₂ => Loop _ _ _ _ _ _ _ _ _ _ it s₂) _ _)); (fail_if_success (with_reducible show wpAny _ _ (call (Value.ref _) _ _) _ _ _)); (try k_fold); walk1; (try ((first | (with_reducible show wpAny _ _ (spliced _) _ _ _) | (with_reducible show wpAny _ _ (newList _) _ _ _) | (with_reducible show wpAny _ _ (execs _ _) _ _ _)); dsimp only)))))
        refine ⟨(Int.fdiv hh 64).toNat, by rw [fdivK]; omega, Int.fdiv hh 64, _, (64 + Int.fmod hh 64) :: wd, _, 0, D, _, _, _, _, rfl, ‹_›, ‹_›, ⟨rfl, rfl, rfl, rfl, trivial⟩, .head _, ?_, .tail _ (.tail _ e3), .tail _ (.tail _ e4), ?_, by rw [fdivK]; omega, by rw [fdivK]; omega, rfl⟩
        · exact .cons _ _ e2
        · rw [e5, preW_step ‹_› e7, fdivK, fmodK, List.append_assoc]; rfl
      · obtain rfl : hh = 0 := by omega
        exact ⟨vw, nw, wa, _, _, _, _, rfl, ‹_›, ‹_›, ⟨rfl, rfl, rfl, trivial⟩, e1, by rw [e5]; exact e2, e3, e4⟩
    · (repeat ((first | (with_reducible rename Fr _ _ _ _ => zzZq) | (with_reducible rename News _ _ _ _ => zzZq) | (with_reducible rename IsRange _ _ _ _ _ _ _ _ => zzZq)); clear zzZq))
      intro s5 xZq1
      refine ex7 xZq1 ?_; (try clear xZq1); intro vw nw wa h5 tk5 m5 nws; refine and8 ?_; intro yZq3x7 F5 N5 em5 e1 e2 e3 e4
      obtain rfl := yZq3x7
      replace F5 := fr_has F5 em5
      (repeat' (first | (k_unfold; (try dsimp only)) | ( (fail_if_success (with_reducible show wpAny _ _ (exec (Stmt.While _ _ _ _) _) _ _ _)); (fail_if_success (with_reducible show wpAny _ _ (exec (Stmt.For _ _ _ _ _) _) _ _ _)); (fail_if_success (with_reducible show wpAny _ _ (exec (Stmt.Try _ _ _ _ _) _) _ _ _)); (fail_if_success (with_reducible show wpAny _ _ (pyIter _) (fun it s₂ => Loop _ _ _ _ _ _ _ _ _ _ it s₂) _ _)); (fail_if_success (with_reducible show wpAny _ _ (call (Value.ref _) _ _) _ _ _)); (try k_fold); walk1; (try ((first | (with_reducible show wpAny _ _ (spliced _) _ _ _) | (with_reducible show wpAny _ _ (newList _) _ _ _) | (with_reducible show wpAny _ _ (execs _ _) _ _ _)); dsimp only)))))
      have hlv := hints.length
      have hlw := e2.length
      have q1 := encs_length (ns.take i)
      have q2 := encW_length x
      have q3 : (ns.take i).length = i := by rw [List.length_take]; omega
      refine r_add ‹_› ‹_› (isL (N5.get e3)) (isL (N5.get e1)) (by omega) ?_
      intro D h7 F7 N7 l7
      (repeat' (first | (k_unfold; (try dsimp only)) | ( (fail_if_success (with_reducible show wpAny _ _ (exec (Stmt.While _ _ _ _) _) _ _ _)); (fail_if_success (with_reducible show wpAny _ _ (exec (Stmt.For _ _ _ _ _) _) _ _ _)); (fail_if_success (with_reducible show wpAny _ _ (exec (Stmt.Try _ _ _ _ _) _) _ _ _)); (fail_if_success (with_reducible show wpAny _ _ (pyIter _) (fun it s₂ => Loop _ _ _ _ _ _ _ _ _ _ it s₂) _ _)); (fail_if_success (with_reducible show wpAny _ _ (call (Value.ref _) _ _) _ _ _)); (try k_fold); walk1; (try ((first | (with_reducible show wpAny _ _ (spliced _) _ _ _) | (with_reducible show wpAny _ _ (newList _) _ _ _) | (with_reducible show wpAny _ _ (execs _ _) _ _ _)); dsimp only)))))
      refine turn_end (I := I) (oI := oI) (.tail _ e4) ‹_› ‹_› ⟨D, _, 0, ⟨rfl, rfl, trivial⟩, mem_fil.mpr ⟨.head _, Ne.symm (Nat.ne_of_lt (l7 _ e4))⟩, ?_⟩
      rw [List.take_add_one, List.getElem?_eq_getElem hi0, Option.toList_some, List.flatMap_append, hx]
      show IntsAre _ (_ ++ (encW x ++ []))
      rw [List.append_nil]
      exact hints.append e2
  · (repeat ((first | (with_reducible rename Fr _ _ _ _ => zzZq) | (with_reducible rename News _ _ _ _ => zzZq) | (with_reducible rename IsRange _ _ _ _ _ _ _ _ => zzZq)); clear zzZq))
    intro h tk m₁ news₁ xZq1 F1 N1
    refine ex3 xZq1 ?_; (try clear xZq1); intro oa vo no; refine and3 ?_; intro em eo hints
    replace F1 := fr_has F1 em
    (repeat' (first | (k_unfold; (try dsimp only)) | ( (fail_if_success (with_reducible show wpAny _ _ (exec (Stmt.While _ _ _ _) _) _ _ _)); (fail_if_success (with_reducible show wpAny _ _ (exec (Stmt.For _ _ _ _ _) _) _ _ _)); (fail_if_success (with_reducible show wpAny _ _ (exec (Stmt.Try _ _ _ _ _) _) _ _ _)); (fail_if_success (with_reducible show wpAny _ _ (pyIter _) (fun it s₂ => Loop _ _ _ _ _ _ _ _ _ _ it s₂) _ _)); (fail_if_success (with_reducible show wpAny _ _ (call (Value.ref _) _ _) _ _ _)); (try k_fold); walk1; (try ((first | (with_reducible show wpAny _ _ (spliced _) _ _ _) | (with_reducible show wpAny _ _ (newList _) _ _ _) | (with_reducible show wpAny _ _ (execs _ _) _ _ _)); dsimp only)))))
    rw [hlen, List.take_length] at hints
    exact hQ _ _ _ (Kb.of _ F1.keep) ⟨oa, vo, no, rfl, N1.get eo, N1.fresh eo, hints⟩
/-- how many zeros lead -/
noncomputable def aheadOf : List Int → Nat
  | [] => 0
  | x :: r => if x = 0 then aheadOf r + 1 else 0
/-- the row that is told, from the first size that is not zero -/
noncomputable def rowGo (most : Nat) : List Int → List Int → List Int
  | acc, [] => acc
  | acc, x :: r => if x = 127 then acc else if x = 0 then acc ++ (List.replicate most (acc.drop (acc.length - 1))).flatten else rowGo most (acc ++ [x]) r
noncomputable def meantRow (most : Nat) (xs : List Int) : List Int := (rowGo most [] (xs.drop (aheadOf xs))).take most
theorem aheadOf_le (xs : List Int) : aheadOf xs ≤ xs.length := by
  induction xs with
  | nil => exact Nat.le_refl _
  | cons x r ih => unfold aheadOf; split <;> simp <;> omega
theorem aheadOf_zero : ∀ (xs : List Int) (k : Nat), k < aheadOf xs → xs[k]? = some 0
  | [], k, h => by simp [aheadOf] at h
  | x :: r, 0, h => by
    unfold aheadOf at h
    split at h
    · rename_i e; simp [e]
    · omega
  | x :: r, k + 1, h => by
    unfold aheadOf at h
    split at h
    · simpa using aheadOf_zero r k (by omega)
    · omega
theorem aheadOf_next : ∀ (xs : List Int), xs[aheadOf xs]? ≠ some 0
  | [] => by simp
  | x :: r => by
    unfold aheadOf
    split
    · simpa using aheadOf_next r
    · rename_i e; simpa using e
theorem aheadOf_ge (xs : List Int) (k : Nat) (hk : k ≤ xs.length) (h : ∀ j, j < k → xs[j]? = some 0) : k ≤ aheadOf xs := by
  apply Classical.byContradiction
  intro hc
  exact aheadOf_next xs (h _ (by omega))

theorem rep_length : ∀ (n : Nat) (l : List Int), l.length ≤ 1 → (List.replicate n l).flatten.length ≤ n := fun n l hl => by
  induction n with
  | zero => simp
  | succ n ih => simp only [List.replicate_succ, List.flatten_cons, List.length_append]; omega
theorem ints_rep {vs : List Value} {ns : List Int} (h : IntsAre vs ns) : ∀ k : Nat, IntsAre (List.replicate k vs).flatten (List.replicate k ns).flatten
  | 0 => .nil
  | k + 1 => by simp only [List.replicate_succ, List.flatten_cons]; exact h.append (ints_rep h k)
theorem rowGo_length (most : Nat) : ∀ (acc r : List Int), (rowGo most acc r).length ≤ acc.length + r.length + most
  | acc, [] => by unfold rowGo; omega
  | acc, x :: r => by
    unfold rowGo
    split
    · omega
    · split
      · have := rep_length most (acc.drop (acc.length - 1)) (by simp; omega)
        rw [List.length_append, List.length_cons]; omega
      · have := rowGo_length most (acc ++ [x]) r
        simp only [List.length_append, List.length_cons, List.length_nil] at *
        omega
theorem ahead_unique {xs : List Int} {k : Nat} (hk : k ≤ xs.length) (h : ∀ j, j < k → xs[j]? = some 0) (h2 : xs[k]? ≠ some 0) : k = aheadOf xs := by
  have h3 := aheadOf_ge xs k hk h
  apply Classical.byContradiction
  intro hc
  exact h2 (aheadOf_zero xs k (by omega))
theorem sp_meant {prog : Program} {w : World} {A : Around} {E : Value → Shared → Prop} {s : Shared} {Q : Value → Shared → Prop}
   {sa : Addr} {vs : List Value} {nv : Nat} {ns : List Int} {most : Nat} {tm : Tok}
   (G : Gd w s.heap) (R : Rm A 2) (hl : s.heap.get? sa = some (listO vs nv)) (hi : IntsAre vs ns) (hz : ns.length ≤ 10) (hm : most ≤ 6) (hm0 : 1 ≤ most)
   (hQ : Out [] s Q (fun v h' => ∃ oa ra t n vr nr, v = .ref oa ∧ h'.get? oa = some (listO [.int (aheadOf ns) t, .ref ra] n) ∧ s.heap.get? oa = none ∧ h'.get? ra = some (listO vr nr) ∧ s.heap.get? ra = none ∧ IntsAre vr (meantRow most ns))) :
   wpAny (model prog w) A (call (.ref 133) [.ref sa, .int most tm]) Q E s := by
  (((have kkZq : PySem.Challenge.rw_wu0059_01 = PySem.Challenge.rw_wu0059_01 ∧ Mine.hd.heap_39 = Mine.hd.heap_39 := ⟨rfl, rfl⟩); revert kkZq; k_fill; intro kkZq; clear kkZq; w_on))
  (((rename Rm _ _ => rrZq); (rename Around => aaZq); (have e0Zq := Rm.h rrZq); rcases aaZq with ⟨hhZq, d1Zq, d2Zq, d3Zq, d4Zq⟩; dsimp only at e0Zq; subst e0Zq))
  have R := ‹Rm _ 2›
  refine enter [(Str.ofString "sizes", .ref sa), (Str.ofString "most", .int most tm)] G R.room (by k_is) (by k_is) (by (first | exact BindsTo.of_eq rfl | exact binds_K (Gd.X (by assumption)) rfl (by k_is) rfl rfl rfl | exact binds_K (Gd.X (Gd.keeps (by assumption) (by assumption))) rfl (by k_is) rfl rfl rfl)) (locs rfl) (by decide) rfl rfl rfl ?_
  intro L h₁ tk F N X
  have hZqq := G.T
  refine ex5 hZqq ?_; (try clear hZqq); intro pp l m mg mb; intro T
  have hlen := hi.length
  (repeat' (first | (k_unfold; (try dsimp only)) | ( (fail_if_success (with_reducible show wpAny _ _ (exec (Stmt.While _ _ _ _) _) _ _ _)); (fail_if_success (with_reducible show wpAny _ _ (exec (Stmt.For _ _ _ _ _) _) _ _ _)); (fail_if_success (with_reducible show wpAny _ _ (exec (Stmt.Try _ _ _ _ _) _) _ _ _)); (fail_if_success (with_reducible show wpAny _ _ (pyIter _) (fun it s₂ => Loop _ _ _ _ _ _ _ _ _ _ it s₂) _ _)); (fail_if_success (with_reducible show wpAny _ _ (call (Value.ref _) _ _) _ _ _)); walk1; (try ((first | (with_reducible show wpAny _ _ (spliced _) _ _ _) | (with_reducible show wpAny _ _ (newList _) _ _ _) | (with_reducible show wpAny _ _ (execs _ _) _ _ _)); dsimp only)))))
  have hsL := ne_frame ‹Fr _ _ _ _› hl
  refine r_while2 (fun n s' => ∃ (k : Nat) (t : Tok) (h' : Heap) (tk' : Nat) (m' : Str → Option Value) (nws : Led), s' = { s with heap := h', toks := tk' } ∧ Fr s.heap L h' m' ∧ News s.heap L h' nws ∧
        Has m' [(Str.ofString "sizes", .ref sa), (Str.ofString "most", .int most tm), (Str.ofString "ahead", .int (k : Nat) t)] ∧ k ≤ ns.length ∧ (∀ j, j < k → ns[j]? = some 0) ∧ n = ns.length - k)
      (fun s' => ∃ (t : Tok) (h' : Heap) (tk' : Nat) (m' : Str → Option Value) (nws : Led), s' = { s with heap := h', toks := tk' } ∧ Fr s.heap L h' m' ∧ News s.heap L h' nws ∧
        Has m' [(Str.ofString "sizes", .ref sa), (Str.ofString "most", .int most tm), (Str.ofString "ahead", .int (aheadOf ns : Nat) t)]) ns.length
      ⟨0, _, _, _, _, _, rfl, ‹_›, ‹_›, ⟨rfl, rfl, rfl, trivial⟩, Nat.zero_le _, fun _ h => by omega, rfl⟩ ?_ ?_
  · (repeat ((first | (with_reducible rename Fr _ _ _ _ => zzZq) | (with_reducible rename News _ _ _ _ => zzZq) | (with_reducible rename IsRange _ _ _ _ _ _ _ _ => zzZq)); clear zzZq))
    intro n s5 xZq1
    refine ex6 xZq1 ?_; (try clear xZq1); intro k t h5 tk5 m5 nws; refine and7 ?_; intro yZq1x6 F5 N5 em5 e1 e2 yZq1x12
    obtain rfl := yZq1x6
    obtain rfl := yZq1x12
    replace F5 := fr_has F5 em5
    have hl5 := isL (F5.keep _ _ hl)
    (repeat' (first | (k_unfold; (try dsimp only)) | ( (fail_if_success (with_reducible show wpAny _ _ (exec (Stmt.While _ _ _ _) _) _ _ _)); (fail_if_success (with_reducible show wpAny _ _ (exec (Stmt.For _ _ _ _ _) _) _ _ _)); (fail_if_success (with_reducible show wpAny _ _ (exec (Stmt.Try _ _ _ _ _) _) _ _ _)); (fail_if_success (with_reducible show wpAny _ _ (pyIter _) (fun it s₂ => Loop _ _ _ _ _ _ _ _ _ _ it s₂) _ _)); (fail_if_success (with_reducible show wpAny _ _ (call (Value.ref _) _ _) _ _ _)); walk1; (try ((first | (with_reducible show wpAny _ _ (spliced _) _ _ _) | (with_reducible show wpAny _ _ (newList _) _ _ _) | (with_reducible show wpAny _ _ (execs _ _) _ _ _)); dsimp only)))))
    · have e3 : k < ns.length := by omega
      have e4 : ns[k]? = some 0 := by
        rename ns.getD _ 0 = 0 => z
        rw [Int.toNat_natCast, List.getD_eq_getElem?_getD, List.getElem?_eq_getElem e3] at z
        rw [List.getElem?_eq_getElem e3, ← z]; rfl
      refine ⟨ns.length - (k + 1), by omega, k + 1, _, _, _, _, _, rfl, ‹_›, ‹_›, ⟨rfl, rfl, rfl, trivial⟩, e3, fun j hj => ?_, rfl⟩
      by_cases q : j = k
      · rw [q, e4]
      · exact e2 j (by omega)
    · have e3 : k < ns.length := by omega
      have e4 : ns[k]? ≠ some 0 := by
        rename ns.getD _ 0 ≠ 0 => z
        rw [Int.toNat_natCast, List.getD_eq_getElem?_getD, List.getElem?_eq_getElem e3] at z
        rw [List.getElem?_eq_getElem e3]; intro q; exact z (Option.some.inj q)
      obtain rfl : k = aheadOf ns := ahead_unique e1 e2 e4
      exact ⟨_, _, _, _, _, rfl, F5, N5, ⟨rfl, rfl, rfl, trivial⟩⟩
    · obtain rfl : k = aheadOf ns := ahead_unique e1 e2 (by rw [List.getElem?_eq_none (by omega)]; simp)
      exact ⟨_, _, _, _, _, rfl, F5, N5, ⟨rfl, rfl, rfl, trivial⟩⟩
  · (repeat ((first | (with_reducible rename Fr _ _ _ _ => zzZq) | (with_reducible rename News _ _ _ _ => zzZq) | (with_reducible rename IsRange _ _ _ _ _ _ _ _ => zzZq)); clear zzZq))
    intro s5 xZq1
    refine ex5 xZq1 ?_; (try clear xZq1); intro t h5 tk5 m5 nws; refine and4 ?_; intro yZq2x5 F5 N5 em5
    obtain rfl := yZq2x5
    replace F5 := fr_has F5 em5
    have hl5 := isL (F5.keep _ _ hl)
    (repeat' (first | (k_unfold; (try dsimp only)) | ( (fail_if_success (with_reducible show wpAny _ _ (exec (Stmt.While _ _ _ _) _) _ _ _)); (fail_if_success (with_reducible show wpAny _ _ (exec (Stmt.For _ _ _ _ _) _) _ _ _)); (fail_if_success (with_reducible show wpAny _ _ (exec (Stmt.Try _ _ _ _ _) _) _ _ _)); (fail_if_success (with_reducible show wpAny _ _ (pyIter _) (fun it s₂ => Loop _ _ _ _ _ _ _ _ _ _ it s₂) _ _)); (fail_if_success (with_reducible show wpAny _ _ (call (Value.ref _) _ _) _ _ _)); walk1; (try ((first | (with_reducible show wpAny _ _ (spliced _) _ _ _) | (with_reducible show wpAny _ _ (newList _) _ _ _) | (with_reducible show wpAny _ _ (execs _ _) _ _ _)); dsimp only)))))
    refine r_for2 s.heap L (fun s' => ∃ (ra : Addr) (vr : List Value) (nr : Nat) (t : Tok) (h' : Heap) (tk' : Nat) (m' : Str → Option Value) (nws : Led), s' = { s with heap := h', toks := tk' } ∧ Fr s.heap L h' m' ∧ News s.heap L h' nws ∧
        Has m' [(Str.ofString "most", .int most tm), (Str.ofString "ahead", .int (aheadOf ns : Nat) t), (Str.ofString "row", .ref ra)] ∧ (ra, listO vr nr) ∈ nws ∧ IntsAre vr (rowGo most [] (ns.drop (aheadOf ns)))) ?_ ?_
    · (repeat' (first | (k_unfold; (try dsimp only)) | ( (fail_if_success (with_reducible show wpAny _ _ (exec (Stmt.While _ _ _ _) _) _ _ _)); (fail_if_success (with_reducible show wpAny _ _ (exec (Stmt.For _ _ _ _ _) _) _ _ _)); (fail_if_success (with_reducible show wpAny _ _ (exec (Stmt.Try _ _ _ _ _) _) _ _ _)); (fail_if_success (with_reducible show wpAny _ _ (pyIter _) (fun it s₂ => Loop _ _ _ _ _ _ _ _ _ _ it s₂) _ _)); (fail_if_success (with_reducible show wpAny _ _ (call (Value.ref _) _ _) _ _ _)); walk1; (try ((first | (with_reducible show wpAny _ _ (spliced _) _ _ _) | (with_reducible show wpAny _ _ (newList _) _ _ _) | (with_reducible show wpAny _ _ (execs _ _) _ _ _)); dsimp only)))))
      have hl6 := isL (Fr.keep ‹_› _ _ hl)
      refine r_from ‹_› ‹_› hl6 hi (by omega) ?_
      intro D ws h6 F6 N6 l6 i6
      have l7 := l6 _ (.head _)
      dsimp only at l7
      (repeat' (first | (k_unfold; (try dsimp only)) | ( (fail_if_success (with_reducible show wpAny _ _ (exec (Stmt.While _ _ _ _) _) _ _ _)); (fail_if_success (with_reducible show wpAny _ _ (exec (Stmt.For _ _ _ _ _) _) _ _ _)); (fail_if_success (with_reducible show wpAny _ _ (exec (Stmt.Try _ _ _ _ _) _) _ _ _)); (fail_if_success (with_reducible show wpAny _ _ (pyIter _) (fun it s₂ => Loop _ _ _ _ _ _ _ _ _ _ it s₂) _ _)); (fail_if_success (with_reducible show wpAny _ _ (call (Value.ref _) _ _) _ _ _)); walk1; (try ((first | (with_reducible show wpAny _ _ (spliced _) _ _ _) | (with_reducible show wpAny _ _ (newList _) _ _ _) | (with_reducible show wpAny _ _ (execs _ _) _ _ _)); dsimp only)))))
      have i6l := i6.length
      rw [List.length_drop] at i6l
      refine loop_own (fun i m news => ∃ ra vr nr acc t, Has m [(Str.ofString "most", .int most tm), (Str.ofString "ahead", .int (aheadOf ns : Nat) t), (Str.ofString "row", .ref ra)] ∧ (ra, listO vr nr) ∈ news ∧ ra ≠ D ∧ IntsAre vr acc ∧ acc.length = i ∧ rowGo most acc ((ns.drop (aheadOf ns)).drop i) = rowGo most [] (ns.drop (aheadOf ns)))
        rfl ‹_› ‹_› ⟨_, [], 0, [], _, ⟨rfl, rfl, rfl, trivial⟩, .head _, Nat.ne_of_lt l7, .nil, rfl, rfl⟩ ?_ ?_
      · (repeat ((first | (with_reducible rename Fr _ _ _ _ => zzZq) | (with_reducible rename News _ _ _ _ => zzZq) | (with_reducible rename IsRange _ _ _ _ _ _ _ _ => zzZq)); clear zzZq))
        intro i v m₁ news₁ I oI h tk hv xZq1 hnI hDI F1 N1
        refine ex5 xZq1 ?_; (try clear xZq1); intro ra vr nr acc t; refine and6 ?_; intro em e1 hD e2 e3 e4
        replace F1 := fr_has F1 em
        have hi0 : i < (ns.drop (aheadOf ns)).length := by have := (List.getElem?_eq_some_iff.mp hv).1; rw [List.length_drop]; omega
        obtain ⟨tv, hw⟩ := i6.get i _ (List.getElem?_eq_getElem hi0)
        rw [hv] at hw
        obtain rfl : v = _ := Option.some.inj hw
        have hi9 : acc.length ≤ 9 := by have q := List.length_drop (i := aheadOf ns) (l := ns); omega
        rw [List.drop_eq_getElem_cons hi0] at e4
        generalize (ns.drop (aheadOf ns))[i] = x at e4 hv hw
        refine wpAny_assign_Name ?_
        (repeat' (first | (k_unfold; (try dsimp only)) | ( (fail_if_success (with_reducible show wpAny _ _ (exec (Stmt.While _ _ _ _) _) _ _ _)); (fail_if_success (with_reducible show wpAny _ _ (exec (Stmt.For _ _ _ _ _) _) _ _ _)); (fail_if_success (with_reducible show wpAny _ _ (exec (Stmt.Try _ _ _ _ _) _) _ _ _)); (fail_if_success (with_reducible show wpAny _ _ (pyIter _) (fun it s₂ => Loop _ _ _ _ _ _ _ _ _ _ it s₂) _ _)); (fail_if_success (with_reducible show wpAny _ _ (call (Value.ref _) _ _) _ _ _)); walk1; (try ((first | (with_reducible show wpAny _ _ (spliced _) _ _ _) | (with_reducible show wpAny _ _ (newList _) _ _ _) | (with_reducible show wpAny _ _ (execs _ _) _ _ _)); dsimp only)))))
        · subst x
          refine ⟨ra, vr, nr, t, _, _, _, _, rfl, ‹_›, ‹_›, ⟨rfl, rfl, rfl, trivial⟩, .tail _ (.tail _ e1), ?_⟩
          rw [← e4]; unfold rowGo; rw [if_pos rfl]; exact e2
        · have e2l := e2.length
          refine r_last ‹_› ‹_› (isL (News.get ‹_› (.tail _ (.tail _ e1)))) e2 (by omega) ?_
          intro D2 ws2 h7 F7 N7 l7 i7
          (repeat' (first | (k_unfold; (try dsimp only)) | ( (fail_if_success (with_reducible show wpAny _ _ (exec (Stmt.While _ _ _ _) _) _ _ _)); (fail_if_success (with_reducible show wpAny _ _ (exec (Stmt.For _ _ _ _ _) _) _ _ _)); (fail_if_success (with_reducible show wpAny _ _ (exec (Stmt.Try _ _ _ _ _) _) _ _ _)); (fail_if_success (with_reducible show wpAny _ _ (pyIter _) (fun it s₂ => Loop _ _ _ _ _ _ _ _ _ _ it s₂) _ _)); (fail_if_success (with_reducible show wpAny _ _ (call (Value.ref _) _ _) _ _ _)); walk1; (try ((first | (with_reducible show wpAny _ _ (spliced _) _ _ _) | (with_reducible show wpAny _ _ (newList _) _ _ _) | (with_reducible show wpAny _ _ (execs _ _) _ _ _)); dsimp only)))))
          have hws := i7.length
          rw [List.length_drop] at hws
          have hsz : ws2.length * most ≤ 6 := by
            have q1 : ws2.length ≤ 1 := by omega
            have := Nat.mul_le_mul q1 hm
            omega
          refine mul_list_is F7 N7 (isL (N7.get (.head _))) (lm_carried_ints i7) (by omega) (by omega) (by rw [Int.toNat_natCast]; omega) ?_
          intro h8 F8 N8 _ hl8 _
          rw [Int.toNat_natCast] at hl8
          have i8 := ints_rep i7 most
          have i8l := i8.length
          have hsz2 := rep_length most _ (show ((List.drop (List.length acc - 1) acc)).length ≤ 1 by rw [List.length_drop]; omega)
          refine r_add F8 N8 (isL (N8.get (.tail _ (.tail _ (.tail _ e1))))) hl8 (by omega) ?_
          intro D3 h9 F9 N9 l9
          (repeat' (first | (k_unfold; (try dsimp only)) | ( (fail_if_success (with_reducible show wpAny _ _ (exec (Stmt.While _ _ _ _) _) _ _ _)); (fail_if_success (with_reducible show wpAny _ _ (exec (Stmt.For _ _ _ _ _) _) _ _ _)); (fail_if_success (with_reducible show wpAny _ _ (exec (Stmt.Try _ _ _ _ _) _) _ _ _)); (fail_if_success (with_reducible show wpAny _ _ (pyIter _) (fun it s₂ => Loop _ _ _ _ _ _ _ _ _ _ it s₂) _ _)); (fail_if_success (with_reducible show wpAny _ _ (call (Value.ref _) _ _) _ _ _)); walk1; (try ((first | (with_reducible show wpAny _ _ (spliced _) _ _ _) | (with_reducible show wpAny _ _ (newList _) _ _ _) | (with_reducible show wpAny _ _ (execs _ _) _ _ _)); dsimp only)))))
          refine ⟨D3, _, 0, t, _, _, _, _, rfl, ‹_›, ‹_›, ⟨rfl, rfl, rfl, trivial⟩, .head _, ?_⟩
          rw [← e4]; unfold rowGo; subst x; rw [if_neg (by omega), if_pos rfl]
          exact e2.append i8
        · refine listMethod_K ‹News _ _ _ _› (.tail _ (.tail _ e1)) PySem.F.slot_list_append PySem.F.type_list_append ?_
          (repeat' (first | (k_unfold; (try dsimp only)) | ( (fail_if_success (with_reducible show wpAny _ _ (exec (Stmt.While _ _ _ _) _) _ _ _)); (fail_if_success (with_reducible show wpAny _ _ (exec (Stmt.For _ _ _ _ _) _) _ _ _)); (fail_if_success (with_reducible show wpAny _ _ (exec (Stmt.Try _ _ _ _ _) _) _ _ _)); (fail_if_success (with_reducible show wpAny _ _ (pyIter _) (fun it s₂ => Loop _ _ _ _ _ _ _ _ _ _ it s₂) _ _)); (fail_if_success (with_reducible show wpAny _ _ (call (Value.ref _) _ _) _ _ _)); walk1; (try ((first | (with_reducible show wpAny _ _ (spliced _) _ _ _) | (with_reducible show wpAny _ _ (newList _) _ _ _) | (with_reducible show wpAny _ _ (execs _ _) _ _ _)); dsimp only)))))
          have e2l := e2.length
          have hrI := hnI _ e1
          refine r_append' ‹Fr _ _ _ _› ‹News _ _ _ _› (.tail _ (.tail _ e1)) (by omega) ?_
          intro h7 F7 N7
          (repeat' (first | (k_unfold; (try dsimp only)) | ( (fail_if_success (with_reducible show wpAny _ _ (exec (Stmt.While _ _ _ _) _) _ _ _)); (fail_if_success (with_reducible show wpAny _ _ (exec (Stmt.For _ _ _ _ _) _) _ _ _)); (fail_if_success (with_reducible show wpAny _ _ (exec (Stmt.Try _ _ _ _ _) _) _ _ _)); (fail_if_success (with_reducible show wpAny _ _ (pyIter _) (fun it s₂ => Loop _ _ _ _ _ _ _ _ _ _ it s₂) _ _)); (fail_if_success (with_reducible show wpAny _ _ (call (Value.ref _) _ _) _ _ _)); walk1; (try ((first | (with_reducible show wpAny _ _ (spliced _) _ _ _) | (with_reducible show wpAny _ _ (newList _) _ _ _) | (with_reducible show wpAny _ _ (execs _ _) _ _ _)); dsimp only)))))
          refine turn_end2 (I := I) (oI := oI) (.tail _ (mem_fil.mpr ⟨.head _, Ne.symm hrI⟩)) (.tail _ (mem_fil.mpr ⟨.tail _ (.head _), Ne.symm hD⟩)) F7 N7 ⟨ra, _, nr + 1, acc ++ [x], t, ⟨rfl, rfl, rfl, trivial⟩, mem_fil.mpr ⟨.head _, hrI⟩, hD, ints_snoc e2, by rw [List.length_append, e3]; rfl, ?_⟩
          rw [← e4]
          conv => rhs; unfold rowGo
          rw [if_neg ‹_›, if_neg ‹_›]
      · (repeat ((first | (with_reducible rename Fr _ _ _ _ => zzZq) | (with_reducible rename News _ _ _ _ => zzZq) | (with_reducible rename IsRange _ _ _ _ _ _ _ _ => zzZq)); clear zzZq))
        intro h tk m₁ news₁ xZq1 F1 N1
        refine ex5 xZq1 ?_; (try clear xZq1); intro ra vr nr acc t; refine and6 ?_; intro em e1 hD e2 e3 e4
        replace F1 := fr_has F1 em
        (repeat' (first | (k_unfold; (try dsimp only)) | ( (fail_if_success (with_reducible show wpAny _ _ (exec (Stmt.While _ _ _ _) _) _ _ _)); (fail_if_success (with_reducible show wpAny _ _ (exec (Stmt.For _ _ _ _ _) _) _ _ _)); (fail_if_success (with_reducible show wpAny _ _ (exec (Stmt.Try _ _ _ _ _) _) _ _ _)); (fail_if_success (with_reducible show wpAny _ _ (pyIter _) (fun it s₂ => Loop _ _ _ _ _ _ _ _ _ _ it s₂) _ _)); (fail_if_success (with_reducible show wpAny _ _ (call (Value.ref _) _ _) _ _ _)); walk1; (try ((first | (with_reducible show wpAny _ _ (spliced _) _ _ _) | (with_reducible show wpAny _ _ (newList _) _ _ _) | (with_reducible show wpAny _ _ (execs _ _) _ _ _)); dsimp only)))))
        rw [List.drop_of_length_le (by rw [List.length_drop]; omega)] at e4
        exact ⟨ra, vr, nr, t, _, _, _, _, rfl, F1, N1, ⟨rfl, rfl, rfl, trivial⟩, .tail _ e1, by rw [← e4]; exact e2⟩
    · (repeat ((first | (with_reducible rename Fr _ _ _ _ => zzZq) | (with_reducible rename News _ _ _ _ => zzZq) | (with_reducible rename IsRange _ _ _ _ _ _ _ _ => zzZq)); clear zzZq))
      intro s6 xZq1
      refine ex8 xZq1 ?_; (try clear xZq1); intro ra vr nr t h6 tk6 m6 nws; refine and6 ?_; intro yZq5x8 F6 N6 em6 e1 e2
      obtain rfl := yZq5x8
      replace F6 := fr_has F6 em6
      (repeat' (first | (k_unfold; (try dsimp only)) | ( (fail_if_success (with_reducible show wpAny _ _ (exec (Stmt.While _ _ _ _) _) _ _ _)); (fail_if_success (with_reducible show wpAny _ _ (exec (Stmt.For _ _ _ _ _) _) _ _ _)); (fail_if_success (with_reducible show wpAny _ _ (exec (Stmt.Try _ _ _ _ _) _) _ _ _)); (fail_if_success (with_reducible show wpAny _ _ (pyIter _) (fun it s₂ => Loop _ _ _ _ _ _ _ _ _ _ it s₂) _ _)); (fail_if_success (with_reducible show wpAny _ _ (call (Value.ref _) _ _) _ _ _)); walk1; (try ((first | (with_reducible show wpAny _ _ (spliced _) _ _ _) | (with_reducible show wpAny _ _ (newList _) _ _ _) | (with_reducible show wpAny _ _ (execs _ _) _ _ _)); dsimp only)))))
      refine r_upto F6 N6 (isL (N6.get e1)) e2 (by have := e2.length; have := rowGo_length most [] (ns.drop (aheadOf ns)); simp at this; omega) ?_
      intro D ws h7 F7 N7 l7 i7
      (repeat' (first | (k_unfold; (try dsimp only)) | ( (fail_if_success (with_reducible show wpAny _ _ (exec (Stmt.While _ _ _ _) _) _ _ _)); (fail_if_success (with_reducible show wpAny _ _ (exec (Stmt.For _ _ _ _ _) _) _ _ _)); (fail_if_success (with_reducible show wpAny _ _ (exec (Stmt.Try _ _ _ _ _) _) _ _ _)); (fail_if_success (with_reducible show wpAny _ _ (pyIter _) (fun it s₂ => Loop _ _ _ _ _ _ _ _ _ _ it s₂) _ _)); (fail_if_success (with_reducible show wpAny _ _ (call (Value.ref _) _ _) _ _ _)); walk1; (try ((first | (with_reducible show wpAny _ _ (spliced _) _ _ _) | (with_reducible show wpAny _ _ (newList _) _ _ _) | (with_reducible show wpAny _ _ (execs _ _) _ _ _)); dsimp only)))))
      refine hQ _ _ _ (Kb.of _ (Fr.keep ‹_›)) ⟨_, D, t, 0, ws, 0, rfl, News.get ‹_› (.head _), News.fresh ‹_› (.head _), News.get ‹_› (.tail _ (.head _)), News.fresh ‹_› (.tail _ (.head _)), i7⟩
noncomputable def LI (o : Obj) (l : Addr) (i : Nat) : Prop := o.cls = .type "list_iterator" ∧ o.data = .fields #[.ref l, .int i 0]
section
open PySem.Spec
variable {prog : Program} {w : World} {A : Around} {E : Value → Shared → Prop} {s : Shared} {h₀ : Heap} {L : Addr} {m : Str → Option Value} {news : Led}
theorem li_special {it l : Addr} {i : Nat} {items} {x : Value} {Q : Option Value → Shared → Prop} (hit : s.heap.IsListIter it l i)
    (hl : s.heap.IsList l items) (hx : items[i]? = some x)
    (hQ : ∀ h', h'.IsListIter it l (i + 1) → Heap.SameBut it s.heap h' → Q (some x) { s with heap := h' }) :
    wpAny (model prog w) A (callSpecial? (.ref it) (Str.ofString "__next__")) Q E s := by
  have hZqq := id hit
  refine ex1 hZqq ?_; (try clear hZqq); intro o; refine and3 ?_; intro ho hc hd
  obtain ⟨ol, hol, _, nl, hdl⟩ := hl
  refine wpAny_callSpecial?_slot (name := Str.ofString "__next__") hit.typeIs slot_listiter_next
    (wpAny_call_entry slot_listiter_next hit.typeIs entry_listiter_next ?_ (args_listiter_next _))
  show wpAny _ _ (field (.ref it) 0 >>= _) _ _ s
  refine wpAny_bind (wpAny_field ho hd (x := .ref l) rfl ?_)
  show wpAny _ _ (if (Value.ref l == Value.none) = true then _ else _) _ _ s
  rw [if_neg (show ¬ ((Value.ref l == Value.none) = true) from Bool.false_ne_true)]
  show wpAny _ _ (field (.ref it) 1 >>= _) _ _ s
  refine wpAny_bind (wpAny_field ho hd (x := .int i 0) rfl ?_)
  show wpAny _ _ (seqItems? (.ref l) >>= _) _ _ s
  refine wpAny_bind (wpAny_seqItems hol hdl ?_)
  simp only [Int.toNat_natCast, hx]
  refine wpAny_bind (wpAny_setField ho hd (by simp) (wpAny_pure ⟨x, rfl, hQ _ ?_ (Heap.SameBut.update ..)⟩))
  exact ⟨_, Heap.get?_update_self _ ho (Obj.isFreed_of_fields (Obj.data_mapFields hd _)), (Obj.cls_mapFields ..).trans hc, by
    rw [Obj.data_mapFields hd]; simp [rawInt]⟩
theorem r_next {it l : Addr} {io : Obj} {i : Nat} {items : Array Value} {x : Value} {Q : Value → Shared → Prop} (F : Fr h₀ L s.heap m) (N : News h₀ L s.heap news) (hm : (it, io) ∈ news) (hi : LI io l i)
    (hl : s.heap.IsList l items) (hx : items[i]? = some x)
    (h : ∀ h' o', Fr h₀ L h' m → News h₀ L h' ((it, o') :: fil it news) → LI o' l (i + 1) → Q x { s with heap := h' }) :
    wpAny (model prog w) A (call (.builtin "next") [.ref it]) Q E s := by
  have hn := N _ hm
  have hit : s.heap.IsListIter it l i := ⟨io, hn.1, hi.1, hi.2⟩
  refine call_function_entry (by decide +kernel) (by decide +kernel) kdk_entry_next (kdk_args_next _) ?_
  unfold Builtin.«next»
  refine wpAny_bind (m := someArgs "next" 1 2 _) (wpAny_of_eq (a := [Value.ref it]) (by first | rfl | kernel_rfl!) ?_)
  dsimp only
  refine wpAny_bind (wpAny_specialOf (name := Str.ofString "__next__") hit.typeIs slot_listiter_next.lookup ?_)
  refine wpAny_ite_split (fun hab => absurd hab (by decide)) (fun _ => ?_)
  refine wpAny_bind (li_special hit hl hx fun h' hit' hs => ?_)
  refine ex1 hit' ?_; (try clear hit'); intro o'; refine and3 ?_; intro ho' hc' hd'
  exact wpAny_pure ⟨_, rfl, h h' o' (F.change hs hn.2.1 hn.2.2) (fun p hp => by
    rcases List.mem_cons.mp hp with rfl | q
    · exact ⟨ho', hn.2⟩
    · have q' := mem_fil.mp q
      exact ⟨(hs.2 _ q'.2).trans (N p q'.1).1, (N p q'.1).2⟩) ⟨hc', hd'⟩⟩
theorem r_iter {l : Addr} {items : Array Value} {Q : Value → Shared → Prop} (F : Fr h₀ L s.heap m) (N : News h₀ L s.heap news) (hl : s.heap.IsList l items)
    (h : ∀ I h' oI, Fr h₀ L h' m → News h₀ L h' ((I, oI) :: news) → (∀ p ∈ news, p.1 < I) → LI oI l 0 → Q (.ref I) { s with heap := h' }) :
    wpAny (model prog w) A (call (.builtin "iter") [.ref l]) Q E s := by
  refine call_function_entry (by decide +kernel) (by decide +kernel) kdk_entry_iter (kdk_args_iter _) ?_
  unfold Builtin.«iter»
  refine wpAny_bind (m := someArgs "iter" 1 2 _) (wpAny_of_eq (a := [Value.ref l]) (by first | rfl | kernel_rfl!) ?_)
  show wpAny _ _ (pyIter (.ref l) >>= _) _ _ _
  refine wpAny_bind (wpAny_pyIter_list hl ?_)
  exact wpAny_pure ⟨_, rfl, h _ _ _ (F.push _) (News.push F N _ rfl) (fun q hq => Heap.lt_size (N q hq).1) ⟨rfl, rfl⟩⟩
end
-- needs C8 C10
theorem bitAnd_nat (a b : Nat) : Builtin.bitAnd (a : Int) (b : Int) = ((a &&& b : Nat) : Int) := by
  rw [← bitAnd_eq]
  unfold Spec.bitAnd
  simp
theorem and63 {a : Int} (h : 0 ≤ a) : Builtin.bitAnd a 63 = a % 64 := by
  obtain ⟨n, rfl⟩ := Int.eq_ofNat_of_zero_le h
  rw [show (63 : Int) = ((63 : Nat) : Int) from rfl, bitAnd_nat, show (63 : Nat) = 2 ^ 6 - 1 from rfl, Nat.and_two_pow_sub_one_eq_mod]; rfl
theorem and64 {a : Int} (h : 0 ≤ a) (h2 : a < 128) : Builtin.bitAnd a 64 = 0 ↔ a < 64 := by
  obtain ⟨n, rfl⟩ := Int.eq_ofNat_of_zero_le h
  rw [show (64 : Int) = ((64 : Nat) : Int) from rfl, bitAnd_nat]
  have q : ∀ k, k < 128 → ((k &&& 64) = 0 ↔ k < 64) := by decide
  have := q n (by omega)
  omega
theorem or64 {v r : Int} (hv : 0 ≤ v) (hr : 0 ≤ r) (hr2 : r < 64) : Builtin.bitOr (v * 64) r = v * 64 + r := by
  obtain ⟨n, rfl⟩ := Int.eq_ofNat_of_zero_le hv
  obtain ⟨k, rfl⟩ := Int.eq_ofNat_of_zero_le hr
  have e : ((n : Int) * 64) = ((2 ^ 6 * n : Nat) : Int) := by omega
  rw [e, bitOr_nat, ← Nat.two_pow_add_eq_or_of_lt (by omega : k < 2 ^ 6)]; omega
noncomputable def valOf (ds : List Int) : Int := ds.foldl (fun v d => v * 64 + d % 64) 0
theorem encW_cont {x : Int} (h0 : 0 ≤ x) (h1 : x < 262144) (k : Nat) (d : Int) (h : (encW x)[k]? = some d) : 0 ≤ d ∧ d < 128 ∧ (d < 64 ↔ k + 1 = (encW x).length) := by
  unfold encW preW at *
  split at h
  · rename_i e
    rw [if_pos e]
    rcases k with _ | k <;> simp at h
    subst h; simp; omega
  · rename_i e
    rw [if_neg e]
    split at h
    · rename_i e2
      rw [if_pos e2]
      rcases k with _ | _ | k <;> simp at h <;> subst h <;> simp <;> omega
    · rename_i e2
      rw [if_neg e2]
      rcases k with _ | _ | _ | k <;> simp at h <;> subst h <;> simp <;> omega
theorem encW_val {x : Int} (h0 : 0 ≤ x) (h1 : x < 262144) : valOf (encW x) = x := by
  unfold encW preW valOf
  split
  · simp; omega
  · split
    · simp; omega
    · simp; omega
theorem encW_pos (x : Int) : 1 ≤ (encW x).length := by unfold encW; simp
theorem valOf_snoc (a : List Int) (d : Int) : valOf (a ++ [d]) = valOf a * 64 + d % 64 := by unfold valOf; rw [List.foldl_append]; rfl
theorem valOf_nonneg (a : List Int) : 0 ≤ valOf a := by
  have q : ∀ (l : List Int) (v : Int), 0 ≤ v → 0 ≤ l.foldl (fun v d => v * 64 + d % 64) v := fun l => by
    induction l with
    | nil => exact fun v h => h
    | cons x r ih => exact fun v h => ih _ (by show 0 ≤ v * 64 + x % 64; omega)
  exact q a 0 (by omega)
theorem valOf_lt (a : List Int) : valOf a + 1 ≤ 64 ^ a.length := by
  have q : ∀ (l : List Int) (v : Int) (b : Int), v + 1 ≤ b → (l.foldl (fun v d => v * 64 + d % 64) v) + 1 ≤ b * 64 ^ l.length := fun l => by
    induction l with
    | nil => exact fun v b h => by simpa using h
    | cons x r ih =>
      intro v b h
      have := ih (v * 64 + x % 64) (b * 64) (by omega)
      rw [List.foldl_cons, List.length_cons, Int.pow_succ, Int.mul_comm (64 ^ r.length) 64, ← Int.mul_assoc]
      exact this
  simpa [valOf] using q a 0 1 (by omega)
theorem sp_parse {prog : Program} {w : World} {A : Around} {E : Value → Shared → Prop} {s : Shared} {Q : Value → Shared → Prop} {base : Heap}
   {it oa : Addr} {io : Obj} {vo : List Value} {no : Nat} {os rest : List Int} {p : Nat} {x : Int}
   (G : Gd w base) (hb : ∀ b o, base.get? b = some o → s.heap.get? b = some o) (R : Rm A 2) (hit : s.heap.get? it = some io) (hib : base.get? it = none) (hli : LI io oa p)
   (ho : s.heap.get? oa = some (listO vo no)) (hoi : oa ≠ it) (hi : IntsAre vo os) (hx : 0 ≤ x ∧ x < 262144) (hd : os.drop p = encW x ++ rest)
   (hQ : Out [it] s Q (fun v h' => ∃ t io', v = .int x t ∧ h'.get? it = some io' ∧ LI io' oa (p + (encW x).length))) :
   wpAny (model prog w) A (call (.ref 56) [.ref it]) Q E s := by
  (((have kkZq : PySem.Challenge.rw_wu0059_01 = PySem.Challenge.rw_wu0059_01 ∧ Mine.hd.heap_39 = Mine.hd.heap_39 := ⟨rfl, rfl⟩); revert kkZq; k_fill; intro kkZq; clear kkZq; w_on))
  (((rename Rm _ _ => rrZq); (rename Around => aaZq); (have e0Zq := Rm.h rrZq); rcases aaZq with ⟨hhZq, d1Zq, d2Zq, d3Zq, d4Zq⟩; dsimp only at e0Zq; subst e0Zq))
  have R := ‹Rm _ 2›
  refine enterM [(Str.ofString "iterator", .ref it)] G hb [(it, io)] (by simp; exact ⟨hit, hib⟩) R.room (by k_is) (by k_is) (by (first | exact BindsTo.of_eq rfl | exact binds_K (Gd.X (by assumption)) rfl (by k_is) rfl rfl rfl | exact binds_K (Gd.X (Gd.keeps (by assumption) (by assumption))) rfl (by k_is) rfl rfl rfl)) (locs rfl) (by decide) rfl rfl rfl ?_
  intro g L h₁ tk F N Gg X kg
  have hZqq := Gg.T
  refine ex5 hZqq ?_; (try clear hZqq); intro pp l m mg mb; intro T
  have hog := kg _ _ (by simpa using hoi) ho
  have hget : ∀ j d, (encW x)[j]? = some d → ∃ t, vo.toArray[p + j]? = some (.int d t) := fun j d hj => by
    have e : os[p + j]? = some d := by
      rw [← List.getElem?_drop, hd, List.getElem?_append_left (by
        rcases Nat.lt_or_ge j (encW x).length with q | q
        · exact q
        · rw [List.getElem?_eq_none q] at hj; cases hj), hj]
    obtain ⟨t, e2⟩ := hi.get (p + j) d e
    exact ⟨t, by rw [List.getElem?_toArray]; exact e2⟩
  obtain ⟨d0, hd0⟩ : ∃ d, (encW x)[0]? = some d := ⟨_, List.getElem?_eq_getElem (by have := encW_pos x; omega)⟩
  obtain ⟨t0, ht0⟩ := hget 0 d0 hd0
  have c0 := encW_cont hx.1 hx.2 0 d0 hd0
  (repeat' (first | (k_unfold; (try dsimp only)) | ( (fail_if_success (with_reducible show wpAny _ _ (exec (Stmt.While _ _ _ _) _) _ _ _)); (fail_if_success (with_reducible show wpAny _ _ (exec (Stmt.For _ _ _ _ _) _) _ _ _)); (fail_if_success (with_reducible show wpAny _ _ (exec (Stmt.Try _ _ _ _ _) _) _ _ _)); (fail_if_success (with_reducible show wpAny _ _ (pyIter _) (fun it s₂ => Loop _ _ _ _ _ _ _ _ _ _ it s₂) _ _)); (fail_if_success (with_reducible show wpAny _ _ (call (Value.ref _) _ _) _ _ _)); (try k_fold); walk1; (try ((first | (with_reducible show wpAny _ _ (spliced _) _ _ _) | (with_reducible show wpAny _ _ (newList _) _ _ _) | (with_reducible show wpAny _ _ (execs _ _) _ _ _)); dsimp only)))))
  refine r_next ‹_› ‹_› (.head _) hli (isL (Fr.keep ‹_› _ _ hog)) ht0 ?_
  intro h2 o2 F2 N2 l2
  (repeat' (first | (k_unfold; (try dsimp only)) | ( (fail_if_success (with_reducible show wpAny _ _ (exec (Stmt.While _ _ _ _) _) _ _ _)); (fail_if_success (with_reducible show wpAny _ _ (exec (Stmt.For _ _ _ _ _) _) _ _ _)); (fail_if_success (with_reducible show wpAny _ _ (exec (Stmt.Try _ _ _ _ _) _) _ _ _)); (fail_if_success (with_reducible show wpAny _ _ (pyIter _) (fun it s₂ => Loop _ _ _ _ _ _ _ _ _ _ it s₂) _ _)); (fail_if_success (with_reducible show wpAny _ _ (call (Value.ref _) _ _) _ _ _)); (try k_fold); walk1; (try ((first | (with_reducible show wpAny _ _ (spliced _) _ _ _) | (with_reducible show wpAny _ _ (newList _) _ _ _) | (with_reducible show wpAny _ _ (execs _ _) _ _ _)); dsimp only)))))
  have v0 : Builtin.bitAnd d0 63 = valOf ((encW x).take 1) := by
    rw [and63 c0.1, List.take_add_one, hd0]; simp [valOf]
  refine r_while2 (fun n s' => ∃ (j : Nat) (d : Int) (t tv : Tok) (o : Obj) (h' : Heap) (tk' : Nat) (m' : Str → Option Value) (nws : Led), s' = { s with heap := h', toks := tk' } ∧ Fr g L h' m' ∧ News g L h' nws ∧
        Has m' [(Str.ofString "iterator", .ref it), (Str.ofString "b", .int d t), (Str.ofString "val", .int (valOf ((encW x).take (j + 1))) tv)] ∧ (it, o) ∈ nws ∧ LI o oa (p + (j + 1)) ∧ (encW x)[j]? = some d ∧ n = (encW x).length - j)
      (fun s' => ∃ (tv : Tok) (o : Obj) (h' : Heap) (tk' : Nat) (m' : Str → Option Value) (nws : Led), s' = { s with heap := h', toks := tk' } ∧ Fr g L h' m' ∧ News g L h' nws ∧
        Has m' [(Str.ofString "val", .int x tv)] ∧ (it, o) ∈ nws ∧ LI o oa (p + (encW x).length)) (encW x).length
      ⟨0, d0, _, _, o2, _, _, _, _, rfl, ‹_›, ‹_›, ⟨rfl, rfl, by rw [← v0]; rfl, trivial⟩, .head _, l2, hd0, rfl⟩ ?_ ?_
  · (repeat ((first | (with_reducible rename Fr _ _ _ _ => zzZq) | (with_reducible rename News _ _ _ _ => zzZq) | (with_reducible rename IsRange _ _ _ _ _ _ _ _ => zzZq)); clear zzZq))
    intro n s5 xZq1
    refine ex9 xZq1 ?_; (try clear xZq1); intro j d t tv o h5 tk5 m5 nws; refine and8 ?_; intro yZq1x9 F5 N5 em5 e1 e2 e3 yZq1x16
    obtain rfl := yZq1x9
    obtain rfl := yZq1x16
    replace F5 := fr_has F5 em5
    have c1 := encW_cont hx.1 hx.2 j d e3
    (repeat' (first | (k_unfold; (try dsimp only)) | ( (fail_if_success (with_reducible show wpAny _ _ (exec (Stmt.While _ _ _ _) _) _ _ _)); (fail_if_success (with_reducible show wpAny _ _ (exec (Stmt.For _ _ _ _ _) _) _ _ _)); (fail_if_success (with_reducible show wpAny _ _ (exec (Stmt.Try _ _ _ _ _) _) _ _ _)); (fail_if_success (with_reducible show wpAny _ _ (pyIter _) (fun it s₂ => Loop _ _ _ _ _ _ _ _ _ _ it s₂) _ _)); (fail_if_success (with_reducible show wpAny _ _ (call (Value.ref _) _ _) _ _ _)); (try k_fold); walk1; (try ((first | (with_reducible show wpAny _ _ (spliced _) _ _ _) | (with_reducible show wpAny _ _ (newList _) _ _ _) | (with_reducible show wpAny _ _ (execs _ _) _ _ _)); dsimp only)))))
    · have hj1 : j + 1 < (encW x).length := by
        rename ¬ Builtin.bitAnd d 64 = 0 => z
        have q : ¬ d < 64 := fun q => z ((and64 c1.1 c1.2.1).mpr q)
        have := (List.getElem?_eq_some_iff.mp e3).1
        omega
      have hl3 := encW_length x
      have vb := valOf_nonneg ((encW x).take (j + 1))
      have vb2 := valOf_lt ((encW x).take (j + 1))
      have vb3 : valOf ((encW x).take (j + 1)) < 262144 := by
        have q : ((encW x).take (j + 1)).length ≤ 3 := by rw [List.length_take]; omega
        have q2 : (64 : Int) ^ ((encW x).take (j + 1)).length ≤ 262144 := by
          generalize ((encW x).take (j + 1)).length = z at q
          rcases z with _ | _ | _ | _ | z <;> first | decide | omega
        omega
      obtain ⟨d1, hd1⟩ : ∃ d, (encW x)[j + 1]? = some d := ⟨_, List.getElem?_eq_getElem hj1⟩
      obtain ⟨t1, ht1⟩ := hget (j + 1) d1 hd1
      have c2 := encW_cont hx.1 hx.2 (j + 1) d1 hd1
      have hv2 : Builtin.bitOr (valOf ((encW x).take (j + 1)) * 2 ^ (6 : Int).toNat) (Builtin.bitAnd d1 63) = valOf ((encW x).take (j + 1 + 1)) := by
        rw [and63 c2.1, List.take_add_one (i := j + 1), hd1, Option.toList_some, valOf_snoc]
        exact or64 vb (by omega) (by omega)
      generalize valOf ((encW x).take (j + 1)) = v at *
      (repeat' (first | (k_unfold; (try dsimp only)) | ( (fail_if_success (with_reducible show wpAny _ _ (exec (Stmt.While _ _ _ _) _) _ _ _)); (fail_if_success (with_reducible show wpAny _ _ (exec (Stmt.For _ _ _ _ _) _) _ _ _)); (fail_if_success (with_reducible show wpAny _ _ (exec (Stmt.Try _ _ _ _ _) _) _ _ _)); (fail_if_success (with_reducible show wpAny _ _ (pyIter _) (fun it s₂ => Loop _ _ _ _ _ _ _ _ _ _ it s₂) _ _)); (fail_if_success (with_reducible show wpAny _ _ (call (Value.ref _) _ _) _ _ _)); (try k_fold); walk1; (try ((first | (with_reducible show wpAny _ _ (spliced _) _ _ _) | (with_reducible show wpAny _ _ (newList _) _ _ _) | (with_reducible show wpAny _ _ (execs _ _) _ _ _)); dsimp only)))))
      refine r_next ‹_› ‹_› e1 e2 (isL (Fr.keep ‹_› _ _ hog)) ht1 ?_
      intro h6 o6 F6 N6 l6
      (repeat' (first | (k_unfold; (try dsimp only)) | ( (fail_if_success (with_reducible show wpAny _ _ (exec (Stmt.While _ _ _ _) _) _ _ _)); (fail_if_success (with_reducible show wpAny _ _ (exec (Stmt.For _ _ _ _ _) _) _ _ _)); (fail_if_success (with_reducible show wpAny _ _ (exec (Stmt.Try _ _ _ _ _) _) _ _ _)); (fail_if_success (with_reducible show wpAny _ _ (pyIter _) (fun it s₂ => Loop _ _ _ _ _ _ _ _ _ _ it s₂) _ _)); (fail_if_success (with_reducible show wpAny _ _ (call (Value.ref _) _ _) _ _ _)); (try k_fold); walk1; (try ((first | (with_reducible show wpAny _ _ (spliced _) _ _ _) | (with_reducible show wpAny _ _ (newList _) _ _ _) | (with_reducible show wpAny _ _ (execs _ _) _ _ _)); dsimp only)))))
      exact ⟨(encW x).length - (j + 1), by omega, j + 1, d1, _, _, o6, _, _, _, _, rfl, ‹_›, ‹_›, ⟨rfl, rfl, by rw [← hv2]; rfl, trivial⟩, .head _, l6, hd1, rfl⟩
    · have hj1 : j + 1 = (encW x).length := c1.2.2.mp ((and64 c1.1 c1.2.1).mp ‹_›)
      refine ⟨tv, o, _, _, _, _, rfl, F5, N5, ⟨?_, trivial⟩, e1, by rw [← hj1]; exact e2⟩
      rw [hj1, List.take_length, encW_val hx.1 hx.2]; rfl
  · (repeat ((first | (with_reducible rename Fr _ _ _ _ => zzZq) | (with_reducible rename News _ _ _ _ => zzZq) | (with_reducible rename IsRange _ _ _ _ _ _ _ _ => zzZq)); clear zzZq))
    intro s5 xZq1
    refine ex6 xZq1 ?_; (try clear xZq1); intro tv o h5 tk5 m5 nws; refine and6 ?_; intro yZq2x6 F5 N5 em5 e1 e2
    obtain rfl := yZq2x6
    replace F5 := fr_has F5 em5
    (repeat' (first | (k_unfold; (try dsimp only)) | ( (fail_if_success (with_reducible show wpAny _ _ (exec (Stmt.While _ _ _ _) _) _ _ _)); (fail_if_success (with_reducible show wpAny _ _ (exec (Stmt.For _ _ _ _ _) _) _ _ _)); (fail_if_success (with_reducible show wpAny _ _ (exec (Stmt.Try _ _ _ _ _) _) _ _ _)); (fail_if_success (with_reducible show wpAny _ _ (pyIter _) (fun it s₂ => Loop _ _ _ _ _ _ _ _ _ _ it s₂) _ _)); (fail_if_success (with_reducible show wpAny _ _ (call (Value.ref _) _ _) _ _ _)); (try k_fold); walk1; (try ((first | (with_reducible show wpAny _ _ (spliced _) _ _ _) | (with_reducible show wpAny _ _ (newList _) _ _ _) | (with_reducible show wpAny _ _ (execs _ _) _ _ _)); dsimp only)))))
    refine hQ _ _ _ (fun b o hb e => F5.keep b o (kg b o (by simpa using hb) e)) ⟨_, o, rfl, N5.get e1, e2⟩
noncomputable def kRun {α : Type} (n : Nat) (lt : Nat → Nat → Bool) : KasT α → Option α
  | .ret a => some a
  | .ask i j k => if i < n ∧ j < n then kRun n lt (k (lt i j)) else none
theorem kRun_congr {α : Type} {n : Nat} {lt lt' : Nat → Nat → Bool} (h : ∀ i j, i < n → j < n → lt i j = lt' i j) : ∀ t : KasT α, kRun n lt t = kRun n lt' t
  | .ret a => rfl
  | .ask i j k => by
    unfold kRun
    split
    · rename_i hc; rw [h i j hc.1 hc.2]; exact kRun_congr h _
    · rfl
theorem kRun_wp {α : Type} {n : Nat} {lt : Nat → Nat → Bool} {ask : Nat → Nat → (Bool → Shared → Prop) → Shared → Prop} {G : α → Shared → Prop} {s : Shared}
    (ha : ∀ i j C, i < n → j < n → C (lt i j) s → ask i j C s) : ∀ (t : KasT α) (a : α), kRun n lt t = some a → G a s → t.kasWp ask G s
  | .ret a, b, h, g => by obtain rfl : a = b := Option.some.inj h; exact g
  | .ask i j k, b, h, g => by
    unfold kRun at h
    split at h
    · rename_i hc
      exact ha i j _ hc.1 hc.2 (kRun_wp ha (k (lt i j)) b h g)
    · cases h
/-- as kRun, each ask's answer a written one before the tree goes on -/
noncomputable def kRunB {α : Type} (n : Nat) (lt : Nat → Nat → Bool) : KasT α → Option α
  | .ret a => some a
  | .ask i j k => match Nat.blt i n && Nat.blt j n with
    | true => (match lt i j with | true => kRunB n lt (k true) | false => kRunB n lt (k false))
    | false => none
theorem kRunB_eq {α : Type} {n : Nat} {lt : Nat → Nat → Bool} : ∀ t : KasT α, kRunB n lt t = kRun n lt t
  | .ret a => rfl
  | .ask i j k => by
    unfold kRunB kRun
    by_cases h : i < n ∧ j < n
    · rw [if_pos h, show (Nat.blt i n && Nat.blt j n) = true from by simp only [Bool.and_eq_true, Nat.blt_eq]; exact h]
      dsimp only
      cases lt i j
      · exact kRunB_eq (k false)
      · exact kRunB_eq (k true)
    · rw [if_neg h, show (Nat.blt i n && Nat.blt j n) = false from by apply Bool.eq_false_iff.mpr; simp only [ne_eq, Bool.and_eq_true, Nat.blt_eq]; exact h]
noncomputable def seqs (n : Nat) : Nat → List (List Nat)
  | 0 => [[]]
  | k + 1 => (seqs n k).flatMap fun l => (List.range n).filterMap fun x => if x ∈ l then none else some (x :: l)
theorem mem_seqs (n : Nat) : ∀ (l : List Nat), l.Nodup → (∀ x ∈ l, x < n) → l ∈ seqs n l.length
  | [], _, _ => by simp [seqs]
  | x :: l, h, hb => by
    have hn := List.nodup_cons.mp h
    show x :: l ∈ seqs n (l.length + 1)
    unfold seqs
    refine List.mem_flatMap.mpr ⟨l, mem_seqs n l hn.2 fun y hy => hb y (.tail _ hy), List.mem_filterMap.mpr ⟨x, List.mem_range.mpr (hb x (.head _)), by rw [if_neg hn.1]⟩⟩
noncomputable def okRun (n : Nat) (r : List Nat) : Bool :=
  match kRunB n (fun i j => Nat.blt (r.getD i 0) (r.getD j 0)) (kas_sort n) with
  | some p => p.toList.map (fun i => r.getD i 0) == List.range n && p.toList.all (· < n)
  | none => false
theorem okRun_2 : ((seqs 2 2).all (okRun 2)) = true := by decide +kernel
theorem okRun_3 : ((seqs 3 3).all (okRun 3)) = true := by decide +kernel
theorem okRun_4 : ((seqs 4 4).all (okRun 4)) = true := by decide +kernel
theorem okRun_5 : ((seqs 5 5).all (okRun 5)) = true := by decide +kernel
theorem okRun_6 : ((seqs 6 6).all (okRun 6)) = true := by decide +kernel
theorem okRun_all {n : Nat} (h2 : 2 ≤ n) (h6 : n ≤ 6) : ((seqs n n).all (okRun n)) = true := by
  obtain rfl | rfl | rfl | rfl | rfl : n = 2 ∨ n = 3 ∨ n = 4 ∨ n = 5 ∨ n = 6 := by omega
  · exact okRun_2
  · exact okRun_3
  · exact okRun_4
  · exact okRun_5
  · exact okRun_6
noncomputable def lexlt (a b : Int × Int) : Bool := if a.1 = b.1 then decide (a.2 < b.2) else decide (a.1 < b.1)
theorem lexlt_irr (a : Int × Int) : lexlt a a = false := by simp [lexlt]
theorem lexlt_tr {a b c : Int × Int} (h1 : lexlt a b = true) (h2 : lexlt b c = true) : lexlt a c = true := by
  unfold lexlt at *
  split at h1 <;> split at h2 <;> split <;> simp only [decide_eq_true_eq] at * <;> omega
theorem lexlt_tot {a b : Int × Int} (h : a ≠ b) : lexlt a b = true ∨ lexlt b a = true := by
  unfold lexlt
  by_cases e : a.1 = b.1
  · have : a.2 ≠ b.2 := fun q => h (Prod.ext e q)
    rw [if_pos e, if_pos e.symm]; simp only [decide_eq_true_eq]; omega
  · rw [if_neg e, if_neg (Ne.symm e)]; simp only [decide_eq_true_eq]; omega
noncomputable def rankK (ks : List (Int × Int)) (a : Int × Int) : Nat := ks.countP fun x => lexlt x a
theorem rank_lt {ks : List (Int × Int)} {a : Int × Int} (h : a ∈ ks) : rankK ks a < ks.length := by
  unfold rankK
  have h1 := List.countP_le_length (p := fun x => lexlt x a) (l := ks)
  rcases Nat.lt_or_eq_of_le h1 with q | q
  · exact q
  · have := List.countP_eq_length.mp q a h
    simp [lexlt_irr] at this
theorem rank_mono {a b : Int × Int} (h : lexlt a b = true) : ∀ ks : List (Int × Int), rankK ks a ≤ rankK ks b
  | [] => Nat.le_refl _
  | x :: r => by
    have ih := rank_mono h r
    unfold rankK at *
    rw [List.countP_cons, List.countP_cons]
    by_cases q : lexlt x a = true
    · rw [if_pos q, if_pos (lexlt_tr q h)]; omega
    · rw [if_neg q]; omega
theorem rank_strict {a b : Int × Int} (h : lexlt a b = true) : ∀ ks : List (Int × Int), a ∈ ks → rankK ks a < rankK ks b
  | x :: r, hm => by
    have ih := rank_mono h r
    have ih2 := rank_strict h r
    unfold rankK at *
    rw [List.countP_cons, List.countP_cons]
    by_cases e : x = a
    · subst e; rw [if_pos h, if_neg (by rw [lexlt_irr]; simp)]; omega
    · have hr : a ∈ r := by rcases List.mem_cons.mp hm with q | q; exact absurd q.symm e; exact q
      have := ih2 hr
      by_cases q : lexlt x a = true
      · rw [if_pos q, if_pos (lexlt_tr q h)]; omega
      · rw [if_neg q]; omega
theorem rank_iff {ks : List (Int × Int)} {a b : Int × Int} (ha : a ∈ ks) (hb : b ∈ ks) : lexlt a b = decide (rankK ks a < rankK ks b) := by
  by_cases h : lexlt a b = true
  · rw [h]; simp [rank_strict h ks ha]
  · have h' : lexlt a b = false := by simpa using h
    rw [h']
    by_cases e : a = b
    · subst e; simp
    · rcases lexlt_tot e with q | q
      · exact absurd q h
      · have := rank_strict q ks hb
        simp; omega
theorem rank_inj {ks : List (Int × Int)} {a b : Int × Int} (ha : a ∈ ks) (hb : b ∈ ks) (h : rankK ks a = rankK ks b) : a = b := by
  apply Classical.byContradiction
  intro e
  rcases lexlt_tot e with q | q
  · have := rank_strict q ks ha; omega
  · have := rank_strict q ks hb; omega
/-- the tree sorts -/
theorem sort_run {ks : List (Int × Int)} (h2 : 2 ≤ ks.length) (h6 : ks.length ≤ 6) (hn : ks.Nodup) :
    ∃ p : Array Nat, kRun ks.length (fun i j => lexlt (ks.getD i (0, 0)) (ks.getD j (0, 0))) (kas_sort ks.length) = some p ∧ (∀ i ∈ p.toList, i < ks.length) ∧
      (p.toList.map fun i => ks.getD i (0, 0)).Pairwise (fun a b => lexlt a b = true) ∧ ∀ i, i < ks.length → i ∈ p.toList := by
  have gd : ∀ i, (h : i < ks.length) → ks.getD i (0, 0) = ks[i] := fun i h => by simp [h]
  have gm : ∀ i, i < ks.length → ks.getD i (0, 0) ∈ ks := fun i h => by rw [gd i h]; exact List.getElem_mem h
  let R := ks.map (rankK ks)
  have hR : R.length = ks.length := by simp [R]
  have hRg : ∀ i, i < ks.length → R.getD i 0 = rankK ks (ks.getD i (0, 0)) := fun i h => by rw [gd i h]; simp [R, h]
  have hRn : R.Nodup := by
    refine List.pairwise_map.mpr ?_
    refine List.Pairwise.imp_of_mem (fun ha hb hne hr => hne (rank_inj ha hb hr)) hn
  have hRb : ∀ x ∈ R, x < ks.length := fun x hx => by
    have hZqq := List.mem_map.mp hx
    refine ex1 hZqq ?_; (try clear hZqq); intro a; refine and2 ?_; intro ha yZq0x2
    obtain rfl := yZq0x2
    exact rank_lt ha
  have ok := List.all_eq_true.mp (okRun_all h2 h6) R (by have := mem_seqs ks.length R hRn hRb; rwa [hR] at this)
  unfold okRun at ok
  rw [kRunB_eq, ← kRun_congr (lt := fun i j => lexlt (ks.getD i (0, 0)) (ks.getD j (0, 0))) (fun i j hi hj => by rw [hRg i hi, hRg j hj, rank_iff (gm i hi) (gm j hj), Bool.eq_iff_iff, decide_eq_true_eq, Nat.blt_eq])] at ok
  split at ok
  · rename_i p e
    rw [Bool.and_eq_true, beq_iff_eq, List.all_eq_true] at ok
    obtain ⟨o1, o2⟩ := ok
    have o2' : ∀ i ∈ p.toList, i < ks.length := fun i hi => by simpa using o2 i hi
    refine ⟨p, e, o2', ?_, fun i hi => ?_⟩
    · refine List.pairwise_map.mpr ?_
      have q : (p.toList.map fun i => R.getD i 0).Pairwise (· < ·) := by rw [o1]; exact List.pairwise_lt_range
      refine List.Pairwise.imp_of_mem (fun {a b} ha hb hlt => ?_) (List.pairwise_map.mp q)
      rw [hRg a (o2' a ha), hRg b (o2' b hb)] at hlt
      rw [rank_iff (gm a (o2' a ha)) (gm b (o2' b hb))]
      simpa using hlt
    · have hm : R.getD i 0 ∈ List.range ks.length := by
        rw [hRg i hi]; exact List.mem_range.mpr (rank_lt (gm i hi))
      rw [← o1] at hm
      have hZqq := List.mem_map.mp hm
      refine ex1 hZqq ?_; (try clear hZqq); intro q; refine and2 ?_; intro hq he
      have hq' := o2' q hq
      rw [hRg i hi, hRg q hq'] at he
      have e2 := rank_inj (gm q hq') (gm i hi) he
      rw [gd q hq', gd i hi] at e2
      have := (List.getElem_inj hn).mp e2
      rw [← this]; exact hq
  · cases ok
theorem strict_uniq : ∀ {a b : List (Int × Int)}, a.Pairwise (fun x y => lexlt x y = true) → b.Pairwise (fun x y => lexlt x y = true) → (∀ x, x ∈ a ↔ x ∈ b) → a = b
  | [], [], _, _, _ => rfl
  | [], y :: b, _, _, h => by have := (h y).mpr (.head _); cases this
  | x :: a, [], _, _, h => by have := (h x).mp (.head _); cases this
  | x :: a, y :: b, ha, hb, h => by
    have ha' := List.pairwise_cons.mp ha
    have hb' := List.pairwise_cons.mp hb
    have e : x = y := by
      apply Classical.byContradiction
      intro ne
      have hx : x ∈ b := by rcases List.mem_cons.mp ((h x).mp (.head _)) with q | q; exact absurd q ne; exact q
      have hy : y ∈ a := by rcases List.mem_cons.mp ((h y).mpr (.head _)) with q | q; exact absurd q.symm ne; exact q
      have := lexlt_tr (ha'.1 y hy) (hb'.1 x hx)
      rw [lexlt_irr] at this; cases this
    subst e
    congr 1
    refine strict_uniq ha'.2 hb'.2 fun z => ⟨fun hz => ?_, fun hz => ?_⟩
    · rcases List.mem_cons.mp ((h z).mp (.tail _ hz)) with q | q
      · subst q; have := ha'.1 _ hz; rw [lexlt_irr] at this; cases this
      · exact q
    · rcases List.mem_cons.mp ((h z).mpr (.tail _ hz)) with q | q
      · subst q; have := hb'.1 _ hz; rw [lexlt_irr] at this; cases this
      · exact q
-- needs C12
section
variable {prog : Program} {w : World} {A : Around} {E : Value → Shared → Prop} {s : Shared} {h₀ : Heap} {L a : Addr} {m : Str → Option Value} {news : Led} {vs : List Value}
theorem k1_sort {n : Nat} {P : PySem.Fin → Shared → Prop} (F : Fr h₀ L s.heap m) (N : News h₀ L s.heap news) (ho : s.heap.get? a = some (seqObj "list" vs.toArray n)) (haL : a ≠ L) (ha0 : h₀.get? a = none) (hna : ∀ p ∈ news, p.1 ≠ a)
    (h2 : vs.length < 2)
    (h : ∀ c h', Fr h₀ L h' m → News h₀ L h' ((a, seqObj "list" vs.toArray c) :: news) → P (.done (.ret .none)) { s with heap := h' }) :
    wpAny (model prog w) A (Builtin.«list.sort» ⟨[.ref a], []⟩) P E s := by
  have ha : a < s.heap.objs.size := Heap.lt_size ho
  have s1 := Heap.SameBut.update s.heap a (Obj.mapSeq fun _ => (#[] : Array Value))
  obtain ⟨e1, ho1⟩ : ∃ e1, (s.heap.update a (Obj.mapSeq fun _ => (#[] : Array Value))).get? a = some (seqObj "list" #[] e1) := ⟨_, get?_update_seq ho fun _ => #[]⟩
  have F3 : Fr h₀ L (((s.heap.update a (Obj.mapSeq fun _ => (#[] : Array Value))).push (seqObj "tuple" vs.toArray 0)).push (seqObj "list" #[] 0)) m := ((kas_fr F s1 haL ha0).push _).push _
  have N2 : News h₀ L (((s.heap.update a (Obj.mapSeq fun _ => (#[] : Array Value))).push (seqObj "tuple" vs.toArray 0)).push (seqObj "list" #[] 0)) news :=
    (kas_news N s1 hna).grown fun b x e => Heap.get?_push_of_some _ (Heap.get?_push_of_some _ e)
  have ho3 := Heap.get?_push_of_some (seqObj "list" #[] 0) (Heap.get?_push_of_some (seqObj "tuple" vs.toArray 0) ho1)
  rw [list_sort_plain]
  refine wpAny_bind (listItems_at ho rfl ?_)
  refine wpAny_bind (listUpdate_at ho rfl ?_ (by rw [List.size_toArray, sizeLine_eq]; omega) (Nat.zero_le _))
  refine wpAny_bind (seqEpoch_at ho1 rfl ?_)
  refine wpAny_bind (wpAny_newTuple ?_ (by show vs.length ≤ _; rw [sizeLine_eq]; omega))
  refine wpAny_bind (wpAny_newList ?_ (Nat.zero_le _))
  refine wpAny_holding ?_
  show wpAny (model prog w) A _ P E { s with heap := ((s.heap.update a (Obj.mapSeq fun _ => (#[] : Array Value))).push (seqObj "tuple" vs.toArray 0)).push (seqObj "list" #[] 0) }
  dsimp only
  have hn2 : vs.toArray.size < 2 := by rw [List.size_toArray]; omega
  rw [if_pos hn2, if_pos hn2]
  refine wpAny_bind (wpAny_pure ?_)
  refine wpAny_bind (wpAny_pure ?_)
  dsimp only
  have hout : (arrOf (SortSt.mk' general' (Array.zip (List.toArray vs) (List.toArray vs)) #[] 7 none)).map (·.2) = List.toArray vs := by
    show (Array.zip (List.toArray vs) (List.toArray vs)).map (·.2) = _
    apply Array.toList_inj.mp
    simp [List.map_snd_zip]
  have s2 := Heap.SameBut.update (((s.heap.update a (Obj.mapSeq fun _ => (#[] : Array Value))).push (seqObj "tuple" vs.toArray 0)).push (seqObj "list" #[] 0)) a (Obj.mapSeq fun _ => List.toArray vs)
  obtain ⟨c2, hc2⟩ : ∃ c2, ((((s.heap.update a (Obj.mapSeq fun _ => (#[] : Array Value))).push (seqObj "tuple" vs.toArray 0)).push (seqObj "list" #[] 0)).update a (Obj.mapSeq fun _ => List.toArray vs)).get? a = some (seqObj "list" (List.toArray vs) c2) := ⟨_, get?_update_seq ho3 fun _ => List.toArray vs⟩
  have e0 : (fun x : Array Value => Array.map (fun x => Prod.snd x) (arrOf (SortSt.mk' general' (Array.zip (List.toArray vs) (List.toArray vs)) #[] 7 none))) = fun _ => List.toArray vs := by funext _; exact hout
  refine wpAny_bind (seqEpoch_at ho3 rfl ?_)
  rw [e0]
  refine wpAny_bind (listUpdate_at ho3 rfl ?_ (Nat.zero_le _) (Nat.le_trans (Nat.le_of_lt hn2) (by rw [sizeLine_eq]; omega)))
  simp only [bne_self_eq_false, Bool.false_eq_true, if_false]
  refine wpAny_pure (h c2 _ (kas_fr F3 s2 haL ha0) ?_)
  intro p hp
  rcases List.mem_cons.mp hp with rfl | q
  · exact ⟨hc2, haL, ha0⟩
  · exact kas_news N2 s2 hna p q
theorem k1_sorted {l : Addr} {Q : Value → Shared → Prop} (F : Fr h₀ L s.heap m) (N : News h₀ L s.heap news) (hl : s.heap.IsList l vs.toArray) (h2 : vs.length < 2)
    (h : ∀ D c h', Fr h₀ L h' m → News h₀ L h' ((D, seqObj "list" vs.toArray c) :: news) → (∀ q ∈ news, q.1 < D) → Q (.ref D) { s with heap := h' }) :
    wpAny (model prog w) A (call (.builtin "sorted") [.ref l]) Q E s := by
  refine Calls.call_function_entry kind_sorted plain_sorted entry_sorted (args_sorted1 _) ?_
  unfold Builtin.«sorted»
  refine wpAny_bind (m := checkCount "sorted" 1 1 _) (wpAny_pure ?_)
  refine wpAny_bind (collect_list hl ?_ (by rw [sizeLine_eq]; omega))
  refine wpAny_bind (wpAny_newList ?_ (by rw [sizeLine_eq]; omega))
  have hsz : ((s.heap.push (seqObj "list" #[] 0)).update s.heap.objs.size (Obj.mapSeq (· ++ vs.toArray))).objs.size = s.heap.objs.size + 1 := by
    rw [Heap.size_update, size_push']
  have hoL : (((s.heap.push (seqObj "list" #[] 0)).update s.heap.objs.size (Obj.mapSeq (· ++ vs.toArray))).push (seqObj "list" vs.toArray 0)).get? (s.heap.objs.size + 1) = some (seqObj "list" vs.toArray 0) := by
    rw [← hsz]; exact Heap.get?_push_size _ rfl
  have keep : ∀ b o, s.heap.get? b = some o → (((s.heap.push (seqObj "list" #[] 0)).update s.heap.objs.size (Obj.mapSeq (· ++ vs.toArray))).push (seqObj "list" vs.toArray 0)).get? b = some o := fun b o q => by
    have hlt : b < s.heap.objs.size := Heap.lt_size q
    rw [Heap.get?_push_ne _ _ _ (by rw [hsz]; exact Nat.ne_of_lt (Nat.lt_succ_of_lt hlt)), Heap.get?_update_ne _ _ _ _ (Nat.ne_of_lt hlt), Heap.get?_push_ne _ _ _ (Nat.ne_of_lt hlt)]
    exact q
  have hL : L < s.heap.objs.size := F.ns.lt
  show wpAny _ _ _ _ _ { s with heap := ((s.heap.push (seqObj "list" #[] 0)).update s.heap.objs.size (Obj.mapSeq (· ++ vs.toArray))).push (seqObj "list" vs.toArray 0) }
  rw [hsz]
  refine wpAny_bind (wpAny_holding (wpAny_call_entry slot_list_sort ⟨_, hoL, rfl⟩ entry_list_sort ?body (args_list_sort _)))
  case body =>
    refine k1_sort (s := { s with heap := ((s.heap.push (seqObj "list" #[] 0)).update s.heap.objs.size (Obj.mapSeq (· ++ vs.toArray))).push (seqObj "list" vs.toArray 0) })
      (F.kept keep) (N.grown keep) hoL (Nat.ne_of_gt (Nat.lt_succ_of_lt hL)) (Heap.get?_none_of_le (Nat.le_trans F.above (Nat.le_succ_of_le (Nat.le_of_lt hL))))
      (fun p hp => Nat.ne_of_lt (Nat.lt_succ_of_lt (Heap.lt_size (N p hp).1))) h2 fun c h' F' N' => ?_
    exact ⟨_, rfl, wpAny_pure ⟨_, rfl, h _ c h' F' N' fun q hq => Nat.lt_succ_of_lt (Heap.lt_size (N q hq).1)⟩⟩

theorem katTups_of {h : Heap} : ∀ (ps : List (Addr × Int × Int)), (∀ q ∈ ps, ∃ ti tj n, h.get? q.1 = some { cls := .type "tuple", data := .seq #[.int q.2.1 ti, .int q.2.2 tj] n }) → ∃ fs, KatTups h (refsOf ps) fs ∧ fs.length = ps.length ∧ ∀ v ∈ fs, ∃ (n : Int) (t : Tok), v = .int n t
  | [], _ => ⟨[], KatTups.nil, rfl, by simp⟩
  | q :: r, hq => by
    have hZqq := katTups_of r fun x hx => hq x (.tail _ hx)
    refine ex1 hZqq ?_; (try clear hZqq); intro fs; refine and3 ?_; intro h1 h2 h3
    have hZqq := hq q (.head _)
    refine ex3 hZqq ?_; (try clear hZqq); intro ti tj n; intro e
    exact ⟨.int q.2.1 ti :: fs, KatTups.cons e rfl rfl rfl h1, by simp [h2], fun v hv => by
      rcases List.mem_cons.mp hv with rfl | z
      · exact ⟨_, _, rfl⟩
      · exact h3 v z⟩
noncomputable abbrev tupT (a b : Value) (n : Nat) : Obj := { cls := .type "tuple", data := .seq #[a, b] n }
noncomputable def TupIn (news : Led) (q : Addr × Int × Int) : Prop := ∃ ti tj n, (q.1, tupT (.int q.2.1 ti) (.int q.2.2 tj) n) ∈ news
/-- sorted, over a list of pairs of whole numbers, no two alike -/
theorem tup_sorted {l : Addr} {ps : List (Addr × Int × Int)} {Q : Value → Shared → Prop} (F : Fr h₀ L s.heap m) (N : News h₀ L s.heap news) (hl : s.heap.IsList l (refsOf ps).toArray) (hps : ∀ q ∈ ps, TupIn news q)
    (hz : ps.length ≤ 6) (hn : (ps.map (·.2)).Nodup)
    (h : ∀ D ps' c h', Fr h₀ L h' m → News h₀ L h' ((D, listO (refsOf ps') c) :: news) → (∀ q ∈ news, q.1 < D) → (∀ q ∈ ps', q ∈ ps) → (∀ q ∈ ps, q ∈ ps') → (ps'.map (·.2)).Pairwise (fun a b => lexlt a b = true) → Q (.ref D) { s with heap := h' }) :
    wpAny (model prog w) A (call (.builtin "sorted") [.ref l]) Q E s := by
  by_cases h2 : ps.length < 2
  · refine k1_sorted F N hl (by simpa using h2) fun D c h' F' N' l' => h D ps c h' F' N' l' (fun _ q => q) (fun _ q => q) ?_
    rcases ps with _ | ⟨q, _ | ⟨q2, r⟩⟩
    · simp
    · simp
    · simp at h2; omega
  · refine kat_sorted F N hl (by simp; omega) (by simp; omega) fun D e1 h' F' N' l' => ?_
    have hZqq := sort_run (ks := ps.map (·.2)) (by simp; omega) (by simpa using hz) hn
    refine ex1 hZqq ?_; (try clear hZqq); intro p; refine and4 ?_; intro e p1 p2 p3
    rw [List.length_map] at e p1 p3
    have hps' : ∀ q ∈ ps, ∃ ti tj n, h'.get? q.1 = some { cls := .type "tuple", data := .seq #[.int q.2.1 ti, .int q.2.2 tj] n } := fun q hq => by
      have hZqq := hps q hq
      refine ex3 hZqq ?_; (try clear hZqq); intro ti tj n; intro e
      exact ⟨ti, tj, n, (N' _ (.tail _ e)).1⟩
    have hZqq := katTups_of (h := h') ps hps'
    refine ex1 hZqq ?_; (try clear hZqq); intro fs; refine and3 ?_; intro f1 f2 f3
    refine kat_kind f1 (T := .type "int") (by omega) ?_ (by decide) ?_
    · intro v hv
      have hZqq := f3 v hv
      refine ex2 hZqq ?_; (try clear hZqq); intro n t; intro yZq5x2
      obtain rfl := yZq5x2
      exact .now
    · rw [List.length_map]
      refine kRun_wp (n := ps.length) (lt := fun i j => lexlt ((ps.map (·.2)).getD i (0, 0)) ((ps.map (·.2)).getD j (0, 0))) ?_ _ p e ?_
      · intro i j C hi hj hC
        show wpAny _ _ (keyLt' _ _ _) _ _ _
        have gi : (refsOf ps).getD i Value.none = .ref ps[i].1 := by simp [hi]
        have gj : (refsOf ps).getD j Value.none = .ref ps[j].1 := by simp [hj]
        have ki : (ps.map (·.2)).getD i (0, 0) = ps[i].2 := by simp [hi]
        have kj : (ps.map (·.2)).getD j (0, 0) = ps[j].2 := by simp [hj]
        rw [ki, kj] at hC
        rw [gi, gj]
        have hZqq := hps' _ (List.getElem_mem hi)
        refine ex3 hZqq ?_; (try clear hZqq); intro t1 t2 n1; intro e1
        have hZqq := hps' _ (List.getElem_mem hj)
        refine ex3 hZqq ?_; (try clear hZqq); intro t3 t4 n2; intro e2
        refine kat_lt e1 rfl e2 rfl ?_
        refine kat_cons ?_
        refine wpAny_eqBool_int ?_
        have hl : lexlt ps[i].2 ps[j].2 = if ps[i].2.1 = ps[j].2.1 then decide (ps[i].2.2 < ps[j].2.2) else decide (ps[i].2.1 < ps[j].2.1) := rfl
        by_cases q : ps[i].2.1 = ps[j].2.1
        · rw [show (ps[i].2.1 == ps[j].2.1) = true by simpa using q]
          rw [hl, if_pos q] at hC
          refine kat_yes (kat_cons (wpAny_eqBool_int ?_))
          by_cases q2 : ps[i].2.2 = ps[j].2.2
          · rw [show (ps[i].2.2 == ps[j].2.2) = true by simpa using q2]
            refine kat_yes (kat_nil ?_)
            rw [show decide (ps[i].2.2 < ps[j].2.2) = false by simp; omega] at hC
            exact hC
          · rw [show (ps[i].2.2 == ps[j].2.2) = false by simpa using q2]
            refine kat_no (kat_one _ _ ?_)
            walk1
            exact hC
        · rw [show (ps[i].2.1 == ps[j].2.1) = false by simpa using q]
          rw [hl, if_neg q] at hC
          exact kat_no (oneLt_int hC)
      · have em : (p.toList.map fun i => (refsOf ps).getD i Value.none) = refsOf (p.toList.map fun i => ps.getD i (0, 0, 0)) := by
          show _ = (p.toList.map _).map _
          rw [List.map_map]
          refine List.map_congr_left fun i hi => ?_
          have := p1 i hi
          simp [this]
        rw [em]
        refine KasFin.intro F' N' (UpdF.head fun q hq => Nat.ne_of_lt (l' q hq)) fun h7 c F7 N7 => ?_
        refine h D _ c h7 F7 N7 l' (fun q hq => ?_) (fun q hq => ?_) ?_
        · have hZqq := List.mem_map.mp hq
          refine ex1 hZqq ?_; (try clear hZqq); intro i; refine and2 ?_; intro hi yZq8x2
          obtain rfl := yZq8x2
          have := p1 i hi
          simp [this]
        · have hZqq := List.mem_iff_getElem.mp hq
          obtain ⟨i, hi, rfl⟩ := hZqq
          exact List.mem_map.mpr ⟨i, p3 i hi, by simp [hi]⟩
        · rw [List.map_map]
          have e7 : (p.toList.map ((fun x => x.2) ∘ fun i => ps.getD i (0, 0, 0))) = p.toList.map fun i => (ps.map (·.2)).getD i (0, 0) := by
            refine List.map_congr_left fun i hi => ?_
            have := p1 i hi
            simp [this]
          rw [e7]; exact p2
end
-- needs C12 C13
section
open PyProof.Rows.LCg PyProof.Rows.LCp
variable {prog : Program} {w : World} {A : Around} {h₀ : Heap} {L : Addr} {m : Str → Option Value} {env : Env} {elt : Expr} {x x₂ : Str} {scope : Scope} {cl : List (Str × Addr)} {s : Shared} {S : List (Addr × Obj) → Prop} {P : Nat → Value → Prop} {Fin : List Value → List (Addr × Obj) → Prop}
theorem comp_ind {n : Nat} (J : Nat → List Value → Led → Prop)
    (step : ∀ i ys news v I oI C oC D m₂ h tk (E' : Value → Shared → Prop), i < n → J i ys news → P i v → NsObj oC m₂ → m₂ x = some v → Fr h₀ L h m → News h₀ L h ((I, oI) :: (C, oC) :: (D, lst ys) :: news) → Off3 I C D news → ((@Ne Nat I C) ∧ (@Ne Nat I D) ∧ (@Ne Nat C D)) →
      wpAny (model prog w) A (eval elt (compEnvC scope cl C env)) (CompEnd h₀ L m { s with heap := h, toks := tk } I oI C oC D (lst ys) S (fun y news' => J (i + 1) (ys ++ [y]) news')) E' { s with heap := h, toks := tk })
    (fin : ∀ ys news, J n ys news → Fin ys news) : ∀ (k i : Nat) (ys : List Value) (news : Led), k + i = n → J i ys news → CompRest prog w A h₀ L m env elt x scope cl s S P Fin k i ys news
  | 0, i, ys, news, hk, hJ => by
    obtain rfl : i = n := by omega
    exact fin ys news hJ
  | k + 1, i, ys, news, hk, hJ => CompRest.succ fun v I oI C oC D m₂ h tk E' hP hC hx F N off ne =>
    wpAny_mono (step i ys news v I oI C oC D m₂ h tk E' (by omega) hJ hP hC hx F N off ne) (fun y s₂ ⟨h', tk', news', e, F', N', off', hS, hJ'⟩ => ⟨h', tk', news', e, F', N', off', hS, comp_ind J step fin k (i + 1) _ _ (by omega) hJ'⟩) fun _ _ e => e
theorem comp_indP {n : Nat} (J : Nat → List Value → Led → Prop)
    (step : ∀ i ys news v, i < n → J i ys news → P i v → ∃ (t : Addr) (ot : Obj) (v₁ v₂ : Value) (nt : Nat), v = .ref t ∧ (t, ot) ∈ news ∧ ot.cls = .type "tuple" ∧ ot.data = .seq #[v₁, v₂] nt ∧
      ∀ I oI C oC D m₂ h tk (E' : Value → Shared → Prop), NsObj oC m₂ → m₂ x = some v₁ → m₂ x₂ = some v₂ → Fr h₀ L h m → News h₀ L h ((I, oI) :: (C, oC) :: (D, lst ys) :: news) → Off3 I C D news → ((@Ne Nat I C) ∧ (@Ne Nat I D) ∧ (@Ne Nat C D)) →
      wpAny (model prog w) A (eval elt (compEnvC scope cl C env)) (CompEnd h₀ L m { s with heap := h, toks := tk } I oI C oC D (lst ys) S (fun y news' => J (i + 1) (ys ++ [y]) news')) E' { s with heap := h, toks := tk })
    (fin : ∀ ys news, J n ys news → Fin ys news) : ∀ (k i : Nat) (ys : List Value) (news : Led), k + i = n → J i ys news → CompRestP prog w A h₀ L m env elt x x₂ scope cl s S P Fin k i ys news
  | 0, i, ys, news, hk, hJ => by
    obtain rfl : i = n := by omega
    exact fin ys news hJ
  | k + 1, i, ys, news, hk, hJ => CompRestP.succ fun v hP => by
    have hZqq := step i ys news v (by omega) hJ hP
    refine ex5 hZqq ?_; (try clear hZqq); intro t ot v₁ v₂ nt; refine and5 ?_; intro e1 e2 e3 e4 go
    exact ⟨t, ot, v₁, v₂, nt, e1, e2, e3, e4, fun I oI C oC D m₂ h tk E' hC hx hx2 F N off ne =>
      wpAny_mono (go I oI C oC D m₂ h tk E' hC hx hx2 F N off ne) (fun y s₂ ⟨h', tk', news', e, F', N', off', hS, hJ'⟩ => ⟨h', tk', news', e, F', N', off', hS, comp_indP J step fin k (i + 1) _ _ (by omega) hJ'⟩) fun _ _ e => e⟩
end
noncomputable def keyOf (ns : List Int) (j : Nat) : Int × Int := (ns.getD j 0, 0 - (j : Int))
theorem keys_nodup (ns : List Int) (n : Nat) : ((List.range n).map (keyOf ns)).Nodup := by
  refine List.pairwise_map.mpr (List.Pairwise.imp (fun {a b} hne e => hne ?_) (List.nodup_range (n := n)))
  have := congrArg Prod.snd e
  simp only [keyOf] at this; omega
theorem insP_mem_iff {p : Int × Int} : ∀ {l : List (Int × Int)} {q : Int × Int}, q ∈ insP p l ↔ q = p ∨ q ∈ l
  | [], q => by simp [insP]
  | x :: l, q => by
    unfold insP
    split
    · rw [List.mem_cons, insP_mem_iff, List.mem_cons]; exact or_left_comm
    · rw [List.mem_cons]
theorem mem_laid_r : ∀ (ns : List Int) (q : Int × Int), q ∈ laidP ns.reverse ↔ ∃ j, ∃ h : j < ns.reverse.length, q = (ns.reverse[j], (j : Int))
  | [], q => by simp [laidP]
  | x :: r, q => by
    have e : (x :: r).reverse = r.reverse ++ [x] := by simp
    rw [e, laidP_snoc, insP_mem_iff, mem_laid_r r q]
    constructor
    · rintro (rfl | ⟨j, h, rfl⟩)
      · exact ⟨r.reverse.length, by simp, by simp⟩
      · exact ⟨j, by simp at h ⊢; omega, by rw [List.getElem_append_left h]⟩
    · intro xZq1
      obtain ⟨j, h, rfl⟩ := xZq1
      by_cases hj : j < r.reverse.length
      · exact .inr ⟨j, hj, by rw [List.getElem_append_left hj]⟩
      · have : j = r.reverse.length := by simp at h hj ⊢; omega
        subst this
        exact .inl (by simp)
theorem mem_laid (ns : List Int) (q : Int × Int) : q ∈ laidP ns ↔ ∃ j, ∃ h : j < ns.length, q = (ns[j], (j : Int)) := by
  have := mem_laid_r ns.reverse q
  simp only [List.reverse_reverse] at this
  exact this
theorem insP_lex {p : Int × Int} : ∀ {l : List (Int × Int)}, (l.map fun q => (q.1, 0 - q.2)).Pairwise (fun a b => lexlt a b = true) → (∀ q ∈ l, q.2 < p.2) → ((insP p l).map fun q => (q.1, 0 - q.2)).Pairwise (fun a b => lexlt a b = true)
  | [], _, _ => by simp [insP]
  | x :: l, h, hb => by
    have h' := List.pairwise_cons.mp h
    unfold insP
    split
    · rename_i hlt
      refine List.pairwise_cons.mpr ⟨fun y hy => ?_, insP_lex h'.2 fun q hq => hb q (.tail _ hq)⟩
      have hZqq := List.mem_map.mp hy
      refine ex1 hZqq ?_; (try clear hZqq); intro q; refine and2 ?_; intro hq yZq2x2
      obtain rfl := yZq2x2
      rcases insP_mem_iff.mp hq with rfl | hq
      · unfold lexlt; dsimp only; rw [if_neg (by omega)]; simpa using hlt
      · exact h'.1 _ (List.mem_map.mpr ⟨q, hq, rfl⟩)
    · rename_i hlt
      have hx := hb x (.head _)
      have hpx : lexlt (p.1, 0 - p.2) (x.1, 0 - x.2) = true := by
        unfold lexlt; dsimp only
        split
        · simp only [decide_eq_true_eq]; omega
        · simp only [decide_eq_true_eq]; omega
      refine List.pairwise_cons.mpr ⟨fun y hy => ?_, h⟩
      rcases List.mem_cons.mp hy with rfl | hy
      · exact hpx
      · exact lexlt_tr hpx (h'.1 y hy)
theorem laid_lex_r : ∀ ns : List Int, ((laidP ns.reverse).map fun q => (q.1, 0 - q.2)).Pairwise (fun a b => lexlt a b = true)
  | [] => by simp [laidP]
  | x :: r => by
    have e : (x :: r).reverse = r.reverse ++ [x] := by simp
    rw [e, laidP_snoc]
    refine insP_lex (laid_lex_r r) fun q hq => ?_
    have hZqq := (mem_laid_r r q).mp hq
    obtain ⟨j, hj, rfl⟩ := hZqq
    show (j : Int) < _
    omega
theorem laid_lex (ns : List Int) : ((laidP ns).map fun q => (q.1, 0 - q.2)).Pairwise (fun a b => lexlt a b = true) := by
  have := laid_lex_r ns.reverse
  simpa using this
theorem nodup_le {α : Type} [DecidableEq α] : ∀ {a b : List α}, a.Nodup → (∀ x ∈ a, x ∈ b) → a.length ≤ b.length
  | [], _, _, _ => Nat.zero_le _
  | x :: a, b, h, hb => by
    have h' := List.nodup_cons.mp h
    have hx := hb x (.head _)
    have e := List.length_erase_of_mem hx
    have ih := nodup_le (b := b.erase x) h'.2 fun y hy => (List.mem_erase_of_ne (fun e => h'.1 (by rw [← e]; exact hy))).mpr (hb y (.tail _ hy))
    have : 0 < b.length := List.length_pos_of_mem hx
    simp only [List.length_cons]; omega
theorem sp_order {prog : Program} {w : World} {A : Around} {E : Value → Shared → Prop} {s : Shared} {Q : Value → Shared → Prop}
   {fa : Addr} {vs : List Value} {nv : Nat} {ns : List Int}
   (G : Gd w s.heap) (R : Rm A 3) (hl : s.heap.get? fa = some (listO vs nv)) (hi : IntsAre vs ns) (hz : ns.length ≤ 6)
   (hQ : Out [] s Q (fun v h' => ∃ la ps n, v = .ref la ∧ h'.get? la = some (listO (refsOf ps) n) ∧ s.heap.get? la = none ∧ (∀ q ∈ ps, PairAt h' q ∧ s.heap.get? q.1 = none) ∧ ps.map (·.2) = laidP ns)) :
   wpAny (model prog w) A (call (.ref 152) [.ref fa]) Q E s := by
  (((have kkZq : PySem.Challenge.rw_wu0059_01 = PySem.Challenge.rw_wu0059_01 ∧ Mine.hd.heap_39 = Mine.hd.heap_39 := ⟨rfl, rfl⟩); revert kkZq; k_fill; intro kkZq; clear kkZq; w_on))
  (((rename Rm _ _ => rrZq); (rename Around => aaZq); (have e0Zq := Rm.h rrZq); rcases aaZq with ⟨hhZq, d1Zq, d2Zq, d3Zq, d4Zq⟩; dsimp only at e0Zq; subst e0Zq))
  have R := ‹Rm _ 3›
  refine enterC [(Str.ofString "flags", .ref fa)] G R.room (by k_is) (by k_is) (by (first | exact BindsTo.of_eq rfl | exact binds_K (Gd.X (by assumption)) rfl (by k_is) rfl rfl rfl | exact binds_K (Gd.X (Gd.keeps (by assumption) (by assumption))) rfl (by k_is) rfl rfl rfl)) rfl (by decide +kernel) rfl rfl rfl ?_
  intro L h₁ tk cells F N Y X
  have hZqq := G.T
  refine ex5 hZqq ?_; (try clear hZqq); intro pp l m mg mb; intro T
  k_cells Y
  (repeat' ((fail_if_success (with_reducible show wpAny _ _ (eval (PySem.Expr.ListComp _ _ _ _) _) _ _ _)); (fail_if_success (with_reducible show LCg.CompSrc _ _ _ _ _ _ _ _ _ _ _ _ _ _)); (fail_if_success (with_reducible show LCp.SrcLP _ _ _ _ _ _ _ _ _ _ _ _ _ _ _)); (fail_if_success (with_reducible show LCg.CompEnd _ _ _ _ _ _ _ _ _ _ _ _ _ _)); (fail_if_success (with_reducible show wpAny _ _ (call (Value.builtin "sorted") _ _) _ _ _)); (first | (k_unfold; (try dsimp only)) | ( (fail_if_success (with_reducible show wpAny _ _ (exec (Stmt.While _ _ _ _) _) _ _ _)); (fail_if_success (with_reducible show wpAny _ _ (exec (Stmt.For _ _ _ _ _) _) _ _ _)); (fail_if_success (with_reducible show wpAny _ _ (exec (Stmt.Try _ _ _ _ _) _) _ _ _)); (fail_if_success (with_reducible show wpAny _ _ (pyIter _) (fun it s₂ => Loop _ _ _ _ _ _ _ _ _ _ it s₂) _ _)); (fail_if_success (with_reducible show wpAny _ _ (call (Value.ref _) _ _) _ _ _)); walk1; (try ((first | (with_reducible show wpAny _ _ (spliced _) _ _ _) | (with_reducible show wpAny _ _ (newList _) _ _ _) | (with_reducible show wpAny _ _ (execs _ _) _ _ _)); dsimp only))))))
  refine LCp.ListComp_P (F₀ := ‹_›) (by with_unfolding_all rfl) (by decide) (by rfl) (by decide) (by rfl) (by rfl) (by decide) ?_
  (repeat' ((fail_if_success (with_reducible show wpAny _ _ (eval (PySem.Expr.ListComp _ _ _ _) _) _ _ _)); (fail_if_success (with_reducible show LCg.CompSrc _ _ _ _ _ _ _ _ _ _ _ _ _ _)); (fail_if_success (with_reducible show LCp.SrcLP _ _ _ _ _ _ _ _ _ _ _ _ _ _ _)); (fail_if_success (with_reducible show LCg.CompEnd _ _ _ _ _ _ _ _ _ _ _ _ _ _)); (fail_if_success (with_reducible show wpAny _ _ (call (Value.builtin "sorted") _ _) _ _ _)); (first | (k_unfold; (try dsimp only)) | ( (fail_if_success (with_reducible show wpAny _ _ (exec (Stmt.While _ _ _ _) _) _ _ _)); (fail_if_success (with_reducible show wpAny _ _ (exec (Stmt.For _ _ _ _ _) _) _ _ _)); (fail_if_success (with_reducible show wpAny _ _ (exec (Stmt.Try _ _ _ _ _) _) _ _ _)); (fail_if_success (with_reducible show wpAny _ _ (pyIter _) (fun it s₂ => Loop _ _ _ _ _ _ _ _ _ _ it s₂) _ _)); (fail_if_success (with_reducible show wpAny _ _ (call (Value.ref _) _ _) _ _ _)); walk1; (try ((first | (with_reducible show wpAny _ _ (spliced _) _ _ _) | (with_reducible show wpAny _ _ (newList _) _ _ _) | (with_reducible show wpAny _ _ (execs _ _) _ _ _)); dsimp only))))))
  refine LCg.ListComp_U (F₀ := ‹_›) (by with_unfolding_all rfl) (by decide) (by rfl) (by decide) (by rfl) ?_
  have hl1 := isL (Fr.keep ‹_› _ _ hl)
  have hlen := hi.length
  (repeat' ((fail_if_success (with_reducible show wpAny _ _ (eval (PySem.Expr.ListComp _ _ _ _) _) _ _ _)); (fail_if_success (with_reducible show LCg.CompSrc _ _ _ _ _ _ _ _ _ _ _ _ _ _)); (fail_if_success (with_reducible show LCp.SrcLP _ _ _ _ _ _ _ _ _ _ _ _ _ _ _)); (fail_if_success (with_reducible show LCg.CompEnd _ _ _ _ _ _ _ _ _ _ _ _ _ _)); (fail_if_success (with_reducible show wpAny _ _ (call (Value.builtin "sorted") _ _) _ _ _)); (first | (k_unfold; (try dsimp only)) | ( (fail_if_success (with_reducible show wpAny _ _ (exec (Stmt.While _ _ _ _) _) _ _ _)); (fail_if_success (with_reducible show wpAny _ _ (exec (Stmt.For _ _ _ _ _) _) _ _ _)); (fail_if_success (with_reducible show wpAny _ _ (exec (Stmt.Try _ _ _ _ _) _) _ _ _)); (fail_if_success (with_reducible show wpAny _ _ (pyIter _) (fun it s₂ => Loop _ _ _ _ _ _ _ _ _ _ it s₂) _ _)); (fail_if_success (with_reducible show wpAny _ _ (call (Value.ref _) _ _) _ _ _)); walk1; (try ((first | (with_reducible show wpAny _ _ (spliced _) _ _ _) | (with_reducible show wpAny _ _ (newList _) _ _ _) | (with_reducible show wpAny _ _ (execs _ _) _ _ _)); dsimp only))))))
  rename Obj => oc
  rename IsRange _ _ _ _ _ _ _ _ => Ir
  rename Fr _ _ _ _ => Fa
  rename News _ _ _ _ => Na
  refine LCg.CompSrc.range rfl Fa Na Ir (small_one (by omega) (by omega) (by omega) (by omega)) (rangeSize_nat _ _) (by show ns.length ≤ 2 ^ 24; omega) ?_
  intro g'
  refine comp_ind (fun i ys news => ∃ ps rest, ys = refsOf ps ∧ news = (L + 1, oc) :: rest ∧ (∀ q ∈ ps, TupIn rest q) ∧ ps.map (·.2) = (List.range i).map (keyOf ns)) ?_ ?_ _ 0 [] _ rfl ⟨[], [], rfl, rfl, by simp, rfl⟩
  · (repeat ((first | (with_reducible rename Fr _ _ _ _ => zzZq) | (with_reducible rename News _ _ _ _ => zzZq) | (with_reducible rename IsRange _ _ _ _ _ _ _ _ => zzZq)); clear zzZq))
    intro i ys news v I oI C oC D m₂ h tk E' hin xZq1 xZq2 hC hx F N off ne
    refine ex2 xZq1 ?_; (try clear xZq1); intro ps rest; refine and4 ?_; intro yZq5x2 yZq5x3 hps hmap
    obtain rfl := yZq5x2
    obtain rfl := yZq5x3
    obtain ⟨t, rfl⟩ := xZq2
    obtain ⟨⟨o1, o2, o3⟩, off⟩ := off
    rw [Int.zero_add] at hx
    (repeat' ((fail_if_success (with_reducible show wpAny _ _ (eval (PySem.Expr.ListComp _ _ _ _) _) _ _ _)); (fail_if_success (with_reducible show LCg.CompSrc _ _ _ _ _ _ _ _ _ _ _ _ _ _)); (fail_if_success (with_reducible show LCp.SrcLP _ _ _ _ _ _ _ _ _ _ _ _ _ _ _)); (fail_if_success (with_reducible show LCg.CompEnd _ _ _ _ _ _ _ _ _ _ _ _ _ _)); (fail_if_success (with_reducible show wpAny _ _ (call (Value.builtin "sorted") _ _) _ _ _)); (first | (k_unfold; (try dsimp only)) | ( (fail_if_success (with_reducible show wpAny _ _ (exec (Stmt.While _ _ _ _) _) _ _ _)); (fail_if_success (with_reducible show wpAny _ _ (exec (Stmt.For _ _ _ _ _) _) _ _ _)); (fail_if_success (with_reducible show wpAny _ _ (exec (Stmt.Try _ _ _ _ _) _) _ _ _)); (fail_if_success (with_reducible show wpAny _ _ (pyIter _) (fun it s₂ => Loop _ _ _ _ _ _ _ _ _ _ it s₂) _ _)); (fail_if_success (with_reducible show wpAny _ _ (call (Value.ref _) _ _) _ _ _)); walk1; (try ((first | (with_reducible show wpAny _ _ (spliced _) _ _ _) | (with_reducible show wpAny _ _ (newList _) _ _ _) | (with_reducible show wpAny _ _ (execs _ _) _ _ _)); dsimp only))))))
    have hin' : i < ns.length := by omega
    obtain ⟨ti, hti⟩ := hi.get i ns[i] (List.getElem?_eq_getElem hin')
    refine item_listL (isL (F.keep _ _ hl)) (by omega) (by omega) (by simpa using hti) ?_
    (repeat' ((fail_if_success (with_reducible show wpAny _ _ (eval (PySem.Expr.ListComp _ _ _ _) _) _ _ _)); (fail_if_success (with_reducible show LCg.CompSrc _ _ _ _ _ _ _ _ _ _ _ _ _ _)); (fail_if_success (with_reducible show LCp.SrcLP _ _ _ _ _ _ _ _ _ _ _ _ _ _ _)); (fail_if_success (with_reducible show LCg.CompEnd _ _ _ _ _ _ _ _ _ _ _ _ _ _)); (fail_if_success (with_reducible show wpAny _ _ (call (Value.builtin "sorted") _ _) _ _ _)); (first | (k_unfold; (try dsimp only)) | ( (fail_if_success (with_reducible show wpAny _ _ (exec (Stmt.While _ _ _ _) _) _ _ _)); (fail_if_success (with_reducible show wpAny _ _ (exec (Stmt.For _ _ _ _ _) _) _ _ _)); (fail_if_success (with_reducible show wpAny _ _ (exec (Stmt.Try _ _ _ _ _) _) _ _ _)); (fail_if_success (with_reducible show wpAny _ _ (pyIter _) (fun it s₂ => Loop _ _ _ _ _ _ _ _ _ _ it s₂) _ _)); (fail_if_success (with_reducible show wpAny _ _ (call (Value.ref _) _ _) _ _ _)); walk1; (try ((first | (with_reducible show wpAny _ _ (spliced _) _ _ _) | (with_reducible show wpAny _ _ (newList _) _ _ _) | (with_reducible show wpAny _ _ (execs _ _) _ _ _)); dsimp only))))))
    have hZqq := ‹I < _ ∧ C < _ ∧ D < _ ∧ L + 1 < _ ∧ AllLt _ rest›
    refine andI hZqq ?_; (try clear hZqq); refine and5 ?_; intro z1 z2 z3 z4 z5
    rename Addr => T
    rename News _ _ _ _ => N9
    rename Fr _ _ _ _ => F9
    obtain ⟨tT, N9⟩ : ∃ tT, News s.heap L _ ((T, tupT (.int ns[i] ti) (.int (0 - (i : Int)) tT) 0) :: (I, oI) :: (C, oC) :: (D, LCg.lst (refsOf ps)) :: (L + 1, oc) :: rest)   := ⟨_, N9⟩
    refine LCg.CompEnd.intro F9 N9 ((L + 1, oc) :: (T, tupT (.int ns[i] ti) (.int (0 - (i : Int)) tT) 0) :: rest) ?_ ⟨⟨o1, o2, o3⟩, ⟨Nat.ne_of_gt z1, Nat.ne_of_gt z2, Nat.ne_of_gt z3⟩, off⟩ trivial ⟨ps ++ [(T, ns[i], 0 - (i : Int))], _, by simp, rfl, ?_, ?_⟩
    · intro p hp
      simp only [List.mem_cons] at hp ⊢
      rcases hp with rfl | rfl | rfl | rfl | rfl | hp
      · exact .inr (.inl rfl)
      · exact .inr (.inr (.inl rfl))
      · exact .inr (.inr (.inr (.inl rfl)))
      · exact .inr (.inr (.inr (.inr (.inl rfl))))
      · exact .inl rfl
      · exact .inr (.inr (.inr (.inr (.inr hp))))
    · intro q hq
      rcases List.mem_append.mp hq with hq | hq
      · have hZqq := hps q hq
        refine ex3 hZqq ?_; (try clear hZqq); intro b1 b2 b3; intro b4
        exact ⟨b1, b2, b3, .tail _ b4⟩
      · obtain rfl := List.mem_singleton.mp hq
        exact ⟨_, _, _, .head _⟩
    · rw [List.map_append, hmap, List.range_succ, List.map_append]
      simp [keyOf, hin']
  · (repeat ((first | (with_reducible rename Fr _ _ _ _ => zzZq) | (with_reducible rename News _ _ _ _ => zzZq) | (with_reducible rename IsRange _ _ _ _ _ _ _ _ => zzZq)); clear zzZq))
    intro ys news xZq1 D h tk F N off
    refine ex2 xZq1 ?_; (try clear xZq1); intro ps rest; refine and4 ?_; intro yZq8x2 yZq8x3 hps hmap
    obtain rfl := yZq8x2
    obtain rfl := yZq8x3
    have hmap : ps.map (·.2) = (List.range ns.length).map (keyOf ns) := by rw [hmap]; congr 2
    have hpl : ps.length = ns.length := by have := congrArg List.length hmap; simpa using this
    (repeat' ((fail_if_success (with_reducible show wpAny _ _ (eval (PySem.Expr.ListComp _ _ _ _) _) _ _ _)); (fail_if_success (with_reducible show LCg.CompSrc _ _ _ _ _ _ _ _ _ _ _ _ _ _)); (fail_if_success (with_reducible show LCp.SrcLP _ _ _ _ _ _ _ _ _ _ _ _ _ _ _)); (fail_if_success (with_reducible show LCg.CompEnd _ _ _ _ _ _ _ _ _ _ _ _ _ _)); (fail_if_success (with_reducible show wpAny _ _ (call (Value.builtin "sorted") _ _) _ _ _)); (first | (k_unfold; (try dsimp only)) | ( (fail_if_success (with_reducible show wpAny _ _ (exec (Stmt.While _ _ _ _) _) _ _ _)); (fail_if_success (with_reducible show wpAny _ _ (exec (Stmt.For _ _ _ _ _) _) _ _ _)); (fail_if_success (with_reducible show wpAny _ _ (exec (Stmt.Try _ _ _ _ _) _) _ _ _)); (fail_if_success (with_reducible show wpAny _ _ (pyIter _) (fun it s₂ => Loop _ _ _ _ _ _ _ _ _ _ it s₂) _ _)); (fail_if_success (with_reducible show wpAny _ _ (call (Value.ref _) _ _) _ _ _)); walk1; (try ((first | (with_reducible show wpAny _ _ (spliced _) _ _ _) | (with_reducible show wpAny _ _ (newList _) _ _ _) | (with_reducible show wpAny _ _ (execs _ _) _ _ _)); dsimp only))))))
    refine tup_sorted F N (isL (N.get (.head _))) (fun q hq => by obtain ⟨b1, b2, b3, b4⟩ := hps q hq; exact ⟨b1, b2, b3, .tail _ (.tail _ b4)⟩) (by omega) (by rw [hmap]; exact keys_nodup ns _) ?_
    intro D2 ps2 c h2 F2 N2 l2 m1 m2 srt
    (repeat' ((fail_if_success (with_reducible show wpAny _ _ (eval (PySem.Expr.ListComp _ _ _ _) _) _ _ _)); (fail_if_success (with_reducible show LCg.CompSrc _ _ _ _ _ _ _ _ _ _ _ _ _ _)); (fail_if_success (with_reducible show LCp.SrcLP _ _ _ _ _ _ _ _ _ _ _ _ _ _ _)); (fail_if_success (with_reducible show LCg.CompEnd _ _ _ _ _ _ _ _ _ _ _ _ _ _)); (fail_if_success (with_reducible show wpAny _ _ (call (Value.builtin "sorted") _ _) _ _ _)); (first | (k_unfold; (try dsimp only)) | ( (fail_if_success (with_reducible show wpAny _ _ (exec (Stmt.While _ _ _ _) _) _ _ _)); (fail_if_success (with_reducible show wpAny _ _ (exec (Stmt.For _ _ _ _ _) _) _ _ _)); (fail_if_success (with_reducible show wpAny _ _ (exec (Stmt.Try _ _ _ _ _) _) _ _ _)); (fail_if_success (with_reducible show wpAny _ _ (pyIter _) (fun it s₂ => Loop _ _ _ _ _ _ _ _ _ _ it s₂) _ _)); (fail_if_success (with_reducible show wpAny _ _ (call (Value.ref _) _ _) _ _ _)); walk1; (try ((first | (with_reducible show wpAny _ _ (spliced _) _ _ _) | (with_reducible show wpAny _ _ (newList _) _ _ _) | (with_reducible show wpAny _ _ (execs _ _) _ _ _)); dsimp only))))))
    have hp2l : ps2.length ≤ 6 := by
      have e1 : ps2.map (·.2) = ps2.map (·.2) := rfl
      have nd : (ps2.map (·.2)).Nodup := List.Pairwise.imp (fun {a b} h e => by rw [e, lexlt_irr] at h; cases h) srt
      have q : ∀ x ∈ ps2.map (·.2), x ∈ ps.map (·.2) := fun x hx => by
        have hZqq := List.mem_map.mp hx
        refine ex1 hZqq ?_; (try clear hZqq); intro q; refine and2 ?_; intro hq yZq9x2
        obtain rfl := yZq9x2
        exact List.mem_map.mpr ⟨q, m1 q hq, rfl⟩
      have := nodup_le nd q
      simp at this; omega
    refine LCp.SrcLP.ledger rfl F2 N2 (.head _) (by show (refsOf ps2).toArray.size ≤ 2 ^ 24; simp; omega) ?_
    intro g2
    refine comp_indP (fun i ys news => ∃ ps3 rest3, ys = refsOf ps3 ∧ news = (D2, listO (refsOf ps2) c) :: rest3 ∧ (∀ q ∈ ps2, TupIn rest3 q) ∧ (∀ q ∈ ps3, PairIn rest3 q) ∧ ps3.map (·.2) = (ps2.take i).map fun q => (q.2.1, 0 - q.2.2))
      ?_ ?_ _ 0 [] _ rfl ⟨[], _, rfl, rfl, fun q hq => by obtain ⟨b1, b2, b3, b4⟩ := hps q (m1 q hq); exact ⟨b1, b2, b3, .tail _ (.tail _ b4)⟩, by simp, rfl⟩
    · (repeat ((first | (with_reducible rename Fr _ _ _ _ => zzZq) | (with_reducible rename News _ _ _ _ => zzZq) | (with_reducible rename IsRange _ _ _ _ _ _ _ _ => zzZq)); clear zzZq))
      intro i ys news v hin xZq1 hv
      refine ex2 xZq1 ?_; (try clear xZq1); intro ps3 rest3; refine and5 ?_; intro yZq10x2 yZq10x3 ht hp3 hmap3
      obtain rfl := yZq10x2
      obtain rfl := yZq10x3
      have hin' : i < ps2.length := by simpa using hin
      obtain rfl : v = .ref ps2[i].1 := by
        have : (refsOf ps2)[i]? = some v := by rw [← List.getElem?_toArray]; exact hv
        simp [hin'] at this; exact this.symm
      have hZqq := ht _ (List.getElem_mem hin')
      refine ex3 hZqq ?_; (try clear hZqq); intro t1 t2 nn; intro e
      refine ⟨_, _, .int ps2[i].2.1 t1, .int ps2[i].2.2 t2, nn, rfl, .tail _ e, rfl, rfl, ?_⟩
      intro I oI C oC D m₂ h tk E' hC hx hx2 F N off ne
      obtain ⟨⟨o1, o2, o3⟩, off⟩ := off
      generalize hq : ps2[i] = q at *
      obtain ⟨qa, q1, q2⟩ := q
      dsimp only at hx hx2 e
      (repeat' ((fail_if_success (with_reducible show wpAny _ _ (eval (PySem.Expr.ListComp _ _ _ _) _) _ _ _)); (fail_if_success (with_reducible show LCg.CompSrc _ _ _ _ _ _ _ _ _ _ _ _ _ _)); (fail_if_success (with_reducible show LCp.SrcLP _ _ _ _ _ _ _ _ _ _ _ _ _ _ _)); (fail_if_success (with_reducible show LCg.CompEnd _ _ _ _ _ _ _ _ _ _ _ _ _ _)); (fail_if_success (with_reducible show wpAny _ _ (call (Value.builtin "sorted") _ _) _ _ _)); (first | (k_unfold; (try dsimp only)) | ( (fail_if_success (with_reducible show wpAny _ _ (exec (Stmt.While _ _ _ _) _) _ _ _)); (fail_if_success (with_reducible show wpAny _ _ (exec (Stmt.For _ _ _ _ _) _) _ _ _)); (fail_if_success (with_reducible show wpAny _ _ (exec (Stmt.Try _ _ _ _ _) _) _ _ _)); (fail_if_success (with_reducible show wpAny _ _ (pyIter _) (fun it s₂ => Loop _ _ _ _ _ _ _ _ _ _ it s₂) _ _)); (fail_if_success (with_reducible show wpAny _ _ (call (Value.ref _) _ _) _ _ _)); walk1; (try ((first | (with_reducible show wpAny _ _ (spliced _) _ _ _) | (with_reducible show wpAny _ _ (newList _) _ _ _) | (with_reducible show wpAny _ _ (execs _ _) _ _ _)); dsimp only))))))
      have hZqq := ‹I < _ ∧ C < _ ∧ D < _ ∧ D2 < _ ∧ AllLt _ rest3›
      refine andI hZqq ?_; (try clear hZqq); refine and5 ?_; intro z1 z2 z3 z4 z5
      rename Addr => T
      rename News _ _ _ _ => N9
      rename Fr _ _ _ _ => F9
      obtain ⟨tT, N9⟩ : ∃ tT, News s.heap L _ ((T, listO [.int q1 t1, .int (0 - q2) tT] 0) :: (I, oI) :: (C, oC) :: (D, LCg.lst (refsOf ps3)) :: (D2, listO (refsOf ps2) c) :: rest3) := ⟨_, N9⟩
      refine LCg.CompEnd.intro F9 N9 ((D2, listO (refsOf ps2) c) :: (T, listO [.int q1 t1, .int (0 - q2) tT] 0) :: rest3) ?_ ⟨⟨o1, o2, o3⟩, ⟨Nat.ne_of_gt z1, Nat.ne_of_gt z2, Nat.ne_of_gt z3⟩, off⟩ (.inr ⟨_, .head _, rfl, _, rfl⟩)
        ⟨ps3 ++ [(T, q1, 0 - q2)], _, by simp, rfl, fun q hq => by obtain ⟨b1, b2, b3, b4⟩ := ht q hq; exact ⟨b1, b2, b3, .tail _ b4⟩, ?_, ?_⟩
      · intro p hp
        simp only [List.mem_cons] at hp ⊢
        rcases hp with rfl | rfl | rfl | rfl | rfl | hp
        · exact .inr (.inl rfl)
        · exact .inr (.inr (.inl rfl))
        · exact .inr (.inr (.inr (.inl rfl)))
        · exact .inr (.inr (.inr (.inr (.inl rfl))))
        · exact .inl rfl
        · exact .inr (.inr (.inr (.inr (.inr hp))))
      · intro q hq
        rcases List.mem_append.mp hq with hq | hq
        · exact (hp3 q hq).cons
        · obtain rfl := List.mem_singleton.mp hq
          exact ⟨_, _, _, .head _⟩
      · rw [List.map_append, hmap3, List.take_add_one, List.getElem?_eq_getElem hin', hq, Option.toList_some, List.map_append]; rfl
    · (repeat ((first | (with_reducible rename Fr _ _ _ _ => zzZq) | (with_reducible rename News _ _ _ _ => zzZq) | (with_reducible rename IsRange _ _ _ _ _ _ _ _ => zzZq)); clear zzZq))
      intro ys news xZq1 D h tk F N off
      refine ex2 xZq1 ?_; (try clear xZq1); intro ps3 rest3; refine and5 ?_; intro yZq14x2 yZq14x3 ht hp3 hmap3
      obtain rfl := yZq14x2
      obtain rfl := yZq14x3
      have hmap3 : ps3.map (·.2) = ps2.map fun q => (q.2.1, 0 - q.2.2) := by
        rw [hmap3, List.take_of_length_le (by simp)]
      refine hQ _ _ _ (Kb.of _ F.keep) ⟨D, ps3, _, rfl, N.get (.head _), N.fresh (.head _), fun q hq => ⟨((hp3 q hq).cons.cons).at N, ?_⟩, ?_⟩
      · have hZqq := hp3 q hq
        refine ex3 hZqq ?_; (try clear hZqq); intro b1 b2 b3; intro b4
        exact N.fresh (.tail _ (.tail _ b4))
      · have e1 : ps2.map (·.2) = (laidP ns).map (fun q => (q.1, 0 - q.2)) := by
          refine strict_uniq srt (laid_lex ns) fun x => ⟨fun hx => ?_, fun hx => ?_⟩
          · have hZqq := List.mem_map.mp hx
            refine ex1 hZqq ?_; (try clear hZqq); intro q; refine and2 ?_; intro hq yZq16x2
            obtain rfl := yZq16x2
            have : q.2 ∈ ps.map (·.2) := List.mem_map.mpr ⟨q, m1 q hq, rfl⟩
            rw [hmap] at this
            have hZqq := List.mem_map.mp this
            refine ex1 hZqq ?_; (try clear hZqq); intro j; refine and2 ?_; intro hj e
            have hj' := List.mem_range.mp hj
            refine List.mem_map.mpr ⟨(ns[j], (j : Int)), (mem_laid ns _).mpr ⟨j, hj', rfl⟩, ?_⟩
            rw [← e]; simp [keyOf, hj']
          · have hZqq := List.mem_map.mp hx
            refine ex1 hZqq ?_; (try clear hZqq); intro q; refine and2 ?_; intro hq yZq18x2
            obtain rfl := yZq18x2
            have hZqq := (mem_laid ns _).mp hq
            obtain ⟨j, hj, rfl⟩ := hZqq
            have : keyOf ns j ∈ ps.map (·.2) := by rw [hmap]; exact List.mem_map.mpr ⟨j, List.mem_range.mpr hj, rfl⟩
            have hZqq := List.mem_map.mp this
            refine ex1 hZqq ?_; (try clear hZqq); intro q; refine and2 ?_; intro hq e
            refine List.mem_map.mpr ⟨q, m2 q hq, ?_⟩
            rw [e]; simp [keyOf, hj]
        have e2 : (ps2.map fun q => (q.2.1, 0 - q.2.2)) = (ps2.map (·.2)).map fun q => (q.1, 0 - q.2) := by rw [List.map_map]; rfl
        rw [hmap3, e2, e1, List.map_map]
        exact (List.map_congr_left (g := id) fun q _ => by
          show (q.1, 0 - (0 - q.2)) = q
          rw [show 0 - (0 - q.2) = q.2 by omega]).trans (List.map_id _)
-- needs C11
noncomputable def wordAt (j : Nat) : Str := match j with
  | 7 => Str.ofString "COROUTINE"
  | 8 => Str.ofString "ITERABLE_COROUTINE"
  | 9 => Str.ofString "ASYNC_GENERATOR"
  | 10 => Str.ofString "0x400"
  | 11 => Str.ofString "0x800"
  | 12 => Str.ofString "0x1000"
  | _ => Str.ofString "?"
noncomputable def below (f i : Nat) : List Str := ((List.range i).filter fun j => f.testBit j).map wordAt
noncomputable def leftOf (f i : Nat) : Nat := f / 2 ^ i * 2 ^ i
theorem below_length (f i : Nat) : (below f i).length ≤ i := by
  unfold below; rw [List.length_map]; exact Nat.le_trans (List.length_filter_le _ _) (by simp)
noncomputable def bitsOf (f i : Nat) : List Nat := (List.range i).filter fun j => f.testBit j
theorem fin_bits : ∀ k, k < 64 → ∀ i, i < 32 → ((leftOf (128 * k) i &&& 2 ^ i) ≠ 0 ↔ (128 * k).testBit i = true) ∧ ((128 * k).testBit i = true → 7 ≤ i ∧ i ≤ 12 ∧ (leftOf (128 * k) i ||| 2 ^ i) = leftOf (128 * k) (i + 1) + (leftOf (128 * k) i &&& 2 ^ i)) ∧ ((128 * k).testBit i = false → leftOf (128 * k) (i + 1) = leftOf (128 * k) i) := by decide +kernel
theorem fin_end : ∀ k, k < 64 → ∀ i, i < 33 → leftOf (128 * k) i = 0 → bitsOf (128 * k) i = bitsOf (128 * k) 13 := by decide +kernel
theorem hitBit {f i r : Nat} (hf : f < 8192) (h7 : f % 128 = 0) (hi : i < 32) (hr : r = leftOf f i) (h : ¬ Builtin.bitAnd (r : Int) (1 * 2 ^ Int.toNat (i : Int)) = 0) : f.testBit i = true := by
  obtain ⟨k, rfl⟩ : ∃ k, f = 128 * k := ⟨f / 128, by omega⟩
  refine ((fin_bits k (by omega) i hi).1).mp fun e => h ?_
  have e1 : ((1 : Int) * 2 ^ Int.toNat (i : Int)) = ((2 ^ i : Nat) : Int) := by rw [Int.one_mul, Int.toNat_natCast]; simp
  rw [e1, bitAnd_nat, hr, e]; rfl
theorem missBit {f i r : Nat} (hf : f < 8192) (h7 : f % 128 = 0) (hi : i < 32) (hr : r = leftOf f i) (h : Builtin.bitAnd (r : Int) (1 * 2 ^ Int.toNat (i : Int)) = 0) : f.testBit i = false := by
  obtain ⟨k, rfl⟩ : ∃ k, f = 128 * k := ⟨f / 128, by omega⟩
  apply Bool.eq_false_iff.mpr
  intro hb
  have := ((fin_bits k (by omega) i hi).1).mpr hb
  have e1 : ((1 : Int) * 2 ^ Int.toNat (i : Int)) = ((2 ^ i : Nat) : Int) := by rw [Int.one_mul, Int.toNat_natCast]; simp
  rw [e1, bitAnd_nat, hr] at h
  exact this (by exact_mod_cast h)
theorem hit_facts {f i : Nat} (hf : f < 8192) (h7 : f % 128 = 0) (hi : i < 32) (h : f.testBit i = true) : 7 ≤ i ∧ i ≤ 12 ∧ (leftOf f i ||| 2 ^ i) = leftOf f (i + 1) + (leftOf f i &&& 2 ^ i) := by
  obtain ⟨k, rfl⟩ : ∃ k, f = 128 * k := ⟨f / 128, by omega⟩
  exact (fin_bits k (by omega) i hi).2.1 h
theorem miss_facts {f i : Nat} (hf : f < 8192) (h7 : f % 128 = 0) (hi : i < 32) (h : f.testBit i = false) : leftOf f (i + 1) = leftOf f i := by
  obtain ⟨k, rfl⟩ : ∃ k, f = 128 * k := ⟨f / 128, by omega⟩
  exact (fin_bits k (by omega) i hi).2.2 h
theorem below_hit {f i : Nat} (h : f.testBit i = true) : below f (i + 1) = below f i ++ [wordAt i] := by
  unfold below; rw [List.range_succ, List.filter_append, List.map_append]; simp [h]
theorem below_miss {f i : Nat} (h : f.testBit i = false) : below f (i + 1) = below f i := by
  unfold below; rw [List.range_succ, List.filter_append, List.map_append]; simp [h]
theorem below_end {f i : Nat} (hf : f < 8192) (h7 : f % 128 = 0) (hi : i < 33) (h : leftOf f i = 0) : below f i = below f 13 := by
  obtain ⟨k, rfl⟩ : ∃ k, f = 128 * k := ⟨f / 128, by omega⟩
  exact congrArg (List.map wordAt) (fin_end k (by omega) i hi h)
theorem bitXor_nat (a b c : Nat) (h : (a ||| b) = c + (a &&& b)) : Builtin.bitXor (a : Int) (b : Int) = ((c : Nat) : Int) := by
  have e : Builtin.bitXor (a : Int) (b : Int) = Builtin.bitOr (a : Int) (b : Int) - Builtin.bitAnd (a : Int) (b : Int) := rfl
  rw [e, bitOr_nat, bitAnd_nat, h]; omega
theorem strs_snoc {vs : List Value} {ss : List Str} {x : Str} {t : Tok} (h : StrsAre vs ss) : StrsAre (vs ++ [.str x t]) (ss ++ [x]) := by
  induction h with
  | nil => exact .cons _ _ .nil
  | cons y u _ ih => exact .cons _ _ ih
noncomputable def wordsL (f : Nat) : List Str := if f = 0 then [Str.ofString "0x0"] else below f 13
noncomputable def textOf (f : Nat) : Str := Txt.join (Str.ofString ", ") (wordsL f)
theorem fin_small : ∀ k, k < 64 → ((wordsL (128 * k)).map (·.length)).sum + (wordsL (128 * k)).length * 64 ≤ 16777216 := by decide +kernel
theorem words_small {f : Nat} (hf : f < 8192) (h7 : f % 128 = 0) : ((wordsL f).map (·.length)).sum + (wordsL f).length * 64 ≤ 16777216 := by
  obtain ⟨k, rfl⟩ : ∃ k, f = 128 * k := ⟨f / 128, by omega⟩
  exact fin_small k (by omega)
theorem hexAt10 : baseText "0x" 16 (1 * 2 ^ Int.toNat ((10 : Nat) : Int)) = wordAt 10 := by decide +kernel
theorem hexAt11 : baseText "0x" 16 (1 * 2 ^ Int.toNat ((11 : Nat) : Int)) = wordAt 11 := by decide +kernel
theorem hexAt12 : baseText "0x" 16 (1 * 2 ^ Int.toNat ((12 : Nat) : Int)) = wordAt 12 := by decide +kernel
-- needs C11 C15
/-- where sep begins in the signs: suf is what stands from place cur on -/
noncomputable def occS (y : List Nat) (w hi limit : Nat) : List Nat → Nat → Nat → Nat → List Nat
  | [], _, _, _ => []
  | c :: suf, cur, n, free =>
    match ((Nat.blt n limit && Nat.ble free cur) && Nat.ble (cur + w) hi) && ((c :: suf).take w == y) with
    | true => cur :: occS y w hi limit suf (cur + 1) (n + 1) (cur + w)
    | false => occS y w hi limit suf (cur + 1) n free
theorem run_occS (s sub : Str) (hi limit : Nat) (hw : 1 ≤ sub.length) : ∀ (suf : List Nat) (cur : Nat) (st : Array Nat × Nat), s.cps.toList.drop cur = suf → hi ≤ s.length →
    (forIn (List.range' cur (suf.length + 1)) st (StrLaws.occBody s sub hi limit)).run.fst.toList = st.1.toList ++ occS sub.cps.toList sub.length hi limit suf cur st.1.size st.2
  | [], cur, st, e, h => by
    have hc : s.length ≤ cur := by
      have := congrArg List.length e
      simp only [List.length_drop, List.length_nil] at this
      show s.cps.size ≤ cur
      rw [← Array.length_toList]; omega
    show (forIn (List.range' cur 1) st (StrLaws.occBody s sub hi limit)).run.fst.toList = _
    rw [List.range'_succ, List.forIn_cons]
    unfold StrLaws.occBody
    rw [if_neg (fun q => by have := q.1.2; omega)]
    show st.1.toList = _
    unfold occS; simp
  | c :: suf, cur, st, e, h => by
    show (forIn (List.range' cur (suf.length + 1 + 1)) st (StrLaws.occBody s sub hi limit)).run.fst.toList = _
    rw [List.range'_succ, List.forIn_cons]
    have e' : s.cps.toList.drop (cur + 1) = suf := by rw [← List.drop_drop, e]; rfl
    have hb : Builtin.Str.subAt s sub cur = ((c :: suf).take sub.length == sub.cps.toList) := by rw [StrLaws.subAt_eq, e]
    rw [StrLaws.occBody]
    by_cases q : ((st.1.size < limit ∧ st.2 ≤ cur) ∧ cur + sub.length ≤ hi) ∧ Builtin.Str.subAt s sub cur = true
    · rw [if_pos q]
      show (forIn (List.range' (cur + 1) (suf.length + 1)) (st.1.push cur, cur + sub.length) (StrLaws.occBody s sub hi limit)).run.fst.toList = _
      rw [run_occS s sub hi limit hw suf (cur + 1) _ e' h]
      have q' : (((Nat.blt st.1.size limit && Nat.ble st.2 cur) && Nat.ble (cur + sub.length) hi) && ((c :: suf).take sub.length == sub.cps.toList)) = true := by
        rw [← hb]
        simp only [Bool.and_eq_true, Nat.ble_eq, Nat.blt_eq]
        exact q
      conv => rhs; unfold occS
      rw [q']
      simp
    · rw [if_neg q]
      show (forIn (List.range' (cur + 1) (suf.length + 1)) (st.1, st.2) (StrLaws.occBody s sub hi limit)).run.fst.toList = _
      rw [run_occS s sub hi limit hw suf (cur + 1) _ e' h]
      have q' : (((Nat.blt st.1.size limit && Nat.ble st.2 cur) && Nat.ble (cur + sub.length) hi) && ((c :: suf).take sub.length == sub.cps.toList)) = false := by
        rw [← hb]
        apply Bool.eq_false_iff.mpr
        intro z
        simp only [Bool.and_eq_true, Nat.ble_eq, Nat.blt_eq] at z
        exact q z
      conv => rhs; unfold occS
      rw [q']
noncomputable def partsL (x : List Nat) (w : Nat) : Nat → List Nat → List (List Nat)
  | a, [] => [(x.drop a).take (x.length - a)]
  | a, c :: r => (x.drop a).take (c - a) :: partsL x w (c + w) r
theorem parts_L (x : Str) (w : Nat) : ∀ (cuts : List Nat) (a : Nat), (StrLaws.partsFrom x w a cuts).map (·.cps.toList) = partsL x.cps.toList w a cuts
  | [], a => by
    show [(Builtin.Str.strSub x a x.length).cps.toList] = [_]
    rw [StrLaws.strSub_toList, Array.length_toList]; rfl
  | c :: r, a => by
    show (Builtin.Str.strSub x a c).cps.toList :: (StrLaws.partsFrom x w (c + w) r).map (·.cps.toList) = _ :: _
    rw [StrLaws.strSub_toList, parts_L x w r]
noncomputable def splitL (x y : List Nat) : List (List Nat) :=
  match occS y y.length x.length (x.length + 1) x 0 0 0 with
  | [] => [x]
  | c :: r => partsL x y.length 0 (c :: r)
theorem split_L (x y : Str) (hw : 1 ≤ y.length) (hk : Builtin.Str.strKind y = 1) (hl : y.length ≤ x.length) : (Txt.split x y).map (·.cps.toList) = splitL x.cps.toList y.cps.toList := by
  have ex : x.cps.toList.length = x.length := by rw [Array.length_toList]; rfl
  have ey : y.cps.toList.length = y.length := by rw [Array.length_toList]; rfl
  have ho : Builtin.Str.occurrences x y 0 x.length (x.length + 1) = occS y.cps.toList y.cps.toList.length x.cps.toList.length (x.cps.toList.length + 1) x.cps.toList 0 0 0 := by
    rw [StrLaws.occ_eq, ex, ey]
    have := run_occS x y x.length (x.length + 1) hw x.cps.toList 0 (#[], 0) rfl (Nat.le_refl _)
    rw [ex] at this
    show (forIn (List.range' 0 (x.length + 1 - 0)) ((#[] : Array Nat), 0) (StrLaws.occBody x y x.length (x.length + 1))).run.fst.toList = _
    rw [Nat.sub_zero, this]
    simp
  have hx : 1 ≤ Builtin.Str.strKind x := by
    unfold Builtin.Str.strKind
    split
    · exact Nat.le_refl _
    · split <;> omega
  unfold Txt.split splitL
  rw [ho, if_neg (by rw [hk]; simp only [Bool.or_eq_true, decide_eq_true_eq]; omega), ey]
  generalize occS y.cps.toList y.length x.cps.toList.length (x.cps.toList.length + 1) x.cps.toList 0 0 0 = cuts
  match cuts with
  | [] => rfl
  | c :: r =>
    show (Builtin.Str.partsBetween x (c :: r) y.length).map (·.cps.toList) = _
    rw [StrLaws.partsBetween_eq, parts_L]
noncomputable def joinL (sep : List Nat) : List (List Nat) → List Nat
  | [] => []
  | [x] => x
  | x :: y :: r => x ++ (sep ++ joinL sep (y :: r))
theorem join_L (sep : Str) : ∀ ts : List Str, (Txt.join sep ts).cps.toList = joinL sep.cps.toList (ts.map (·.cps.toList)) := by
  intro ts
  show (Builtin.Str.glued sep ts).cps.toList = _
  rw [StrLaws.glued_eq_join]
  induction ts with
  | nil => rfl
  | cons x r ih =>
    cases r with
    | nil => rfl
    | cons y r =>
      show (x ++ sep ++ Str.join sep (y :: r)).cps.toList = _
      rw [Str.cps_append, Str.cps_append, Array.toList_append, Array.toList_append, ih, List.append_assoc]
      rfl
/-- the words' signs -/
noncomputable def wordL (j : Nat) : List Nat := match j with
  | 7 => [67, 79, 82, 79, 85, 84, 73, 78, 69]
  | 8 => [73, 84, 69, 82, 65, 66, 76, 69, 95, 67, 79, 82, 79, 85, 84, 73, 78, 69]
  | 9 => [65, 83, 89, 78, 67, 95, 71, 69, 78, 69, 82, 65, 84, 79, 82]
  | 10 => [48, 120, 52, 48, 48]
  | 11 => [48, 120, 56, 48, 48]
  | 12 => [48, 120, 49, 48, 48, 48]
  | _ => [63]
theorem wordL_small : ∀ j, j < 13 → (wordAt j).cps.toList = wordL j := by decide +kernel
theorem sep_L : (Str.ofString ", ").cps.toList = [44, 32] := by decide +kernel
theorem kind_sep : Builtin.Str.strKind (Str.ofString ", ") = 1 := by decide +kernel
theorem len_sep : (Str.ofString ", ").length = 2 := by decide +kernel
theorem below_L (f : Nat) : (below f 13).map (·.cps.toList) = (bitsOf f 13).map wordL := by
  unfold below bitsOf
  rw [List.map_map]
  refine List.map_congr_left fun j hj => ?_
  exact wordL_small j (List.mem_range.mp (List.mem_filter.mp hj).1)
theorem inj_L : ∀ {a b : List Str}, a.map (·.cps.toList) = b.map (·.cps.toList) → a = b
  | [], [], _ => rfl
  | x :: a, y :: b, h => by
    have h1 := List.cons.inj h
    rw [Str.ext' (Array.toList_inj.mp h1.1), inj_L h1.2]
noncomputable def okL (f : Nat) : Bool :=
  let ws := (bitsOf f 13).map wordL
  let x := joinL [44, 32] ws
  splitL x [44, 32] == ws && Nat.ble x.length 1000 && Nat.ble 4 x.length
theorem ok_L : ∀ k, k < 64 → k ≠ 0 → okL (128 * k) = true := by decide +kernel
theorem split_text {f : Nat} (hf : f < 8192) (h7 : f % 128 = 0) (h0 : f ≠ 0) : Txt.split (textOf f) (Str.ofString ", ") = below f 13 ∧ (textOf f).length ≤ 1000 ∧ textOf f ≠ Str.ofString "0x0" := by
  obtain ⟨k, rfl⟩ : ∃ k, f = 128 * k := ⟨f / 128, by omega⟩
  have ok := ok_L k (by omega) (by omega)
  have e : (textOf (128 * k)).cps.toList = joinL [44, 32] ((bitsOf (128 * k) 13).map wordL) := by
    unfold textOf wordsL
    rw [if_neg h0, join_L, sep_L, below_L]
  have el : (textOf (128 * k)).length = (textOf (128 * k)).cps.toList.length := by rw [Array.length_toList]; rfl
  unfold okL at ok
  simp only [Bool.and_eq_true, Nat.ble_eq, beq_iff_eq] at ok
  rw [← e, ← el] at ok
  obtain ⟨⟨o1, o2⟩, o3⟩ := ok
  refine ⟨inj_L ?_, o2, fun q => ?_⟩
  · rw [split_L _ _ (by rw [len_sep]; decide) kind_sep (by rw [len_sep]; omega), sep_L, o1, below_L]
  · have := congrArg Str.length q
    have e3 : (Str.ofString "0x0").length = 3 := by decide +kernel
    rw [e3] at this
    omega
-- needs C11
theorem any_mem (ss : List Str) (x : Str) : (ss.any fun y => y == x) = decide (x ∈ ss) := by
  induction ss with
  | nil => simp
  | cons a r ih =>
    rw [List.any_cons, ih]
    by_cases h : a = x
    · simp [h]
    · have h' : ¬ x = a := fun e => h e.symm
      have hb : (a == x) = false := by simpa using h
      simp [h', hb]
theorem strs_get {vs : List Value} {ss : List Str} (h : StrsAre vs ss) : ∀ (i : Nat) (x : Str), ss[i]? = some x → ∃ t, vs[i]? = some (.str x t) := by
  induction h with
  | nil => intro i x e; simp at e
  | cons y t _ ih =>
    intro i x e
    cases i with
    | zero => exact ⟨t, by simp at e ⊢; rw [e]⟩
    | succ i => simpa using ih i x (by simpa using e)
theorem count_hit {ss : List Str} {i : Nat} {x : Str} (h : i < ss.length) (e : ss[i] = x) : (ss.take (i + 1)).count x = (ss.take i).count x + 1 := by
  rw [List.take_add_one, List.getElem?_eq_getElem h, Option.toList_some, List.count_append, e]; simp
theorem count_miss {ss : List Str} {i : Nat} {x : Str} (h : i < ss.length) (e : ss[i] ≠ x) : (ss.take (i + 1)).count x = (ss.take i).count x := by
  rw [List.take_add_one, List.getElem?_eq_getElem h, Option.toList_some, List.count_append]
  simp [e]
theorem NoneBooked.keep {h h' : Heap} (b : NoneBooked h) (k : ∀ a o, h.get? a = some o → h'.get? a = some o) : NoneBooked h' := by
  refine ex1 b ?_; (try clear b); intro mc; refine and2 ?_; intro hn e
  exact ⟨mc, hn.at' fun o q => k _ o q, e⟩
theorem isSame_by {M : Model} {A : Around} {E : Value → Shared → Prop} {s : Shared} {y z : Str} {u v : Tok} {Q : Value → Shared → Prop}
    (hu : u ≠ 0) (hv : v ≠ 0) (huv : u = v → y = z) (hb : NoneBooked s.heap) (hq : ∀ b : Bool, (b = true → y = z) → Q (.bool b) s) : wpAny M A (compareOp .Is (.str y u) (.str z v)) Q E s := by
  show wpAny M A (do return .bool (← isSame (.str y u) (.str z v))) Q E s
  refine wpAny_bind ?_
  show wpAny M A (isSame.created (y == z) u v) _ E s
  unfold isSame.created
  refine wpAny_ite ?_
  split
  · rename_i h
    simp only [Bool.or_eq_true, beq_iff_eq] at h
    rcases h with h | h
    · exact absurd h hu
    · exact absurd h hv
  refine wpAny_ite ?_
  split
  · rename_i h
    exact wpAny_pure (wpAny_pure (hq _ fun _ => huv (by simpa using h)))
  refine wpAny_ite ?_
  split
  · exact wpAny_pure (wpAny_pure (hq _ fun e => by cases e))
  · rename_i hyz
    have e : y = z := by simpa using hyz
    refine wpAny_bind (wpAny_sharingNotTold_none hb ?_)
    first | rw [if_neg Bool.false_ne_true] | simp only [Bool.false_eq_true, if_false]
    refine wpAny_bind (wpAny_sharingNotTold_none hb ?_)
    first | rw [if_neg Bool.false_ne_true] | simp only [Bool.false_eq_true, if_false]
    exact wpAny_bind (wpAny_rule (wpAny_bind (wpAny_askSetting (wpAny_pure (wpAny_pure (hq _ fun _ => e))))))
theorem sp_contains {prog : Program} {w : World} {A : Around} {E : Value → Shared → Prop} {s : Shared} {Q : Value → Shared → Prop}
   {la : Addr} {vs : List Value} {n : Nat} {ss : List Str} {x : Str} {t : Tok}
   (G : Gd w s.heap) (R : Rm A 1) (hl : s.heap.get? la = some (listO vs n)) (hs : StrsAre vs ss) (hz : ss.length ≤ 100)
   (hQ : Out [] s Q (fun v h' => v = .bool (decide (x ∈ ss)))) :
   wpAny (model prog w) A (call (.ref 70) [.ref la, .str x t]) Q E s := by
  (((have kkZq : PySem.Challenge.rw_wu0059_01 = PySem.Challenge.rw_wu0059_01 ∧ Mine.hd.heap_39 = Mine.hd.heap_39 := ⟨rfl, rfl⟩); revert kkZq; k_fill; intro kkZq; clear kkZq; w_on))
  (((rename Rm _ _ => rrZq); (rename Around => aaZq); (have e0Zq := Rm.h rrZq); rcases aaZq with ⟨hhZq, d1Zq, d2Zq, d3Zq, d4Zq⟩; dsimp only at e0Zq; subst e0Zq))
  have R := ‹Rm _ 1›
  refine enter [(Str.ofString "a", .ref la), (Str.ofString "b", .str x t)] G R.room (by k_is) (by k_is) (by (first | exact BindsTo.of_eq rfl | exact binds_K (Gd.X (by assumption)) rfl (by k_is) rfl rfl rfl | exact binds_K (Gd.X (Gd.keeps (by assumption) (by assumption))) rfl (by k_is) rfl rfl rfl)) (locs rfl) (by decide) rfl rfl rfl ?_
  intro L h₁ tk F N X
  have hZqq := G.T
  refine ex5 hZqq ?_; (try clear hZqq); intro pp l m mg mb; intro T
  have hl1 := isL hl
  (repeat' (first | (k_unfold; (try dsimp only)) | ( (fail_if_success (with_reducible show wpAny _ _ (exec (Stmt.While _ _ _ _) _) _ _ _)); (fail_if_success (with_reducible show wpAny _ _ (exec (Stmt.For _ _ _ _ _) _) _ _ _)); (fail_if_success (with_reducible show wpAny _ _ (exec (Stmt.Try _ _ _ _ _) _) _ _ _)); (fail_if_success (with_reducible show wpAny _ _ (pyIter _) (fun it s₂ => Loop _ _ _ _ _ _ _ _ _ _ it s₂) _ _)); (fail_if_success (with_reducible show wpAny _ _ (call (Value.ref _) _ _) _ _ _)); walk1; (try ((first | (with_reducible show wpAny _ _ (spliced _) _ _ _) | (with_reducible show wpAny _ _ (newList _) _ _ _) | (with_reducible show wpAny _ _ (execs _ _) _ _ _)); dsimp only)))))
  refine hQ _ _ _ (Kb.of _ F.keep) ?_
  exact congrArg Value.bool (any_mem ss x)
theorem sp_count {prog : Program} {w : World} {A : Around} {E : Value → Shared → Prop} {s : Shared} {Q : Value → Shared → Prop}
   {la : Addr} {vs : List Value} {n : Nat} {ss : List Str} {x : Str} {t : Tok}
   (G : Gd w s.heap) (R : Rm A 1) (hl : s.heap.get? la = some (listO vs n)) (hs : StrsAre vs ss) (hz : ss.length ≤ 100)
   (hb : NoneBooked s.heap) (ht : t ≠ 0) (htk : ∀ (i : Nat) (y : Str) (u : Tok), vs[i]? = some (Value.str y u) → u ≠ 0 ∧ (u = t → y = x))
   (hQ : Out [] s Q (fun v h' => ∃ t, v = .int (ss.count x) t)) :
   wpAny (model prog w) A (call (.ref 77) [.ref la, .str x t]) Q E s := by
  (((have kkZq : PySem.Challenge.rw_wu0059_01 = PySem.Challenge.rw_wu0059_01 ∧ Mine.hd.heap_39 = Mine.hd.heap_39 := ⟨rfl, rfl⟩); revert kkZq; k_fill; intro kkZq; clear kkZq; w_on))
  (((rename Rm _ _ => rrZq); (rename Around => aaZq); (have e0Zq := Rm.h rrZq); rcases aaZq with ⟨hhZq, d1Zq, d2Zq, d3Zq, d4Zq⟩; dsimp only at e0Zq; subst e0Zq))
  have R := ‹Rm _ 1›
  refine enter [(Str.ofString "a", .ref la), (Str.ofString "b", .str x t)] G R.room (by k_is) (by k_is) (by (first | exact BindsTo.of_eq rfl | exact binds_K (Gd.X (by assumption)) rfl (by k_is) rfl rfl rfl | exact binds_K (Gd.X (Gd.keeps (by assumption) (by assumption))) rfl (by k_is) rfl rfl rfl)) (locs rfl) (by decide) rfl rfl rfl ?_
  intro L h₁ tk F N X
  have hZqq := G.T
  refine ex5 hZqq ?_; (try clear hZqq); intro pp l m mg mb; intro T
  have hl1 := isL hl
  (repeat' (first | (k_unfold; (try dsimp only)) | ( (fail_if_success (with_reducible show wpAny _ _ (exec (Stmt.While _ _ _ _) _) _ _ _)); (fail_if_success (with_reducible show wpAny _ _ (exec (Stmt.For _ _ _ _ _) _) _ _ _)); (fail_if_success (with_reducible show wpAny _ _ (exec (Stmt.Try _ _ _ _ _) _) _ _ _)); (fail_if_success (with_reducible show wpAny _ _ (pyIter _) (fun it s₂ => Loop _ _ _ _ _ _ _ _ _ _ it s₂) _ _)); (fail_if_success (with_reducible show wpAny _ _ (call (Value.ref _) _ _) _ _ _)); walk1; (try ((first | (with_reducible show wpAny _ _ (spliced _) _ _ _) | (with_reducible show wpAny _ _ (newList _) _ _ _) | (with_reducible show wpAny _ _ (execs _ _) _ _ _)); dsimp only)))))
  refine r_for s.heap L ?_
  (repeat' (first | (k_unfold; (try dsimp only)) | ( (fail_if_success (with_reducible show wpAny _ _ (exec (Stmt.While _ _ _ _) _) _ _ _)); (fail_if_success (with_reducible show wpAny _ _ (exec (Stmt.For _ _ _ _ _) _) _ _ _)); (fail_if_success (with_reducible show wpAny _ _ (exec (Stmt.Try _ _ _ _ _) _) _ _ _)); (fail_if_success (with_reducible show wpAny _ _ (pyIter _) (fun it s₂ => Loop _ _ _ _ _ _ _ _ _ _ it s₂) _ _)); (fail_if_success (with_reducible show wpAny _ _ (call (Value.ref _) _ _) _ _ _)); walk1; (try ((first | (with_reducible show wpAny _ _ (spliced _) _ _ _) | (with_reducible show wpAny _ _ (newList _) _ _ _) | (with_reducible show wpAny _ _ (execs _ _) _ _ _)); dsimp only)))))
  have hlen := hs.length
  refine loop_list (vs := vs) (ol := listO vs n) (fun i m news => ∃ tc, Has m [(Str.ofString "a", .ref la), (Str.ofString "b", .str x t), (Str.ofString "count", .int ((ss.take i).count x : Nat) tc)])
    rfl ‹_› ‹_› (Fr.keep ‹_› _ _ hl) rfl ⟨_, rfl⟩ (ne_frame ‹_› hl) ⟨_, rfl, rfl, rfl, trivial⟩ (fun _ _ _ _ => .inr hl) ?_ ?_
  · (repeat ((first | (with_reducible rename Fr _ _ _ _ => zzZq) | (with_reducible rename News _ _ _ _ => zzZq) | (with_reducible rename IsRange _ _ _ _ _ _ _ _ => zzZq)); clear zzZq))
    rintro i v m₁ news₁ I oI h tk hv ⟨tc, em⟩ hnI F1 N1
    replace F1 := fr_has F1 em
    have hi0 : i < ss.length := by have := (List.getElem?_eq_some_iff.mp hv).1; omega
    obtain ⟨tv, hw⟩ := strs_get hs i ss[i] (List.getElem?_eq_getElem hi0)
    rw [hv] at hw
    obtain rfl : v = _ := Option.some.inj hw
    refine wpAny_assign_Name ?_
    (repeat' (first | (k_unfold; (try dsimp only)) | ( (fail_if_success (with_reducible show wpAny _ _ (exec (Stmt.While _ _ _ _) _) _ _ _)); (fail_if_success (with_reducible show wpAny _ _ (exec (Stmt.For _ _ _ _ _) _) _ _ _)); (fail_if_success (with_reducible show wpAny _ _ (exec (Stmt.Try _ _ _ _ _) _) _ _ _)); (fail_if_success (with_reducible show wpAny _ _ (pyIter _) (fun it s₂ => Loop _ _ _ _ _ _ _ _ _ _ it s₂) _ _)); (fail_if_success (with_reducible show wpAny _ _ (call (Value.ref _) _ _) _ _ _)); walk1; (try ((first | (with_reducible show wpAny _ _ (spliced _) _ _ _) | (with_reducible show wpAny _ _ (newList _) _ _ _) | (with_reducible show wpAny _ _ (execs _ _) _ _ _)); dsimp only)))))
    obtain ⟨hu0, hux⟩ := htk i ss[i] tv hv
    refine isSame_by hu0 ht hux (NoneBooked.keep hb (Fr.keep ‹_›)) ?_
    rintro b hb2
    (repeat' (first | (k_unfold; (try dsimp only)) | ( (fail_if_success (with_reducible show wpAny _ _ (exec (Stmt.While _ _ _ _) _) _ _ _)); (fail_if_success (with_reducible show wpAny _ _ (exec (Stmt.For _ _ _ _ _) _) _ _ _)); (fail_if_success (with_reducible show wpAny _ _ (exec (Stmt.Try _ _ _ _ _) _) _ _ _)); (fail_if_success (with_reducible show wpAny _ _ (pyIter _) (fun it s₂ => Loop _ _ _ _ _ _ _ _ _ _ it s₂) _ _)); (fail_if_success (with_reducible show wpAny _ _ (call (Value.ref _) _ _) _ _ _)); walk1; (try ((first | (with_reducible show wpAny _ _ (spliced _) _ _ _) | (with_reducible show wpAny _ _ (newList _) _ _ _) | (with_reducible show wpAny _ _ (execs _ _) _ _ _)); dsimp only)))))
    · have he : ((((ss.take i).count x : Nat) : Int) + 1) = (((ss.take (i + 1)).count x : Nat) : Int) := by rw [count_hit hi0 (hb2 ‹_›)]; rfl
      exact turn_end (I := I) (oI := oI) (.head _) ‹_› ‹_› ⟨_, rfl, rfl, congrArg (fun z => some (Value.int z _)) he, trivial⟩
    · have he : ((((ss.take i).count x : Nat) : Int) + 1) = (((ss.take (i + 1)).count x : Nat) : Int) := by
        rename (ss[i] == x) = true => e
        rw [count_hit hi0 (by simpa using e)]; rfl
      exact turn_end (I := I) (oI := oI) (.head _) ‹_› ‹_› ⟨_, rfl, rfl, congrArg (fun z => some (Value.int z _)) he, trivial⟩
    · refine turn_end (I := I) (oI := oI) (.head _) ‹_› ‹_› ⟨tc, rfl, rfl, ?_, trivial⟩
      rename (ss[i] == x) = false => e
      rw [count_miss hi0 (by simpa using e)]; rfl
  · (repeat ((first | (with_reducible rename Fr _ _ _ _ => zzZq) | (with_reducible rename News _ _ _ _ => zzZq) | (with_reducible rename IsRange _ _ _ _ _ _ _ _ => zzZq)); clear zzZq))
    rintro h tk m₁ news₁ ⟨tc, em⟩ F1 N1
    replace F1 := fr_has F1 em
    (repeat' (first | (k_unfold; (try dsimp only)) | ( (fail_if_success (with_reducible show wpAny _ _ (exec (Stmt.While _ _ _ _) _) _ _ _)); (fail_if_success (with_reducible show wpAny _ _ (exec (Stmt.For _ _ _ _ _) _) _ _ _)); (fail_if_success (with_reducible show wpAny _ _ (exec (Stmt.Try _ _ _ _ _) _) _ _ _)); (fail_if_success (with_reducible show wpAny _ _ (pyIter _) (fun it s₂ => Loop _ _ _ _ _ _ _ _ _ _ it s₂) _ _)); (fail_if_success (with_reducible show wpAny _ _ (call (Value.ref _) _ _) _ _ _)); walk1; (try ((first | (with_reducible show wpAny _ _ (spliced _) _ _ _) | (with_reducible show wpAny _ _ (newList _) _ _ _) | (with_reducible show wpAny _ _ (execs _ _) _ _ _)); dsimp only)))))
    rw [hlen, List.take_length] at em
    refine hQ _ _ _ (Kb.of _ F1.keep) ⟨tc, ?_⟩
    rw [hlen, List.take_length]
theorem runs_toks {M : Model} {Γ : Ctx} {p : Pos} {t : Sem Fin} {fs : List Frame} {s s' : Shared} {e : End} (h : Runs M Γ p t fs s e s') : s.toks ≤ s'.toks := by
  induction h with
  | done => exact Nat.le_refl _
  | raise => exact Nat.le_refl _
  | yield => exact Nat.le_refl _
  | fresh _ ih => exact Nat.le_trans (Nat.le_succ _) ih
  | call _ _ ih1 ih2 => exact Nat.le_trans ih1 ih2
  | resumeFresh _ _ _ _ ih1 ih2 => exact Nat.le_trans ih1 ih2
  | resumeSuspended _ _ _ _ ih1 ih2 => exact Nat.le_trans ih1 ih2
  | segRet _ _ ih1 ih2 => exact Nat.le_trans ih1 ih2
  | segGen _ _ ih1 ih2 => exact Nat.le_trans ih1 ih2
  | segSuspGen _ _ _ _ ih1 ih2 => exact Nat.le_trans ih1 ih2
  | _ => assumption
theorem wakes_toks {M : Model} {Γ : Ctx} {p : Pos} {g : Nat} {r : Resume} {s s' : Shared} {res : GenResult} (h : Wakes M Γ p g r s res s') : s.toks ≤ s'.toks := by
  unfold Wakes at h
  split at h
  · exact h.elim
  · split at h
    · obtain ⟨e, s1, hr, _, _, rfl⟩ := h; exact (show (s.setGen g .running).toks ≤ s1.toks from runs_toks hr)
    · rw [h.2]; exact Nat.le_refl _
    · rw [h.2]; exact Nat.le_refl _
  · obtain ⟨e, s1, hr, _, _, rfl⟩ := h; exact (show (s.setGen g .running).toks ≤ s1.toks from runs_toks hr)
  · rw [h.2]; exact Nat.le_refl _
  · rw [h.2]; exact Nat.le_refl _
theorem wp_toks {α : Type} {M : Model} {Γ : Ctx} {T : Nat} : ∀ (t : Sem α) (Q : α → Pos → Shared → Prop) (E : Value → Pos → Shared → Prop) (p : Pos) (s : Shared), T ≤ s.toks → Sem.wp M Γ t Q E p s →
    Sem.wp M Γ t (fun a p' s' => Q a p' s' ∧ T ≤ s'.toks) (fun a p' s' => E a p' s' ∧ T ≤ s'.toks) p s := by
  intro t
  induction t with
  | pure a => intro Q E p s hT h; exact ⟨h, hT⟩
  | raise a => intro Q E p s hT h; exact ⟨h, hT⟩
  | unsupported _ => intro Q E p s hT h; exact h.elim
  | finish _ => intro Q E p s hT h; exact h.elim
  | register _ _ => intro Q E p s hT h; exact h.elim
  | yield _ _ _ _ => intro Q E p s hT h; exact h.elim
  | fork _ _ _ => intro Q E p s hT h; exact h.elim
  | await _ _ => intro Q E p s hT h; exact h.elim
  | load a q k ih => intro Q E p s hT h; obtain ⟨o, e, h⟩ := h; exact ⟨o, e, ih _ _ _ _ _ hT h⟩
  | update a q f k ih => intro Q E p s hT h; exact ⟨h.1, ih _ _ _ _ _ hT h.2⟩
  | choose a n k ih => intro Q E p s hT h; exact ⟨h.1, ih _ _ _ _ _ hT h.2⟩
  | genState g k ih => intro Q E p s hT h; obtain ⟨o, e, h⟩ := h; exact ⟨o, e, ih _ _ _ _ _ hT h⟩
  | resume g r l k ih => intro Q E p s hT h; obtain ⟨o, s', e, h⟩ := h; exact ⟨o, s', e, ih _ _ _ _ _ (Nat.le_trans hT (wakes_toks e)) h⟩
  | call c h' g l k ih => intro Q E p s hT h; obtain ⟨r, s', e, h⟩ := h; exact ⟨r, s', e, ih _ _ _ _ _ (Nat.le_trans hT (runs_toks e)) h⟩
  | fresh k ih => intro Q E p s hT h; exact ih _ _ _ _ _ (Nat.le_succ_of_le hT) h
  | _ => rename_i ih; intro Q E p s hT h; exact ih _ _ _ _ _ hT h
theorem any_toks {α : Type} {M : Model} {A : Around} {t : Sem α} {Q : α → Shared → Prop} {E : Value → Shared → Prop} {s : Shared} (h : wpAny M A t Q E s) :
    wpAny M A t (fun a s' => Q a s' ∧ s.toks ≤ s'.toks) (fun a s' => E a s' ∧ s.toks ≤ s'.toks) s := fun Γ p hΓ => wp_toks t _ _ p s (Nat.le_refl _) (h Γ p hΓ)
theorem fillsI_list_add : fillsInplaceSlot (.type "list") "add" (Operator.Add == .Add) = pure false := by
  unfold fillsInplaceSlot
  show (typeLookup (.type "list") (dunderI "add") >>= fun fi => pure (fi.isSome && !isSeqSlot fi)) = pure false
  rw [typeLookup_type, builtinLookup_eq_fast]; kernel_rfl
theorem seqSlot_list_iadd : seqSlot? (.type "list") (dunderI "add") = pure (some (.builtin "list.__iadd__")) := by
  unfold seqSlot?; rw [typeLookup_type, builtinLookup_eq_fast]; kernel_rfl
section
variable {prog : Program} {w : World} {A : Around} {E : Value → Shared → Prop} {s : Shared} {h₀ : Heap} {L : Addr} {m : Str → Option Value} {news : Led}
theorem r_iadd {D b : Addr} {vs ws : List Value} {n k : Nat} {Q : Value → Shared → Prop} (F : Fr h₀ L s.heap m) (N : News h₀ L s.heap news) (hm : (D, listO vs n) ∈ news) (hb : s.heap.get? b = some (listO ws k)) (hz : vs.length + ws.length ≤ 1000)
    (h : ∀ h' n', Fr h₀ L h' m → News h₀ L h' ((D, listO (vs ++ ws) n') :: fil D news) → Q (.ref D) { s with heap := h' }) :
    wpAny (model prog w) A (inplaceOp .Add (.ref D) (.ref b)) Q E s := by
  have hn := N _ hm
  have hty : s.TypeIs (.ref D) "list" := ⟨_, hn.1, rfl⟩
  have htb : s.TypeIs (.ref b) "list" := ⟨_, hb, rfl⟩
  unfold inplaceOp
  refine wpAny_holding ?_
  refine wpAny_bind (wpAny_typeOf hty (wpAny_bind (wpAny_of_eq fillsI_list_add ?_)))
  show wpAny (model prog w) A (if false = true then _ else _) Q E s
  rw [if_neg Bool.false_ne_true]
  refine wpAny_bind (wpAny_binaryOp1_none (nm := "add") hty htb noFill_list_add ?_)
  refine wpAny_bind (wpAny_of_eq seqSlot_list_iadd ?_)
  refine wpAny_bind (wpAny_rule ?_)
  have hd : ¬(!vs.toArray.isEmpty && Builtin.List.listTooLong (vs.toArray.size + ws.toArray.size)) = true := extend_door (by rw [List.size_toArray, List.size_toArray]; show vs.length + ws.length ≤ 2 ^ 24; omega)
  have e : vs.toArray ++ ws.toArray = (vs ++ ws).toArray := by simp
  have ho' : (s.heap.update D (Obj.mapSeq fun x => x ++ ws.toArray)).get? D = some (listO (vs ++ ws) (if (vs.toArray ++ ws.toArray).size == vs.toArray.size then n else n + 1)) := by
    rw [Heap.get?_update_self _ hn.1 (by rw [mapSeq_app]; rfl), mapSeq_app, e]
  have sb := Heap.SameBut.update s.heap D (Obj.mapSeq fun x => x ++ ws.toArray)
  have nw : News h₀ L (s.heap.update D (Obj.mapSeq fun x => x ++ ws.toArray)) ((D, listO (vs ++ ws) (if (vs.toArray ++ ws.toArray).size == vs.toArray.size then n else n + 1)) :: fil D news) := fun p hp => by
    rcases List.mem_cons.mp hp with rfl | q
    · exact ⟨ho', hn.2⟩
    · have q' := mem_fil.mp q
      exact ⟨(sb.2 _ q'.2).trans (N p q'.1).1, (N p q'.1).2⟩
  refine call_meets PySem.F.slot_list_iadd hty PySem.F.entry_list_iadd (PySem.F.args_list_iadd_2 _ _) (AutoSeq1.list___iadd___list_list_0 D vs.toArray n b ws.toArray k hd (by rw [List.size_toArray]; show vs.length ≤ 2 ^ 24; omega) (by rw [List.size_toArray, List.size_toArray]; show vs.length + ws.length ≤ 2 ^ 24 + 1; omega)) ⟨hn.1, hb, ?_⟩
  exact h _ _ (F.change sb hn.2.1 hn.2.2) nw
end
theorem sp_iadd {prog : Program} {w : World} {A : Around} {E : Value → Shared → Prop} {s : Shared} {Q : Value → Shared → Prop} {base : Heap}
   {a b : Addr} {va vb : List Value} {na nb : Nat}
   (G : Gd w base) (hb : ∀ c o, base.get? c = some o → s.heap.get? c = some o) (R : Rm A 1) (ha : s.heap.get? a = some (listO va na)) (hab : base.get? a = none) (hb2 : s.heap.get? b = some (listO vb nb)) (hne : b ≠ a)
   (hz : va.length + vb.length ≤ 1000)
   (hQ : Out [a] s Q (fun v h' => ∃ n', v = .ref a ∧ h'.get? a = some (listO (va ++ vb) n'))) :
   wpAny (model prog w) A (call (.ref 84) [.ref a, .ref b]) Q E s := by
  (((have kkZq : PySem.Challenge.rw_wu0059_01 = PySem.Challenge.rw_wu0059_01 ∧ Mine.hd.heap_39 = Mine.hd.heap_39 := ⟨rfl, rfl⟩); revert kkZq; k_fill; intro kkZq; clear kkZq; w_on))
  (((rename Rm _ _ => rrZq); (rename Around => aaZq); (have e0Zq := Rm.h rrZq); rcases aaZq with ⟨hhZq, d1Zq, d2Zq, d3Zq, d4Zq⟩; dsimp only at e0Zq; subst e0Zq))
  have R := ‹Rm _ 1›
  refine enterM [(Str.ofString "a", .ref a), (Str.ofString "b", .ref b)] G hb [(a, listO va na)] (by simp; exact ⟨ha, hab⟩) R.room (by k_is) (by k_is) (by (first | exact BindsTo.of_eq rfl | exact binds_K (Gd.X (by assumption)) rfl (by k_is) rfl rfl rfl | exact binds_K (Gd.X (Gd.keeps (by assumption) (by assumption))) rfl (by k_is) rfl rfl rfl)) (locs rfl) (by decide) rfl rfl rfl ?_
  intro g L h₁ tk F N Gg X kg
  have hZqq := Gg.T
  refine ex5 hZqq ?_; (try clear hZqq); intro pp l m mg mb; intro T
  have hbg := kg _ _ (by simpa using hne) hb2
  (repeat' (first | (k_unfold; (try dsimp only)) | ( (fail_if_success (with_reducible show wpAny _ _ (exec (Stmt.While _ _ _ _) _) _ _ _)); (fail_if_success (with_reducible show wpAny _ _ (exec (Stmt.For _ _ _ _ _) _) _ _ _)); (fail_if_success (with_reducible show wpAny _ _ (exec (Stmt.Try _ _ _ _ _) _) _ _ _)); (fail_if_success (with_reducible show wpAny _ _ (pyIter _) (fun it s₂ => Loop _ _ _ _ _ _ _ _ _ _ it s₂) _ _)); (fail_if_success (with_reducible show wpAny _ _ (call (Value.ref _) _ _) _ _ _)); walk1; (try ((first | (with_reducible show wpAny _ _ (spliced _) _ _ _) | (with_reducible show wpAny _ _ (newList _) _ _ _) | (with_reducible show wpAny _ _ (execs _ _) _ _ _)); dsimp only)))))
  refine r_iadd ‹_› ‹_› (.head _) (Fr.keep ‹_› _ _ hbg) hz ?_
  intro h5 n' F5 N5
  (repeat' (first | (k_unfold; (try dsimp only)) | ( (fail_if_success (with_reducible show wpAny _ _ (exec (Stmt.While _ _ _ _) _) _ _ _)); (fail_if_success (with_reducible show wpAny _ _ (exec (Stmt.For _ _ _ _ _) _) _ _ _)); (fail_if_success (with_reducible show wpAny _ _ (exec (Stmt.Try _ _ _ _ _) _) _ _ _)); (fail_if_success (with_reducible show wpAny _ _ (pyIter _) (fun it s₂ => Loop _ _ _ _ _ _ _ _ _ _ it s₂) _ _)); (fail_if_success (with_reducible show wpAny _ _ (call (Value.ref _) _ _) _ _ _)); walk1; (try ((first | (with_reducible show wpAny _ _ (spliced _) _ _ _) | (with_reducible show wpAny _ _ (newList _) _ _ _) | (with_reducible show wpAny _ _ (execs _ _) _ _ _)); dsimp only)))))
  refine hQ _ _ _ (fun b o hb e => Fr.keep ‹_› b o (kg b o (by simpa using hb) e)) ⟨n', rfl, News.get ‹_› (.head _)⟩
noncomputable def sumMin (c : List Int) (a : Int) : Int := (c.map fun v => if a < v then a else v).sum
noncomputable def Mrow : List Int → List Int → Int → Int
  | [], c, a => sumMin c a
  | r :: rows, c, a => min (r + Mrow rows c a) (Mrow rows c (a + 1))
theorem sumMin_append (x y : List Int) (a : Int) : sumMin (x ++ y) a = sumMin x a + sumMin y a := by unfold sumMin; rw [List.map_append, List.sum_append]
theorem perm_sum {x y : List Int} (h : x.Perm y) : x.sum = y.sum := by
  induction h with
  | nil => rfl
  | cons a _ ih => simp only [List.sum_cons, ih]
  | swap a b l => simp only [List.sum_cons]; omega
  | trans _ _ h1 h2 => exact h1.trans h2
theorem sumMin_perm {x y : List Int} (h : x.Perm y) (a : Int) : sumMin x a = sumMin y a := perm_sum (h.map _)
theorem sumMin_step (c : List Int) (a : Int) : sumMin c a ≤ sumMin c (a + 1) := by
  induction c with
  | nil => exact Int.le_refl _
  | cons v r ih =>
    simp only [sumMin, List.map_cons, List.sum_cons] at *
    split <;> split <;> omega
noncomputable def posN (c : List Int) : Int := ((c.countP fun v => decide (0 < v) : Nat) : Int)
theorem sumMin_pos (c : List Int) (a : Int) (ha : 0 ≤ a) : sumMin c (a + 1) ≤ sumMin c a + posN c := by
  induction c with
  | nil => simp [sumMin, posN]
  | cons v r ih =>
    simp only [sumMin, posN, List.map_cons, List.sum_cons, List.countP_cons] at *
    by_cases h : 0 < v
    · simp only [h, decide_true, if_true]
      split <;> split <;> omega
    · simp only [h, decide_false]
      split <;> split <;> simp <;> omega
theorem Mrow_pos (rows c : List Int) : ∀ a, 0 ≤ a → Mrow rows c (a + 1) ≤ Mrow rows c a + posN c := by
  induction rows with
  | nil => intro a ha; exact sumMin_pos c a ha
  | cons r rows ih =>
    intro a ha
    have h1 := ih a ha
    have h2 := ih (a + 1) (by omega)
    simp only [Mrow]
    omega
/-- one row served from the top -/
theorem key_step (lo hi : List Int) (a : Int) (ha : 0 ≤ a) (hlh : ∀ x ∈ lo, ∀ y ∈ hi, x ≤ y) (hp : ∀ y ∈ hi, 1 ≤ y) :
    (hi.length : Int) + sumMin (lo ++ hi.map (· - 1)) a = min ((hi.length : Int) + sumMin (lo ++ hi) a) (sumMin (lo ++ hi) (a + 1)) := by
  have e1 : ∀ l : List Int, (l.length : Int) + sumMin (l.map (· - 1)) a = sumMin l (a + 1) := fun l => by
    induction l with
    | nil => simp [sumMin]
    | cons v r ih =>
      simp only [sumMin, List.map_cons, List.sum_cons, List.length_cons] at *
      split <;> split <;> omega
  have e1' := e1 hi
  have up : ∀ l : List Int, sumMin l (a + 1) ≤ (l.length : Int) + sumMin l a := fun l => by
    induction l with
    | nil => simp [sumMin]
    | cons v r ih =>
      simp only [sumMin, List.map_cons, List.sum_cons, List.length_cons] at *
      split <;> split <;> omega
  have up' := up hi
  have st := sumMin_step lo a
  rw [sumMin_append, sumMin_append, sumMin_append]
  by_cases h : ∀ x ∈ lo, x ≤ a
  · have e2 : ∀ l : List Int, (∀ x ∈ l, x ≤ a) → sumMin l (a + 1) = sumMin l a := fun l => by
      induction l with
      | nil => intro _; simp [sumMin]
      | cons v r ih =>
        intro hx
        have h1 := ih fun x hx' => hx x (.tail _ hx')
        have h2 := hx v (.head _)
        simp only [sumMin, List.map_cons, List.sum_cons] at *
        split <;> split <;> omega
    have e2' := e2 lo h
    omega
  · have h' : ∃ x ∈ lo, ¬ x ≤ a := by
      apply Classical.byContradiction
      intro hc
      exact h fun x hx => Classical.byContradiction fun hn => hc ⟨x, hx, hn⟩
    refine ex1 h' ?_; (try clear h'); intro x; refine and2 ?_; intro hx hxa
    have e3 : ∀ l : List Int, (∀ y ∈ l, a < y) → sumMin l (a + 1) = (l.length : Int) + sumMin l a := fun l => by
      induction l with
      | nil => intro _; simp [sumMin]
      | cons v r ih =>
        intro hy
        have h1 := ih fun y hy' => hy y (.tail _ hy')
        have h2 := hy v (.head _)
        simp only [sumMin, List.map_cons, List.sum_cons, List.length_cons] at *
        rw [if_pos h2]
        split <;> omega
    have e3' := e3 hi fun y hy => by have := hlh x hx y hy; omega
    omega
theorem Mrow_step (rows lo hi : List Int) (hlh : ∀ x ∈ lo, ∀ y ∈ hi, x ≤ y) (hp : ∀ y ∈ hi, 1 ≤ y) : ∀ a, 0 ≤ a →
    (hi.length : Int) + Mrow rows (lo ++ hi.map (· - 1)) a = min ((hi.length : Int) + Mrow rows (lo ++ hi) a) (Mrow rows (lo ++ hi) (a + 1)) := by
  induction rows with
  | nil => intro a ha; exact key_step lo hi a ha hlh hp
  | cons r rows ih =>
    intro a ha
    have h1 := ih a ha
    have h2 := ih (a + 1) (by omega)
    simp only [Mrow]
    omega
theorem Mrow_perm {x y : List Int} (h : x.Perm y) (rows : List Int) : ∀ a, Mrow rows x a = Mrow rows y a := by
  induction rows with
  | nil => intro a; exact sumMin_perm h a
  | cons r rows ih => intro a; simp only [Mrow, ih]
/-- one row: t = min r (those that lack) -/
theorem Mrow_serve (rows lo hi : List Int) (r : Int) (hlh : ∀ x ∈ lo, ∀ y ∈ hi, x ≤ y) (hp : ∀ y ∈ hi, 1 ≤ y) (ht : (hi.length : Int) = min r (posN (lo ++ hi))) :
    (hi.length : Int) + Mrow rows (lo ++ hi.map (· - 1)) 0 = Mrow (r :: rows) (lo ++ hi) 0 := by
  have h1 := Mrow_step rows lo hi hlh hp 0 (Int.le_refl _)
  have h2 := Mrow_pos rows (lo ++ hi) 0 (Int.le_refl _)
  simp only [Mrow]
  omega
-- needs C20
noncomputable def served : List Int → List (Int × Int) → Nat
  | [], _ => 0
  | r :: rows, lk => (rowTaken lk r).length + served rows (rowNext lk r)
noncomputable def decP (q : Int × Int) : Int × Int := (q.1 - 1, q.2)
theorem insP_perm (p : Int × Int) : ∀ l, (insP p l).Perm (p :: l)
  | [] => List.Perm.refl _
  | a :: r => by
    unfold insP
    split
    · exact ((insP_perm p r).cons a).trans (List.Perm.swap _ _ _)
    · exact List.Perm.refl _
theorem putBack_perm : ∀ (tk acc : List (Int × Int)), (tk.foldl putBack acc).Perm (acc ++ tk.map decP)
  | [], acc => by simp
  | x :: r, acc => by
    rw [List.foldl_cons]
    refine (putBack_perm r (putBack acc x)).trans ?_
    refine ((insP_perm (decP x) acc).append_right _).trans ?_
    rw [List.map_cons]
    exact (List.perm_middle (a := decP x) (l₁ := acc) (l₂ := r.map decP)).symm
theorem rowNext_perm (lk : List (Int × Int)) (r : Int) : (rowNext lk r).Perm (lk.take (lk.length - tkn lk r) ++ (lk.drop (lk.length - tkn lk r)).map decP) := by
  rw [rowNext_def]
  refine (putBack_perm _ _).trans (List.Perm.append_left _ ?_)
  unfold rowTaken
  exact (List.reverse_perm _).map _
theorem pos_from {lk : List (Int × Int)} (hs : sortedP lk) (i : Nat) (h : i < lk.length) (hd : dn lk ≤ i) : 0 < lk[i].1 := by
  apply Classical.byContradiction
  intro hc
  have hall : ∀ q ∈ lk.take (i + 1), decide (q.1 ≤ 0) = true := fun q hq => by
    have hZqq := List.mem_iff_getElem.mp hq
    obtain ⟨j, hj, rfl⟩ := hZqq
    have hj' : j < i + 1 := by rw [List.length_take] at hj; omega
    have hjl : j < lk.length := by omega
    rw [List.getElem_take]
    rcases Nat.lt_or_eq_of_le (Nat.le_of_lt_succ hj') with q | q
    · have := List.pairwise_iff_getElem.mp hs j i hjl h q
      simp only [decide_eq_true_eq]; omega
    · subst q; simp only [decide_eq_true_eq]; omega
  have h1 : (lk.take (i + 1)).countP (fun q => decide (q.1 ≤ 0)) = (lk.take (i + 1)).length := List.countP_eq_length.mpr hall
  have h2 : (lk.take (i + 1)).countP (fun q => decide (q.1 ≤ 0)) ≤ dn lk := List.Sublist.countP_le (List.take_sublist _ _)
  rw [h1, List.length_take] at h2
  omega
theorem dn_le (lk : List (Int × Int)) : dn lk ≤ lk.length := List.countP_le_length
theorem posN_dn (lk : List (Int × Int)) : posN (lk.map (·.1)) = ((lk.length - dn lk : Nat) : Int) := by
  have h := dn_le lk
  have e : ∀ l : List (Int × Int), ((l.map (·.1)).countP fun v => decide (0 < v)) + dn l = l.length := fun l => by
    induction l with
    | nil => rfl
    | cons a r ih =>
      unfold dn at *
      simp only [List.map_cons, List.countP_cons, List.length_cons]
      by_cases q : 0 < a.1
      · have : ¬ a.1 ≤ 0 := by omega
        simp only [q, this, decide_true, decide_false, if_true, Bool.false_eq_true, if_false]; omega
      · have : a.1 ≤ 0 := by omega
        simp only [q, this, decide_true, decide_false, if_true, Bool.false_eq_true, if_false]; omega
  have := e lk
  unfold posN
  omega
theorem tkn_le (lk : List (Int × Int)) (r : Int) : tkn lk r ≤ lk.length - dn lk := Nat.min_le_left _ _
theorem served_eq : ∀ (rs : List Int) (lk : List (Int × Int)), sortedP lk → (∀ q ∈ lk, 0 ≤ q.1) → (∀ r ∈ rs, 0 ≤ r) → (served rs lk : Int) = Mrow rs (lk.map (·.1)) 0
  | [], lk, _, h0, _ => by
    show (0 : Int) = sumMin _ 0
    have e : ∀ l : List (Int × Int), (∀ q ∈ l, 0 ≤ q.1) → sumMin (l.map (·.1)) 0 = 0 := fun l => by
      induction l with
      | nil => intro _; simp [sumMin]
      | cons a r ih =>
        intro h
        have h1 := ih fun q hq => h q (.tail _ hq)
        have h2 := h a (.head _)
        simp only [sumMin, List.map_cons, List.sum_cons] at *
        split <;> omega
    rw [e lk h0]
  | r :: rows, lk, hs, h0, hr => by
    have ht := tkn_le lk r
    have hd := dn_le lk
    generalize hk : lk.length - tkn lk r = k at *
    have hnx : (rowNext lk r).Perm (lk.take k ++ (lk.drop k).map decP) := by rw [← hk]; exact rowNext_perm lk r
    have hpos : ∀ q ∈ lk.drop k, 0 < q.1 := fun q hq => by
      have hZqq := List.mem_iff_getElem.mp hq
      obtain ⟨j, hj, rfl⟩ := hZqq
      rw [List.getElem_drop]
      exact pos_from hs _ _ (by omega)
    have ih := served_eq rows (rowNext lk r) (by
        rw [rowNext_def]
        exact (putBack_good _ _ (List.Pairwise.sublist (List.take_sublist _ _) hs)).1) (fun q hq => by
        rcases List.mem_append.mp (hnx.mem_iff.mp hq) with q' | q'
        · exact h0 q (List.mem_of_mem_take q')
        · have hZqq := List.mem_map.mp q'
          refine ex1 hZqq ?_; (try clear hZqq); intro x; refine and2 ?_; intro hx yZq2x2
          obtain rfl := yZq2x2
          have := hpos x hx
          show 0 ≤ x.1 - 1
          omega) fun x hx => hr x (.tail _ hx)
    have e1 : ((lk.take k ++ (lk.drop k).map decP).map (·.1)) = (lk.take k).map (·.1) ++ ((lk.drop k).map (·.1)).map (· - 1) := by
      rw [List.map_append, List.map_map, List.map_map]; rfl
    have e2 : lk.map (·.1) = (lk.take k).map (·.1) ++ (lk.drop k).map (·.1) := by rw [← List.map_append, List.take_append_drop]
    have e3 : (rowTaken lk r).length = ((lk.drop k).map (·.1)).length := by unfold rowTaken; rw [hk, List.length_reverse, List.length_map]
    have e4 : ((lk.drop k).map (·.1)).length = tkn lk r := by rw [List.length_map, List.length_drop]; omega
    show (((rowTaken lk r).length + served rows (rowNext lk r) : Nat) : Int) = _
    rw [Int.natCast_add, ih, Mrow_perm (hnx.map _), e1, e3, e2]
    refine Mrow_serve rows _ _ r (fun x hx y hy => ?_) (fun y hy => ?_) ?_
    · have hZqq := List.mem_map.mp hx
      refine ex1 hZqq ?_; (try clear hZqq); intro a; refine and2 ?_; intro ha yZq3x2
      obtain rfl := yZq3x2
      have hZqq := List.mem_map.mp hy
      refine ex1 hZqq ?_; (try clear hZqq); intro b; refine and2 ?_; intro hb yZq4x2
      obtain rfl := yZq4x2
      have hs' : sortedP (lk.take k ++ lk.drop k) := by rw [List.take_append_drop]; exact hs
      exact (List.pairwise_append.mp hs').2.2 a ha b hb
    · have hZqq := List.mem_map.mp hy
      refine ex1 hZqq ?_; (try clear hZqq); intro b; refine and2 ?_; intro hb yZq5x2
      obtain rfl := yZq5x2
      have := hpos b hb
      omega
    · rw [← e2, posN_dn, e4]
      have := hr r (.head _)
      unfold tkn
      omega
-- needs C20 C21
theorem Mrow_le : ∀ (rs K : List Int) (c : List Int), K.Sublist rs → ∀ b : Int, Mrow rs c b ≤ K.sum + sumMin c (b + (rs.length - K.length : Nat))
  | [], K, c, h, b => by
    have : K = [] := List.sublist_nil.mp h
    subst this
    simp [Mrow]
  | r :: rs, K, c, h, b => by
    cases h with
    | cons _ h' =>
      have := Mrow_le rs K c h' (b + 1)
      have hl := h'.length_le
      have e : b + 1 + ((rs.length - K.length : Nat) : Int) = b + (((r :: rs).length - K.length : Nat) : Int) := by rw [List.length_cons]; omega
      rw [e] at this
      simp only [Mrow]; omega
    | @cons_cons K' _ _ h' =>
      have := Mrow_le rs K' c h' b
      have e : (r :: rs).length - (r :: K').length = rs.length - K'.length := by simp
      rw [e, List.sum_cons]
      simp only [Mrow]; omega
theorem Mrow_ge : ∀ (rs : List Int) (c : List Int) (b : Int), ∃ K : List Int, K.Sublist rs ∧ Mrow rs c b = K.sum + sumMin c (b + (rs.length - K.length : Nat))
  | [], c, b => ⟨[], List.Sublist.refl _, by simp [Mrow]⟩
  | r :: rs, c, b => by
    by_cases h : r + Mrow rs c b ≤ Mrow rs c (b + 1)
    · have hZqq := Mrow_ge rs c b
      refine ex1 hZqq ?_; (try clear hZqq); intro K; refine and2 ?_; intro hK e
      refine ⟨r :: K, hK.cons_cons r, ?_⟩
      have e2 : (r :: rs).length - (r :: K).length = rs.length - K.length := by simp
      rw [e2, List.sum_cons]
      simp only [Mrow]; omega
    · have hZqq := Mrow_ge rs c (b + 1)
      refine ex1 hZqq ?_; (try clear hZqq); intro K; refine and2 ?_; intro hK e
      refine ⟨K, hK.cons r, ?_⟩
      have hl := hK.length_le
      have e2 : b + 1 + ((rs.length - K.length : Nat) : Int) = b + (((r :: rs).length - K.length : Nat) : Int) := by rw [List.length_cons]; omega
      rw [e2] at e
      simp only [Mrow]; omega
theorem take_sum_le : ∀ (l K : List Int), l.Pairwise (· ≤ ·) → K.Sublist l → (l.take K.length).sum ≤ K.sum
  | [], K, _, h => by
    have : K = [] := List.sublist_nil.mp h
    subst this; simp
  | a :: l, [], _, _ => by simp
  | a :: l, x :: K, hp, h => by
    have hp' := List.pairwise_cons.mp hp
    cases h with
    | cons_cons _ h' =>
      have := take_sum_le l K hp'.2 h'
      simp only [List.length_cons, List.take_succ_cons, List.sum_cons]; omega
    | cons _ h' =>
      have h1 : K.Sublist l := (List.sublist_cons_self x K).trans h'
      have := take_sum_le l K hp'.2 h1
      have hx : a ≤ x := hp'.1 x (h'.subset (.head _))
      simp only [List.length_cons, List.take_succ_cons, List.sum_cons]; omega
theorem Mrow_bnd_le (rs c : List Int) (a : Nat) (ha : a ≤ rs.length) : Mrow rs c 0 ≤ bnd rs c a := by
  have hZqq := List.exists_perm_sublist (List.take_sublist (rs.length - a) (srt rs)) (srt_perm rs)
  refine ex1 hZqq ?_; (try clear hZqq); intro K; refine and2 ?_; intro hK hs
  have h := Mrow_le rs K c hs 0
  have hl : K.length = rs.length - a := by
    rw [hK.length_eq, List.length_take, (srt_perm rs).length_eq]; omega
  have e : (0 : Int) + ((rs.length - K.length : Nat) : Int) = (a : Int) := by omega
  rw [e, perm_sum hK] at h
  exact h
theorem Mrow_bnd_ge (rs c : List Int) : ∃ a, a ≤ rs.length ∧ bnd rs c a ≤ Mrow rs c 0 := by
  have hZqq := Mrow_ge rs c 0
  refine ex1 hZqq ?_; (try clear hZqq); intro K; refine and2 ?_; intro hs e
  have hl := hs.length_le
  refine ⟨rs.length - K.length, by omega, ?_⟩
  have hZqq := List.exists_perm_sublist hs (srt_perm rs).symm
  refine ex1 hZqq ?_; (try clear hZqq); intro K'; refine and2 ?_; intro hK' hs'
  have h := take_sum_le (srt rs) K' (srt_pair rs) hs'
  rw [hK'.length_eq, perm_sum hK'] at h
  have e2 : rs.length - (rs.length - K.length) = K.length := by omega
  have e3 : (0 : Int) + ((rs.length - K.length : Nat) : Int) = ((rs.length - K.length : Nat) : Int) := by omega
  rw [e3] at e
  unfold bnd
  rw [e2, e]
  have e4 : (c.map fun k => if (((rs.length - K.length : Nat)) : Int) < k then (((rs.length - K.length : Nat)) : Int) else k).sum = sumMin c ((rs.length - K.length : Nat) : Int) := rfl
  rw [e4]
  omega
theorem laid_perm (fs : List Int) : ((laidP fs).map (·.1)).Perm fs := by
  have q : ∀ ns : List Int, ((laidP ns.reverse).map (·.1)).Perm ns.reverse := fun ns => by
    induction ns with
    | nil => simp [laidP]
    | cons x r ih =>
      rw [List.reverse_cons, laidP_snoc]
      refine ((insP_perm _ _).map _).trans ?_
      rw [List.map_cons]
      refine (ih.cons x).trans ?_
      exact (List.perm_append_singleton x r.reverse).symm
  have := q fs.reverse
  rwa [List.reverse_reverse] at this
/-- the plain law: what the greedy rule serves is the least of the bounds -/
theorem served_least {rs fs : List Int} (hr : ∀ r ∈ rs, 0 ≤ r) (hf : ∀ x ∈ fs, 0 ≤ x) {M : Int} (h1 : ∃ a, a ≤ rs.length ∧ M = bnd rs fs a) (h2 : ∀ a, a ≤ rs.length → M ≤ bnd rs fs a) : ((served rs (laidP fs) : Nat) : Int) = M := by
  have hp := laid_perm fs
  have hs : sortedP (laidP fs) := by have := laidP_sorted fs.reverse; rwa [List.reverse_reverse] at this
  rw [served_eq rs (laidP fs) hs (fun q hq => hf _ (hp.mem_iff.mp (List.mem_map.mpr ⟨q, hq, rfl⟩))) hr, Mrow_perm hp]
  refine ex1 h1 ?_; (try clear h1); intro a; refine and2 ?_; intro ha e
  have hZqq := Mrow_bnd_ge rs fs
  refine ex1 hZqq ?_; (try clear hZqq); intro b; refine and2 ?_; intro hb e2
  have := Mrow_bnd_le rs fs a ha
  have := h2 b hb
  omega
-- needs C11 C12 C13 C14 C15 C20 C21
theorem fold_bits : ∀ (l : List (Int × Int)) (m i : Nat), (l.foldl addBit m).testBit i = (m.testBit i || l.any fun q => decide (i = 7 + q.2.toNat))
  | [], m, i => by simp
  | q :: r, m, i => by
    rw [List.foldl_cons, fold_bits r, List.any_cons]
    show ((m ||| 2 ^ (7 + q.2.toNat)).testBit i || _) = _
    rw [Nat.testBit_or, Nat.testBit_two_pow, Bool.or_assoc]
    congr 2
    by_cases h : 7 + q.2.toNat = i
    · simp [h]
    · have h' : ¬ i = 7 + q.2.toNat := fun e => h e.symm
      simp [h, h']
noncomputable def places (lk : List (Int × Int)) : List Int := lk.map (·.2)
theorem mask_bit {lk : List (Int × Int)} {r : Int} (i : Nat) : (rowMask lk r).testBit i = true ↔ ∃ q ∈ rowTaken lk r, i = 7 + q.2.toNat := by
  unfold rowMask
  rw [fold_bits]
  simp
theorem mask_ok {lk : List (Int × Int)} {r : Int} (g : ∀ q ∈ lk, 0 ≤ q.2 ∧ q.2 < 6) : rowMask lk r < 8192 ∧ rowMask lk r % 128 = 0 := by
  have key : ∀ l : List (Int × Int), (∀ q ∈ l, 0 ≤ q.2 ∧ q.2 < 6) → ∀ m : Nat, m < 8192 → m % 128 = 0 → l.foldl addBit m < 8192 ∧ l.foldl addBit m % 128 = 0 := fun l => by
    induction l with
    | nil => intro _ m h1 h2; exact ⟨h1, h2⟩
    | cons q r ih =>
      intro hq m h1 h2
      rw [List.foldl_cons]
      have hb := hq q (.head _)
      refine ih (fun x hx => hq x (.tail _ hx)) _ ?_ ?_
      · show m ||| 2 ^ (7 + q.2.toNat) < 2 ^ 13
        refine Nat.or_lt_two_pow h1 (Nat.pow_lt_pow_right (by decide) (by omega))
      · show (m ||| 2 ^ (7 + q.2.toNat)) % 2 ^ 7 = 0
        rw [Nat.or_mod_two_pow]
        have e1 : m % 2 ^ 7 = 0 := h2
        have e2 : 2 ^ (7 + q.2.toNat) % 2 ^ 7 = 0 := by rw [Nat.pow_add]; exact Nat.mul_mod_right _ _
        rw [e1, e2]; rfl
  exact key _ (fun q hq => g q (List.mem_of_mem_drop (List.mem_reverse.mp hq))) 0 (by decide) rfl
theorem places_nodup_next {lk : List (Int × Int)} (r : Int) : (places (rowNext lk r)).Perm (places lk) := by
  unfold places
  refine ((rowNext_perm lk r).map _).trans ?_
  rw [List.map_append, List.map_map]
  have e : ((lk.drop (lk.length - tkn lk r)).map ((fun x => x.2) ∘ decP)) = (lk.drop (lk.length - tkn lk r)).map (·.2) := rfl
  rw [e, ← List.map_append, List.take_append_drop]
theorem taken_places_nodup {lk : List (Int × Int)} (r : Int) (h : (places lk).Nodup) : ((rowTaken lk r).map (·.2)).Nodup := by
  unfold rowTaken
  rw [List.map_reverse]
  have h2 : ((lk.drop (lk.length - tkn lk r)).map (·.2)).Nodup := by
    rw [List.map_drop]
    exact List.Pairwise.sublist (List.drop_sublist _ _) h
  exact (List.reverse_perm _).nodup_iff.mpr h2
/-- the bits of a row's mask are as many as the flags taken -/
theorem bits_length {lk : List (Int × Int)} {r : Int} (g : ∀ q ∈ lk, 0 ≤ q.2 ∧ q.2 < 6) (h : (places lk).Nodup) : (bitsOf (rowMask lk r) 13).length = (rowTaken lk r).length := by
  have gt : ∀ q ∈ rowTaken lk r, 0 ≤ q.2 ∧ q.2 < 6 := fun q hq => g q (List.mem_of_mem_drop (List.mem_reverse.mp hq))
  have n1 : (bitsOf (rowMask lk r) 13).Nodup := List.Pairwise.filter _ List.nodup_range
  have n2 : ((rowTaken lk r).map fun q => 7 + q.2.toNat).Nodup := by
    have := taken_places_nodup r h
    rw [List.Nodup, List.pairwise_map] at this
    refine List.pairwise_map.mpr (List.Pairwise.imp_of_mem (fun {a b} ha hb hne e => hne ?_) this)
    have h1 := gt a ha
    have h2 := gt b hb
    omega
  have m1 : ∀ i ∈ bitsOf (rowMask lk r) 13, i ∈ (rowTaken lk r).map fun q => 7 + q.2.toNat := fun i hi => by
    have hZqq := (mask_bit i).mp (List.mem_filter.mp hi).2
    refine ex1 hZqq ?_; (try clear hZqq); intro q; refine and2 ?_; intro hq e
    exact List.mem_map.mpr ⟨q, hq, e.symm⟩
  have m2 : ∀ i ∈ (rowTaken lk r).map (fun q => 7 + q.2.toNat), i ∈ bitsOf (rowMask lk r) 13 := fun i hi => by
    have hZqq := List.mem_map.mp hi
    refine ex1 hZqq ?_; (try clear hZqq); intro q; refine and2 ?_; intro hq yZq1x2
    obtain rfl := yZq1x2
    have := gt q hq
    exact List.mem_filter.mpr ⟨List.mem_range.mpr (by omega), (mask_bit _).mpr ⟨q, hq, rfl⟩⟩
  have a := nodup_le n1 m1
  have b := nodup_le n2 m2
  rw [List.length_map] at a b
  omega
-- needs C11 C12 C13 C14 C15 C20 C21 C23
noncomputable def sixNames : List Str := [Str.ofString "COROUTINE", Str.ofString "ITERABLE_COROUTINE", Str.ofString "ASYNC_GENERATOR", Str.ofString "0x400", Str.ofString "0x800", Str.ofString "0x1000"]
noncomputable def wornL (rs : List Int) (lk : List (Int × Int)) : List Str := (masksP rs lk).flatMap fun m => below m 13
theorem fin_names : ∀ n, n < 7 → ∀ k, k < 64 → k < 2 ^ n → (sixNames.take n).filter (fun y => decide (y ∈ below (128 * k) 13)) = below (128 * k) 13 := by decide +kernel
theorem mask_lt {lk : List (Int × Int)} {r : Int} {n : Nat} (g : ∀ q ∈ lk, 0 ≤ q.2 ∧ q.2 < n) : rowMask lk r < 2 ^ (7 + n) := by
  refine Nat.lt_pow_two_of_testBit _ fun i hi => ?_
  apply Bool.eq_false_iff.mpr
  intro hb
  have hZqq := (mask_bit i).mp hb
  refine ex1 hZqq ?_; (try clear hZqq); intro q; refine and2 ?_; intro hq e
  have := g q (List.mem_of_mem_drop (List.mem_reverse.mp hq))
  omega
theorem words_names {lk : List (Int × Int)} {r : Int} {n : Nat} (hn : n ≤ 6) (g : ∀ q ∈ lk, 0 ≤ q.2 ∧ q.2 < n) :
    (sixNames.take n).filter (fun y => decide (y ∈ below (rowMask lk r) 13)) = below (rowMask lk r) 13 := by
  have h := mask_ok (lk := lk) (r := r) fun q hq => ⟨(g q hq).1, by have := (g q hq).2; omega⟩
  have h2 := mask_lt (r := r) g
  obtain ⟨k, hk⟩ : ∃ k, rowMask lk r = 128 * k := ⟨rowMask lk r / 128, by omega⟩
  rw [hk] at h h2 ⊢
  have e : 2 ^ (7 + n) = 128 * 2 ^ n := by rw [Nat.pow_add]
  exact fin_names n (by omega) k (by omega) (by omega)
theorem below_len (m : Nat) : (below m 13).length = (bitsOf m 13).length := by unfold below bitsOf; rw [List.length_map]
theorem sums_lk {lk : List (Int × Int)} {r : Int} {n : Int} (g : ∀ q ∈ lk, 0 ≤ q.2 ∧ q.2 < n) : ∀ q ∈ rowNext lk r, 0 ≤ q.2 ∧ q.2 < n := fun q hq => by
  have hm : q.2 ∈ places (rowNext lk r) := List.mem_map.mpr ⟨q, hq, rfl⟩
  have hZqq := List.mem_map.mp ((places_nodup_next r).mem_iff.mp hm)
  refine ex1 hZqq ?_; (try clear hZqq); intro x; refine and2 ?_; intro hx e
  rw [← e]; exact g x hx
theorem nodup_next {lk : List (Int × Int)} (r : Int) (h : (places lk).Nodup) : (places (rowNext lk r)).Nodup := (places_nodup_next r).nodup_iff.mpr h
theorem worn_length : ∀ (rs : List Int) (lk : List (Int × Int)), (∀ q ∈ lk, 0 ≤ q.2 ∧ q.2 < 6) → (places lk).Nodup → (wornL rs lk).length = served rs lk
  | [], _, _, _ => rfl
  | r :: rs, lk, g, h => by
    have ih := worn_length rs (rowNext lk r) (sums_lk g) (nodup_next r h)
    unfold wornL at *
    rw [masksP, List.flatMap_cons, List.length_append, ih, below_len, bits_length g h]; rfl
theorem row_le {lk : List (Int × Int)} {r : Int} (hr : 0 ≤ r) (g : ∀ q ∈ lk, 0 ≤ q.2 ∧ q.2 < 6) (h : (places lk).Nodup) : ((below (rowMask lk r) 13).length : Int) ≤ r := by
  rw [below_len, bits_length g h]
  unfold rowTaken
  rw [List.length_reverse, List.length_drop]
  have : tkn lk r ≤ r.toNat := Nat.min_le_right _ _
  have := tkn_le lk r
  omega
theorem sum_counts {names : List Str} (hn : names.Nodup) : ∀ l : List Str, (∀ x ∈ l, x ∈ names) → (names.map fun y => l.count y).sum = l.length
  | [], _ => by
    have : ∀ k : List Str, (k.map fun y => ([] : List Str).count y).sum = 0 := fun k => by induction k <;> simp_all
    simpa using this names
  | x :: l, h => by
    have ih := sum_counts hn l fun y hy => h y (.tail _ hy)
    have hx := h x (.head _)
    have key : ∀ k : List Str, k.Nodup → (k.map fun y => (x :: l).count y).sum = (k.map fun y => l.count y).sum + (if x ∈ k then 1 else 0) := fun k => by
      induction k with
      | nil => intro _; simp
      | cons a k ihk =>
        intro hk
        have hk' := List.nodup_cons.mp hk
        have := ihk hk'.2
        simp only [List.map_cons, List.sum_cons, this]
        by_cases e : x = a
        · subst e
          rw [if_neg hk'.1, List.count_cons_self]; simp; omega
        · have e1 : (x :: l).count a = l.count a := List.count_cons_of_ne e
          rw [e1]
          by_cases hm : x ∈ k
          · rw [if_pos hm, if_pos (.tail _ hm)]; omega
          · rw [if_neg hm, if_neg (by simp [e, hm])]; omega
    rw [key names hn, if_pos hx, ih]; rfl
theorem worn_mem : ∀ (rs : List Int) (lk : List (Int × Int)) {n : Nat}, n ≤ 6 → (∀ q ∈ lk, 0 ≤ q.2 ∧ q.2 < n) → ∀ x ∈ wornL rs lk, x ∈ sixNames.take n
  | [], _, _, _, _, x, hx => by simp [wornL, masksP] at hx
  | r :: rs, lk, n, hn, g, x, hx => by
    unfold wornL at hx
    rw [masksP, List.flatMap_cons] at hx
    rcases List.mem_append.mp hx with h | h
    · rw [← words_names hn g] at h
      exact (List.mem_filter.mp h).1
    · exact worn_mem rs (rowNext lk r) hn (sums_lk (n := n) g) x h
-- needs C11 C12 C13 C14 C15 C20 C21 C23 C24
theorem count_le_one {l : List Str} (h : l.Nodup) (x : Str) : l.count x ≤ 1 := by
  induction l with
  | nil => simp
  | cons a r ih =>
    have h' := List.nodup_cons.mp h
    by_cases e : a = x
    · subst e
      rw [List.count_cons_self, List.count_eq_zero.mpr h'.1]; omega
    · rw [List.count_cons_of_ne e]; exact ih h'.2
theorem word_inj : ∀ i, i < 13 → ∀ j, j < 13 → 7 ≤ i → 7 ≤ j → wordAt i = wordAt j → i = j := by decide +kernel
theorem bits_range {lk : List (Int × Int)} {r : Int} (i : Nat) (hi : i ∈ bitsOf (rowMask lk r) 13) : 7 ≤ i ∧ i < 13 := by
  obtain ⟨h1, h2⟩ := List.mem_filter.mp hi
  have hZqq := (mask_bit i).mp h2
  refine ex1 hZqq ?_; (try clear hZqq); intro q; refine and2 ?_; intro _ e
  have := List.mem_range.mp h1
  omega
theorem below_nodup (lk : List (Int × Int)) (r : Int) : (below (rowMask lk r) 13).Nodup := by
  unfold below
  refine List.pairwise_map.mpr ?_
  have n1 : (bitsOf (rowMask lk r) 13).Nodup := List.Pairwise.filter _ List.nodup_range
  refine List.Pairwise.imp_of_mem (fun {a b} ha hb hne e => hne ?_) n1
  have h1 := bits_range a ha
  have h2 := bits_range b hb
  exact word_inj a h1.2 b h2.2 h1.1 h2.1 e
theorem count_le : ∀ (rs : List Int) (lk : List (Int × Int)), sortedP lk → (∀ q ∈ lk, 0 ≤ q.1) → (∀ q ∈ lk, 0 ≤ q.2 ∧ q.2 < 6) → (places lk).Nodup → ∀ q ∈ lk, (((wornL rs lk).count (wordAt (7 + q.2.toNat)) : Nat) : Int) ≤ q.1
  | [], lk, _, h0, _, _, q, hq => by
    have := h0 q hq
    simpa [wornL, masksP] using this
  | r :: rs, lk, hs, h0, g, hn, q, hq => by
    have hnx := rowNext_perm lk r
    have htk : ∀ x ∈ lk.drop (lk.length - tkn lk r), 0 < x.1 := fun x hx => by
      have hZqq := List.mem_iff_getElem.mp hx
      obtain ⟨j, hj, rfl⟩ := hZqq
      rw [List.getElem_drop]
      have := tkn_le lk r
      have := dn_le lk
      exact pos_from hs _ _ (by omega)
    have ih := count_le rs (rowNext lk r) (by
        rw [rowNext_def]
        exact (putBack_good _ _ (List.Pairwise.sublist (List.take_sublist _ _) hs)).1) (fun x hx => by
        rcases List.mem_append.mp (hnx.mem_iff.mp hx) with q' | q'
        · exact h0 x (List.mem_of_mem_take q')
        · have hZqq := List.mem_map.mp q'
          refine ex1 hZqq ?_; (try clear hZqq); intro y; refine and2 ?_; intro hy yZq2x2
          obtain rfl := yZq2x2
          have := htk y hy
          show 0 ≤ y.1 - 1
          omega) (sums_lk g) (nodup_next r hn)
    have e : wornL (r :: rs) lk = below (rowMask lk r) 13 ++ wornL rs (rowNext lk r) := by unfold wornL; rw [masksP, List.flatMap_cons]
    rw [e, List.count_append, Int.natCast_add]
    have one := count_le_one (below_nodup lk r) (wordAt (7 + q.2.toNat))
    have hq' : q ∈ lk.take (lk.length - tkn lk r) ++ lk.drop (lk.length - tkn lk r) := by rw [List.take_append_drop]; exact hq
    rcases List.mem_append.mp hq' with hq1 | hq1
    · have h1 := ih q (hnx.mem_iff.mpr (List.mem_append_left _ hq1))
      have z : (below (rowMask lk r) 13).count (wordAt (7 + q.2.toNat)) = 0 := by
        refine List.count_eq_zero.mpr fun hm => ?_
        have hZqq := List.mem_map.mp hm
        refine ex1 hZqq ?_; (try clear hZqq); intro i; refine and2 ?_; intro hi ei
        have hr := bits_range i hi
        have gq := g q hq
        have ei2 := word_inj i hr.2 (7 + q.2.toNat) (by omega) hr.1 (by omega) ei
        have hZqq := (mask_bit i).mp (List.mem_filter.mp hi).2
        refine ex1 hZqq ?_; (try clear hZqq); intro x; refine and2 ?_; intro hx ex
        have hx' : x ∈ lk.drop (lk.length - tkn lk r) := List.mem_reverse.mp hx
        have gx := g x (List.mem_of_mem_drop hx')
        have e2 : x.2 = q.2 := by omega
        have hn' : ((lk.take (lk.length - tkn lk r)).map (·.2) ++ (lk.drop (lk.length - tkn lk r)).map (·.2)).Nodup := by
          rw [← List.map_append, List.take_append_drop]; exact hn
        exact (List.pairwise_append.mp hn').2.2 q.2 (List.mem_map.mpr ⟨q, hq1, rfl⟩) x.2 (List.mem_map.mpr ⟨x, hx', rfl⟩) e2.symm
      rw [z]; simpa using h1
    · have h1 := ih (decP q) (hnx.mem_iff.mpr (List.mem_append_right _ (List.mem_map.mpr ⟨q, hq1, rfl⟩)))
      have h1' : (((wornL rs (rowNext lk r)).count (wordAt (7 + q.2.toNat)) : Nat) : Int) ≤ q.1 - 1 := h1
      omega
theorem six_at : ∀ p, p < 6 → sixNames[p]? = some (wordAt (7 + p)) := by decide +kernel
theorem laid_ok {fs : List Int} (h : fs.length ≤ 6) (hf : ∀ x ∈ fs, 0 ≤ x) : sortedP (laidP fs) ∧ (∀ q ∈ laidP fs, 0 ≤ q.1) ∧ (∀ q ∈ laidP fs, 0 ≤ q.2 ∧ q.2 < (fs.length : Int)) ∧ (places (laidP fs)).Nodup := by
  refine ⟨(good_laid h).1, fun q hq => ?_, fun q hq => ?_, ?_⟩
  · have hZqq := (mem_laid fs q).mp hq
    obtain ⟨j, hj, rfl⟩ := hZqq
    exact hf _ (List.getElem_mem hj)
  · have hZqq := (mem_laid fs q).mp hq
    obtain ⟨j, hj, rfl⟩ := hZqq
    show (0 : Int) ≤ (j : Int) ∧ (j : Int) < _
    omega
  · have h1 := laid_lex fs
    have h2 : (places (laidP fs)).Perm ((List.range fs.length).map fun (j : Nat) => (j : Int)) := by
      have q : ∀ ns : List Int, (places (laidP ns.reverse)).Perm ((List.range ns.reverse.length).map fun (j : Nat) => (j : Int)) := fun ns => by
        induction ns with
        | nil => simp [laidP, places]
        | cons x r ih =>
          rw [List.reverse_cons, laidP_snoc]
          refine ((insP_perm _ _).map _).trans ?_
          rw [List.map_cons, List.length_append, List.range_add]
          refine (ih.cons _).trans ?_
          simp only [List.map_append, List.length_cons, List.length_nil]
          refine (List.perm_append_singleton _ _).symm.trans ?_
          simp
      have := q fs.reverse
      rwa [List.reverse_reverse] at this
    refine h2.nodup_iff.mpr (List.pairwise_map.mpr (List.Pairwise.imp (fun {a b} hne e => hne (by omega)) (List.nodup_range (n := fs.length))))
theorem name_count {rs fs : List Int} (h : fs.length ≤ 6) (hf : ∀ x ∈ fs, 0 ≤ x) (p : Nat) (hp : p < fs.length) : (((wornL rs (laidP fs)).count (wordAt (7 + p)) : Nat) : Int) ≤ fs[p] := by
  have hZqq := laid_ok h hf
  refine andI hZqq ?_; (try clear hZqq); refine and4 ?_; intro a b c d
  have hm : (fs[p], (p : Int)) ∈ laidP fs := (mem_laid fs _).mpr ⟨p, hp, rfl⟩
  have := count_le rs (laidP fs) a b (fun q hq => by have := c q hq; omega) d _ hm
  simpa using this
section
open PySem.Spec
variable {prog : Program} {w : World} {A : Around} {E : Value → Shared → Prop} {s : Shared} {x : Str} {t : Tok} {Q : Value → Shared → Prop}
theorem post_joinT {sep : Str} : ∀ (l : List (Str × Tok)), ((Txt.join sep (l.map (·.1))).length ≤ sizeLine ∧ ∀ t' k, ((∃ p, l = [p] ∧ t' = p.2) ∨ t' = s.toks) → Q (.str (Txt.join sep (l.map (·.1))) t') { s with toks := k }) → (joinMade sep l).post Q s
  | [], h => ⟨h.1, h.2 _ _ (.inr rfl)⟩
  | [p], h => h.2 p.2 s.toks (.inl ⟨p, rfl, rfl⟩)
  | _ :: _ :: _, h => ⟨h.1, h.2 _ _ (.inr rfl)⟩
theorem r_join {D : Addr} {l : List (Str × Tok)} (hl : s.heap.IsList D (strValues l).toArray) (hok : ((l.map (·.1)).map (·.length)).sum + (l.map (·.1)).length * x.length ≤ 16777216)
    (h : ∀ t' k, ((∃ p, l = [p] ∧ t' = p.2) ∨ t' = s.toks) → Q (.str (Txt.join x (l.map (·.1))) t') { s with toks := k }) : wpAny (model prog w) A (call (.builtin "str.join") [.str x t, .ref D]) Q E s := by
  have hok' := joinOk_of hok
  unfold JoinOk at hok'
  rw [Bool.not_eq_true'] at hok'
  exact call_meets F.slot_str_join (typeIs_str _ _ _) F.entry_str_join (F.args_str_join_2 _ _) (meets_str_join_list x t D l hok') ⟨hl, post_joinT l ⟨joinFit_length hok', h⟩⟩
end
theorem numbered_ge : ∀ (n : Nat) (l : List Str), ∀ p ∈ numbered n l, n ≤ p.2
  | _, [], p, h => by simp [numbered] at h
  | n, a :: r, p, h => by
    simp only [numbered, List.mem_cons] at h
    rcases h with rfl | h
    · exact Nat.le_refl _
    · exact Nat.le_of_succ_le (numbered_ge (n + 1) r p h)
section
open PySem.Spec PySem.Builtin
variable {prog : Program} {w : World} {A : Around} {E : Value → Shared → Prop} {s : Shared} {x : Str} {t : Tok} {Q : Value → Shared → Prop} {h₀ : Heap} {L : Addr} {m : Str → Option Value} {news : Led}
theorem r_split {y : Str} {u : Tok} (hF : Fr h₀ L s.heap m) (hN : News h₀ L s.heap news) (hy : (y.length == 0) = false)
    (h : ∀ D l h' k, l.map (·.1) = Txt.split x y → Fr h₀ L h' m → News h₀ L h' ((D, listO (strValues l) 0) :: news) → (∀ p ∈ l, p.2 = t ∨ s.toks ≤ p.2) → Q (.ref D) { s with heap := h', toks := k })
    (hsz : x.length + 2 ≤ sizeLine) :
    wpAny (model prog w) A (call (.builtin "str.split") [.str x t, .str y u]) Q E s := by
  have hn : (Str.partsBetween x (Str.occurrences x y 0 x.length (x.length + 1)) y.length).length ≤ sizeLine := by
    have e1 := StrLaws.occ_length_le x y 0 x.length (x.length + 1)
    rw [length_partsBetween]; omega
  cases h1 : (decide (x.length < y.length) || decide (Str.strKind x < Str.strKind y))
  · cases hf : (Str.occurrences x y 0 x.length (x.length + 1)).isEmpty
    · refine call_meets F.slot_str_split (typeIs_str _ _ _) F.entry_str_split (F.args_str_split_2 _ _) (meets_str_split_sep x y t u h1 hy hf (by omega) hn) ?_
      show wants Q E _ { s with toks := _, heap := s.heap.push { cls := .type "list", data := .seq (strsFrom s.toks (Str.partsBetween x (Str.occurrences x y 0 x.length (x.length + 1)) y.length)).toArray } }
      rw [strsFrom_eq]
      exact h _ (numbered s.toks _) _ _ ((numbered_texts _ _).trans ((if_neg (ne_true_of_eq_false h1)).trans (if_neg (ne_true_of_eq_false hf))).symm) (Fr.pushS hF _) (News.push hF hN _) (fun p hp => .inr (numbered_ge _ _ p hp))
    · exact call_meets F.slot_str_split (typeIs_str _ _ _) F.entry_str_split (F.args_str_split_2 _ _) (meets_str_split_not_found x y t u h1 hy hf)
        (h _ [(x, t)] _ s.toks ((if_neg (ne_true_of_eq_false h1)).trans (if_pos hf)).symm (Fr.pushS hF _) (News.push hF hN _) (fun p hp => .inl (by rw [List.mem_singleton.mp hp])))
  · exact call_meets F.slot_str_split (typeIs_str _ _ _) F.entry_str_split (F.args_str_split_2 _ _) (meets_str_split_cannot_occur x y t u h1)
      (h _ [(x, t)] _ s.toks (if_pos h1).symm (Fr.pushS hF _) (News.push hF hN _) (fun p hp => .inl (by rw [List.mem_singleton.mp hp])))
end
-- needs C18
theorem with_toks {α : Type} {M : Model} {A : Around} {t : Sem α} {Q : α → Shared → Prop} {E : Value → Shared → Prop} {s : Shared} (h : wpAny M A t (fun a s' => s.toks ≤ s'.toks → Q a s') E s) : wpAny M A t Q E s :=
  wpAny_mono (any_toks h) (fun _ _ x => x.1 x.2) fun _ _ x => x.1
section
variable {prog : Program} {w : World} {A : Around} {E : Value → Shared → Prop} {s : Shared} {env : Env}
noncomputable def LoopT (prog : Program) (w : World) (A : Around) (h₀ : Heap) (L : Addr) (env : Env) (target : Expr) (body orelse : List Stmt) (Q : Flow → Shared → Prop) (it : Value) (s : Shared) : Prop :=
  ∃ (I : Addr) (fixO : Led) (n : Nat) (P : Nat → Value → Prop) (St : Nat → Heap → Prop) (m₀ : Str → Option Value) (news : Led) (J : Nat → (Str → Option Value) → Led → Prop),
    it = .ref I ∧ Walks prog w A I (I :: fixO.map (·.1)) [I] n P St ∧ (∀ i h, St i h → ∃ o, h.get? I = some o) ∧ h₀.get? I = none ∧ L ≠ I ∧ (∀ p ∈ fixO, p.1 ≠ L) ∧ (∀ p ∈ news, p.1 ≠ I) ∧
    St 0 s.heap ∧ Fr h₀ L s.heap m₀ ∧ News h₀ L s.heap news ∧ J 0 m₀ news ∧
    (∀ i m news, J i m news → ∀ p ∈ fixO, p ∈ news ∨ h₀.get? p.1 = some p.2) ∧
    (∀ i (s' : Shared) v (Q' : Unit → Shared → Prop), St i s'.heap → Q' () s' → wpAny (model prog w) A (letOwnedTupleGo target (.ref I) v) Q' (fun _ _ => False) s') ∧
    (∀ i v m₁ news₁ oI h tk, s.toks ≤ tk → i < n → P i v → J i m₁ news₁ → (∀ p ∈ news₁, p.1 ≠ I) → Fr h₀ L h m₁ → News h₀ L h ((I, oI) :: news₁) →
      wpAny (model prog w) A (assign target env v) (fun _ s₂ => wpAny (model prog w) A (execs body env) (TurnEnd' h₀ L I oI s (J (i + 1)) Q) (fun _ _ => False) s₂) (fun _ _ => False) { s with heap := h, toks := tk }) ∧
    ∀ h tk m₁ news₁, s.toks ≤ tk → J n m₁ news₁ → Fr h₀ L h m₁ → News h₀ L h news₁ → wpAny (model prog w) A (execs orelse env) Q (fun _ _ => False) { s with heap := h, toks := tk }

theorem r_forT {target iter : Expr} {body orelse : List Stmt} {pos : Pos} (h₀ : Heap) (L : Addr) {Q : Flow → Shared → Prop}
    (h : wpAny (model prog w) A (eval iter env) (fun xv s₁ => wpAny (model prog w) A (pyIter xv) (fun it s₂ => LoopT prog w A h₀ L env target body orelse Q it s₂) E s₁) E s)
    (hs : ∀ x, foldedSetIterable iter env x = pure x := by intro _; rfl) (hEL : env.locals = L := by rfl) :
    wpAny (model prog w) A (exec (.For target iter body orelse pos) env) Q E s := by
  subst hEL
  refine wpAny_For (wpAny_mono h (fun xv s₁ h₁ => wpAny_mono h₁ (fun it s₂ h₂ => ?_) fun _ _ e => e) fun _ _ e => e) hs
  refine ex8 h₂ ?_; (try clear h₂); intro I fixO n P St m₀ news J; refine and15 ?_; intro yZq0x8 W hob h0I hLI hfL hnI hst F N hJ hfx hgo turn done
  obtain rfl := yZq0x8
  refine codeAny_forLoop_any (fun k s' => ∃ h' tk m' news' i, s' = { s₂ with heap := h', toks := tk } ∧ s₂.toks ≤ tk ∧ St i h' ∧ Fr h₀ env.locals h' m' ∧ News h₀ env.locals h' news' ∧ (∀ p ∈ news', p.1 ≠ I) ∧ J i m' news' ∧ i ≤ n ∧ k = n + 1 - i) ?_ (n + 1)
    ⟨s₂.heap, s₂.toks, m₀, news, 0, rfl, Nat.le_refl _, hst, F, N, hnI, hJ, Nat.zero_le _, rfl⟩
  intro k s' xZq1
  refine ex5 xZq1 ?_; (try clear xZq1); intro h' tk m' news' i; refine and9 ?_; intro yZq1x5 hle hst' F' N' hn' hJ' hi yZq1x13
  obtain rfl := yZq1x5
  obtain rfl := yZq1x13
  have next : ∀ h₁ : Heap, (∀ b o, b ∉ [I] → h'.get? b = some o → h₁.get? b = some o) → Fr h₀ env.locals h₁ m' ∧ News h₀ env.locals h₁ news' := fun h₁ hk₁ =>
    ⟨⟨F'.ns.at' fun o e => hk₁ _ o (by simpa using hLI) e, fun b o e => hk₁ b o (by simp; rintro rfl; rw [h0I] at e; cases e) (F'.keep b o e), F'.above⟩, fun p hp => ⟨hk₁ _ _ (by simpa using hn' p hp) (N' p hp).1, (N' p hp).2⟩⟩
  by_cases hlt : i < n
  · refine with_toks (W.item i _ _ _ hlt hst' fun v h₁ tk₁ hP hst₁ hk₁ hle1 => ?_)
    have hle1' : s₂.toks ≤ tk₁ := Nat.le_trans hle hle1
    obtain ⟨F₁, N₁⟩ := next h₁ hk₁
    obtain ⟨oI, hoI⟩ := hob _ _ hst₁
    have N₂ : News h₀ env.locals h₁ ((I, oI) :: news') := fun p hp => by
      rcases List.mem_cons.mp hp with rfl | q
      · exact ⟨hoI, Ne.symm hLI, h0I⟩
      · exact N₁ p q
    refine wpAny_noRaise (hgo (i + 1) _ v _ hst₁ ?_)
    refine wpAny_noRaise (wpAny_mono (any_toks (turn i v m' news' oI h₁ tk₁ hle1' hlt hP hJ' hn' F₁ N₂)) (fun _ s₃ ⟨h₃, l3⟩ => ?_) fun _ _ e => e.1)
    refine wpAny_noRaise (wpAny_mono (any_toks h₃) (fun f s₄ ⟨h₄, l4⟩ => ?_) fun _ _ e => e.1)
    have hle4 : s₂.toks ≤ s₄.toks := Nat.le_trans hle1' (Nat.le_trans l3 l4)
    have fin : (∃ h' tk m' news', s₄ = { s₂ with heap := h', toks := tk } ∧ Fr h₀ env.locals h' m' ∧ News h₀ env.locals h' ((I, oI) :: news') ∧ (∀ p ∈ news', p.1 ≠ I) ∧ J (i + 1) m' news') →
        ∃ m, m < n + 1 - i ∧ ∃ h' tk m' news' j, s₄ = { s₂ with heap := h', toks := tk } ∧ s₂.toks ≤ tk ∧ St j h' ∧ Fr h₀ env.locals h' m' ∧ News h₀ env.locals h' news' ∧ (∀ p ∈ news', p.1 ≠ I) ∧ J j m' news' ∧ j ≤ n ∧ m = n + 1 - j := by
      intro xZq1
      refine ex4 xZq1 ?_; (try clear xZq1); intro h5 tk5 m5 news5; refine and5 ?_; intro yZq2x4 F5 N5 hn5 hJ5
      obtain rfl := yZq2x4
      refine ⟨n + 1 - (i + 1), by omega, h5, tk5, m5, news5, i + 1, rfl, hle4, ?_, F5, fun p hp => N5 p (.tail _ hp), hn5, hJ5, hlt, rfl⟩
      refine W.frame _ _ _ hst₁ fun b hb o e => ?_
      rcases List.mem_cons.mp hb with rfl | hb
      · rw [hoI] at e; cases e
        exact (N5 _ (.head _)).1
      · have hZqq := List.mem_map.mp hb
        refine ex1 hZqq ?_; (try clear hZqq); intro p; refine and2 ?_; intro hp yZq3x2
        obtain rfl := yZq3x2
        have a1 : h₁.get? p.1 = some p.2 := (hfx _ _ _ hJ' p hp).elim (fun q => (N₁ p q).1) fun q => F₁.keep _ _ q
        rw [a1] at e; cases e
        exact (hfx _ _ _ hJ5 p hp).elim (fun q => (N5 p (.tail _ q)).1) fun q => F5.keep _ _ q
    cases f with
    | ret v => exact h₄
    | brk => exact h₄
    | next => exact fin h₄
    | cont => exact fin h₄
  · have hin : i = n := by omega
    subst hin
    refine with_toks (W.done _ _ _ hst' fun h₁ tk₁ hk₁ hle1 => ?_)
    obtain ⟨F₁, N₁⟩ := next h₁ hk₁
    exact wpAny_noRaise (wpAny_mono (done h₁ tk₁ m' news' (Nat.le_trans hle hle1) hJ' F₁ N₁) (fun f s₃ q => q) fun _ _ e => e)

theorem loop_rangeT {r : Addr} {b : Int} {t u v : Tok} {n : Nat} {target : Expr} {body orelse : List Stmt} {h₀ : Heap} {L : Addr} {Q : Flow → Shared → Prop} {m₀ : Str → Option Value} {news : Led}
    (J : Nat → (Str → Option Value) → Led → Prop) (hh : A.handled = none) (F : Fr h₀ L s.heap m₀) (N : News h₀ L s.heap news)
    (hr : IsRange s.heap r 0 b 1 t u v) (hb : b = (n : Int)) (hn : n < 100000) (hJ : J 0 m₀ news)
    (turn : ∀ (i : Nat) (ti : Tok) m₁ news₁ I oI h tk, s.toks ≤ tk → i < n → J i m₁ news₁ → (∀ p ∈ news₁, p.1 ≠ I) → Fr h₀ L h m₁ → News h₀ L h ((I, oI) :: news₁) →
      wpAny (model prog w) A (assign target env (.int i ti)) (fun _ s₂ => wpAny (model prog w) A (execs body env) (TurnEnd' h₀ L I oI s (J (i + 1)) Q) (fun _ _ => False) s₂) (fun _ _ => False) { s with heap := h, toks := tk })
    (done : ∀ h tk m₁ news₁, s.toks ≤ tk → J n m₁ news₁ → Fr h₀ L h m₁ → News h₀ L h news₁ → wpAny (model prog w) A (execs orelse env) Q (fun _ _ => False) { s with heap := h, toks := tk })
    (ht : ∀ it v, letOwnedTupleGo target it v = pure () := by intro _ _; rfl) :
    wpAny (model prog w) A (pyIter (.ref r)) (fun it s₂ => LoopT prog w A h₀ L env target body orelse Q it s₂) E s := by
  subst hb
  have hz : Builtin.Range.rangeSize 0 (n : Int) 1 = (n : Int) := by
    unfold Builtin.Range.rangeSize; simp; omega
  refine wpAny_pyIter_range hr (small_one (by omega) (by omega) (by omega) (by omega)) ?_
  have W := Walks.range (prog := prog) (w := w) hh s.heap.objs.size 0 1 n
  refine ⟨_, [], n, _, _, m₀, news, J, rfl, W, ?_, ?_, ?_, ?_, ?_, ?_, F.push _, (fun p hp => ⟨Heap.get?_push_of_some _ (N p hp).1, (N p hp).2⟩), hJ, ?_, ?_, ?_, ?_⟩
  · intro i h e; exact ⟨_, e⟩
  · cases q : h₀.get? s.heap.objs.size with
    | none => rfl
    | some o => exact absurd (Heap.lt_size (F.keep _ _ q)) (Nat.lt_irrefl _)
  · exact Nat.ne_of_lt F.ns.lt
  · intro p hp; cases hp
  · intro p hp q; exact absurd (Heap.lt_size (N p hp).1) (q ▸ Nat.lt_irrefl _)
  · show IsRangeIter _ _ _ _ _
    rw [hz]
    simpa using Heap.get?_push_size s.heap rfl
  · intro i m news hJ p hp; cases hp
  · intro i s' v Q' hst hq
    rw [ht]; exact wpAny_pure hq
  · rintro i v m₁ news₁ oI h tk hle hi ⟨t, rfl⟩ hJ hn F₁ N₁
    have e : (0 : Int) + (i : Int) * 1 = (i : Int) := by omega
    rw [e]
    exact turn i t m₁ news₁ _ oI h tk hle hi hJ hn F₁ N₁
  · intro h tk m₁ news₁ hle hJ F₁ N₁
    exact done h tk m₁ news₁ hle hJ F₁ N₁
end
noncomputable def flagKvs : List (Int × Value) := [(1, .str (Str.ofString "OPTIMIZED") 233), (2, .str (Str.ofString "NEWLOCALS") 235), (4, .str (Str.ofString "VARARGS") 237), (8, .str (Str.ofString "VARKEYWORDS") 239), (16, .str (Str.ofString "NESTED") 241), (32, .str (Str.ofString "GENERATOR") 243), (64, .str (Str.ofString "NOFREE") 245),
  (128, .str (Str.ofString "COROUTINE") 247), (256, .str (Str.ofString "ITERABLE_COROUTINE") 249), (512, .str (Str.ofString "ASYNC_GENERATOR") 251)]
theorem flags_dict {prog : Program} {w : World} {h : Heap} (X : (hd.heap_39 w.params).In h) : h.DictOf (intKind prog w) 42 flagKvs := by
  refine Heap.dictOf_iff.mpr ⟨_, X 42 _ rfl, ?_⟩
  refine ⟨_, _, ?_, rfl, ?_, ?_, by decide⟩
  · exact ⟨rfl, rfl, rfl⟩
  · intro e he
    simp at he
    rcases he with rfl | rfl | rfl | rfl | rfl | rfl | rfl | rfl | rfl | rfl <;> exact ⟨_, intKind_is _ _ _ _, rfl⟩
  · repeat (refine .cons (intKind_is _ _ _ _) rfl ?_)
    exact .nil
theorem flag_get {prog : Program} {w : World} {A : Around} {E : Value → Shared → Prop} {s : Shared} {k : Int} {t : Tok} {dflt : Value} {Q : Value → Shared → Prop} (X : (hd.heap_39 w.params).In s.heap) (x : Option Value) (hl : valueAt flagKvs k = x)
    (h : Q (x.getD dflt) { s with toks := s.toks + 1 }) : wpAny (model prog w) A (call (.builtin "dict.get") [.ref 42, .int k t, dflt]) Q E s :=
  have hD := flags_dict (prog := prog) X
  call_meetsIn PySem.F.slot_dict_get hD.typeIs PySem.F.entry_dict_get (PySem.F.args_dict_get_3 _ _ _) (meets_dict_get_default (intKind prog w) 42 (intKind_is _ _ _ _) (by decide) dflt) ⟨_, hD.mapOf, by rw [hl]; exact h⟩
-- needs C11 C15 C18 C26 C27 C28
theorem enterT {prog : Program} {w : World} {A : Around} {E : Value → Shared → Prop} {s : Shared} {Q : Value → Shared → Prop}
    {name qual : Str} {params : Arguments} {body : List Stmt} {scope : Scope} {dV kV doc pm cdv ct oc : Value} {an od : Option Addr} {osl : Array (Option Value)} {f : Addr} {pos : List Value} {kw : List (Str × Value)} (binds : List (Str × Value))
    (G : Gd w s.heap) (hroom : A.depth < recursionLimit)
    (ho : (hd.heap_39 w.params).lookup f = some ⟨oc, od, .func (fnOf name qual params body scope dV kV doc pm an cdv ct), osl⟩)
    (hcd : codeIn (hd.heap_39 w.params) cdv qual = true)
    (hbind : BindsTo s (fnOf name qual params body scope dV kV doc pm an cdv ct) ⟨pos, kw⟩ binds)
    (hloc : ∀ y ∈ binds, scope.names.lookup y.1 = some .local)
    (hcell : ∀ x ∈ scope.names, x.2 ≠ .cell)
    (hco : scope.isCoroutine = false) (hgen : scope.isGenerator = false) (hk : scope.kind = .function)
    (h : ∀ L h₁ tk, s.toks ≤ tk → Fr s.heap L h₁ (fun y => binds.reverse.lookup y) → News s.heap L h₁ [] → (hd.heap_39 w.params).In s.heap →
      wpAny (model prog w) (A.deeper (envOf qual scope L f cdv)) (execs body (envOf qual scope L f cdv))
        (fun fl s' => Q (match fl with | .ret v => v | _ => .none) s') (fun _ _ => False)
        { s with heap := h₁, toks := tk }) :
    wpAny (model prog w) A (call (.ref f) pos kw) Q E s := by
  obtain ⟨p, l, m, mg, mb, T⟩ := G.T
  refine wpAny_call (codeAny_call_def (fd := fnOf name qual params body scope dV kV doc pm an cdv ct) (body := body) (binds := binds) hroom (G.X _ _ ho) rfl T.nolimit (codeRec_of G.X hcd) rfl hbind hcell hloc (fun h₁ hns hk₁ => ?_) hco hgen hk)
  exact wpAny_mono (h s.heap.objs.size h₁ _ (Nat.le_add_right _ _) ⟨hns, hk₁, Nat.le_refl _⟩ News.nil G.X) (fun fl s' hl => hl) fun _ _ y => y.elim


noncomputable def TokOk (T : Nat) (u : Nat) : Prop := u ≠ 0 ∧ (u < 252 ∨ T ≤ u)
theorem strsAre_vals : ∀ l : List (Str × Tok), StrsAre (strValues l) (l.map (·.1))
  | [] => .nil
  | p :: r => .cons p.1 p.2 (strsAre_vals r)
/-- strs and what is known of their tokens -/
noncomputable def TS (T : Nat) (vs : List Value) (ss : List Str) : Prop := ∃ l : List (Str × Tok), vs = strValues l ∧ l.map (·.1) = ss ∧ ∀ p ∈ l, TokOk T p.2
theorem TS.nil {T : Nat} : TS T [] [] := ⟨[], rfl, rfl, by simp⟩
theorem TS.snoc {T : Nat} {vs : List Value} {ss : List Str} {x : Str} {t : Tok} (h : TS T vs ss) (ht : TokOk T t) : TS T (vs ++ [.str x t]) (ss ++ [x]) := by
  obtain ⟨l, rfl, rfl, hl⟩ := h
  refine ⟨l ++ [(x, t)], by simp [strValues], by simp, fun p hp => ?_⟩
  rcases List.mem_append.mp hp with q | q
  · exact hl p q
  · rw [List.mem_singleton.mp q]; exact ht
theorem TS.strs {T : Nat} {vs : List Value} {ss : List Str} (h : TS T vs ss) : StrsAre vs ss := by
  obtain ⟨l, rfl, rfl, hl⟩ := h; exact strsAre_vals l
/-- tokens so far -/
noncomputable def TLe (T x : Nat) : Prop := T ≤ x
theorem tokok_fresh {T x : Nat} (h : 252 ≤ T) (hT : TLe T x) : TokOk T x := ⟨by unfold TLe at hT; omega, .inr hT⟩
section
variable {prog : Program} {w : World} {A : Around} {E : Value → Shared → Prop} {s : Shared} {env : Env}
theorem execs_consT {M : Model} {st : Stmt} {rest : List Stmt} {T x : Nat} {Q : Flow → Shared → Prop} (hT : TLe T x) (hx : x ≤ s.toks)
    (h : wpAny M A (exec st env) (fun f s' => TLe T s'.toks → match f with | .next => wpAny M A (execs rest env) Q E s' | f => Q f s') E s) : wpAny M A (execs (st :: rest) env) Q E s :=
  wpAny_execs_cons (with_toks (wpAny_mono h (fun f s' h' l => h' (Nat.le_trans hT (Nat.le_trans hx l))) fun _ _ e => e))
theorem r_for2T {target iter : Expr} {body orelse : List Stmt} {pos : Pos} (h₀ : Heap) (L : Addr) {Q : Flow → Shared → Prop} (X : Shared → Prop) {T x : Nat} (hT : TLe T x) (hx : x ≤ s.toks)
    (h : wpAny (model prog w) A (eval iter env) (fun xv s₁ => TLe T s₁.toks → wpAny (model prog w) A (pyIter xv) (fun it s₂ => LoopT prog w A h₀ L env target body orelse (QX X Q) it s₂) E s₁) E s)
    (hX : ∀ s, X s → Q .next s)
    (hs : ∀ x, foldedSetIterable iter env x = pure x := by intro _; rfl) (hEL : env.locals = L := by rfl) :
    wpAny (model prog w) A (exec (.For target iter body orelse pos) env) Q E s :=
  wpAny_mono (r_forT h₀ L (with_toks (wpAny_mono h (fun xv s₁ h₁ l => h₁ (Nat.le_trans hT (Nat.le_trans hx l))) fun _ _ e => e)) hs hEL) (fun f s₂ h₂ => by
    cases f with
    | next => exact hX _ h₂
    | ret v => exact h₂
    | brk => exact h₂.elim
    | cont => exact h₂.elim) fun _ _ e => e
end
theorem sp_prettyT {prog : Program} {w : World} {A : Around} {E : Value → Shared → Prop} {s : Shared} {Q : Value → Shared → Prop}
   {f : Nat} {t : Tok}
   (G : Gd w s.heap) (R : Rm A 2) (hf : f < 8192) (hf7 : f % 128 = 0)
   (hT0 : 252 ≤ s.toks)
   (hQ : Out [] s Q (fun v h' => ∃ t, v = .str (textOf f) t ∧ TokOk s.toks t)) :
   wpAny (model prog w) A (call (.ref 49) [.int f t]) Q E s := by
  (((have kkZq : PySem.Challenge.rw_wu0059_01 = PySem.Challenge.rw_wu0059_01 ∧ Mine.hd.heap_39 = Mine.hd.heap_39 := ⟨rfl, rfl⟩); revert kkZq; k_fill; intro kkZq; clear kkZq; w_on))
  (((rename Rm _ _ => rrZq); (rename Around => aaZq); (have e0Zq := Rm.h rrZq); rcases aaZq with ⟨hhZq, d1Zq, d2Zq, d3Zq, d4Zq⟩; dsimp only at e0Zq; subst e0Zq))
  have R := ‹Rm _ 2›
  refine enterT [(Str.ofString "flags", .int f t)] G R.room (by k_is) (by k_is) (by (first | exact BindsTo.of_eq rfl | exact binds_K (Gd.X (by assumption)) rfl (by k_is) rfl rfl rfl | exact binds_K (Gd.X (Gd.keeps (by assumption) (by assumption))) rfl (by k_is) rfl rfl rfl)) (locs rfl) (by decide) rfl rfl rfl ?_
  intro L h₁ tk hle F N X
  have hTz : TLe s.toks tk := hle
  obtain ⟨pp, l, m, mg, mb, T⟩ := G.T
  (repeat' (first | ((with_reducible show TLe _ _ → _); intro hTzZq; (try dsimp only at hTzZq); (try dsimp only)) | ((with_reducible show wpAny _ _ (execs (_ :: _) _) _ _ _); (with_reducible refine execs_consT ‹TLe _ _› (by first | exact Nat.le_refl _ | exact Nat.le_add_right _ _ | omega) ?_); (try dsimp only)) | ((with_reducible show wpAny _ _ (execs [] _) _ _ _); (with_reducible refine wpAny_execs_nil ?_); (try dsimp only)) | (first | (k_unfold; (try dsimp only)) | ( (fail_if_success (with_reducible show wpAny _ _ (exec (Stmt.While _ _ _ _) _) _ _ _)); (fail_if_success (with_reducible show wpAny _ _ (exec (Stmt.For _ _ _ _ _) _) _ _ _)); (fail_if_success (with_reducible show wpAny _ _ (exec (Stmt.Try _ _ _ _ _) _) _ _ _)); (fail_if_success (with_reducible show wpAny _ _ (pyIter _) (fun it s₂ => Loop _ _ _ _ _ _ _ _ _ _ it s₂) _ _)); (fail_if_success (with_reducible show wpAny _ _ (call (Value.ref _) _ _) _ _ _)); walk1; (try ((first | (with_reducible show wpAny _ _ (spliced _) _ _ _) | (with_reducible show wpAny _ _ (newList _) _ _ _) | (with_reducible show wpAny _ _ (execs _ _) _ _ _)); dsimp only))))))
  refine r_for2T s.heap L (fun s' => ∃ la vs n h' tk' m' nws, s' = { s with heap := h', toks := tk' } ∧ Fr s.heap L h' m' ∧ News s.heap L h' nws ∧ Has m' [(Str.ofString "names", .ref la)] ∧ (la, listO vs n) ∈ nws ∧ TS s.toks vs (wordsL f) ∧ TLe s.toks tk') ‹TLe _ _› (by first | exact Nat.le_refl _ | exact Nat.le_add_right _ _ | omega) ?_ ?_
  rotate_left
  · (repeat ((first | (with_reducible rename Fr _ _ _ _ => zzZq) | (with_reducible rename News _ _ _ _ => zzZq) | (with_reducible rename IsRange _ _ _ _ _ _ _ _ => zzZq)); clear zzZq))
    rintro s5 ⟨la, vs, n, h5, tk5, m5, nws, rfl, F5, N5, em5, e1, e2, hT5⟩
    replace F5 := fr_has F5 em5
    (repeat' (first | ((with_reducible show TLe _ _ → _); intro hTzZq; (try dsimp only at hTzZq); (try dsimp only)) | ((with_reducible show wpAny _ _ (execs (_ :: _) _) _ _ _); (with_reducible refine execs_consT ‹TLe _ _› (by first | exact Nat.le_refl _ | exact Nat.le_add_right _ _ | omega) ?_); (try dsimp only)) | ((with_reducible show wpAny _ _ (execs [] _) _ _ _); (with_reducible refine wpAny_execs_nil ?_); (try dsimp only)) | (first | (k_unfold; (try dsimp only)) | ( (fail_if_success (with_reducible show wpAny _ _ (exec (Stmt.While _ _ _ _) _) _ _ _)); (fail_if_success (with_reducible show wpAny _ _ (exec (Stmt.For _ _ _ _ _) _) _ _ _)); (fail_if_success (with_reducible show wpAny _ _ (exec (Stmt.Try _ _ _ _ _) _) _ _ _)); (fail_if_success (with_reducible show wpAny _ _ (pyIter _) (fun it s₂ => Loop _ _ _ _ _ _ _ _ _ _ it s₂) _ _)); (fail_if_success (with_reducible show wpAny _ _ (call (Value.ref _) _ _) _ _ _)); walk1; (try ((first | (with_reducible show wpAny _ _ (spliced _) _ _ _) | (with_reducible show wpAny _ _ (newList _) _ _ _) | (with_reducible show wpAny _ _ (execs _ _) _ _ _)); dsimp only))))))
    obtain ⟨lz, rfl, ez, tz⟩ := e2
    refine r_join (isL (N5.get e1)) (by rw [ez]; have := words_small hf hf7; exact Nat.le_trans (Nat.add_le_add_left (Nat.mul_le_mul_left _ (by decide)) _) this) ?_
    rw [ez]
    intro t' k ht'
    (repeat' (first | ((with_reducible show TLe _ _ → _); intro hTzZq; (try dsimp only at hTzZq); (try dsimp only)) | ((with_reducible show wpAny _ _ (execs (_ :: _) _) _ _ _); (with_reducible refine execs_consT ‹TLe _ _› (by first | exact Nat.le_refl _ | exact Nat.le_add_right _ _ | omega) ?_); (try dsimp only)) | ((with_reducible show wpAny _ _ (execs [] _) _ _ _); (with_reducible refine wpAny_execs_nil ?_); (try dsimp only)) | (first | (k_unfold; (try dsimp only)) | ( (fail_if_success (with_reducible show wpAny _ _ (exec (Stmt.While _ _ _ _) _) _ _ _)); (fail_if_success (with_reducible show wpAny _ _ (exec (Stmt.For _ _ _ _ _) _) _ _ _)); (fail_if_success (with_reducible show wpAny _ _ (exec (Stmt.Try _ _ _ _ _) _) _ _ _)); (fail_if_success (with_reducible show wpAny _ _ (pyIter _) (fun it s₂ => Loop _ _ _ _ _ _ _ _ _ _ it s₂) _ _)); (fail_if_success (with_reducible show wpAny _ _ (call (Value.ref _) _ _) _ _ _)); walk1; (try ((first | (with_reducible show wpAny _ _ (spliced _) _ _ _) | (with_reducible show wpAny _ _ (newList _) _ _ _) | (with_reducible show wpAny _ _ (execs _ _) _ _ _)); dsimp only))))))
    exact hQ _ _ _ (Kb.of _ F5.keep) ⟨t', rfl, by
      rcases ht' with ⟨p, rfl, rfl⟩ | rfl
      · exact tz p (.head _)
      · show TokOk s.toks (tk5 + 1)
        have hz : s.toks ≤ tk5 := hT5
        exact ⟨by omega, by omega⟩⟩
  (repeat' (first | ((with_reducible show TLe _ _ → _); intro hTzZq; (try dsimp only at hTzZq); (try dsimp only)) | ((with_reducible show wpAny _ _ (execs (_ :: _) _) _ _ _); (with_reducible refine execs_consT ‹TLe _ _› (by first | exact Nat.le_refl _ | exact Nat.le_add_right _ _ | omega) ?_); (try dsimp only)) | ((with_reducible show wpAny _ _ (execs [] _) _ _ _); (with_reducible refine wpAny_execs_nil ?_); (try dsimp only)) | (first | (k_unfold; (try dsimp only)) | ( (fail_if_success (with_reducible show wpAny _ _ (exec (Stmt.While _ _ _ _) _) _ _ _)); (fail_if_success (with_reducible show wpAny _ _ (exec (Stmt.For _ _ _ _ _) _) _ _ _)); (fail_if_success (with_reducible show wpAny _ _ (exec (Stmt.Try _ _ _ _ _) _) _ _ _)); (fail_if_success (with_reducible show wpAny _ _ (pyIter _) (fun it s₂ => Loop _ _ _ _ _ _ _ _ _ _ it s₂) _ _)); (fail_if_success (with_reducible show wpAny _ _ (call (Value.ref _) _ _) _ _ _)); walk1; (try ((first | (with_reducible show wpAny _ _ (spliced _) _ _ _) | (with_reducible show wpAny _ _ (newList _) _ _ _) | (with_reducible show wpAny _ _ (execs _ _) _ _ _)); dsimp only))))))
  rename IsRange _ _ _ _ _ _ _ _ => Ir
  rename Fr _ _ _ _ => Fa
  rename News _ _ _ _ => Na
  refine loop_rangeT (n := 32) (fun i m news => ∃ la vs n r tr, Has m [(Str.ofString "flags", .int (r : Nat) tr), (Str.ofString "names", .ref la)] ∧ (la, listO vs n) ∈ news ∧ TS s.toks vs (below f i) ∧ r = leftOf f i ∧ (r ≠ 0 ∨ f = 0))
    rfl Fa Na Ir (by omega) (by omega) ⟨_, [], 0, f, _, ⟨rfl, rfl, trivial⟩, .head _, TS.nil, by simp [leftOf], by omega⟩ ?_ ?_
  · (repeat ((first | (with_reducible rename Fr _ _ _ _ => zzZq) | (with_reducible rename News _ _ _ _ => zzZq) | (with_reducible rename IsRange _ _ _ _ _ _ _ _ => zzZq)); clear zzZq))
    rintro i ti m₁ news₁ I oI h tk hle1 hi ⟨la, vs, n, r, tr, em, ela, hs, hr, hf0⟩ hnI F1 N1
    replace F1 := fr_has F1 em
    have hT1 : TLe s.toks tk := Nat.le_trans (show s.toks ≤ _ from ‹TLe _ _›) hle1
    refine wpAny_assign_Name ?_
    (repeat' (first | ((with_reducible show TLe _ _ → _); intro hTzZq; (try dsimp only at hTzZq); (try dsimp only)) | ((with_reducible show wpAny _ _ (execs (_ :: _) _) _ _ _); (with_reducible refine execs_consT ‹TLe _ _› (by first | exact Nat.le_refl _ | exact Nat.le_add_right _ _ | omega) ?_); (try dsimp only)) | ((with_reducible show wpAny _ _ (execs [] _) _ _ _); (with_reducible refine wpAny_execs_nil ?_); (try dsimp only)) | (first | (k_unfold; (try dsimp only)) | ( (fail_if_success (with_reducible show wpAny _ _ (exec (Stmt.While _ _ _ _) _) _ _ _)); (fail_if_success (with_reducible show wpAny _ _ (exec (Stmt.For _ _ _ _ _) _) _ _ _)); (fail_if_success (with_reducible show wpAny _ _ (exec (Stmt.Try _ _ _ _ _) _) _ _ _)); (fail_if_success (with_reducible show wpAny _ _ (pyIter _) (fun it s₂ => Loop _ _ _ _ _ _ _ _ _ _ it s₂) _ _)); (fail_if_success (with_reducible show wpAny _ _ (call (Value.ref _) _ _) _ _ _)); walk1; (try ((first | (with_reducible show wpAny _ _ (spliced _) _ _ _) | (with_reducible show wpAny _ _ (newList _) _ _ _) | (with_reducible show wpAny _ _ (execs _ _) _ _ _)); dsimp only))))))
    · have hlaI := hnI _ ela
      have hb : f.testBit i = true := hitBit hf hf7 hi hr ‹_›
      obtain ⟨hi7, hi12, hx⟩ := hit_facts hf hf7 hi hb
      have hxv : Builtin.bitXor (r : Int) (1 * 2 ^ Int.toNat (i : Int)) = ((leftOf f (i + 1) : Nat) : Int) := by rw [show ((1 : Int) * 2 ^ Int.toNat (i : Int)) = ((2 ^ i : Nat) : Int) by rw [Int.one_mul, Int.toNat_natCast]; simp, bitXor_nat _ _ _ (by rw [hr]; exact hx)]
      obtain rfl | rfl | rfl | rfl | rfl | rfl : i = 7 ∨ i = 8 ∨ i = 9 ∨ i = 10 ∨ i = 11 ∨ i = 12 := by omega
      · refine listMethod_K ‹News _ _ _ _› (.tail _ ela) PySem.F.slot_list_append PySem.F.type_list_append ?_
        (repeat' (first | ((with_reducible show TLe _ _ → _); intro hTzZq; (try dsimp only at hTzZq); (try dsimp only)) | ((with_reducible show wpAny _ _ (execs (_ :: _) _) _ _ _); (with_reducible refine execs_consT ‹TLe _ _› (by first | exact Nat.le_refl _ | exact Nat.le_add_right _ _ | omega) ?_); (try dsimp only)) | ((with_reducible show wpAny _ _ (execs [] _) _ _ _); (with_reducible refine wpAny_execs_nil ?_); (try dsimp only)) | (first | (k_unfold; (try dsimp only)) | ( (fail_if_success (with_reducible show wpAny _ _ (exec (Stmt.While _ _ _ _) _) _ _ _)); (fail_if_success (with_reducible show wpAny _ _ (exec (Stmt.For _ _ _ _ _) _) _ _ _)); (fail_if_success (with_reducible show wpAny _ _ (exec (Stmt.Try _ _ _ _ _) _) _ _ _)); (fail_if_success (with_reducible show wpAny _ _ (pyIter _) (fun it s₂ => Loop _ _ _ _ _ _ _ _ _ _ it s₂) _ _)); (fail_if_success (with_reducible show wpAny _ _ (call (Value.ref _) _ _) _ _ _)); walk1; (try ((first | (with_reducible show wpAny _ _ (spliced _) _ _ _) | (with_reducible show wpAny _ _ (newList _) _ _ _) | (with_reducible show wpAny _ _ (execs _ _) _ _ _)); dsimp only))))))
        show wpAny _ _ (call (.builtin "dict.get") [.ref 42, .int 128 _, .str _ _]) _ _ _
        refine flag_get (G.keeps (Fr.keep ‹Fr _ _ _ _›)).X (some _) rfl ?_
        (repeat' (first | ((with_reducible show TLe _ _ → _); intro hTzZq; (try dsimp only at hTzZq); (try dsimp only)) | ((with_reducible show wpAny _ _ (execs (_ :: _) _) _ _ _); (with_reducible refine execs_consT ‹TLe _ _› (by first | exact Nat.le_refl _ | exact Nat.le_add_right _ _ | omega) ?_); (try dsimp only)) | ((with_reducible show wpAny _ _ (execs [] _) _ _ _); (with_reducible refine wpAny_execs_nil ?_); (try dsimp only)) | (first | (k_unfold; (try dsimp only)) | ( (fail_if_success (with_reducible show wpAny _ _ (exec (Stmt.While _ _ _ _) _) _ _ _)); (fail_if_success (with_reducible show wpAny _ _ (exec (Stmt.For _ _ _ _ _) _) _ _ _)); (fail_if_success (with_reducible show wpAny _ _ (exec (Stmt.Try _ _ _ _ _) _) _ _ _)); (fail_if_success (with_reducible show wpAny _ _ (pyIter _) (fun it s₂ => Loop _ _ _ _ _ _ _ _ _ _ it s₂) _ _)); (fail_if_success (with_reducible show wpAny _ _ (call (Value.ref _) _ _) _ _ _)); walk1; (try ((first | (with_reducible show wpAny _ _ (spliced _) _ _ _) | (with_reducible show wpAny _ _ (newList _) _ _ _) | (with_reducible show wpAny _ _ (execs _ _) _ _ _)); dsimp only))))))
        show wpAny _ _ (call (.builtin "list.append") [.ref la, .str (wordAt 7) _]) _ _ _
        refine r_append' ‹Fr _ _ _ _› ‹News _ _ _ _› (.tail _ ela) (by have := hs.strs.length; have := below_length f 7; omega) ?_
        intro h7 F7 N7
        (repeat' (first | ((with_reducible show TLe _ _ → _); intro hTzZq; (try dsimp only at hTzZq); (try dsimp only)) | ((with_reducible show wpAny _ _ (execs (_ :: _) _) _ _ _); (with_reducible refine execs_consT ‹TLe _ _› (by first | exact Nat.le_refl _ | exact Nat.le_add_right _ _ | omega) ?_); (try dsimp only)) | ((with_reducible show wpAny _ _ (execs [] _) _ _ _); (with_reducible refine wpAny_execs_nil ?_); (try dsimp only)) | (first | (k_unfold; (try dsimp only)) | ( (fail_if_success (with_reducible show wpAny _ _ (exec (Stmt.While _ _ _ _) _) _ _ _)); (fail_if_success (with_reducible show wpAny _ _ (exec (Stmt.For _ _ _ _ _) _) _ _ _)); (fail_if_success (with_reducible show wpAny _ _ (exec (Stmt.Try _ _ _ _ _) _) _ _ _)); (fail_if_success (with_reducible show wpAny _ _ (pyIter _) (fun it s₂ => Loop _ _ _ _ _ _ _ _ _ _ it s₂) _ _)); (fail_if_success (with_reducible show wpAny _ _ (call (Value.ref _) _ _) _ _ _)); walk1; (try ((first | (with_reducible show wpAny _ _ (spliced _) _ _ _) | (with_reducible show wpAny _ _ (newList _) _ _ _) | (with_reducible show wpAny _ _ (execs _ _) _ _ _)); dsimp only))))))
        · refine turn_end (I := I) (oI := oI) (.tail _ (mem_fil.mpr ⟨.head _, Ne.symm (hnI _ ela)⟩)) ‹_› ‹_› ⟨la, _, n + 1, leftOf f (7 + 1), _, ⟨congrArg (fun z => some (Value.int z _)) hxv, rfl, trivial⟩, mem_fil.mpr ⟨.head _, hlaI⟩, by rw [below_hit hb]; exact TS.snoc hs (by first | exact ⟨by decide, .inl (by decide)⟩ | exact tokok_fresh hT0 ‹TLe _ _› | exact tokok_fresh hT0 (by clear hQ; unfold TLe at *; omega)), rfl, .inl ?_⟩
          rename ¬ Builtin.bitXor _ _ = 0 => hne
          rw [hxv] at hne
          exact fun z => hne (by rw [z]; rfl)
        · rename Builtin.bitXor _ _ = 0 => hne
          rw [hxv] at hne
          refine ⟨la, _, n + 1, _, _, _, _, rfl, ‹_›, ‹_›, ⟨rfl, trivial⟩, .head _, ?_⟩
          rw [wordsL, if_neg (fun z => by rw [z] at hb; simp at hb), ← below_end (i := 7 + 1) hf hf7 (by omega) (by exact_mod_cast hne), below_hit hb]
          refine ⟨TS.snoc hs (by first | exact ⟨by decide, .inl (by decide)⟩ | exact tokok_fresh hT0 ‹TLe _ _› | exact tokok_fresh hT0 (by clear hQ; unfold TLe at *; omega)), ‹TLe _ _›⟩
      · refine listMethod_K ‹News _ _ _ _› (.tail _ ela) PySem.F.slot_list_append PySem.F.type_list_append ?_
        (repeat' (first | ((with_reducible show TLe _ _ → _); intro hTzZq; (try dsimp only at hTzZq); (try dsimp only)) | ((with_reducible show wpAny _ _ (execs (_ :: _) _) _ _ _); (with_reducible refine execs_consT ‹TLe _ _› (by first | exact Nat.le_refl _ | exact Nat.le_add_right _ _ | omega) ?_); (try dsimp only)) | ((with_reducible show wpAny _ _ (execs [] _) _ _ _); (with_reducible refine wpAny_execs_nil ?_); (try dsimp only)) | (first | (k_unfold; (try dsimp only)) | ( (fail_if_success (with_reducible show wpAny _ _ (exec (Stmt.While _ _ _ _) _) _ _ _)); (fail_if_success (with_reducible show wpAny _ _ (exec (Stmt.For _ _ _ _ _) _) _ _ _)); (fail_if_success (with_reducible show wpAny _ _ (exec (Stmt.Try _ _ _ _ _) _) _ _ _)); (fail_if_success (with_reducible show wpAny _ _ (pyIter _) (fun it s₂ => Loop _ _ _ _ _ _ _ _ _ _ it s₂) _ _)); (fail_if_success (with_reducible show wpAny _ _ (call (Value.ref _) _ _) _ _ _)); walk1; (try ((first | (with_reducible show wpAny _ _ (spliced _) _ _ _) | (with_reducible show wpAny _ _ (newList _) _ _ _) | (with_reducible show wpAny _ _ (execs _ _) _ _ _)); dsimp only))))))
        show wpAny _ _ (call (.builtin "dict.get") [.ref 42, .int 256 _, .str _ _]) _ _ _
        refine flag_get (G.keeps (Fr.keep ‹Fr _ _ _ _›)).X (some _) rfl ?_
        (repeat' (first | ((with_reducible show TLe _ _ → _); intro hTzZq; (try dsimp only at hTzZq); (try dsimp only)) | ((with_reducible show wpAny _ _ (execs (_ :: _) _) _ _ _); (with_reducible refine execs_consT ‹TLe _ _› (by first | exact Nat.le_refl _ | exact Nat.le_add_right _ _ | omega) ?_); (try dsimp only)) | ((with_reducible show wpAny _ _ (execs [] _) _ _ _); (with_reducible refine wpAny_execs_nil ?_); (try dsimp only)) | (first | (k_unfold; (try dsimp only)) | ( (fail_if_success (with_reducible show wpAny _ _ (exec (Stmt.While _ _ _ _) _) _ _ _)); (fail_if_success (with_reducible show wpAny _ _ (exec (Stmt.For _ _ _ _ _) _) _ _ _)); (fail_if_success (with_reducible show wpAny _ _ (exec (Stmt.Try _ _ _ _ _) _) _ _ _)); (fail_if_success (with_reducible show wpAny _ _ (pyIter _) (fun it s₂ => Loop _ _ _ _ _ _ _ _ _ _ it s₂) _ _)); (fail_if_success (with_reducible show wpAny _ _ (call (Value.ref _) _ _) _ _ _)); walk1; (try ((first | (with_reducible show wpAny _ _ (spliced _) _ _ _) | (with_reducible show wpAny _ _ (newList _) _ _ _) | (with_reducible show wpAny _ _ (execs _ _) _ _ _)); dsimp only))))))
        show wpAny _ _ (call (.builtin "list.append") [.ref la, .str (wordAt 8) _]) _ _ _
        refine r_append' ‹Fr _ _ _ _› ‹News _ _ _ _› (.tail _ ela) (by have := hs.strs.length; have := below_length f 8; omega) ?_
        intro h7 F7 N7
        (repeat' (first | ((with_reducible show TLe _ _ → _); intro hTzZq; (try dsimp only at hTzZq); (try dsimp only)) | ((with_reducible show wpAny _ _ (execs (_ :: _) _) _ _ _); (with_reducible refine execs_consT ‹TLe _ _› (by first | exact Nat.le_refl _ | exact Nat.le_add_right _ _ | omega) ?_); (try dsimp only)) | ((with_reducible show wpAny _ _ (execs [] _) _ _ _); (with_reducible refine wpAny_execs_nil ?_); (try dsimp only)) | (first | (k_unfold; (try dsimp only)) | ( (fail_if_success (with_reducible show wpAny _ _ (exec (Stmt.While _ _ _ _) _) _ _ _)); (fail_if_success (with_reducible show wpAny _ _ (exec (Stmt.For _ _ _ _ _) _) _ _ _)); (fail_if_success (with_reducible show wpAny _ _ (exec (Stmt.Try _ _ _ _ _) _) _ _ _)); (fail_if_success (with_reducible show wpAny _ _ (pyIter _) (fun it s₂ => Loop _ _ _ _ _ _ _ _ _ _ it s₂) _ _)); (fail_if_success (with_reducible show wpAny _ _ (call (Value.ref _) _ _) _ _ _)); walk1; (try ((first | (with_reducible show wpAny _ _ (spliced _) _ _ _) | (with_reducible show wpAny _ _ (newList _) _ _ _) | (with_reducible show wpAny _ _ (execs _ _) _ _ _)); dsimp only))))))
        · refine turn_end (I := I) (oI := oI) (.tail _ (mem_fil.mpr ⟨.head _, Ne.symm (hnI _ ela)⟩)) ‹_› ‹_› ⟨la, _, n + 1, leftOf f (8 + 1), _, ⟨congrArg (fun z => some (Value.int z _)) hxv, rfl, trivial⟩, mem_fil.mpr ⟨.head _, hlaI⟩, by rw [below_hit hb]; exact TS.snoc hs (by first | exact ⟨by decide, .inl (by decide)⟩ | exact tokok_fresh hT0 ‹TLe _ _› | exact tokok_fresh hT0 (by clear hQ; unfold TLe at *; omega)), rfl, .inl ?_⟩
          rename ¬ Builtin.bitXor _ _ = 0 => hne
          rw [hxv] at hne
          exact fun z => hne (by rw [z]; rfl)
        · rename Builtin.bitXor _ _ = 0 => hne
          rw [hxv] at hne
          refine ⟨la, _, n + 1, _, _, _, _, rfl, ‹_›, ‹_›, ⟨rfl, trivial⟩, .head _, ?_⟩
          rw [wordsL, if_neg (fun z => by rw [z] at hb; simp at hb), ← below_end (i := 8 + 1) hf hf7 (by omega) (by exact_mod_cast hne), below_hit hb]
          refine ⟨TS.snoc hs (by first | exact ⟨by decide, .inl (by decide)⟩ | exact tokok_fresh hT0 ‹TLe _ _› | exact tokok_fresh hT0 (by clear hQ; unfold TLe at *; omega)), ‹TLe _ _›⟩
      · refine listMethod_K ‹News _ _ _ _› (.tail _ ela) PySem.F.slot_list_append PySem.F.type_list_append ?_
        (repeat' (first | ((with_reducible show TLe _ _ → _); intro hTzZq; (try dsimp only at hTzZq); (try dsimp only)) | ((with_reducible show wpAny _ _ (execs (_ :: _) _) _ _ _); (with_reducible refine execs_consT ‹TLe _ _› (by first | exact Nat.le_refl _ | exact Nat.le_add_right _ _ | omega) ?_); (try dsimp only)) | ((with_reducible show wpAny _ _ (execs [] _) _ _ _); (with_reducible refine wpAny_execs_nil ?_); (try dsimp only)) | (first | (k_unfold; (try dsimp only)) | ( (fail_if_success (with_reducible show wpAny _ _ (exec (Stmt.While _ _ _ _) _) _ _ _)); (fail_if_success (with_reducible show wpAny _ _ (exec (Stmt.For _ _ _ _ _) _) _ _ _)); (fail_if_success (with_reducible show wpAny _ _ (exec (Stmt.Try _ _ _ _ _) _) _ _ _)); (fail_if_success (with_reducible show wpAny _ _ (pyIter _) (fun it s₂ => Loop _ _ _ _ _ _ _ _ _ _ it s₂) _ _)); (fail_if_success (with_reducible show wpAny _ _ (call (Value.ref _) _ _) _ _ _)); walk1; (try ((first | (with_reducible show wpAny _ _ (spliced _) _ _ _) | (with_reducible show wpAny _ _ (newList _) _ _ _) | (with_reducible show wpAny _ _ (execs _ _) _ _ _)); dsimp only))))))
        show wpAny _ _ (call (.builtin "dict.get") [.ref 42, .int 512 _, .str _ _]) _ _ _
        refine flag_get (G.keeps (Fr.keep ‹Fr _ _ _ _›)).X (some _) rfl ?_
        (repeat' (first | ((with_reducible show TLe _ _ → _); intro hTzZq; (try dsimp only at hTzZq); (try dsimp only)) | ((with_reducible show wpAny _ _ (execs (_ :: _) _) _ _ _); (with_reducible refine execs_consT ‹TLe _ _› (by first | exact Nat.le_refl _ | exact Nat.le_add_right _ _ | omega) ?_); (try dsimp only)) | ((with_reducible show wpAny _ _ (execs [] _) _ _ _); (with_reducible refine wpAny_execs_nil ?_); (try dsimp only)) | (first | (k_unfold; (try dsimp only)) | ( (fail_if_success (with_reducible show wpAny _ _ (exec (Stmt.While _ _ _ _) _) _ _ _)); (fail_if_success (with_reducible show wpAny _ _ (exec (Stmt.For _ _ _ _ _) _) _ _ _)); (fail_if_success (with_reducible show wpAny _ _ (exec (Stmt.Try _ _ _ _ _) _) _ _ _)); (fail_if_success (with_reducible show wpAny _ _ (pyIter _) (fun it s₂ => Loop _ _ _ _ _ _ _ _ _ _ it s₂) _ _)); (fail_if_success (with_reducible show wpAny _ _ (call (Value.ref _) _ _) _ _ _)); walk1; (try ((first | (with_reducible show wpAny _ _ (spliced _) _ _ _) | (with_reducible show wpAny _ _ (newList _) _ _ _) | (with_reducible show wpAny _ _ (execs _ _) _ _ _)); dsimp only))))))
        show wpAny _ _ (call (.builtin "list.append") [.ref la, .str (wordAt 9) _]) _ _ _
        refine r_append' ‹Fr _ _ _ _› ‹News _ _ _ _› (.tail _ ela) (by have := hs.strs.length; have := below_length f 9; omega) ?_
        intro h7 F7 N7
        (repeat' (first | ((with_reducible show TLe _ _ → _); intro hTzZq; (try dsimp only at hTzZq); (try dsimp only)) | ((with_reducible show wpAny _ _ (execs (_ :: _) _) _ _ _); (with_reducible refine execs_consT ‹TLe _ _› (by first | exact Nat.le_refl _ | exact Nat.le_add_right _ _ | omega) ?_); (try dsimp only)) | ((with_reducible show wpAny _ _ (execs [] _) _ _ _); (with_reducible refine wpAny_execs_nil ?_); (try dsimp only)) | (first | (k_unfold; (try dsimp only)) | ( (fail_if_success (with_reducible show wpAny _ _ (exec (Stmt.While _ _ _ _) _) _ _ _)); (fail_if_success (with_reducible show wpAny _ _ (exec (Stmt.For _ _ _ _ _) _) _ _ _)); (fail_if_success (with_reducible show wpAny _ _ (exec (Stmt.Try _ _ _ _ _) _) _ _ _)); (fail_if_success (with_reducible show wpAny _ _ (pyIter _) (fun it s₂ => Loop _ _ _ _ _ _ _ _ _ _ it s₂) _ _)); (fail_if_success (with_reducible show wpAny _ _ (call (Value.ref _) _ _) _ _ _)); walk1; (try ((first | (with_reducible show wpAny _ _ (spliced _) _ _ _) | (with_reducible show wpAny _ _ (newList _) _ _ _) | (with_reducible show wpAny _ _ (execs _ _) _ _ _)); dsimp only))))))
        · refine turn_end (I := I) (oI := oI) (.tail _ (mem_fil.mpr ⟨.head _, Ne.symm (hnI _ ela)⟩)) ‹_› ‹_› ⟨la, _, n + 1, leftOf f (9 + 1), _, ⟨congrArg (fun z => some (Value.int z _)) hxv, rfl, trivial⟩, mem_fil.mpr ⟨.head _, hlaI⟩, by rw [below_hit hb]; exact TS.snoc hs (by first | exact ⟨by decide, .inl (by decide)⟩ | exact tokok_fresh hT0 ‹TLe _ _› | exact tokok_fresh hT0 (by clear hQ; unfold TLe at *; omega)), rfl, .inl ?_⟩
          rename ¬ Builtin.bitXor _ _ = 0 => hne
          rw [hxv] at hne
          exact fun z => hne (by rw [z]; rfl)
        · rename Builtin.bitXor _ _ = 0 => hne
          rw [hxv] at hne
          refine ⟨la, _, n + 1, _, _, _, _, rfl, ‹_›, ‹_›, ⟨rfl, trivial⟩, .head _, ?_⟩
          rw [wordsL, if_neg (fun z => by rw [z] at hb; simp at hb), ← below_end (i := 9 + 1) hf hf7 (by omega) (by exact_mod_cast hne), below_hit hb]
          refine ⟨TS.snoc hs (by first | exact ⟨by decide, .inl (by decide)⟩ | exact tokok_fresh hT0 ‹TLe _ _› | exact tokok_fresh hT0 (by clear hQ; unfold TLe at *; omega)), ‹TLe _ _›⟩
      · refine listMethod_K ‹News _ _ _ _› (.tail _ ela) PySem.F.slot_list_append PySem.F.type_list_append ?_
        (repeat' (first | ((with_reducible show TLe _ _ → _); intro hTzZq; (try dsimp only at hTzZq); (try dsimp only)) | ((with_reducible show wpAny _ _ (execs (_ :: _) _) _ _ _); (with_reducible refine execs_consT ‹TLe _ _› (by first | exact Nat.le_refl _ | exact Nat.le_add_right _ _ | omega) ?_); (try dsimp only)) | ((with_reducible show wpAny _ _ (execs [] _) _ _ _); (with_reducible refine wpAny_execs_nil ?_); (try dsimp only)) | (first | (k_unfold; (try dsimp only)) | ( (fail_if_success (with_reducible show wpAny _ _ (exec (Stmt.While _ _ _ _) _) _ _ _)); (fail_if_success (with_reducible show wpAny _ _ (exec (Stmt.For _ _ _ _ _) _) _ _ _)); (fail_if_success (with_reducible show wpAny _ _ (exec (Stmt.Try _ _ _ _ _) _) _ _ _)); (fail_if_success (with_reducible show wpAny _ _ (pyIter _) (fun it s₂ => Loop _ _ _ _ _ _ _ _ _ _ it s₂) _ _)); (fail_if_success (with_reducible show wpAny _ _ (call (Value.ref _) _ _) _ _ _)); walk1; (try ((first | (with_reducible show wpAny _ _ (spliced _) _ _ _) | (with_reducible show wpAny _ _ (newList _) _ _ _) | (with_reducible show wpAny _ _ (execs _ _) _ _ _)); dsimp only))))))
        show wpAny _ _ (call (.builtin "dict.get") [.ref 42, .int 1024 _, .str _ _]) _ _ _
        refine flag_get (G.keeps (Fr.keep ‹Fr _ _ _ _›)).X (none) rfl ?_
        (repeat' (first | ((with_reducible show TLe _ _ → _); intro hTzZq; (try dsimp only at hTzZq); (try dsimp only)) | ((with_reducible show wpAny _ _ (execs (_ :: _) _) _ _ _); (with_reducible refine execs_consT ‹TLe _ _› (by first | exact Nat.le_refl _ | exact Nat.le_add_right _ _ | omega) ?_); (try dsimp only)) | ((with_reducible show wpAny _ _ (execs [] _) _ _ _); (with_reducible refine wpAny_execs_nil ?_); (try dsimp only)) | (first | (k_unfold; (try dsimp only)) | ( (fail_if_success (with_reducible show wpAny _ _ (exec (Stmt.While _ _ _ _) _) _ _ _)); (fail_if_success (with_reducible show wpAny _ _ (exec (Stmt.For _ _ _ _ _) _) _ _ _)); (fail_if_success (with_reducible show wpAny _ _ (exec (Stmt.Try _ _ _ _ _) _) _ _ _)); (fail_if_success (with_reducible show wpAny _ _ (pyIter _) (fun it s₂ => Loop _ _ _ _ _ _ _ _ _ _ it s₂) _ _)); (fail_if_success (with_reducible show wpAny _ _ (call (Value.ref _) _ _) _ _ _)); walk1; (try ((first | (with_reducible show wpAny _ _ (spliced _) _ _ _) | (with_reducible show wpAny _ _ (newList _) _ _ _) | (with_reducible show wpAny _ _ (execs _ _) _ _ _)); dsimp only))))))
        rw [hexAt10]
        show wpAny _ _ (call (.builtin "list.append") [.ref la, .str (wordAt 10) _]) _ _ _
        refine r_append' ‹Fr _ _ _ _› ‹News _ _ _ _› (.tail _ ela) (by have := hs.strs.length; have := below_length f 10; omega) ?_
        intro h7 F7 N7
        (repeat' (first | ((with_reducible show TLe _ _ → _); intro hTzZq; (try dsimp only at hTzZq); (try dsimp only)) | ((with_reducible show wpAny _ _ (execs (_ :: _) _) _ _ _); (with_reducible refine execs_consT ‹TLe _ _› (by first | exact Nat.le_refl _ | exact Nat.le_add_right _ _ | omega) ?_); (try dsimp only)) | ((with_reducible show wpAny _ _ (execs [] _) _ _ _); (with_reducible refine wpAny_execs_nil ?_); (try dsimp only)) | (first | (k_unfold; (try dsimp only)) | ( (fail_if_success (with_reducible show wpAny _ _ (exec (Stmt.While _ _ _ _) _) _ _ _)); (fail_if_success (with_reducible show wpAny _ _ (exec (Stmt.For _ _ _ _ _) _) _ _ _)); (fail_if_success (with_reducible show wpAny _ _ (exec (Stmt.Try _ _ _ _ _) _) _ _ _)); (fail_if_success (with_reducible show wpAny _ _ (pyIter _) (fun it s₂ => Loop _ _ _ _ _ _ _ _ _ _ it s₂) _ _)); (fail_if_success (with_reducible show wpAny _ _ (call (Value.ref _) _ _) _ _ _)); walk1; (try ((first | (with_reducible show wpAny _ _ (spliced _) _ _ _) | (with_reducible show wpAny _ _ (newList _) _ _ _) | (with_reducible show wpAny _ _ (execs _ _) _ _ _)); dsimp only))))))
        · refine turn_end (I := I) (oI := oI) (.tail _ (mem_fil.mpr ⟨.head _, Ne.symm (hnI _ ela)⟩)) ‹_› ‹_› ⟨la, _, n + 1, leftOf f (10 + 1), _, ⟨congrArg (fun z => some (Value.int z _)) hxv, rfl, trivial⟩, mem_fil.mpr ⟨.head _, hlaI⟩, by rw [below_hit hb]; exact TS.snoc hs (by first | exact ⟨by decide, .inl (by decide)⟩ | exact tokok_fresh hT0 ‹TLe _ _› | exact tokok_fresh hT0 (by clear hQ; unfold TLe at *; omega)), rfl, .inl ?_⟩
          rename ¬ Builtin.bitXor _ _ = 0 => hne
          rw [hxv] at hne
          exact fun z => hne (by rw [z]; rfl)
        · rename Builtin.bitXor _ _ = 0 => hne
          rw [hxv] at hne
          refine ⟨la, _, n + 1, _, _, _, _, rfl, ‹_›, ‹_›, ⟨rfl, trivial⟩, .head _, ?_⟩
          rw [wordsL, if_neg (fun z => by rw [z] at hb; simp at hb), ← below_end (i := 10 + 1) hf hf7 (by omega) (by exact_mod_cast hne), below_hit hb]
          refine ⟨TS.snoc hs (by first | exact ⟨by decide, .inl (by decide)⟩ | exact tokok_fresh hT0 ‹TLe _ _› | exact tokok_fresh hT0 (by clear hQ; unfold TLe at *; omega)), ‹TLe _ _›⟩
      · refine listMethod_K ‹News _ _ _ _› (.tail _ ela) PySem.F.slot_list_append PySem.F.type_list_append ?_
        (repeat' (first | ((with_reducible show TLe _ _ → _); intro hTzZq; (try dsimp only at hTzZq); (try dsimp only)) | ((with_reducible show wpAny _ _ (execs (_ :: _) _) _ _ _); (with_reducible refine execs_consT ‹TLe _ _› (by first | exact Nat.le_refl _ | exact Nat.le_add_right _ _ | omega) ?_); (try dsimp only)) | ((with_reducible show wpAny _ _ (execs [] _) _ _ _); (with_reducible refine wpAny_execs_nil ?_); (try dsimp only)) | (first | (k_unfold; (try dsimp only)) | ( (fail_if_success (with_reducible show wpAny _ _ (exec (Stmt.While _ _ _ _) _) _ _ _)); (fail_if_success (with_reducible show wpAny _ _ (exec (Stmt.For _ _ _ _ _) _) _ _ _)); (fail_if_success (with_reducible show wpAny _ _ (exec (Stmt.Try _ _ _ _ _) _) _ _ _)); (fail_if_success (with_reducible show wpAny _ _ (pyIter _) (fun it s₂ => Loop _ _ _ _ _ _ _ _ _ _ it s₂) _ _)); (fail_if_success (with_reducible show wpAny _ _ (call (Value.ref _) _ _) _ _ _)); walk1; (try ((first | (with_reducible show wpAny _ _ (spliced _) _ _ _) | (with_reducible show wpAny _ _ (newList _) _ _ _) | (with_reducible show wpAny _ _ (execs _ _) _ _ _)); dsimp only))))))
        show wpAny _ _ (call (.builtin "dict.get") [.ref 42, .int 2048 _, .str _ _]) _ _ _
        refine flag_get (G.keeps (Fr.keep ‹Fr _ _ _ _›)).X (none) rfl ?_
        (repeat' (first | ((with_reducible show TLe _ _ → _); intro hTzZq; (try dsimp only at hTzZq); (try dsimp only)) | ((with_reducible show wpAny _ _ (execs (_ :: _) _) _ _ _); (with_reducible refine execs_consT ‹TLe _ _› (by first | exact Nat.le_refl _ | exact Nat.le_add_right _ _ | omega) ?_); (try dsimp only)) | ((with_reducible show wpAny _ _ (execs [] _) _ _ _); (with_reducible refine wpAny_execs_nil ?_); (try dsimp only)) | (first | (k_unfold; (try dsimp only)) | ( (fail_if_success (with_reducible show wpAny _ _ (exec (Stmt.While _ _ _ _) _) _ _ _)); (fail_if_success (with_reducible show wpAny _ _ (exec (Stmt.For _ _ _ _ _) _) _ _ _)); (fail_if_success (with_reducible show wpAny _ _ (exec (Stmt.Try _ _ _ _ _) _) _ _ _)); (fail_if_success (with_reducible show wpAny _ _ (pyIter _) (fun it s₂ => Loop _ _ _ _ _ _ _ _ _ _ it s₂) _ _)); (fail_if_success (with_reducible show wpAny _ _ (call (Value.ref _) _ _) _ _ _)); walk1; (try ((first | (with_reducible show wpAny _ _ (spliced _) _ _ _) | (with_reducible show wpAny _ _ (newList _) _ _ _) | (with_reducible show wpAny _ _ (execs _ _) _ _ _)); dsimp only))))))
        rw [hexAt11]
        show wpAny _ _ (call (.builtin "list.append") [.ref la, .str (wordAt 11) _]) _ _ _
        refine r_append' ‹Fr _ _ _ _› ‹News _ _ _ _› (.tail _ ela) (by have := hs.strs.length; have := below_length f 11; omega) ?_
        intro h7 F7 N7
        (repeat' (first | ((with_reducible show TLe _ _ → _); intro hTzZq; (try dsimp only at hTzZq); (try dsimp only)) | ((with_reducible show wpAny _ _ (execs (_ :: _) _) _ _ _); (with_reducible refine execs_consT ‹TLe _ _› (by first | exact Nat.le_refl _ | exact Nat.le_add_right _ _ | omega) ?_); (try dsimp only)) | ((with_reducible show wpAny _ _ (execs [] _) _ _ _); (with_reducible refine wpAny_execs_nil ?_); (try dsimp only)) | (first | (k_unfold; (try dsimp only)) | ( (fail_if_success (with_reducible show wpAny _ _ (exec (Stmt.While _ _ _ _) _) _ _ _)); (fail_if_success (with_reducible show wpAny _ _ (exec (Stmt.For _ _ _ _ _) _) _ _ _)); (fail_if_success (with_reducible show wpAny _ _ (exec (Stmt.Try _ _ _ _ _) _) _ _ _)); (fail_if_success (with_reducible show wpAny _ _ (pyIter _) (fun it s₂ => Loop _ _ _ _ _ _ _ _ _ _ it s₂) _ _)); (fail_if_success (with_reducible show wpAny _ _ (call (Value.ref _) _ _) _ _ _)); walk1; (try ((first | (with_reducible show wpAny _ _ (spliced _) _ _ _) | (with_reducible show wpAny _ _ (newList _) _ _ _) | (with_reducible show wpAny _ _ (execs _ _) _ _ _)); dsimp only))))))
        · refine turn_end (I := I) (oI := oI) (.tail _ (mem_fil.mpr ⟨.head _, Ne.symm (hnI _ ela)⟩)) ‹_› ‹_› ⟨la, _, n + 1, leftOf f (11 + 1), _, ⟨congrArg (fun z => some (Value.int z _)) hxv, rfl, trivial⟩, mem_fil.mpr ⟨.head _, hlaI⟩, by rw [below_hit hb]; exact TS.snoc hs (by first | exact ⟨by decide, .inl (by decide)⟩ | exact tokok_fresh hT0 ‹TLe _ _› | exact tokok_fresh hT0 (by clear hQ; unfold TLe at *; omega)), rfl, .inl ?_⟩
          rename ¬ Builtin.bitXor _ _ = 0 => hne
          rw [hxv] at hne
          exact fun z => hne (by rw [z]; rfl)
        · rename Builtin.bitXor _ _ = 0 => hne
          rw [hxv] at hne
          refine ⟨la, _, n + 1, _, _, _, _, rfl, ‹_›, ‹_›, ⟨rfl, trivial⟩, .head _, ?_⟩
          rw [wordsL, if_neg (fun z => by rw [z] at hb; simp at hb), ← below_end (i := 11 + 1) hf hf7 (by omega) (by exact_mod_cast hne), below_hit hb]
          refine ⟨TS.snoc hs (by first | exact ⟨by decide, .inl (by decide)⟩ | exact tokok_fresh hT0 ‹TLe _ _› | exact tokok_fresh hT0 (by clear hQ; unfold TLe at *; omega)), ‹TLe _ _›⟩
      · refine listMethod_K ‹News _ _ _ _› (.tail _ ela) PySem.F.slot_list_append PySem.F.type_list_append ?_
        (repeat' (first | ((with_reducible show TLe _ _ → _); intro hTzZq; (try dsimp only at hTzZq); (try dsimp only)) | ((with_reducible show wpAny _ _ (execs (_ :: _) _) _ _ _); (with_reducible refine execs_consT ‹TLe _ _› (by first | exact Nat.le_refl _ | exact Nat.le_add_right _ _ | omega) ?_); (try dsimp only)) | ((with_reducible show wpAny _ _ (execs [] _) _ _ _); (with_reducible refine wpAny_execs_nil ?_); (try dsimp only)) | (first | (k_unfold; (try dsimp only)) | ( (fail_if_success (with_reducible show wpAny _ _ (exec (Stmt.While _ _ _ _) _) _ _ _)); (fail_if_success (with_reducible show wpAny _ _ (exec (Stmt.For _ _ _ _ _) _) _ _ _)); (fail_if_success (with_reducible show wpAny _ _ (exec (Stmt.Try _ _ _ _ _) _) _ _ _)); (fail_if_success (with_reducible show wpAny _ _ (pyIter _) (fun it s₂ => Loop _ _ _ _ _ _ _ _ _ _ it s₂) _ _)); (fail_if_success (with_reducible show wpAny _ _ (call (Value.ref _) _ _) _ _ _)); walk1; (try ((first | (with_reducible show wpAny _ _ (spliced _) _ _ _) | (with_reducible show wpAny _ _ (newList _) _ _ _) | (with_reducible show wpAny _ _ (execs _ _) _ _ _)); dsimp only))))))
        show wpAny _ _ (call (.builtin "dict.get") [.ref 42, .int 4096 _, .str _ _]) _ _ _
        refine flag_get (G.keeps (Fr.keep ‹Fr _ _ _ _›)).X (none) rfl ?_
        (repeat' (first | ((with_reducible show TLe _ _ → _); intro hTzZq; (try dsimp only at hTzZq); (try dsimp only)) | ((with_reducible show wpAny _ _ (execs (_ :: _) _) _ _ _); (with_reducible refine execs_consT ‹TLe _ _› (by first | exact Nat.le_refl _ | exact Nat.le_add_right _ _ | omega) ?_); (try dsimp only)) | ((with_reducible show wpAny _ _ (execs [] _) _ _ _); (with_reducible refine wpAny_execs_nil ?_); (try dsimp only)) | (first | (k_unfold; (try dsimp only)) | ( (fail_if_success (with_reducible show wpAny _ _ (exec (Stmt.While _ _ _ _) _) _ _ _)); (fail_if_success (with_reducible show wpAny _ _ (exec (Stmt.For _ _ _ _ _) _) _ _ _)); (fail_if_success (with_reducible show wpAny _ _ (exec (Stmt.Try _ _ _ _ _) _) _ _ _)); (fail_if_success (with_reducible show wpAny _ _ (pyIter _) (fun it s₂ => Loop _ _ _ _ _ _ _ _ _ _ it s₂) _ _)); (fail_if_success (with_reducible show wpAny _ _ (call (Value.ref _) _ _) _ _ _)); walk1; (try ((first | (with_reducible show wpAny _ _ (spliced _) _ _ _) | (with_reducible show wpAny _ _ (newList _) _ _ _) | (with_reducible show wpAny _ _ (execs _ _) _ _ _)); dsimp only))))))
        rw [hexAt12]
        show wpAny _ _ (call (.builtin "list.append") [.ref la, .str (wordAt 12) _]) _ _ _
        refine r_append' ‹Fr _ _ _ _› ‹News _ _ _ _› (.tail _ ela) (by have := hs.strs.length; have := below_length f 12; omega) ?_
        intro h7 F7 N7
        (repeat' (first | ((with_reducible show TLe _ _ → _); intro hTzZq; (try dsimp only at hTzZq); (try dsimp only)) | ((with_reducible show wpAny _ _ (execs (_ :: _) _) _ _ _); (with_reducible refine execs_consT ‹TLe _ _› (by first | exact Nat.le_refl _ | exact Nat.le_add_right _ _ | omega) ?_); (try dsimp only)) | ((with_reducible show wpAny _ _ (execs [] _) _ _ _); (with_reducible refine wpAny_execs_nil ?_); (try dsimp only)) | (first | (k_unfold; (try dsimp only)) | ( (fail_if_success (with_reducible show wpAny _ _ (exec (Stmt.While _ _ _ _) _) _ _ _)); (fail_if_success (with_reducible show wpAny _ _ (exec (Stmt.For _ _ _ _ _) _) _ _ _)); (fail_if_success (with_reducible show wpAny _ _ (exec (Stmt.Try _ _ _ _ _) _) _ _ _)); (fail_if_success (with_reducible show wpAny _ _ (pyIter _) (fun it s₂ => Loop _ _ _ _ _ _ _ _ _ _ it s₂) _ _)); (fail_if_success (with_reducible show wpAny _ _ (call (Value.ref _) _ _) _ _ _)); walk1; (try ((first | (with_reducible show wpAny _ _ (spliced _) _ _ _) | (with_reducible show wpAny _ _ (newList _) _ _ _) | (with_reducible show wpAny _ _ (execs _ _) _ _ _)); dsimp only))))))
        · refine turn_end (I := I) (oI := oI) (.tail _ (mem_fil.mpr ⟨.head _, Ne.symm (hnI _ ela)⟩)) ‹_› ‹_› ⟨la, _, n + 1, leftOf f (12 + 1), _, ⟨congrArg (fun z => some (Value.int z _)) hxv, rfl, trivial⟩, mem_fil.mpr ⟨.head _, hlaI⟩, by rw [below_hit hb]; exact TS.snoc hs (by first | exact ⟨by decide, .inl (by decide)⟩ | exact tokok_fresh hT0 ‹TLe _ _› | exact tokok_fresh hT0 (by clear hQ; unfold TLe at *; omega)), rfl, .inl ?_⟩
          rename ¬ Builtin.bitXor _ _ = 0 => hne
          rw [hxv] at hne
          exact fun z => hne (by rw [z]; rfl)
        · rename Builtin.bitXor _ _ = 0 => hne
          rw [hxv] at hne
          refine ⟨la, _, n + 1, _, _, _, _, rfl, ‹_›, ‹_›, ⟨rfl, trivial⟩, .head _, ?_⟩
          rw [wordsL, if_neg (fun z => by rw [z] at hb; simp at hb), ← below_end (i := 12 + 1) hf hf7 (by omega) (by exact_mod_cast hne), below_hit hb]
          refine ⟨TS.snoc hs (by first | exact ⟨by decide, .inl (by decide)⟩ | exact tokok_fresh hT0 ‹TLe _ _› | exact tokok_fresh hT0 (by clear hQ; unfold TLe at *; omega)), ‹TLe _ _›⟩
    · have hb : f.testBit i = false := missBit hf hf7 hi hr ‹_›
      exact turn_end (I := I) (oI := oI) (.head _) ‹_› ‹_› ⟨la, vs, n, r, tr, ⟨rfl, rfl, trivial⟩, mem_fil.mpr ⟨.tail _ ela, hnI _ ela⟩, by rw [below_miss hb]; exact hs, by rw [miss_facts hf hf7 hi hb]; exact hr, hf0⟩
  · (repeat ((first | (with_reducible rename Fr _ _ _ _ => zzZq) | (with_reducible rename News _ _ _ _ => zzZq) | (with_reducible rename IsRange _ _ _ _ _ _ _ _ => zzZq)); clear zzZq))
    rintro h tk m₁ news₁ hle1 ⟨la, vs, n, r, tr, em, ela, hs, hr, hf0⟩ F1 N1
    have hT1 : TLe s.toks tk := Nat.le_trans (show s.toks ≤ _ from ‹TLe _ _›) hle1
    obtain rfl : r = 0 := by rw [hr]; unfold leftOf; rw [Nat.div_eq_of_lt (by omega)]
    obtain rfl : f = 0 := by omega
    replace F1 := fr_has F1 em
    (repeat' (first | ((with_reducible show TLe _ _ → _); intro hTzZq; (try dsimp only at hTzZq); (try dsimp only)) | ((with_reducible show wpAny _ _ (execs (_ :: _) _) _ _ _); (with_reducible refine execs_consT ‹TLe _ _› (by first | exact Nat.le_refl _ | exact Nat.le_add_right _ _ | omega) ?_); (try dsimp only)) | ((with_reducible show wpAny _ _ (execs [] _) _ _ _); (with_reducible refine wpAny_execs_nil ?_); (try dsimp only)) | (first | (k_unfold; (try dsimp only)) | ( (fail_if_success (with_reducible show wpAny _ _ (exec (Stmt.While _ _ _ _) _) _ _ _)); (fail_if_success (with_reducible show wpAny _ _ (exec (Stmt.For _ _ _ _ _) _) _ _ _)); (fail_if_success (with_reducible show wpAny _ _ (exec (Stmt.Try _ _ _ _ _) _) _ _ _)); (fail_if_success (with_reducible show wpAny _ _ (pyIter _) (fun it s₂ => Loop _ _ _ _ _ _ _ _ _ _ it s₂) _ _)); (fail_if_success (with_reducible show wpAny _ _ (call (Value.ref _) _ _) _ _ _)); walk1; (try ((first | (with_reducible show wpAny _ _ (spliced _) _ _ _) | (with_reducible show wpAny _ _ (newList _) _ _ _) | (with_reducible show wpAny _ _ (execs _ _) _ _ _)); dsimp only))))))
    have eh : baseText "0x" 16 ((0 : Nat) : Int) = Str.ofString "0x0" := by decide +kernel
    refine r_append' ‹Fr _ _ _ _› ‹News _ _ _ _› ela (by have := hs.strs.length; have := below_length 0 32; omega) ?_
    intro h7 F7 N7
    (repeat' (first | ((with_reducible show TLe _ _ → _); intro hTzZq; (try dsimp only at hTzZq); (try dsimp only)) | ((with_reducible show wpAny _ _ (execs (_ :: _) _) _ _ _); (with_reducible refine execs_consT ‹TLe _ _› (by first | exact Nat.le_refl _ | exact Nat.le_add_right _ _ | omega) ?_); (try dsimp only)) | ((with_reducible show wpAny _ _ (execs [] _) _ _ _); (with_reducible refine wpAny_execs_nil ?_); (try dsimp only)) | (first | (k_unfold; (try dsimp only)) | ( (fail_if_success (with_reducible show wpAny _ _ (exec (Stmt.While _ _ _ _) _) _ _ _)); (fail_if_success (with_reducible show wpAny _ _ (exec (Stmt.For _ _ _ _ _) _) _ _ _)); (fail_if_success (with_reducible show wpAny _ _ (exec (Stmt.Try _ _ _ _ _) _) _ _ _)); (fail_if_success (with_reducible show wpAny _ _ (pyIter _) (fun it s₂ => Loop _ _ _ _ _ _ _ _ _ _ it s₂) _ _)); (fail_if_success (with_reducible show wpAny _ _ (call (Value.ref _) _ _) _ _ _)); walk1; (try ((first | (with_reducible show wpAny _ _ (spliced _) _ _ _) | (with_reducible show wpAny _ _ (newList _) _ _ _) | (with_reducible show wpAny _ _ (execs _ _) _ _ _)); dsimp only))))))
    refine ⟨la, _, n + 1, _, _, _, _, rfl, ‹_›, ‹_›, ⟨rfl, trivial⟩, .head _, ?_⟩
    have hs0 : TS s.toks vs [] := hs
    rw [eh]
    exact ⟨TS.snoc hs0 (by first | exact ⟨by decide, .inl (by decide)⟩ | exact tokok_fresh hT0 ‹TLe _ _› | exact tokok_fresh hT0 (by clear hQ; unfold TLe at *; omega)), ‹TLe _ _›⟩
-- needs C11 C15 C18 C26 C27 C28 C29 C46
theorem TokOk.mono {T T' u : Nat} (h : T ≤ T') (k : TokOk T' u) : TokOk T u := ⟨k.1, k.2.imp id (Nat.le_trans h)⟩
theorem text_zero : textOf 0 = Str.ofString "0x0" := by decide +kernel
theorem sp_words {prog : Program} {w : World} {A : Around} {E : Value → Shared → Prop} {s : Shared} {Q : Value → Shared → Prop}
   {f : Nat} {t : Tok}
   (G : Gd w s.heap) (R : Rm A 3) (hf : f < 8192) (hf7 : f % 128 = 0) (hT0 : 252 ≤ s.toks)
   (hQ : Out [] s Q (fun v h' => ∃ la vs n, v = .ref la ∧ h'.get? la = some (listO vs n) ∧ s.heap.get? la = none ∧ TS s.toks vs (below f 13))) :
   wpAny (model prog w) A (call (.ref 166) [.int f t]) Q E s := by
  (((have kkZq : PySem.Challenge.rw_wu0059_01 = PySem.Challenge.rw_wu0059_01 ∧ Mine.hd.heap_39 = Mine.hd.heap_39 := ⟨rfl, rfl⟩); revert kkZq; k_fill; intro kkZq; clear kkZq; w_on))
  (((rename Rm _ _ => rrZq); (rename Around => aaZq); (have e0Zq := Rm.h rrZq); rcases aaZq with ⟨hhZq, d1Zq, d2Zq, d3Zq, d4Zq⟩; dsimp only at e0Zq; subst e0Zq))
  have R := ‹Rm _ 3›
  refine enterT [(Str.ofString "mask", .int f t)] G R.room (by k_is) (by k_is) (by (first | exact BindsTo.of_eq rfl | exact binds_K (Gd.X (by assumption)) rfl (by k_is) rfl rfl rfl | exact binds_K (Gd.X (Gd.keeps (by assumption) (by assumption))) rfl (by k_is) rfl rfl rfl)) (locs rfl) (by decide) rfl rfl rfl ?_
  intro L h₁ tk hle F N X
  have hTz : TLe s.toks tk := hle
  have hZqq := G.T
  refine ex5 hZqq ?_; (try clear hZqq); intro pp l m mg mb; intro T
  (repeat' (first | ((with_reducible show TLe _ _ → _); intro hTzZq; (try dsimp only at hTzZq); (try dsimp only)) | ((with_reducible show wpAny _ _ (execs (_ :: _) _) _ _ _); (with_reducible refine execs_consT ‹TLe _ _› (by first | exact Nat.le_refl _ | exact Nat.le_add_right _ _ | omega) ?_); (try dsimp only)) | ((with_reducible show wpAny _ _ (execs [] _) _ _ _); (with_reducible refine wpAny_execs_nil ?_); (try dsimp only)) | (first | (k_unfold; (try dsimp only)) | ( (fail_if_success (with_reducible show wpAny _ _ (exec (Stmt.While _ _ _ _) _) _ _ _)); (fail_if_success (with_reducible show wpAny _ _ (exec (Stmt.For _ _ _ _ _) _) _ _ _)); (fail_if_success (with_reducible show wpAny _ _ (exec (Stmt.Try _ _ _ _ _) _) _ _ _)); (fail_if_success (with_reducible show wpAny _ _ (pyIter _) (fun it s₂ => Loop _ _ _ _ _ _ _ _ _ _ it s₂) _ _)); (fail_if_success (with_reducible show wpAny _ _ (call (Value.ref _) _ _) _ _ _)); walk1; (try ((first | (with_reducible show wpAny _ _ (spliced _) _ _ _) | (with_reducible show wpAny _ _ (newList _) _ _ _) | (with_reducible show wpAny _ _ (execs _ _) _ _ _)); dsimp only))))))
  refine sp_prettyT (G.keeps (Fr.keep ‹_›)) ((R.deeper _).le (by omega)) hf hf7 (by show 252 ≤ tk; omega) ?_
  intro v h' tk' kb xZq1
  refine ex1 xZq1 ?_; (try clear xZq1); intro t1; refine and2 ?_; intro yZq1x1 ht1
  obtain rfl := yZq1x1
  have F1 := fr_kb0 ‹_› kb
  have N1 := news_kb0 ‹_› kb
  (repeat' (first | ((with_reducible show TLe _ _ → _); intro hTzZq; (try dsimp only at hTzZq); (try dsimp only)) | ((with_reducible show wpAny _ _ (execs (_ :: _) _) _ _ _); (with_reducible refine execs_consT ‹TLe _ _› (by first | exact Nat.le_refl _ | exact Nat.le_add_right _ _ | omega) ?_); (try dsimp only)) | ((with_reducible show wpAny _ _ (execs [] _) _ _ _); (with_reducible refine wpAny_execs_nil ?_); (try dsimp only)) | (first | (k_unfold; (try dsimp only)) | ( (fail_if_success (with_reducible show wpAny _ _ (exec (Stmt.While _ _ _ _) _) _ _ _)); (fail_if_success (with_reducible show wpAny _ _ (exec (Stmt.For _ _ _ _ _) _) _ _ _)); (fail_if_success (with_reducible show wpAny _ _ (exec (Stmt.Try _ _ _ _ _) _) _ _ _)); (fail_if_success (with_reducible show wpAny _ _ (pyIter _) (fun it s₂ => Loop _ _ _ _ _ _ _ _ _ _ it s₂) _ _)); (fail_if_success (with_reducible show wpAny _ _ (call (Value.ref _) _ _) _ _ _)); walk1; (try ((first | (with_reducible show wpAny _ _ (spliced _) _ _ _) | (with_reducible show wpAny _ _ (newList _) _ _ _) | (with_reducible show wpAny _ _ (execs _ _) _ _ _)); dsimp only))))))
  · have f0 : f = 0 := by
      rename (textOf f == Str.ofString "0x0") = true => ha
      by_cases f0 : f = 0
      · exact f0
      · exact absurd (beq_iff_eq.mp ha) (split_text hf hf7 f0).2.2
    subst f0
    exact hQ _ _ _ (Kb.of _ (Fr.keep ‹_›)) ⟨_, [], 0, rfl, News.get ‹News _ _ _ _› (.head _), (‹News _ _ _ _› _ (.head _)).2.2, TS.nil⟩
  · have f0 : f ≠ 0 := by
      rename (textOf f == Str.ofString "0x0") = false => ha
      rintro rfl
      rw [text_zero] at ha
      simp at ha
    obtain ⟨hs1, hs2, -⟩ := split_text hf hf7 f0
    refine r_split ‹Fr _ _ _ _› ‹News _ _ _ _› (by decide) ?_ (by show _ ≤ 2 ^ 24; omega)
    intro D l h' k hl F5 N5 ht5
    (repeat' (first | ((with_reducible show TLe _ _ → _); intro hTzZq; (try dsimp only at hTzZq); (try dsimp only)) | ((with_reducible show wpAny _ _ (execs (_ :: _) _) _ _ _); (with_reducible refine execs_consT ‹TLe _ _› (by first | exact Nat.le_refl _ | exact Nat.le_add_right _ _ | omega) ?_); (try dsimp only)) | ((with_reducible show wpAny _ _ (execs [] _) _ _ _); (with_reducible refine wpAny_execs_nil ?_); (try dsimp only)) | (first | (k_unfold; (try dsimp only)) | ( (fail_if_success (with_reducible show wpAny _ _ (exec (Stmt.While _ _ _ _) _) _ _ _)); (fail_if_success (with_reducible show wpAny _ _ (exec (Stmt.For _ _ _ _ _) _) _ _ _)); (fail_if_success (with_reducible show wpAny _ _ (exec (Stmt.Try _ _ _ _ _) _) _ _ _)); (fail_if_success (with_reducible show wpAny _ _ (pyIter _) (fun it s₂ => Loop _ _ _ _ _ _ _ _ _ _ it s₂) _ _)); (fail_if_success (with_reducible show wpAny _ _ (call (Value.ref _) _ _) _ _ _)); walk1; (try ((first | (with_reducible show wpAny _ _ (spliced _) _ _ _) | (with_reducible show wpAny _ _ (newList _) _ _ _) | (with_reducible show wpAny _ _ (execs _ _) _ _ _)); dsimp only))))))
    refine hQ _ _ _ (Kb.of _ F5.keep) ⟨_, _, 0, rfl, N5.get (.head _), (N5 _ (.head _)).2.2, ⟨l, rfl, by rw [hl, hs1], fun p hp => ?_⟩⟩
    rcases ht5 p hp with e | e
    · rw [e]; exact TokOk.mono hle ht1
    · dsimp only at e
      have hz : s.toks ≤ tk' + 1 + 1 := by assumption
      exact ⟨by omega, .inr (by omega)⟩
-- needs C18 C27
section
variable {M : Model} {A : Around} {R : GenEnd} {Y : Protocol} {n : Nat} {s₀ : Shared} {c : Code} {fs : List Frame} {s : Shared} {env : Env}
  {K : Flow → Sem Fin} {H : Value → Sem Fin} {gd : Bool → Bool} {lv : List Value → List Value}
theorem sg_step {α β : Type} {m : Sem α} {k : α → Sem β} {K' : β → Sem Fin} {H' : Value → Sem Fin}
    (h : wpAny M (A.over c fs) m (fun a s' => Seg M A R Y n s₀ c ((k a).wrap K' H' gd lv) fs s') (fun x s' => Seg M A R Y n s₀ c (H' x) fs s') s) : Seg M A R Y n s₀ c ((m >>= k).wrap K' H' gd lv) fs s := by
  rw [Sem.bind_eq_wrap', Sem.wrap_wrap]; exact seg_wrap h
theorem sg_If {test : Expr} {body orelse : List Stmt} {pos : Pos}
    (h : wpAny M (A.over c fs) (isTrue test env (eval test env)) (fun b s' => if b = true then Seg M A R Y n s₀ c ((execs body env).wrap K H gd lv) fs s' else Seg M A R Y n s₀ c ((execs orelse env).wrap K H gd lv) fs s')
      (fun x s' => Seg M A R Y n s₀ c (H x) fs s') s) :
    Seg M A R Y n s₀ c ((exec (.If test body orelse pos) env).wrap K H gd lv) fs s := by
  rw [exec_If]
  refine sg_step (wpAny_standAt ?_)
  refine sg_step (wpAny_mono h (fun b s' hb => ?_) fun _ _ e => e)
  cases b with
  | true => exact hb
  | false => exact hb
theorem sg_quiet {st : Stmt} (h : wpAny M (A.over c fs) (exec st env) (fun f s' => Seg M A R Y n s₀ c (K f) fs s') (fun x s' => Seg M A R Y n s₀ c (H x) fs s') s) :
    Seg M A R Y n s₀ c ((exec st env).wrap K H gd lv) fs s := seg_wrap h
/-- what stands around a loop's own activation -/
noncomputable def ownRet (env : Env) (K : Flow → Sem Fin) (H : Value → Sem Fin) (gd : Bool → Bool) (lv : List Value → List Value) (r : Result) : Sem Fin :=
  ((match r with | .ok f => (.pure f : Sem Flow) | .error e => .raise e).onRaise fun (x : Value) => do
        if (← field x 1) == Value.none then unsupported "frame.own-activation:exception-without-traceback"
        setFlight x env.frame).wrap K H gd lv
theorem sg_While {test : Expr} {body orelse : List Stmt} {pos : Pos}
    (h : ∀ p, Seg M A R Y n s₀ (.whileLoop test body orelse env) (M.den (.whileLoop test body orelse env)) (.ret (ownRet env K H gd lv) none (gd false) (lv []) c p [] :: fs) s) :
    Seg M A R Y n s₀ c ((exec (.While test body orelse pos) env).wrap K H gd lv) fs s := seg_While h
theorem sg_For {target iter : Expr} {body orelse : List Stmt} {pos : Pos}
    (h : wpAny M (A.over c fs) (eval iter env) (fun x s₁ => wpAny M (A.over c fs) (pyIter x) (fun it s₂ => ∀ p,
      Seg M A R Y n s₀ (.forLoop target it body orelse env) (M.den (.forLoop target it body orelse env)) (.ret (ownRet env K H gd lv) none (gd false) (lv []) c p [] :: fs) s₂) (fun x s' => Seg M A R Y n s₀ c (H x) fs s') s₁) (fun x s' => Seg M A R Y n s₀ c (H x) fs s') s)
    (hs : ∀ x, foldedSetIterable iter env x = pure x := by intro _; rfl) :
    Seg M A R Y n s₀ c ((exec (.For target iter body orelse pos) env).wrap K H gd lv) fs s := by
  rw [exec_For]
  refine sg_step (wpAny_standAt ?_)
  refine sg_step (wpAny_mono h (fun x s₁ h₁ => ?_) fun _ _ e => e)
  refine sg_step (wpAny_of_eq (hs x) ?_)
  refine sg_step (wpAny_standAt ?_)
  refine sg_step (wpAny_holding (wpAny_mono h₁ (fun it s₂ h₂ => ?_) fun _ _ e => e))
  exact seg_call h₂
end
section
variable {prog : Program} {w : World} {A : Around} {R : GenEnd} {Y : Protocol} {n : Nat} {s₀ : Shared} {fs : List Frame} {s : Shared} {env : Env}
noncomputable def loopK (c : Code) (f : Flow) : Sem Fin := match f with
  | .next | .cont => .pure (.again c)
  | .brk => .pure (.done .next)
  | .ret v => .pure (.done (.ret v))
noncomputable def loopH (env : Env) (e : Value) : Sem Fin := (do noteFrame e env; theTreesLotGoes e : Sem Unit).wrap (fun _ => .raise e) .raise id id
theorem sg_forTurn {target : Expr} {it : Value} {body orelse : List Stmt}
    (h : wpAny (model prog w) (A.over (.forLoop target it body orelse env) fs) (pyNext it) (fun r s₁ => match r with
      | none => Seg (model prog w) A R Y n s₀ (.block orelse env) ((model prog w).den (.block orelse env)) fs s₁
      | some v => wpAny (model prog w) (A.over (.forLoop target it body orelse env) fs) (letOwnedTupleGo target it v) (fun _ s₂ => wpAny (model prog w) (A.over (.forLoop target it body orelse env) fs) (assign target env v) (fun _ s₃ =>
          Seg (model prog w) A R Y n s₀ (.forLoop target it body orelse env) ((execs body env).wrap (loopK (.forLoop target it body orelse env)) (loopH env) id id) fs s₃) (fun _ _ => False) s₂) (fun _ _ => False) s₁) (fun _ _ => False) s) :
    Seg (model prog w) A R Y n s₀ (.forLoop target it body orelse env) ((model prog w).den (.forLoop target it body orelse env)) fs s := by
  show Seg _ A R Y n s₀ _ ((forTurn target it body orelse env).onRaise (fun x => do noteFrame x env; theTreesLotGoes x)) fs s
  rw [Sem.onRaise_eq_wrap]
  unfold forTurn
  refine sg_step (wpAny_standAt ?_)
  refine sg_step (wpAny_onRaise (wpAny_mono h (fun r s₁ h₁ => ?_) fun _ _ e => e.elim))
  cases r with
  | none => exact seg_again rfl h₁
  | some v =>
    refine sg_step (wpAny_mono h₁ (fun _ s₂ h₂ => ?_) fun _ _ e => e.elim)
    refine sg_step (wpAny_mono h₂ (fun _ s₃ h₃ => ?_) fun _ _ e => e.elim)
    rw [Sem.bind_eq_wrap', Sem.wrap_wrap]
    rw [Sem.wrap_congr (execs body env) _ _ (K' := loopK (.forLoop target it body orelse env)) (H' := loopH env) (fun f => by cases f <;> rfl)
      (fun e => by show (do noteFrame e env; theTreesLotGoes e : Sem Unit).bind (fun _ => .raise e) = _; rw [Sem.bind_eq_wrap]; rfl)]
    exact h₃
theorem sg_blockEnd {k : Result → Sem Fin} {h' : Option Value} {g : Bool} {l : List Value} {c₁ : Code} {p₁ : Pos} {kp : List Value}
    (hk : Seg (model prog w) A R Y n s₀ c₁ (k (.ok .next)) fs s) :
    Seg (model prog w) A R Y n s₀ (.block [] env) ((model prog w).den (.block [] env)) (.ret k h' g l c₁ p₁ kp :: fs) s := seg_leaf (.ok .next) hk
end
-- needs C18 C27 C31
theorem isSub_ve_stop : isSubtype (.type "ValueError") (.type "StopIteration") = pure false := by rw [isSubtype_type]; kernel_rfl
section
variable {prog : Program} {w : World} {A : Around} {E : Value → Shared → Prop} {s : Shared}
theorem enterG {Q : Value → Shared → Prop}
    {name qual : Str} {params : Arguments} {body : List Stmt} {scope : Scope} {dV kV doc pm cdv ct oc : Value} {an od : Option Addr} {osl : Array (Option Value)} {f : Addr} {pos : List Value} {kw : List (Str × Value)} (binds : List (Str × Value))
    (G : Gd w s.heap) (hroom : A.depth < recursionLimit)
    (ho : (hd.heap_39 w.params).lookup f = some ⟨oc, od, .func (fnOf name qual params body scope dV kV doc pm an cdv ct), osl⟩)
    (hcd : codeIn (hd.heap_39 w.params) cdv qual = true)
    (hbind : BindsTo s (fnOf name qual params body scope dV kV doc pm an cdv ct) ⟨pos, kw⟩ binds)
    (hloc : ∀ y ∈ binds, scope.names.lookup y.1 = some .local)
    (hcell : ∀ x ∈ scope.names, x.2 ≠ .cell)
    (hco : scope.isCoroutine = false) (hgen : scope.isGenerator = true) (hk : scope.kind = .function)
    (h : ∀ h₁ tk Ga, Fr s.heap s.heap.objs.size h₁ (fun y => binds.reverse.lookup y) → h₁.IsGen Ga s.gens.size → Ga + 1 = h₁.objs.size → s.heap.objs.size < Ga → h₁.NoLimit →
      Q (.ref Ga) { s with heap := h₁, toks := tk, gens := s.gens.push (.fresh (.func body (envOf qual scope s.heap.objs.size f cdv))) }) :
    wpAny (model prog w) A (call (.ref f) pos kw) Q E s := by
  have hZqq := G.T
  refine ex5 hZqq ?_; (try clear hZqq); intro p l m mg mb; intro T
  refine wpAny_call (codeAny_call_generator (fd := fnOf name qual params body scope dV kV doc pm an cdv ct) (body := body) hroom (G.X _ _ ho) rfl hco hgen rfl (codeRec_of G.X hcd) (hbind _ _ _ _ ?_))
  refine wpAny_newFunctionEnv hcell hloc (fun h₀ hns₀ hsb₀ => ⟨T.nolimit.fresh _ hsb₀, ?_⟩) hk
  have hkp : ∀ b o, s.heap.get? b = some o → h₀.get? b = some o := fun b o e => hsb₀.extBut b o (Nat.ne_of_lt (Heap.lt_size e)) (Heap.get?_push_of_some _ e)
  exact h _ _ _ ⟨hns₀.push _, fun b o e => Heap.get?_push_of_some _ (hkp b o e), Nat.le_refl _⟩ ⟨_, _, _, Heap.get?_push_size _ rfl, rfl, rfl, rfl⟩ (by rw [Heap.size_push]) hns₀.lt ((T.nolimit.fresh _ hsb₀).keeps fun b o e => Heap.get?_push_of_some _ e)
theorem next_gen {a : Addr} {g n : Nat} {gs : GenState} {R : GenEnd} {Y : Protocol} {Q : Option Value → Shared → Prop} (hh : A.handled = none)
    (hl : s.heap.NoLimit) (hroom : A.depth < recursionLimit)
    (hg : s.heap.IsGen a g) (hgs : s.gens[g]? = some gs)
    (hgo : gs.Goes (model prog w) A.in1 R Y n (.send .none) (s.setGen g .running))
    (hY : ∀ v s₁ gs', gs'.bare = true → Y (n - 1) (s.setGen g .running) v s₁ (fun r' s'' => match n with
        | 0 => False
        | m + 1 => gs'.Goes (model prog w) A.in1 R Y m r' s'') → Q (some v) (s₁.setGen g gs'))
    (hR : ∀ r s₁, R n (s.setGen g .running) r s₁ → (r = .ok (.ret .none) ∧ ∀ h', (∀ b o, s₁.heap.get? b = some o → h'.get? b = some o) → Q none { s₁.setGen g .finished with heap := h' }) ∨
      (∃ e ob, r = .error (.ref e) ∧ s₁.heap.get? e = some ob ∧ ob.cls = .type "ValueError" ∧ s₁.heap.IsGen a g ∧ E (.ref e) (s₁.setGen g .finished))) :
    wpAny (model prog w) A (pyNext (.ref a)) Q E s := by
  unfold pyNext
  refine wpAny_bind (wpAny_attempt (wpAny_callSpecial?_slot (name := Str.ofString "__next__") hg.typeIs slot_gen_next
    (wpAny_call_entry slot_gen_next hg.typeIs entry_gen_next ?_ (args_gen_next _))))
  show wpAny _ _ (Builtin.Generator.genWake (.ref a) (.send .none)) _ _ s
  unfold Builtin.Generator.genWake
  refine wpAny_bind (wpAny_holding (wpAny_genNumber hg (wpAny_bind (wpAny_genState hgs ?_))))
  cases gs with
  | running => exact hgo.elim
  | finished => exact hgo.elim
  | _ =>
    refine wpAny_bind (wpAny_roomToWake hl hroom ?_)
    show wpAny _ _ (.resume g (.send .none) [] _) _ _ s
    refine wpAny_resumeQ hgs hgo (fun x s₁ hx => ?_) (fun v s₁ gs' hb hv => ?_)
    · rcases hR x s₁ hx with ⟨rfl, hp⟩ | ⟨e, ob, rfl, he, hc, ⟨o, nm, qn, hga, hgc, hgd, hgsl⟩, hE⟩
      · show wpAny _ _ (newExc (.type "StopIteration") [] >>= _) _ _ _
        refine wpAny_bind ?_
        simp only [newExc, newTuple]
        refine wpAny_bind (wpAny_newObj_type ?_ (by size_fits))
        refine wpAny_bind (m := firstArgMember _ _) (wpAny_of_eq (a := Value.none) (by first | rfl | (simp only [firstArgMember]; rfl)) ?_)
        refine wpAny_newObj_type ?_ (by size_fits)
        simp only [raiseNew]
        refine wpAny_bind (wpAny_bind (wpAny_handled ?_))
        rw [show A.in1.handled = none from hh]
        refine wpAny_throw ?_
        refine wpAny_bind (wpAny_isInstance (T := "StopIteration") (b := true) ⟨_, Heap.get?_push_size _ rfl, rfl⟩ isSubtype_stop ?_)
        exact wpAny_pure (hp _ fun b o hb => Heap.get?_push_of_some _ (Heap.get?_push_of_some _ hb))
      · show wpAny _ _ (Builtin.Generator.genLeft (.ref a) (.ref e)) _ _ _
        have hT : (s₁.setGen g .finished).TypeIs (.ref e) "ValueError" := ⟨ob, he, hc⟩
        unfold Builtin.Generator.genLeft Builtin.Generator.madeByALambda Builtin.Generator.genEscaped
        refine wpAny_bind (wpAny_bind (wpAny_load hga ?_))
        refine wpAny_pure ?_
        refine wpAny_bind (wpAny_isInstance (T := "ValueError") hT isSub_ve_stop ?_)
        dsimp only
        rw [if_neg (by simp)]
        refine wpAny_bind (wpAny_isInstance (T := "ValueError") hT isSub_ve_stop ?_)
        rw [if_pos (by rfl)]
        refine wpAny_bind (wpAny_throw ?_)
        refine wpAny_bind (wpAny_isInstance (T := "ValueError") (b := false) hT isSub_ve_stop ?_)
        rw [if_neg (by simp)]
        exact wpAny_throw hE
    · exact wpAny_pure ⟨v, rfl, wpAny_pure (hY v s₁ gs' hb hv)⟩
end
-- needs C18 C27 C31 C32
section
variable {M : Model} {A : Around} {E : Value → Shared → Prop} {s : Shared} {h : Heap} {as : List Addr} {env : Env} {outer l : List Env} {L e : Addr} {X : String} {Q : Unit → Shared → Prop}
/-- an exception on its way, seen from the heap that it rose in; as: the frames -/
structure Rose (h : Heap) (as : List Addr) (l : List Env) (e : Addr) (X : String) (h' : Heap) : Prop where
  fly : ∃ a0, Heap.FlyingW (hideAll h as) l e (.type X) a0 h'
  sm : h.UpToSlots h'
/-- the same, noted by the frame at L -/
structure RoseH (h : Heap) (as : List Addr) (l : List Env) (L e : Addr) (X : String) (h' : Heap) : Prop where
  held : ∃ a0, Heap.HeldW (hideAll h as) l e (.type X) a0 L h'
  sm : h.UpToSlots h'
theorem rose_new (hfr : A.frames = some (env :: outer)) (hf : env.frame = some L) (hl : h.FunFrames (hideAll h as) (env :: outer)) (hx : Heap.NewExc h s.heap e X)
    (hQ : ∀ h', RoseH h as (env :: outer) L e X h' → Q () { s with heap := h' }) : wpAny M A (noteFrame (.ref e) env) Q E s := by
  have hZqq := hx.there
  refine ex2 hZqq ?_; (try clear hZqq); intro ob t; refine and3 ?_; intro he hc hd
  have hen : (hideAll h as).get? e = none := by
    cases q : (hideAll h as).get? e with
    | none => rfl
    | some o => have := of_hideAll _ q; rw [hx.new] at this; cases this
  unfold noteFrame
  simp only [hf]
  refine wpAny_bind (wpAny_field (x := .none) he hd rfl ?_)
  rw [if_neg (by decide)]
  refine wpAny_entryW (base := hideAll h as) hfr (hl.of_keeps fun b o hb _ => ⟨o, hx.keeps b o hb, rfl⟩) hf he (fun b o q => hx.keeps b o (of_hideAll _ q)) hen hd (by simp) rfl fun h' hN => ?_
  refine andI hN ?_; (try clear hN); refine and4 ?_; intro k1 k2 k3 k4
  exact hQ h' ⟨⟨t, k1, hen, k2, by rw [← hc]; exact k3⟩, (Heap.UpToSlots.of_keeps hx.keeps).trans k4⟩
theorem held_flight (R : RoseH h as l L e X s.heap) (hQ : ∀ h', RoseH h as l L e X h' → Q () { s with heap := h' }) : wpAny M A (setFlight (.ref e) (some L)) Q E s := by
  obtain ⟨⟨a0, hkb, hen, hl, oe, vs, T, oT, ts, he, hcls, hd, h1, hnT, hTe, hT, hdT, h3⟩, sm⟩ := R
  have hsz3 : 3 < ts.size := (Array.getElem?_eq_some_iff.mp h3).1
  have other : ∀ b, b ≠ T → (s.heap.update T (Obj.mapFields (·.setIfInBounds 3 ((some L).elim Value.none fun f => rawInt f)))).get? b = s.heap.get? b :=
    fun b hb => Heap.get?_update_other _ _ (Ne.symm hb)
  have noRec : ∀ b o, s.heap.get? b = some o → (∀ vs, o.data ≠ .fields vs) → b ≠ T := fun b o hb hnf q => by
    rw [q, hT] at hb; injection hb with hb; subst hb; exact hnf ts hdT
  unfold setFlight
  refine wpAny_bind (wpAny_field he hd h1 ?_)
  rw [if_pos (show (Value.ref T != Value.none) = true from by simp)]
  refine wpAny_setField hT hdT hsz3 (hQ _ ⟨⟨a0, fun b o hbo => (other b fun q => by rw [q, hnT] at hbo; cases hbo).trans (hkb b o hbo), hen,
    hl.of_keeps fun b o hb hnf => ⟨o, (other b (noRec b o hb hnf)).trans hb, rfl⟩, ?_⟩, sm.trans fun b o hb hnf => ⟨o.slots, (other b (noRec b o hb hnf)).trans hb⟩⟩)
  exact ⟨oe, vs, T, _, _, (other e (Ne.symm hTe)).trans he, hcls, hd, h1, hnT, hTe, Heap.get?_update_self _ hT (Obj.isFreed_of_fields (Obj.data_mapFields hdT _)), Obj.data_mapFields hdT _, by simp [hsz3]⟩
theorem held_back (hf : env.frame = some L) (R : RoseH h as l L e X s.heap) (hQ : ∀ h', RoseH h as l L e X h' → Q () { s with heap := h' }) :
    wpAny M A (do
        if (← field (.ref e) 1) == Value.none then unsupported "frame.own-activation:exception-without-traceback"
        setFlight (.ref e) env.frame) Q E s := by
  have hZqq := R.held
  obtain ⟨a0, hkb, hen, hl, oe, vs, T, oT, ts, he, hcls, hd, h1, hnT, hTe, hT, hdT, h3⟩ := hZqq
  refine wpAny_bind (wpAny_field he hd h1 ?_)
  rw [if_neg (show ¬ ((Value.ref T == Value.none) = true) from by simp), hf]
  exact held_flight R hQ
theorem held_lands (R : RoseH h as l L e X s.heap) (hQ : ∀ h', Rose h as l e X h' → Q () { s with heap := h' }) : wpAny M A (setFlight (.ref e) none) Q E s := by
  obtain ⟨⟨a0, hh⟩, sm⟩ := R
  exact wpAny_landsW hh fun h' hfl hs => hQ h' ⟨⟨a0, hfl⟩, sm.trans hs⟩
theorem held_again (hf : env.frame = some L) (R : RoseH h as l L e X s.heap) (hQ : Q () s) : wpAny M A (noteFrame (.ref e) env) Q E s := by
  obtain ⟨⟨a0, hh⟩, sm⟩ := R
  exact wpAny_noteFrame_againW hf hh.2.2.2 hQ
theorem held_leaves (hf : env.frame = some L) (R : RoseH h as (env :: outer) L e X s.heap) (hQ : ∀ h', Rose h as outer e X h' → Q () { s with heap := h' }) : wpAny M A (leaving env (.ref e)) Q E s := by
  unfold leaving
  refine wpAny_bind (held_again hf R (held_lands R fun h' R' => hQ h' ?_))
  obtain ⟨⟨a0, k1, k2, ⟨_, _, k3⟩, k4⟩, sm⟩ := R'
  exact ⟨⟨a0, k1, k2, k3, k4⟩, sm⟩
theorem rose_noted (hfr : A.frames = some (env :: outer)) (hf : env.frame = some L) (R : Rose h as (env :: outer) e X s.heap) (hQ : ∀ h', RoseH h as (env :: outer) L e X h' → Q () { s with heap := h' }) : wpAny M A (noteFrame (.ref e) env) Q E s := by
  obtain ⟨⟨a0, hfl⟩, sm⟩ := R
  exact wpAny_looks_onW hfr hf hfl fun h' hh hs => hQ h' ⟨⟨a0, hh⟩, sm.trans hs⟩
theorem rose_lands (R : Rose h as l e X s.heap) (hQ : ∀ h', Rose h as l e X h' → Q () { s with heap := h' }) : wpAny M A (setFlight (.ref e) none) Q E s := by
  obtain ⟨⟨a0, hfl⟩, sm⟩ := R
  exact lands_againW hfl fun h' hf hs => hQ h' ⟨⟨a0, hf⟩, sm.trans hs⟩
theorem Rose.keep {h' : Heap} (R : Rose h as l e X h') {b : Addr} {o : Obj} (e1 : h.get? b = some o) (hb : b ∉ as) : h'.get? b = some o := by
  obtain ⟨⟨a0, hfl⟩, sm⟩ := R
  exact hfl.1 b o (hideAll_get _ e1 hb)
theorem Rose.there {h' : Heap} (R : Rose h as l e X h') : ∃ ob, h'.get? e = some ob ∧ ob.cls = .type X := by
  obtain ⟨⟨a0, hfl⟩, sm⟩ := R
  exact hfl.there
end
-- needs C10 C18 C27 C31 C32 C33
/-- the objects below k -/
noncomputable def trunc (h : Heap) (k : Nat) : Heap := { h with objs := h.objs.extract 0 k }
theorem trunc_size (h : Heap) (k : Nat) : (trunc h k).objs.size ≤ k := by
  show (h.objs.extract 0 k).size ≤ k
  rw [Array.size_extract]; omega
theorem trunc_lt {h : Heap} {k b : Nat} (hb : b < k) : (trunc h k).get? b = h.get? b := by
  have e : (h.objs.extract 0 k)[b]? = h.objs[b]? := by
    rw [Array.getElem?_extract]; simp; intro q; omega
  show (match (h.objs.extract 0 k)[b]? with | some ⟨_, _, .freed, _⟩ => none | o => o) = (match h.objs[b]? with | some ⟨_, _, .freed, _⟩ => none | o => o)
  rw [e]
theorem trunc_some {h : Heap} {k b : Nat} {o : Obj} (e : (trunc h k).get? b = some o) : b < k ∧ h.get? b = some o := by
  have hb : b < k := Nat.lt_of_lt_of_le (Heap.lt_size e) (trunc_size h k)
  exact ⟨hb, by rw [← trunc_lt hb]; exact e⟩
theorem trunc_ge {h : Heap} {k b : Nat} (hb : k ≤ b) : (trunc h k).get? b = none := by
  cases q : (trunc h k).get? b with
  | none => rfl
  | some o => exact absurd (trunc_some q).1 (by omega)
section
variable {prog : Program} {w : World} {A : Around} {R : GenEnd} {Y : Protocol} {fs : List Frame} {env : Env}
theorem sg_forInd {c : Code} {t : Sem Fin} (Inv : Nat → Nat → Shared → Shared → Prop) (N : Nat) (hN : ∀ i n s₀ s, Inv i n s₀ s → i ≤ N)
    (turn : ∀ i n s₀ s, Inv i n s₀ s → (∀ n' s₀' s', Inv (i + 1) n' s₀' s' → Seg (model prog w) A R Y n' s₀' c t fs s') → Seg (model prog w) A R Y n s₀ c t fs s)
    {i n : Nat} {s₀ s : Shared} (h : Inv i n s₀ s) : Seg (model prog w) A R Y n s₀ c t fs s := by
  suffices H : ∀ k i n s₀ s, N + 1 - i = k → Inv i n s₀ s → Seg (model prog w) A R Y n s₀ c t fs s from H _ i n s₀ s rfl h
  intro k
  induction k with
  | zero => intro i n s₀ s hk hi; have := hN _ _ _ _ hi; omega
  | succ k ih => intro i n s₀ s hk hi; exact turn i n s₀ s hi fun n' s₀' s' hi' => ih _ _ _ _ (by omega) hi'
end
/-- what a list of sizes tells, one by one -/
noncomputable def outs : List Int → Option Int → Nat → Option Int
  | [], _, _ => none
  | x :: r, last, k => if x = 127 then none else if x = 0 then last else match k with
    | 0 => some x
    | k + 1 => outs r (some x) k
/-- how a generator speaks to its caller: pv are its own objects -/
noncomputable def talk (N C0 Ga D : Nat) (g : Heap) (oD : Obj) (out : Nat → Option Int) : Protocol := fun m s₀ v s' kap =>
  (∃ x t, v = .int x t ∧ out (N - 1 - m) = some x) ∧ (∃ h' tk, s' = { s₀ with heap := h', toks := tk } ∧ ∀ b o, b < C0 ∨ b = Ga → s₀.heap.get? b = some o → h'.get? b = some o) ∧
    ∃ pv : Led, (∀ p ∈ pv, C0 ≤ p.1 ∧ s'.heap.get? p.1 = some p.2) ∧ (m ≠ 0 → ∀ s'' : Shared, (∀ b o, g.get? b = some o → s''.heap.get? b = some o) → s''.heap.get? D = some oD → (∀ p ∈ pv, s''.heap.get? p.1 = some p.2) → kap (.send .none) s'')
noncomputable def ends (N C0 Ga : Nat) (out : Nat → Option Int) : GenEnd := fun n s₀ r s₁ =>
  r = .ok (.ret .none) ∧ out (N - n) = none ∧ ∃ h' tk, s₁ = { s₀ with heap := h', toks := tk } ∧ ∀ b o, b < C0 ∨ b = Ga → s₀.heap.get? b = some o → h'.get? b = some o
noncomputable def Since (C0 Ga : Nat) (s₀ s : Shared) : Prop := ∃ h' tk, s = { s₀ with heap := h', toks := tk } ∧ ∀ b o, b < C0 ∨ b = Ga → s₀.heap.get? b = some o → h'.get? b = some o
theorem Since.refl {C0 Ga : Nat} {s : Shared} : Since C0 Ga s s := ⟨s.heap, s.toks, rfl, fun _ _ _ e => e⟩
theorem Since.on {C0 Ga : Nat} {s₀ s : Shared} {h' : Heap} {tk : Nat} (x : Since C0 Ga s₀ s) (k : ∀ b o, b < C0 ∨ b = Ga → s.heap.get? b = some o → h'.get? b = some o) : Since C0 Ga s₀ { s with heap := h', toks := tk } := by
  refine ex2 x ?_; (try clear x); intro h1 tk1; refine and2 ?_; intro yZq0x2 k1
  obtain rfl := yZq0x2
  exact ⟨h', tk, rfl, fun b o hb e => k b o hb (k1 b o hb e)⟩
/-- what last_interval holds -/
noncomputable def LastIs : Option Int → Value → Prop
  | none, v => v = .none
  | some x, v => ∃ t, v = .int x t
noncomputable def GInv (g : Heap) (N C0 Ga D : Nat) (oG : Obj) (vs : List Value) (nD : Nat) (ns : List Int) (I i n : Nat) (s₀ s : Shared) : Prop :=
  i + n = N ∧ n ≠ 0 ∧ i ≤ ns.length ∧ Since C0 Ga s₀ s ∧ (∀ b o, g.get? b = some o → s.heap.get? b = some o) ∧ s.heap.get? D = some (listO vs nD) ∧ s.heap.get? Ga = some oG ∧
  ∃ last lv m oI, LastIs last lv ∧ (∀ k, outs ns none (i + k) = outs (ns.drop i) last k) ∧ (last = none → i = 0) ∧ s.heap.Ns C0 m ∧ Has m [(Str.ofString "last_interval", lv)] ∧ LI oI D i ∧ I ≠ Ga ∧ C0 < I ∧ s.heap.get? I = some oI
theorem sg_whileInd {prog : Program} {w : World} {A : Around} {R : GenEnd} {Y : Protocol} {fs : List Frame} {c : Code} {t : Sem Fin} (Inv : Nat → Shared → Shared → Prop)
    (turn : ∀ n s₀ s, Inv n s₀ s → (∀ n' s₀' s', n' < n → Inv n' s₀' s' → Seg (model prog w) A R Y n' s₀' c t fs s') → Seg (model prog w) A R Y n s₀ c t fs s)
    {n : Nat} {s₀ s : Shared} (h : Inv n s₀ s) : Seg (model prog w) A R Y n s₀ c t fs s := by
  suffices H : ∀ k n s₀ s, n ≤ k → Inv n s₀ s → Seg (model prog w) A R Y n s₀ c t fs s from H n n s₀ s (Nat.le_refl _) h
  intro k
  induction k with
  | zero => intro n s₀ s hk hi; exact turn n s₀ s hi fun n' _ _ hn' _ => by omega
  | succ k ih => intro n s₀ s hk hi; exact turn n s₀ s hi fun n' s₀' s' hn' hi' => ih n' s₀' s' (by omega) hi'
theorem list_item {prog : Program} {w : World} {A : Around} {E : Value → Shared → Prop} {s : Shared} {Q : Option Value → Shared → Prop} {I D : Addr} {i : Nat} {vs : List Value} (hI : s.heap.IsListIter I D i) (hD : s.heap.IsList D vs.toArray) (hne : D ≠ I) (hlt : i < vs.length)
    (hQ : ∀ v h' tk, vs[i]? = some v → h'.IsListIter I D (i + 1) → (∀ b o, b ∉ [I] → s.heap.get? b = some o → h'.get? b = some o) → Q (some v) { s with heap := h', toks := tk }) (hh : A.handled = none) :
    wpAny (model prog w) A (pyNext (.ref I)) Q E s :=
  (Walks.list hh I D hne vs.toArray).item i s Q E (by simpa using hlt) ⟨hI, hD⟩ fun v h' tk hv st k => hQ v h' tk (by simpa using hv) st.1 k
theorem list_end {prog : Program} {w : World} {A : Around} {E : Value → Shared → Prop} {s : Shared} {Q : Option Value → Shared → Prop} {I D : Addr} {vs : List Value} (hI : s.heap.IsListIter I D vs.length) (hD : s.heap.IsList D vs.toArray) (hne : D ≠ I)
    (hQ : ∀ h' tk, (∀ b o, b ∉ [I] → s.heap.get? b = some o → h'.get? b = some o) → Q none { s with heap := h', toks := tk }) (hh : A.handled = none) :
    wpAny (model prog w) A (pyNext (.ref I)) Q E s :=
  (Walks.list hh I D hne vs.toArray).done s Q E ⟨by simpa using hI, hD⟩ hQ
theorem fr_trunc {h : Heap} {C0 : Nat} {m : Str → Option Value} (x : h.Ns C0 m) : Fr (trunc h C0) C0 h m := ⟨x, fun _ _ e => (trunc_some e).2, trunc_size _ _⟩
theorem gd_trunc {w : World} {h h' : Heap} {C0 : Nat} (G : Gd w (trunc h C0)) (k : ∀ b o, b < C0 → h.get? b = some o → h'.get? b = some o) : Gd w (trunc h' C0) :=
  G.keeps fun b o e => by obtain ⟨h1, h2⟩ := trunc_some e; rw [trunc_lt h1]; exact k b o h1 h2
theorem keep_trunc {h h' : Heap} {C0 L : Nat} {m : Str → Option Value} (F : Fr (trunc h C0) L h' m) {b : Nat} {o : Obj} (hb : b < C0) (e : h.get? b = some o) : h'.get? b = some o := F.keep b o (by rw [trunc_lt hb]; exact e)
theorem sp_gen {prog : Program} {w : World} {A : Around} {E : Value → Shared → Prop} {s : Shared} {Q : Value → Shared → Prop}
   {g : Heap} {D : Addr} {vs : List Value} {nD N : Nat} {ns : List Int}
   (G : Gd w g) (hg : ∀ b o, g.get? b = some o → s.heap.get? b = some o) (R : Rm A 2) (hD : s.heap.get? D = some (listO vs nD)) (hi : IntsAre vs ns) (hns : ns.length ≤ 10) (hN : N ≠ 0)
   (hx : ∀ x r, ns = x :: r → x ≠ 0)
   (hQ : ∀ h₁ tk Ga gs (pv : Led), (∀ b o, s.heap.get? b = some o → h₁.get? b = some o) → h₁.IsGen Ga s.gens.size → h₁.NoLimit → s.heap.objs.size < Ga → gs.bare = true → (∀ p ∈ pv, s.heap.objs.size ≤ p.1 ∧ h₁.get? p.1 = some p.2) →
     (∀ s'' : Shared, (∀ b o, g.get? b = some o → s''.heap.get? b = some o) → s''.heap.get? D = some (listO vs nD) → (∀ p ∈ pv, s''.heap.get? p.1 = some p.2) → gs.Goes (model prog w) A.in1 (ends N s.heap.objs.size Ga (outs ns none)) (talk N s.heap.objs.size Ga D g (listO vs nD) (outs ns none)) N (.send .none) s'') →
     Q (.ref Ga) { s with heap := h₁, toks := tk, gens := s.gens.push gs }) :
   wpAny (model prog w) A (call (.ref 63) [.ref D]) Q E s := by
  (((have kkZq : PySem.Challenge.rw_wu0059_01 = PySem.Challenge.rw_wu0059_01 ∧ Mine.hd.heap_39 = Mine.hd.heap_39 := ⟨rfl, rfl⟩); revert kkZq; k_fill; intro kkZq; clear kkZq; w_on))
  (((rename Rm _ _ => rrZq); (rename Around => aaZq); (have e0Zq := Rm.h rrZq); rcases aaZq with ⟨hhZq, d1Zq, d2Zq, d3Zq, d4Zq⟩; dsimp only at e0Zq; subst e0Zq))
  have R := ‹Rm _ 2›
  refine enterG [(Str.ofString "grouping", .ref D)] (G.keeps hg) R.room (by k_is) (by k_is) (by first | exact BindsTo.of_eq rfl | exact binds_K (Gd.X (G.keeps hg)) rfl (by k_is) rfl rfl rfl) (locs rfl) (by decide) rfl rfl rfl ?_
  intro h₁ tk Ga F hga hsz hlt hnl
  obtain ⟨oG, qnm, qqn, hoG, -⟩ := id hga
  have hZqq := id F.ns
  refine ex3 hZqq ?_; (try clear hZqq); intro oL esL epL; refine and2 ?_; intro hoL rL
  have hlt0 := hlt
  refine hQ h₁ tk Ga _ [(s.heap.objs.size, oL), (Ga, oG)] F.keep hga hnl hlt rfl (fun p hp => ?_) fun s2 g2 h2D hs2 => ⟨rfl, ?_⟩
  · rcases List.mem_cons.mp hp with rfl | hp
    · exact ⟨Nat.le_refl _, hoL⟩
    · rw [List.mem_singleton.mp hp]; exact ⟨Nat.le_of_lt hlt, hoG⟩
  refine seg_func ?_
  have F2 : Fr (trunc s2.heap s.heap.objs.size) s.heap.objs.size s2.heap (fun y => [(Str.ofString "grouping", Value.ref D)].reverse.lookup y) :=
    ⟨⟨oL, esL, epL, hs2 _ (.head _), rL⟩, fun b o e => (trunc_some e).2, trunc_size _ _⟩
  have gdOf : ∀ h : Heap, (∀ b o, g.get? b = some o → h.get? b = some o) → Gd w (trunc h s.heap.objs.size) := fun h k => G.keeps fun b o e => by
    rw [trunc_lt (Heap.lt_size (hg b o e))]
    exact k b o e
  have G2 := gdOf _ g2
  have X2 := G2.X
  have hZqq := G2.T
  refine ex5 hZqq ?_; (try clear hZqq); intro pp l m mg mb; intro T2
  have h2G : s2.heap.get? Ga = some oG := hs2 _ (.tail _ (.head _))
  have N2 : News (trunc s2.heap s.heap.objs.size) s.heap.objs.size s2.heap [(Ga, oG)] := fun p hp => by
    rw [List.mem_singleton.mp hp]; exact ⟨h2G, Nat.ne_of_gt hlt, trunc_ge (Nat.le_of_lt hlt)⟩
  clear hs2
  refine seg_execs_cons ?_
  refine sg_quiet ?_
  (repeat' (first | (k_unfold; (try dsimp only)) | ( (fail_if_success (with_reducible show wpAny _ _ (exec (Stmt.While _ _ _ _) _) _ _ _)); (fail_if_success (with_reducible show wpAny _ _ (exec (Stmt.For _ _ _ _ _) _) _ _ _)); (fail_if_success (with_reducible show wpAny _ _ (exec (Stmt.Try _ _ _ _ _) _) _ _ _)); (fail_if_success (with_reducible show wpAny _ _ (pyIter _) (fun it s₂ => Loop _ _ _ _ _ _ _ _ _ _ it s₂) _ _)); (fail_if_success (with_reducible show wpAny _ _ (call (Value.ref _) _ _) _ _ _)); walk1; (try ((first | (with_reducible show wpAny _ _ (spliced _) _ _ _) | (with_reducible show wpAny _ _ (newList _) _ _ _) | (with_reducible show wpAny _ _ (execs _ _) _ _ _)); dsimp only)))))
  refine seg_execs_cons ?_
  refine sg_For ?_
  (repeat' (first | (k_unfold; (try dsimp only)) | ( (fail_if_success (with_reducible show wpAny _ _ (exec (Stmt.While _ _ _ _) _) _ _ _)); (fail_if_success (with_reducible show wpAny _ _ (exec (Stmt.For _ _ _ _ _) _) _ _ _)); (fail_if_success (with_reducible show wpAny _ _ (exec (Stmt.Try _ _ _ _ _) _) _ _ _)); (fail_if_success (with_reducible show wpAny _ _ (pyIter _) (fun it s₂ => Loop _ _ _ _ _ _ _ _ _ _ it s₂) _ _)); (fail_if_success (with_reducible show wpAny _ _ (call (Value.ref _) _ _) _ _ _)); walk1; (try ((first | (with_reducible show wpAny _ _ (spliced _) _ _ _) | (with_reducible show wpAny _ _ (newList _) _ _ _) | (with_reducible show wpAny _ _ (execs _ _) _ _ _)); dsimp only)))))
  have hDL : D < s.heap.objs.size := Heap.lt_size hD
  rename Fr _ _ _ _ => F3
  rename News _ _ _ _ => N3
  rename Heap => h3
  have hGL : Ga < h3.objs.size := Heap.lt_size (N3.get (.head _))
  have kp3 : ∀ b o, b < s.heap.objs.size ∨ b = Ga → s2.heap.get? b = some o → h3.get? b = some o := fun b o hb e => by
    rcases hb with hb | rfl
    · exact keep_trunc F3 hb e
    · rw [h2G] at e; cases e; exact N3.get (.head _)
  refine wpAny_pyIter_list (isL (kp3 _ _ (.inl hDL) h2D)) ?_
  have gI := Heap.get?_push_size h3 (o := { cls := .type "list_iterator", data := .fields #[.ref D, .int 0 0] }) rfl
  dsimp only
  generalize hIe : h3.objs.size = I at hGL gI ⊢
  intro p
  refine sg_forInd (GInv g N s.heap.objs.size Ga D oG vs nD ns I) ns.length (fun _ _ _ _ h => h.2.2.1) ?_ (i := 0) ⟨by omega, hN, by omega,
    ⟨_, _, rfl, fun b o hb e => Heap.get?_push_of_some _ (kp3 b o hb e)⟩, fun b o e => Heap.get?_push_of_some _ (kp3 b o (.inl (Heap.lt_size (hg b o e))) (g2 b o e)), Heap.get?_push_of_some _ (kp3 _ _ (.inl hDL) h2D), Heap.get?_push_of_some _ (N3.get (.head _)),
    none, .none, _, _, rfl, fun k => by simp, fun _ => rfl, F3.ns.push _, ⟨rfl, trivial⟩, ⟨rfl, rfl⟩, Nat.ne_of_gt hGL, hIe ▸ F3.ns.lt, gI⟩
  clear N3 F3 kp3 hGL gI hIe
  intro i n s₀ s3 xZq1 ih
  obtain ⟨hin, hn0, hil, hsi, g3, h3D, h3G, last, lv, m3, oI, hlast, hout, hl0, F3, em3, hLI, hIG, hI0, h3I⟩ := xZq1
  replace F3 := fr_has (fr_trunc F3) em3
  have G3 := gdOf _ g3
  have X3 := G3.X
  have hZqq := G3.T
  refine ex5 hZqq ?_; (try clear hZqq); intro pp l m mg mb; intro T3
  refine sg_forTurn ?_
  have St3 : s3.heap.IsListIter I D i := ⟨oI, h3I, hLI.1, hLI.2⟩
  have hDI : D ≠ I := Nat.ne_of_lt (Nat.lt_trans hDL hI0)
  have hvl := hi.length
  by_cases hlt : i < ns.length
  · refine list_item St3 (isL h3D) hDI (by omega) (fun v h4 tk4 hv St4 k4 => ?_) rfl
    have hZqq : ∃ x t, v = .int x t ∧ ns[i]? = some x := hi.at i v hv
    refine ex2 hZqq ?_; (try clear hZqq); intro x t; refine and2 ?_; intro yZq5x2 hx'
    obtain rfl := yZq5x2
    refine wpAny_of_eq rfl ?_
    have F4 : Fr (trunc s3.heap s.heap.objs.size) s.heap.objs.size h4 _ := fr_kb F3 k4 (by simpa using Nat.ne_of_lt hI0) (fun a ha => by rw [List.mem_singleton.mp ha]; exact trunc_ge (Nat.le_of_lt hI0))
    refine ex1 St4 ?_; (try clear St4); intro oI4; refine and3 ?_; intro h4I hc4 hd4
    have N4 : News (trunc s3.heap s.heap.objs.size) s.heap.objs.size h4 [(I, oI4), (Ga, oG)] := by
      refine news_add (news_add News.nil (k4 Ga _ (by simpa using Ne.symm hIG) h3G) (Nat.ne_of_gt hlt0) (trunc_ge (Nat.le_of_lt hlt0))) h4I (Nat.ne_of_gt hI0) (trunc_ge (Nat.le_of_lt hI0))
    clear F3
    refine wpAny_assign_Name ?_
    (repeat' (first | (k_unfold; (try dsimp only)) | ( (fail_if_success (with_reducible show wpAny _ _ (exec (Stmt.While _ _ _ _) _) _ _ _)); (fail_if_success (with_reducible show wpAny _ _ (exec (Stmt.For _ _ _ _ _) _) _ _ _)); (fail_if_success (with_reducible show wpAny _ _ (exec (Stmt.Try _ _ _ _ _) _) _ _ _)); (fail_if_success (with_reducible show wpAny _ _ (pyIter _) (fun it s₂ => Loop _ _ _ _ _ _ _ _ _ _ it s₂) _ _)); (fail_if_success (with_reducible show wpAny _ _ (call (Value.ref _) _ _) _ _ _)); walk1; (try ((first | (with_reducible show wpAny _ _ (spliced _) _ _ _) | (with_reducible show wpAny _ _ (newList _) _ _ _) | (with_reducible show wpAny _ _ (execs _ _) _ _ _)); dsimp only)))))
    have sinceOf : ∀ {h' : Heap} {m' : Str → Option Value} {tk' : Nat}, Fr (trunc s3.heap s.heap.objs.size) s.heap.objs.size h' m' → News (trunc s3.heap s.heap.objs.size) s.heap.objs.size h' [(I, oI4), (Ga, oG)] →
        Since s.heap.objs.size Ga s₀ { s3 with heap := h', toks := tk' } := fun F N => hsi.on fun b o hb e => by
      rcases hb with hb | rfl
      · exact keep_trunc F hb e
      · rw [h3G] at e; cases e; exact N.get (.tail _ (.head _))
    have hdrop : ns.drop i = x :: ns.drop (i + 1) := by
      obtain ⟨h1, h2⟩ := List.getElem?_eq_some_iff.mp hx'
      rw [List.drop_eq_getElem_cons h1, h2]
    have outI : ∀ k, outs ns none (i + k) = outs (x :: ns.drop (i + 1)) last k := by rw [← hdrop]; exact hout
    clear k4
    refine seg_execs_cons (sg_If ?_)
    (repeat' (first | (k_unfold; (try dsimp only)) | ( (fail_if_success (with_reducible show wpAny _ _ (exec (Stmt.While _ _ _ _) _) _ _ _)); (fail_if_success (with_reducible show wpAny _ _ (exec (Stmt.For _ _ _ _ _) _) _ _ _)); (fail_if_success (with_reducible show wpAny _ _ (exec (Stmt.Try _ _ _ _ _) _) _ _ _)); (fail_if_success (with_reducible show wpAny _ _ (pyIter _) (fun it s₂ => Loop _ _ _ _ _ _ _ _ _ _ it s₂) _ _)); (fail_if_success (with_reducible show wpAny _ _ (call (Value.ref _) _ _) _ _ _)); walk1; (try ((first | (with_reducible show wpAny _ _ (spliced _) _ _ _) | (with_reducible show wpAny _ _ (newList _) _ _ _) | (with_reducible show wpAny _ _ (execs _ _) _ _ _)); dsimp only)))))
    · refine seg_execs_cons (sg_quiet ?_)
      (repeat' (first | (k_unfold; (try dsimp only)) | ( (fail_if_success (with_reducible show wpAny _ _ (exec (Stmt.While _ _ _ _) _) _ _ _)); (fail_if_success (with_reducible show wpAny _ _ (exec (Stmt.For _ _ _ _ _) _) _ _ _)); (fail_if_success (with_reducible show wpAny _ _ (exec (Stmt.Try _ _ _ _ _) _) _ _ _)); (fail_if_success (with_reducible show wpAny _ _ (pyIter _) (fun it s₂ => Loop _ _ _ _ _ _ _ _ _ _ it s₂) _ _)); (fail_if_success (with_reducible show wpAny _ _ (call (Value.ref _) _ _) _ _ _)); walk1; (try ((first | (with_reducible show wpAny _ _ (spliced _) _ _ _) | (with_reducible show wpAny _ _ (newList _) _ _ _) | (with_reducible show wpAny _ _ (execs _ _) _ _ _)); dsimp only)))))
      refine seg_leaf (.ok (.ret .none)) ?_
      refine seg_end (.ok (.ret .none)) ⟨rfl, ?_, ?_⟩
      · rename x = 127 => hx127
        have := outI 0
        rw [show i + 0 = N - n by omega] at this
        rw [this]; simp [outs, hx127]
      · exact sinceOf ‹_› ‹_›
    refine seg_execs_nil ?_
    refine seg_execs_cons (sg_If ?_)
    (repeat' (first | (k_unfold; (try dsimp only)) | ( (fail_if_success (with_reducible show wpAny _ _ (exec (Stmt.While _ _ _ _) _) _ _ _)); (fail_if_success (with_reducible show wpAny _ _ (exec (Stmt.For _ _ _ _ _) _) _ _ _)); (fail_if_success (with_reducible show wpAny _ _ (exec (Stmt.Try _ _ _ _ _) _) _ _ _)); (fail_if_success (with_reducible show wpAny _ _ (pyIter _) (fun it s₂ => Loop _ _ _ _ _ _ _ _ _ _ it s₂) _ _)); (fail_if_success (with_reducible show wpAny _ _ (call (Value.ref _) _ _) _ _ _)); walk1; (try ((first | (with_reducible show wpAny _ _ (spliced _) _ _ _) | (with_reducible show wpAny _ _ (newList _) _ _ _) | (with_reducible show wpAny _ _ (execs _ _) _ _ _)); dsimp only)))))
    · obtain ⟨y, rfl⟩ : ∃ y, last = some y := by
        cases last with
        | some y => exact ⟨y, rfl⟩
        | none =>
          rename x = 0 => hx0
          have := hl0 rfl
          subst this
          exact absurd hx0 (hx x (ns.drop 1) (by simpa using hdrop))
      obtain ⟨ty, rfl⟩ := hlast
      refine seg_execs_cons (sg_If ?_)
      (repeat' (first | (k_unfold; (try dsimp only)) | ( (fail_if_success (with_reducible show wpAny _ _ (exec (Stmt.While _ _ _ _) _) _ _ _)); (fail_if_success (with_reducible show wpAny _ _ (exec (Stmt.For _ _ _ _ _) _) _ _ _)); (fail_if_success (with_reducible show wpAny _ _ (exec (Stmt.Try _ _ _ _ _) _) _ _ _)); (fail_if_success (with_reducible show wpAny _ _ (pyIter _) (fun it s₂ => Loop _ _ _ _ _ _ _ _ _ _ it s₂) _ _)); (fail_if_success (with_reducible show wpAny _ _ (call (Value.ref _) _ _) _ _ _)); walk1; (try ((first | (with_reducible show wpAny _ _ (spliced _) _ _ _) | (with_reducible show wpAny _ _ (newList _) _ _ _) | (with_reducible show wpAny _ _ (execs _ _) _ _ _)); dsimp only)))))
      refine seg_execs_nil ?_
      refine seg_execs_cons (sg_While ?_)
      intro p2
      rename Fr _ _ _ _ => F5
      rename News _ _ _ _ => N5
      rename x = 0 => hx0
      have hout2 : ∀ k, outs ns none (i + k) = some y := fun k => by rw [outI k]; simp [outs, hx0]
      refine sg_whileInd (fun n' s₀' s' => n' ≠ 0 ∧ n' + i ≤ N ∧ Since s.heap.objs.size Ga s₀' s' ∧ (∀ b o, g.get? b = some o → s'.heap.get? b = some o) ∧ s'.heap.get? Ga = some oG ∧
        ∃ m', s'.heap.Ns s.heap.objs.size m' ∧ Has m' [(Str.ofString "last_interval", .int y ty)]) ?_
        ⟨hn0, by omega, sinceOf F5 N5, fun b o e => keep_trunc F5 (Heap.lt_size (hg b o e)) (g3 b o e), N5.get (.tail _ (.head _)), _, F5.ns, ⟨rfl, trivial⟩⟩
      clear F5 N5 sinceOf
      intro n6 s06 s6 xZq1 ih6
      obtain ⟨hn6, hni6, hsi6, g6, h6G, m6, F6, em6⟩ := xZq1
      replace F6 := fr_has (fr_trunc F6) em6
      have G6 := gdOf _ g6
      have X6 := G6.X
      have hZqq := G6.T
      refine ex5 hZqq ?_; (try clear hZqq); intro pp l m mg mb; intro T6
      have N6 : News (trunc s6.heap s.heap.objs.size) s.heap.objs.size s6.heap [(Ga, oG)] := news_add News.nil h6G (Nat.ne_of_gt hlt0) (trunc_ge (Nat.le_of_lt hlt0))
      obtain ⟨n7, rfl⟩ : ∃ n7, n6 = n7 + 1 := ⟨n6 - 1, by omega⟩
      refine seg_whileLoop ?_
      (repeat' (first | (k_unfold; (try dsimp only)) | ( (fail_if_success (with_reducible show wpAny _ _ (exec (Stmt.While _ _ _ _) _) _ _ _)); (fail_if_success (with_reducible show wpAny _ _ (exec (Stmt.For _ _ _ _ _) _) _ _ _)); (fail_if_success (with_reducible show wpAny _ _ (exec (Stmt.Try _ _ _ _ _) _) _ _ _)); (fail_if_success (with_reducible show wpAny _ _ (pyIter _) (fun it s₂ => Loop _ _ _ _ _ _ _ _ _ _ it s₂) _ _)); (fail_if_success (with_reducible show wpAny _ _ (call (Value.ref _) _ _) _ _ _)); walk1; (try ((first | (with_reducible show wpAny _ _ (spliced _) _ _ _) | (with_reducible show wpAny _ _ (newList _) _ _ _) | (with_reducible show wpAny _ _ (execs _ _) _ _ _)); dsimp only)))))
      refine seg_execs_cons (seg_Expr_Yield rfl rfl rfl ?_)
      (repeat' (first | (k_unfold; (try dsimp only)) | ( (fail_if_success (with_reducible show wpAny _ _ (exec (Stmt.While _ _ _ _) _) _ _ _)); (fail_if_success (with_reducible show wpAny _ _ (exec (Stmt.For _ _ _ _ _) _) _ _ _)); (fail_if_success (with_reducible show wpAny _ _ (exec (Stmt.Try _ _ _ _ _) _) _ _ _)); (fail_if_success (with_reducible show wpAny _ _ (pyIter _) (fun it s₂ => Loop _ _ _ _ _ _ _ _ _ _ it s₂) _ _)); (fail_if_success (with_reducible show wpAny _ _ (call (Value.ref _) _ _) _ _ _)); walk1; (try ((first | (with_reducible show wpAny _ _ (spliced _) _ _ _) | (with_reducible show wpAny _ _ (newList _) _ _ _) | (with_reducible show wpAny _ _ (execs _ _) _ _ _)); dsimp only)))))
      rename_i kap hk
      have hZqq := id F6.ns
      refine ex3 hZqq ?_; (try clear hZqq); intro oL6 es6 ep6; refine and2 ?_; intro hoL6 rL6
      refine ⟨⟨y, ty, rfl, ?_⟩, ?_, [(s.heap.objs.size, oL6), (Ga, oG)], (fun p hp => ?_), fun hm7 s7 g7 h7D hs7 => hk .none s7 ?_⟩
      · have := hout2 (N - 1 - n7 - i)
        rw [show i + (N - 1 - n7 - i) = N - 1 - n7 by omega] at this
        exact this
      · exact hsi6
      · rcases List.mem_cons.mp hp with rfl | hp
        · exact ⟨Nat.le_refl _, hoL6⟩
        · rw [List.mem_singleton.mp hp]; exact ⟨Nat.le_of_lt hlt0, h6G⟩
      · show Seg _ _ _ _ _ _ _ _ _ _
        refine seg_execs_nil ?_
        refine seg_again rfl (ih6 n7 s7 s7 (Nat.lt_succ_self _) ⟨hm7, by omega, Since.refl, g7, hs7 _ (.tail _ (.head _)), _, ⟨oL6, es6, ep6, hs7 _ (.head _), rL6⟩, ⟨rfl, trivial⟩⟩)
    · refine seg_execs_nil ?_
      obtain ⟨n7, rfl⟩ : ∃ n7, n = n7 + 1 := ⟨n - 1, by omega⟩
      refine seg_execs_cons (seg_Expr_Yield rfl rfl rfl ?_)
      (repeat' (first | (k_unfold; (try dsimp only)) | ( (fail_if_success (with_reducible show wpAny _ _ (exec (Stmt.While _ _ _ _) _) _ _ _)); (fail_if_success (with_reducible show wpAny _ _ (exec (Stmt.For _ _ _ _ _) _) _ _ _)); (fail_if_success (with_reducible show wpAny _ _ (exec (Stmt.Try _ _ _ _ _) _) _ _ _)); (fail_if_success (with_reducible show wpAny _ _ (pyIter _) (fun it s₂ => Loop _ _ _ _ _ _ _ _ _ _ it s₂) _ _)); (fail_if_success (with_reducible show wpAny _ _ (call (Value.ref _) _ _) _ _ _)); walk1; (try ((first | (with_reducible show wpAny _ _ (spliced _) _ _ _) | (with_reducible show wpAny _ _ (newList _) _ _ _) | (with_reducible show wpAny _ _ (execs _ _) _ _ _)); dsimp only)))))
      rename Fr _ _ _ _ => F5
      rename News _ _ _ _ => N5
      rename x ≠ 127 => hx127
      rename x ≠ 0 => hx0
      rename_i kap hk
      have hZqq := id F5.ns
      refine ex3 hZqq ?_; (try clear hZqq); intro oL5 es5 ep5; refine and2 ?_; intro hoL5 rL5
      refine ⟨⟨x, t, rfl, ?_⟩, sinceOf F5 N5, [(s.heap.objs.size, oL5), (Ga, oG), (I, oI4)], (fun p hp => ?_), fun hm7 s7 g5 h7D hs7 => hk .none s7 ?_⟩
      · have := outI 0
        rw [show i + 0 = N - 1 - n7 by omega] at this
        rw [this]; simp [outs, hx127, hx0]
      · rcases List.mem_cons.mp hp with rfl | hp
        · exact ⟨Nat.le_refl _, hoL5⟩
        · rcases List.mem_cons.mp hp with rfl | hp
          · exact ⟨Nat.le_of_lt hlt0, N5.get (.tail _ (.head _))⟩
          · rw [List.mem_singleton.mp hp]; exact ⟨Nat.le_of_lt hI0, N5.get (.head _)⟩
      · show Seg _ _ _ _ _ _ _ _ _ _
        have h7G := hs7 _ (.tail _ (.head _))
        have h7I := hs7 _ (.tail _ (.tail _ (.head _)))
        have nz7 : s7.heap.Ns s.heap.objs.size _ := ⟨oL5, es5, ep5, hs7 _ (.head _), rL5⟩
        have F7 := fr_trunc nz7
        dsimp only at h7G h7I
        clear F5 N5 sinceOf hk
        have G7 := gdOf _ g5
        have X7 := G7.X
        have hZqq := G7.T
        refine ex5 hZqq ?_; (try clear hZqq); intro pp l m mg mb; intro T7
        have N7 : News (trunc s7.heap s.heap.objs.size) s.heap.objs.size s7.heap [(I, oI4), (Ga, oG)] := news_add (news_add News.nil h7G (Nat.ne_of_gt hlt0) (trunc_ge (Nat.le_of_lt hlt0))) h7I (Nat.ne_of_gt hI0) (trunc_ge (Nat.le_of_lt hI0))
        refine seg_execs_cons (sg_quiet ?_)
        (repeat' (first | (k_unfold; (try dsimp only)) | ( (fail_if_success (with_reducible show wpAny _ _ (exec (Stmt.While _ _ _ _) _) _ _ _)); (fail_if_success (with_reducible show wpAny _ _ (exec (Stmt.For _ _ _ _ _) _) _ _ _)); (fail_if_success (with_reducible show wpAny _ _ (exec (Stmt.Try _ _ _ _ _) _) _ _ _)); (fail_if_success (with_reducible show wpAny _ _ (pyIter _) (fun it s₂ => Loop _ _ _ _ _ _ _ _ _ _ it s₂) _ _)); (fail_if_success (with_reducible show wpAny _ _ (call (Value.ref _) _ _) _ _ _)); walk1; (try ((first | (with_reducible show wpAny _ _ (spliced _) _ _ _) | (with_reducible show wpAny _ _ (newList _) _ _ _) | (with_reducible show wpAny _ _ (execs _ _) _ _ _)); dsimp only)))))
        refine seg_execs_nil ?_
        rename Fr _ _ _ _ => F8
        rename News _ _ _ _ => N8
        refine seg_again rfl (ih n7 s7 _ ⟨by omega, hm7, by omega, ⟨_, _, rfl, fun b o hb e => ?_⟩, fun b o e => keep_trunc F8 (Heap.lt_size (hg b o e)) (g5 b o e), keep_trunc F8 hDL h7D, N8.get (.tail _ (.head _)), some x, .int x t, _, oI4, ⟨t, rfl⟩, ?_, (fun q => by cases q), F8.ns, ⟨rfl, trivial⟩, ⟨hc4, hd4⟩, hIG, hI0, N8.get (.head _)⟩)
        · rcases hb with hb | rfl
          · exact keep_trunc F8 hb e
          · rw [h7G] at e; cases e; exact N8.get (.tail _ (.head _))
        · intro k
          have := outI (k + 1)
          rw [show i + 1 + k = i + (k + 1) by omega, this]
          simp [outs, hx127, hx0]
  · obtain rfl : i = vs.length := by omega
    refine list_end St3 (isL h3D) hDI (fun h4 tk4 k4 => ?_) rfl
    refine sg_blockEnd ?_
    refine seg_end (.ok (.ret .none)) ⟨rfl, ?_, ?_⟩
    · have := hout 0
      rw [show vs.length + 0 = N - n by omega] at this
      rw [this, List.drop_of_length_le (by omega)]; rfl
    · refine hsi.on fun b o hb e => k4 b o ?_ e
      rw [List.mem_singleton]; rcases hb with hb | rfl
      · exact Nat.ne_of_lt (Nat.lt_trans hb hI0)
      · exact Ne.symm hIG
-- needs C10 C18 C27 C31 C32 C33 C34
noncomputable def Outer (as : List Addr) (h : Heap) : List Env → Prop
  | [] => True
  | env :: r => env.scope.kind ≠ .module ∧ (∃ L o, env.frame = some L ∧ L ∈ as ∧ h.get? L = some o ∧ ∀ vs, o.data ≠ .fields vs) ∧ Outer as h r
theorem Outer.frames {as : List Addr} {h : Heap} : ∀ {l : List Env}, Outer as h l → h.FunFrames (hideAll h as) l
  | [], _ => trivial
  | _ :: _, ⟨k, ⟨L, o, hf, hm, ho, hd⟩, r⟩ => ⟨k, ⟨L, o, hf, hideAll_none _ hm, ho, hd⟩, r.frames⟩
theorem Outer.keep {as : List Addr} {h h' : Heap} (k : ∀ b o, b ∈ as → h.get? b = some o → h'.get? b = some o) : ∀ {l : List Env}, Outer as h l → Outer as h' l
  | [], _ => trivial
  | _ :: _, ⟨kd, ⟨L, o, hf, hm, ho, hd⟩, r⟩ => ⟨kd, ⟨L, o, hf, hm, k _ _ hm ho, hd⟩, r.keep k⟩
theorem Outer.mono {as as' : List Addr} {h : Heap} (k : ∀ b ∈ as, b ∈ as') : ∀ {l : List Env}, Outer as h l → Outer as' h l
  | [], _ => trivial
  | _ :: _, ⟨kd, ⟨L, o, hf, hm, ho, hd⟩, r⟩ => ⟨kd, ⟨L, o, hf, k _ hm, ho, hd⟩, r.mono k⟩
noncomputable def flies (C0 Ga : Nat) (as : List Addr) (outer : List Env) : GenEnd := fun n s₀ r s₁ => ∃ e h h' tk, r = .error (.ref e) ∧ s₁ = { s₀ with heap := h', toks := tk } ∧
  (∀ b o, b < C0 ∨ b = Ga → s₀.heap.get? b = some o → h.get? b = some o) ∧ Rose h (C0 :: as) outer e "ValueError" h'
noncomputable def silent : Protocol := fun _ _ _ _ _ => False
theorem kp_of {h h' : Heap} {C0 I Ga : Nat} {m : Str → Option Value} {oI oG : Obj} (F : Fr (trunc h C0) C0 h' m) (N : News (trunc h C0) C0 h' [(I, oI), (Ga, oG)]) (hG : h.get? Ga = some oG) : ∀ b o, b < C0 ∨ b = Ga → h.get? b = some o → h'.get? b = some o := fun b o hb q => by
  rcases hb with hb | rfl
  · exact keep_trunc F hb q
  · rw [hG] at q; cases q; exact N.get (.tail _ (.head _))
theorem ns_there {h : Heap} {L : Addr} {m : Str → Option Value} (x : h.Ns L m) : ∃ o, h.get? L = some o ∧ ∀ vs, o.data ≠ .fields vs := by
  refine ex3 x ?_; (try clear x); intro o es ep; refine and3 ?_; intro ho hd _
  exact ⟨o, ho, fun vs q => by rw [hd] at q; cases q⟩
theorem sp_genX {prog : Program} {w : World} {A : Around} {E : Value → Shared → Prop} {s : Shared} {Q : Value → Shared → Prop}
   {g : Heap} {D : Addr} {vs : List Value} {nD : Nat} {ns : List Int} {as : List Addr} {outer : List Env}
   (G : Gd w g) (hg : ∀ b o, g.get? b = some o → s.heap.get? b = some o) (R : Rm A 2) (hD : s.heap.get? D = some (listO vs nD)) (hi : IntsAre vs (0 :: ns)) (hns : ns.length ≤ 10)
   (hfr : A.frames = some outer) (has : ∀ b ∈ as, b < s.heap.objs.size) (ho : Outer as s.heap outer)
   (hQ : ∀ h₁ tk Ga gs, (∀ b o, s.heap.get? b = some o → h₁.get? b = some o) → h₁.IsGen Ga s.gens.size → h₁.NoLimit → s.heap.objs.size < Ga → gs.bare = true →
     (∀ s'' : Shared, (∀ b o, h₁.get? b = some o → s''.heap.get? b = some o) → gs.Goes (model prog w) A.in1 (flies s.heap.objs.size Ga as outer) silent 0 (.send .none) s'') →
     Q (.ref Ga) { s with heap := h₁, toks := tk, gens := s.gens.push gs }) :
   wpAny (model prog w) A (call (.ref 63) [.ref D]) Q E s := by
  (((have kkZq : PySem.Challenge.rw_wu0059_01 = PySem.Challenge.rw_wu0059_01 ∧ Mine.hd.heap_39 = Mine.hd.heap_39 := ⟨rfl, rfl⟩); revert kkZq; k_fill; intro kkZq; clear kkZq; w_on))
  (((rename Rm _ _ => rrZq); (rename Around => aaZq); (have e0Zq := Rm.h rrZq); rcases aaZq with ⟨hhZq, d1Zq, d2Zq, d3Zq, d4Zq⟩; dsimp only at e0Zq; subst e0Zq))
  have R := ‹Rm _ 2›
  dsimp only at hfr
  subst hfr
  have hW : ∀ b ∈ ([] : List Addr), b < s.heap.objs.size ∧ g.get? b = none ∧ b ≠ D := fun b hb => by cases hb
  refine enterG [(Str.ofString "grouping", .ref D)] (G.keeps hg) R.room (by k_is) (by k_is) (by first | exact BindsTo.of_eq rfl | exact binds_K (Gd.X (G.keeps hg)) rfl (by k_is) rfl rfl rfl) (locs rfl) (by decide) rfl rfl rfl ?_
  intro h₁ tk Ga F hga hsz hlt hnl
  refine hQ h₁ tk Ga _ F.keep hga hnl hlt rfl fun s2 hs2' => ⟨rfl, ?_⟩
  have hs2 : ∀ b o, b ∉ ([] : List Addr) → h₁.get? b = some o → s2.heap.get? b = some o := fun b o _ e => hs2' b o e
  refine seg_func ?_
  have hLW : s.heap.objs.size ∉ ([] : List Addr) := fun q => Nat.lt_irrefl _ (hW _ q).1
  have F2 : Fr (trunc s2.heap s.heap.objs.size) s.heap.objs.size s2.heap (fun y => [(Str.ofString "grouping", Value.ref D)].reverse.lookup y) :=
    ⟨F.ns.at' fun o e => hs2 _ o hLW e, fun b o e => (trunc_some e).2, trunc_size _ _⟩
  have gdOf : ∀ h : Heap, (∀ b o, g.get? b = some o → h.get? b = some o) → Gd w (trunc h s.heap.objs.size) := fun h k => G.keeps fun b o e => by
    rw [trunc_lt (Heap.lt_size (hg b o e))]
    exact k b o e
  have gW : ∀ (h h' : Heap), (∀ b o, b ∉ ([] : List Addr) → h.get? b = some o → h'.get? b = some o) → (∀ b o, g.get? b = some o → h.get? b = some o) → ∀ b o, g.get? b = some o → h'.get? b = some o := fun h h' k1 k2 b o e =>
    k1 b o (fun q => by rw [(hW b q).2.1] at e; cases e) (k2 b o e)
  have g2 : ∀ b o, g.get? b = some o → s2.heap.get? b = some o := gW _ _ hs2 fun b o e => F.keep b o (hg b o e)
  have G2 := gdOf _ g2
  have X2 := G2.X
  have hZqq := G2.T
  refine ex5 hZqq ?_; (try clear hZqq); intro pp l m mg mb; intro T2
  obtain ⟨oG, qnm, qqn, hoG, -⟩ := id hga
  have hGW : Ga ∉ ([] : List Addr) := fun q => Nat.lt_asymm hlt (hW _ q).1
  have N2 : News (trunc s2.heap s.heap.objs.size) s.heap.objs.size s2.heap [(Ga, oG)] := fun p hp => by
    rw [List.mem_singleton.mp hp]; exact ⟨hs2 _ _ hGW hoG, Nat.ne_of_gt hlt, trunc_ge (Nat.le_of_lt hlt)⟩
  have h2G := hs2 _ _ hGW hoG
  have hlt0 := hlt
  have h2D : s2.heap.get? D = some (listO vs nD) := hs2 _ _ (fun q => (hW _ q).2.2 rfl) (F.keep _ _ hD)
  have hkL : ∀ b o, s.heap.get? b = some o → s2.heap.get? b = some o := fun b o e => hs2' b o (F.keep b o e)
  clear hs2 hs2'
  refine seg_execs_cons ?_
  refine sg_quiet ?_
  (repeat' (first | (k_unfold; (try dsimp only)) | ( (fail_if_success (with_reducible show wpAny _ _ (exec (Stmt.While _ _ _ _) _) _ _ _)); (fail_if_success (with_reducible show wpAny _ _ (exec (Stmt.For _ _ _ _ _) _) _ _ _)); (fail_if_success (with_reducible show wpAny _ _ (exec (Stmt.Try _ _ _ _ _) _) _ _ _)); (fail_if_success (with_reducible show wpAny _ _ (pyIter _) (fun it s₂ => Loop _ _ _ _ _ _ _ _ _ _ it s₂) _ _)); (fail_if_success (with_reducible show wpAny _ _ (call (Value.ref _) _ _) _ _ _)); walk1; (try ((first | (with_reducible show wpAny _ _ (spliced _) _ _ _) | (with_reducible show wpAny _ _ (newList _) _ _ _) | (with_reducible show wpAny _ _ (execs _ _) _ _ _)); dsimp only)))))
  refine seg_execs_cons ?_
  refine sg_For ?_
  (repeat' (first | (k_unfold; (try dsimp only)) | ( (fail_if_success (with_reducible show wpAny _ _ (exec (Stmt.While _ _ _ _) _) _ _ _)); (fail_if_success (with_reducible show wpAny _ _ (exec (Stmt.For _ _ _ _ _) _) _ _ _)); (fail_if_success (with_reducible show wpAny _ _ (exec (Stmt.Try _ _ _ _ _) _) _ _ _)); (fail_if_success (with_reducible show wpAny _ _ (pyIter _) (fun it s₂ => Loop _ _ _ _ _ _ _ _ _ _ it s₂) _ _)); (fail_if_success (with_reducible show wpAny _ _ (call (Value.ref _) _ _) _ _ _)); walk1; (try ((first | (with_reducible show wpAny _ _ (spliced _) _ _ _) | (with_reducible show wpAny _ _ (newList _) _ _ _) | (with_reducible show wpAny _ _ (execs _ _) _ _ _)); dsimp only)))))
  have hDL : D < s.heap.objs.size := Heap.lt_size hD
  rename Fr _ _ _ _ => F3
  rename News _ _ _ _ => N3
  rename Heap => h3
  have hGL : Ga < h3.objs.size := Heap.lt_size (N3.get (.head _))
  have kp3 : ∀ b o, b < s.heap.objs.size ∨ b = Ga → s2.heap.get? b = some o → h3.get? b = some o := fun b o hb e => by
    rcases hb with hb | rfl
    · exact keep_trunc F3 hb e
    · rw [h2G] at e; cases e; exact N3.get (.head _)
  refine wpAny_pyIter_list (isL (kp3 _ _ (.inl hDL) h2D)) ?_
  have gI := Heap.get?_push_size h3 (o := { cls := .type "list_iterator", data := .fields #[.ref D, .int 0 0] }) rfl
  have kp4 : ∀ b o, b < s.heap.objs.size ∨ b = Ga → s2.heap.get? b = some o → (h3.push { cls := .type "list_iterator", data := .fields #[.ref D, .int 0 0] }).get? b = some o := fun b o hb e => Heap.get?_push_of_some _ (kp3 b o hb e)
  have F4 : Fr (trunc s2.heap s.heap.objs.size) s.heap.objs.size (h3.push { cls := .type "list_iterator", data := .fields #[.ref D, .int 0 0] }) _ := F3.push _
  have hG4 : (h3.push { cls := .type "list_iterator", data := .fields #[.ref D, .int 0 0] }).get? Ga = some oG := Heap.get?_push_of_some _ (N3.get (.head _))
  have hI0 : s.heap.objs.size < h3.objs.size := F3.ns.lt
  clear F3 N3
  dsimp only
  generalize hIe : h3.objs.size = I at hGL gI hI0 ⊢
  generalize hhe : (h3.push { cls := .type "list_iterator", data := .fields #[.ref D, .int 0 0] }) = h4 at gI kp4 F4 hG4 ⊢
  intro p
  refine sg_forTurn ?_
  have hDI : D ≠ I := Nat.ne_of_lt (Nat.lt_trans hDL hI0)
  have hZqq := hi.cons_inv
  refine ex2 hZqq ?_; (try clear hZqq); intro tz vs'; refine and2 ?_; intro yZq2x2 hi'
  obtain rfl := yZq2x2
  refine list_item (i := 0) (D := D) (vs := .int 0 tz :: vs') ⟨_, gI, rfl, rfl⟩ (isL (kp4 _ _ (.inl hDL) h2D)) hDI (by simp) (fun v h5 tk5 hv St5 k5 => ?_) rfl
  obtain rfl : v = .int 0 tz := by simpa using hv.symm
  refine wpAny_of_eq rfl ?_
  have F5 : Fr (trunc s2.heap s.heap.objs.size) s.heap.objs.size h5 _ := fr_kb F4 k5 (by simpa using Nat.ne_of_lt hI0) (fun a ha => by rw [List.mem_singleton.mp ha]; exact trunc_ge (Nat.le_of_lt hI0))
  refine ex1 St5 ?_; (try clear St5); intro oI5; refine and3 ?_; intro h5I hc5 hd5
  have N5 : News (trunc s2.heap s.heap.objs.size) s.heap.objs.size h5 [(I, oI5), (Ga, oG)] :=
    news_add (news_add News.nil (k5 Ga _ (by simpa using Nat.ne_of_lt hGL) hG4) (Nat.ne_of_gt hlt0) (trunc_ge (Nat.le_of_lt hlt0))) h5I (Nat.ne_of_gt hI0) (trunc_ge (Nat.le_of_lt hI0))
  clear F4 k5
  refine wpAny_assign_Name ?_
  (repeat' (first | (k_unfold; (try dsimp only)) | ( (fail_if_success (with_reducible show wpAny _ _ (exec (Stmt.While _ _ _ _) _) _ _ _)); (fail_if_success (with_reducible show wpAny _ _ (exec (Stmt.For _ _ _ _ _) _) _ _ _)); (fail_if_success (with_reducible show wpAny _ _ (exec (Stmt.Try _ _ _ _ _) _) _ _ _)); (fail_if_success (with_reducible show wpAny _ _ (pyIter _) (fun it s₂ => Loop _ _ _ _ _ _ _ _ _ _ it s₂) _ _)); (fail_if_success (with_reducible show wpAny _ _ (call (Value.ref _) _ _) _ _ _)); walk1; (try ((first | (with_reducible show wpAny _ _ (spliced _) _ _ _) | (with_reducible show wpAny _ _ (newList _) _ _ _) | (with_reducible show wpAny _ _ (execs _ _) _ _ _)); dsimp only)))))
  refine seg_execs_cons (sg_If ?_)
  (repeat' (first | (k_unfold; (try dsimp only)) | ( (fail_if_success (with_reducible show wpAny _ _ (exec (Stmt.While _ _ _ _) _) _ _ _)); (fail_if_success (with_reducible show wpAny _ _ (exec (Stmt.For _ _ _ _ _) _) _ _ _)); (fail_if_success (with_reducible show wpAny _ _ (exec (Stmt.Try _ _ _ _ _) _) _ _ _)); (fail_if_success (with_reducible show wpAny _ _ (pyIter _) (fun it s₂ => Loop _ _ _ _ _ _ _ _ _ _ it s₂) _ _)); (fail_if_success (with_reducible show wpAny _ _ (call (Value.ref _) _ _) _ _ _)); walk1; (try ((first | (with_reducible show wpAny _ _ (spliced _) _ _ _) | (with_reducible show wpAny _ _ (newList _) _ _ _) | (with_reducible show wpAny _ _ (execs _ _) _ _ _)); dsimp only)))))
  refine seg_execs_nil ?_
  refine seg_execs_cons (sg_If ?_)
  (repeat' (first | (k_unfold; (try dsimp only)) | ( (fail_if_success (with_reducible show wpAny _ _ (exec (Stmt.While _ _ _ _) _) _ _ _)); (fail_if_success (with_reducible show wpAny _ _ (exec (Stmt.For _ _ _ _ _) _) _ _ _)); (fail_if_success (with_reducible show wpAny _ _ (exec (Stmt.Try _ _ _ _ _) _) _ _ _)); (fail_if_success (with_reducible show wpAny _ _ (pyIter _) (fun it s₂ => Loop _ _ _ _ _ _ _ _ _ _ it s₂) _ _)); (fail_if_success (with_reducible show wpAny _ _ (call (Value.ref _) _ _) _ _ _)); walk1; (try ((first | (with_reducible show wpAny _ _ (spliced _) _ _ _) | (with_reducible show wpAny _ _ (newList _) _ _ _) | (with_reducible show wpAny _ _ (execs _ _) _ _ _)); dsimp only)))))
  refine seg_execs_cons (sg_If ?_)
  (repeat' (first | (k_unfold; (try dsimp only)) | ( (fail_if_success (with_reducible show wpAny _ _ (exec (Stmt.While _ _ _ _) _) _ _ _)); (fail_if_success (with_reducible show wpAny _ _ (exec (Stmt.For _ _ _ _ _) _) _ _ _)); (fail_if_success (with_reducible show wpAny _ _ (exec (Stmt.Try _ _ _ _ _) _) _ _ _)); (fail_if_success (with_reducible show wpAny _ _ (pyIter _) (fun it s₂ => Loop _ _ _ _ _ _ _ _ _ _ it s₂) _ _)); (fail_if_success (with_reducible show wpAny _ _ (call (Value.ref _) _ _) _ _ _)); walk1; (try ((first | (with_reducible show wpAny _ _ (spliced _) _ _ _) | (with_reducible show wpAny _ _ (newList _) _ _ _) | (with_reducible show wpAny _ _ (execs _ _) _ _ _)); dsimp only)))))
  refine seg_execs_cons (sg_quiet ?_)
  (repeat' (first | (k_unfold; (try dsimp only)) | ( (fail_if_success (with_reducible show wpAny _ _ (exec (Stmt.While _ _ _ _) _) _ _ _)); (fail_if_success (with_reducible show wpAny _ _ (exec (Stmt.For _ _ _ _ _) _) _ _ _)); (fail_if_success (with_reducible show wpAny _ _ (exec (Stmt.Try _ _ _ _ _) _) _ _ _)); (fail_if_success (with_reducible show wpAny _ _ (pyIter _) (fun it s₂ => Loop _ _ _ _ _ _ _ _ _ _ it s₂) _ _)); (fail_if_success (with_reducible show wpAny _ _ (call (Value.ref _) _ _) _ _ _)); walk1; (try ((first | (with_reducible show wpAny _ _ (spliced _) _ _ _) | (with_reducible show wpAny _ _ (newList _) _ _ _) | (with_reducible show wpAny _ _ (execs _ _) _ _ _)); dsimp only)))))
  rename Fr _ _ _ _ => F6
  rename News _ _ _ _ => N6
  rename Heap.NewExc _ _ _ _ => hx
  rename Addr => e
  dsimp only at hx
  have kp6 := kp_of F6 N6 h2G
  have O6 := (ho.keep fun b o hb q => kp6 b o (.inl (has b hb)) (hkL b o q)).mono (as' := s.heap.objs.size :: as) fun b hb => .tail _ hb
  have hZqq := ns_there F6.ns
  refine ex1 hZqq ?_; (try clear hZqq); intro oL6; refine and2 ?_; intro hoL6 hdL6
  refine seg_wrap (wpAny_bind (rose_new (as := s.heap.objs.size :: as) (outer := outer) rfl rfl ⟨(fun q => by cases q), ⟨_, oL6, rfl, hideAll_none _ (.head _), hoL6, hdL6⟩, O6.frames⟩ hx fun h7 R7 => wpAny_theTreesLotGoes ?_))
  refine seg_leaf (.error (.ref e)) ?_
  refine sg_step (m := (do
        if (← field (.ref e) 1) == Value.none then unsupported "frame.own-activation:exception-without-traceback"
        setFlight (.ref e) _)) (k := fun _ => .raise (.ref e)) ?_
  refine held_back rfl R7 fun h8 R8 => ?_
  refine seg_wrap (m := leaving _ (.ref e)) (K := fun _ => .raise (.ref e)) (H := .raise) (gd := id) (lv := id) ?_
  refine held_leaves rfl R8 fun h9 R9 => ?_
  refine seg_end (.error (.ref e)) ⟨e, _, _, _, rfl, rfl, fun b o hb q => kp6 b o hb q, R9⟩
-- needs C9 C34
theorem rowGo_pre (most : Nat) : ∀ (r acc : List Int) (k : Nat), k < acc.length → (rowGo most acc r)[k]? = acc[k]?
  | [], acc, k, h => rfl
  | x :: r, acc, k, h => by
    unfold rowGo
    split
    · rfl
    · split
      · rw [List.getElem?_append_left h]
      · rw [rowGo_pre most r _ k (by simp; omega), List.getElem?_append_left h]
theorem flat_rep (y : Int) : ∀ n : Nat, (List.replicate n [y]).flatten = List.replicate n y
  | 0 => rfl
  | n + 1 => by rw [List.replicate_succ, List.flatten_cons, flat_rep y n]; rfl
theorem rowGo_outs (most : Nat) : ∀ (r acc : List Int) (last : Option Int) (k : Nat), last = acc.getLast? → acc.length + k < most → (rowGo most acc r)[acc.length + k]? = outs r last k
  | [], acc, last, k, hl, hk => by simp [rowGo, outs]
  | x :: r, acc, last, k, hl, hk => by
    unfold rowGo outs
    by_cases h1 : x = 127
    · rw [if_pos h1, if_pos h1]; simp
    · rw [if_neg h1, if_neg h1]
      by_cases h2 : x = 0
      · rw [if_pos h2, if_pos h2, List.getElem?_append_right (by omega), show acc.length + k - acc.length = k by omega]
        rcases List.eq_nil_or_concat acc with rfl | ⟨p, y, rfl⟩
        · subst hl
          have e : ∀ n : Nat, (List.replicate n ([] : List Int)).flatten = [] := fun n => by induction n with
            | zero => rfl
            | succ n ih => rw [List.replicate_succ, List.flatten_cons, ih]; rfl
          simp [e]
        · rw [List.concat_eq_append] at *
          have e : (p ++ [y]).drop ((p ++ [y]).length - 1) = [y] := by simp
          rw [e, flat_rep, List.getElem?_replicate, if_pos (by omega), hl]
          simp
      · rw [if_neg h2, if_neg h2]
        cases k with
        | zero =>
          rw [rowGo_pre most r _ _ (by simp)]
          simp
        | succ k =>
          have := rowGo_outs most r (acc ++ [x]) (some x) k (by simp) (by simp; omega)
          rw [List.length_append, List.length_singleton, show acc.length + 1 + k = acc.length + (k + 1) by omega] at this
          exact this
theorem said_row {most : Nat} {xs l : List Int} (h1 : ∀ k x, l[k]? = some x → outs xs none k = some x) (h2 : l.length = most ∨ (l.length < most ∧ outs xs none l.length = none)) : l = (rowGo most [] xs).take most := by
  have key : ∀ k, k < most → (rowGo most [] xs)[k]? = outs xs none k := fun k hk => by
    have := rowGo_outs most xs [] none k rfl (by simpa using hk)
    simpa using this
  apply List.ext_getElem?
  intro k
  by_cases hk : k < most
  · rw [List.getElem?_take, if_pos hk, key k hk]
    cases q : l[k]? with
    | some x => exact (h1 k x q).symm
    | none =>
      have hlk : l.length ≤ k := List.getElem?_eq_none_iff.mp q
      rcases h2 with h2 | ⟨h2, h3⟩
      · omega
      · rw [← key _ h2] at h3
        rw [← key _ hk]
        exact (List.getElem?_eq_none_iff.mpr (Nat.le_trans (List.getElem?_eq_none_iff.mp h3) hlk)).symm
  · rw [List.getElem?_take, if_neg hk]
    exact List.getElem?_eq_none_iff.mpr (by omega)
-- needs C9 C18 C27 C31 C32 C33 C34 C35 C36
theorem forLoopH {prog : Program} {w : World} {A : Around} {s : Shared} {R : Result → Shared → Prop} {target : Expr} {it : Value} {body orelse : List Stmt} {env : Env} (I : Nat → Shared → Prop)
    (turn : ∀ n s, I n s → wpAny (model prog w) A (pyNext it) (fun r s₁ => match r with
      | none => wpAny (model prog w) A (execs orelse env) (fun f s₃ => R (.ok f) s₃) (notedBy (model prog w) A env fun e s' => R (.error e) s') s₁
      | some v => wpAny (model prog w) A (letOwnedTupleGo target it v) (fun _ s₁' =>
          wpAny (model prog w) A (assign target env v) (fun _ s₂ => wpAny (model prog w) A (execs body env) (fun f s₃ => match f with
            | .next | .cont => Hold (∃ m, m < n ∧ I m s₃)
            | .brk => Hold (R (.ok .next) s₃)
            | .ret v => R (.ok (.ret v)) s₃) (notedBy (model prog w) A env fun e s' => R (.error e) s') s₂) (notedBy (model prog w) A env fun e s' => R (.error e) s') s₁') (notedBy (model prog w) A env fun e s' => R (.error e) s') s₁) (notedBy (model prog w) A env fun e s' => R (.error e) s') s)
    (n : Nat) (h : I n s) : codeAny (model prog w) A (.forLoop target it body orelse env) R s := codeAny_forLoop_any I (fun n s hI => wpAny_mono (turn n s hI) (fun r s₁ h₁ => by
      cases r with
      | none => exact h₁
      | some v => exact wpAny_mono h₁ (fun _ s₂ h₂ => wpAny_mono h₂ (fun _ s₃ h₃ => wpAny_mono h₃ (fun f s₄ h₄ => by cases f <;> exact h₄) fun _ _ e => e) fun _ _ e => e) fun _ _ e => e) fun _ _ e => e) n h
theorem bare_set {s : Shared} {g : Nat} {gs x : GenState} (h : AllBare s.gens) (hg : s.gens[g]? = some gs) (hx : x.bare = true) : AllBare (s.setGen g x).gens :=
  h.moved (GenOnlyQ.of (GenOnly.setGen s g x) (setGen_self hg) hx)
theorem ve_exc : isSubtype (.type "ValueError") (.type "BaseException") = pure true := by rw [isSubtype_type]; kernel_rfl
theorem ve_ve : isSubtype (.type "ValueError") (.type "ValueError") = pure true := by rw [isSubtype_type]; kernel_rfl
theorem ve_nt : isSubtype (.type ((Manifest.find? "ValueError").elim "type" fun x => x.metatype)) (.type "tuple") = pure false := by rw [isSubtype_type]; kernel_rfl
theorem row_of {g h : Heap} {L r : Addr} {x : Str} {m' : Str → Option Value} (F : Fr g L h (fun y => if y = x then some (.ref r) else m' y)) : ∃ r', r' = r := ⟨r, rfl⟩
theorem sp_said {prog : Program} {w : World} {A : Around} {E : Value → Shared → Prop} {s : Shared} {Q : Value → Shared → Prop}
   {base : Heap} {sa LL : Addr} {oL : Obj} {lenv : Env} {vs : List Value} {nv : Nat} {ns : List Int} {most : Nat} {tm : Tok}
   (G : Gd w base) (hb : ∀ b o, base.get? b = some o → s.heap.get? b = some o) (hLb : base.get? LL = none) (R : Rm A 4) (hfr : A.frames = some [lenv]) (hlf : lenv.frame = some LL) (hlk : lenv.scope.kind ≠ .module)
   (hLL : s.heap.get? LL = some oL) (hdL : ∀ vs, oL.data ≠ .fields vs) (hl : s.heap.get? sa = some (listO vs nv)) (hsa : sa ≠ LL) (hi : IntsAre vs ns) (hz : ns.length ≤ 10) (hm : most ≤ 6) (hm0 : 1 ≤ most) (hbare : AllBare s.gens)
   (hQ : ∀ v h' tk' gens' sl, AllBare gens' → (∀ b o, b ≠ LL → s.heap.get? b = some o → h'.get? b = some o) → h'.get? LL = some { oL with slots := sl } →
     (∃ oa ra t n vr nr, v = .ref oa ∧ h'.get? oa = some (listO [.int (aheadOf ns) t, .ref ra] n) ∧ s.heap.get? oa = none ∧ h'.get? ra = some (listO vr nr) ∧ s.heap.get? ra = none ∧ IntsAre vr (meantRow most ns)) →
     Q v { s with heap := h', toks := tk', gens := gens' }) :
   wpAny (model prog w) A (call (.ref 126) [.ref sa, .int most tm]) Q E s := by
  (((have kkZq : PySem.Challenge.rw_wu0059_01 = PySem.Challenge.rw_wu0059_01 ∧ Mine.hd.heap_39 = Mine.hd.heap_39 := ⟨rfl, rfl⟩); revert kkZq; k_fill; intro kkZq; clear kkZq; w_on))
  (((rename Rm _ _ => rrZq); (rename Around => aaZq); (have e0Zq := Rm.h rrZq); rcases aaZq with ⟨hhZq, d1Zq, d2Zq, d3Zq, d4Zq⟩; dsimp only at e0Zq; subst e0Zq))
  have R := ‹Rm _ 4›
  dsimp only at hfr
  subst hfr
  refine enterM [(Str.ofString "sizes", .ref sa), (Str.ofString "most", .int most tm)] G hb [(LL, oL)] (fun p hp => by rw [List.mem_singleton.mp hp]; exact ⟨hLL, hLb⟩) R.room (by k_is) (by k_is) (by first | exact BindsTo.of_eq rfl | exact binds_K (Gd.X (G.keeps hb)) rfl (by k_is) rfl rfl rfl) (locs rfl) (by decide) rfl rfl rfl ?_
  intro g L h₁ tk F N Gg Xg hgk
  have hgsa : g.get? sa = some (listO vs nv) := hgk sa _ (by simpa using hsa) hl
  have hlen := hi.length
  have lsa : h₁.IsList sa vs.toArray := isL (F.keep _ _ hgsa)
  have hZqq := Gg.T
  refine ex5 hZqq ?_; (try clear hZqq); intro pp l m mg mb; intro T
  (repeat' (first | (k_unfold; (try dsimp only)) | ( (fail_if_success (with_reducible show wpAny _ _ (exec (Stmt.While _ _ _ _) _) _ _ _)); (fail_if_success (with_reducible show wpAny _ _ (exec (Stmt.For _ _ _ _ _) _) _ _ _)); (fail_if_success (with_reducible show wpAny _ _ (exec (Stmt.Try _ _ _ _ _) _) _ _ _)); (fail_if_success (with_reducible show wpAny _ _ (pyIter _) (fun it s₂ => Loop _ _ _ _ _ _ _ _ _ _ it s₂) _ _)); (fail_if_success (with_reducible show wpAny _ _ (call (Value.ref _) _ _) _ _ _)); (try k_fold); walk1; (try ((first | (with_reducible show wpAny _ _ (spliced _) _ _ _) | (with_reducible show wpAny _ _ (newList _) _ _ _) | (with_reducible show wpAny _ _ (execs _ _) _ _ _)); dsimp only)))))
  refine wpAny_For ?_
  (repeat' ((fail_if_success (with_reducible show wpAny _ _ (pyIter _) _ _ _)); (fail_if_success (with_reducible show wpAny _ _ (subscriptTail _ (PySem.Expr.Slice (some _) none none _) _ _) _ _ _)); (fail_if_success (with_reducible show codeAny _ _ _ _ _)); (first | (k_unfold; (try dsimp only)) | ( (fail_if_success (with_reducible show wpAny _ _ (exec (Stmt.While _ _ _ _) _) _ _ _)); (fail_if_success (with_reducible show wpAny _ _ (exec (Stmt.For _ _ _ _ _) _) _ _ _)); (fail_if_success (with_reducible show wpAny _ _ (exec (Stmt.Try _ _ _ _ _) _) _ _ _)); (fail_if_success (with_reducible show wpAny _ _ (pyIter _) (fun it s₂ => Loop _ _ _ _ _ _ _ _ _ _ it s₂) _ _)); (fail_if_success (with_reducible show wpAny _ _ (call (Value.ref _) _ _) _ _ _)); (try k_fold); walk1; (try ((first | (with_reducible show wpAny _ _ (spliced _) _ _ _) | (with_reducible show wpAny _ _ (newList _) _ _ _) | (with_reducible show wpAny _ _ (execs _ _) _ _ _)); dsimp only))))))
  rename IsRange _ _ _ _ _ _ _ _ => Ir
  rename Fr _ _ _ _ => F2
  rename News _ _ _ _ => N2
  have hz2 : Builtin.Range.rangeSize 0 ((ns.length : Int) + 1) 1 = ((ns.length + 1 : Nat) : Int) := by
    unfold Builtin.Range.rangeSize; simp
  refine wpAny_pyIter_range Ir (small_one (by omega) (by omega) (by omega) (by omega)) ?_
  rw [hz2]
  dsimp only
  rename Heap => h2
  have gI := Heap.get?_push_size h2 (o := { cls := .type "range_iterator", data := .fields #[rawInt 0, rawInt ((ns.length + 1 : Nat) : Int), rawInt 1] }) rfl
  have N3 := News.push F2 N2 { cls := .type "range_iterator", data := .fields #[rawInt 0, rawInt ((ns.length + 1 : Nat) : Int), rawInt 1] }
  have F3 := Fr.push F2 { cls := .type "range_iterator", data := .fields #[rawInt 0, rawInt ((ns.length + 1 : Nat) : Int), rawInt 1] }
  have hLI : LL < h2.objs.size := Heap.lt_size (N2.get (.head _))
  generalize hIe : h2.objs.size = I at gI N3 hLI ⊢
  clear F2 Ir
  refine codeAny_forLoop_any (fun k s' => ∃ a h' tk' gens' sl m' oI, k = ns.length + 2 - a ∧ s' = { s with heap := h', toks := tk', gens := gens' } ∧ AllBare gens' ∧ Fr g L h' m' ∧ Has m' [(Str.ofString "sizes", .ref sa), (Str.ofString "most", .int most tm)] ∧
    News g L h' [(I, oI), (LL, { oL with slots := sl })] ∧ IsRangeIter h' I (0 + (a : Nat) * 1) (((ns.length + 1 : Nat) : Int) - (a : Nat)) 1 ∧ a ≤ ns.length + 1 ∧ (∀ j, j < a → ns[j]? = some 0)) ?_ (ns.length + 2) ⟨0, _, _, _, oL.slots, _, _, by omega, rfl, hbare, F3, ⟨rfl, rfl, trivial⟩, N3, by simpa using gI, by omega, fun j hj => by omega⟩
  clear F3 N3 gI N2
  intro k s1 hI
  k_fold
  refine ex7 hI ?_; (try clear hI); intro a h3 tk3 gens3 sl3 m3 oI3; refine and9 ?_; intro yZq1x7 yZq1x8 hb3 F3 em3 N3 hr3 ha3 hz3
  obtain rfl := yZq1x7
  obtain rfl := yZq1x8
  have ha : a < ns.length + 1 := by
    apply Classical.byContradiction
    intro hc
    exact absurd (hz3 ns.length (by omega)) (by simp)
  refine Walks.item (Walks.range (by exact rfl) I 0 1 (ns.length + 1)) a _ _ _ ha hr3 fun v h4 tk4 hv hr4 k4 => ?_
  obtain ⟨tv, rfl⟩ := hv
  have hIL : I ≠ L := (N3 _ (.head _)).2.1
  have F4 : Fr g L h4 _ := fr_has (fr_kb F3 k4 (by simpa using Ne.symm hIL) (fun b hb => by rw [List.mem_singleton.mp hb]; exact (N3 _ (.head _)).2.2)) em3
  have hZqq : ∃ oI4, h4.get? I = some oI4 ∧ ∀ h : Heap, h.get? I = some oI4 → IsRangeIter h I (0 + ((a + 1 : Nat) : Int) * 1) (((ns.length + 1 : Nat) : Int) - ((a + 1 : Nat) : Int)) 1 := ⟨_, hr4, fun h q => q⟩
  refine ex1 hZqq ?_; (try clear hZqq); intro oI4; refine and2 ?_; intro hoI4 hrI
  clear hr4
  have N4 : News g L h4 [(I, oI4), (LL, { oL with slots := sl3 })] := news_add (news_add News.nil (k4 LL _ (by simpa using Nat.ne_of_lt hLI) (N3.get (.tail _ (.head _)))) (N3 _ (.tail _ (.head _))).2.1 (N3 _ (.tail _ (.head _))).2.2) hoI4 hIL (N3 _ (.head _)).2.2
  have lsa4 : h4.IsList sa vs.toArray := isL (F4.keep _ _ hgsa)
  clear F3 N3 k4
  dsimp only
  rw [show (0 : Int) + (a : Int) * 1 = (a : Int) by omega]
  refine wpAny_of_eq rfl ?_
  refine wpAny_assign_Name ?_
  (repeat' ((fail_if_success (with_reducible show wpAny _ _ (pyIter _) _ _ _)); (fail_if_success (with_reducible show wpAny _ _ (subscriptTail _ (PySem.Expr.Slice (some _) none none _) _ _) _ _ _)); (fail_if_success (with_reducible show codeAny _ _ _ _ _)); (first | (k_unfold; (try dsimp only)) | ( (fail_if_success (with_reducible show wpAny _ _ (exec (Stmt.While _ _ _ _) _) _ _ _)); (fail_if_success (with_reducible show wpAny _ _ (exec (Stmt.For _ _ _ _ _) _) _ _ _)); (fail_if_success (with_reducible show wpAny _ _ (exec (Stmt.Try _ _ _ _ _) _) _ _ _)); (fail_if_success (with_reducible show wpAny _ _ (pyIter _) (fun it s₂ => Loop _ _ _ _ _ _ _ _ _ _ it s₂) _ _)); (fail_if_success (with_reducible show wpAny _ _ (call (Value.ref _) _ _) _ _ _)); (try k_fold); walk1; (try ((first | (with_reducible show wpAny _ _ (spliced _) _ _ _) | (with_reducible show wpAny _ _ (newList _) _ _ _) | (with_reducible show wpAny _ _ (execs _ _) _ _ _)); dsimp only))))))
  refine wpAny_Try_except ?_
  refine wpAny_execs_cons ?_
  refine wpAny_For ?_
  (repeat' ((fail_if_success (with_reducible show wpAny _ _ (pyIter _) _ _ _)); (fail_if_success (with_reducible show wpAny _ _ (subscriptTail _ (PySem.Expr.Slice (some _) none none _) _ _) _ _ _)); (fail_if_success (with_reducible show codeAny _ _ _ _ _)); (first | (k_unfold; (try dsimp only)) | ( (fail_if_success (with_reducible show wpAny _ _ (exec (Stmt.While _ _ _ _) _) _ _ _)); (fail_if_success (with_reducible show wpAny _ _ (exec (Stmt.For _ _ _ _ _) _) _ _ _)); (fail_if_success (with_reducible show wpAny _ _ (exec (Stmt.Try _ _ _ _ _) _) _ _ _)); (fail_if_success (with_reducible show wpAny _ _ (pyIter _) (fun it s₂ => Loop _ _ _ _ _ _ _ _ _ _ it s₂) _ _)); (fail_if_success (with_reducible show wpAny _ _ (call (Value.ref _) _ _) _ _ _)); (try k_fold); walk1; (try ((first | (with_reducible show wpAny _ _ (spliced _) _ _ _) | (with_reducible show wpAny _ _ (newList _) _ _ _) | (with_reducible show wpAny _ _ (execs _ _) _ _ _)); dsimp only))))))
  rename I < _ ∧ LL < _ => l1
  obtain ⟨row, hrowE⟩ := row_of ‹Fr _ _ _ _›
  subst hrowE
  refine r_from (k := a) ‹Fr _ _ _ _› ‹News _ _ _ _› (isL (Fr.keep ‹_› _ _ hgsa)) hi (by omega) ?_
  intro D ws h5 F5 N5 hD5 hi5
  have lsa5 : h5.IsList sa vs.toArray := isL (F5.keep _ _ hgsa)
  clear lsa4
  (repeat' ((fail_if_success (with_reducible show wpAny _ _ (pyIter _) _ _ _)); (fail_if_success (with_reducible show wpAny _ _ (subscriptTail _ (PySem.Expr.Slice (some _) none none _) _ _) _ _ _)); (fail_if_success (with_reducible show codeAny _ _ _ _ _)); (first | (k_unfold; (try dsimp only)) | ( (fail_if_success (with_reducible show wpAny _ _ (exec (Stmt.While _ _ _ _) _) _ _ _)); (fail_if_success (with_reducible show wpAny _ _ (exec (Stmt.For _ _ _ _ _) _) _ _ _)); (fail_if_success (with_reducible show wpAny _ _ (exec (Stmt.Try _ _ _ _ _) _) _ _ _)); (fail_if_success (with_reducible show wpAny _ _ (pyIter _) (fun it s₂ => Loop _ _ _ _ _ _ _ _ _ _ it s₂) _ _)); (fail_if_success (with_reducible show wpAny _ _ (call (Value.ref _) _ _) _ _ _)); (try k_fold); walk1; (try ((first | (with_reducible show wpAny _ _ (spliced _) _ _ _) | (with_reducible show wpAny _ _ (newList _) _ _ _) | (with_reducible show wpAny _ _ (execs _ _) _ _ _)); dsimp only))))))

  have hLs : L < h5.objs.size := F5.ns.lt
  have hLLs : LL < h5.objs.size := Heap.lt_size (N5.get (.tail _ (.tail _ (.tail _ (.head _)))))
  by_cases hq : ∃ r, ns.drop a = 0 :: r
  · obtain ⟨r, hrest⟩ := hq
    rw [hrest] at hi5
    have hZqq := ns_there F5.ns
    refine ex1 hZqq ?_; (try clear hZqq); intro oLs; refine and2 ?_; intro hoLs hdLs
    refine sp_genX (g := g) (as := [L, LL]) Gg (fun b o e => F5.keep b o e) ((R.deeper _).le (by omega)) (N5.get (.head _)) hi5 (by have := congrArg List.length hrest; simp at this; omega) rfl
      (fun b hb => by
        rcases List.mem_cons.mp hb with rfl | hb
        · exact hLs
        · rw [List.mem_singleton.mp hb]; exact hLLs)
      ⟨(fun q => by cases q), ⟨L, oLs, rfl, .head _, hoLs, hdLs⟩, hlk, ⟨LL, _, hlf, .tail _ (.head _), N5.get (.tail _ (.tail _ (.tail _ (.head _)))), hdL⟩, trivial⟩ ?_
    intro h6 tk6 Ga gs6 k6 hga6 hnl6 hGa6 hb6 go6
    (repeat' ((fail_if_success (with_reducible show wpAny _ _ (pyIter _) _ _ _)); (fail_if_success (with_reducible show wpAny _ _ (subscriptTail _ (PySem.Expr.Slice (some _) none none _) _ _) _ _ _)); (fail_if_success (with_reducible show codeAny _ _ _ _ _)); (first | (k_unfold; (try dsimp only)) | ( (fail_if_success (with_reducible show wpAny _ _ (exec (Stmt.While _ _ _ _) _) _ _ _)); (fail_if_success (with_reducible show wpAny _ _ (exec (Stmt.For _ _ _ _ _) _) _ _ _)); (fail_if_success (with_reducible show wpAny _ _ (exec (Stmt.Try _ _ _ _ _) _) _ _ _)); (fail_if_success (with_reducible show wpAny _ _ (pyIter _) (fun it s₂ => Loop _ _ _ _ _ _ _ _ _ _ it s₂) _ _)); (fail_if_success (with_reducible show wpAny _ _ (call (Value.ref _) _ _) _ _ _)); (try k_fold); walk1; (try ((first | (with_reducible show wpAny _ _ (spliced _) _ _ _) | (with_reducible show wpAny _ _ (newList _) _ _ _) | (with_reducible show wpAny _ _ (execs _ _) _ _ _)); dsimp only))))))
    refine wpAny_pyIter_gen hga6 ?_
    refine codeAny_forLoop_any (fun k s' => k = 0 ∧ s' = { s with heap := h6, toks := tk6, gens := gens3.push gs6 }) ?_ 0 ⟨rfl, rfl⟩
    rintro k s7 ⟨rfl, rfl⟩
    refine next_gen (n := 0) (gs := gs6) (g := gens3.size) rfl hnl6 (by exact (R.deeper _).room) hga6 (Array.getElem?_push_size ..) (go6 _ fun b o e => e) (fun v s₁ gs' hb h => h.elim) ?_
    intro r8 s8 xZq1
    refine ex4 xZq1 ?_; (try clear xZq1); intro e h8 h9 tk9; refine and4 ?_; intro yZq4x4 yZq4x5 k8 R9
    obtain rfl := yZq4x4
    obtain rfl := yZq4x5
    have hZqq := R9.there
    refine ex1 hZqq ?_; (try clear hZqq); intro ob; refine and2 ?_; intro he hc
    have k58 : ∀ b o, b < h5.objs.size → h5.get? b = some o → h8.get? b = some o := fun b o hb q => k8 b o (.inl hb) (k6 b o q)
    have rs : ∀ l hz, Rose h8 (h5.objs.size :: [L, LL]) l e "ValueError" hz → Fr g L hz _ ∧ ∃ sl, News g L hz [(I, oI4), (LL, { oL with slots := sl })] := fun l hz Rz => by
      have ne5 : ∀ b o, h5.get? b = some o → b ≠ h5.objs.size := fun b o q => Nat.ne_of_lt (Heap.lt_size q)
      refine ⟨⟨Rz.sm.ns (F5.ns.at' fun o q => k58 L o hLs q), fun b o q => Rz.keep (k58 b o (Heap.lt_size (F5.keep b o q)) (F5.keep b o q)) ?_, F5.above⟩, ?_⟩
      · have h1 := kts_self F5
        have h2 := (N5 _ (.tail _ (.tail _ (.tail _ (.head _))))).2.2
        simp only [List.mem_cons, List.not_mem_nil, or_false, not_or]
        refine ⟨ne5 b o (F5.keep b o q), fun z => ?_, fun z => ?_⟩
        · rw [z, h1] at q; cases q
        · rw [z] at q; rw [h2] at q; cases q
      · obtain ⟨sl, hsl⟩ := Rz.sm LL _ (k58 LL _ hLLs (N5.get (.tail _ (.tail _ (.tail _ (.head _)))))) hdL
        refine ⟨sl, news_add (news_add News.nil hsl (N5 _ (.tail _ (.tail _ (.tail _ (.head _))))).2.1 (N5 _ (.tail _ (.tail _ (.tail _ (.head _))))).2.2) (Rz.keep (k58 I _ (Heap.lt_size (N5.get (.tail _ (.tail _ (.head _))))) (N5.get (.tail _ (.tail _ (.head _))))) ?_) hIL (N5 _ (.tail _ (.tail _ (.head _)))).2.2⟩
        simp only [List.mem_cons, List.not_mem_nil, or_false, not_or]
        exact ⟨ne5 _ _ (N5.get (.tail _ (.tail _ (.head _)))), hIL, Ne.symm (Nat.ne_of_lt hLI)⟩
    have hGa0 : ∀ b, b < h5.objs.size → Ga ≠ b := fun b hb => Nat.ne_of_gt (Nat.lt_trans hb hGa6)
    refine .inr ⟨e, ob, rfl, he, hc, ?_, ?_⟩
    · refine ex3 hga6 ?_; (try clear hga6); intro oG nmG qnG; refine and2 ?_; intro hoG rG
      refine ⟨oG, nmG, qnG, R9.keep (k8 Ga oG (.inr rfl) hoG) ?_, rG⟩
      simp only [List.mem_cons, List.not_mem_nil, or_false, not_or]
      exact ⟨Nat.ne_of_gt hGa6, hGa0 _ hLs, hGa0 _ hLLs⟩
    · refine rose_noted rfl rfl R9 fun h10 R10 => ?_
      refine held_back rfl R10 fun h11 R11 => ?_
      refine held_again rfl R11 ?_
      refine held_lands R11 fun h12 R12 => ?_
      have hZqq := rs _ _ R12
      obtain ⟨F12, sl12, N12⟩ := hZqq
      refine wpAny_handleBy_builtin (X := "ValueError") (T := "ValueError") (b := true) ve_exc ve_nt ve_ve ?_
      (repeat' ((fail_if_success (with_reducible show wpAny _ _ (pyIter _) _ _ _)); (fail_if_success (with_reducible show wpAny _ _ (subscriptTail _ (PySem.Expr.Slice (some _) none none _) _ _) _ _ _)); (fail_if_success (with_reducible show codeAny _ _ _ _ _)); (first | (k_unfold; (try dsimp only)) | ( (fail_if_success (with_reducible show wpAny _ _ (exec (Stmt.While _ _ _ _) _) _ _ _)); (fail_if_success (with_reducible show wpAny _ _ (exec (Stmt.For _ _ _ _ _) _) _ _ _)); (fail_if_success (with_reducible show wpAny _ _ (exec (Stmt.Try _ _ _ _ _) _) _ _ _)); (fail_if_success (with_reducible show wpAny _ _ (pyIter _) (fun it s₂ => Loop _ _ _ _ _ _ _ _ _ _ it s₂) _ _)); (fail_if_success (with_reducible show wpAny _ _ (call (Value.ref _) _ _) _ _ _)); (try k_fold); walk1; (try ((first | (with_reducible show wpAny _ _ (spliced _) _ _ _) | (with_reducible show wpAny _ _ (newList _) _ _ _) | (with_reducible show wpAny _ _ (execs _ _) _ _ _)); dsimp only))))))
      · have hZqq := R12.there
        refine ex1 hZqq ?_; (try clear hZqq); intro ob; refine and2 ?_; intro he hc
        exact ⟨ob, he, hc⟩
      refine rose_lands R12 fun h13 R13 => ?_
      have hZqq := rs _ _ R13
      obtain ⟨F13, sl13, N13⟩ := hZqq
      refine wpAny_execs_cons (wpAny_Continue ?_)
      refine ⟨ns.length + 2 - (a + 1), by omega, a + 1, h13, _, _, sl13, _, oI4, rfl, rfl, ?_, F13, ⟨rfl, rfl, trivial⟩, N13, hrI _ (N13.get (.head _)), ha, fun j hj => ?_⟩
      · have hgs : (gens3.push gs6)[gens3.size]? = some gs6 := Array.getElem?_push_size ..
        have b1 := bare_set (s := { s with heap := h6, toks := tk6, gens := gens3.push gs6 }) (x := .running) (hb3.push hb6) hgs rfl
        exact bare_set (s := { Shared.setGen { s with heap := h6, toks := tk6, gens := gens3.push gs6 } gens3.size .running with heap := h9, toks := tk9 }) b1 (setGen_self hgs) rfl
      · by_cases hja : j < a
        · exact hz3 j hja
        · obtain rfl : j = a := by omega
          have := congrArg (fun l => l[0]?) hrest
          simpa using this
  · have hgL : ∀ b o, g.get? b = some o → b < h5.objs.size := fun b o e => Heap.lt_size (F5.keep b o e)
    have hg0 : ∀ b, h5.objs.size ≤ b → g.get? b = none := fun b hb => by
      cases q : g.get? b with
      | none => rfl
      | some o => exact absurd (hgL b o q) (Nat.not_lt.mpr hb)
    have hah : a = aheadOf ns := ahead_unique (by omega) hz3 fun e => hq ⟨ns.drop (a + 1), by
      obtain ⟨h1, h2⟩ := List.getElem?_eq_some_iff.mp e
      rw [List.drop_eq_getElem_cons h1, h2]⟩
    have hrowL := Heap.lt_size (N5.get (.tail _ (.head _)))
    refine sp_gen (g := g) (N := most) Gg (fun b o e => F5.keep b o e) ((R.deeper _).le (by omega)) (N5.get (.head _)) hi5 (by simp; omega) (by omega) (fun x r e hx => hq ⟨r, by rw [e, hx]⟩) ?_
    intro h6 tk6 Ga gs6 pv6 k6 hga6 hnl6 hGa6 hb6 hpv6 go6
    (repeat' ((fail_if_success (with_reducible show wpAny _ _ (pyIter _) _ _ _)); (fail_if_success (with_reducible show wpAny _ _ (subscriptTail _ (PySem.Expr.Slice (some _) none none _) _ _) _ _ _)); (fail_if_success (with_reducible show codeAny _ _ _ _ _)); (first | (k_unfold; (try dsimp only)) | ( (fail_if_success (with_reducible show wpAny _ _ (exec (Stmt.While _ _ _ _) _) _ _ _)); (fail_if_success (with_reducible show wpAny _ _ (exec (Stmt.For _ _ _ _ _) _) _ _ _)); (fail_if_success (with_reducible show wpAny _ _ (exec (Stmt.Try _ _ _ _ _) _) _ _ _)); (fail_if_success (with_reducible show wpAny _ _ (pyIter _) (fun it s₂ => Loop _ _ _ _ _ _ _ _ _ _ it s₂) _ _)); (fail_if_success (with_reducible show wpAny _ _ (call (Value.ref _) _ _) _ _ _)); (try k_fold); walk1; (try ((first | (with_reducible show wpAny _ _ (spliced _) _ _ _) | (with_reducible show wpAny _ _ (newList _) _ _ _) | (with_reducible show wpAny _ _ (execs _ _) _ _ _)); dsimp only))))))
    refine wpAny_pyIter_gen hga6 ?_
    refine ex3 hga6 ?_; (try clear hga6); intro oG nmG qnG; refine and2 ?_; intro hoG rG
    have N6 : News g L h6 ((row, listO [] 0) :: (D, listO ws 0) :: (I, oI4) :: (LL, { oL with slots := sl3 }) :: (Ga, oG) :: pv6) := fun p hp => by
      have N5' := news_kb0 N5 (Kb.of _ k6)
      rcases List.mem_cons.mp hp with rfl | hp
      · exact N5' _ (.tail _ (.head _))
      rcases List.mem_cons.mp hp with rfl | hp
      · exact N5' _ (.head _)
      rcases List.mem_cons.mp hp with rfl | hp
      · exact N5' _ (.tail _ (.tail _ (.head _)))
      rcases List.mem_cons.mp hp with rfl | hp
      · exact N5' _ (.tail _ (.tail _ (.tail _ (.head _))))
      rcases List.mem_cons.mp hp with rfl | hp
      · exact ⟨hoG, Nat.ne_of_gt (Nat.lt_trans hLs hGa6), hg0 _ (Nat.le_of_lt hGa6)⟩
      · exact ⟨(hpv6 p hp).2, Nat.ne_of_gt (Nat.lt_of_lt_of_le hLs (hpv6 p hp).1), hg0 _ (hpv6 p hp).1⟩
    refine codeAny_mono (R := fun r s' => r = .ok .next ∧ ∃ h' tk' gens' m' nws vr nr, s' = { s with heap := h', toks := tk', gens := gens' } ∧ AllBare gens' ∧ Fr g L h' m' ∧ Has m' [(Str.ofString "row", .ref row), (Str.ofString "refused", .int a tv), (Str.ofString "sizes", .ref sa), (Str.ofString "most", .int most tm)] ∧
      News g L h' nws ∧ (row, listO vr nr) ∈ nws ∧ (LL, ({ oL with slots := sl3 } : Obj)) ∈ nws ∧ IntsAre vr (meantRow most ns)) ?_ ?_
    · refine forLoopH (fun k s' => ∃ j h' tk' gens' gs m' l vr nr pv, k = most - j ∧ j < most ∧ s' = { s with heap := h', toks := tk', gens := gens' } ∧ AllBare gens' ∧ gens'[gens3.size]? = some gs ∧ gs.bare = true ∧ Fr g L h' m' ∧
        Has m' [(Str.ofString "row", .ref row), (Str.ofString "refused", .int a tv), (Str.ofString "sizes", .ref sa), (Str.ofString "most", .int most tm)] ∧
        News g L h' ((row, listO vr nr) :: (D, listO ws 0) :: (I, oI4) :: (LL, { oL with slots := sl3 }) :: (Ga, oG) :: pv) ∧ IntsAre vr l ∧ l.length = j ∧ (∀ k x, l[k]? = some x → outs (ns.drop a) none k = some x) ∧
        (∀ s'' : Shared, (∀ b o, g.get? b = some o → s''.heap.get? b = some o) → s''.heap.get? D = some (listO ws 0) → (∀ p ∈ pv, s''.heap.get? p.1 = some p.2) → gs.Goes (model prog w) _ (ends most h5.objs.size Ga (outs (ns.drop a) none)) (talk most h5.objs.size Ga D g (listO ws 0) (outs (ns.drop a) none)) (most - j) (.send .none) s''))
        ?_ most ⟨0, h6, tk6, _, gs6, _, [], [], 0, pv6, by omega, hm0, rfl, hb3.push hb6, Array.getElem?_push_size .., hb6, fr_kb0 F5 (Kb.of _ k6), ⟨rfl, rfl, rfl, rfl, trivial⟩, N6, .nil, rfl, fun k x e => by simp at e, go6⟩
      intro k s7 hI
      k_fold
      refine ex10 hI ?_; (try clear hI); intro j h7 tk7 gens7 gs7 m7 l7 vr7 nr7 pv7; refine and13 ?_; intro yZq11x10 hj7 yZq11x12 hb7 hgs7 hbr7 F7 em7 N7 hi7 hl7 ho7 go7
      obtain rfl := yZq11x10
      obtain rfl := yZq11x12
      replace F7 := fr_has F7 em7
      have nD := N7.get (.tail _ (.head _))
      have nG := N7.get (.tail _ (.tail _ (.tail _ (.tail _ (.head _)))))
      refine next_gen (n := most - j) (gs := gs7) (g := gens3.size) rfl (T.nolimit.keeps F7.keep) (by exact (R.deeper _).room) ⟨oG, nmG, qnG, nG, rG⟩ hgs7
        (go7 _ F7.keep nD fun p hp => (N7 p (.tail _ (.tail _ (.tail _ (.tail _ (.tail _ hp)))))).1) ?_ ?_
      · intro v s8 gs8 hb8 xZq1
        obtain ⟨⟨x, t, rfl, hx⟩, ⟨h8, tk8, rfl, k8⟩, pv8, hpv8, kap8⟩ := xZq1
        have F8 : Fr g L h8 _ := ⟨F7.ns.at' fun o e => k8 L o (.inl hLs) e, fun b o e => k8 b o (.inl (hgL b o e)) (F7.keep b o e), F7.above⟩
        have N8 : News g L h8 ((row, listO vr7 nr7) :: (D, listO ws 0) :: (I, oI4) :: (LL, { oL with slots := sl3 }) :: (Ga, oG) :: pv8) := fun p hp => by
          have lt5 : ∀ {b : Addr} {o : Obj}, h5.get? b = some o → b < h5.objs.size := fun q => Heap.lt_size q
          rcases List.mem_cons.mp hp with rfl | hp
          · exact ⟨k8 _ _ (.inl hrowL) (N7.get (.head _)), (N7 _ (.head _)).2⟩
          rcases List.mem_cons.mp hp with rfl | hp
          · exact ⟨k8 _ _ (.inl (lt5 (N5.get (.head _)))) (N7.get (.tail _ (.head _))), (N7 _ (.tail _ (.head _))).2⟩
          rcases List.mem_cons.mp hp with rfl | hp
          · exact ⟨k8 _ _ (.inl (lt5 (N5.get (.tail _ (.tail _ (.head _)))))) (N7.get (.tail _ (.tail _ (.head _)))), (N7 _ (.tail _ (.tail _ (.head _)))).2⟩
          rcases List.mem_cons.mp hp with rfl | hp
          · exact ⟨k8 _ _ (.inl hLLs) (N7.get (.tail _ (.tail _ (.tail _ (.head _))))), (N7 _ (.tail _ (.tail _ (.tail _ (.head _))))).2⟩
          rcases List.mem_cons.mp hp with rfl | hp
          · exact ⟨k8 _ _ (.inr rfl) nG, (N7 _ (.tail _ (.tail _ (.tail _ (.tail _ (.head _)))))).2⟩
          · exact ⟨(hpv8 p hp).2, Nat.ne_of_gt (Nat.lt_of_lt_of_le hLs (hpv8 p hp).1), hg0 _ (hpv8 p hp).1⟩
        clear F7 N7
        dsimp only [qk]
        refine wpAny_of_eq rfl ?_
        refine wpAny_assign_Name ?_
        (repeat' ((fail_if_success (with_reducible show wpAny _ _ (pyIter _) _ _ _)); (fail_if_success (with_reducible show wpAny _ _ (subscriptTail _ (PySem.Expr.Slice (some _) none none _) _ _) _ _ _)); (fail_if_success (with_reducible show codeAny _ _ _ _ _)); (first | (k_unfold; (try dsimp only)) | ( (fail_if_success (with_reducible show wpAny _ _ (exec (Stmt.While _ _ _ _) _) _ _ _)); (fail_if_success (with_reducible show wpAny _ _ (exec (Stmt.For _ _ _ _ _) _) _ _ _)); (fail_if_success (with_reducible show wpAny _ _ (exec (Stmt.Try _ _ _ _ _) _) _ _ _)); (fail_if_success (with_reducible show wpAny _ _ (pyIter _) (fun it s₂ => Loop _ _ _ _ _ _ _ _ _ _ it s₂) _ _)); (fail_if_success (with_reducible show wpAny _ _ (call (Value.ref _) _ _) _ _ _)); (try k_fold); walk1; (try ((first | (with_reducible show wpAny _ _ (spliced _) _ _ _) | (with_reducible show wpAny _ _ (newList _) _ _ _) | (with_reducible show wpAny _ _ (execs _ _) _ _ _)); dsimp only))))))
        show wpAny _ _ (call (.builtin "list.append") [.ref row, .int x t]) _ _ _
        refine r_append' ‹Fr _ _ _ _› ‹News _ _ _ _› (.head _) (by have := hi7.length; omega) ?_
        intro h9 F9 N9
        have lr9 : h9.IsList row (vr7 ++ [Value.int x t]).toArray := isL (N9.get (.head _))
        have lv9 : (vr7 ++ [Value.int x t]).length = j + 1 := by have := hi7.length; simp; omega
        rw [show most - 1 - (most - j - 1) = j by omega] at hx
        have b1 := bare_set (s := { s with heap := h7, toks := tk7, gens := gens7 }) (x := .running) hb7 hgs7 rfl
        have e1 : (Shared.setGen { s with heap := h7, toks := tk7, gens := gens7 } gens3.size .running).gens[gens3.size]? = some .running := setGen_self hgs7
        have b2 := bare_set (s := { s with heap := h8, toks := tk8, gens := (Shared.setGen { s with heap := h7, toks := tk7, gens := gens7 } gens3.size .running).gens }) b1 e1 hb8
        have e2 : (Shared.setGen { s with heap := h8, toks := tk8, gens := (Shared.setGen { s with heap := h7, toks := tk7, gens := gens7 } gens3.size .running).gens } gens3.size gs8).gens[gens3.size]? = some gs8 := setGen_self e1
        have ho8 : ∀ k y, (l7 ++ [x])[k]? = some y → outs (ns.drop a) none k = some y := fun k y e => by
          by_cases hk : k < l7.length
          · rw [List.getElem?_append_left hk] at e; exact ho7 k y e
          · rw [List.getElem?_append_right (by omega)] at e
            by_cases hk2 : k - l7.length = 0
            · rw [hk2] at e
              obtain rfl : x = y := by simpa using e
              rw [show k = j by omega]; exact hx
            · rw [List.getElem?_eq_none_iff.mpr (by simp; omega)] at e; cases e
        (repeat' ((fail_if_success (with_reducible show wpAny _ _ (pyIter _) _ _ _)); (fail_if_success (with_reducible show wpAny _ _ (subscriptTail _ (PySem.Expr.Slice (some _) none none _) _ _) _ _ _)); (fail_if_success (with_reducible show codeAny _ _ _ _ _)); (first | (k_unfold; (try dsimp only)) | ( (fail_if_success (with_reducible show wpAny _ _ (exec (Stmt.While _ _ _ _) _) _ _ _)); (fail_if_success (with_reducible show wpAny _ _ (exec (Stmt.For _ _ _ _ _) _) _ _ _)); (fail_if_success (with_reducible show wpAny _ _ (exec (Stmt.Try _ _ _ _ _) _) _ _ _)); (fail_if_success (with_reducible show wpAny _ _ (pyIter _) (fun it s₂ => Loop _ _ _ _ _ _ _ _ _ _ it s₂) _ _)); (fail_if_success (with_reducible show wpAny _ _ (call (Value.ref _) _ _) _ _ _)); (try k_fold); walk1; (try ((first | (with_reducible show wpAny _ _ (spliced _) _ _ _) | (with_reducible show wpAny _ _ (newList _) _ _ _) | (with_reducible show wpAny _ _ (execs _ _) _ _ _)); dsimp only))))))
        · rename ((l7.length + 1 : Nat) : Int) = (most : Int) => he
          show Hold _
          refine ⟨by first | exact rfl | exact trivial, h9, _, _, _, _, _, _, rfl, b2, F9, ⟨rfl, rfl, rfl, rfl, trivial⟩, N9, .head _, .tail _ (mem_fil.mpr ⟨.tail _ (.tail _ (.tail _ (.head _))), Nat.ne_of_lt l1.2⟩), ?_⟩
          have := said_row (most := most) ho8 (.inl (by simp; omega))
          unfold meantRow
          rw [← hah, ← this]
          exact ints_snoc hi7
        · rename ((l7.length + 1 : Nat) : Int) ≠ (most : Int) => he
          show Hold _
          obtain ⟨m1, hm1⟩ : ∃ m1, most - j = m1 + 1 := ⟨most - j - 1, by omega⟩
          refine ⟨most - (j + 1), by omega, j + 1, h9, _, _, gs8, _, l7 ++ [x], vr7 ++ [Value.int x t], nr7 + 1, pv8, rfl, by omega, rfl, b2, e2, hb8, F9, ⟨rfl, rfl, rfl, rfl, trivial⟩, ?_, ints_snoc hi7, by simp; omega, ho8, ?_⟩
          · intro p hp
            rcases List.mem_cons.mp hp with rfl | hp
            · exact N9 _ (.head _)
            · refine N9 p (.tail _ (mem_fil.mpr ⟨.tail _ hp, ?_⟩))
              rcases List.mem_cons.mp hp with rfl | hp
              · exact Nat.ne_of_gt (hD5 (row, _) (.head _))
              rcases List.mem_cons.mp hp with rfl | hp
              · exact Nat.ne_of_lt l1.1
              rcases List.mem_cons.mp hp with rfl | hp
              · exact Nat.ne_of_lt l1.2
              rcases List.mem_cons.mp hp with rfl | hp
              · exact Nat.ne_of_gt (Nat.lt_trans hrowL hGa6)
              · exact Nat.ne_of_gt (Nat.lt_of_lt_of_le hrowL (hpv8 p hp).1)
          · intro s9 g9 d9 p9
            have := kap8 (by omega) s9 g9 d9 p9
            dsimp only at this
            rw [hm1] at this
            rw [show most - (j + 1) = m1 by omega]
            exact this
      · intro r8 s8 xZq1
        obtain ⟨rfl, hout8, h8, tk8, rfl, k8⟩ := xZq1
        refine .inl ⟨rfl, fun h9 k9 => ?_⟩
        refine wpAny_execs_nil ?_
        have k79 : ∀ b o, b < h5.objs.size → h7.get? b = some o → h9.get? b = some o := fun b o hb e => k9 b o (k8 b o (.inl hb) e)
        have b1 := bare_set (s := { s with heap := h7, toks := tk7, gens := gens7 }) (x := .running) hb7 hgs7 rfl
        have e1 : (Shared.setGen { s with heap := h7, toks := tk7, gens := gens7 } gens3.size .running).gens[gens3.size]? = some .running := setGen_self hgs7
        have b2 := bare_set (s := { s with heap := h8, toks := tk8, gens := (Shared.setGen { s with heap := h7, toks := tk7, gens := gens7 } gens3.size .running).gens }) (x := .finished) b1 e1 rfl
        refine ⟨rfl, h9, _, _, _, [(row, listO vr7 nr7), (LL, { oL with slots := sl3 })], _, _, rfl, b2, ⟨F7.ns.at' fun o e => k79 L o hLs e, fun b o e => k79 b o (hgL b o e) (F7.keep b o e), F7.above⟩, ⟨rfl, rfl, rfl, rfl, trivial⟩, ?_, .head _, .tail _ (.head _), ?_⟩
        · intro p hp
          rcases List.mem_cons.mp hp with rfl | hp
          · exact ⟨k79 _ _ hrowL (N7.get (.head _)), (N7 _ (.head _)).2⟩
          · rw [List.mem_singleton.mp hp]
            exact ⟨k79 _ _ hLLs (N7.get (.tail _ (.tail _ (.tail _ (.head _))))), (N7 _ (.tail _ (.tail _ (.tail _ (.head _))))).2⟩
        · have := said_row (most := most) ho7 (.inr ⟨by omega, by rw [hl7, ← show most - (most - j) = j by omega]; exact hout8⟩)
          unfold meantRow
          rw [← hah, ← this]
          exact hi7
    · intro r8 s8 xZq1
      obtain ⟨rfl, h9, tk9, gens9, m9, nws9, vr9, nr9, rfl, hb9, F9, em9, N9, mr9, mL9, hi9⟩ := xZq1
      replace F9 := fr_has F9 em9
      dsimp only
      (repeat' ((fail_if_success (with_reducible show wpAny _ _ (pyIter _) _ _ _)); (fail_if_success (with_reducible show wpAny _ _ (subscriptTail _ (PySem.Expr.Slice (some _) none none _) _ _) _ _ _)); (fail_if_success (with_reducible show codeAny _ _ _ _ _)); (first | (k_unfold; (try dsimp only)) | ( (fail_if_success (with_reducible show wpAny _ _ (exec (Stmt.While _ _ _ _) _) _ _ _)); (fail_if_success (with_reducible show wpAny _ _ (exec (Stmt.For _ _ _ _ _) _) _ _ _)); (fail_if_success (with_reducible show wpAny _ _ (exec (Stmt.Try _ _ _ _ _) _) _ _ _)); (fail_if_success (with_reducible show wpAny _ _ (pyIter _) (fun it s₂ => Loop _ _ _ _ _ _ _ _ _ _ it s₂) _ _)); (fail_if_success (with_reducible show wpAny _ _ (call (Value.ref _) _ _) _ _ _)); (try k_fold); walk1; (try ((first | (with_reducible show wpAny _ _ (spliced _) _ _ _) | (with_reducible show wpAny _ _ (newList _) _ _ _) | (with_reducible show wpAny _ _ (execs _ _) _ _ _)); dsimp only))))))
      have gn : ∀ b, g.get? b = none → b ≠ LL → s.heap.get? b = none := fun b e hb => by
        cases q : s.heap.get? b with
        | none => rfl
        | some o => have := hgk b o (by simpa using hb) q; rw [e] at this; cases this
      rename Fr _ _ _ _ => F14
      rename News _ _ _ _ => N14
      rename ∀ (p : Addr × Obj), p ∈ nws9 → _ => l14
      have hrl : row ≠ LL := Nat.ne_of_gt l1.2
      subst hah
      exact hQ _ _ _ _ sl3 hb9 (fun b o hb e => F14.keep b o (hgk b o (by simpa using hb) e)) (N14.get (.tail _ mL9))
        ⟨_, row, tv, 0, vr9, nr9, rfl, N14.get (.head _), gn _ (N14 _ (.head _)).2.2 (Nat.ne_of_gt (l14 _ mL9)), N14.get (.tail _ mr9), gn _ (N14 _ (.tail _ mr9)).2.2 hrl, hi9⟩
-- needs C3
section
open PySem.Calls PyProof.Rows PyProof.V PySem.Spec PySem.SeqAt PySem.W
mutual
theorem self_of_lay : ∀ d : PyData, d.canLay0 = true → noMix d d = true ∧ PySem.Spec.same d d = true
  | .none, _ => by simp [noMix, PySem.Spec.same]
  | .bool b, _ => by simp [noMix, PySem.Spec.same]
  | .int n, _ => by simp [noMix, PySem.Spec.same]
  | .str x, _ => by simp [noMix, PySem.Spec.same]
  | .list xs, h => by
    have := self_of_layAll xs (by simpa only [PyData.canLay0] using h)
    exact ⟨by simp only [noMix]; exact this.1, by simp only [PySem.Spec.same]; exact this.2⟩
  | .tuple xs, h => by
    have := self_of_layAll xs (by simpa only [PyData.canLay0] using h)
    exact ⟨by simp only [noMix]; exact this.1, by simp only [PySem.Spec.same]; exact this.2⟩
  | .dict kvs, h => by simp only [PyData.canLay0] at h; cases h
theorem self_of_layAll : ∀ ds : List PyData, PyData.canLayAll0 ds = true → noMixAll ds ds = true ∧ PySem.Spec.sameAll ds ds = true
  | [], _ => by simp [noMixAll, PySem.Spec.sameAll]
  | d :: r, h => by
    simp only [PyData.canLayAll0, Bool.and_eq_true] at h
    have h1 := self_of_lay d h.1
    have h2 := self_of_layAll r h.2
    exact ⟨by simp only [noMixAll, h1.1, h2.1, Bool.and_self], by simp only [PySem.Spec.sameAll, h1.2, h2.2, Bool.and_self]⟩
end
theorem lay_list {k : Nat} : ∀ {ds : List PyData}, (∀ d ∈ ds, d.canLay0 = true ∧ d.depth ≤ k) → PyData.canLay0 (.list ds) = true ∧ PyData.depth (.list ds) ≤ k + 1 := fun {ds} h => by
  have q : ∀ ds : List PyData, (∀ d ∈ ds, d.canLay0 = true ∧ d.depth ≤ k) → PyData.canLayAll0 ds = true ∧ PyData.depthAll ds ≤ k := fun ds => by
    induction ds with
    | nil => intro _; simp [PyData.canLayAll0, PyData.depthAll]
    | cons d r ih =>
      intro h
      have h1 := h d (.head _)
      have h2 := ih fun x hx => h x (.tail _ hx)
      simp only [PyData.canLayAll0, PyData.depthAll, h1.1, h2.1, Bool.and_self, true_and]
      exact Nat.max_le.mpr ⟨h1.2, h2.2⟩
  have := q ds h
  simp only [PyData.canLay0, PyData.depth]
  exact ⟨this.1, Nat.succ_le_succ this.2⟩
theorem shaped_of {d : PyData} (h : d.canLay0 = true ∧ d.depth ≤ 64) : shaped d = true := by
  show (d.canLay0 && decide (d.depth ≤ 64)) = true
  rw [h.1, decide_eq_true h.2]; rfl
theorem lay_int (n : Int) : (PyData.int n).canLay0 = true ∧ (PyData.int n).depth ≤ 0 := by simp [PyData.canLay0, PyData.depth]
theorem lay_str {x : Str} (h : PyData.canLay0 (.str x) = true) : (PyData.str x).canLay0 = true ∧ (PyData.str x).depth ≤ 0 := ⟨h, by simp [PyData.depth]⟩
variable {prog : Program} {w : World} {A : Around} {E : Value → Shared → Prop} {s : Shared}
/-- two values of the same data are not unlike -/
theorem r_same {a b : Value} {d : PyData} {as bs : List Addr} {Q : Value → Shared → Prop} (ra : Reads s.heap a d as) (rb : Reads s.heap b d bs) (hd : d.canLay0 = true ∧ d.depth ≤ 64) (hu : A.units + 64 < cLine)
    (h : Q (.bool false) s) : wpAny (model prog w) A (compareOp .NotEq a b) Q E s :=
  ne_dataH_same ra rb (shaped_of hd) (shaped_of hd) hu (self_of_lay d hd.1).1 (by rw [(self_of_lay d hd.1).2]; exact h)
theorem reads_listO {h : Heap} {a : Addr} {vs : List Value} {n : Nat} {xs : List PyData} {as : List Addr} (e : h.get? a = some (listO vs n)) (r : ReadsAll h vs xs as) : Reads h (.ref a) (.list xs) (a :: as) := Reads.list e rfl rfl (by simpa using r)
theorem readsAll_pairs {h : Heap} : ∀ {ps : List (Addr × Int × Int)}, (∀ q ∈ ps, PairAt h q) → ∃ as, ReadsAll h (refsOf ps) (ps.map fun q => .list [.int q.2.1, .int q.2.2]) as
  | [], _ => ⟨_, .nil⟩
  | q :: r, hq => by
    obtain ⟨as, hr⟩ := readsAll_pairs fun x hx => hq x (.tail _ hx)
    have hZqq := hq q (.head _)
    refine ex3 hZqq ?_; (try clear hZqq); intro ti tj n; intro e
    exact ⟨_, .cons (reads_listO e (.cons (.int _ _) (.cons (.int _ _) .nil))) hr⟩
theorem readsAll_strs {h : Heap} {vs : List Value} {ss : List Str} (x : StrsAre vs ss) : ∃ as, ReadsAll h vs (ss.map .str) as := by
  induction x with
  | nil => exact ⟨_, .nil⟩
  | cons y u _ ih => obtain ⟨as, r⟩ := ih; exact ⟨_, .cons (.str _ _) r⟩
theorem readsAll_ints {h : Heap} {vs : List Value} {ns : List Int} (x : IntsAre vs ns) : ∃ as, ReadsAll h vs (ns.map PyData.int) as := ⟨_, readsAll_of_ints x⟩
end
-- needs C18 C27
section
open PyProof.Rows.LCg
variable {prog : Program} {w : World} {A : Around} {E : Value → Shared → Prop} {s : Shared} {h₀ : Heap} {L : Addr} {env : Env}
noncomputable def testsOf (ifs : List Expr) (env : Env) : Sem Bool := forIn ifs true fun c r => if r = true then do let ok ← isTrue c env (eval c env); pure (ForInStep.yield ok) else pure (ForInStep.yield r)
/-- a comprehension over a list of the ledger, its turns knowing the tokens so far -/
noncomputable def CompT (prog : Program) (w : World) (A : Around) (h₀ : Heap) (L : Addr) (env : Env) (elt : Expr) (x : Str) (ifs : List Expr) (scope : Scope) (cl : List (Str × Addr)) (Dn : Shared → (Str → Option Value) → List Value → Led → Addr → Heap → Nat → Prop) (xv : Value) (s₁ : Shared) : Prop :=
  ∃ (ax : Addr) (vs : List Value) (nl : Nat) (m : Str → Option Value) (news : Led) (J : Nat → List Value → Led → Prop), xv = .ref ax ∧ A.handled = none ∧ Fr h₀ L s₁.heap m ∧ News h₀ L s₁.heap news ∧ vs.length ≤ 1000 ∧ J 0 [] news ∧ (∀ i ys nw, J i ys nw → (ax, listO vs nl) ∈ nw) ∧
    (∀ i v ys nw I oI C oC D m₂ h tk, vs[i]? = some v → J i ys nw → s₁.toks ≤ tk → NsObj oC m₂ → m₂ x = some v → Fr h₀ L h m → News h₀ L h ((I, oI) :: (C, oC) :: (D, listO ys ys.length) :: nw) → Off3 I C D nw → ((@Ne Nat I C) ∧ (@Ne Nat I D) ∧ (@Ne Nat C D)) →
      wpAny (model prog w) A (testsOf ifs (compEnvC scope cl C env)) (fun ok s₃ =>
        if ok = true then wpAny (model prog w) A (eval elt (compEnvC scope cl C env)) (CompEnd h₀ L m { s₁ with heap := h, toks := tk } I oI C oC D (listO ys ys.length) (fun _ => True) (fun y nw' => J (i + 1) (ys ++ [y]) nw')) (fun _ _ => False) s₃
        else Hold (CompEnd h₀ L m { s₁ with heap := h, toks := tk } I oI C oC D (listO ys ys.length) (fun _ => True) (fun _ nw' => J (i + 1) ys nw') .none s₃)) (fun _ _ => False) { s₁ with heap := h, toks := tk }) ∧
    ∀ ys nw D h tk, J vs.length ys nw → s₁.toks ≤ tk → Fr h₀ L h m → News h₀ L h ((D, listO ys ys.length) :: nw) → (∀ p ∈ nw, p.1 ≠ D) → Dn s₁ m ys nw D h tk
theorem none_from {h₀ h : Heap} (k : ∀ b o, h₀.get? b = some o → h.get? b = some o) {b : Addr} (hb : h.objs.size ≤ b) : h₀.get? b = none := by
  cases q : h₀.get? b with
  | none => rfl
  | some o => exact absurd (Heap.lt_size (k b o q)) (Nat.not_lt.mpr hb)
theorem comp_block {elt iter : Expr} {x : Str} {px : Pos} {ifs : List Expr} {scope : Scope} {cl : List (Str × Addr)} {pos : Pos} {Dn : Shared → (Str → Option Value) → List Value → Led → Addr → Heap → Nat → Prop} {RR : Value → Addr → Result → Shared → Prop} {xv : Value} {s₁ : Shared}
    (hcell : ∀ y ∈ scope.names, y.2 ≠ .cell) (hkind : scope.kind = .function) (hx : scope.names.lookup x = some .local)
    (h₁ : CompT prog w A h₀ L env elt x ifs scope cl Dn xv s₁)
    (hRR : ∀ m ys nw D C h tk m', Dn s₁ m ys nw D h tk → Fr h₀ L h m → News h₀ L h ((D, listO ys ys.length) :: nw) → h.Ns C m' → h₀.get? C = none → (@Ne Nat C L) → (@Ne Nat C D) → (∀ p ∈ nw, (@Ne Nat p.1 C)) →
      (∀ h', Fr h₀ L h' m → News h₀ L h' ((D, listO ys ys.length) :: nw) → Dn s₁ m ys nw D h' tk) → RR (.ref D) C (.ok .next) { s₁ with heap := h, toks := tk }) :
    wpAny (model prog w) A (pyIter xv) (fun it s₂ => wpAny (model prog w) A (newList []) (fun acc s₃ => wpAny (model prog w) A (newFunctionEnv scope env.globals cl [] env.qual none .none (some env)) (fun cenv s₄ =>
      codeAny (model prog w) A (.compStart (.ListComp elt [⟨.Name x px, iter, ifs, 0⟩] scope pos) 0 it acc { cenv with scope := relabel scope env }) (RR acc cenv.locals) s₄) E s₃) E s₂) E s₁ := by
  refine ex6 h₁ ?_; (try clear h₁); intro ax vs nl m news J; refine and9 ?_; intro yZq0x6 hh F N hlen hJ hsrc turn done
  obtain rfl := yZq0x6
  have hax : s₁.heap.get? ax = some (listO vs nl) := (N _ (hsrc _ _ _ hJ)).1
  refine wpAny_pyIter_list (isL hax) ?_
  generalize hIe : s₁.heap.objs.size = I
  have gI : (s₁.heap.push { cls := .type "list_iterator", data := .fields #[.ref ax, .int 0 0] }).IsListIter I ax 0 := ⟨_, hIe ▸ Heap.get?_push_size _ rfl, rfl, rfl⟩
  have F2 := F.push { cls := .type "list_iterator", data := .fields #[.ref ax, .int 0 0] }
  have N2 : News h₀ L (s₁.heap.push { cls := .type "list_iterator", data := .fields #[.ref ax, .int 0 0] }) news := fun p hp => ⟨Heap.get?_push_of_some _ (N p hp).1, (N p hp).2⟩
  have nI : ∀ p ∈ news, p.1 < I := fun p hp => hIe ▸ Heap.lt_size (N p hp).1
  have LI' : L < I := hIe ▸ F.ns.lt
  have I0 : h₀.get? I = none := none_from F.keep (Nat.le_of_eq hIe)
  have zI : (s₁.heap.push { cls := .type "list_iterator", data := .fields #[.ref ax, .int 0 0] }).objs.size = I + 1 := by rw [Heap.size_push, hIe]
  generalize hhe : (s₁.heap.push { cls := .type "list_iterator", data := .fields #[.ref ax, .int 0 0] }) = h2 at gI F2 N2 zI ⊢
  refine wpAny_newObj_type (wpAny_newFunctionEnv hcell (by intro y hy; simp at hy) (fun h3 ns3 sb3 => ?_) hkind)
  dsimp only at ns3 sb3 ⊢
  generalize hDe : h2.objs.size = D at ns3 sb3 ⊢
  have gD : (h2.push { cls := .type "list", dict := none, data := .seq ([] : List Value).toArray }).get? D = some (listO [] 0) := hDe ▸ Heap.get?_push_size _ rfl
  have zD : (h2.push { cls := .type "list", dict := none, data := .seq ([] : List Value).toArray }).objs.size = D + 1 := by rw [Heap.size_push, hDe]
  have k2 : ∀ b o, h2.get? b = some o → (h2.push { cls := .type "list", dict := none, data := .seq ([] : List Value).toArray }).get? b = some o := fun b o e => Heap.get?_push_of_some _ e
  generalize hH : h2.push { cls := .type "list", dict := none, data := .seq ([] : List Value).toArray } = H at ns3 sb3 gD zD k2 ⊢
  generalize hCe : H.objs.size = C at ns3 sb3 zD ⊢
  have hID : I < D := by rw [← hDe, zI]; exact Nat.lt_succ_self _
  have hDC : D < C := by rw [zD]; exact Nat.lt_succ_self _
  have k3 : ∀ b o, H.get? b = some o → h3.get? b = some o := fun b o e => sb3.extBut b o (Nat.ne_of_lt (hCe ▸ Heap.lt_size e)) (Heap.get?_push_of_some _ e)
  have D0 : h₀.get? D = none := none_from F2.keep (Nat.le_of_eq hDe)
  have C0 : h₀.get? C = none := none_from (fun b o e => k2 b o (F2.keep b o e)) (Nat.le_of_eq hCe)
  have hLD : L ≠ D := Nat.ne_of_lt (Nat.lt_trans LI' hID)
  have hLC : L ≠ C := Nat.ne_of_lt (Nat.lt_trans LI' (Nat.lt_trans hID hDC))
  have hIC : I ≠ C := Nat.ne_of_lt (Nat.lt_trans hID hDC)
  have hId : I ≠ D := Nat.ne_of_lt hID
  have hCd : C ≠ D := Ne.symm (Nat.ne_of_lt hDC)
  have hLI : L ≠ I := Nat.ne_of_lt LI'
  have off0 : Off3 I C D news := Off3.of fun p hp => ⟨Nat.ne_of_lt (nI p hp), Nat.ne_of_lt (Nat.lt_trans (nI p hp) (Nat.lt_trans hID hDC)), Nat.ne_of_lt (Nat.lt_trans (nI p hp) hID)⟩
  have loop : ∀ tk0, s₁.toks ≤ tk0 → codeAny (model prog w) A (.compLoop (.ListComp elt [⟨.Name x px, iter, ifs, 0⟩] scope pos) 0 (.ref I) (.ref D) (compEnvC scope cl C env)) (RR (.ref D) C) { s₁ with heap := h3, toks := tk0 } := fun tk0 htk0 => by
    refine codeAny_compLoop_tests (fun k s' => ∃ h' tk i ys m' nw, s' = { s₁ with heap := h', toks := tk } ∧ s₁.toks ≤ tk ∧ i ≤ vs.length ∧ ys.length ≤ i ∧ k = vs.length + 1 - i ∧ h'.IsListIter I ax i ∧ Fr h₀ L h' m ∧ h'.Ns C m' ∧ News h₀ L h' ((D, listO ys ys.length) :: nw) ∧ Off3 I C D nw ∧ J i ys nw)
      ?_ (vs.length + 1) ⟨h3, tk0, 0, [], _, news, rfl, htk0, Nat.zero_le _, Nat.le_refl _, rfl, gI.at fun o e => k3 _ _ (k2 _ _ e), F2.keeps fun b o e => k3 _ _ (k2 _ _ e), ns3, ?_, off0, hJ⟩
    · intro k s' xZq1
      refine ex6 xZq1 ?_; (try clear xZq1); intro h4 tk4 i ys m4 nw; refine and11 ?_; intro yZq1x6 htk4 hi hyl yZq1x10 it4 F4 ns4 N4 off4 J4
      obtain rfl := yZq1x6
      obtain rfl := yZq1x10
      have off := off4.mem
      have a4 : (ax, listO vs nl) ∈ nw := hsrc _ _ _ J4
      have l4 : h4.IsList ax vs.toArray := isL (N4.get (.tail _ a4))
      have hne : ax ≠ I := (off _ a4).1
      by_cases hlt : i < vs.length
      · have hZqq := id it4
        refine ex1 hZqq ?_; (try clear hZqq); intro oI4; refine and3 ?_; intro hoI4 cI4 dI4
        have hv := List.getElem?_eq_getElem hlt
        refine with_toks ((Walks.list hh I ax hne vs.toArray).item i _ _ _ (by simpa using hlt) ⟨it4, l4⟩ fun v h5 tk5 hv5 st5 k5 htk5 => ?_)
        have hv5' : vs[i]? = some v := by simpa using hv5
        have htk5' : s₁.toks ≤ tk5 := Nat.le_trans htk4 htk5
        have F5 : Fr h₀ L h5 m := fr_kb F4 k5 (by simpa using hLI) (fun b hb => by rw [List.mem_singleton.mp hb]; exact I0)
        have N5 : News h₀ L h5 ((D, listO ys ys.length) :: nw) := news_kb N4 k5 fun p hp => by
          rcases List.mem_cons.mp hp with rfl | hp
          · simpa using Ne.symm hId
          · simpa using (off p hp).1
        refine wpAny_noRaise (with_toks (wpAny_assign_Name (wpAny_storeName_local (lookup_relabel_local hx) (ns4.at' fun o e => k5 _ o (by simpa using Ne.symm hIC) e) (fun h6 ns6 sb6 htk6 => ?_) (by simp [compEnvC, relabel, hkind]))))
        obtain ⟨⟨oI6, hoI6, cI6, dI6⟩, _⟩ := st5
        have hZqq := ns_obj ns6
        refine ex1 hZqq ?_; (try clear hZqq); intro oC6; refine and2 ?_; intro hoC6 nC6
        have F6 : Fr h₀ L h6 m := F5.change sb6 (Ne.symm hLC) C0
        have N6 : News h₀ L h6 ((I, oI6) :: (C, oC6) :: (D, listO ys ys.length) :: nw) := news_add (news_add (fun p hp => ⟨sb6.extBut _ _ (by
            rcases List.mem_cons.mp hp with rfl | hp
            · exact Ne.symm hCd
            · exact (off p hp).2.1) (N5 p hp).1, (N5 p hp).2⟩) hoC6 (Ne.symm hLC) C0) (sb6.extBut _ _ hIC hoI6) (Ne.symm hLI) I0
        refine wpAny_noRaise (wpAny_mono (any_toks (turn i v ys nw I oI6 C oC6 D _ h6 _ hv5' J4 (Nat.le_trans htk5' htk6) nC6 (by simp) F6 N6 off4 ⟨hIC, hId, hCd⟩)) (fun ok s7 ⟨h7, l7⟩ => ?_) fun _ _ e => e.1)
        have htk7 : s₁.toks ≤ s7.toks := Nat.le_trans (Nat.le_trans htk5' htk6) l7
        have fin : ∀ (s8 : Shared) (ys' : List Value) (h8 : Heap) (tk8 : Nat) (nw8 : Led), s8 = { s₁ with heap := h8, toks := tk8 } → s₁.toks ≤ tk8 → ys'.length ≤ i + 1 → Fr h₀ L h8 m → News h₀ L h8 ((I, oI6) :: (C, oC6) :: (D, listO ys' ys'.length) :: nw8) → Off3 I C D nw8 → J (i + 1) ys' nw8 →
            ∃ k, k < vs.length + 1 - i ∧ ∃ h' tk i ys m' nw, s8 = { s₁ with heap := h', toks := tk } ∧ s₁.toks ≤ tk ∧ i ≤ vs.length ∧ ys.length ≤ i ∧ k = vs.length + 1 - i ∧ h'.IsListIter I ax i ∧ Fr h₀ L h' m ∧ h'.Ns C m' ∧ News h₀ L h' ((D, listO ys ys.length) :: nw) ∧ Off3 I C D nw ∧ J i ys nw :=
          fun s8 ys' h8 tk8 nw8 e8 t8 y8 F8 N8 o8 J8 => ⟨vs.length + 1 - (i + 1), by omega, h8, tk8, i + 1, ys', _, nw8, e8, t8, hlt, y8, rfl, ⟨oI6, N8.get (.head _), cI6, dI6⟩, F8, nC6.ns (N8.get (.tail _ (.head _))), fun p hp => N8 p (.tail _ (.tail _ hp)), o8, J8⟩
        cases ok with
        | false =>
          simp only [Bool.false_eq_true, if_false] at h7 ⊢
          refine ex3 h7 ?_; (try clear h7); intro h8 tk8 nw8; refine and6 ?_; intro yZq4x3 F8 N8 o8 _ J8
          obtain rfl := yZq4x3
          exact fin _ ys h8 tk8 nw8 rfl htk7 (by omega) F8 N8 o8 J8
        | true =>
          simp only [if_true] at h7 ⊢
          refine wpAny_noRaise (wpAny_mono (any_toks h7) (fun y s8 ⟨h8, l8⟩ => ?_) fun _ _ e => e.1)
          refine ex3 h8 ?_; (try clear h8); intro h8 tk8 nw8; refine and6 ?_; intro yZq5x3 F8 N8 o8 _ J8
          obtain rfl := yZq5x3
          have htk8 : s₁.toks ≤ tk8 := Nat.le_trans htk7 l8
          refine append_at (hsz := by show ys.toArray.size ≤ 2 ^ 24; simp; omega) (N8.get (.tail _ (.tail _ (.head _)))) fun h9 hs9 hD9 => ?_
          have off8 := o8.mem
          refine fin _ (ys ++ [y]) h9 tk8 nw8 rfl htk8 (by simp; omega) (F8.change hs9 (Ne.symm hLD) D0) (fun p hp => ?_) o8 J8
          rcases List.mem_cons.mp hp with rfl | hp
          · exact ⟨hs9.extBut _ _ hId (N8.get (.head _)), (N8 _ (.head _)).2⟩
          rcases List.mem_cons.mp hp with rfl | hp
          · exact ⟨hs9.extBut _ _ hCd (N8.get (.tail _ (.head _))), (N8 _ (.tail _ (.head _))).2⟩
          rcases List.mem_cons.mp hp with rfl | hp
          · exact ⟨by rw [hD9]; simp, Ne.symm hLD, D0⟩
          · exact ⟨hs9.extBut _ _ (off8 p hp).2.2 (N8 p (.tail _ (.tail _ (.tail _ hp)))).1, (N8 p (.tail _ (.tail _ (.tail _ hp)))).2⟩
      · obtain rfl : i = vs.length := by omega
        refine with_toks ((Walks.list hh I ax hne vs.toArray).done _ _ _ ⟨by simpa using it4, l4⟩ fun h5 tk5 k5 htk5 => ?_)
        have F5 : Fr h₀ L h5 m := fr_kb F4 k5 (by simpa using hLI) (fun b hb => by rw [List.mem_singleton.mp hb]; exact I0)
        have N5 : News h₀ L h5 ((D, listO ys ys.length) :: nw) := news_kb N4 k5 fun p hp => by
          rcases List.mem_cons.mp hp with rfl | hp
          · simpa using Ne.symm hId
          · simpa using (off p hp).1
        have dn : ∀ h', Fr h₀ L h' m → News h₀ L h' ((D, listO ys ys.length) :: nw) → Dn s₁ m ys nw D h' tk5 := fun h' F' N' => done ys nw D h' tk5 J4 (Nat.le_trans htk4 htk5) F' N' fun p hp => (off p hp).2.2
        exact hRR m ys nw D C h5 tk5 _ (dn _ F5 N5) F5 N5 (ns4.at' fun o e => k5 _ o (by simpa using Ne.symm hIC) e) C0 (Ne.symm hLC) hCd (fun p hp => (off p hp).2.1) dn
    · exact news_add (fun p hp => ⟨k3 _ _ (k2 _ _ (N2 p hp).1), (N2 p hp).2⟩) (k3 _ _ gD) (Ne.symm hLD) D0
  exact codeAny_compStart_list (loop _ (by simp)) (wpAny_pyIter_listiter (gI.at fun o e => k3 _ _ (k2 _ _ e)) (loop _ (by simp)))
theorem r_comp {elt iter : Expr} {x : Str} {px : Pos} {ifs : List Expr} {scope : Scope} {cl : List (Str × Addr)} {pos : Pos} {Q : Value → Shared → Prop}
    (hclos : closureFor scope env = pure cl) (hcell : ∀ y ∈ scope.names, y.2 ≠ .cell) (hkind : scope.kind = .function)
    (hnames : ∀ y ∈ scope.names, y.2 = .local → scope.names.lookup y.1 = some .local) (hx : scope.names.lookup x = some .local)
    (h : wpAny (model prog w) A (eval iter env) (CompT prog w A h₀ L env elt x ifs scope cl (fun s₁ m ys nw D h tk => Q (.ref D) { s₁ with heap := h, toks := tk })) E s)
    (hs : ∀ x, foldedSetIterable iter env x = pure x := by intro _; rfl) :
    wpAny (model prog w) A (eval (.ListComp elt [⟨.Name x px, iter, ifs, 0⟩] scope pos) env) Q E s := by
  rw [eval_ListComp]
  refine wpAny_comprehension_free (use := none) rfl hs hclos hkind hnames (wpAny_mono h (fun xv s₁ h₁ => ?_) fun _ _ e => e)
  refine comp_block hcell hkind hx h₁ fun m ys nw D C h tk m' hd F N hn C0 hCL hCD off dn => ?_
  refine ⟨m', hn, fun h'' hs'' => dn h'' (F.change hs'' hCL C0) fun p hp => ⟨hs''.extBut _ _ ?_ (N p hp).1, (N p hp).2⟩⟩
  rcases List.mem_cons.mp hp with rfl | hp
  · exact Ne.symm hCD
  · exact off p hp
/-- the same, its value given a name -/
theorem r_compA {elt iter : Expr} {x y : Str} {px py : Pos} {ifs : List Expr} {scope : Scope} {cl : List (Str × Addr)} {pos spos : Pos} {Q : Flow → Shared → Prop} (hLe : env.locals = L)
    (hsw : swapsWith (.ListComp elt [⟨.Name x px, iter, ifs, 0⟩] scope pos) (some (.Name y py)) spos.line env = pure true)
    (hclos : closureFor scope env = pure cl) (hcell : ∀ y ∈ scope.names, y.2 ≠ .cell) (hkind : scope.kind = .function)
    (hnames : ∀ y ∈ scope.names, y.2 = .local → scope.names.lookup y.1 = some .local) (hx : scope.names.lookup x = some .local)
    (hy : env.kindOf y = some .local) (hp : (env.scope.kind == .class || (env.scope.kind == .module && env.locals != env.globals)) = false)
    (h : wpAny (model prog w) A (eval iter env) (CompT prog w A h₀ L env elt x ifs scope cl (fun s₁ m ys nw D h tk => ∀ h' tk', Fr h₀ L h' (fun z => if z = y then some (.ref D) else m z) → News h₀ L h' ((D, listO ys ys.length) :: nw) → Q .next { s₁ with heap := h', toks := tk' })) E s)
    (hs : ∀ x, foldedSetIterable iter env x = pure x := by intro _; rfl) :
    wpAny (model prog w) A (exec (.Assign [.Name y py] (.ListComp elt [⟨.Name x px, iter, ifs, 0⟩] scope pos) spos) env) Q E s := by
  subst hLe
  rw [exec_Assign_Name_used _ _ _ _ hsw]
  refine wpAny_bind (wpAny_standAt (wpAny_bind ?_))
  show wpAny _ A (do let _ ← comprehension (.ListComp elt [⟨.Name x px, iter, ifs, 0⟩] scope pos) scope env _ (newList []) false (eval iter env) (some (assign (.Name y py) env))) _ _ s
  refine wpAny_bind (wpAny_mono (wpAny_comprehension_free (use := some (assign (.Name y py) env)) (Q := fun _ s' => Q .next s') rfl hs hclos hkind hnames
    (wpAny_mono h (fun xv s₁ h₁ => ?_) fun _ _ e => e)) (fun _ s' hq => wpAny_pure (wpAny_pure hq)) fun _ _ e => e)
  refine comp_block hcell hkind hx h₁ fun m ys nw D C h tk m' hd F N hn C0 hCL hCD off dn => ?_
  show wpAny _ A (assign (.Name y py) env (.ref D)) _ _ _
  refine wpAny_assign_Name (wpAny_storeName_local hy F.ns (fun h₂ hn₂ hs₂ => ?_) hp)
  refine ⟨m', hn.sameBut hs₂ hCL, fun h'' hs'' => hd h'' _ ((F.set hn₂ hs₂).change hs'' hCL C0) fun p hp => ?_⟩
  refine ⟨hs''.extBut _ _ ?_ (hs₂.extBut _ _ (N p hp).2.1 (N p hp).1), (N p hp).2⟩
  rcases List.mem_cons.mp hp with rfl | hp
  · exact Ne.symm hCD
  · exact off p hp
end
-- needs C9 C11 C15 C18 C20 C21 C22 C23 C26 C27 C28 C29 C30 C39
theorem nth {α : Type} {l : List α} {x : α} (k : Nat) (h : l[k]? = some x := by rfl) : x ∈ l := List.mem_of_getElem? h
theorem news_pick {h0 h : Heap} {L : Addr} {news : Led} (N : News h0 L h news) (ks : List Nat) : News h0 L h (ks.filterMap (news[·]?)) := fun p hp => by
  have hZqq := List.mem_filterMap.mp hp
  refine ex1 hZqq ?_; (try clear hZqq); intro k; refine and2 ?_; intro _ hk
  exact N p (List.mem_of_getElem? hk)
/-- after a call that marked the frame's object -/
theorem fr_slots {h0 h h' : Heap} {L : Addr} {m : Str → Option Value} {news : Led} {oL : Obj} {sl : Array (Option Value)} (F : Fr h0 L h m) (N : News h0 L h news) (hoL : h.get? L = some oL) (k : ∀ b o, b ≠ L → h.get? b = some o → h'.get? b = some o) (e : h'.get? L = some { oL with slots := sl }) :
    Fr h0 L h' m ∧ News h0 L h' news := by
  have h0L := kts_self F
  refine ⟨⟨?_, fun b o q => k b o (fun z => by rw [z, h0L] at q; cases q) (F.keep b o q), F.above⟩, fun p hp => ⟨k _ _ (N p hp).2.1 (N p hp).1, (N p hp).2⟩⟩
  have hZqq := F.ns
  refine ex3 hZqq ?_; (try clear hZqq); intro o es ep; refine and2 ?_; intro ho r
  rw [hoL] at ho; cases ho
  exact ⟨_, es, ep, e, r⟩
theorem got_said {h0 h h' : Heap} {L a b : Addr} {m : Str → Option Value} {news : Led} {o o2 oL : Obj} {sl : Array (Option Value)} (F : Fr h0 L h m) (N : News h0 L h news) (hoL : h.get? L = some oL) (k : ∀ b o, b ≠ L → h.get? b = some o → h'.get? b = some o) (el : h'.get? L = some { oL with slots := sl })
    (e : h'.get? a = some o) (z : h.get? a = none) (e2 : h'.get? b = some o2) (z2 : h.get? b = none) :
    Fr h0 L h' m ∧ News h0 L h' ((a, o) :: (b, o2) :: news) ∧ (∀ p ∈ news, p.1 ≠ a) ∧ ∀ p ∈ news, p.1 ≠ b := by
  obtain ⟨F1, N1⟩ := fr_slots F N hoL k el
  refine ⟨F1, news_add (news_add N1 e2 (fun q => by rw [q, hoL] at z2; cases z2) (kts_none F.keep z2)) e (fun q => by rw [q, hoL] at z; cases z) (kts_none F.keep z), fun p hp q => ?_, fun p hp q => ?_⟩
  · have := (N p hp).1; rw [q, z] at this; cases this
  · have := (N p hp).1; rw [q, z2] at this; cases this
theorem news_turn' {h₀ h h' : Heap} {L a : Addr} {o' : Obj} {news news' : Led} (N : News h₀ L h news) (kb : Kb [a] h h') (e : h'.get? a = some o') (hL : a ≠ L) (h0 : h₀.get? a = none) (k : ∀ p ∈ news', p = (a, o') ∨ (p ∈ news ∧ p.1 ≠ a)) : News h₀ L h' news' := fun p hp => by
  rcases k p hp with rfl | ⟨h1, h2⟩
  · exact ⟨e, hL, h0⟩
  · exact ⟨kb _ _ (by simpa using h2) (N p h1).1, (N p h1).2⟩
theorem drop_flat {f : Int → List Int} {l : List Int} {i : Nat} {x : Int} (h : l[i]? = some x) : (l.flatMap f).drop ((l.take i).flatMap f).length = f x ++ (l.drop (i + 1)).flatMap f := by
  obtain ⟨h1, h2⟩ := List.getElem?_eq_some_iff.mp h
  have e : l = l.take i ++ (x :: l.drop (i + 1)) := by rw [← h2, ← List.drop_eq_getElem_cons h1, List.take_append_drop]
  have e2 : l.flatMap f = (l.take i).flatMap f ++ (f x ++ (l.drop (i + 1)).flatMap f) := by
    conv => lhs; rw [e]
    rw [List.flatMap_append, List.flatMap_cons]
  rw [e2, List.drop_left]
theorem take_flat {f : Int → List Int} {l : List Int} {i : Nat} {x : Int} (h : l[i]? = some x) : ((l.take (i + 1)).flatMap f).length = ((l.take i).flatMap f).length + (f x).length := by
  rw [List.take_add_one, h, List.flatMap_append, List.length_append]; simp
theorem r_storeC {M : Model} {A : Around} {E : Value → Shared → Prop} {s : Shared} {h₀ : Heap} {L a : Addr} {m : Str → Option Value} {cn : Str} {cs : Scope} {ccd : Value} {cl : List (Str × Addr)} {x : Str} {v : Value} {Q : Unit → Shared → Prop} {news : Led} {c : Addr} {o : Obj} {v₀ : Option Value} (K : Led)
    (F : Fr h₀ L s.heap m) (N : News h₀ L s.heap news) (hm : (c, o) ∈ news) (hK : ∀ p ∈ K, p ∈ news ∧ p.1 ≠ c) (hd : o.data = .cell v₀)
    (h : ∀ h' o', Fr h₀ L h' m → News h₀ L h' ((c, o') :: K) → o'.data = .cell (some v) → Q () { s with heap := h' })
    (hc : cl.lookup x = some c := by rfl) (hk : cs.kind = .function := by rfl) (hx : (envX cn cs L a ccd cl).kindOf x = some .cell := by rfl) : wpAny M A (storeName (envX cn cs L a ccd cl) x v) Q E s := by
  have hmem := N (c, o) hm
  refine wpAny_storeName_cell hk hx hc ⟨o, hmem.1, hd⟩ fun h' hv hs => ?_
  refine ex1 hv ?_; (try clear hv); intro o'; refine and2 ?_; intro ho' hd'
  refine h h' o' ⟨F.ns.sameBut hs (Ne.symm hmem.2.1), fun b ob e => (hs.2 b (fun q => ?_)).trans (F.keep b ob e), F.above⟩ (fun p hp => ?_) hd'
  · rw [q, hmem.2.2] at e; cases e
  · rcases List.mem_cons.mp hp with rfl | hp
    · exact ⟨ho', hmem.2⟩
    · obtain ⟨h1, h2⟩ := hK p hp
      exact ⟨(hs.2 _ h2).trans (N p h1).1, (N p h1).2⟩
theorem got_new {h0 h h' : Heap} {L a : Addr} {m : Str → Option Value} {news : Led} {o : Obj} (F : Fr h0 L h m) (N : News h0 L h news) (kb : Kb [] h h') (e : h'.get? a = some o) (z : h.get? a = none) : Fr h0 L h' m ∧ News h0 L h' ((a, o) :: news) ∧ ∀ p ∈ news, p.1 ≠ a := by
  obtain ⟨oL, hoL, _⟩ : ∃ o, h.get? L = some o ∧ True := by obtain ⟨o, es, ep, ho, _⟩ := F.ns; exact ⟨o, ho, trivial⟩
  refine ⟨fr_kb0 F kb, news_add (news_kb0 N kb) e (fun q => by rw [q, hoL] at z; cases z) (kts_none F.keep z), fun p hp q => ?_⟩
  have := (N p hp).1
  rw [q, z] at this; cases this
theorem got_two {h0 h h' : Heap} {L a b : Addr} {m : Str → Option Value} {news : Led} {o o2 : Obj} (F : Fr h0 L h m) (N : News h0 L h news) (kb : Kb [] h h') (e : h'.get? a = some o) (z : h.get? a = none) (e2 : h'.get? b = some o2) (z2 : h.get? b = none) :
    Fr h0 L h' m ∧ News h0 L h' ((a, o) :: (b, o2) :: news) ∧ (∀ p ∈ news, p.1 ≠ a) ∧ ∀ p ∈ news, p.1 ≠ b := by
  have hZqq := got_new F N kb e z
  refine andI hZqq ?_; (try clear hZqq); refine and3 ?_; intro F1 N1 d1
  have hZqq := got_new F N kb e2 z2
  refine andI hZqq ?_; (try clear hZqq); refine and3 ?_; intro _ N2 d2
  exact ⟨F1, fun p hp => by
    rcases List.mem_cons.mp hp with rfl | hp
    · exact N1 _ (.head _)
    · exact N2 p hp, d1, d2⟩
theorem enterCT {prog : Program} {w : World} {A : Around} {E : Value → Shared → Prop} {s : Shared} {Q : Value → Shared → Prop}
    {name qual : Str} {params : Arguments} {body : List Stmt} {scope : Scope} {dV kV doc pm cdv ct oc : Value} {an od : Option Addr} {osl : Array (Option Value)} {f : Addr} {pos : List Value} {kw : List (Str × Value)} (binds : List (Str × Value))
    (G : Gd w s.heap) (hroom : A.depth < recursionLimit)
    (ho : (hd.heap_39 w.params).lookup f = some ⟨oc, od, .func (fnOf name qual params body scope dV kV doc pm an cdv ct), osl⟩)
    (hcd : codeIn (hd.heap_39 w.params) cdv qual = true)
    (hbind : BindsTo s (fnOf name qual params body scope dV kV doc pm an cdv ct) ⟨pos, kw⟩ binds)
    (hkind : (binds.all fun y => scope.names.lookup y.1 == some .local || scope.names.lookup y.1 == some .cell) = true)
    (hnd : ((cellsFrom 0 scope.names []).map (·.1)).Nodup)
    (hco : scope.isCoroutine = false) (hgen : scope.isGenerator = false) (hk : scope.kind = .function)
    (h : ∀ L h₁ tk cells, s.toks ≤ tk → Fr s.heap L h₁ (bindL (envOfC qual scope L f cdv).kindOf binds fun _ => none) → News s.heap L h₁ cells →
      CellsAre (bindC (envOfC qual scope L f cdv).kindOf binds fun _ => none) (cellsFrom (L + 1) scope.names []) cells → (hd.heap_39 w.params).In s.heap →
      wpAny (model prog w) (A.deeper (envOfC qual scope L f cdv)) (execs body (envOfC qual scope L f cdv))
        (fun fl s' => Q (match fl with | .ret v => v | _ => .none) s') (fun _ _ => False)
        { s with heap := h₁, toks := tk }) :
    wpAny (model prog w) A (call (.ref f) pos kw) Q E s := by
  have hZqq := G.T
  refine ex5 hZqq ?_; (try clear hZqq); intro p l m mg mb; intro T
  refine wpAny_call (codeAny_call_function (fd := fnOf name qual params body scope dV kV doc pm an cdv ct) (body := body) hroom (G.X _ _ ho) rfl hco hgen rfl (codeRec_of G.X hcd) (hbind _ _ _ _ ?_))
  refine with_toks (wpAny_newFunctionEnv_cells hk (kindsX hkind _) fun env' he s' x hle => ?_)
  subst he
  refine ⟨T.nolimit.keeps x.toInCall.keep, codeAny_func ?_⟩
  have hZqq := x.done
  refine ex2 hZqq ?_; (try clear hZqq); intro h₁ tk; refine and2 ?_; intro yZq6x2 _
  obtain rfl := yZq6x2
  have hk₁ := x.toInCall.keep
  have hZqq := Cl.news (h₀ := s.heap) (Nat.le_refl _) fun n c hm => ⟨x.cell n c (lookup_of_mem_nodup (cellsFrom_names scope.names 0 (s.heap.objs.size + 1) [] [] rfl ▸ hnd) hm), x.above n c hm⟩
  refine ex1 hZqq ?_; (try clear hZqq); intro cells; refine and2 ?_; intro NC Y
  exact wpAny_mono (h s.heap.objs.size h₁ tk cells hle ⟨x.toInCall.ns, hk₁, Nat.le_refl _⟩ NC Y G.X) (fun fl s' hl => hl) fun _ _ y => y.elim

theorem pick_take (vs : List Value) (k : Nat) : (slicePick vs.toArray none (some (k : Int)) none).toList = vs.take k := by
  have e : sliceBounds none (some (k : Int)) none vs.toArray.size = (((0 : Nat) : Int), ((min k vs.length : Nat) : Int), 1) := by
    simp only [sliceBounds, Option.getD_none, show (1 : Int) > 0 by decide, if_true, if_neg (show ¬ ((k : Int) < 0) by omega), List.size_toArray]
    congr 1
    congr 1
    omega
  rw [kmk_pick_nat _ e]
  simp only [List.drop_zero, Nat.sub_zero]
  exact (List.take_eq_take_min (i := k) (l := vs)).symm ▸ rfl
theorem r_uptoA {prog : Program} {w : World} {A : Around} {E : Value → Shared → Prop} {s : Shared} {h₀ : Heap} {L l : Addr} {m : Str → Option Value} {news : Led} {value slice : PySem.Expr} {vs : List Value} {Q : Value → Shared → Prop} {k : Nat} {t : Tok} (F : Fr h₀ L s.heap m) (N : News h₀ L s.heap news) (hl : s.heap.IsList l vs.toArray) (hz : vs.length ≤ 1000)
    (h : ∀ D h', Fr h₀ L h' m → News h₀ L h' ((D, listO (vs.take k) 0) :: news) → (∀ p ∈ news, p.1 < D) → Q (.ref D) { s with heap := h' })
    (hs : subscripted slice false (.ref l) (.ref s.heap.objs.size) = operate [.ref s.heap.objs.size, .ref l] (getItem (.ref l) (.ref s.heap.objs.size)) := by with_unfolding_all rfl) (ht : ∀ r, letTemporaryGo value (.ref l) r = pure () := by intro _; with_unfolding_all rfl) :
    wpAny (model prog w) A (subscriptTail value slice (.ref l) (.ref s.heap.objs.size)) Q E { s with heap := s.heap.push { cls := .type "slice", data := .fields #[.none, .int k t, .none] } } :=
  kmk_slice_lit F N hl IsPart.none (IsPart.int _ _) (pick_take vs k) (fun D h' F' N' l1 => h D h' F' N' l1) hs ht (by show vs.toArray.size ≤ 2 ^ 24; simp; omega)
theorem rowGo_mem (most : Nat) : ∀ (r acc : List Int) (x : Int), x ∈ rowGo most acc r → x ∈ acc ∨ x ∈ r
  | [], acc, x, h => .inl h
  | y :: r, acc, x, h => by
    unfold rowGo at h
    split at h
    · exact .inl h
    · split at h
      · rcases List.mem_append.mp h with h | h
        · exact .inl h
        · have hZqq := List.mem_flatten.mp h
          refine ex1 hZqq ?_; (try clear hZqq); intro l; refine and2 ?_; intro hl hx
          rw [List.eq_of_mem_replicate hl] at hx
          exact .inl (List.mem_of_mem_drop hx)
      · rcases rowGo_mem most r _ x h with h | h
        · rcases List.mem_append.mp h with h | h
          · exact .inl h
          · rw [List.mem_singleton.mp h]; exact .inr (.head _)
        · exact .inr (.tail _ h)
theorem meantRow_mem {most : Nat} {xs : List Int} {x : Int} (h : x ∈ meantRow most xs) : x ∈ xs := by
  rcases rowGo_mem most _ _ x (List.mem_of_mem_take h) with h | h
  · cases h
  · exact List.mem_of_mem_drop h
theorem meantRow_len (most : Nat) (xs : List Int) : (meantRow most xs).length ≤ most := by unfold meantRow; rw [List.length_take]; omega
theorem Rm.u64 {A : Around} {k : Nat} (r : Rm A k) (h : 14 ≤ k) : A.units + 64 < cLine := by have := r.u; omega
theorem lay_ints (l : List Int) : PyData.canLay0 (.list (l.map PyData.int)) = true ∧ PyData.depth (.list (l.map PyData.int)) ≤ 1 :=
  lay_list (k := 0) fun d hd => by obtain ⟨n, _, rfl⟩ := List.mem_map.mp hd; exact lay_int n
theorem lay_two {k : Nat} {a b : PyData} (ha : a.canLay0 = true ∧ a.depth ≤ k) (hb : b.canLay0 = true ∧ b.depth ≤ k) : PyData.canLay0 (.list [a, b]) = true ∧ PyData.depth (.list [a, b]) ≤ k + 1 :=
  lay_list fun d hd => by
    rcases List.mem_cons.mp hd with rfl | hd
    · exact ha
    · rw [List.mem_singleton.mp hd]; exact hb
theorem lay_told (a b : Int) (r f : List Int) : PyData.canLay0 (.list [.list [.int a, .list (r.map PyData.int)], .list [.int b, .list (f.map PyData.int)]]) = true ∧ PyData.depth (.list [.list [.int a, .list (r.map PyData.int)], .list [.int b, .list (f.map PyData.int)]]) ≤ 64 := by
  have h0 : ∀ n : Int, (PyData.int n).canLay0 = true ∧ (PyData.int n).depth ≤ 1 := fun n => ⟨(lay_int n).1, Nat.le_trans (lay_int n).2 (by omega)⟩
  have h1 := lay_two (lay_two (h0 a) (lay_ints r)) (lay_two (h0 b) (lay_ints f))
  exact ⟨h1.1, Nat.le_trans h1.2 (by omega)⟩
theorem lay_pairs (ps : List (Int × Int)) : PyData.canLay0 (.list (ps.map fun q => .list [.int q.1, .int q.2])) = true ∧ PyData.depth (.list (ps.map fun q => .list [.int q.1, .int q.2])) ≤ 64 := by
  have h1 := lay_list (k := 1) (ds := ps.map fun q => .list [.int q.1, .int q.2]) fun d hd => by obtain ⟨q, _, rfl⟩ := List.mem_map.mp hd; exact lay_two (lay_int _) (lay_int _)
  exact ⟨h1.1, Nat.le_trans h1.2 (by omega)⟩
theorem reads_pairs {h : Heap} {a : Addr} {ps : List (Addr × Int × Int)} {n : Nat} {l : List (Int × Int)} (e : h.get? a = some (listO (refsOf ps) n)) (hp : ∀ q ∈ ps, PairAt h q) (hm : ps.map (·.2) = l) : ∃ as, Reads h (.ref a) (.list (l.map fun q => .list [.int q.1, .int q.2])) as := by
  obtain ⟨as, r⟩ := readsAll_pairs hp
  have e2 : (ps.map fun q => PyData.list [.int q.2.1, .int q.2.2]) = l.map fun q => .list [.int q.1, .int q.2] := by rw [← hm, List.map_map]; rfl
  rw [e2] at r
  exact ⟨_, reads_listO e r⟩
noncomputable def lawFd (w : World) : Option FuncData := match (hd.heap_39 w.params).lookup 176 with
  | some ⟨_, _, .func fd, _⟩ => some fd
  | _ => none
noncomputable def lawBody (w : World) : List Stmt := match lawFd w with
  | some fd => (match fd.body with | .stmts b => b | _ => [])
  | none => []
noncomputable def lawScope (w : World) : Scope := match lawFd w with
  | some fd => fd.scope
  | none => default
noncomputable def lawCode (w : World) : Value := match lawFd w with
  | some fd => fd.code
  | none => .none
theorem TS.mono {T T' : Nat} (h : T ≤ T') {vs : List Value} {ss : List Str} (x : TS T' vs ss) : TS T vs ss := by
  refine ex1 x ?_; (try clear x); intro l; refine and3 ?_; intro e1 e2 k
  exact ⟨l, e1, e2, fun p hp => TokOk.mono h (k p hp)⟩
theorem masks_ok : ∀ (rs : List Int) {lk : List (Int × Int)}, (∀ q ∈ lk, 0 ≤ q.2 ∧ q.2 < 6) → ∀ mk ∈ masksP rs lk, mk < 8192 ∧ mk % 128 = 0
  | [], _, _, mk, h => by cases h
  | r :: rs, lk, g, mk, h => by
    rcases List.mem_cons.mp h with rfl | h
    · exact mask_ok g
    · refine masks_ok rs (fun q hq => ?_) mk h
      have : q.2 ∈ places (rowNext lk r) := List.mem_map.mpr ⟨q, hq, rfl⟩
      have hZqq := List.mem_map.mp ((places_nodup_next r).mem_iff.mp this)
      refine ex1 hZqq ?_; (try clear hZqq); intro q'; refine and2 ?_; intro hq' e
      rw [← e]; exact g q' hq'
/-- the lists of words, as a ledger -/
noncomputable def ledW (tbl : List (Addr × List Value × Nat)) : Led := tbl.map fun q => (q.1, listO q.2.1 q.2.2)
theorem ledW_snoc (tbl : List (Addr × List Value × Nat)) (q : Addr × List Value × Nat) : ledW (tbl ++ [q]) = ledW tbl ++ [(q.1, listO q.2.1 q.2.2)] := by simp [ledW]
theorem filt_snoc {l : List Str} {p : Str → Bool} {j : Nat} {x : Str} (h : l[j]? = some x) : (l.take (j + 1)).filter p = (l.take j).filter p ++ (if p x = true then [x] else []) := by
  rw [List.take_add_one, h, List.filter_append]
  by_cases hp : p x = true
  · rw [if_pos hp]; simp [hp]
  · rw [if_neg hp]; simp [hp]
theorem TS.append {T : Nat} {vs ws : List Value} {ss ts : List Str} (x : TS T vs ss) (y : TS T ws ts) : TS T (vs ++ ws) (ss ++ ts) := by
  refine ex1 x ?_; (try clear x); intro l; refine and3 ?_; intro yZq11x1 yZq11x2 k
  obtain rfl := yZq11x1
  obtain rfl := yZq11x2
  refine ex1 y ?_; (try clear y); intro l2; refine and3 ?_; intro yZq12x1 yZq12x2 k2
  obtain rfl := yZq12x1
  obtain rfl := yZq12x2
  refine ⟨l ++ l2, by simp [strValues], by simp, fun p hp => ?_⟩
  rcases List.mem_append.mp hp with hp | hp
  · exact k p hp
  · exact k2 p hp
theorem TS.flat {T : Nat} : ∀ (tbl : List (Addr × List Value × Nat)) (mks : List Nat), tbl.length = mks.length → (∀ (j : Nat) (q : Addr × List Value × Nat) (mk : Nat), tbl[j]? = some q → mks[j]? = some mk → TS T q.2.1 (below mk 13)) → TS T (tbl.flatMap fun q => q.2.1) (mks.flatMap fun m => below m 13)
  | [], [], _, _ => TS.nil
  | [], _ :: _, h, _ => by simp at h
  | _ :: _, [], h, _ => by simp at h
  | q :: tbl, mk :: mks, h, k => by
    rw [List.flatMap_cons, List.flatMap_cons]
    exact TS.append (k 0 q mk rfl rfl) (TS.flat tbl mks (by simpa using h) fun j q' mk' h1 h2 => k (j + 1) q' mk' (by simpa using h1) (by simpa using h2))
-- needs C11 C15 C20 C21 C22 C23 C24 C25 C39
theorem masks_at {n : Nat} : ∀ (rs : List Int) {lk : List (Int × Int)} (i mk : Nat), (∀ q ∈ lk, 0 ≤ q.2 ∧ q.2 < n) → (places lk).Nodup → (masksP rs lk)[i]? = some mk →
    ∃ lk' r, mk = rowMask lk' r ∧ rs[i]? = some r ∧ (∀ q ∈ lk', 0 ≤ q.2 ∧ q.2 < n) ∧ (places lk').Nodup
  | [], _, i, mk, _, _, h => by simp [masksP] at h
  | r :: rs, lk, 0, mk, g, hn, h => by
    simp only [masksP, List.getElem?_cons_zero, Option.some.injEq] at h
    exact ⟨lk, r, h.symm, rfl, g, hn⟩
  | r :: rs, lk, i + 1, mk, g, hn, h => by
    simp only [masksP, List.getElem?_cons_succ] at h
    have hZqq := masks_at rs i mk (fun q hq => sums_lk (n := n) g q hq) (nodup_next r hn) h
    refine ex2 hZqq ?_; (try clear hZqq); intro lk' r'; refine and4 ?_; intro h1 h2 h3 h4
    exact ⟨lk', r', h1, by simpa using h2, h3, h4⟩
theorem fin_lay : ∀ k, k < 64 → ∀ x ∈ below (128 * k) 13, PyData.canLay0 (.str x) = true := by decide +kernel
theorem lay_words {mk : Nat} (h : mk < 8192) (h7 : mk % 128 = 0) : PyData.canLay0 (.list ((below mk 13).map PyData.str)) = true ∧ PyData.depth (.list ((below mk 13).map PyData.str)) ≤ 64 := by
  obtain ⟨k, rfl⟩ : ∃ k, mk = 128 * k := ⟨mk / 128, by omega⟩
  have := lay_list (k := 0) (ds := (below (128 * k) 13).map PyData.str) fun d hd => by
    have hZqq := List.mem_map.mp hd
    refine ex1 hZqq ?_; (try clear hZqq); intro x; refine and2 ?_; intro hx yZq1x2
    obtain rfl := yZq1x2
    exact lay_str (fin_lay k (by omega) x hx)
  exact ⟨this.1, Nat.le_trans this.2 (by omega)⟩
/-- one row's words: the names that are there, as many as it wishes for at most -/
theorem row_facts {rs fs : List Int} (hf6 : fs.length ≤ 6) (hr : ∀ r ∈ rs, 0 ≤ r) (hf : ∀ x ∈ fs, 0 ≤ x) {i mk : Nat} (h : (masksP rs (laidP fs))[i]? = some mk) :
    ∃ r, rs[i]? = some r ∧ ((below mk 13).length : Int) ≤ r ∧ (sixNames.take fs.length).filter (fun y => decide (y ∈ below mk 13)) = below mk 13 := by
  have hZqq := laid_ok hf6 hf
  refine andI hZqq ?_; (try clear hZqq); refine and4 ?_; intro h1 h2 h3 h4
  have hZqq := masks_at (n := fs.length) rs i mk h3 h4 h
  refine ex2 hZqq ?_; (try clear hZqq); intro lk' r; refine and4 ?_; intro yZq3x2 hri g hn
  obtain rfl := yZq3x2
  refine ⟨r, hri, row_le (hr r (List.mem_of_getElem? hri)) (fun q hq => ?_) hn, words_names hf6 g⟩
  have := g q hq
  omega
theorem sum_cast {α : Type} (f : α → Nat) : ∀ l : List α, (l.map fun y => ((f y : Nat) : Int)).sum = (((l.map f).sum : Nat) : Int)
  | [] => rfl
  | x :: r => by simp only [List.map_cons, List.sum_cons, sum_cast f r]; omega
theorem names_sum {rs fs : List Int} (hf6 : fs.length ≤ 6) (hf : ∀ x ∈ fs, 0 ≤ x) : ((sixNames.take fs.length).map fun y => (((wornL rs (laidP fs)).count y : Nat) : Int)).sum = ((wornL rs (laidP fs)).length : Int) := by
  have hZqq := laid_ok hf6 hf
  refine andI hZqq ?_; (try clear hZqq); refine and4 ?_; intro h1 h2 h3 h4
  rw [sum_cast, sum_counts]
  · exact List.Nodup.sublist (List.take_sublist _ _) (by decide +kernel)
  · exact worn_mem rs (laidP fs) hf6 h3
theorem worn_least {rs fs : List Int} (hf6 : fs.length ≤ 6) (hr : ∀ x ∈ rs, 0 ≤ x) (hf : ∀ x ∈ fs, 0 ≤ x) {M : Int} (h1 : ∃ a, a ≤ rs.length ∧ M = bnd rs fs a) (h2 : ∀ a, a ≤ rs.length → M ≤ bnd rs fs a) : ((wornL rs (laidP fs)).length : Int) = M := by
  have hZqq := laid_ok hf6 hf
  refine andI hZqq ?_; (try clear hZqq); refine and4 ?_; intro g1 g2 g3 g4
  rw [worn_length rs (laidP fs) (fun q hq => by have := g3 q hq; omega) g4]
  exact served_least hr hf h1 h2
-- needs C3 C4 C6 C9 C11 C14 C15 C17 C18 C19 C20 C21 C22 C23 C24 C25 C26 C27 C28 C29 C30 C39 C40 C41 C43
theorem law_tail2 {prog : Program} {w : World} {A : Around} {s : Shared} {Q : Flow → Shared → Prop} {g0 : Heap} {L fa f1 ra r1 wl Dn : Addr} {m : Str → Option Value} {oW : Obj} {vf vr wv : List Value} {fs rs : List Int} {a b : Int} {ta tb : Tok} {na nb nf nr wn T6 : Nat} {nm : List (Str × Tok)}
    (G : Gd w g0) (R : Rm A 19) (hB : NoneBooked g0) (F : Fr g0 L s.heap m) (em : Has m [(Str.ofString "names", .ref Dn), (Str.ofString "flags", .ref fa), (Str.ofString "rows", .ref ra)])
    (N : News g0 L s.heap [(L + 1 + 1, oW), (wl, listO wv wn), (Dn, listO (strValues nm) 0), (f1, listO vf nf), (fa, listO [.int b tb, .ref f1] nb), (r1, listO vr nr), (ra, listO [.int a ta, .ref r1] na)])
    (dW : oW.data = .cell (some (.ref wl))) (hts : TS T6 wv (wornL rs (laidP fs))) (hnm1 : nm.map (·.1) = sixNames.take fs.length) (hnm2 : ∀ p ∈ nm, 252 ≤ p.2 ∧ p.2 < T6)
    (ir : IntsAre vr rs) (jf : IntsAre vf fs) (hr5 : rs.length ≤ 5) (hf6 : fs.length ≤ 6) (hrr : ∀ x ∈ rs, 0 ≤ x ∧ x < 262144) (hfr : ∀ x ∈ fs, 0 ≤ x ∧ x < 262144) (hwl : wv.length ≤ 65)
    (hQ : ∀ h' tk', (∀ b o, g0.get? b = some o → h'.get? b = some o) → Q (.ret (.bool true)) { s with heap := h', toks := tk' }) :
    wpAny (model prog w) A (execs ((lawBody w).drop 11) (envOfC (Str.ofString "law") (lawScope w) L 176 (lawCode w))) Q (fun _ _ => False) s := by
  (((have kkZq : PySem.Challenge.rw_wu0059_01 = PySem.Challenge.rw_wu0059_01 ∧ Mine.hd.heap_39 = Mine.hd.heap_39 := ⟨rfl, rfl⟩); revert kkZq; k_fill; intro kkZq; clear kkZq; w_on))
  (((rename Rm _ _ => rrZq); (rename Around => aaZq); (have e0Zq := Rm.h rrZq); rcases aaZq with ⟨hhZq, d1Zq, d2Zq, d3Zq, d4Zq⟩; dsimp only at e0Zq; subst e0Zq))
  have R := ‹Rm _ 19›
  show wpAny _ _ (execs (_ :: _ :: _ :: _ :: []) (envOfC _ ⟨_, _, _, _, _⟩ L 176 (.ref _))) _ _ _
  have hZqq := G.T
  refine ex5 hZqq ?_; (try clear hZqq); intro pp l mz mg mb; intro T
  have X := G.X
  have hTz : TLe s.toks s.toks := Nat.le_refl _
  replace F := fr_has F em
  have lW : wv.length = (wornL rs (laidP fs)).length := by have := hts.strs.length; omega
  have nml : nm.length = fs.length := by have := congrArg List.length hnm1; simp [sixNames] at this; omega
  (repeat' ((fail_if_success (with_reducible show wpAny _ _ (exec (PySem.Stmt.Assign _ (PySem.Expr.ListComp _ _ _ _) _) _) _ _ _)); (fail_if_success (with_reducible show wpAny _ _ (eval (PySem.Expr.ListComp _ _ _ _) _) _ _ _)); (fail_if_success (with_reducible show LCg.CompSrc _ _ _ _ _ _ _ _ _ _ _ _ _ _)); (fail_if_success (with_reducible show LCg.CompEnd _ _ _ _ _ _ _ _ _ _ _ _ _ _)); (fail_if_success (with_reducible show CompT _ _ _ _ _ _ _ _ _ _ _ _ _ _)); (fail_if_success (with_reducible show wpAny _ _ (subscriptTail _ (PySem.Expr.Slice _ _ _ _) _ _) _ _ _)); (fail_if_success (with_reducible show wpAny _ _ (compareOp CmpOp.NotEq (Value.ref _) (Value.ref _)) _ _ _)); (first | ((with_reducible show TLe _ _ → _); intro hTzZq; (try dsimp only at hTzZq); (try dsimp only)) | ((with_reducible show wpAny _ _ (execs (_ :: _) _) _ _ _); (with_reducible refine execs_consT ‹TLe _ _› (by first | exact Nat.le_refl _ | exact Nat.le_add_right _ _ | omega) ?_); (try dsimp only)) | ((with_reducible show wpAny _ _ (execs [] _) _ _ _); (with_reducible refine wpAny_execs_nil ?_); (try dsimp only)) | (first | (k_unfold; (try dsimp only)) | ( (fail_if_success (with_reducible show wpAny _ _ (exec (Stmt.While _ _ _ _) _) _ _ _)); (fail_if_success (with_reducible show wpAny _ _ (exec (Stmt.For _ _ _ _ _) _) _ _ _)); (fail_if_success (with_reducible show wpAny _ _ (exec (Stmt.Try _ _ _ _ _) _) _ _ _)); (fail_if_success (with_reducible show wpAny _ _ (pyIter _) (fun it s₂ => Loop _ _ _ _ _ _ _ _ _ _ it s₂) _ _)); (fail_if_success (with_reducible show wpAny _ _ (call (Value.ref _) _ _) _ _ _)); walk1; (try ((first | (with_reducible show wpAny _ _ (spliced _) _ _ _) | (with_reducible show wpAny _ _ (newList _) _ _ _) | (with_reducible show wpAny _ _ (execs _ _) _ _ _)); dsimp only)))))))
  refine r_compA (L := L) (h₀ := g0) rfl (by first | rfl | with_unfolding_all rfl) (by with_unfolding_all rfl) (by decide) (by rfl) (by decide) (by rfl) (by rfl) (by rfl) ?_
  (repeat' ((fail_if_success (with_reducible show wpAny _ _ (exec (PySem.Stmt.Assign _ (PySem.Expr.ListComp _ _ _ _) _) _) _ _ _)); (fail_if_success (with_reducible show wpAny _ _ (eval (PySem.Expr.ListComp _ _ _ _) _) _ _ _)); (fail_if_success (with_reducible show LCg.CompSrc _ _ _ _ _ _ _ _ _ _ _ _ _ _)); (fail_if_success (with_reducible show LCg.CompEnd _ _ _ _ _ _ _ _ _ _ _ _ _ _)); (fail_if_success (with_reducible show CompT _ _ _ _ _ _ _ _ _ _ _ _ _ _)); (fail_if_success (with_reducible show wpAny _ _ (subscriptTail _ (PySem.Expr.Slice _ _ _ _) _ _) _ _ _)); (fail_if_success (with_reducible show wpAny _ _ (compareOp CmpOp.NotEq (Value.ref _) (Value.ref _)) _ _ _)); (first | ((with_reducible show TLe _ _ → _); intro hTzZq; (try dsimp only at hTzZq); (try dsimp only)) | ((with_reducible show wpAny _ _ (execs (_ :: _) _) _ _ _); (with_reducible refine execs_consT ‹TLe _ _› (by first | exact Nat.le_refl _ | exact Nat.le_add_right _ _ | omega) ?_); (try dsimp only)) | ((with_reducible show wpAny _ _ (execs [] _) _ _ _); (with_reducible refine wpAny_execs_nil ?_); (try dsimp only)) | (first | (k_unfold; (try dsimp only)) | ( (fail_if_success (with_reducible show wpAny _ _ (exec (Stmt.While _ _ _ _) _) _ _ _)); (fail_if_success (with_reducible show wpAny _ _ (exec (Stmt.For _ _ _ _ _) _) _ _ _)); (fail_if_success (with_reducible show wpAny _ _ (exec (Stmt.Try _ _ _ _ _) _) _ _ _)); (fail_if_success (with_reducible show wpAny _ _ (pyIter _) (fun it s₂ => Loop _ _ _ _ _ _ _ _ _ _ it s₂) _ _)); (fail_if_success (with_reducible show wpAny _ _ (call (Value.ref _) _ _) _ _ _)); walk1; (try ((first | (with_reducible show wpAny _ _ (spliced _) _ _ _) | (with_reducible show wpAny _ _ (newList _) _ _ _) | (with_reducible show wpAny _ _ (execs _ _) _ _ _)); dsimp only)))))))
  refine ⟨Dn, strValues nm, 0, _, _, fun j ys nw => IntsAre ys (((sixNames.take fs.length).take j).map fun y => (((wornL rs (laidP fs)).count y : Nat) : Int)) ∧ nw = _, rfl, rfl, F, N, by unfold strValues; rw [List.length_map]; omega, ⟨.nil, rfl⟩, fun j ys nw h => by obtain ⟨_, rfl⟩ := h; exact nth 2, ?_, ?_⟩
  · clear F N
    rintro j v ys nw I2 oI2 C oC D2 m₂ h3 tk3 hv ⟨hys, rfl⟩ htk3 nC hx F N off ne
    have hZqq : ∃ p, nm[j]? = some p ∧ v = .str p.1 p.2 := by
      unfold strValues at hv
      rw [List.getElem?_map] at hv
      cases z : nm[j]? with
      | none => rw [z] at hv; cases hv
      | some p => rw [z] at hv; exact ⟨p, rfl, by simpa using hv.symm⟩
    refine ex1 hZqq ?_; (try clear hZqq); intro p; refine and2 ?_; intro hp yZq1x2
    obtain rfl := yZq1x2
    have hsn : (sixNames.take fs.length)[j]? = some p.1 := by rw [← hnm1, List.getElem?_map, hp]; rfl
    obtain ⟨hp1, hp2⟩ := hnm2 p (List.mem_of_getElem? hp)
    have cE' := InElt.start h3
    refine wpAny_tests_nil ?_
    rw [if_pos rfl]
    (repeat' ((fail_if_success (with_reducible show wpAny _ _ (exec (PySem.Stmt.Assign _ (PySem.Expr.ListComp _ _ _ _) _) _) _ _ _)); (fail_if_success (with_reducible show wpAny _ _ (eval (PySem.Expr.ListComp _ _ _ _) _) _ _ _)); (fail_if_success (with_reducible show LCg.CompSrc _ _ _ _ _ _ _ _ _ _ _ _ _ _)); (fail_if_success (with_reducible show LCg.CompEnd _ _ _ _ _ _ _ _ _ _ _ _ _ _)); (fail_if_success (with_reducible show CompT _ _ _ _ _ _ _ _ _ _ _ _ _ _)); (fail_if_success (with_reducible show wpAny _ _ (subscriptTail _ (PySem.Expr.Slice _ _ _ _) _ _) _ _ _)); (fail_if_success (with_reducible show wpAny _ _ (compareOp CmpOp.NotEq (Value.ref _) (Value.ref _)) _ _ _)); (first | ((with_reducible show TLe _ _ → _); intro hTzZq; (try dsimp only at hTzZq); (try dsimp only)) | ((with_reducible show wpAny _ _ (execs (_ :: _) _) _ _ _); (with_reducible refine execs_consT ‹TLe _ _› (by first | exact Nat.le_refl _ | exact Nat.le_add_right _ _ | omega) ?_); (try dsimp only)) | ((with_reducible show wpAny _ _ (execs [] _) _ _ _); (with_reducible refine wpAny_execs_nil ?_); (try dsimp only)) | (first | (k_unfold; (try dsimp only)) | ( (fail_if_success (with_reducible show wpAny _ _ (exec (Stmt.While _ _ _ _) _) _ _ _)); (fail_if_success (with_reducible show wpAny _ _ (exec (Stmt.For _ _ _ _ _) _) _ _ _)); (fail_if_success (with_reducible show wpAny _ _ (exec (Stmt.Try _ _ _ _ _) _) _ _ _)); (fail_if_success (with_reducible show wpAny _ _ (pyIter _) (fun it s₂ => Loop _ _ _ _ _ _ _ _ _ _ it s₂) _ _)); (fail_if_success (with_reducible show wpAny _ _ (call (Value.ref _) _ _) _ _ _)); walk1; (try ((first | (with_reducible show wpAny _ _ (spliced _) _ _ _) | (with_reducible show wpAny _ _ (newList _) _ _ _) | (with_reducible show wpAny _ _ (execs _ _) _ _ _)); dsimp only)))))))
    refine sp_count (G.keeps F.keep) (R.le (by omega)) (N.get (nth 4)) hts.strs (by omega) ?_ ?_ ?_ ?_
    · refine ex1 hB ?_; (try clear hB); intro mc; refine and2 ?_; intro hn he
      exact ⟨mc, hn.at' fun o e => F.keep _ _ e, he⟩
    · exact fun z => by rw [z] at hp1; exact absurd hp1 (by decide)
    · intro i y u hu
      refine ex1 hts ?_; (try clear hts); intro lz; refine and3 ?_; intro yZq3x1 e2 kz
      obtain rfl := yZq3x1
      have hZqq : ∃ p', lz[i]? = some p' ∧ Value.str y u = .str p'.1 p'.2 := by
        unfold strValues at hu
        rw [List.getElem?_map] at hu
        cases z : lz[i]? with
        | none => rw [z] at hu; cases hu
        | some p => rw [z] at hu; exact ⟨p, rfl, by simpa using hu.symm⟩
      refine ex1 hZqq ?_; (try clear hZqq); intro p'; refine and2 ?_; intro hp' e
      cases e
      obtain ⟨k0, k1⟩ := kz p' (List.mem_of_getElem? hp')
      refine ⟨k0, fun e => ?_⟩
      rcases k1 with k1 | k1
      · exact absurd hp1 (Nat.not_le.mpr (e ▸ k1))
      · exact absurd hp2 (Nat.not_lt.mpr (e ▸ k1))
    · rintro v h' tk' kb ⟨t', rfl⟩
      refine ⟨h', tk', _, rfl, fr_kb0 F kb, news_kb0 N kb, off, trivial, ?_, rfl⟩
      rw [List.take_add_one, hsn, List.map_append]
      exact ints_snoc hys
  · clear F N
    rintro ys nw D h tk ⟨hys, rfl⟩ htk F0 N0 hD h' tk' F N
    clear F0 N0
    have slen : (sixNames.take fs.length).length = fs.length := by rw [← hnm1, List.length_map, nml]
    rw [List.take_of_length_le (by simp [strValues]; omega)] at hys
    have ysl : ys.length = fs.length := by have := hys.length; rw [List.length_map, slen] at this; exact this
    (repeat' ((fail_if_success (with_reducible show wpAny _ _ (exec (PySem.Stmt.Assign _ (PySem.Expr.ListComp _ _ _ _) _) _) _ _ _)); (fail_if_success (with_reducible show wpAny _ _ (eval (PySem.Expr.ListComp _ _ _ _) _) _ _ _)); (fail_if_success (with_reducible show LCg.CompSrc _ _ _ _ _ _ _ _ _ _ _ _ _ _)); (fail_if_success (with_reducible show LCg.CompEnd _ _ _ _ _ _ _ _ _ _ _ _ _ _)); (fail_if_success (with_reducible show CompT _ _ _ _ _ _ _ _ _ _ _ _ _ _)); (fail_if_success (with_reducible show wpAny _ _ (subscriptTail _ (PySem.Expr.Slice _ _ _ _) _ _) _ _ _)); (fail_if_success (with_reducible show wpAny _ _ (compareOp CmpOp.NotEq (Value.ref _) (Value.ref _)) _ _ _)); (first | ((with_reducible show TLe _ _ → _); intro hTzZq; (try dsimp only at hTzZq); (try dsimp only)) | ((with_reducible show wpAny _ _ (execs (_ :: _) _) _ _ _); (with_reducible refine execs_consT ‹TLe _ _› (by first | exact Nat.le_refl _ | exact Nat.le_add_right _ _ | omega) ?_); (try dsimp only)) | ((with_reducible show wpAny _ _ (execs [] _) _ _ _); (with_reducible refine wpAny_execs_nil ?_); (try dsimp only)) | (first | (k_unfold; (try dsimp only)) | ( (fail_if_success (with_reducible show wpAny _ _ (exec (Stmt.While _ _ _ _) _) _ _ _)); (fail_if_success (with_reducible show wpAny _ _ (exec (Stmt.For _ _ _ _ _) _) _ _ _)); (fail_if_success (with_reducible show wpAny _ _ (exec (Stmt.Try _ _ _ _ _) _) _ _ _)); (fail_if_success (with_reducible show wpAny _ _ (pyIter _) (fun it s₂ => Loop _ _ _ _ _ _ _ _ _ _ it s₂) _ _)); (fail_if_success (with_reducible show wpAny _ _ (call (Value.ref _) _ _) _ _ _)); walk1; (try ((first | (with_reducible show wpAny _ _ (spliced _) _ _ _) | (with_reducible show wpAny _ _ (newList _) _ _ _) | (with_reducible show wpAny _ _ (execs _ _) _ _ _)); dsimp only)))))))
    refine r_for g0 L ?_
    (repeat' ((fail_if_success (with_reducible show wpAny _ _ (exec (PySem.Stmt.Assign _ (PySem.Expr.ListComp _ _ _ _) _) _) _ _ _)); (fail_if_success (with_reducible show wpAny _ _ (eval (PySem.Expr.ListComp _ _ _ _) _) _ _ _)); (fail_if_success (with_reducible show LCg.CompSrc _ _ _ _ _ _ _ _ _ _ _ _ _ _)); (fail_if_success (with_reducible show LCg.CompEnd _ _ _ _ _ _ _ _ _ _ _ _ _ _)); (fail_if_success (with_reducible show CompT _ _ _ _ _ _ _ _ _ _ _ _ _ _)); (fail_if_success (with_reducible show wpAny _ _ (subscriptTail _ (PySem.Expr.Slice _ _ _ _) _ _) _ _ _)); (fail_if_success (with_reducible show wpAny _ _ (compareOp CmpOp.NotEq (Value.ref _) (Value.ref _)) _ _ _)); (first | ((with_reducible show TLe _ _ → _); intro hTzZq; (try dsimp only at hTzZq); (try dsimp only)) | ((with_reducible show wpAny _ _ (execs (_ :: _) _) _ _ _); (with_reducible refine execs_consT ‹TLe _ _› (by first | exact Nat.le_refl _ | exact Nat.le_add_right _ _ | omega) ?_); (try dsimp only)) | ((with_reducible show wpAny _ _ (execs [] _) _ _ _); (with_reducible refine wpAny_execs_nil ?_); (try dsimp only)) | (first | (k_unfold; (try dsimp only)) | ( (fail_if_success (with_reducible show wpAny _ _ (exec (Stmt.While _ _ _ _) _) _ _ _)); (fail_if_success (with_reducible show wpAny _ _ (exec (Stmt.For _ _ _ _ _) _) _ _ _)); (fail_if_success (with_reducible show wpAny _ _ (exec (Stmt.Try _ _ _ _ _) _) _ _ _)); (fail_if_success (with_reducible show wpAny _ _ (pyIter _) (fun it s₂ => Loop _ _ _ _ _ _ _ _ _ _ it s₂) _ _)); (fail_if_success (with_reducible show wpAny _ _ (call (Value.ref _) _ _) _ _ _)); walk1; (try ((first | (with_reducible show wpAny _ _ (spliced _) _ _ _) | (with_reducible show wpAny _ _ (newList _) _ _ _) | (with_reducible show wpAny _ _ (execs _ _) _ _ _)); dsimp only)))))))
    rename IsRange _ _ _ _ _ _ _ _ => Ir
    rename Fr _ _ _ _ => F10
    rename News _ _ _ _ => N10
    refine loop_range (n := fs.length) (fun i m' nw => Has m' [(Str.ofString "counts", .ref D), (Str.ofString "names", .ref Dn), (Str.ofString "flags", .ref fa), (Str.ofString "rows", .ref ra)] ∧ nw = [(D, listO ys ys.length), (L + 1 + 1, oW), (wl, listO wv wn), (Dn, listO (strValues nm) 0), (f1, listO vf nf), (fa, listO [.int b tb, .ref f1] nb), (r1, listO vr nr), (ra, listO [.int a ta, .ref r1] na)])
      rfl F10 N10 Ir (by omega) (by omega) ⟨⟨rfl, rfl, rfl, rfl, trivial⟩, rfl⟩ ?_ ?_
    · clear F10 N10 Ir
      rintro i ti m₁ news₁ I oI h tk hi ⟨em1, rfl⟩ hnI F N
      replace F := fr_has F em1
      refine wpAny_assign_Name ?_
      (repeat' ((fail_if_success (with_reducible show wpAny _ _ (exec (PySem.Stmt.Assign _ (PySem.Expr.ListComp _ _ _ _) _) _) _ _ _)); (fail_if_success (with_reducible show wpAny _ _ (eval (PySem.Expr.ListComp _ _ _ _) _) _ _ _)); (fail_if_success (with_reducible show LCg.CompSrc _ _ _ _ _ _ _ _ _ _ _ _ _ _)); (fail_if_success (with_reducible show LCg.CompEnd _ _ _ _ _ _ _ _ _ _ _ _ _ _)); (fail_if_success (with_reducible show CompT _ _ _ _ _ _ _ _ _ _ _ _ _ _)); (fail_if_success (with_reducible show wpAny _ _ (subscriptTail _ (PySem.Expr.Slice _ _ _ _) _ _) _ _ _)); (fail_if_success (with_reducible show wpAny _ _ (compareOp CmpOp.NotEq (Value.ref _) (Value.ref _)) _ _ _)); (first | ((with_reducible show TLe _ _ → _); intro hTzZq; (try dsimp only at hTzZq); (try dsimp only)) | ((with_reducible show wpAny _ _ (execs (_ :: _) _) _ _ _); (with_reducible refine execs_consT ‹TLe _ _› (by first | exact Nat.le_refl _ | exact Nat.le_add_right _ _ | omega) ?_); (try dsimp only)) | ((with_reducible show wpAny _ _ (execs [] _) _ _ _); (with_reducible refine wpAny_execs_nil ?_); (try dsimp only)) | (first | (k_unfold; (try dsimp only)) | ( (fail_if_success (with_reducible show wpAny _ _ (exec (Stmt.While _ _ _ _) _) _ _ _)); (fail_if_success (with_reducible show wpAny _ _ (exec (Stmt.For _ _ _ _ _) _) _ _ _)); (fail_if_success (with_reducible show wpAny _ _ (exec (Stmt.Try _ _ _ _ _) _) _ _ _)); (fail_if_success (with_reducible show wpAny _ _ (pyIter _) (fun it s₂ => Loop _ _ _ _ _ _ _ _ _ _ it s₂) _ _)); (fail_if_success (with_reducible show wpAny _ _ (call (Value.ref _) _ _) _ _ _)); walk1; (try ((first | (with_reducible show wpAny _ _ (spliced _) _ _ _) | (with_reducible show wpAny _ _ (newList _) _ _ _) | (with_reducible show wpAny _ _ (execs _ _) _ _ _)); dsimp only)))))))
      · rename fs.getD _ 0 < _ => hlt
        exfalso
        have h1 := name_count (rs := rs) hf6 (fun x hx => (hfr x hx).1) i hi
        have h2 : (sixNames.take fs.length)[i]? = some (wordAt (7 + i)) := by rw [List.getElem?_take, if_pos hi]; exact six_at i (by omega)
        simp only [Int.toNat_natCast, List.getD, List.getElem?_map, h2, List.getElem?_eq_getElem hi, Option.map_some, Option.getD_some] at hlt
        omega
      · exact ⟨_, _, _, _, rfl, ‹Fr _ _ _ _›, ‹News _ _ _ _›, hnI, ⟨rfl, rfl, rfl, rfl, trivial⟩, rfl⟩
    · clear F10 N10 Ir
      rintro h tk m₁ news₁ ⟨em1, rfl⟩ F N
      replace F := fr_has F em1
      (repeat' ((fail_if_success (with_reducible show wpAny _ _ (exec (PySem.Stmt.Assign _ (PySem.Expr.ListComp _ _ _ _) _) _) _ _ _)); (fail_if_success (with_reducible show wpAny _ _ (eval (PySem.Expr.ListComp _ _ _ _) _) _ _ _)); (fail_if_success (with_reducible show LCg.CompSrc _ _ _ _ _ _ _ _ _ _ _ _ _ _)); (fail_if_success (with_reducible show LCg.CompEnd _ _ _ _ _ _ _ _ _ _ _ _ _ _)); (fail_if_success (with_reducible show CompT _ _ _ _ _ _ _ _ _ _ _ _ _ _)); (fail_if_success (with_reducible show wpAny _ _ (subscriptTail _ (PySem.Expr.Slice _ _ _ _) _ _) _ _ _)); (fail_if_success (with_reducible show wpAny _ _ (compareOp CmpOp.NotEq (Value.ref _) (Value.ref _)) _ _ _)); (first | ((with_reducible show TLe _ _ → _); intro hTzZq; (try dsimp only at hTzZq); (try dsimp only)) | ((with_reducible show wpAny _ _ (execs (_ :: _) _) _ _ _); (with_reducible refine execs_consT ‹TLe _ _› (by first | exact Nat.le_refl _ | exact Nat.le_add_right _ _ | omega) ?_); (try dsimp only)) | ((with_reducible show wpAny _ _ (execs [] _) _ _ _); (with_reducible refine wpAny_execs_nil ?_); (try dsimp only)) | (first | (k_unfold; (try dsimp only)) | ( (fail_if_success (with_reducible show wpAny _ _ (exec (Stmt.While _ _ _ _) _) _ _ _)); (fail_if_success (with_reducible show wpAny _ _ (exec (Stmt.For _ _ _ _ _) _) _ _ _)); (fail_if_success (with_reducible show wpAny _ _ (exec (Stmt.Try _ _ _ _ _) _) _ _ _)); (fail_if_success (with_reducible show wpAny _ _ (pyIter _) (fun it s₂ => Loop _ _ _ _ _ _ _ _ _ _ it s₂) _ _)); (fail_if_success (with_reducible show wpAny _ _ (call (Value.ref _) _ _) _ _ _)); walk1; (try ((first | (with_reducible show wpAny _ _ (spliced _) _ _ _) | (with_reducible show wpAny _ _ (newList _) _ _ _) | (with_reducible show wpAny _ _ (execs _ _) _ _ _)); dsimp only)))))))
      rename Fr _ _ _ _ => F11
      rename News _ _ _ _ => N11
      refine r_len N11 (nth 2) (by omega) ?_
      intro t12 tk12
      (repeat' ((fail_if_success (with_reducible show wpAny _ _ (exec (PySem.Stmt.Assign _ (PySem.Expr.ListComp _ _ _ _) _) _) _ _ _)); (fail_if_success (with_reducible show wpAny _ _ (eval (PySem.Expr.ListComp _ _ _ _) _) _ _ _)); (fail_if_success (with_reducible show LCg.CompSrc _ _ _ _ _ _ _ _ _ _ _ _ _ _)); (fail_if_success (with_reducible show LCg.CompEnd _ _ _ _ _ _ _ _ _ _ _ _ _ _)); (fail_if_success (with_reducible show CompT _ _ _ _ _ _ _ _ _ _ _ _ _ _)); (fail_if_success (with_reducible show wpAny _ _ (subscriptTail _ (PySem.Expr.Slice _ _ _ _) _ _) _ _ _)); (fail_if_success (with_reducible show wpAny _ _ (compareOp CmpOp.NotEq (Value.ref _) (Value.ref _)) _ _ _)); (first | ((with_reducible show TLe _ _ → _); intro hTzZq; (try dsimp only at hTzZq); (try dsimp only)) | ((with_reducible show wpAny _ _ (execs (_ :: _) _) _ _ _); (with_reducible refine execs_consT ‹TLe _ _› (by first | exact Nat.le_refl _ | exact Nat.le_add_right _ _ | omega) ?_); (try dsimp only)) | ((with_reducible show wpAny _ _ (execs [] _) _ _ _); (with_reducible refine wpAny_execs_nil ?_); (try dsimp only)) | (first | (k_unfold; (try dsimp only)) | ( (fail_if_success (with_reducible show wpAny _ _ (exec (Stmt.While _ _ _ _) _) _ _ _)); (fail_if_success (with_reducible show wpAny _ _ (exec (Stmt.For _ _ _ _ _) _) _ _ _)); (fail_if_success (with_reducible show wpAny _ _ (exec (Stmt.Try _ _ _ _ _) _) _ _ _)); (fail_if_success (with_reducible show wpAny _ _ (pyIter _) (fun it s₂ => Loop _ _ _ _ _ _ _ _ _ _ it s₂) _ _)); (fail_if_success (with_reducible show wpAny _ _ (call (Value.ref _) _ _) _ _ _)); walk1; (try ((first | (with_reducible show wpAny _ _ (spliced _) _ _ _) | (with_reducible show wpAny _ _ (newList _) _ _ _) | (with_reducible show wpAny _ _ (execs _ _) _ _ _)); dsimp only)))))))
      · rename _ ≠ ((wv.length : Nat) : Int) => hne
        exfalso
        rw [names_sum hf6 (fun x hx => (hfr x hx).1), lW] at hne
        exact hne rfl
      refine r_len N11 (nth 2) (by omega) ?_
      intro t13 tk13
      (repeat' ((fail_if_success (with_reducible show wpAny _ _ (exec (PySem.Stmt.Assign _ (PySem.Expr.ListComp _ _ _ _) _) _) _ _ _)); (fail_if_success (with_reducible show wpAny _ _ (eval (PySem.Expr.ListComp _ _ _ _) _) _ _ _)); (fail_if_success (with_reducible show LCg.CompSrc _ _ _ _ _ _ _ _ _ _ _ _ _ _)); (fail_if_success (with_reducible show LCg.CompEnd _ _ _ _ _ _ _ _ _ _ _ _ _ _)); (fail_if_success (with_reducible show CompT _ _ _ _ _ _ _ _ _ _ _ _ _ _)); (fail_if_success (with_reducible show wpAny _ _ (subscriptTail _ (PySem.Expr.Slice _ _ _ _) _ _) _ _ _)); (fail_if_success (with_reducible show wpAny _ _ (compareOp CmpOp.NotEq (Value.ref _) (Value.ref _)) _ _ _)); (first | ((with_reducible show TLe _ _ → _); intro hTzZq; (try dsimp only at hTzZq); (try dsimp only)) | ((with_reducible show wpAny _ _ (execs (_ :: _) _) _ _ _); (with_reducible refine execs_consT ‹TLe _ _› (by first | exact Nat.le_refl _ | exact Nat.le_add_right _ _ | omega) ?_); (try dsimp only)) | ((with_reducible show wpAny _ _ (execs [] _) _ _ _); (with_reducible refine wpAny_execs_nil ?_); (try dsimp only)) | (first | (k_unfold; (try dsimp only)) | ( (fail_if_success (with_reducible show wpAny _ _ (exec (Stmt.While _ _ _ _) _) _ _ _)); (fail_if_success (with_reducible show wpAny _ _ (exec (Stmt.For _ _ _ _ _) _) _ _ _)); (fail_if_success (with_reducible show wpAny _ _ (exec (Stmt.Try _ _ _ _ _) _) _ _ _)); (fail_if_success (with_reducible show wpAny _ _ (pyIter _) (fun it s₂ => Loop _ _ _ _ _ _ _ _ _ _ it s₂) _ _)); (fail_if_success (with_reducible show wpAny _ _ (call (Value.ref _) _ _) _ _ _)); walk1; (try ((first | (with_reducible show wpAny _ _ (spliced _) _ _ _) | (with_reducible show wpAny _ _ (newList _) _ _ _) | (with_reducible show wpAny _ _ (execs _ _) _ _ _)); dsimp only)))))))
      refine sp_least (G.keeps F11.keep) (R.le (by omega)) (N11.get (nth 6)) ir (N11.get (nth 4)) jf (by omega) hf6 (fun x hx => ⟨(hrr x hx).1, by have := (hrr x hx).2; omega⟩) (fun x hx => ⟨(hfr x hx).1, by have := (hfr x hx).2; omega⟩) ?_
      intro v h' tk' kb xZq1
      refine ex2 xZq1 ?_; (try clear xZq1); intro M tM; refine and3 ?_; intro yZq5x2 hM1 hM2
      obtain rfl := yZq5x2
      have hM := worn_least (rs := rs) hf6 (fun x hx => (hrr x hx).1) (fun x hx => (hfr x hx).1) hM1 hM2
      have F14 := fr_kb0 F11 kb
      have N14 := news_kb0 N11 kb
      (repeat' ((fail_if_success (with_reducible show wpAny _ _ (exec (PySem.Stmt.Assign _ (PySem.Expr.ListComp _ _ _ _) _) _) _ _ _)); (fail_if_success (with_reducible show wpAny _ _ (eval (PySem.Expr.ListComp _ _ _ _) _) _ _ _)); (fail_if_success (with_reducible show LCg.CompSrc _ _ _ _ _ _ _ _ _ _ _ _ _ _)); (fail_if_success (with_reducible show LCg.CompEnd _ _ _ _ _ _ _ _ _ _ _ _ _ _)); (fail_if_success (with_reducible show CompT _ _ _ _ _ _ _ _ _ _ _ _ _ _)); (fail_if_success (with_reducible show wpAny _ _ (subscriptTail _ (PySem.Expr.Slice _ _ _ _) _ _) _ _ _)); (fail_if_success (with_reducible show wpAny _ _ (compareOp CmpOp.NotEq (Value.ref _) (Value.ref _)) _ _ _)); (first | ((with_reducible show TLe _ _ → _); intro hTzZq; (try dsimp only at hTzZq); (try dsimp only)) | ((with_reducible show wpAny _ _ (execs (_ :: _) _) _ _ _); (with_reducible refine execs_consT ‹TLe _ _› (by first | exact Nat.le_refl _ | exact Nat.le_add_right _ _ | omega) ?_); (try dsimp only)) | ((with_reducible show wpAny _ _ (execs [] _) _ _ _); (with_reducible refine wpAny_execs_nil ?_); (try dsimp only)) | (first | (k_unfold; (try dsimp only)) | ( (fail_if_success (with_reducible show wpAny _ _ (exec (Stmt.While _ _ _ _) _) _ _ _)); (fail_if_success (with_reducible show wpAny _ _ (exec (Stmt.For _ _ _ _ _) _) _ _ _)); (fail_if_success (with_reducible show wpAny _ _ (exec (Stmt.Try _ _ _ _ _) _) _ _ _)); (fail_if_success (with_reducible show wpAny _ _ (pyIter _) (fun it s₂ => Loop _ _ _ _ _ _ _ _ _ _ it s₂) _ _)); (fail_if_success (with_reducible show wpAny _ _ (call (Value.ref _) _ _) _ _ _)); walk1; (try ((first | (with_reducible show wpAny _ _ (spliced _) _ _ _) | (with_reducible show wpAny _ _ (newList _) _ _ _) | (with_reducible show wpAny _ _ (execs _ _) _ _ _)); dsimp only)))))))
      have e : (((wv.length : Nat) : Int) == M) = true := by rw [lW, hM]; simp
      rw [e]
      exact hQ _ _ F14.keep
-- needs C3 C4 C6 C9 C11 C14 C15 C17 C18 C19 C20 C21 C22 C23 C24 C25 C26 C27 C28 C29 C30 C39 C40 C41 C43 C44
theorem row_at {g h : Heap} {L r : Addr} {o : Obj} {news : Led} (N : News g L h ((r, o) :: news)) : ∃ r', r' = r := ⟨r, rfl⟩
theorem law_tail {prog : Program} {w : World} {A : Around} {s : Shared} {Q : Flow → Shared → Prop} {g0 : Heap} {L fa f1 ra r1 : Addr} {m : Str → Option Value} {oS oW : Obj} {vf vr : List Value} {fs rs : List Int} {a b : Int} {ta tb : Tok} {na nb nf nr : Nat}
    (G : Gd w g0) (R : Rm A 19) (hB : NoneBooked g0) (hT0 : 252 ≤ s.toks) (F : Fr g0 L s.heap m) (em : Has m [(Str.ofString "flags", .ref fa), (Str.ofString "rows", .ref ra)])
    (N : News g0 L s.heap [(fa, listO [.int b tb, .ref f1] nb), (f1, listO vf nf), (ra, listO [.int a ta, .ref r1] na), (r1, listO vr nr), (L + 1 + 1 + 1, oS), (L + 1 + 1, oW)])
    (dS : oS.data = .cell none) (dW : oW.data = .cell none) (hne : ∀ p ∈ [fa, f1, ra, r1], p ≠ L + 1 + 1 ∧ p ≠ L + 1 + 1 + 1)
    (ir : IntsAre vr rs) (jf : IntsAre vf fs) (hr5 : rs.length ≤ 5) (hf6 : fs.length ≤ 6) (hrr : ∀ x ∈ rs, 0 ≤ x ∧ x < 262144) (hfr : ∀ x ∈ fs, 0 ≤ x ∧ x < 262144)
    (hQ : ∀ h' tk', (∀ b o, g0.get? b = some o → h'.get? b = some o) → Q (.ret (.bool true)) { s with heap := h', toks := tk' }) :
    wpAny (model prog w) A (execs ((lawBody w).drop 7) (envOfC (Str.ofString "law") (lawScope w) L 176 (lawCode w))) Q (fun _ _ => False) s := by
  (((have kkZq : PySem.Challenge.rw_wu0059_01 = PySem.Challenge.rw_wu0059_01 ∧ Mine.hd.heap_39 = Mine.hd.heap_39 := ⟨rfl, rfl⟩); revert kkZq; k_fill; intro kkZq; clear kkZq; w_on))
  (((rename Rm _ _ => rrZq); (rename Around => aaZq); (have e0Zq := Rm.h rrZq); rcases aaZq with ⟨hhZq, d1Zq, d2Zq, d3Zq, d4Zq⟩; dsimp only at e0Zq; subst e0Zq))
  have R := ‹Rm _ 19›
  show wpAny _ _ (execs (_ :: _ :: _ :: _ :: _ :: _ :: _ :: _ :: []) (envOfC _ ⟨_, _, _, _, _⟩ L 176 (.ref _))) _ _ _
  have hZqq := G.T
  refine ex5 hZqq ?_; (try clear hZqq); intro pp l mz mg mb; intro T
  have X := G.X
  have hTz : TLe s.toks s.toks := Nat.le_refl _
  replace F := fr_has F em
  (repeat' ((fail_if_success (with_reducible show wpAny _ _ (exec (PySem.Stmt.Assign _ (PySem.Expr.ListComp _ _ _ _) _) _) _ _ _)); (fail_if_success (with_reducible show wpAny _ _ (eval (PySem.Expr.ListComp _ _ _ _) _) _ _ _)); (fail_if_success (with_reducible show LCg.CompSrc _ _ _ _ _ _ _ _ _ _ _ _ _ _)); (fail_if_success (with_reducible show LCg.CompEnd _ _ _ _ _ _ _ _ _ _ _ _ _ _)); (fail_if_success (with_reducible show CompT _ _ _ _ _ _ _ _ _ _ _ _ _ _)); (fail_if_success (with_reducible show wpAny _ _ (subscriptTail _ (PySem.Expr.Slice _ _ _ _) _ _) _ _ _)); (fail_if_success (with_reducible show wpAny _ _ (compareOp CmpOp.NotEq (Value.ref _) (Value.ref _)) _ _ _)); (first | ((with_reducible show TLe _ _ → _); intro hTzZq; (try dsimp only at hTzZq); (try dsimp only)) | ((with_reducible show wpAny _ _ (execs (_ :: _) _) _ _ _); (with_reducible refine execs_consT ‹TLe _ _› (by first | exact Nat.le_refl _ | exact Nat.le_add_right _ _ | omega) ?_); (try dsimp only)) | ((with_reducible show wpAny _ _ (execs [] _) _ _ _); (with_reducible refine wpAny_execs_nil ?_); (try dsimp only)) | (first | (k_unfold; (try dsimp only)) | ( (fail_if_success (with_reducible show wpAny _ _ (exec (Stmt.While _ _ _ _) _) _ _ _)); (fail_if_success (with_reducible show wpAny _ _ (exec (Stmt.For _ _ _ _ _) _) _ _ _)); (fail_if_success (with_reducible show wpAny _ _ (exec (Stmt.Try _ _ _ _ _) _) _ _ _)); (fail_if_success (with_reducible show wpAny _ _ (pyIter _) (fun it s₂ => Loop _ _ _ _ _ _ _ _ _ _ it s₂) _ _)); (fail_if_success (with_reducible show wpAny _ _ (call (Value.ref _) _ _) _ _ _)); walk1; (try ((first | (with_reducible show wpAny _ _ (spliced _) _ _ _) | (with_reducible show wpAny _ _ (newList _) _ _ _) | (with_reducible show wpAny _ _ (execs _ _) _ _ _)); dsimp only)))))))
  walk1
  obtain ⟨nmT, hnmT⟩ : ∃ nmT : List (Str × Tok), nmT = [(Str.ofString "COROUTINE", s.toks), (Str.ofString "ITERABLE_COROUTINE", s.toks + 1), (Str.ofString "ASYNC_GENERATOR", s.toks + 1 + 1), (Str.ofString "0x400", s.toks + 1 + 1 + 1), (Str.ofString "0x800", s.toks + 1 + 1 + 1 + 1), (Str.ofString "0x1000", s.toks + 1 + 1 + 1 + 1 + 1)] := ⟨_, rfl⟩
  rename Fr _ _ _ _ => F1
  rename News _ _ _ _ => N1
  obtain ⟨nT, hnT⟩ := row_at N1
  subst hnT
  refine r_uptoA (k := fs.length) F1 N1 (vs := strValues nmT) (isL (n := 0) ((N1.get (.head _)).trans (by subst hnmT; rfl))) (by subst hnmT; show 6 ≤ 1000; decide) ?_
  intro Dn h2 F2 N2 dDn
  obtain ⟨nm, hnm⟩ : ∃ nm, nm = nmT.take fs.length := ⟨_, rfl⟩
  have hnmV : (strValues nmT).take fs.length = strValues nm := by rw [hnm]; unfold strValues; rw [List.map_take]
  have hnm1 : nm.map (·.1) = sixNames.take fs.length := by rw [hnm, List.map_take, hnmT]; rfl
  have hnm2 : ∀ p ∈ nm, ∃ k : Nat, k < 6 ∧ p.2 = s.toks + k := fun p hp => by
    rw [hnm, hnmT] at hp
    have := List.mem_of_mem_take hp
    simp only [List.mem_cons, List.not_mem_nil, or_false] at this
    rcases this with rfl | rfl | rfl | rfl | rfl | rfl
    · exact ⟨0, by decide, rfl⟩
    · exact ⟨1, by decide, rfl⟩
    · exact ⟨2, by decide, rfl⟩
    · exact ⟨3, by decide, rfl⟩
    · exact ⟨4, by decide, rfl⟩
    · exact ⟨5, by decide, rfl⟩
  rw [hnmV] at N2
  have N3 : News g0 L h2 [(Dn, listO (strValues nm) 0), (fa, listO [.int b tb, .ref f1] nb), (f1, listO vf nf), (ra, listO [.int a ta, .ref r1] na), (r1, listO vr nr), (L + 1 + 1 + 1, oS), (L + 1 + 1, oW)] := news_pick N2 [0, 2, 3, 4, 5, 6, 7]
  have dDn' : L + 1 + 1 + 1 < Dn ∧ L + 1 + 1 < Dn := ⟨dDn (L + 1 + 1 + 1, oS) (by simp), dDn (L + 1 + 1, oW) (by simp)⟩
  clear F1 N1 N2 dDn hnmT hnm hnmV
  (repeat' ((fail_if_success (with_reducible show wpAny _ _ (exec (PySem.Stmt.Assign _ (PySem.Expr.ListComp _ _ _ _) _) _) _ _ _)); (fail_if_success (with_reducible show wpAny _ _ (eval (PySem.Expr.ListComp _ _ _ _) _) _ _ _)); (fail_if_success (with_reducible show LCg.CompSrc _ _ _ _ _ _ _ _ _ _ _ _ _ _)); (fail_if_success (with_reducible show LCg.CompEnd _ _ _ _ _ _ _ _ _ _ _ _ _ _)); (fail_if_success (with_reducible show CompT _ _ _ _ _ _ _ _ _ _ _ _ _ _)); (fail_if_success (with_reducible show wpAny _ _ (subscriptTail _ (PySem.Expr.Slice _ _ _ _) _ _) _ _ _)); (fail_if_success (with_reducible show wpAny _ _ (compareOp CmpOp.NotEq (Value.ref _) (Value.ref _)) _ _ _)); (first | ((with_reducible show TLe _ _ → _); intro hTzZq; (try dsimp only at hTzZq); (try dsimp only)) | ((with_reducible show wpAny _ _ (execs (_ :: _) _) _ _ _); (with_reducible refine execs_consT ‹TLe _ _› (by first | exact Nat.le_refl _ | exact Nat.le_add_right _ _ | omega) ?_); (try dsimp only)) | ((with_reducible show wpAny _ _ (execs [] _) _ _ _); (with_reducible refine wpAny_execs_nil ?_); (try dsimp only)) | (first | (k_unfold; (try dsimp only)) | ( (fail_if_success (with_reducible show wpAny _ _ (exec (Stmt.While _ _ _ _) _) _ _ _)); (fail_if_success (with_reducible show wpAny _ _ (exec (Stmt.For _ _ _ _ _) _) _ _ _)); (fail_if_success (with_reducible show wpAny _ _ (exec (Stmt.Try _ _ _ _ _) _) _ _ _)); (fail_if_success (with_reducible show wpAny _ _ (pyIter _) (fun it s₂ => Loop _ _ _ _ _ _ _ _ _ _ it s₂) _ _)); (fail_if_success (with_reducible show wpAny _ _ (call (Value.ref _) _ _) _ _ _)); walk1; (try ((first | (with_reducible show wpAny _ _ (spliced _) _ _ _) | (with_reducible show wpAny _ _ (newList _) _ _ _) | (with_reducible show wpAny _ _ (execs _ _) _ _ _)); dsimp only)))))))
  refine with_toks ?_
  refine r_compA (L := L) (h₀ := g0) rfl (by first | rfl | with_unfolding_all rfl) (by with_unfolding_all rfl) (by decide) (by rfl) (by decide) (by rfl) (by rfl) (by rfl) ?_
  refine with_toks ?_
  (repeat' ((fail_if_success (with_reducible show wpAny _ _ (exec (PySem.Stmt.Assign _ (PySem.Expr.ListComp _ _ _ _) _) _) _ _ _)); (fail_if_success (with_reducible show wpAny _ _ (eval (PySem.Expr.ListComp _ _ _ _) _) _ _ _)); (fail_if_success (with_reducible show LCg.CompSrc _ _ _ _ _ _ _ _ _ _ _ _ _ _)); (fail_if_success (with_reducible show LCg.CompEnd _ _ _ _ _ _ _ _ _ _ _ _ _ _)); (fail_if_success (with_reducible show CompT _ _ _ _ _ _ _ _ _ _ _ _ _ _)); (fail_if_success (with_reducible show wpAny _ _ (subscriptTail _ (PySem.Expr.Slice _ _ _ _) _ _) _ _ _)); (fail_if_success (with_reducible show wpAny _ _ (compareOp CmpOp.NotEq (Value.ref _) (Value.ref _)) _ _ _)); (first | ((with_reducible show TLe _ _ → _); intro hTzZq; (try dsimp only at hTzZq); (try dsimp only)) | ((with_reducible show wpAny _ _ (execs (_ :: _) _) _ _ _); (with_reducible refine execs_consT ‹TLe _ _› (by first | exact Nat.le_refl _ | exact Nat.le_add_right _ _ | omega) ?_); (try dsimp only)) | ((with_reducible show wpAny _ _ (execs [] _) _ _ _); (with_reducible refine wpAny_execs_nil ?_); (try dsimp only)) | (first | (k_unfold; (try dsimp only)) | ( (fail_if_success (with_reducible show wpAny _ _ (exec (Stmt.While _ _ _ _) _) _ _ _)); (fail_if_success (with_reducible show wpAny _ _ (exec (Stmt.For _ _ _ _ _) _) _ _ _)); (fail_if_success (with_reducible show wpAny _ _ (exec (Stmt.Try _ _ _ _ _) _) _ _ _)); (fail_if_success (with_reducible show wpAny _ _ (pyIter _) (fun it s₂ => Loop _ _ _ _ _ _ _ _ _ _ it s₂) _ _)); (fail_if_success (with_reducible show wpAny _ _ (call (Value.ref _) _ _) _ _ _)); walk1; (try ((first | (with_reducible show wpAny _ _ (spliced _) _ _ _) | (with_reducible show wpAny _ _ (newList _) _ _ _) | (with_reducible show wpAny _ _ (execs _ _) _ _ _)); dsimp only)))))))
  rename Fr _ _ _ _ => F4
  rename News _ _ _ _ => N4
  refine sp_masks (G.keeps F4.keep) (R.le (by omega)) (N4.get (nth 4)) ir (N4.get (nth 2)) jf (by omega) hf6 ?_
  intro v h' tk' kb xZq1
  refine ex3 xZq1 ?_; (try clear xZq1); intro ma vm nmm; refine and4 ?_; intro yZq1x3 e1 z1 im
  obtain rfl := yZq1x3
  have hZqq := got_new F4 N4 kb e1 z1
  refine andI hZqq ?_; (try clear hZqq); refine and3 ?_; intro F5 N5 d5
  clear kb e1 z1 F4 N4
  (repeat' ((fail_if_success (with_reducible show wpAny _ _ (exec (PySem.Stmt.Assign _ (PySem.Expr.ListComp _ _ _ _) _) _) _ _ _)); (fail_if_success (with_reducible show wpAny _ _ (eval (PySem.Expr.ListComp _ _ _ _) _) _ _ _)); (fail_if_success (with_reducible show LCg.CompSrc _ _ _ _ _ _ _ _ _ _ _ _ _ _)); (fail_if_success (with_reducible show LCg.CompEnd _ _ _ _ _ _ _ _ _ _ _ _ _ _)); (fail_if_success (with_reducible show CompT _ _ _ _ _ _ _ _ _ _ _ _ _ _)); (fail_if_success (with_reducible show wpAny _ _ (subscriptTail _ (PySem.Expr.Slice _ _ _ _) _ _) _ _ _)); (fail_if_success (with_reducible show wpAny _ _ (compareOp CmpOp.NotEq (Value.ref _) (Value.ref _)) _ _ _)); (first | ((with_reducible show TLe _ _ → _); intro hTzZq; (try dsimp only at hTzZq); (try dsimp only)) | ((with_reducible show wpAny _ _ (execs (_ :: _) _) _ _ _); (with_reducible refine execs_consT ‹TLe _ _› (by first | exact Nat.le_refl _ | exact Nat.le_add_right _ _ | omega) ?_); (try dsimp only)) | ((with_reducible show wpAny _ _ (execs [] _) _ _ _); (with_reducible refine wpAny_execs_nil ?_); (try dsimp only)) | (first | (k_unfold; (try dsimp only)) | ( (fail_if_success (with_reducible show wpAny _ _ (exec (Stmt.While _ _ _ _) _) _ _ _)); (fail_if_success (with_reducible show wpAny _ _ (exec (Stmt.For _ _ _ _ _) _) _ _ _)); (fail_if_success (with_reducible show wpAny _ _ (exec (Stmt.Try _ _ _ _ _) _) _ _ _)); (fail_if_success (with_reducible show wpAny _ _ (pyIter _) (fun it s₂ => Loop _ _ _ _ _ _ _ _ _ _ it s₂) _ _)); (fail_if_success (with_reducible show wpAny _ _ (call (Value.ref _) _ _) _ _ _)); walk1; (try ((first | (with_reducible show wpAny _ _ (spliced _) _ _ _) | (with_reducible show wpAny _ _ (newList _) _ _ _) | (with_reducible show wpAny _ _ (execs _ _) _ _ _)); dsimp only)))))))
  rename_i htk5
  dsimp only at htk5
  have mok := masks_ok rs (lk := laidP fs) (fun q hq => (good_laid hf6).2.2 q hq)
  have mlen : (masksP rs (laidP fs)).length = rs.length := masksP_length _ _
  generalize hmk : masksP rs (laidP fs) = mks at im mok mlen
  have vml : vm.length = rs.length := by have := im.length; simp at this; omega
  refine ⟨ma, vm, nmm, _, _, fun i ys nw => ∃ tbl : List (Addr × List Value × Nat), ys = tbl.map (fun q => Value.ref q.1) ∧ tbl.length = i ∧ (∀ (j : Nat) (q : Addr × List Value × Nat) (mk : Nat), tbl[j]? = some q → mks[j]? = some mk → TS (s.toks + 6) q.2.1 (below mk 13)) ∧ (∀ q ∈ tbl, q.1 ≠ L + 1 + 1 ∧ q.1 ≠ L + 1 + 1 + 1) ∧
    nw = [(ma, listO vm nmm), (Dn, listO (strValues nm) 0), (fa, listO [.int b tb, .ref f1] nb), (f1, listO vf nf), (ra, listO [.int a ta, .ref r1] na), (r1, listO vr nr), (L + 1 + 1 + 1, oS), (L + 1 + 1, oW)] ++ ledW tbl, rfl, rfl, F5, N5, by omega,
    ⟨[], rfl, rfl, fun j q mk h => by simp at h, by simp, by simp [ledW]⟩, fun i ys nw h => by obtain ⟨_, _, _, _, _, rfl⟩ := h; exact .head _, ?_, ?_⟩
  · clear F5 N5
    intro i v ys nw I oI C oC D m₂ h tk hv xZq1 htk nC hx F N off ne
    refine ex1 xZq1 ?_; (try clear xZq1); intro tbl; refine and5 ?_; intro yZq3x1 htl htb htn yZq3x5
    obtain rfl := yZq3x1
    obtain rfl := yZq3x5
    have hZqq := im.at i v hv
    refine ex2 hZqq ?_; (try clear hZqq); intro x tx; refine and2 ?_; intro yZq4x2 hsx
    obtain rfl := yZq4x2
    have hZqq : ∃ mk, mks[i]? = some mk ∧ (mk : Int) = x := by
      rw [List.getElem?_map] at hsx
      cases q : mks[i]? with
      | none => rw [q] at hsx; cases hsx
      | some mk => rw [q] at hsx; exact ⟨mk, rfl, by simpa using hsx⟩
    refine ex1 hZqq ?_; (try clear hZqq); intro mk; refine and2 ?_; intro hmi yZq5x2
    obtain rfl := yZq5x2
    obtain ⟨mk1, mk2⟩ := mok mk (List.mem_of_getElem? hmi)
    have cE' := InElt.start h
    refine wpAny_tests_nil ?_
    rw [if_pos rfl]
    (repeat' ((fail_if_success (with_reducible show wpAny _ _ (exec (PySem.Stmt.Assign _ (PySem.Expr.ListComp _ _ _ _) _) _) _ _ _)); (fail_if_success (with_reducible show wpAny _ _ (eval (PySem.Expr.ListComp _ _ _ _) _) _ _ _)); (fail_if_success (with_reducible show LCg.CompSrc _ _ _ _ _ _ _ _ _ _ _ _ _ _)); (fail_if_success (with_reducible show LCg.CompEnd _ _ _ _ _ _ _ _ _ _ _ _ _ _)); (fail_if_success (with_reducible show CompT _ _ _ _ _ _ _ _ _ _ _ _ _ _)); (fail_if_success (with_reducible show wpAny _ _ (subscriptTail _ (PySem.Expr.Slice _ _ _ _) _ _) _ _ _)); (fail_if_success (with_reducible show wpAny _ _ (compareOp CmpOp.NotEq (Value.ref _) (Value.ref _)) _ _ _)); (first | ((with_reducible show TLe _ _ → _); intro hTzZq; (try dsimp only at hTzZq); (try dsimp only)) | ((with_reducible show wpAny _ _ (execs (_ :: _) _) _ _ _); (with_reducible refine execs_consT ‹TLe _ _› (by first | exact Nat.le_refl _ | exact Nat.le_add_right _ _ | omega) ?_); (try dsimp only)) | ((with_reducible show wpAny _ _ (execs [] _) _ _ _); (with_reducible refine wpAny_execs_nil ?_); (try dsimp only)) | (first | (k_unfold; (try dsimp only)) | ( (fail_if_success (with_reducible show wpAny _ _ (exec (Stmt.While _ _ _ _) _) _ _ _)); (fail_if_success (with_reducible show wpAny _ _ (exec (Stmt.For _ _ _ _ _) _) _ _ _)); (fail_if_success (with_reducible show wpAny _ _ (exec (Stmt.Try _ _ _ _ _) _) _ _ _)); (fail_if_success (with_reducible show wpAny _ _ (pyIter _) (fun it s₂ => Loop _ _ _ _ _ _ _ _ _ _ it s₂) _ _)); (fail_if_success (with_reducible show wpAny _ _ (call (Value.ref _) _ _) _ _ _)); walk1; (try ((first | (with_reducible show wpAny _ _ (spliced _) _ _ _) | (with_reducible show wpAny _ _ (newList _) _ _ _) | (with_reducible show wpAny _ _ (execs _ _) _ _ _)); dsimp only)))))))
    refine sp_words (G.keeps F.keep) (R.le (by omega)) mk1 mk2 (by show 252 ≤ tk; dsimp only at htk; omega) ?_
    intro v h' tk' kb xZq1
    refine ex3 xZq1 ?_; (try clear xZq1); intro wa wv wn; refine and4 ?_; intro yZq6x3 e1 z1 hts
    obtain rfl := yZq6x3
    have hZqq := got_new F N kb e1 z1
    refine andI hZqq ?_; (try clear hZqq); refine and3 ?_; intro F6 N6 d6
    dsimp only at hts
    have off' := off.mem
    refine ⟨h', tk', [(ma, listO vm nmm), (Dn, listO (strValues nm) 0), (fa, listO [.int b tb, .ref f1] nb), (f1, listO vf nf), (ra, listO [.int a ta, .ref r1] na), (r1, listO vr nr), (L + 1 + 1 + 1, oS), (L + 1 + 1, oW)] ++ ledW (tbl ++ [(wa, wv, wn)]), rfl, F6, ?_, ?_, trivial, tbl ++ [(wa, wv, wn)], by simp, by simp; omega, ?_, ?_, rfl⟩
    · intro p hp
      rcases List.mem_cons.mp hp with rfl | hp
      · exact N6 _ (nth 1)
      rcases List.mem_cons.mp hp with rfl | hp
      · exact N6 _ (nth 2)
      rcases List.mem_cons.mp hp with rfl | hp
      · exact N6 _ (nth 3)
      rw [ledW_snoc, ← List.append_assoc] at hp
      rcases List.mem_append.mp hp with hp | hp
      · exact N6 p (.tail _ (.tail _ (.tail _ (.tail _ hp))))
      · rw [List.mem_singleton.mp hp]; exact N6 _ (.head _)
    · refine LCg.Off3.of fun p hp => ?_
      rw [ledW_snoc, ← List.append_assoc] at hp
      rcases List.mem_append.mp hp with hp | hp
      · exact off' p hp
      · rw [List.mem_singleton.mp hp]
        exact ⟨Ne.symm (d6 _ (nth 0)), Ne.symm (d6 _ (nth 1)), Ne.symm (d6 _ (nth 2))⟩
    · intro j q mk' hq hm
      by_cases hj : j < tbl.length
      · rw [List.getElem?_append_left hj] at hq; exact htb j q mk' hq hm
      · rw [List.getElem?_append_right (by omega)] at hq
        by_cases hj2 : j - tbl.length = 0
        · rw [hj2] at hq
          obtain rfl : (wa, wv, wn) = q := by simpa using hq
          have : j = i := by omega
          subst this
          rw [hmi] at hm; cases hm
          exact TS.mono (by dsimp only at htk; omega) hts
        · rw [List.getElem?_eq_none_iff.mpr (by simp; omega)] at hq; cases hq
    · intro q hq
      rcases List.mem_append.mp hq with hq | hq
      · exact htn q hq
      · rw [List.mem_singleton.mp hq]
        exact ⟨Ne.symm (d6 (L + 1 + 1, oW) (by simp)), Ne.symm (d6 (L + 1 + 1 + 1, oS) (by simp))⟩
  · intro ys nw D h tk xZq1 htk F N hD h' tk' F6 N6
    refine ex1 xZq1 ?_; (try clear xZq1); intro tbl; refine and5 ?_; intro yZq8x1 htl htb htn yZq8x5
    obtain rfl := yZq8x1
    obtain rfl := yZq8x5
    clear F N
    intro hz1 hz2
    (repeat' ((fail_if_success (with_reducible show wpAny _ _ (exec (PySem.Stmt.Assign _ (PySem.Expr.ListComp _ _ _ _) _) _) _ _ _)); (fail_if_success (with_reducible show wpAny _ _ (eval (PySem.Expr.ListComp _ _ _ _) _) _ _ _)); (fail_if_success (with_reducible show LCg.CompSrc _ _ _ _ _ _ _ _ _ _ _ _ _ _)); (fail_if_success (with_reducible show LCg.CompEnd _ _ _ _ _ _ _ _ _ _ _ _ _ _)); (fail_if_success (with_reducible show CompT _ _ _ _ _ _ _ _ _ _ _ _ _ _)); (fail_if_success (with_reducible show wpAny _ _ (subscriptTail _ (PySem.Expr.Slice _ _ _ _) _ _) _ _ _)); (fail_if_success (with_reducible show wpAny _ _ (compareOp CmpOp.NotEq (Value.ref _) (Value.ref _)) _ _ _)); (first | ((with_reducible show TLe _ _ → _); intro hTzZq; (try dsimp only at hTzZq); (try dsimp only)) | ((with_reducible show wpAny _ _ (execs (_ :: _) _) _ _ _); (with_reducible refine execs_consT ‹TLe _ _› (by first | exact Nat.le_refl _ | exact Nat.le_add_right _ _ | omega) ?_); (try dsimp only)) | ((with_reducible show wpAny _ _ (execs [] _) _ _ _); (with_reducible refine wpAny_execs_nil ?_); (try dsimp only)) | (first | (k_unfold; (try dsimp only)) | ( (fail_if_success (with_reducible show wpAny _ _ (exec (Stmt.While _ _ _ _) _) _ _ _)); (fail_if_success (with_reducible show wpAny _ _ (exec (Stmt.For _ _ _ _ _) _) _ _ _)); (fail_if_success (with_reducible show wpAny _ _ (exec (Stmt.Try _ _ _ _ _) _) _ _ _)); (fail_if_success (with_reducible show wpAny _ _ (pyIter _) (fun it s₂ => Loop _ _ _ _ _ _ _ _ _ _ it s₂) _ _)); (fail_if_success (with_reducible show wpAny _ _ (call (Value.ref _) _ _) _ _ _)); walk1; (try ((first | (with_reducible show wpAny _ _ (spliced _) _ _ _) | (with_reducible show wpAny _ _ (newList _) _ _ _) | (with_reducible show wpAny _ _ (execs _ _) _ _ _)); dsimp only)))))))
    rename Fr _ _ _ _ => F7
    rename News _ _ _ _ => N7
    rename D < _ ∧ _ => l7
    obtain ⟨wl, hwl⟩ := row_at N7
    subst hwl
    have dwl : ∀ p ∈ [(ma, listO vm nmm), (Dn, listO (strValues nm) 0), (fa, listO [.int b tb, .ref f1] nb), (f1, listO vf nf), (ra, listO [.int a ta, .ref r1] na), (r1, listO vr nr), (L + 1 + 1 + 1, oS), (L + 1 + 1, oW)] ++ ledW tbl, p.1 < wl := fun p hp => allLt_mem l7.2 p hp
    refine r_storeC (cl := cellsFrom (L + 1) _ []) ([(wl, listO [] 0), (D, listO (tbl.map fun q => Value.ref q.1) (tbl.map fun q => Value.ref q.1).length), (Dn, listO (strValues nm) 0), (f1, listO vf nf), (fa, listO [.int b tb, .ref f1] nb), (r1, listO vr nr), (ra, listO [.int a ta, .ref r1] na), (L + 1 + 1 + 1, oS)] ++ ledW tbl) F7 N7 (c := L + 1 + 1) (o := oW) (nth 9) ?_ dW ?_
    · intro p hp
      rcases List.mem_append.mp hp with hp | hp
      · simp only [List.mem_cons, List.not_mem_nil, or_false] at hp
        rcases hp with rfl | rfl | rfl | rfl | rfl | rfl | rfl | rfl
        · exact ⟨nth 0, Nat.ne_of_gt (dwl (L + 1 + 1, oW) (nth 7))⟩
        · exact ⟨nth 1, Ne.symm (hD (L + 1 + 1, oW) (nth 7))⟩
        · exact ⟨nth 3, Nat.ne_of_gt dDn'.2⟩
        · exact ⟨nth 5, (hne f1 (nth 1)).1⟩
        · exact ⟨nth 4, (hne fa (nth 0)).1⟩
        · exact ⟨nth 7, (hne r1 (nth 3)).1⟩
        · exact ⟨nth 6, (hne ra (nth 2)).1⟩
        · exact ⟨nth 8, Nat.ne_of_gt (Nat.lt_succ_self _)⟩
      · have hZqq := List.mem_map.mp hp
        refine ex1 hZqq ?_; (try clear hZqq); intro q; refine and2 ?_; intro hq yZq9x2
        obtain rfl := yZq9x2
        exact ⟨.tail _ (.tail _ (List.mem_append_right _ hp)), (htn q hq).1⟩
    intro h8 oW8 F8 N8 dW8
    (repeat' ((fail_if_success (with_reducible show wpAny _ _ (exec (PySem.Stmt.Assign _ (PySem.Expr.ListComp _ _ _ _) _) _) _ _ _)); (fail_if_success (with_reducible show wpAny _ _ (eval (PySem.Expr.ListComp _ _ _ _) _) _ _ _)); (fail_if_success (with_reducible show LCg.CompSrc _ _ _ _ _ _ _ _ _ _ _ _ _ _)); (fail_if_success (with_reducible show LCg.CompEnd _ _ _ _ _ _ _ _ _ _ _ _ _ _)); (fail_if_success (with_reducible show CompT _ _ _ _ _ _ _ _ _ _ _ _ _ _)); (fail_if_success (with_reducible show wpAny _ _ (subscriptTail _ (PySem.Expr.Slice _ _ _ _) _ _) _ _ _)); (fail_if_success (with_reducible show wpAny _ _ (compareOp CmpOp.NotEq (Value.ref _) (Value.ref _)) _ _ _)); (first | ((with_reducible show TLe _ _ → _); intro hTzZq; (try dsimp only at hTzZq); (try dsimp only)) | ((with_reducible show wpAny _ _ (execs (_ :: _) _) _ _ _); (with_reducible refine execs_consT ‹TLe _ _› (by first | exact Nat.le_refl _ | exact Nat.le_add_right _ _ | omega) ?_); (try dsimp only)) | ((with_reducible show wpAny _ _ (execs [] _) _ _ _); (with_reducible refine wpAny_execs_nil ?_); (try dsimp only)) | (first | (k_unfold; (try dsimp only)) | ( (fail_if_success (with_reducible show wpAny _ _ (exec (Stmt.While _ _ _ _) _) _ _ _)); (fail_if_success (with_reducible show wpAny _ _ (exec (Stmt.For _ _ _ _ _) _) _ _ _)); (fail_if_success (with_reducible show wpAny _ _ (exec (Stmt.Try _ _ _ _ _) _) _ _ _)); (fail_if_success (with_reducible show wpAny _ _ (pyIter _) (fun it s₂ => Loop _ _ _ _ _ _ _ _ _ _ it s₂) _ _)); (fail_if_success (with_reducible show wpAny _ _ (call (Value.ref _) _ _) _ _ _)); walk1; (try ((first | (with_reducible show wpAny _ _ (spliced _) _ _ _) | (with_reducible show wpAny _ _ (newList _) _ _ _) | (with_reducible show wpAny _ _ (execs _ _) _ _ _)); dsimp only)))))))
    have ltb : h8.IsList D (tbl.map fun q => Value.ref q.1).toArray := isL (N8.get (nth 2))
    have ltl : (tbl.map fun q => Value.ref q.1).length = rs.length := by rw [List.length_map]; omega
    refine r_for g0 L ?_
    (repeat' ((fail_if_success (with_reducible show wpAny _ _ (exec (PySem.Stmt.Assign _ (PySem.Expr.ListComp _ _ _ _) _) _) _ _ _)); (fail_if_success (with_reducible show wpAny _ _ (eval (PySem.Expr.ListComp _ _ _ _) _) _ _ _)); (fail_if_success (with_reducible show LCg.CompSrc _ _ _ _ _ _ _ _ _ _ _ _ _ _)); (fail_if_success (with_reducible show LCg.CompEnd _ _ _ _ _ _ _ _ _ _ _ _ _ _)); (fail_if_success (with_reducible show CompT _ _ _ _ _ _ _ _ _ _ _ _ _ _)); (fail_if_success (with_reducible show wpAny _ _ (subscriptTail _ (PySem.Expr.Slice _ _ _ _) _ _) _ _ _)); (fail_if_success (with_reducible show wpAny _ _ (compareOp CmpOp.NotEq (Value.ref _) (Value.ref _)) _ _ _)); (first | ((with_reducible show TLe _ _ → _); intro hTzZq; (try dsimp only at hTzZq); (try dsimp only)) | ((with_reducible show wpAny _ _ (execs (_ :: _) _) _ _ _); (with_reducible refine execs_consT ‹TLe _ _› (by first | exact Nat.le_refl _ | exact Nat.le_add_right _ _ | omega) ?_); (try dsimp only)) | ((with_reducible show wpAny _ _ (execs [] _) _ _ _); (with_reducible refine wpAny_execs_nil ?_); (try dsimp only)) | (first | (k_unfold; (try dsimp only)) | ( (fail_if_success (with_reducible show wpAny _ _ (exec (Stmt.While _ _ _ _) _) _ _ _)); (fail_if_success (with_reducible show wpAny _ _ (exec (Stmt.For _ _ _ _ _) _) _ _ _)); (fail_if_success (with_reducible show wpAny _ _ (exec (Stmt.Try _ _ _ _ _) _) _ _ _)); (fail_if_success (with_reducible show wpAny _ _ (pyIter _) (fun it s₂ => Loop _ _ _ _ _ _ _ _ _ _ it s₂) _ _)); (fail_if_success (with_reducible show wpAny _ _ (call (Value.ref _) _ _) _ _ _)); walk1; (try ((first | (with_reducible show wpAny _ _ (spliced _) _ _ _) | (with_reducible show wpAny _ _ (newList _) _ _ _) | (with_reducible show wpAny _ _ (execs _ _) _ _ _)); dsimp only)))))))
    refine r_len N8 (nth 2) (by omega) ?_
    rw [ltl]
    intro t9 tk9
    (repeat' ((fail_if_success (with_reducible show wpAny _ _ (exec (PySem.Stmt.Assign _ (PySem.Expr.ListComp _ _ _ _) _) _) _ _ _)); (fail_if_success (with_reducible show wpAny _ _ (eval (PySem.Expr.ListComp _ _ _ _) _) _ _ _)); (fail_if_success (with_reducible show LCg.CompSrc _ _ _ _ _ _ _ _ _ _ _ _ _ _)); (fail_if_success (with_reducible show LCg.CompEnd _ _ _ _ _ _ _ _ _ _ _ _ _ _)); (fail_if_success (with_reducible show CompT _ _ _ _ _ _ _ _ _ _ _ _ _ _)); (fail_if_success (with_reducible show wpAny _ _ (subscriptTail _ (PySem.Expr.Slice _ _ _ _) _ _) _ _ _)); (fail_if_success (with_reducible show wpAny _ _ (compareOp CmpOp.NotEq (Value.ref _) (Value.ref _)) _ _ _)); (first | ((with_reducible show TLe _ _ → _); intro hTzZq; (try dsimp only at hTzZq); (try dsimp only)) | ((with_reducible show wpAny _ _ (execs (_ :: _) _) _ _ _); (with_reducible refine execs_consT ‹TLe _ _› (by first | exact Nat.le_refl _ | exact Nat.le_add_right _ _ | omega) ?_); (try dsimp only)) | ((with_reducible show wpAny _ _ (execs [] _) _ _ _); (with_reducible refine wpAny_execs_nil ?_); (try dsimp only)) | (first | (k_unfold; (try dsimp only)) | ( (fail_if_success (with_reducible show wpAny _ _ (exec (Stmt.While _ _ _ _) _) _ _ _)); (fail_if_success (with_reducible show wpAny _ _ (exec (Stmt.For _ _ _ _ _) _) _ _ _)); (fail_if_success (with_reducible show wpAny _ _ (exec (Stmt.Try _ _ _ _ _) _) _ _ _)); (fail_if_success (with_reducible show wpAny _ _ (pyIter _) (fun it s₂ => Loop _ _ _ _ _ _ _ _ _ _ it s₂) _ _)); (fail_if_success (with_reducible show wpAny _ _ (call (Value.ref _) _ _) _ _ _)); walk1; (try ((first | (with_reducible show wpAny _ _ (spliced _) _ _ _) | (with_reducible show wpAny _ _ (newList _) _ _ _) | (with_reducible show wpAny _ _ (execs _ _) _ _ _)); dsimp only)))))))
    rename IsRange _ _ _ _ _ _ _ _ => Ir
    rename Fr _ _ _ _ => F10
    rename News _ _ _ _ => N10
    have hDwl : D < wl := l7.1
    clear l7 ltb
    refine loop_range (n := rs.length) (fun i m' nw => Has m' [(Str.ofString "table", .ref D), (Str.ofString "names", .ref Dn), (Str.ofString "flags", .ref fa), (Str.ofString "rows", .ref ra)] ∧ ∃ oW' oS' wv wn, nw = [(L + 1 + 1, oW'), (wl, listO wv wn), (D, listO (tbl.map fun q => Value.ref q.1) (tbl.map fun q => Value.ref q.1).length), (Dn, listO (strValues nm) 0), (f1, listO vf nf), (fa, listO [.int b tb, .ref f1] nb), (r1, listO vr nr), (ra, listO [.int a ta, .ref r1] na), (L + 1 + 1 + 1, oS')] ++ ledW tbl ∧
      oW'.data = .cell (some (.ref wl)) ∧ (∃ v0, oS'.data = .cell v0) ∧ wv = (tbl.take i).flatMap (fun q => q.2.1) ∧ wv.length ≤ 13 * i) rfl F10 N10 Ir (by omega) (by omega) ⟨⟨rfl, rfl, rfl, rfl, trivial⟩, oW8, oS, [], 0, rfl, dW8, ⟨_, dS⟩, rfl, by simp⟩ ?_ ?_
    · clear F10 N10 Ir
      intro i ti m₁ news₁ I oI h tk hi xZq1 hnI F N
      obtain ⟨em1, oW1, oS1, wv, wn, rfl, dW1, ⟨v0, dS1⟩, hwv, hwl⟩ := xZq1
      replace F := fr_has F em1
      refine wpAny_assign_Name ?_
      (repeat' ((fail_if_success (with_reducible show wpAny _ _ (exec (PySem.Stmt.Assign _ (PySem.Expr.ListComp _ _ _ _) _) _) _ _ _)); (fail_if_success (with_reducible show wpAny _ _ (eval (PySem.Expr.ListComp _ _ _ _) _) _ _ _)); (fail_if_success (with_reducible show LCg.CompSrc _ _ _ _ _ _ _ _ _ _ _ _ _ _)); (fail_if_success (with_reducible show LCg.CompEnd _ _ _ _ _ _ _ _ _ _ _ _ _ _)); (fail_if_success (with_reducible show CompT _ _ _ _ _ _ _ _ _ _ _ _ _ _)); (fail_if_success (with_reducible show wpAny _ _ (subscriptTail _ (PySem.Expr.Slice _ _ _ _) _ _) _ _ _)); (fail_if_success (with_reducible show wpAny _ _ (compareOp CmpOp.NotEq (Value.ref _) (Value.ref _)) _ _ _)); (first | ((with_reducible show TLe _ _ → _); intro hTzZq; (try dsimp only at hTzZq); (try dsimp only)) | ((with_reducible show wpAny _ _ (execs (_ :: _) _) _ _ _); (with_reducible refine execs_consT ‹TLe _ _› (by first | exact Nat.le_refl _ | exact Nat.le_add_right _ _ | omega) ?_); (try dsimp only)) | ((with_reducible show wpAny _ _ (execs [] _) _ _ _); (with_reducible refine wpAny_execs_nil ?_); (try dsimp only)) | (first | (k_unfold; (try dsimp only)) | ( (fail_if_success (with_reducible show wpAny _ _ (exec (Stmt.While _ _ _ _) _) _ _ _)); (fail_if_success (with_reducible show wpAny _ _ (exec (Stmt.For _ _ _ _ _) _) _ _ _)); (fail_if_success (with_reducible show wpAny _ _ (exec (Stmt.Try _ _ _ _ _) _) _ _ _)); (fail_if_success (with_reducible show wpAny _ _ (pyIter _) (fun it s₂ => Loop _ _ _ _ _ _ _ _ _ _ it s₂) _ _)); (fail_if_success (with_reducible show wpAny _ _ (call (Value.ref _) _ _) _ _ _)); walk1; (try ((first | (with_reducible show wpAny _ _ (spliced _) _ _ _) | (with_reducible show wpAny _ _ (newList _) _ _ _) | (with_reducible show wpAny _ _ (execs _ _) _ _ _)); dsimp only)))))))
      obtain ⟨q, hq⟩ : ∃ q, tbl[i]? = some q := ⟨_, List.getElem?_eq_getElem (by omega)⟩
      have hqm := List.mem_of_getElem? hq
      obtain ⟨mk, hmi⟩ : ∃ mk, mks[i]? = some mk := ⟨_, List.getElem?_eq_getElem (by omega)⟩
      have hts := htb i q mk hq hmi
      obtain ⟨mk1, mk2⟩ := mok mk (List.mem_of_getElem? hmi)
      have hZqq := row_facts hf6 (fun x hx => (hrr x hx).1) (fun x hx => (hfr x hx).1) (by rw [hmk]; exact hmi)
      refine ex1 hZqq ?_; (try clear hZqq); intro r; refine and3 ?_; intro hri hrl hrn
      rename Fr _ _ _ _ => F11
      rename News _ _ _ _ => N11
      have hql : (q.1, listO q.2.1 q.2.2) ∈ ledW tbl := List.mem_map.mpr ⟨q, hqm, rfl⟩
      refine item_listL (l := tbl.map fun q => Value.ref q.1) (isL (N11.get (nth 3))) (by omega) (by omega) (x := .ref q.1) (by simp [hq]) ?_
      have hIS := hnI (L + 1 + 1 + 1, oS1) (nth 8)
      refine r_storeC (cl := cellsFrom (L + 1) _ []) ([(I, oI), (L + 1 + 1, oW1), (wl, listO wv wn), (D, listO (tbl.map fun q => Value.ref q.1) (tbl.map fun q => Value.ref q.1).length), (Dn, listO (strValues nm) 0), (f1, listO vf nf), (fa, listO [.int b tb, .ref f1] nb), (r1, listO vr nr), (ra, listO [.int a ta, .ref r1] na)] ++ ledW tbl) F11 N11 (c := L + 1 + 1 + 1) (o := oS1) (nth 9) ?_ dS1 ?_
      · intro p hp
        rcases List.mem_append.mp hp with hp | hp
        · simp only [List.mem_cons, List.not_mem_nil, or_false] at hp
          rcases hp with rfl | rfl | rfl | rfl | rfl | rfl | rfl | rfl | rfl
          · exact ⟨nth 0, Ne.symm hIS⟩
          · exact ⟨nth 1, Nat.ne_of_lt (Nat.lt_succ_self _)⟩
          · exact ⟨nth 2, Nat.ne_of_gt (dwl (L + 1 + 1 + 1, oS) (nth 6))⟩
          · exact ⟨nth 3, Ne.symm (hD (L + 1 + 1 + 1, oS) (nth 6))⟩
          · exact ⟨nth 4, Nat.ne_of_gt dDn'.1⟩
          · exact ⟨nth 5, (hne f1 (nth 1)).2⟩
          · exact ⟨nth 6, (hne fa (nth 0)).2⟩
          · exact ⟨nth 7, (hne r1 (nth 3)).2⟩
          · exact ⟨nth 8, (hne ra (nth 2)).2⟩
        · have hZqq := List.mem_map.mp hp
          refine ex1 hZqq ?_; (try clear hZqq); intro q'; refine and2 ?_; intro hq' yZq12x2
          obtain rfl := yZq12x2
          exact ⟨.tail _ (List.mem_append_right _ hp), (htn q' hq').2⟩
      intro h12 oS12 F12 N12 dS12
      clear F11 N11
      (repeat' ((fail_if_success (with_reducible show wpAny _ _ (exec (PySem.Stmt.Assign _ (PySem.Expr.ListComp _ _ _ _) _) _) _ _ _)); (fail_if_success (with_reducible show wpAny _ _ (eval (PySem.Expr.ListComp _ _ _ _) _) _ _ _)); (fail_if_success (with_reducible show LCg.CompSrc _ _ _ _ _ _ _ _ _ _ _ _ _ _)); (fail_if_success (with_reducible show LCg.CompEnd _ _ _ _ _ _ _ _ _ _ _ _ _ _)); (fail_if_success (with_reducible show CompT _ _ _ _ _ _ _ _ _ _ _ _ _ _)); (fail_if_success (with_reducible show wpAny _ _ (subscriptTail _ (PySem.Expr.Slice _ _ _ _) _ _) _ _ _)); (fail_if_success (with_reducible show wpAny _ _ (compareOp CmpOp.NotEq (Value.ref _) (Value.ref _)) _ _ _)); (first | ((with_reducible show TLe _ _ → _); intro hTzZq; (try dsimp only at hTzZq); (try dsimp only)) | ((with_reducible show wpAny _ _ (execs (_ :: _) _) _ _ _); (with_reducible refine execs_consT ‹TLe _ _› (by first | exact Nat.le_refl _ | exact Nat.le_add_right _ _ | omega) ?_); (try dsimp only)) | ((with_reducible show wpAny _ _ (execs [] _) _ _ _); (with_reducible refine wpAny_execs_nil ?_); (try dsimp only)) | (first | (k_unfold; (try dsimp only)) | ( (fail_if_success (with_reducible show wpAny _ _ (exec (Stmt.While _ _ _ _) _) _ _ _)); (fail_if_success (with_reducible show wpAny _ _ (exec (Stmt.For _ _ _ _ _) _) _ _ _)); (fail_if_success (with_reducible show wpAny _ _ (exec (Stmt.Try _ _ _ _ _) _) _ _ _)); (fail_if_success (with_reducible show wpAny _ _ (pyIter _) (fun it s₂ => Loop _ _ _ _ _ _ _ _ _ _ it s₂) _ _)); (fail_if_success (with_reducible show wpAny _ _ (call (Value.ref _) _ _) _ _ _)); walk1; (try ((first | (with_reducible show wpAny _ _ (spliced _) _ _ _) | (with_reducible show wpAny _ _ (newList _) _ _ _) | (with_reducible show wpAny _ _ (execs _ _) _ _ _)); dsimp only)))))))
      refine r_comp (L := L) (h₀ := g0) (by with_unfolding_all rfl) (by decide) (by rfl) (by decide) (by rfl) ?_
      (repeat' ((fail_if_success (with_reducible show wpAny _ _ (exec (PySem.Stmt.Assign _ (PySem.Expr.ListComp _ _ _ _) _) _) _ _ _)); (fail_if_success (with_reducible show wpAny _ _ (eval (PySem.Expr.ListComp _ _ _ _) _) _ _ _)); (fail_if_success (with_reducible show LCg.CompSrc _ _ _ _ _ _ _ _ _ _ _ _ _ _)); (fail_if_success (with_reducible show LCg.CompEnd _ _ _ _ _ _ _ _ _ _ _ _ _ _)); (fail_if_success (with_reducible show CompT _ _ _ _ _ _ _ _ _ _ _ _ _ _)); (fail_if_success (with_reducible show wpAny _ _ (subscriptTail _ (PySem.Expr.Slice _ _ _ _) _ _) _ _ _)); (fail_if_success (with_reducible show wpAny _ _ (compareOp CmpOp.NotEq (Value.ref _) (Value.ref _)) _ _ _)); (first | ((with_reducible show TLe _ _ → _); intro hTzZq; (try dsimp only at hTzZq); (try dsimp only)) | ((with_reducible show wpAny _ _ (execs (_ :: _) _) _ _ _); (with_reducible refine execs_consT ‹TLe _ _› (by first | exact Nat.le_refl _ | exact Nat.le_add_right _ _ | omega) ?_); (try dsimp only)) | ((with_reducible show wpAny _ _ (execs [] _) _ _ _); (with_reducible refine wpAny_execs_nil ?_); (try dsimp only)) | (first | (k_unfold; (try dsimp only)) | ( (fail_if_success (with_reducible show wpAny _ _ (exec (Stmt.While _ _ _ _) _) _ _ _)); (fail_if_success (with_reducible show wpAny _ _ (exec (Stmt.For _ _ _ _ _) _) _ _ _)); (fail_if_success (with_reducible show wpAny _ _ (exec (Stmt.Try _ _ _ _ _) _) _ _ _)); (fail_if_success (with_reducible show wpAny _ _ (pyIter _) (fun it s₂ => Loop _ _ _ _ _ _ _ _ _ _ it s₂) _ _)); (fail_if_success (with_reducible show wpAny _ _ (call (Value.ref _) _ _) _ _ _)); walk1; (try ((first | (with_reducible show wpAny _ _ (spliced _) _ _ _) | (with_reducible show wpAny _ _ (newList _) _ _ _) | (with_reducible show wpAny _ _ (execs _ _) _ _ _)); dsimp only)))))))
      have nml : nm.length ≤ 6 := by have := congrArg List.length hnm1; simp at this; omega
      refine ⟨Dn, strValues nm, 0, _, _, fun j ys nw => StrsAre ys (((sixNames.take fs.length).take j).filter (fun y => decide (y ∈ below mk 13))) ∧ nw = _, rfl, rfl, F12, N12, by unfold strValues; rw [List.length_map]; omega, ⟨.nil, rfl⟩, fun j ys nw h => by obtain ⟨_, rfl⟩ := h; exact nth 5, ?_, ?_⟩
      · clear F12 N12
        rintro j v ys nw I2 oI2 C oC D2 m₂ h3 tk3 hv ⟨hys, rfl⟩ htk3 nC hx F N off ne
        have hZqq : ∃ p, nm[j]? = some p ∧ v = .str p.1 p.2 := by
          unfold strValues at hv
          rw [List.getElem?_map] at hv
          cases z : nm[j]? with
          | none => rw [z] at hv; cases hv
          | some p => rw [z] at hv; exact ⟨p, rfl, by simpa using hv.symm⟩
        refine ex1 hZqq ?_; (try clear hZqq); intro p; refine and2 ?_; intro hp yZq13x2
        obtain rfl := yZq13x2
        have hsn : (sixNames.take fs.length)[j]? = some p.1 := by rw [← hnm1, List.getElem?_map, hp]; rfl
        have cE' := InElt.start h3
        refine wpAny_tests_one ?_
        (repeat' ((fail_if_success (with_reducible show wpAny _ _ (exec (PySem.Stmt.Assign _ (PySem.Expr.ListComp _ _ _ _) _) _) _ _ _)); (fail_if_success (with_reducible show wpAny _ _ (eval (PySem.Expr.ListComp _ _ _ _) _) _ _ _)); (fail_if_success (with_reducible show LCg.CompSrc _ _ _ _ _ _ _ _ _ _ _ _ _ _)); (fail_if_success (with_reducible show LCg.CompEnd _ _ _ _ _ _ _ _ _ _ _ _ _ _)); (fail_if_success (with_reducible show CompT _ _ _ _ _ _ _ _ _ _ _ _ _ _)); (fail_if_success (with_reducible show wpAny _ _ (subscriptTail _ (PySem.Expr.Slice _ _ _ _) _ _) _ _ _)); (fail_if_success (with_reducible show wpAny _ _ (compareOp CmpOp.NotEq (Value.ref _) (Value.ref _)) _ _ _)); (first | ((with_reducible show TLe _ _ → _); intro hTzZq; (try dsimp only at hTzZq); (try dsimp only)) | ((with_reducible show wpAny _ _ (execs (_ :: _) _) _ _ _); (with_reducible refine execs_consT ‹TLe _ _› (by first | exact Nat.le_refl _ | exact Nat.le_add_right _ _ | omega) ?_); (try dsimp only)) | ((with_reducible show wpAny _ _ (execs [] _) _ _ _); (with_reducible refine wpAny_execs_nil ?_); (try dsimp only)) | (first | (k_unfold; (try dsimp only)) | ( (fail_if_success (with_reducible show wpAny _ _ (exec (Stmt.While _ _ _ _) _) _ _ _)); (fail_if_success (with_reducible show wpAny _ _ (exec (Stmt.For _ _ _ _ _) _) _ _ _)); (fail_if_success (with_reducible show wpAny _ _ (exec (Stmt.Try _ _ _ _ _) _) _ _ _)); (fail_if_success (with_reducible show wpAny _ _ (pyIter _) (fun it s₂ => Loop _ _ _ _ _ _ _ _ _ _ it s₂) _ _)); (fail_if_success (with_reducible show wpAny _ _ (call (Value.ref _) _ _) _ _ _)); walk1; (try ((first | (with_reducible show wpAny _ _ (spliced _) _ _ _) | (with_reducible show wpAny _ _ (newList _) _ _ _) | (with_reducible show wpAny _ _ (execs _ _) _ _ _)); dsimp only)))))))
        refine sp_contains (G.keeps F.keep) (R.le (by omega)) (N.get (.tail _ (.tail _ (.tail _ (.tail _ (List.mem_append_right _ hql)))))) hts.strs (by have := below_length mk 13; omega) ?_
        rintro v h' tk' kb rfl
        have F' := fr_kb0 F kb
        have N' := news_kb0 N kb
        (repeat' ((fail_if_success (with_reducible show wpAny _ _ (exec (PySem.Stmt.Assign _ (PySem.Expr.ListComp _ _ _ _) _) _) _ _ _)); (fail_if_success (with_reducible show wpAny _ _ (eval (PySem.Expr.ListComp _ _ _ _) _) _ _ _)); (fail_if_success (with_reducible show LCg.CompSrc _ _ _ _ _ _ _ _ _ _ _ _ _ _)); (fail_if_success (with_reducible show LCg.CompEnd _ _ _ _ _ _ _ _ _ _ _ _ _ _)); (fail_if_success (with_reducible show CompT _ _ _ _ _ _ _ _ _ _ _ _ _ _)); (fail_if_success (with_reducible show wpAny _ _ (subscriptTail _ (PySem.Expr.Slice _ _ _ _) _ _) _ _ _)); (fail_if_success (with_reducible show wpAny _ _ (compareOp CmpOp.NotEq (Value.ref _) (Value.ref _)) _ _ _)); (first | ((with_reducible show TLe _ _ → _); intro hTzZq; (try dsimp only at hTzZq); (try dsimp only)) | ((with_reducible show wpAny _ _ (execs (_ :: _) _) _ _ _); (with_reducible refine execs_consT ‹TLe _ _› (by first | exact Nat.le_refl _ | exact Nat.le_add_right _ _ | omega) ?_); (try dsimp only)) | ((with_reducible show wpAny _ _ (execs [] _) _ _ _); (with_reducible refine wpAny_execs_nil ?_); (try dsimp only)) | (first | (k_unfold; (try dsimp only)) | ( (fail_if_success (with_reducible show wpAny _ _ (exec (Stmt.While _ _ _ _) _) _ _ _)); (fail_if_success (with_reducible show wpAny _ _ (exec (Stmt.For _ _ _ _ _) _) _ _ _)); (fail_if_success (with_reducible show wpAny _ _ (exec (Stmt.Try _ _ _ _ _) _) _ _ _)); (fail_if_success (with_reducible show wpAny _ _ (pyIter _) (fun it s₂ => Loop _ _ _ _ _ _ _ _ _ _ it s₂) _ _)); (fail_if_success (with_reducible show wpAny _ _ (call (Value.ref _) _ _) _ _ _)); walk1; (try ((first | (with_reducible show wpAny _ _ (spliced _) _ _ _) | (with_reducible show wpAny _ _ (newList _) _ _ _) | (with_reducible show wpAny _ _ (execs _ _) _ _ _)); dsimp only)))))))
        · rename p.1 ∈ below mk 13 => hin
          refine ⟨h', _, _, rfl, F', N', off, trivial, ?_, rfl⟩
          rw [filt_snoc hsn, if_pos (by simpa using hin)]
          exact strs_snoc hys
        · rename ¬p.1 ∈ below mk 13 => hin
          show Hold _
          refine ⟨h', _, _, rfl, F', N', off, trivial, ?_, rfl⟩
          rw [filt_snoc hsn, if_neg (by simpa using hin), List.append_nil]
          exact hys
      · clear F12 N12
        rintro ys nw D2 h3 tk3 ⟨hys, rfl⟩ htk3 F N hD2
        rw [List.take_of_length_le (by rw [← hnm1]; simp [strValues]), hrn] at hys
        have nq := N.get (.tail _ (.tail _ (List.mem_append_right _ hql)))
        obtain ⟨as1, rd1⟩ := readsAll_strs (h := h3) hts.strs
        obtain ⟨as2, rd2⟩ := readsAll_strs (h := h3) hys
        (repeat' ((fail_if_success (with_reducible show wpAny _ _ (exec (PySem.Stmt.Assign _ (PySem.Expr.ListComp _ _ _ _) _) _) _ _ _)); (fail_if_success (with_reducible show wpAny _ _ (eval (PySem.Expr.ListComp _ _ _ _) _) _ _ _)); (fail_if_success (with_reducible show LCg.CompSrc _ _ _ _ _ _ _ _ _ _ _ _ _ _)); (fail_if_success (with_reducible show LCg.CompEnd _ _ _ _ _ _ _ _ _ _ _ _ _ _)); (fail_if_success (with_reducible show CompT _ _ _ _ _ _ _ _ _ _ _ _ _ _)); (fail_if_success (with_reducible show wpAny _ _ (subscriptTail _ (PySem.Expr.Slice _ _ _ _) _ _) _ _ _)); (fail_if_success (with_reducible show wpAny _ _ (compareOp CmpOp.NotEq (Value.ref _) (Value.ref _)) _ _ _)); (first | ((with_reducible show TLe _ _ → _); intro hTzZq; (try dsimp only at hTzZq); (try dsimp only)) | ((with_reducible show wpAny _ _ (execs (_ :: _) _) _ _ _); (with_reducible refine execs_consT ‹TLe _ _› (by first | exact Nat.le_refl _ | exact Nat.le_add_right _ _ | omega) ?_); (try dsimp only)) | ((with_reducible show wpAny _ _ (execs [] _) _ _ _); (with_reducible refine wpAny_execs_nil ?_); (try dsimp only)) | (first | (k_unfold; (try dsimp only)) | ( (fail_if_success (with_reducible show wpAny _ _ (exec (Stmt.While _ _ _ _) _) _ _ _)); (fail_if_success (with_reducible show wpAny _ _ (exec (Stmt.For _ _ _ _ _) _) _ _ _)); (fail_if_success (with_reducible show wpAny _ _ (exec (Stmt.Try _ _ _ _ _) _) _ _ _)); (fail_if_success (with_reducible show wpAny _ _ (pyIter _) (fun it s₂ => Loop _ _ _ _ _ _ _ _ _ _ it s₂) _ _)); (fail_if_success (with_reducible show wpAny _ _ (call (Value.ref _) _ _) _ _ _)); walk1; (try ((first | (with_reducible show wpAny _ _ (spliced _) _ _ _) | (with_reducible show wpAny _ _ (newList _) _ _ _) | (with_reducible show wpAny _ _ (execs _ _) _ _ _)); dsimp only)))))))
        refine r_same (reads_listO nq rd1) (reads_listO (N.get (.head _)) rd2) (lay_words mk1 mk2) (Rm.u64 R (by omega)) ?_
        (repeat' ((fail_if_success (with_reducible show wpAny _ _ (exec (PySem.Stmt.Assign _ (PySem.Expr.ListComp _ _ _ _) _) _) _ _ _)); (fail_if_success (with_reducible show wpAny _ _ (eval (PySem.Expr.ListComp _ _ _ _) _) _ _ _)); (fail_if_success (with_reducible show LCg.CompSrc _ _ _ _ _ _ _ _ _ _ _ _ _ _)); (fail_if_success (with_reducible show LCg.CompEnd _ _ _ _ _ _ _ _ _ _ _ _ _ _)); (fail_if_success (with_reducible show CompT _ _ _ _ _ _ _ _ _ _ _ _ _ _)); (fail_if_success (with_reducible show wpAny _ _ (subscriptTail _ (PySem.Expr.Slice _ _ _ _) _ _) _ _ _)); (fail_if_success (with_reducible show wpAny _ _ (compareOp CmpOp.NotEq (Value.ref _) (Value.ref _)) _ _ _)); (first | ((with_reducible show TLe _ _ → _); intro hTzZq; (try dsimp only at hTzZq); (try dsimp only)) | ((with_reducible show wpAny _ _ (execs (_ :: _) _) _ _ _); (with_reducible refine execs_consT ‹TLe _ _› (by first | exact Nat.le_refl _ | exact Nat.le_add_right _ _ | omega) ?_); (try dsimp only)) | ((with_reducible show wpAny _ _ (execs [] _) _ _ _); (with_reducible refine wpAny_execs_nil ?_); (try dsimp only)) | (first | (k_unfold; (try dsimp only)) | ( (fail_if_success (with_reducible show wpAny _ _ (exec (Stmt.While _ _ _ _) _) _ _ _)); (fail_if_success (with_reducible show wpAny _ _ (exec (Stmt.For _ _ _ _ _) _) _ _ _)); (fail_if_success (with_reducible show wpAny _ _ (exec (Stmt.Try _ _ _ _ _) _) _ _ _)); (fail_if_success (with_reducible show wpAny _ _ (pyIter _) (fun it s₂ => Loop _ _ _ _ _ _ _ _ _ _ it s₂) _ _)); (fail_if_success (with_reducible show wpAny _ _ (call (Value.ref _) _ _) _ _ _)); walk1; (try ((first | (with_reducible show wpAny _ _ (spliced _) _ _ _) | (with_reducible show wpAny _ _ (newList _) _ _ _) | (with_reducible show wpAny _ _ (execs _ _) _ _ _)); dsimp only)))))))
        have hql2 : q.2.1.length = (below mk 13).length := by have := hts.strs.length; omega
        have hbl := below_length mk 13
        refine r_len N (.tail _ (.tail _ (List.mem_append_right _ hql))) (by omega) ?_
        intro t14 tk14
        (repeat' ((fail_if_success (with_reducible show wpAny _ _ (exec (PySem.Stmt.Assign _ (PySem.Expr.ListComp _ _ _ _) _) _) _ _ _)); (fail_if_success (with_reducible show wpAny _ _ (eval (PySem.Expr.ListComp _ _ _ _) _) _ _ _)); (fail_if_success (with_reducible show LCg.CompSrc _ _ _ _ _ _ _ _ _ _ _ _ _ _)); (fail_if_success (with_reducible show LCg.CompEnd _ _ _ _ _ _ _ _ _ _ _ _ _ _)); (fail_if_success (with_reducible show CompT _ _ _ _ _ _ _ _ _ _ _ _ _ _)); (fail_if_success (with_reducible show wpAny _ _ (subscriptTail _ (PySem.Expr.Slice _ _ _ _) _ _) _ _ _)); (fail_if_success (with_reducible show wpAny _ _ (compareOp CmpOp.NotEq (Value.ref _) (Value.ref _)) _ _ _)); (first | ((with_reducible show TLe _ _ → _); intro hTzZq; (try dsimp only at hTzZq); (try dsimp only)) | ((with_reducible show wpAny _ _ (execs (_ :: _) _) _ _ _); (with_reducible refine execs_consT ‹TLe _ _› (by first | exact Nat.le_refl _ | exact Nat.le_add_right _ _ | omega) ?_); (try dsimp only)) | ((with_reducible show wpAny _ _ (execs [] _) _ _ _); (with_reducible refine wpAny_execs_nil ?_); (try dsimp only)) | (first | (k_unfold; (try dsimp only)) | ( (fail_if_success (with_reducible show wpAny _ _ (exec (Stmt.While _ _ _ _) _) _ _ _)); (fail_if_success (with_reducible show wpAny _ _ (exec (Stmt.For _ _ _ _ _) _) _ _ _)); (fail_if_success (with_reducible show wpAny _ _ (exec (Stmt.Try _ _ _ _ _) _) _ _ _)); (fail_if_success (with_reducible show wpAny _ _ (pyIter _) (fun it s₂ => Loop _ _ _ _ _ _ _ _ _ _ it s₂) _ _)); (fail_if_success (with_reducible show wpAny _ _ (call (Value.ref _) _ _) _ _ _)); walk1; (try ((first | (with_reducible show wpAny _ _ (spliced _) _ _ _) | (with_reducible show wpAny _ _ (newList _) _ _ _) | (with_reducible show wpAny _ _ (execs _ _) _ _ _)); dsimp only)))))))
        obtain ⟨tr, htr⟩ := ir.get i r hri
        refine item_listL (l := [.int a ta, .ref r1]) (isL (N.get (nth 10))) (by omega) (by omega) (x := .ref r1) rfl ?_
        (repeat' ((fail_if_success (with_reducible show wpAny _ _ (exec (PySem.Stmt.Assign _ (PySem.Expr.ListComp _ _ _ _) _) _) _ _ _)); (fail_if_success (with_reducible show wpAny _ _ (eval (PySem.Expr.ListComp _ _ _ _) _) _ _ _)); (fail_if_success (with_reducible show LCg.CompSrc _ _ _ _ _ _ _ _ _ _ _ _ _ _)); (fail_if_success (with_reducible show LCg.CompEnd _ _ _ _ _ _ _ _ _ _ _ _ _ _)); (fail_if_success (with_reducible show CompT _ _ _ _ _ _ _ _ _ _ _ _ _ _)); (fail_if_success (with_reducible show wpAny _ _ (subscriptTail _ (PySem.Expr.Slice _ _ _ _) _ _) _ _ _)); (fail_if_success (with_reducible show wpAny _ _ (compareOp CmpOp.NotEq (Value.ref _) (Value.ref _)) _ _ _)); (first | ((with_reducible show TLe _ _ → _); intro hTzZq; (try dsimp only at hTzZq); (try dsimp only)) | ((with_reducible show wpAny _ _ (execs (_ :: _) _) _ _ _); (with_reducible refine execs_consT ‹TLe _ _› (by first | exact Nat.le_refl _ | exact Nat.le_add_right _ _ | omega) ?_); (try dsimp only)) | ((with_reducible show wpAny _ _ (execs [] _) _ _ _); (with_reducible refine wpAny_execs_nil ?_); (try dsimp only)) | (first | (k_unfold; (try dsimp only)) | ( (fail_if_success (with_reducible show wpAny _ _ (exec (Stmt.While _ _ _ _) _) _ _ _)); (fail_if_success (with_reducible show wpAny _ _ (exec (Stmt.For _ _ _ _ _) _) _ _ _)); (fail_if_success (with_reducible show wpAny _ _ (exec (Stmt.Try _ _ _ _ _) _) _ _ _)); (fail_if_success (with_reducible show wpAny _ _ (pyIter _) (fun it s₂ => Loop _ _ _ _ _ _ _ _ _ _ it s₂) _ _)); (fail_if_success (with_reducible show wpAny _ _ (call (Value.ref _) _ _) _ _ _)); walk1; (try ((first | (with_reducible show wpAny _ _ (spliced _) _ _ _) | (with_reducible show wpAny _ _ (newList _) _ _ _) | (with_reducible show wpAny _ _ (execs _ _) _ _ _)); dsimp only)))))))
        have hg : rs.getD (Int.toNat (i : Int)) 0 = r := by simp [List.getD, hri]
        · rename rs.getD _ 0 < _ => hlt
          rw [hg] at hlt; omega
        refine sp_iadd (base := g0) G (Fr.keep ‹_›) (R.le (by omega)) (N.get (nth 4)) (N _ (nth 4)).2.2 nq (Nat.ne_of_lt (dwl _ (List.mem_append_right _ hql))) (by omega) ?_
        intro v h' tk' kb xZq1
        refine ex1 xZq1 ?_; (try clear xZq1); intro n'; refine and2 ?_; intro yZq14x1 e1
        obtain rfl := yZq14x1
        have nwl := N _ (nth 4)
        have F15 := fr_kb F kb (by simpa using Ne.symm nwl.2.1) (by simpa using nwl.2.2)
        have hI : ∀ p ∈ [(L + 1 + 1, oW1), (wl, listO (wv ++ q.2.1) n'), (D, listO (tbl.map fun q => Value.ref q.1) (tbl.map fun q => Value.ref q.1).length), (Dn, listO (strValues nm) 0), (f1, listO vf nf), (fa, listO [.int b tb, .ref f1] nb), (r1, listO vr nr), (ra, listO [.int a ta, .ref r1] na), (L + 1 + 1 + 1, oS12)] ++ ledW tbl, p.1 ≠ I := by
          intro p hp
          rcases List.mem_append.mp hp with hp | hp
          · simp only [List.mem_cons, List.not_mem_nil, or_false] at hp
            rcases hp with rfl | rfl | rfl | rfl | rfl | rfl | rfl | rfl | rfl
            · exact hnI (L + 1 + 1, oW1) (nth 0)
            · exact hnI (wl, listO wv wn) (nth 1)
            · exact hnI _ (nth 2)
            · exact hnI _ (nth 3)
            · exact hnI _ (nth 4)
            · exact hnI _ (nth 5)
            · exact hnI _ (nth 6)
            · exact hnI _ (nth 7)
            · exact hnI (L + 1 + 1 + 1, oS1) (nth 8)
          · exact hnI p (List.mem_append_right _ hp)
        have N15 : News g0 L h' ((I, oI) :: ([(L + 1 + 1, oW1), (wl, listO (wv ++ q.2.1) n'), (D, listO (tbl.map fun q => Value.ref q.1) (tbl.map fun q => Value.ref q.1).length), (Dn, listO (strValues nm) 0), (f1, listO vf nf), (fa, listO [.int b tb, .ref f1] nb), (r1, listO vr nr), (ra, listO [.int a ta, .ref r1] na), (L + 1 + 1 + 1, oS12)] ++ ledW tbl)) := news_turn' N kb e1 nwl.2.1 nwl.2.2 (by
          intro p hp
          rcases List.mem_cons.mp hp with rfl | hp
          · exact .inr ⟨nth 2, Ne.symm (hnI (wl, listO wv wn) (nth 1))⟩
          rcases List.mem_append.mp hp with hp | hp
          · simp only [List.mem_cons, List.not_mem_nil, or_false] at hp
            rcases hp with rfl | rfl | rfl | rfl | rfl | rfl | rfl | rfl | rfl
            · exact .inr ⟨nth 3, Nat.ne_of_lt (dwl (L + 1 + 1, oW) (nth 7))⟩
            · exact .inl rfl
            · exact .inr ⟨nth 5, Nat.ne_of_lt hDwl⟩
            · exact .inr ⟨nth 6, Nat.ne_of_lt (dwl _ (nth 1))⟩
            · exact .inr ⟨nth 7, Nat.ne_of_lt (dwl _ (nth 3))⟩
            · exact .inr ⟨nth 8, Nat.ne_of_lt (dwl _ (nth 2))⟩
            · exact .inr ⟨nth 9, Nat.ne_of_lt (dwl _ (nth 5))⟩
            · exact .inr ⟨nth 10, Nat.ne_of_lt (dwl _ (nth 4))⟩
            · exact .inr ⟨nth 1, Nat.ne_of_lt (dwl (L + 1 + 1 + 1, oS) (nth 6))⟩
          · exact .inr ⟨.tail _ (.tail _ (List.mem_append_right _ hp)), Nat.ne_of_lt (dwl p (List.mem_append_right _ hp))⟩)
        refine r_storeC (cl := cellsFrom (L + 1) _ []) ((I, oI) :: ([(wl, listO (wv ++ q.2.1) n'), (D, listO (tbl.map fun q => Value.ref q.1) (tbl.map fun q => Value.ref q.1).length), (Dn, listO (strValues nm) 0), (f1, listO vf nf), (fa, listO [.int b tb, .ref f1] nb), (r1, listO vr nr), (ra, listO [.int a ta, .ref r1] na), (L + 1 + 1 + 1, oS12)] ++ ledW tbl)) F15 N15 (c := L + 1 + 1) (o := oW1) (nth 1) ?_ dW1 ?_
        · intro p hp
          rcases List.mem_cons.mp hp with rfl | hp
          · exact ⟨nth 0, Ne.symm (hnI (L + 1 + 1, oW1) (nth 0))⟩
          rcases List.mem_append.mp hp with hp | hp
          · simp only [List.mem_cons, List.not_mem_nil, or_false] at hp
            rcases hp with rfl | rfl | rfl | rfl | rfl | rfl | rfl | rfl
            · exact ⟨nth 2, Nat.ne_of_gt (dwl (L + 1 + 1, oW) (nth 7))⟩
            · exact ⟨nth 3, Ne.symm (hD (L + 1 + 1, oW) (nth 7))⟩
            · exact ⟨nth 4, Nat.ne_of_gt dDn'.2⟩
            · exact ⟨nth 5, (hne f1 (nth 1)).1⟩
            · exact ⟨nth 6, (hne fa (nth 0)).1⟩
            · exact ⟨nth 7, (hne r1 (nth 3)).1⟩
            · exact ⟨nth 8, (hne ra (nth 2)).1⟩
            · exact ⟨nth 9, Nat.ne_of_gt (Nat.lt_succ_self _)⟩
          · have hZqq := List.mem_map.mp hp
            refine ex1 hZqq ?_; (try clear hZqq); intro q'; refine and2 ?_; intro hq' yZq15x2
            obtain rfl := yZq15x2
            exact ⟨.tail _ (List.mem_append_right _ hp), (htn q' hq').1⟩
        intro h16 oW16 F16 N16 dW16
        (repeat' ((fail_if_success (with_reducible show wpAny _ _ (exec (PySem.Stmt.Assign _ (PySem.Expr.ListComp _ _ _ _) _) _) _ _ _)); (fail_if_success (with_reducible show wpAny _ _ (eval (PySem.Expr.ListComp _ _ _ _) _) _ _ _)); (fail_if_success (with_reducible show LCg.CompSrc _ _ _ _ _ _ _ _ _ _ _ _ _ _)); (fail_if_success (with_reducible show LCg.CompEnd _ _ _ _ _ _ _ _ _ _ _ _ _ _)); (fail_if_success (with_reducible show CompT _ _ _ _ _ _ _ _ _ _ _ _ _ _)); (fail_if_success (with_reducible show wpAny _ _ (subscriptTail _ (PySem.Expr.Slice _ _ _ _) _ _) _ _ _)); (fail_if_success (with_reducible show wpAny _ _ (compareOp CmpOp.NotEq (Value.ref _) (Value.ref _)) _ _ _)); (first | ((with_reducible show TLe _ _ → _); intro hTzZq; (try dsimp only at hTzZq); (try dsimp only)) | ((with_reducible show wpAny _ _ (execs (_ :: _) _) _ _ _); (with_reducible refine execs_consT ‹TLe _ _› (by first | exact Nat.le_refl _ | exact Nat.le_add_right _ _ | omega) ?_); (try dsimp only)) | ((with_reducible show wpAny _ _ (execs [] _) _ _ _); (with_reducible refine wpAny_execs_nil ?_); (try dsimp only)) | (first | (k_unfold; (try dsimp only)) | ( (fail_if_success (with_reducible show wpAny _ _ (exec (Stmt.While _ _ _ _) _) _ _ _)); (fail_if_success (with_reducible show wpAny _ _ (exec (Stmt.For _ _ _ _ _) _) _ _ _)); (fail_if_success (with_reducible show wpAny _ _ (exec (Stmt.Try _ _ _ _ _) _) _ _ _)); (fail_if_success (with_reducible show wpAny _ _ (pyIter _) (fun it s₂ => Loop _ _ _ _ _ _ _ _ _ _ it s₂) _ _)); (fail_if_success (with_reducible show wpAny _ _ (call (Value.ref _) _ _) _ _ _)); walk1; (try ((first | (with_reducible show wpAny _ _ (spliced _) _ _ _) | (with_reducible show wpAny _ _ (newList _) _ _ _) | (with_reducible show wpAny _ _ (execs _ _) _ _ _)); dsimp only)))))))
        refine ⟨h16, _, _, [(L + 1 + 1, oW16), (wl, listO (wv ++ q.2.1) n'), (D, listO (tbl.map fun q => Value.ref q.1) (tbl.map fun q => Value.ref q.1).length), (Dn, listO (strValues nm) 0), (f1, listO vf nf), (fa, listO [.int b tb, .ref f1] nb), (r1, listO vr nr), (ra, listO [.int a ta, .ref r1] na), (L + 1 + 1 + 1, oS12)] ++ ledW tbl, rfl, F16, ?_, ?_, ⟨rfl, rfl, rfl, rfl, trivial⟩, oW16, oS12, wv ++ q.2.1, n', rfl, dW16, ⟨_, dS12⟩, ?_, ?_⟩
        · intro p hp
          rcases List.mem_cons.mp hp with rfl | hp
          · exact N16 _ (nth 1)
          rcases List.mem_cons.mp hp with rfl | hp
          · exact N16 _ (nth 0)
          · exact N16 p (.tail _ (.tail _ hp))
        · intro p hp
          rcases List.mem_cons.mp hp with rfl | hp
          · exact hI (L + 1 + 1, oW1) (nth 0)
          · exact hI p (.tail _ hp)
        · rw [hwv, List.take_add_one, hq, List.flatMap_append]; simp
        · rw [List.length_append]; omega
    · clear F10 N10 Ir
      intro h tk m₁ news₁ xZq1 F N
      obtain ⟨em1, oW1, oS1, wv, wn, rfl, dW1, ⟨v0, dS1⟩, hwv, hwl⟩ := xZq1
      replace F := fr_has F em1
      repeat' ((fail_if_success (with_reducible show wpAny _ _ (execs (PySem.Stmt.Assign [PySem.Expr.Name (PySem.Str.ofString "counts") _] _ _ :: _) _) _ _ _)); (first | ((with_reducible show TLe _ _ → _); intro hTzZq; (try dsimp only at hTzZq); (try dsimp only)) | ((with_reducible show wpAny _ _ (execs (_ :: _) _) _ _ _); (with_reducible refine execs_consT ‹TLe _ _› (by first | exact Nat.le_refl _ | exact Nat.le_add_right _ _ | omega) ?_); (try dsimp only)) | ((with_reducible show wpAny _ _ (execs [] _) _ _ _); (with_reducible refine wpAny_execs_nil ?_); (try dsimp only)) | (first | (k_unfold; (try dsimp only)) | ( (fail_if_success (with_reducible show wpAny _ _ (exec (Stmt.While _ _ _ _) _) _ _ _)); (fail_if_success (with_reducible show wpAny _ _ (exec (Stmt.For _ _ _ _ _) _) _ _ _)); (fail_if_success (with_reducible show wpAny _ _ (exec (Stmt.Try _ _ _ _ _) _) _ _ _)); (fail_if_success (with_reducible show wpAny _ _ (pyIter _) (fun it s₂ => Loop _ _ _ _ _ _ _ _ _ _ it s₂) _ _)); (fail_if_success (with_reducible show wpAny _ _ (call (Value.ref _) _ _) _ _ _)); walk1; (try ((first | (with_reducible show wpAny _ _ (spliced _) _ _ _) | (with_reducible show wpAny _ _ (newList _) _ _ _) | (with_reducible show wpAny _ _ (execs _ _) _ _ _)); dsimp only))))))
      have N17 : News g0 L h [(L + 1 + 1, oW1), (wl, listO wv wn), (Dn, listO (strValues nm) 0), (f1, listO vf nf), (fa, listO [.int b tb, .ref f1] nb), (r1, listO vr nr), (ra, listO [.int a ta, .ref r1] na)] := news_pick N [0, 1, 3, 4, 5, 6, 7]
      refine law_tail2 (T6 := s.toks + 6) G R hB F ⟨rfl, rfl, rfl, trivial⟩ N17 dW1 ?_ hnm1 ?_ ir jf hr5 hf6 hrr hfr (by omega) ?_
      · rw [hwv, List.take_of_length_le (by omega)]
        unfold wornL
        rw [hmk]
        exact TS.flat tbl mks (by omega) htb
      · intro p hp
        have hZqq := hnm2 p hp
        refine ex1 hZqq ?_; (try clear hZqq); intro k; refine and2 ?_; intro hk e
        exact ⟨by rw [e]; show 252 ≤ s.toks + k; omega, by rw [e]; show s.toks + k < s.toks + 6; omega⟩
      · intro h' tk' k
        exact hQ h' tk' k
-- needs C3 C4 C6 C7 C8 C9 C10 C11 C14 C15 C17 C18 C19 C26 C27 C28 C29 C30 C37 C39 C40 C41 C42
theorem sp_law {prog : Program} {w : World} {A : Around} {E : Value → Shared → Prop} {s : Shared} {Q : Value → Shared → Prop}
   {sa : Addr} {vs : List Value} {ns : List Int}
   (G : Gd w s.heap) (R : Rm A 20) (hfr : A.frames = some []) (hB : NoneBooked s.heap) (hT0 : 252 ≤ s.toks) (hbare : AllBare s.gens)
   (hl : s.heap.IsList sa vs.toArray) (hi : IntsAre vs ns) (hz : ns.length ≤ 63)
   (hQ : ∀ h' tk' gens', AllBare gens' → (∀ b o, s.heap.get? b = some o → h'.get? b = some o) → Q (.bool true) { s with heap := h', toks := tk', gens := gens' }) :
   wpAny (model prog w) A (call (.ref 176) [.ref sa]) Q E s := by
  (((have kkZq : PySem.Challenge.rw_wu0059_01 = PySem.Challenge.rw_wu0059_01 ∧ Mine.hd.heap_39 = Mine.hd.heap_39 := ⟨rfl, rfl⟩); revert kkZq; k_fill; intro kkZq; clear kkZq; w_on))
  (((rename Rm _ _ => rrZq); (rename Around => aaZq); (have e0Zq := Rm.h rrZq); rcases aaZq with ⟨hhZq, d1Zq, d2Zq, d3Zq, d4Zq⟩; dsimp only at e0Zq; subst e0Zq))
  have R := ‹Rm _ 20›
  dsimp only at hfr
  subst hfr
  refine enterCT [(Str.ofString "script", .ref sa)] G R.room (by k_is) (by k_is) (by (first | exact BindsTo.of_eq rfl | exact binds_K (Gd.X (by assumption)) rfl (by k_is) rfl rfl rfl | exact binds_K (Gd.X (Gd.keeps (by assumption) (by assumption))) rfl (by k_is) rfl rfl rfl)) rfl (by decide +kernel) rfl rfl rfl ?_
  intro L h₁ tk cells hle F N Y X
  have hZqq := CellsAre.three Y
  refine ex3 hZqq ?_; (try clear hZqq); intro oS oW oT; refine and4 ?_; intro hE' dS dW dT
  subst hE'
  clear Y
  have hZqq := G.T
  refine ex5 hZqq ?_; (try clear hZqq); intro pp l m mg mb; intro T
  have hTz : TLe s.toks tk := hle
  (repeat' ((fail_if_success (with_reducible show wpAny _ _ (exec (PySem.Stmt.Assign _ (PySem.Expr.ListComp _ _ _ _) _) _) _ _ _)); (fail_if_success (with_reducible show wpAny _ _ (eval (PySem.Expr.ListComp _ _ _ _) _) _ _ _)); (fail_if_success (with_reducible show LCg.CompSrc _ _ _ _ _ _ _ _ _ _ _ _ _ _)); (fail_if_success (with_reducible show LCg.CompEnd _ _ _ _ _ _ _ _ _ _ _ _ _ _)); (fail_if_success (with_reducible show CompT _ _ _ _ _ _ _ _ _ _ _ _ _ _)); (fail_if_success (with_reducible show wpAny _ _ (subscriptTail _ (PySem.Expr.Slice _ _ _ _) _ _) _ _ _)); (fail_if_success (with_reducible show wpAny _ _ (compareOp CmpOp.NotEq (Value.ref _) (Value.ref _)) _ _ _)); (first | ((with_reducible show TLe _ _ → _); intro hTzZq; (try dsimp only at hTzZq); (try dsimp only)) | ((with_reducible show wpAny _ _ (execs (_ :: _) _) _ _ _); (with_reducible refine execs_consT ‹TLe _ _› (by first | exact Nat.le_refl _ | exact Nat.le_add_right _ _ | omega) ?_); (try dsimp only)) | ((with_reducible show wpAny _ _ (execs [] _) _ _ _); (with_reducible refine wpAny_execs_nil ?_); (try dsimp only)) | (first | (k_unfold; (try dsimp only)) | ( (fail_if_success (with_reducible show wpAny _ _ (exec (Stmt.While _ _ _ _) _) _ _ _)); (fail_if_success (with_reducible show wpAny _ _ (exec (Stmt.For _ _ _ _ _) _) _ _ _)); (fail_if_success (with_reducible show wpAny _ _ (exec (Stmt.Try _ _ _ _ _) _) _ _ _)); (fail_if_success (with_reducible show wpAny _ _ (pyIter _) (fun it s₂ => Loop _ _ _ _ _ _ _ _ _ _ it s₂) _ _)); (fail_if_success (with_reducible show wpAny _ _ (call (Value.ref _) _ _) _ _ _)); (try k_fold); walk1; (try ((first | (with_reducible show wpAny _ _ (spliced _) _ _ _) | (with_reducible show wpAny _ _ (newList _) _ _ _) | (with_reducible show wpAny _ _ (execs _ _) _ _ _)); dsimp only)))))))
  refine sp_sizes (G.keeps (Fr.keep ‹_›)) ((R.deeper _).le (by omega)) (hl.at fun o e => Fr.keep ‹_› _ _ e) hi (by omega) ?_
  intro v h' tk' kb xZq1
  refine ex3 xZq1 ?_; (try clear xZq1); intro za vz nz; refine and4 ?_; intro yZq2x3 ez z0 iz
  obtain rfl := yZq2x3
  have hZqq := got_new ‹Fr _ _ _ _› ‹News _ _ _ _› kb ez z0
  refine andI hZqq ?_; (try clear hZqq); refine and3 ?_; intro F1 N1 d1
  clear kb z0
  (repeat' ((fail_if_success (with_reducible show wpAny _ _ (exec (PySem.Stmt.Assign _ (PySem.Expr.ListComp _ _ _ _) _) _) _ _ _)); (fail_if_success (with_reducible show wpAny _ _ (eval (PySem.Expr.ListComp _ _ _ _) _) _ _ _)); (fail_if_success (with_reducible show LCg.CompSrc _ _ _ _ _ _ _ _ _ _ _ _ _ _)); (fail_if_success (with_reducible show LCg.CompEnd _ _ _ _ _ _ _ _ _ _ _ _ _ _)); (fail_if_success (with_reducible show CompT _ _ _ _ _ _ _ _ _ _ _ _ _ _)); (fail_if_success (with_reducible show wpAny _ _ (subscriptTail _ (PySem.Expr.Slice _ _ _ _) _ _) _ _ _)); (fail_if_success (with_reducible show wpAny _ _ (compareOp CmpOp.NotEq (Value.ref _) (Value.ref _)) _ _ _)); (first | ((with_reducible show TLe _ _ → _); intro hTzZq; (try dsimp only at hTzZq); (try dsimp only)) | ((with_reducible show wpAny _ _ (execs (_ :: _) _) _ _ _); (with_reducible refine execs_consT ‹TLe _ _› (by first | exact Nat.le_refl _ | exact Nat.le_add_right _ _ | omega) ?_); (try dsimp only)) | ((with_reducible show wpAny _ _ (execs [] _) _ _ _); (with_reducible refine wpAny_execs_nil ?_); (try dsimp only)) | (first | (k_unfold; (try dsimp only)) | ( (fail_if_success (with_reducible show wpAny _ _ (exec (Stmt.While _ _ _ _) _) _ _ _)); (fail_if_success (with_reducible show wpAny _ _ (exec (Stmt.For _ _ _ _ _) _) _ _ _)); (fail_if_success (with_reducible show wpAny _ _ (exec (Stmt.Try _ _ _ _ _) _) _ _ _)); (fail_if_success (with_reducible show wpAny _ _ (pyIter _) (fun it s₂ => Loop _ _ _ _ _ _ _ _ _ _ it s₂) _ _)); (fail_if_success (with_reducible show wpAny _ _ (call (Value.ref _) _ _) _ _ _)); (try k_fold); walk1; (try ((first | (with_reducible show wpAny _ _ (spliced _) _ _ _) | (with_reducible show wpAny _ _ (newList _) _ _ _) | (with_reducible show wpAny _ _ (execs _ _) _ _ _)); dsimp only)))))))
  obtain ⟨sz, hsz⟩ : ∃ sz, sz = (inp ns).map szOf := ⟨_, rfl⟩
  rw [← hsz] at iz
  have sz10 : sz.length = 10 := by rw [hsz, List.length_map, inp_length]
  have szr : ∀ x ∈ sz, 0 ≤ x ∧ x < 262144 := fun x hx => by rw [hsz] at hx; obtain ⟨y, _, rfl⟩ := List.mem_map.mp hx; exact szOf_range y
  clear hsz
  refine sp_octets (G.keeps (Fr.keep ‹_›)) ((R.deeper _).le (by omega)) (News.get ‹News _ _ _ _› (.head _)) iz (by omega) szr ?_
  intro v h' tk' kb xZq1
  refine ex3 xZq1 ?_; (try clear xZq1); intro oa vo no; refine and4 ?_; intro yZq4x3 eo o0 io
  obtain rfl := yZq4x3
  have hZqq := got_new ‹Fr _ _ _ _› ‹News _ _ _ _› kb eo o0
  refine andI hZqq ?_; (try clear hZqq); refine and3 ?_; intro F1 N1 d2
  clear kb o0
  have loa : h'.IsList oa vo.toArray := isL (N1.get (.head _))
  (repeat' ((fail_if_success (with_reducible show wpAny _ _ (exec (PySem.Stmt.Assign _ (PySem.Expr.ListComp _ _ _ _) _) _) _ _ _)); (fail_if_success (with_reducible show wpAny _ _ (eval (PySem.Expr.ListComp _ _ _ _) _) _ _ _)); (fail_if_success (with_reducible show LCg.CompSrc _ _ _ _ _ _ _ _ _ _ _ _ _ _)); (fail_if_success (with_reducible show LCg.CompEnd _ _ _ _ _ _ _ _ _ _ _ _ _ _)); (fail_if_success (with_reducible show CompT _ _ _ _ _ _ _ _ _ _ _ _ _ _)); (fail_if_success (with_reducible show wpAny _ _ (subscriptTail _ (PySem.Expr.Slice _ _ _ _) _ _) _ _ _)); (fail_if_success (with_reducible show wpAny _ _ (compareOp CmpOp.NotEq (Value.ref _) (Value.ref _)) _ _ _)); (first | ((with_reducible show TLe _ _ → _); intro hTzZq; (try dsimp only at hTzZq); (try dsimp only)) | ((with_reducible show wpAny _ _ (execs (_ :: _) _) _ _ _); (with_reducible refine execs_consT ‹TLe _ _› (by first | exact Nat.le_refl _ | exact Nat.le_add_right _ _ | omega) ?_); (try dsimp only)) | ((with_reducible show wpAny _ _ (execs [] _) _ _ _); (with_reducible refine wpAny_execs_nil ?_); (try dsimp only)) | (first | (k_unfold; (try dsimp only)) | ( (fail_if_success (with_reducible show wpAny _ _ (exec (Stmt.While _ _ _ _) _) _ _ _)); (fail_if_success (with_reducible show wpAny _ _ (exec (Stmt.For _ _ _ _ _) _) _ _ _)); (fail_if_success (with_reducible show wpAny _ _ (exec (Stmt.Try _ _ _ _ _) _) _ _ _)); (fail_if_success (with_reducible show wpAny _ _ (pyIter _) (fun it s₂ => Loop _ _ _ _ _ _ _ _ _ _ it s₂) _ _)); (fail_if_success (with_reducible show wpAny _ _ (call (Value.ref _) _ _) _ _ _)); (try k_fold); walk1; (try ((first | (with_reducible show wpAny _ _ (spliced _) _ _ _) | (with_reducible show wpAny _ _ (newList _) _ _ _) | (with_reducible show wpAny _ _ (execs _ _) _ _ _)); dsimp only)))))))
  show wpAny _ _ (call (.builtin "iter") [.ref oa]) _ _ _
  refine r_iter F1 N1 loa ?_
  intro It h3 oIt F3 N3 dIt liIt
  (repeat' ((fail_if_success (with_reducible show wpAny _ _ (exec (PySem.Stmt.Assign _ (PySem.Expr.ListComp _ _ _ _) _) _) _ _ _)); (fail_if_success (with_reducible show wpAny _ _ (eval (PySem.Expr.ListComp _ _ _ _) _) _ _ _)); (fail_if_success (with_reducible show LCg.CompSrc _ _ _ _ _ _ _ _ _ _ _ _ _ _)); (fail_if_success (with_reducible show LCg.CompEnd _ _ _ _ _ _ _ _ _ _ _ _ _ _)); (fail_if_success (with_reducible show CompT _ _ _ _ _ _ _ _ _ _ _ _ _ _)); (fail_if_success (with_reducible show wpAny _ _ (subscriptTail _ (PySem.Expr.Slice _ _ _ _) _ _) _ _ _)); (fail_if_success (with_reducible show wpAny _ _ (compareOp CmpOp.NotEq (Value.ref _) (Value.ref _)) _ _ _)); (first | ((with_reducible show TLe _ _ → _); intro hTzZq; (try dsimp only at hTzZq); (try dsimp only)) | ((with_reducible show wpAny _ _ (execs (_ :: _) _) _ _ _); (with_reducible refine execs_consT ‹TLe _ _› (by first | exact Nat.le_refl _ | exact Nat.le_add_right _ _ | omega) ?_); (try dsimp only)) | ((with_reducible show wpAny _ _ (execs [] _) _ _ _); (with_reducible refine wpAny_execs_nil ?_); (try dsimp only)) | (first | (k_unfold; (try dsimp only)) | ( (fail_if_success (with_reducible show wpAny _ _ (exec (Stmt.While _ _ _ _) _) _ _ _)); (fail_if_success (with_reducible show wpAny _ _ (exec (Stmt.For _ _ _ _ _) _) _ _ _)); (fail_if_success (with_reducible show wpAny _ _ (exec (Stmt.Try _ _ _ _ _) _) _ _ _)); (fail_if_success (with_reducible show wpAny _ _ (pyIter _) (fun it s₂ => Loop _ _ _ _ _ _ _ _ _ _ it s₂) _ _)); (fail_if_success (with_reducible show wpAny _ _ (call (Value.ref _) _ _) _ _ _)); (try k_fold); walk1; (try ((first | (with_reducible show wpAny _ _ (spliced _) _ _ _) | (with_reducible show wpAny _ _ (newList _) _ _ _) | (with_reducible show wpAny _ _ (execs _ _) _ _ _)); dsimp only)))))))
  refine r_storeC (cl := cellsFrom (L + 1) _ []) [(It, oIt), (oa, listO vo no), (za, listO vz nz), (L + 1 + 1 + 1, oS), (L + 1 + 1, oW)] F3 N3 (.tail _ (.tail _ (.tail _ (.tail _ (.tail _ (.head _)))))) ?_ dT ?_
  · intro p hp
    simp only [List.mem_cons, List.not_mem_nil, or_false] at hp
    rcases hp with rfl | rfl | rfl | rfl | rfl
    · exact ⟨nth 0, Nat.ne_of_gt (dIt (L + 1, oT) (nth 4))⟩
    · exact ⟨nth 1, Ne.symm (d2 (L + 1, oT) (nth 3))⟩
    · exact ⟨nth 2, Ne.symm (d1 (L + 1, oT) (nth 2))⟩
    · exact ⟨nth 3, Nat.ne_of_gt (Nat.lt_succ_of_lt (Nat.lt_succ_self _))⟩
    · exact ⟨nth 4, Nat.ne_of_gt (Nat.lt_succ_self _)⟩
  intro h4 oT4 F4 N4 dT4
  (repeat' ((fail_if_success (with_reducible show wpAny _ _ (exec (PySem.Stmt.Assign _ (PySem.Expr.ListComp _ _ _ _) _) _) _ _ _)); (fail_if_success (with_reducible show wpAny _ _ (eval (PySem.Expr.ListComp _ _ _ _) _) _ _ _)); (fail_if_success (with_reducible show LCg.CompSrc _ _ _ _ _ _ _ _ _ _ _ _ _ _)); (fail_if_success (with_reducible show LCg.CompEnd _ _ _ _ _ _ _ _ _ _ _ _ _ _)); (fail_if_success (with_reducible show CompT _ _ _ _ _ _ _ _ _ _ _ _ _ _)); (fail_if_success (with_reducible show wpAny _ _ (subscriptTail _ (PySem.Expr.Slice _ _ _ _) _ _) _ _ _)); (fail_if_success (with_reducible show wpAny _ _ (compareOp CmpOp.NotEq (Value.ref _) (Value.ref _)) _ _ _)); (first | ((with_reducible show TLe _ _ → _); intro hTzZq; (try dsimp only at hTzZq); (try dsimp only)) | ((with_reducible show wpAny _ _ (execs (_ :: _) _) _ _ _); (with_reducible refine execs_consT ‹TLe _ _› (by first | exact Nat.le_refl _ | exact Nat.le_add_right _ _ | omega) ?_); (try dsimp only)) | ((with_reducible show wpAny _ _ (execs [] _) _ _ _); (with_reducible refine wpAny_execs_nil ?_); (try dsimp only)) | (first | (k_unfold; (try dsimp only)) | ( (fail_if_success (with_reducible show wpAny _ _ (exec (Stmt.While _ _ _ _) _) _ _ _)); (fail_if_success (with_reducible show wpAny _ _ (exec (Stmt.For _ _ _ _ _) _) _ _ _)); (fail_if_success (with_reducible show wpAny _ _ (exec (Stmt.Try _ _ _ _ _) _) _ _ _)); (fail_if_success (with_reducible show wpAny _ _ (pyIter _) (fun it s₂ => Loop _ _ _ _ _ _ _ _ _ _ it s₂) _ _)); (fail_if_success (with_reducible show wpAny _ _ (call (Value.ref _) _ _) _ _ _)); (try k_fold); walk1; (try ((first | (with_reducible show wpAny _ _ (spliced _) _ _ _) | (with_reducible show wpAny _ _ (newList _) _ _ _) | (with_reducible show wpAny _ _ (execs _ _) _ _ _)); dsimp only)))))))
  have vz10 : vz.length = 10 := by have := iz.length; omega
  refine r_compA (L := L) (h₀ := s.heap) rfl (by first | rfl | with_unfolding_all rfl) (by with_unfolding_all rfl) (by decide) (by rfl) (by decide) (by rfl) (by rfl) (by rfl) ?_
  (repeat' ((fail_if_success (with_reducible show wpAny _ _ (exec (PySem.Stmt.Assign _ (PySem.Expr.ListComp _ _ _ _) _) _) _ _ _)); (fail_if_success (with_reducible show wpAny _ _ (eval (PySem.Expr.ListComp _ _ _ _) _) _ _ _)); (fail_if_success (with_reducible show LCg.CompSrc _ _ _ _ _ _ _ _ _ _ _ _ _ _)); (fail_if_success (with_reducible show LCg.CompEnd _ _ _ _ _ _ _ _ _ _ _ _ _ _)); (fail_if_success (with_reducible show CompT _ _ _ _ _ _ _ _ _ _ _ _ _ _)); (fail_if_success (with_reducible show wpAny _ _ (subscriptTail _ (PySem.Expr.Slice _ _ _ _) _ _) _ _ _)); (fail_if_success (with_reducible show wpAny _ _ (compareOp CmpOp.NotEq (Value.ref _) (Value.ref _)) _ _ _)); (first | ((with_reducible show TLe _ _ → _); intro hTzZq; (try dsimp only at hTzZq); (try dsimp only)) | ((with_reducible show wpAny _ _ (execs (_ :: _) _) _ _ _); (with_reducible refine execs_consT ‹TLe _ _› (by first | exact Nat.le_refl _ | exact Nat.le_add_right _ _ | omega) ?_); (try dsimp only)) | ((with_reducible show wpAny _ _ (execs [] _) _ _ _); (with_reducible refine wpAny_execs_nil ?_); (try dsimp only)) | (first | (k_unfold; (try dsimp only)) | ( (fail_if_success (with_reducible show wpAny _ _ (exec (Stmt.While _ _ _ _) _) _ _ _)); (fail_if_success (with_reducible show wpAny _ _ (exec (Stmt.For _ _ _ _ _) _) _ _ _)); (fail_if_success (with_reducible show wpAny _ _ (exec (Stmt.Try _ _ _ _ _) _) _ _ _)); (fail_if_success (with_reducible show wpAny _ _ (pyIter _) (fun it s₂ => Loop _ _ _ _ _ _ _ _ _ _ it s₂) _ _)); (fail_if_success (with_reducible show wpAny _ _ (call (Value.ref _) _ _) _ _ _)); (try k_fold); walk1; (try ((first | (with_reducible show wpAny _ _ (spliced _) _ _ _) | (with_reducible show wpAny _ _ (newList _) _ _ _) | (with_reducible show wpAny _ _ (execs _ _) _ _ _)); dsimp only)))))))
  clear F3 N3 F1 N1 loa
  refine ⟨za, vz, nz, _, _, fun i ys nw => IntsAre ys (sz.take i) ∧ ∃ o', LI o' oa ((sz.take i).flatMap encW).length ∧ nw = [(L + 1, oT4), (It, o'), (oa, listO vo no), (za, listO vz nz), (L + 1 + 1 + 1, oS), (L + 1 + 1, oW)], rfl, rfl, F4, N4, by have := iz.length; omega, ⟨.nil, oIt, liIt, rfl⟩, fun i ys nw h => by obtain ⟨_, _, _, rfl⟩ := h; exact .tail _ (.tail _ (.tail _ (.head _))), ?_, ?_⟩
  · clear F4 N4
    intro i v ys nw I oI C oC D m₂ h tk hv xZq1 htk nC hx F N off ne
    obtain ⟨iys, oI', hli, rfl⟩ := xZq1
    have hZqq := iz.at i v hv
    refine ex2 hZqq ?_; (try clear hZqq); intro x tx; refine and2 ?_; intro yZq7x2 hsx
    obtain rfl := yZq7x2
    have cE' := InElt.start h
    refine wpAny_tests_nil ?_
    rw [if_pos rfl]
    (repeat' ((fail_if_success (with_reducible show wpAny _ _ (exec (PySem.Stmt.Assign _ (PySem.Expr.ListComp _ _ _ _) _) _) _ _ _)); (fail_if_success (with_reducible show wpAny _ _ (eval (PySem.Expr.ListComp _ _ _ _) _) _ _ _)); (fail_if_success (with_reducible show LCg.CompSrc _ _ _ _ _ _ _ _ _ _ _ _ _ _)); (fail_if_success (with_reducible show LCg.CompEnd _ _ _ _ _ _ _ _ _ _ _ _ _ _)); (fail_if_success (with_reducible show CompT _ _ _ _ _ _ _ _ _ _ _ _ _ _)); (fail_if_success (with_reducible show wpAny _ _ (subscriptTail _ (PySem.Expr.Slice _ _ _ _) _ _) _ _ _)); (fail_if_success (with_reducible show wpAny _ _ (compareOp CmpOp.NotEq (Value.ref _) (Value.ref _)) _ _ _)); (first | ((with_reducible show TLe _ _ → _); intro hTzZq; (try dsimp only at hTzZq); (try dsimp only)) | ((with_reducible show wpAny _ _ (execs (_ :: _) _) _ _ _); (with_reducible refine execs_consT ‹TLe _ _› (by first | exact Nat.le_refl _ | exact Nat.le_add_right _ _ | omega) ?_); (try dsimp only)) | ((with_reducible show wpAny _ _ (execs [] _) _ _ _); (with_reducible refine wpAny_execs_nil ?_); (try dsimp only)) | (first | (k_unfold; (try dsimp only)) | ( (fail_if_success (with_reducible show wpAny _ _ (exec (Stmt.While _ _ _ _) _) _ _ _)); (fail_if_success (with_reducible show wpAny _ _ (exec (Stmt.For _ _ _ _ _) _) _ _ _)); (fail_if_success (with_reducible show wpAny _ _ (exec (Stmt.Try _ _ _ _ _) _) _ _ _)); (fail_if_success (with_reducible show wpAny _ _ (pyIter _) (fun it s₂ => Loop _ _ _ _ _ _ _ _ _ _ it s₂) _ _)); (fail_if_success (with_reducible show wpAny _ _ (call (Value.ref _) _ _) _ _ _)); (try k_fold); walk1; (try ((first | (with_reducible show wpAny _ _ (spliced _) _ _ _) | (with_reducible show wpAny _ _ (newList _) _ _ _) | (with_reducible show wpAny _ _ (execs _ _) _ _ _)); dsimp only)))))))
    refine sp_parse (base := s.heap) (it := It) G (Fr.keep ‹_›) ((R.deeper _).le (by omega)) (N.get (.tail _ (.tail _ (.tail _ (.tail _ (.head _)))))) (N _ (.tail _ (.tail _ (.tail _ (.tail _ (.head _)))))).2.2 hli
      (N.get (.tail _ (.tail _ (.tail _ (.tail _ (.tail _ (.head _))))))) (Nat.ne_of_lt (dIt _ (.head _))) io (szr x (List.mem_of_getElem? hsx)) (drop_flat hsx) ?_
    intro v h' tk' kb xZq1
    refine ex2 xZq1 ?_; (try clear xZq1); intro t' io'; refine and3 ?_; intro yZq8x2 e1 e2
    obtain rfl := yZq8x2
    (repeat' ((fail_if_success (with_reducible show wpAny _ _ (exec (PySem.Stmt.Assign _ (PySem.Expr.ListComp _ _ _ _) _) _) _ _ _)); (fail_if_success (with_reducible show wpAny _ _ (eval (PySem.Expr.ListComp _ _ _ _) _) _ _ _)); (fail_if_success (with_reducible show LCg.CompSrc _ _ _ _ _ _ _ _ _ _ _ _ _ _)); (fail_if_success (with_reducible show LCg.CompEnd _ _ _ _ _ _ _ _ _ _ _ _ _ _)); (fail_if_success (with_reducible show CompT _ _ _ _ _ _ _ _ _ _ _ _ _ _)); (fail_if_success (with_reducible show wpAny _ _ (subscriptTail _ (PySem.Expr.Slice _ _ _ _) _ _) _ _ _)); (fail_if_success (with_reducible show wpAny _ _ (compareOp CmpOp.NotEq (Value.ref _) (Value.ref _)) _ _ _)); (first | ((with_reducible show TLe _ _ → _); intro hTzZq; (try dsimp only at hTzZq); (try dsimp only)) | ((with_reducible show wpAny _ _ (execs (_ :: _) _) _ _ _); (with_reducible refine execs_consT ‹TLe _ _› (by first | exact Nat.le_refl _ | exact Nat.le_add_right _ _ | omega) ?_); (try dsimp only)) | ((with_reducible show wpAny _ _ (execs [] _) _ _ _); (with_reducible refine wpAny_execs_nil ?_); (try dsimp only)) | (first | (k_unfold; (try dsimp only)) | ( (fail_if_success (with_reducible show wpAny _ _ (exec (Stmt.While _ _ _ _) _) _ _ _)); (fail_if_success (with_reducible show wpAny _ _ (exec (Stmt.For _ _ _ _ _) _) _ _ _)); (fail_if_success (with_reducible show wpAny _ _ (exec (Stmt.Try _ _ _ _ _) _) _ _ _)); (fail_if_success (with_reducible show wpAny _ _ (pyIter _) (fun it s₂ => Loop _ _ _ _ _ _ _ _ _ _ it s₂) _ _)); (fail_if_success (with_reducible show wpAny _ _ (call (Value.ref _) _ _) _ _ _)); (try k_fold); walk1; (try ((first | (with_reducible show wpAny _ _ (spliced _) _ _ _) | (with_reducible show wpAny _ _ (newList _) _ _ _) | (with_reducible show wpAny _ _ (execs _ _) _ _ _)); dsimp only)))))))
    have hZqq := id off
    refine andI hZqq ?_; (try clear hZqq); refine and3 ?_; intro _ yZq9x1 _
    refine andI yZq9x1 ?_; (try clear yZq9x1); refine and3 ?_; intro o1 o2 o3
    have nIt := N _ (.tail _ (.tail _ (.tail _ (.tail _ (.head _)))))
    refine ⟨h', tk', [(L + 1, oT4), (It, io'), (oa, listO vo no), (za, listO vz nz), (L + 1 + 1 + 1, oS), (L + 1 + 1, oW)], rfl, fr_kb F kb (by simpa using Ne.symm nIt.2.1) (by simpa using nIt.2.2), news_turn' N kb e1 nIt.2.1 nIt.2.2 ?_, off, trivial, ?_, io', ?_, rfl⟩
    · intro p hp
      simp only [List.mem_cons, List.not_mem_nil, or_false] at hp
      rcases hp with rfl | rfl | rfl | rfl | rfl | rfl | rfl | rfl | rfl
      · exact .inr ⟨.head _, Ne.symm o1⟩
      · exact .inr ⟨.tail _ (.head _), Ne.symm o2⟩
      · exact .inr ⟨.tail _ (.tail _ (.head _)), Ne.symm o3⟩
      · exact .inr ⟨by simp, Nat.ne_of_lt (dIt (L + 1, oT) (by simp))⟩
      · exact .inl rfl
      · exact .inr ⟨by simp, Nat.ne_of_lt (dIt (oa, listO vo no) (by simp))⟩
      · exact .inr ⟨by simp, Nat.ne_of_lt (dIt (za, listO vz nz) (by simp))⟩
      · exact .inr ⟨by simp, Nat.ne_of_lt (dIt (L + 1 + 1 + 1, oS) (by simp))⟩
      · exact .inr ⟨by simp, Nat.ne_of_lt (dIt (L + 1 + 1, oW) (by simp))⟩
    · rw [List.take_add_one, hsx]; exact ints_snoc iys
    · rw [take_flat hsx]; exact e2
  · intro ys nw D h tk xZq1 htk F N hD h' tk' F5 N5
    obtain ⟨iys, oI', hli, rfl⟩ := xZq1
    clear F N
    have iys : IntsAre ys sz := by
      have := iz.length
      rw [List.take_of_length_le (by omega)] at iys; exact iys
    have ys10 : ys.length = 10 := by have := iys.length; omega
    (repeat' ((fail_if_success (with_reducible show wpAny _ _ (exec (PySem.Stmt.Assign _ (PySem.Expr.ListComp _ _ _ _) _) _) _ _ _)); (fail_if_success (with_reducible show wpAny _ _ (eval (PySem.Expr.ListComp _ _ _ _) _) _ _ _)); (fail_if_success (with_reducible show LCg.CompSrc _ _ _ _ _ _ _ _ _ _ _ _ _ _)); (fail_if_success (with_reducible show LCg.CompEnd _ _ _ _ _ _ _ _ _ _ _ _ _ _)); (fail_if_success (with_reducible show CompT _ _ _ _ _ _ _ _ _ _ _ _ _ _)); (fail_if_success (with_reducible show wpAny _ _ (subscriptTail _ (PySem.Expr.Slice _ _ _ _) _ _) _ _ _)); (fail_if_success (with_reducible show wpAny _ _ (compareOp CmpOp.NotEq (Value.ref _) (Value.ref _)) _ _ _)); (first | ((with_reducible show TLe _ _ → _); intro hTzZq; (try dsimp only at hTzZq); (try dsimp only)) | ((with_reducible show wpAny _ _ (execs (_ :: _) _) _ _ _); (with_reducible refine execs_consT ‹TLe _ _› (by first | exact Nat.le_refl _ | exact Nat.le_add_right _ _ | omega) ?_); (try dsimp only)) | ((with_reducible show wpAny _ _ (execs [] _) _ _ _); (with_reducible refine wpAny_execs_nil ?_); (try dsimp only)) | (first | (k_unfold; (try dsimp only)) | ( (fail_if_success (with_reducible show wpAny _ _ (exec (Stmt.While _ _ _ _) _) _ _ _)); (fail_if_success (with_reducible show wpAny _ _ (exec (Stmt.For _ _ _ _ _) _) _ _ _)); (fail_if_success (with_reducible show wpAny _ _ (exec (Stmt.Try _ _ _ _ _) _) _ _ _)); (fail_if_success (with_reducible show wpAny _ _ (pyIter _) (fun it s₂ => Loop _ _ _ _ _ _ _ _ _ _ it s₂) _ _)); (fail_if_success (with_reducible show wpAny _ _ (call (Value.ref _) _ _) _ _ _)); (try k_fold); walk1; (try ((first | (with_reducible show wpAny _ _ (spliced _) _ _ _) | (with_reducible show wpAny _ _ (newList _) _ _ _) | (with_reducible show wpAny _ _ (execs _ _) _ _ _)); dsimp only)))))))
    refine r_upto (k := 5) F5 N5 (isL (N5.get (.tail _ (.tail _ (.tail _ (.tail _ (.head _))))))) iz (by omega) ?_
    intro S1 ws1 h6 F6 N6 dS1 iS1
    (repeat' ((fail_if_success (with_reducible show wpAny _ _ (exec (PySem.Stmt.Assign _ (PySem.Expr.ListComp _ _ _ _) _) _) _ _ _)); (fail_if_success (with_reducible show wpAny _ _ (eval (PySem.Expr.ListComp _ _ _ _) _) _ _ _)); (fail_if_success (with_reducible show LCg.CompSrc _ _ _ _ _ _ _ _ _ _ _ _ _ _)); (fail_if_success (with_reducible show LCg.CompEnd _ _ _ _ _ _ _ _ _ _ _ _ _ _)); (fail_if_success (with_reducible show CompT _ _ _ _ _ _ _ _ _ _ _ _ _ _)); (fail_if_success (with_reducible show wpAny _ _ (subscriptTail _ (PySem.Expr.Slice _ _ _ _) _ _) _ _ _)); (fail_if_success (with_reducible show wpAny _ _ (compareOp CmpOp.NotEq (Value.ref _) (Value.ref _)) _ _ _)); (first | ((with_reducible show TLe _ _ → _); intro hTzZq; (try dsimp only at hTzZq); (try dsimp only)) | ((with_reducible show wpAny _ _ (execs (_ :: _) _) _ _ _); (with_reducible refine execs_consT ‹TLe _ _› (by first | exact Nat.le_refl _ | exact Nat.le_add_right _ _ | omega) ?_); (try dsimp only)) | ((with_reducible show wpAny _ _ (execs [] _) _ _ _); (with_reducible refine wpAny_execs_nil ?_); (try dsimp only)) | (first | (k_unfold; (try dsimp only)) | ( (fail_if_success (with_reducible show wpAny _ _ (exec (Stmt.While _ _ _ _) _) _ _ _)); (fail_if_success (with_reducible show wpAny _ _ (exec (Stmt.For _ _ _ _ _) _) _ _ _)); (fail_if_success (with_reducible show wpAny _ _ (exec (Stmt.Try _ _ _ _ _) _) _ _ _)); (fail_if_success (with_reducible show wpAny _ _ (pyIter _) (fun it s₂ => Loop _ _ _ _ _ _ _ _ _ _ it s₂) _ _)); (fail_if_success (with_reducible show wpAny _ _ (call (Value.ref _) _ _) _ _ _)); (try k_fold); walk1; (try ((first | (with_reducible show wpAny _ _ (spliced _) _ _ _) | (with_reducible show wpAny _ _ (newList _) _ _ _) | (with_reducible show wpAny _ _ (execs _ _) _ _ _)); dsimp only)))))))
    refine sp_meant (most := 5) (G.keeps (Fr.keep ‹_›)) ((R.deeper _).le (by omega)) (N6.get (.head _)) iS1 (by simp; omega) (by omega) (by omega) ?_
    intro v h' tk' kb xZq1
    refine ex6 xZq1 ?_; (try clear xZq1); intro ra r1 ta na vr nr; refine and6 ?_; intro yZq11x6 e1 z1 e2 z2 ir
    obtain rfl := yZq11x6
    have hZqq := got_two F6 N6 kb e1 z1 e2 z2
    refine andI hZqq ?_; (try clear hZqq); refine and4 ?_; intro F7 N7 d7a d7b
    clear kb e1 z1 e2 z2
    (repeat' ((fail_if_success (with_reducible show wpAny _ _ (exec (PySem.Stmt.Assign _ (PySem.Expr.ListComp _ _ _ _) _) _) _ _ _)); (fail_if_success (with_reducible show wpAny _ _ (eval (PySem.Expr.ListComp _ _ _ _) _) _ _ _)); (fail_if_success (with_reducible show LCg.CompSrc _ _ _ _ _ _ _ _ _ _ _ _ _ _)); (fail_if_success (with_reducible show LCg.CompEnd _ _ _ _ _ _ _ _ _ _ _ _ _ _)); (fail_if_success (with_reducible show CompT _ _ _ _ _ _ _ _ _ _ _ _ _ _)); (fail_if_success (with_reducible show wpAny _ _ (subscriptTail _ (PySem.Expr.Slice _ _ _ _) _ _) _ _ _)); (fail_if_success (with_reducible show wpAny _ _ (compareOp CmpOp.NotEq (Value.ref _) (Value.ref _)) _ _ _)); (first | ((with_reducible show TLe _ _ → _); intro hTzZq; (try dsimp only at hTzZq); (try dsimp only)) | ((with_reducible show wpAny _ _ (execs (_ :: _) _) _ _ _); (with_reducible refine execs_consT ‹TLe _ _› (by first | exact Nat.le_refl _ | exact Nat.le_add_right _ _ | omega) ?_); (try dsimp only)) | ((with_reducible show wpAny _ _ (execs [] _) _ _ _); (with_reducible refine wpAny_execs_nil ?_); (try dsimp only)) | (first | (k_unfold; (try dsimp only)) | ( (fail_if_success (with_reducible show wpAny _ _ (exec (Stmt.While _ _ _ _) _) _ _ _)); (fail_if_success (with_reducible show wpAny _ _ (exec (Stmt.For _ _ _ _ _) _) _ _ _)); (fail_if_success (with_reducible show wpAny _ _ (exec (Stmt.Try _ _ _ _ _) _) _ _ _)); (fail_if_success (with_reducible show wpAny _ _ (pyIter _) (fun it s₂ => Loop _ _ _ _ _ _ _ _ _ _ it s₂) _ _)); (fail_if_success (with_reducible show wpAny _ _ (call (Value.ref _) _ _) _ _ _)); (try k_fold); walk1; (try ((first | (with_reducible show wpAny _ _ (spliced _) _ _ _) | (with_reducible show wpAny _ _ (newList _) _ _ _) | (with_reducible show wpAny _ _ (execs _ _) _ _ _)); dsimp only)))))))
    rename Fr _ _ _ _ => F8
    rename News _ _ _ _ => N8
    refine r_from (k := 5) F8 N8 (isL (N8.get (.tail _ (.tail _ (.tail _ (.tail _ (.tail _ (.tail _ (.tail _ (.head _))))))))) ) iz (by omega) ?_
    intro S2 ws2 h9 F9 N9 dS2 iS2
    (repeat' ((fail_if_success (with_reducible show wpAny _ _ (exec (PySem.Stmt.Assign _ (PySem.Expr.ListComp _ _ _ _) _) _) _ _ _)); (fail_if_success (with_reducible show wpAny _ _ (eval (PySem.Expr.ListComp _ _ _ _) _) _ _ _)); (fail_if_success (with_reducible show LCg.CompSrc _ _ _ _ _ _ _ _ _ _ _ _ _ _)); (fail_if_success (with_reducible show LCg.CompEnd _ _ _ _ _ _ _ _ _ _ _ _ _ _)); (fail_if_success (with_reducible show CompT _ _ _ _ _ _ _ _ _ _ _ _ _ _)); (fail_if_success (with_reducible show wpAny _ _ (subscriptTail _ (PySem.Expr.Slice _ _ _ _) _ _) _ _ _)); (fail_if_success (with_reducible show wpAny _ _ (compareOp CmpOp.NotEq (Value.ref _) (Value.ref _)) _ _ _)); (first | ((with_reducible show TLe _ _ → _); intro hTzZq; (try dsimp only at hTzZq); (try dsimp only)) | ((with_reducible show wpAny _ _ (execs (_ :: _) _) _ _ _); (with_reducible refine execs_consT ‹TLe _ _› (by first | exact Nat.le_refl _ | exact Nat.le_add_right _ _ | omega) ?_); (try dsimp only)) | ((with_reducible show wpAny _ _ (execs [] _) _ _ _); (with_reducible refine wpAny_execs_nil ?_); (try dsimp only)) | (first | (k_unfold; (try dsimp only)) | ( (fail_if_success (with_reducible show wpAny _ _ (exec (Stmt.While _ _ _ _) _) _ _ _)); (fail_if_success (with_reducible show wpAny _ _ (exec (Stmt.For _ _ _ _ _) _) _ _ _)); (fail_if_success (with_reducible show wpAny _ _ (exec (Stmt.Try _ _ _ _ _) _) _ _ _)); (fail_if_success (with_reducible show wpAny _ _ (pyIter _) (fun it s₂ => Loop _ _ _ _ _ _ _ _ _ _ it s₂) _ _)); (fail_if_success (with_reducible show wpAny _ _ (call (Value.ref _) _ _) _ _ _)); (try k_fold); walk1; (try ((first | (with_reducible show wpAny _ _ (spliced _) _ _ _) | (with_reducible show wpAny _ _ (newList _) _ _ _) | (with_reducible show wpAny _ _ (execs _ _) _ _ _)); dsimp only)))))))
    refine sp_meant (most := 6) (G.keeps (Fr.keep ‹_›)) ((R.deeper _).le (by omega)) (N9.get (.head _)) iS2 (by simp; omega) (by omega) (by omega) ?_
    intro v h' tk' kb xZq1
    refine ex6 xZq1 ?_; (try clear xZq1); intro fa f1 tb nb vf nf; refine and6 ?_; intro yZq13x6 e1 z1 e2 z2 jf
    obtain rfl := yZq13x6
    have hZqq := got_two F9 N9 kb e1 z1 e2 z2
    refine andI hZqq ?_; (try clear hZqq); refine and4 ?_; intro F10 N10 d10a d10b
    clear kb e1 z1 e2 z2
    (repeat' ((fail_if_success (with_reducible show wpAny _ _ (exec (PySem.Stmt.Assign _ (PySem.Expr.ListComp _ _ _ _) _) _) _ _ _)); (fail_if_success (with_reducible show wpAny _ _ (eval (PySem.Expr.ListComp _ _ _ _) _) _ _ _)); (fail_if_success (with_reducible show LCg.CompSrc _ _ _ _ _ _ _ _ _ _ _ _ _ _)); (fail_if_success (with_reducible show LCg.CompEnd _ _ _ _ _ _ _ _ _ _ _ _ _ _)); (fail_if_success (with_reducible show CompT _ _ _ _ _ _ _ _ _ _ _ _ _ _)); (fail_if_success (with_reducible show wpAny _ _ (subscriptTail _ (PySem.Expr.Slice _ _ _ _) _ _) _ _ _)); (fail_if_success (with_reducible show wpAny _ _ (compareOp CmpOp.NotEq (Value.ref _) (Value.ref _)) _ _ _)); (first | ((with_reducible show TLe _ _ → _); intro hTzZq; (try dsimp only at hTzZq); (try dsimp only)) | ((with_reducible show wpAny _ _ (execs (_ :: _) _) _ _ _); (with_reducible refine execs_consT ‹TLe _ _› (by first | exact Nat.le_refl _ | exact Nat.le_add_right _ _ | omega) ?_); (try dsimp only)) | ((with_reducible show wpAny _ _ (execs [] _) _ _ _); (with_reducible refine wpAny_execs_nil ?_); (try dsimp only)) | (first | (k_unfold; (try dsimp only)) | ( (fail_if_success (with_reducible show wpAny _ _ (exec (Stmt.While _ _ _ _) _) _ _ _)); (fail_if_success (with_reducible show wpAny _ _ (exec (Stmt.For _ _ _ _ _) _) _ _ _)); (fail_if_success (with_reducible show wpAny _ _ (exec (Stmt.Try _ _ _ _ _) _) _ _ _)); (fail_if_success (with_reducible show wpAny _ _ (pyIter _) (fun it s₂ => Loop _ _ _ _ _ _ _ _ _ _ it s₂) _ _)); (fail_if_success (with_reducible show wpAny _ _ (call (Value.ref _) _ _) _ _ _)); (try k_fold); walk1; (try ((first | (with_reducible show wpAny _ _ (spliced _) _ _ _) | (with_reducible show wpAny _ _ (newList _) _ _ _) | (with_reducible show wpAny _ _ (execs _ _) _ _ _)); dsimp only)))))))
    rename Fr _ _ _ _ => F11
    rename News _ _ _ _ => N11
    have N12 : News s.heap L _ [(fa, listO [.int (aheadOf (sz.drop 5)) tb, .ref f1] nb), (f1, listO vf nf), (ra, listO [.int (aheadOf (sz.take 5)) ta, .ref r1] na), (r1, listO vr nr), (D, listO ys ys.length), (L + 1 + 1 + 1, oS), (L + 1 + 1, oW)] := news_pick N11 [0, 1, 3, 4, 6, 11, 12]
    have nra : ra ≠ L + 1 + 1 ∧ ra ≠ L + 1 + 1 + 1 := ⟨Ne.symm (d7a (L + 1 + 1, oW) (by simp)), Ne.symm (d7a (L + 1 + 1 + 1, oS) (by simp))⟩
    have nr1 : r1 ≠ L + 1 + 1 ∧ r1 ≠ L + 1 + 1 + 1 := ⟨Ne.symm (d7b (L + 1 + 1, oW) (by simp)), Ne.symm (d7b (L + 1 + 1 + 1, oS) (by simp))⟩
    have nfa : fa ≠ L + 1 + 1 ∧ fa ≠ L + 1 + 1 + 1 := ⟨Ne.symm (d10a (L + 1 + 1, oW) (by simp)), Ne.symm (d10a (L + 1 + 1 + 1, oS) (by simp))⟩
    have nf1 : f1 ≠ L + 1 + 1 ∧ f1 ≠ L + 1 + 1 + 1 := ⟨Ne.symm (d10b (L + 1 + 1, oW) (by simp)), Ne.symm (d10b (L + 1 + 1 + 1, oS) (by simp))⟩
    clear N11 dS2 d10a d10b d7a d7b dS1 hD hli liIt dT4 dT
    refine r_upto (k := 5) F11 N12 (isL (N12.get (nth 4))) iys (by omega) ?_
    intro S1 ws1 h6 F6 N6 dS1 iS1
    (repeat' ((fail_if_success (with_reducible show wpAny _ _ (exec (PySem.Stmt.Assign _ (PySem.Expr.ListComp _ _ _ _) _) _) _ _ _)); (fail_if_success (with_reducible show wpAny _ _ (eval (PySem.Expr.ListComp _ _ _ _) _) _ _ _)); (fail_if_success (with_reducible show LCg.CompSrc _ _ _ _ _ _ _ _ _ _ _ _ _ _)); (fail_if_success (with_reducible show LCg.CompEnd _ _ _ _ _ _ _ _ _ _ _ _ _ _)); (fail_if_success (with_reducible show CompT _ _ _ _ _ _ _ _ _ _ _ _ _ _)); (fail_if_success (with_reducible show wpAny _ _ (subscriptTail _ (PySem.Expr.Slice _ _ _ _) _ _) _ _ _)); (fail_if_success (with_reducible show wpAny _ _ (compareOp CmpOp.NotEq (Value.ref _) (Value.ref _)) _ _ _)); (first | ((with_reducible show TLe _ _ → _); intro hTzZq; (try dsimp only at hTzZq); (try dsimp only)) | ((with_reducible show wpAny _ _ (execs (_ :: _) _) _ _ _); (with_reducible refine execs_consT ‹TLe _ _› (by first | exact Nat.le_refl _ | exact Nat.le_add_right _ _ | omega) ?_); (try dsimp only)) | ((with_reducible show wpAny _ _ (execs [] _) _ _ _); (with_reducible refine wpAny_execs_nil ?_); (try dsimp only)) | (first | (k_unfold; (try dsimp only)) | ( (fail_if_success (with_reducible show wpAny _ _ (exec (Stmt.While _ _ _ _) _) _ _ _)); (fail_if_success (with_reducible show wpAny _ _ (exec (Stmt.For _ _ _ _ _) _) _ _ _)); (fail_if_success (with_reducible show wpAny _ _ (exec (Stmt.Try _ _ _ _ _) _) _ _ _)); (fail_if_success (with_reducible show wpAny _ _ (pyIter _) (fun it s₂ => Loop _ _ _ _ _ _ _ _ _ _ it s₂) _ _)); (fail_if_success (with_reducible show wpAny _ _ (call (Value.ref _) _ _) _ _ _)); (try k_fold); walk1; (try ((first | (with_reducible show wpAny _ _ (spliced _) _ _ _) | (with_reducible show wpAny _ _ (newList _) _ _ _) | (with_reducible show wpAny _ _ (execs _ _) _ _ _)); dsimp only)))))))
    have hZqq := ns_there F6.ns
    refine ex1 hZqq ?_; (try clear hZqq); intro oL; refine and2 ?_; intro hoL hdL
    refine sp_said (most := 5) (base := s.heap) G (Fr.keep ‹_›) (kts_self F6) ((R.deeper _).le (by omega)) rfl rfl (fun q => by cases q) hoL hdL (N6.get (nth 0)) (N6 _ (nth 0)).2.1 iS1 (by simp; omega) (by omega) (by omega) hbare ?_
    intro v h' tk' gens7 sl7 hb7 k7 e7 xZq1
    refine ex6 xZq1 ?_; (try clear xZq1); intro ga g1 tg ng vg mg'; refine and6 ?_; intro yZq16x6 e1 z1 e2 z2 ig
    obtain rfl := yZq16x6
    have hZqq := got_said F6 N6 hoL k7 e7 e1 z1 e2 z2
    refine andI hZqq ?_; (try clear hZqq); refine and4 ?_; intro F7 N7 d7a d7b
    clear k7 e7 e1 z1 e2 z2
    (repeat' ((fail_if_success (with_reducible show wpAny _ _ (exec (PySem.Stmt.Assign _ (PySem.Expr.ListComp _ _ _ _) _) _) _ _ _)); (fail_if_success (with_reducible show wpAny _ _ (eval (PySem.Expr.ListComp _ _ _ _) _) _ _ _)); (fail_if_success (with_reducible show LCg.CompSrc _ _ _ _ _ _ _ _ _ _ _ _ _ _)); (fail_if_success (with_reducible show LCg.CompEnd _ _ _ _ _ _ _ _ _ _ _ _ _ _)); (fail_if_success (with_reducible show CompT _ _ _ _ _ _ _ _ _ _ _ _ _ _)); (fail_if_success (with_reducible show wpAny _ _ (subscriptTail _ (PySem.Expr.Slice _ _ _ _) _ _) _ _ _)); (fail_if_success (with_reducible show wpAny _ _ (compareOp CmpOp.NotEq (Value.ref _) (Value.ref _)) _ _ _)); (first | ((with_reducible show TLe _ _ → _); intro hTzZq; (try dsimp only at hTzZq); (try dsimp only)) | ((with_reducible show wpAny _ _ (execs (_ :: _) _) _ _ _); (with_reducible refine execs_consT ‹TLe _ _› (by first | exact Nat.le_refl _ | exact Nat.le_add_right _ _ | omega) ?_); (try dsimp only)) | ((with_reducible show wpAny _ _ (execs [] _) _ _ _); (with_reducible refine wpAny_execs_nil ?_); (try dsimp only)) | (first | (k_unfold; (try dsimp only)) | ( (fail_if_success (with_reducible show wpAny _ _ (exec (Stmt.While _ _ _ _) _) _ _ _)); (fail_if_success (with_reducible show wpAny _ _ (exec (Stmt.For _ _ _ _ _) _) _ _ _)); (fail_if_success (with_reducible show wpAny _ _ (exec (Stmt.Try _ _ _ _ _) _) _ _ _)); (fail_if_success (with_reducible show wpAny _ _ (pyIter _) (fun it s₂ => Loop _ _ _ _ _ _ _ _ _ _ it s₂) _ _)); (fail_if_success (with_reducible show wpAny _ _ (call (Value.ref _) _ _) _ _ _)); (try k_fold); walk1; (try ((first | (with_reducible show wpAny _ _ (spliced _) _ _ _) | (with_reducible show wpAny _ _ (newList _) _ _ _) | (with_reducible show wpAny _ _ (execs _ _) _ _ _)); dsimp only)))))))
    refine r_from (k := 5) F7 N7 (isL (N7.get (nth 7))) iys (by omega) ?_
    intro S2 ws2 h8 F8 N8 dS2 iS2
    (repeat' ((fail_if_success (with_reducible show wpAny _ _ (exec (PySem.Stmt.Assign _ (PySem.Expr.ListComp _ _ _ _) _) _) _ _ _)); (fail_if_success (with_reducible show wpAny _ _ (eval (PySem.Expr.ListComp _ _ _ _) _) _ _ _)); (fail_if_success (with_reducible show LCg.CompSrc _ _ _ _ _ _ _ _ _ _ _ _ _ _)); (fail_if_success (with_reducible show LCg.CompEnd _ _ _ _ _ _ _ _ _ _ _ _ _ _)); (fail_if_success (with_reducible show CompT _ _ _ _ _ _ _ _ _ _ _ _ _ _)); (fail_if_success (with_reducible show wpAny _ _ (subscriptTail _ (PySem.Expr.Slice _ _ _ _) _ _) _ _ _)); (fail_if_success (with_reducible show wpAny _ _ (compareOp CmpOp.NotEq (Value.ref _) (Value.ref _)) _ _ _)); (first | ((with_reducible show TLe _ _ → _); intro hTzZq; (try dsimp only at hTzZq); (try dsimp only)) | ((with_reducible show wpAny _ _ (execs (_ :: _) _) _ _ _); (with_reducible refine execs_consT ‹TLe _ _› (by first | exact Nat.le_refl _ | exact Nat.le_add_right _ _ | omega) ?_); (try dsimp only)) | ((with_reducible show wpAny _ _ (execs [] _) _ _ _); (with_reducible refine wpAny_execs_nil ?_); (try dsimp only)) | (first | (k_unfold; (try dsimp only)) | ( (fail_if_success (with_reducible show wpAny _ _ (exec (Stmt.While _ _ _ _) _) _ _ _)); (fail_if_success (with_reducible show wpAny _ _ (exec (Stmt.For _ _ _ _ _) _) _ _ _)); (fail_if_success (with_reducible show wpAny _ _ (exec (Stmt.Try _ _ _ _ _) _) _ _ _)); (fail_if_success (with_reducible show wpAny _ _ (pyIter _) (fun it s₂ => Loop _ _ _ _ _ _ _ _ _ _ it s₂) _ _)); (fail_if_success (with_reducible show wpAny _ _ (call (Value.ref _) _ _) _ _ _)); (try k_fold); walk1; (try ((first | (with_reducible show wpAny _ _ (spliced _) _ _ _) | (with_reducible show wpAny _ _ (newList _) _ _ _) | (with_reducible show wpAny _ _ (execs _ _) _ _ _)); dsimp only)))))))
    have hZqq := ns_there F8.ns
    refine ex1 hZqq ?_; (try clear hZqq); intro oL2; refine and2 ?_; intro hoL2 hdL2
    refine sp_said (most := 6) (base := s.heap) G (Fr.keep ‹_›) (kts_self F8) ((R.deeper _).le (by omega)) rfl rfl (fun q => by cases q) hoL2 hdL2 (N8.get (nth 0)) (N8 _ (nth 0)).2.1 iS2 (by simp; omega) (by omega) (by omega) hb7 ?_
    intro v h' tk' gens9 sl9 hb9 k9 e9 xZq1
    refine ex6 xZq1 ?_; (try clear xZq1); intro ka k1 tl nk vk mk'; refine and6 ?_; intro yZq19x6 e1 z1 e2 z2 ik
    obtain rfl := yZq19x6
    have hZqq := got_said F8 N8 hoL2 k9 e9 e1 z1 e2 z2
    refine andI hZqq ?_; (try clear hZqq); refine and4 ?_; intro F9 N9 d9a d9b
    clear k9 e9 e1 z1 e2 z2
    (repeat' ((fail_if_success (with_reducible show wpAny _ _ (exec (PySem.Stmt.Assign _ (PySem.Expr.ListComp _ _ _ _) _) _) _ _ _)); (fail_if_success (with_reducible show wpAny _ _ (eval (PySem.Expr.ListComp _ _ _ _) _) _ _ _)); (fail_if_success (with_reducible show LCg.CompSrc _ _ _ _ _ _ _ _ _ _ _ _ _ _)); (fail_if_success (with_reducible show LCg.CompEnd _ _ _ _ _ _ _ _ _ _ _ _ _ _)); (fail_if_success (with_reducible show CompT _ _ _ _ _ _ _ _ _ _ _ _ _ _)); (fail_if_success (with_reducible show wpAny _ _ (subscriptTail _ (PySem.Expr.Slice _ _ _ _) _ _) _ _ _)); (fail_if_success (with_reducible show wpAny _ _ (compareOp CmpOp.NotEq (Value.ref _) (Value.ref _)) _ _ _)); (first | ((with_reducible show TLe _ _ → _); intro hTzZq; (try dsimp only at hTzZq); (try dsimp only)) | ((with_reducible show wpAny _ _ (execs (_ :: _) _) _ _ _); (with_reducible refine execs_consT ‹TLe _ _› (by first | exact Nat.le_refl _ | exact Nat.le_add_right _ _ | omega) ?_); (try dsimp only)) | ((with_reducible show wpAny _ _ (execs [] _) _ _ _); (with_reducible refine wpAny_execs_nil ?_); (try dsimp only)) | (first | (k_unfold; (try dsimp only)) | ( (fail_if_success (with_reducible show wpAny _ _ (exec (Stmt.While _ _ _ _) _) _ _ _)); (fail_if_success (with_reducible show wpAny _ _ (exec (Stmt.For _ _ _ _ _) _) _ _ _)); (fail_if_success (with_reducible show wpAny _ _ (exec (Stmt.Try _ _ _ _ _) _) _ _ _)); (fail_if_success (with_reducible show wpAny _ _ (pyIter _) (fun it s₂ => Loop _ _ _ _ _ _ _ _ _ _ it s₂) _ _)); (fail_if_success (with_reducible show wpAny _ _ (call (Value.ref _) _ _) _ _ _)); (try k_fold); walk1; (try ((first | (with_reducible show wpAny _ _ (spliced _) _ _ _) | (with_reducible show wpAny _ _ (newList _) _ _ _) | (with_reducible show wpAny _ _ (execs _ _) _ _ _)); dsimp only)))))))
    rename Fr _ _ _ _ => F10
    rename News _ _ _ _ => N10
    refine r_same (d := .list [.list [.int (aheadOf (sz.take 5)), .list ((meantRow 5 (sz.take 5)).map PyData.int)], .list [.int (aheadOf (sz.drop 5)), .list ((meantRow 6 (sz.drop 5)).map PyData.int)]])
      (reads_listO (N10.get (nth 1)) (.cons (reads_listO (N10.get (nth 5)) (.cons (.int _ _) (.cons (reads_listO (N10.get (nth 6)) (readsAll_of_ints ig)) .nil))) (.cons (reads_listO (N10.get (nth 2)) (.cons (.int _ _) (.cons (reads_listO (N10.get (nth 3)) (readsAll_of_ints ik)) .nil))) .nil)))
      (reads_listO (N10.get (nth 0)) (.cons (reads_listO (N10.get (nth 10)) (.cons (.int _ _) (.cons (reads_listO (N10.get (nth 11)) (readsAll_of_ints ir)) .nil))) (.cons (reads_listO (N10.get (nth 8)) (.cons (.int _ _) (.cons (reads_listO (N10.get (nth 9)) (readsAll_of_ints jf)) .nil))) .nil)))
      (lay_told _ _ _ _) (Rm.u64 (R.deeper _) (by omega)) ?_
    have N11 : News s.heap L _ [(fa, listO [.int (aheadOf (sz.drop 5)) tb, .ref f1] nb), (f1, listO vf nf), (ra, listO [.int (aheadOf (sz.take 5)) ta, .ref r1] na), (r1, listO vr nr), (L + 1 + 1 + 1, oS), (L + 1 + 1, oW)] := news_pick N10 [8, 9, 10, 11, 13, 14]
    clear N10 d9a d9b dS2 dS1 d7a d7b
    (repeat' ((fail_if_success (with_reducible show wpAny _ _ (exec (PySem.Stmt.Assign _ (PySem.Expr.ListComp _ _ _ _) _) _) _ _ _)); (fail_if_success (with_reducible show wpAny _ _ (eval (PySem.Expr.ListComp _ _ _ _) _) _ _ _)); (fail_if_success (with_reducible show LCg.CompSrc _ _ _ _ _ _ _ _ _ _ _ _ _ _)); (fail_if_success (with_reducible show LCg.CompEnd _ _ _ _ _ _ _ _ _ _ _ _ _ _)); (fail_if_success (with_reducible show CompT _ _ _ _ _ _ _ _ _ _ _ _ _ _)); (fail_if_success (with_reducible show wpAny _ _ (subscriptTail _ (PySem.Expr.Slice _ _ _ _) _ _) _ _ _)); (fail_if_success (with_reducible show wpAny _ _ (compareOp CmpOp.NotEq (Value.ref _) (Value.ref _)) _ _ _)); (first | ((with_reducible show TLe _ _ → _); intro hTzZq; (try dsimp only at hTzZq); (try dsimp only)) | ((with_reducible show wpAny _ _ (execs (_ :: _) _) _ _ _); (with_reducible refine execs_consT ‹TLe _ _› (by first | exact Nat.le_refl _ | exact Nat.le_add_right _ _ | omega) ?_); (try dsimp only)) | ((with_reducible show wpAny _ _ (execs [] _) _ _ _); (with_reducible refine wpAny_execs_nil ?_); (try dsimp only)) | (first | (k_unfold; (try dsimp only)) | ( (fail_if_success (with_reducible show wpAny _ _ (exec (Stmt.While _ _ _ _) _) _ _ _)); (fail_if_success (with_reducible show wpAny _ _ (exec (Stmt.For _ _ _ _ _) _) _ _ _)); (fail_if_success (with_reducible show wpAny _ _ (exec (Stmt.Try _ _ _ _ _) _) _ _ _)); (fail_if_success (with_reducible show wpAny _ _ (pyIter _) (fun it s₂ => Loop _ _ _ _ _ _ _ _ _ _ it s₂) _ _)); (fail_if_success (with_reducible show wpAny _ _ (call (Value.ref _) _ _) _ _ _)); (try k_fold); walk1; (try ((first | (with_reducible show wpAny _ _ (spliced _) _ _ _) | (with_reducible show wpAny _ _ (newList _) _ _ _) | (with_reducible show wpAny _ _ (execs _ _) _ _ _)); dsimp only)))))))
    refine sp_laid (G.keeps (Fr.keep ‹_›)) ((R.deeper _).le (by omega)) (N11.get (nth 1)) jf (by have := meantRow_len 6 (sz.drop 5); omega) ?_
    intro v h' tk' kb xZq1
    refine ex3 xZq1 ?_; (try clear xZq1); intro la ps nl; refine and5 ?_; intro yZq21x3 e1 z1 hp1 hps1
    obtain rfl := yZq21x3
    have F12 := fr_kb0 F10 kb
    have N12 := news_kb0 N11 kb
    (repeat' ((fail_if_success (with_reducible show wpAny _ _ (exec (PySem.Stmt.Assign _ (PySem.Expr.ListComp _ _ _ _) _) _) _ _ _)); (fail_if_success (with_reducible show wpAny _ _ (eval (PySem.Expr.ListComp _ _ _ _) _) _ _ _)); (fail_if_success (with_reducible show LCg.CompSrc _ _ _ _ _ _ _ _ _ _ _ _ _ _)); (fail_if_success (with_reducible show LCg.CompEnd _ _ _ _ _ _ _ _ _ _ _ _ _ _)); (fail_if_success (with_reducible show CompT _ _ _ _ _ _ _ _ _ _ _ _ _ _)); (fail_if_success (with_reducible show wpAny _ _ (subscriptTail _ (PySem.Expr.Slice _ _ _ _) _ _) _ _ _)); (fail_if_success (with_reducible show wpAny _ _ (compareOp CmpOp.NotEq (Value.ref _) (Value.ref _)) _ _ _)); (first | ((with_reducible show TLe _ _ → _); intro hTzZq; (try dsimp only at hTzZq); (try dsimp only)) | ((with_reducible show wpAny _ _ (execs (_ :: _) _) _ _ _); (with_reducible refine execs_consT ‹TLe _ _› (by first | exact Nat.le_refl _ | exact Nat.le_add_right _ _ | omega) ?_); (try dsimp only)) | ((with_reducible show wpAny _ _ (execs [] _) _ _ _); (with_reducible refine wpAny_execs_nil ?_); (try dsimp only)) | (first | (k_unfold; (try dsimp only)) | ( (fail_if_success (with_reducible show wpAny _ _ (exec (Stmt.While _ _ _ _) _) _ _ _)); (fail_if_success (with_reducible show wpAny _ _ (exec (Stmt.For _ _ _ _ _) _) _ _ _)); (fail_if_success (with_reducible show wpAny _ _ (exec (Stmt.Try _ _ _ _ _) _) _ _ _)); (fail_if_success (with_reducible show wpAny _ _ (pyIter _) (fun it s₂ => Loop _ _ _ _ _ _ _ _ _ _ it s₂) _ _)); (fail_if_success (with_reducible show wpAny _ _ (call (Value.ref _) _ _) _ _ _)); (try k_fold); walk1; (try ((first | (with_reducible show wpAny _ _ (spliced _) _ _ _) | (with_reducible show wpAny _ _ (newList _) _ _ _) | (with_reducible show wpAny _ _ (execs _ _) _ _ _)); dsimp only)))))))
    refine sp_order (G.keeps (Fr.keep ‹_›)) ((R.deeper _).le (by omega)) (N12.get (nth 1)) jf (by have := meantRow_len 6 (sz.drop 5); omega) ?_
    intro v h2' tk' kb2 xZq1
    refine ex3 xZq1 ?_; (try clear xZq1); intro lb ps2 nl2; refine and5 ?_; intro yZq22x3 e2 z2 hp2 hps2
    obtain rfl := yZq22x3
    have F13 := fr_kb0 F12 kb2
    have N13 := news_kb0 N12 kb2
    (repeat' ((fail_if_success (with_reducible show wpAny _ _ (exec (PySem.Stmt.Assign _ (PySem.Expr.ListComp _ _ _ _) _) _) _ _ _)); (fail_if_success (with_reducible show wpAny _ _ (eval (PySem.Expr.ListComp _ _ _ _) _) _ _ _)); (fail_if_success (with_reducible show LCg.CompSrc _ _ _ _ _ _ _ _ _ _ _ _ _ _)); (fail_if_success (with_reducible show LCg.CompEnd _ _ _ _ _ _ _ _ _ _ _ _ _ _)); (fail_if_success (with_reducible show CompT _ _ _ _ _ _ _ _ _ _ _ _ _ _)); (fail_if_success (with_reducible show wpAny _ _ (subscriptTail _ (PySem.Expr.Slice _ _ _ _) _ _) _ _ _)); (fail_if_success (with_reducible show wpAny _ _ (compareOp CmpOp.NotEq (Value.ref _) (Value.ref _)) _ _ _)); (first | ((with_reducible show TLe _ _ → _); intro hTzZq; (try dsimp only at hTzZq); (try dsimp only)) | ((with_reducible show wpAny _ _ (execs (_ :: _) _) _ _ _); (with_reducible refine execs_consT ‹TLe _ _› (by first | exact Nat.le_refl _ | exact Nat.le_add_right _ _ | omega) ?_); (try dsimp only)) | ((with_reducible show wpAny _ _ (execs [] _) _ _ _); (with_reducible refine wpAny_execs_nil ?_); (try dsimp only)) | (first | (k_unfold; (try dsimp only)) | ( (fail_if_success (with_reducible show wpAny _ _ (exec (Stmt.While _ _ _ _) _) _ _ _)); (fail_if_success (with_reducible show wpAny _ _ (exec (Stmt.For _ _ _ _ _) _) _ _ _)); (fail_if_success (with_reducible show wpAny _ _ (exec (Stmt.Try _ _ _ _ _) _) _ _ _)); (fail_if_success (with_reducible show wpAny _ _ (pyIter _) (fun it s₂ => Loop _ _ _ _ _ _ _ _ _ _ it s₂) _ _)); (fail_if_success (with_reducible show wpAny _ _ (call (Value.ref _) _ _) _ _ _)); (try k_fold); walk1; (try ((first | (with_reducible show wpAny _ _ (spliced _) _ _ _) | (with_reducible show wpAny _ _ (newList _) _ _ _) | (with_reducible show wpAny _ _ (execs _ _) _ _ _)); dsimp only)))))))
    obtain ⟨as1, rd1⟩ := reads_pairs (kb2.all _ _ e1) (fun q hq => (hp1 q hq).1.keeps kb2.all) hps1
    obtain ⟨as2, rd2⟩ := reads_pairs e2 (fun q hq => (hp2 q hq).1) hps2
    refine r_same rd1 rd2 (lay_pairs _) (Rm.u64 (R.deeper _) (by omega)) ?_
    clear rd1 rd2 e1 e2 z1 z2 hp1 hp2 hps1 hps2 kb kb2 F12 N12
    repeat' ((fail_if_success (with_reducible show wpAny _ _ (execs (PySem.Stmt.Assign [PySem.Expr.Name (PySem.Str.ofString "names") _] _ _ :: _) _) _ _ _)); (first | ((with_reducible show TLe _ _ → _); intro hTzZq; (try dsimp only at hTzZq); (try dsimp only)) | ((with_reducible show wpAny _ _ (execs (_ :: _) _) _ _ _); (with_reducible refine execs_consT ‹TLe _ _› (by first | exact Nat.le_refl _ | exact Nat.le_add_right _ _ | omega) ?_); (try dsimp only)) | ((with_reducible show wpAny _ _ (execs [] _) _ _ _); (with_reducible refine wpAny_execs_nil ?_); (try dsimp only)) | (first | (k_unfold; (try dsimp only)) | ( (fail_if_success (with_reducible show wpAny _ _ (exec (Stmt.While _ _ _ _) _) _ _ _)); (fail_if_success (with_reducible show wpAny _ _ (exec (Stmt.For _ _ _ _ _) _) _ _ _)); (fail_if_success (with_reducible show wpAny _ _ (exec (Stmt.Try _ _ _ _ _) _) _ _ _)); (fail_if_success (with_reducible show wpAny _ _ (pyIter _) (fun it s₂ => Loop _ _ _ _ _ _ _ _ _ _ it s₂) _ _)); (fail_if_success (with_reducible show wpAny _ _ (call (Value.ref _) _ _) _ _ _)); (try k_fold); walk1; (try ((first | (with_reducible show wpAny _ _ (spliced _) _ _ _) | (with_reducible show wpAny _ _ (newList _) _ _ _) | (with_reducible show wpAny _ _ (execs _ _) _ _ _)); dsimp only))))))
    have hT9 : s.toks ≤ _ := ‹TLe _ _›
    refine law_tail G (R.deeper _) hB (Nat.le_trans hT0 hT9) F13 ⟨rfl, rfl, trivial⟩ N13 dS dW (fun p hp => ?_) ir jf (meantRow_len 5 _) (meantRow_len 6 _) (fun x hx => szr x (List.mem_of_mem_take (meantRow_mem hx))) (fun x hx => szr x (List.mem_of_mem_drop (meantRow_mem hx))) ?_
    · simp only [List.mem_cons, List.not_mem_nil, or_false] at hp
      rcases hp with rfl | rfl | rfl | rfl
      · exact nfa
      · exact nf1
      · exact nra
      · exact nr1
    · intro h' tk' k
      exact hQ h' tk' gens9 hb9 k
end Mine
open Mine PySem.W.X PySem.W.ZRun
theorem PySem.Challenge.cw_wu0059_01_holds : PySem.Challenge.rw_wu0059_01.Holds := by
  refine hd ?_
  k_fill
  intro w s₀ s₁ mg mb G y fa o pm cd doc dV kV ho hdo hcd hD hmg hg args vals as Ly hpre hlay hrd hwl hlo
  obtain ⟨-, ZI, ZN, ZT⟩ := z_facts (K := hd.heap_39) (fun P => rfl) y
  have KX : (hd.heap_39 w.params).In s₁.heap := InK.keeps (K := hd.heap_39) w s₀.heap s₁.heap ZI Ly.keeps
  refine Ground.open G ?_
  intro T B D TE TW
  wrow_args hpre hlay hrd hwl hlo
  obtain ⟨hat, hsz⟩ := script_at Ly
  have htk := script_toks Ly ZT
  rw [ZN] at hat hsz
  subst hat
  x_fa T KX hmg
  have hNB : NoneBooked s₁.heap := by
    obtain ⟨mc, ⟨o', es, ep, ho', hd', sk, hf⟩, _⟩ := T.nolimit
    have e := KX cStatics _ rfl
    have h1 := e.symm.trans ho'
    refine ⟨mc, ⟨o', es, ep, ho', hd', sk, hf⟩, ?_⟩
    rw [← hf]
    cases h1
    cases hd'
    decide +kernel
  refine sp_law (sa := 177) ⟨KX, _, _, _, _, _, T⟩ ⟨rfl, by decide +kernel, by decide +kernel⟩ rfl hNB (Nat.le_trans (by decide) htk) (.of_eq hg) (by assumption) (by assumption) (by omega) ?_
  intro h' tk' gens' hb k
  exact ⟨.inl ⟨.bool true, .bool true, [], rfl, fun cls => rfl, .bool true, postW_of (by first | o_shape | wrow_shape) (by wtm_val) (by first | rfl | w_fin), unshared_nil⟩, .of_keep k, rfl, hb⟩
