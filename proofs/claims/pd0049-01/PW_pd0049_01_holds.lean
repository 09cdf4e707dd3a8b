import PyProof.Rows.All
import Wide.All
import OpenK.AllK
import Wide.FinOn
import KE.KRevSl
import KE.KSortTup
import Lean
import PySem.Challenge.RW_pd0049_01
set_option Elab.async false
set_option maxRecDepth 100000
set_option maxHeartbeats 8000000
set_option linter.all false

section
open PySem PySem.W PyProof.Rows
namespace Mine
def isDefStmt : Stmt → Bool
  | .FunctionDef .. => true
  | .ClassDef .. => true
  | _ => false
noncomputable def vw : Program :=
  { PySem.Challenge.rw_pd0049_01.row.toRowW.prog with main := { PySem.Challenge.rw_pd0049_01.row.toRowW.prog.main with body := PySem.Challenge.rw_pd0049_01.row.toRowW.prog.main.body.filter isDefStmt } }
/-- the checks of the text: the library's fast twin of wellSaid, run by the kernel -/
theorem said : PySem.Challenge.rw_pd0049_01.wellSaid = true := (congrFun PySem.W.Fast.te9446332074065402090 _).trans (by kernel_rfl)
/-- the opening is the library's boot_open: what is left is the run behind it -/
theorem left_boot {p q : Program} {loose : List Str} {Xt : Shared → Bool} {α : Type} {Yf : Shared → α} {Ya : World → α} {N : Nat} {g0 : Bool} (e : opening p = plainProg p.main.scope.names) (hN : Nat.ble 600 N = true) (f : ∀ s, fenceModules? p s = some s)
    (h : ∀ (w : World) (os : OsState), (topFrom treeTable p w N ⟨boot_heap w.params, Array.mk [], boot_drawn, boot_toks, os⟩).map (fun s => (openSeen q loose (importedModules p.main.body) Xt g0 s, Yf s)) = some (openGood q loose, Ya w)) : LeftO p q loose Xt Yf Ya N g0 := fun w => by
  obtain ⟨⟨h', gs, d, k, os⟩, e1, e2⟩ := Option.map_eq_some_iff.mp (boot_open e hN f w)
  obtain ⟨rfl, rfl, rfl, rfl⟩ : h' = boot_heap w.params ∧ gs = Array.mk [] ∧ d = boot_drawn ∧ k = boot_toks := by simpa using e2
  unfold openEnds
  rw [e1]
  exact h w os
local macro_rules | `(tactic| o_law) => `(tactic| refine holds_law Mine.said fun said => ?_)
set_option hygiene false in
local macro_rules | `(tactic| o_head $H) => `(tactic| (
  refine holds_open (q := Mine.vw) (loose := []) (Xt := fun s => xlAt Mine.vw [] s && recOk (RowW.records PySem.Challenge.rw_pd0049_01.row.toRowW) s) (XP := XL Mine.vw []) (Yf := Hook.obs $H) (Ya := Hook.val $H) (YP := Hook.says $H) (N := 2540) ?hl (Hook.of $H) (Hook.keeps $H) (fun s e => xl_of s (Bool.and_eq_true_iff.mp e).1) XL.keeps (by rfl) (by rfl) (by rfl) (fun s e => recFacts_of (Bool.and_eq_true_iff.mp e).2) (by rfl) (by first | assumption | decide +kernel) (by decide +kernel) ⟨rfl, rfl, rfl, rfl, rfl, by decide +kernel⟩ ?hw ?hc
  case hl => exact left_boot (by kernel_rfl) (by kernel_rfl) (fun s => by kernel_rfl) (fun w os => by delta topFrom; rewrite [PySem.W.Fast.te14082659384304107361, PySem.W.Fast.te14364793385576792824, PySem.W.Fast.te4187177175401517315, PySem.W.Fast.te5923862056798008813]; kernel_rfl)))
open_top hd for PySem.Challenge.rw_pd0049_01
end Mine
end

section
theorem Mine.rst_Base : True ∧ True := by
  w_top off
  first | (walk1; fail "laid") | exact ⟨trivial, trivial⟩
open PySem PySem.W PyProof.Rows PySem.Calls
namespace Mine
noncomputable abbrev PP : Program := PySem.Challenge.rw_pd0049_01.prog
noncomputable abbrev VV : Program := Mine.vw
noncomputable abbrev LL : List Str := looseW VV []
/-- room for k more frames -/
structure Rm (A : Around) (k : Nat) : Prop where
  depth : A.depth + k ≤ 400
  units : A.units + 10 * k ≤ 1000
  handled : A.handled = none
theorem Rm.deeper {A : Around} {k : Nat} {env : Env} (h : Rm A (k + 1)) : Rm (A.deeper env) k := by
  refine ⟨?_, ?_, h.handled⟩
  · have := h.depth; show A.depth + 1 + k ≤ 400; omega
  · have := h.units; show A.units + 3 + 10 * k ≤ 1000; omega
theorem Rm.mono {A : Around} {k j : Nat} (h : Rm A k) (hj : j ≤ k) : Rm A j := by
  have := h.depth; have := h.units; exact ⟨by omega, by omega, h.handled⟩
theorem Rm.room {A : Around} {k : Nat} (h : Rm A k) : A.depth < recursionLimit := by
  have := h.depth; unfold recursionLimit; omega
theorem Rm.unit {A : Around} {k : Nat} (h : Rm A k) : A.units < cLine := by
  have := h.units; unfold cLine; omega
theorem Rm.in1 {A : Around} {k : Nat} (h : Rm A (k + 1)) : Rm A.in1 k := by
  have := h.depth; have := h.units
  exact ⟨by show A.depth + k ≤ 400; omega, by show A.units + 1 + 10 * k ≤ 1000; omega, h.handled⟩
/-- the text's own things stand in the heap -/
structure Gl (w : World) (h : Heap) : Prop where
  X : (Mine.hd.heap_1 w.params).In h
  T : ∃ mean mg mb, Top VV LL mean mg mb h
theorem Gl.keeps {w : World} {h h' : Heap} (G : Gl w h) (st : h.StaysIn h') : Gl w h' :=
  ⟨G.X.keeps st, let ⟨a, b, c, T⟩ := G.T; ⟨a, b, c, T.keeps st⟩⟩
theorem Fr.stays {h₀ h h' : Heap} {L : Addr} {m : Str → Option Value} (F : Fr h₀ L h m) (st : h.StaysIn h') : Fr h₀ L h' m :=
  ⟨F.ns.keeps st, fun b o e => st b o (F.keep b o e), F.above⟩
theorem News.stays {h₀ h h' : Heap} {L : Addr} {news : List (Addr × Obj)} (N : News h₀ L h news) (st : h.StaysIn h') : News h₀ L h' news :=
  fun p hp => ⟨st _ _ (N p hp).1, (N p hp).2⟩
section
variable {prog : Program} {w : World} {A : Around} {s : Shared} {K : Frag} {E : Value → Shared → Prop} {Q : Value → Shared → Prop}
theorem call_defK {name qual : Str} {params : Arguments} {body : List Stmt} {scope : Scope} {dV kV doc pm cdv ct oc : Value} {an od : Option Addr} {osl : Array (Option Value)} {f : Addr} {vs : List Value} {binds : List (Str × Value)}
    (X : K.In s.heap) (hlim : s.heap.NoLimit)
    (ho : K.lookup f = some ⟨oc, od, .func (fnOf name qual params body scope dV kV doc pm an cdv ct), osl⟩) (hcd : codeIn K cdv qual = true) (hroom : A.depth < recursionLimit)
    (hbind : BindsTo s (fnOf name qual params body scope dV kV doc pm an cdv ct) ⟨vs, []⟩ binds) (hloc : ∀ y ∈ binds, scope.names.lookup y.1 = some .local)
    (hcell : ∀ x ∈ scope.names, x.2 ≠ .cell) (hco : scope.isCoroutine = false) (hgen : scope.isGenerator = false) (hk : scope.kind = .function)
    (h : ∀ h₁ L, L = s.heap.objs.size → Fr s.heap L h₁ (fun y => binds.reverse.lookup y) → News s.heap L h₁ [] →
      wpAny (model prog w) (A.deeper (envOf qual scope L f cdv)) (execs body (envOf qual scope L f cdv))
        (fun fl s' => Q (match fl with | .ret v => v | _ => .none) s') (fun _ _ => False)
        { s with heap := h₁, toks := s.toks + binds.length }) :
    wpAny (model prog w) A (call (.ref f) vs) Q E s := by
  refine wpAny_call (codeAny_call_def (fd := fnOf name qual params body scope dV kV doc pm an cdv ct) (body := body) (binds := binds) hroom (X _ _ ho) rfl hlim (codeRec_of X hcd) rfl hbind hcell hloc (fun h₁ hns hk₁ => ?_) hco hgen hk)
  refine wpAny_mono (h h₁ _ rfl ⟨hns, hk₁, Nat.le_refl _⟩ News.nil) (fun fl s' hl => hl) (fun _ _ x => x.elim)
end
end Mine
end
local macro_rules | `(tactic| walk_at "room") => `(tactic| exact Mine.Rm.mono (Mine.Rm.deeper (by assumption)) (by decide))
local macro_rules | `(tactic| k_units) => `(tactic| exact Mine.Rm.unit (Mine.Rm.deeper (by assumption)))
local macro_rules | `(tactic| walk_at "one") => `(tactic| first | (k_unfold; (try dsimp only)) | (k_end; wrow_close) | walk1 | (dsimp only; walk1) | (leave1; walk_say "STEP leave1"; try dsimp only))

section
theorem Mine.rst_RA : True ∧ True := by
  w_top off
  first | (walk1; fail "laid") | exact ⟨trivial, trivial⟩
open PySem PySem.W PyProof.Rows PySem.Calls
namespace Mine
theorem entry_issub : entryFor table "issubclass" = some Builtin.«issubclass» := entryFor_of_fast (by kernel_rfl)
theorem entry_issubn : entryFor table "issubclass.nested" = some Builtin.«issubclass.nested» := entryFor_of_fast (by kernel_rfl)
theorem plain_issubn : plainId "issubclass.nested" = true := by decide +kernel
theorem issub_str_str {prog : Program} {w : World} {A : Around} {E} {s : Shared} {Q : Value → Shared → Prop} {x : Value} {k : Int} (h : Q (.bool true) s) (hx : x = .type "str") (hk : k = 1) :
    wpAny (model prog w) A (call (.builtin "issubclass.nested") [.type "str", x, rawInt k]) Q E s := by
  subst hx hk
  refine call_function_entry (by decide +kernel) plain_issubn entry_issubn (by unfold argsOk; kernel_rfl) ?_
  have f3 := AutoSeq1.sub_tuple_tuple
  have f4 : isSubtype (.type "str") (.type "str") = pure true := by rw [isSubtype_type]; kernel_rfl
  wp_walk
  exact ⟨_, rfl, h⟩
theorem issub_meets {T : Addr} {tt : Nat} : Meets (Builtin.«issubclass» ⟨[.type "str", .ref T], []⟩)
   (fun _ R s => s.heap.get? T = some { cls := .type "tuple", data := .seq #[.type "str", .type "bytes"] tt } ∧ R (.ok (.ret (.bool true))) s) := by
  intro prog w A R s h
  obtain ⟨hT, h⟩ := h
  obtain ⟨hh, g, d, tk, os⟩ := s
  have f3 := AutoSeq1.sub_tuple_tuple
  wp_walk
  refine ⟨plainId_quiet plain_issubn _, codeAny_builtin entry_issubn ?_⟩
  rw [Around.under_plainId plain_issubn _]
  wp_walk using issub_str_str
  all_goals first | exact h | rfl
theorem call_issub {prog : Program} {w : World} {A : Around} {E} {s : Shared} {Q : Value → Shared → Prop} {T : Addr} {tt : Nat} (hT : s.heap.get? T = some { cls := .type "tuple", data := .seq #[.type "str", .type "bytes"] tt }) (h : Q (.bool true) s) :
    wpAny (model prog w) A (call (.builtin "issubclass") [.type "str", .ref T]) Q E s :=
  call_function_meets (by decide +kernel) (by decide +kernel) entry_issub (by unfold argsOk; kernel_rfl) issub_meets ⟨hT, h⟩
end Mine
end

section
theorem Mine.rst_S1 : True ∧ True := by
  w_top off
  first | (walk1; fail "laid") | exact ⟨trivial, trivial⟩
open PySem PySem.W PyProof.Rows PySem.Calls
namespace Mine
theorem fill0 : (PySem.Challenge.rw_pd0049_01.prog = PySem.Challenge.rw_pd0049_01.prog) ∧ (∀ P, Mine.hd.heap_1 P = Mine.hd.heap_1 P) := by k_fill; exact ⟨rfl, fun _ => rfl⟩
local macro_rules | `(tactic| walk_at "call builtin:issubclass") => `(tactic| (refine call_issub (News.get (by k_asm) (by k_mem)) ?_))
-- enter a def
theorem fspath_spec {w : World} {A : Around} {s : Shared} {E : Value → Shared → Prop} {Q : Value → Shared → Prop} {x : Str} {t : Tok}
   (G : Gl w s.heap) (hR : Rm A 1)
   (h : ∀ h' tk', s.heap.StaysIn h' → Q (.str x t) { s with heap := h', toks := tk' }) :
   wpAny (model PP w) A (call (.ref 94) [.str x t]) Q E s := by
  obtain ⟨X, mean, mg, mb, T⟩ := G
  refine call_defK (binds := [(Str.ofString "path", .str x t)]) X T.nolimit (by k_is) (by k_is) (Rm.room hR) (BindsTo.of_eq rfl) (locs rfl) (by decide) rfl rfl rfl ?_
  intro h₁ L _ F N
  k_steps
  exact h _ _ (Fr.keep (by assumption))
theorem fspath_at {w : World} {A : Around} {s : Shared} {E : Value → Shared → Prop} {Q : Value → Shared → Prop} {h₀ : Heap} {L : Addr} {m : Str → Option Value} {news : List (Addr × Obj)} {mean mg mb} {x : Str} {t : Tok}
   (F : Fr h₀ L s.heap m) (N : News h₀ L s.heap news) (X : (Mine.hd.heap_1 w.params).In h₀) (T : Top VV LL mean mg mb h₀) (hR : Rm A 1)
   (h : ∀ h' tk', Fr h₀ L h' m → News h₀ L h' news → Q (.str x t) { s with heap := h', toks := tk' }) :
   wpAny (model PP w) A (call (.ref 94) [.str x t]) Q E s :=
  fspath_spec (Gl.keeps ⟨X, _, _, _, T⟩ F.keep) hR fun h' tk' st => h h' tk' (Fr.stays F st) (News.stays N st)
theorem getsep_spec {w : World} {A : Around} {s : Shared} {E : Value → Shared → Prop} {Q : Value → Shared → Prop} {x : Str} {t : Tok}
   (G : Gl w s.heap) (hR : Rm A 1)
   (h : ∀ t' h' tk', s.heap.StaysIn h' → Q (.str (Str.ofString "/") t') { s with heap := h', toks := tk' }) :
   wpAny (model PP w) A (call (.ref 108) [.str x t]) Q E s := by
  obtain ⟨X, mean, mg, mb, T⟩ := G
  refine call_defK (binds := [(Str.ofString "path", .str x t)]) X T.nolimit (by k_is) (by k_is) (Rm.room hR) (BindsTo.of_eq rfl) (locs rfl) (by decide) rfl rfl rfl ?_
  intro h₁ L _ F N
  k_steps
  exact h _ _ _ (Fr.keep (by assumption))
theorem getsep_at {w : World} {A : Around} {s : Shared} {E : Value → Shared → Prop} {Q : Value → Shared → Prop} {h₀ : Heap} {L : Addr} {m : Str → Option Value} {news : List (Addr × Obj)} {mean mg mb} {x : Str} {t : Tok}
   (F : Fr h₀ L s.heap m) (N : News h₀ L s.heap news) (X : (Mine.hd.heap_1 w.params).In h₀) (T : Top VV LL mean mg mb h₀) (hR : Rm A 1)
   (h : ∀ t' h' tk', Fr h₀ L h' m → News h₀ L h' news → Q (.str (Str.ofString "/") t') { s with heap := h', toks := tk' }) :
   wpAny (model PP w) A (call (.ref 108) [.str x t]) Q E s :=
  getsep_spec (Gl.keeps ⟨X, _, _, _, T⟩ F.keep) hR fun t' h' tk' st => h t' h' tk' (Fr.stays F st) (News.stays N st)
end Mine
end

section
theorem Mine.rst_S2 : True ∧ True := by
  w_top off
  first | (walk1; fail "laid") | exact ⟨trivial, trivial⟩
open PySem PySem.W PyProof.Rows PySem.Calls
namespace Mine
theorem fill1 : (PySem.Challenge.rw_pd0049_01.prog = PySem.Challenge.rw_pd0049_01.prog) ∧ (∀ P, Mine.hd.heap_1 P = Mine.hd.heap_1 P) := by k_fill; exact ⟨rfl, fun _ => rfl⟩
local macro_rules | `(tactic| walk_at "call ref") => `(tactic| (refine fspath_at (by k_asm) (by k_asm) (by k_asm) (by k_asm) (by walk_at "room") ?_; intro h' tk' F' N'))
local macro_rules | `(tactic| walk_at "call ref") => `(tactic| (refine getsep_at (by k_asm) (by k_asm) (by k_asm) (by k_asm) (by walk_at "room") ?_; intro t' h' tk' F' N'))
abbrev slash : Str := Str.ofString "/"
/-- up to and with the last slash -/
noncomputable def preF (x : Str) : Str := Txt.slice x none (some (Txt.rfind x slash + 1))
noncomputable def tailF (x : Str) : Str := Txt.slice x (some (Txt.rfind x slash + 1)) none
noncomputable def headF (x : Str) : Str :=
  if ((preF x).length : Int) ≠ 0 ∧ (preF x != Txt.mul slash ((preF x).length : Int)) = true then Txt.rstripChars (preF x) slash else preF x
theorem headF1 {x : Str} (h1 : ((preF x).length : Int) ≠ 0) (h2 : (preF x != Txt.mul slash ((preF x).length : Int)) = true) : headF x = Txt.rstripChars (preF x) slash := if_pos ⟨h1, h2⟩
theorem headF2 {x : Str} (h2 : (preF x != Txt.mul slash ((preF x).length : Int)) = false) : headF x = preF x := if_neg fun h => by rw [h2] at h; exact Bool.noConfusion h.2
theorem headF3 {x : Str} (h1 : ((preF x).length : Int) = 0) : headF x = preF x := if_neg fun h => h.1 h1
theorem split_spec {w : World} {A : Around} {s : Shared} {E : Value → Shared → Prop} {Q : Value → Shared → Prop} {x : Str} {t : Tok}
   (G : Gl w s.heap) (hR : Rm A 2) (hx : x.length ≤ 1000)
   (h : ∀ D t1 t2 h' tk', s.heap.StaysIn h' → h'.get? D = some { cls := .type "tuple", data := .seq #[.str (headF x) t1, .str (tailF x) t2] } → s.heap.get? D = none → Q (.ref D) { s with heap := h', toks := tk' }) :
   wpAny (model PP w) A (call (.ref 122) [.str x t]) Q E s := by
  obtain ⟨X, mean, mg, mb, T⟩ := G
  obtain ⟨hn, dp, fr, gd, un⟩ := A
  obtain rfl : hn = none := hR.handled
  refine call_defK (binds := [(Str.ofString "p", .str x t)]) X T.nolimit (by k_is) (by k_is) (Rm.room hR) (BindsTo.of_eq rfl) (locs rfl) (by decide) rfl rfl rfl ?_
  intro h₁ L _ F N
  k_steps
  · exact h _ _ _ _ _ (Fr.keep (by assumption)) ((News.get (by assumption) (List.Mem.head _)).trans (by rw [headF1 (by assumption) (by assumption)]; rfl)) (News.fresh (by assumption) (List.Mem.head _))
  · exact h _ _ _ _ _ (Fr.keep (by assumption)) ((News.get (by assumption) (List.Mem.head _)).trans (by rw [headF2 (by assumption)]; rfl)) (News.fresh (by assumption) (List.Mem.head _))
  · exact h _ _ _ _ _ (Fr.keep (by assumption)) ((News.get (by assumption) (List.Mem.head _)).trans (by rw [headF3 (by assumption)]; rfl)) (News.fresh (by assumption) (List.Mem.head _))
theorem dirname_spec {w : World} {A : Around} {s : Shared} {E : Value → Shared → Prop} {Q : Value → Shared → Prop} {x : Str} {t : Tok}
   (G : Gl w s.heap) (hR : Rm A 2) (hx : x.length ≤ 1000)
   (h : ∀ t1 h' tk', s.heap.StaysIn h' → Q (.str (headF x) t1) { s with heap := h', toks := tk' }) :
   wpAny (model PP w) A (call (.ref 129) [.str x t]) Q E s := by
  obtain ⟨X, mean, mg, mb, T⟩ := G
  obtain ⟨hn, dp, fr, gd, un⟩ := A
  obtain rfl : hn = none := hR.handled
  refine call_defK (binds := [(Str.ofString "p", .str x t)]) X T.nolimit (by k_is) (by k_is) (Rm.room hR) (BindsTo.of_eq rfl) (locs rfl) (by decide) rfl rfl rfl ?_
  intro h₁ L _ F N
  k_steps
  · have := h; rw [headF1 (by assumption) (by assumption)] at this; exact this _ _ _ (Fr.keep (by assumption))
  · have := h; rw [headF2 (by assumption)] at this; exact this _ _ _ (Fr.keep (by assumption))
  · have := h; rw [headF3 (by assumption)] at this; exact this _ _ _ (Fr.keep (by assumption))
end Mine
end

section
theorem Mine.rst_Base2 : True ∧ True := by
  w_top off
  first | (walk1; fail "laid") | exact ⟨trivial, trivial⟩
open PySem PySem.W PyProof.Rows PySem.Calls
namespace Mine
section
variable {prog : Program} {w : World} {A : Around} {s : Shared} {K : Frag} {E : Value → Shared → Prop} {Q : Value → Shared → Prop}
/-- what binds and lays a tuple of the rest -/
noncomputable def BindsRest (s : Shared) (fd : FuncData) (args : Args) (vs : List Value) (binds : Addr → List (Str × Value)) : Prop :=
  ∀ (M : Model) (A : Around) (E : Value → Shared → Prop) (Q : List (Str × Value) → Shared → Prop),
    Q (binds s.heap.objs.size) { s with heap := s.heap.push { cls := .type "tuple", data := .seq vs.toArray } } → wpAny M A (bindArgs fd args) Q E s
theorem call_defR {name qual : Str} {params : Arguments} {body : List Stmt} {scope : Scope} {dV kV doc pm cdv ct oc : Value} {an od : Option Addr} {osl : Array (Option Value)} {f : Addr} {vs us : List Value} {binds : Addr → List (Str × Value)}
    (X : K.In s.heap) (hlim : s.heap.NoLimit)
    (ho : K.lookup f = some ⟨oc, od, .func (fnOf name qual params body scope dV kV doc pm an cdv ct), osl⟩) (hcd : codeIn K cdv qual = true) (hroom : A.depth < recursionLimit)
    (hbind : BindsRest s (fnOf name qual params body scope dV kV doc pm an cdv ct) ⟨vs, []⟩ us binds) (hloc : ∀ D, ∀ y ∈ binds D, scope.names.lookup y.1 = some .local)
    (hcell : ∀ x ∈ scope.names, x.2 ≠ .cell) (hco : scope.isCoroutine = false) (hgen : scope.isGenerator = false) (hk : scope.kind = .function)
    (h : ∀ h₁ D L, Fr s.heap L h₁ (fun y => (binds D).reverse.lookup y) → News s.heap L h₁ [(D, { cls := .type "tuple", data := .seq us.toArray })] →
      wpAny (model prog w) (A.deeper (envOf qual scope L f cdv)) (execs body (envOf qual scope L f cdv))
        (fun fl s' => Q (match fl with | .ret v => v | _ => .none) s') (fun _ _ => False)
        { s with heap := h₁, toks := s.toks + (binds D).length }) :
    wpAny (model prog w) A (call (.ref f) vs) Q E s := by
  refine wpAny_call (codeAny_call_function (fd := fnOf name qual params body scope dV kV doc pm an cdv ct) (body := body) hroom (X _ _ ho) rfl hco hgen rfl (codeRec_of X hcd) (hbind _ _ _ _ ?_))
  have st : s.heap.StaysIn (s.heap.push { cls := .type "tuple", data := .seq us.toArray }) := fun b o e => Heap.get?_push_of_some _ e
  refine wpAny_newFunctionEnv hcell (hloc _) (fun h₁ hns hsb => ⟨(hlim.keeps st).fresh _ hsb, codeAny_func ?_⟩) hk
  have k1 : ∀ b o, (s.heap.push { cls := .type "tuple", data := .seq us.toArray }).get? b = some o → h₁.get? b = some o :=
    fun b o e => hsb.extBut b o (Nat.ne_of_lt (Heap.lt_size e)) (Heap.get?_push_of_some _ e)
  have hD : (s.heap.push { cls := .type "tuple", data := .seq us.toArray }).get? s.heap.objs.size = some { cls := .type "tuple", data := .seq us.toArray } := Heap.get?_push_size _ rfl
  have hs : s.heap.objs.size ≤ (s.heap.push { cls := .type "tuple", data := .seq us.toArray }).objs.size := by rw [Heap.size_push]; omega
  refine wpAny_mono (h h₁ _ _ ⟨hns, fun b o e => k1 b o (st b o e), hs⟩ ?_) (fun fl s' hl => hl) (fun _ _ x => x.elim)
  intro p hp
  cases hp with
  | head =>
    refine ⟨k1 _ _ hD, Nat.ne_of_lt ?_, ?_⟩
    · exact Heap.lt_size hD
    · cases q : s.heap.get? s.heap.objs.size with
      | none => rfl
      | some o => exact absurd (Heap.lt_size q) (Nat.lt_irrefl _)
  | tail _ hp => cases hp
theorem call_defC {name qual : Str} {params : Arguments} {body : List Stmt} {scope : Scope} {dV kV doc pm cdv ct oc : Value} {an od : Option Addr} {osl : Array (Option Value)} {f : Addr} {vs : List Value} {binds : List (Str × Value)}
    (X : K.In s.heap) (hlim : s.heap.NoLimit)
    (ho : K.lookup f = some ⟨oc, od, .func (fnOf name qual params body scope dV kV doc pm an cdv ct), osl⟩) (hcd : codeIn K cdv qual = true) (hroom : A.depth < recursionLimit)
    (hbind : BindsTo s (fnOf name qual params body scope dV kV doc pm an cdv ct) ⟨vs, []⟩ binds) (hkind : (binds.all fun y => scope.names.lookup y.1 == some .local || scope.names.lookup y.1 == some .cell) = true)
    (hnd : ((cellsFrom 0 scope.names []).map (·.1)).Nodup) (hco : scope.isCoroutine = false) (hgen : scope.isGenerator = false) (hk : scope.kind = .function)
    (h : ∀ h₁ L tk cells, Fr s.heap L h₁ (bindL (envOfC qual scope L f cdv).kindOf binds fun _ => none) → News s.heap L h₁ cells →
      CellsAre (bindC (envOfC qual scope L f cdv).kindOf binds fun _ => none) (cellsFrom (L + 1) scope.names []) cells →
      wpAny (model prog w) (A.deeper (envOfC qual scope L f cdv)) (execs body (envOfC qual scope L f cdv))
        (fun fl s' => Q (match fl with | .ret v => v | _ => .none) s') (fun _ _ => False)
        { s with heap := h₁, toks := tk }) :
    wpAny (model prog w) A (call (.ref f) vs) Q E s := by
  refine wpAny_call (codeAny_call_function (fd := fnOf name qual params body scope dV kV doc pm an cdv ct) (body := body) hroom (X _ _ ho) rfl hco hgen rfl (codeRec_of X hcd) (hbind _ _ _ _ ?_))
  refine wpAny_newFunctionEnv_cells hk (kindsX hkind _) fun env' he s' x => ?_
  subst he
  refine ⟨hlim.keeps x.toInCall.keep, codeAny_func ?_⟩
  obtain ⟨h₁, tk, rfl, _⟩ := x.done
  have hk₁ := x.toInCall.keep
  obtain ⟨cells, NC, Y⟩ := Cl.news (h₀ := s.heap) (Nat.le_refl _) fun n c hm => ⟨x.cell n c (lookup_of_mem_nodup (cellsFrom_names scope.names 0 (s.heap.objs.size + 1) [] [] rfl ▸ hnd) hm), x.above n c hm⟩
  exact wpAny_mono (h h₁ _ tk cells ⟨x.toInCall.ns, hk₁, Nat.le_refl _⟩ NC Y) (fun fl s' hl => hl) (fun _ _ x => x.elim)
end
end Mine
end

section
theorem Mine.rst_S3 : True ∧ True := by
  w_top off
  first | (walk1; fail "laid") | exact ⟨trivial, trivial⟩
open PySem PySem.W PyProof.Rows PySem.Calls
namespace Mine
theorem fill2 : (PySem.Challenge.rw_pd0049_01.prog = PySem.Challenge.rw_pd0049_01.prog) ∧ (∀ P, Mine.hd.heap_1 P = Mine.hd.heap_1 P) := by k_fill; exact ⟨rfl, fun _ => rfl⟩
local macro_rules | `(tactic| walk_at "call ref") => `(tactic| (refine fspath_at (by k_asm) (by k_asm) (by k_asm) (by k_asm) (by walk_at "room") ?_; intro h' tk' F' N'))
local macro_rules | `(tactic| walk_at "call ref") => `(tactic| (refine getsep_at (by k_asm) (by k_asm) (by k_asm) (by k_asm) (by walk_at "room") ?_; intro t' h' tk' F' N'))
noncomputable def joinF (x y : Str) : Str :=
  if Txt.startswith y slash = true then y else if ((x.length : Nat) : Int) = 0 then y else if Txt.endswith x slash = true then x ++ y else x ++ (slash ++ y)
theorem joinF1 {x y : Str} (h : Txt.startswith y slash = true) : joinF x y = y := if_pos h
theorem joinF2 {x y : Str} (h1 : Txt.startswith y slash = false) (h2 : ((x.length : Nat) : Int) = 0) : joinF x y = y := by rw [joinF, if_neg (by rw [h1]; decide), if_pos h2]
theorem joinF3 {x y : Str} (h1 : Txt.startswith y slash = false) (h2 : ((x.length : Nat) : Int) ≠ 0) (h3 : Txt.endswith x slash = true) : joinF x y = x ++ y := by rw [joinF, if_neg (by rw [h1]; decide), if_neg h2, if_pos h3]
theorem joinF4 {x y : Str} (h1 : Txt.startswith y slash = false) (h2 : ((x.length : Nat) : Int) ≠ 0) (h3 : Txt.endswith x slash = false) : joinF x y = x ++ (slash ++ y) := by rw [joinF, if_neg (by rw [h1]; decide), if_neg h2, if_neg (by rw [h3]; decide)]
theorem join_spec {w : World} {A : Around} {s : Shared} {E : Value → Shared → Prop} {Q : Value → Shared → Prop} {x y : Str} {t u : Tok}
   (G : Gl w s.heap) (hR : Rm A 2) (hx : x.length ≤ 1000) (hy : y.length ≤ 1000)
   (h : ∀ t1 h' tk', s.heap.StaysIn h' → Q (.str (joinF x y) t1) { s with heap := h', toks := tk' }) :
   wpAny (model PP w) A (call (.ref 115) [.str x t, .str y u]) Q E s := by
  obtain ⟨X, mean, mg, mb, T⟩ := G
  obtain ⟨hn, dp, fr, gd, un⟩ := A
  obtain rfl : hn = none := hR.handled
  refine call_defR (us := [.str y u]) (binds := fun D => [(Str.ofString "a", .str x t), (Str.ofString "p", .ref D)])  X T.nolimit (by k_is) (by k_is) (Rm.room hR) (fun M A E Q hq => ?_) (fun _ => locs rfl) (by decide) rfl rfl rfl ?_
  · obtain ⟨hp, g, d, tk, os⟩ := s
    wp_walk
    exact hq
  intro h₁ D L F N
  k_steps
  · have e := h; rw [joinF1 (by assumption)] at e; exact e _ _ _ (Fr.keep (by assumption))
  · have e := h; rw [joinF3 (by assumption) (by assumption) (by assumption)] at e; exact e _ _ _ (Fr.keep (by assumption))
  · have e := h; rw [joinF4 (by assumption) (by assumption) (by assumption)] at e; exact e _ _ _ (Fr.keep (by assumption))
  · have e := h; rw [joinF2 (by assumption) (by assumption)] at e; exact e _ _ _ (Fr.keep (by assumption))
end Mine
end

section
theorem Mine.rst_RM : True ∧ True := by
  w_top off
  first | (walk1; fail "laid") | exact ⟨trivial, trivial⟩
open PySem PySem.W PyProof.Rows PySem.Calls
open Sem (wp)
open AutoSeq1 (wpAny_loadPart')
namespace Mine
theorem slot_map_init : Slot "map" "__init__" "object.__init__" :=
  .of (owner := "object") (n := "__init__") (by rw [typeLookup_type, builtinLookup_eq_fast]; kernel_rfl) (by decide +kernel) (by decide +kernel) (by decide +kernel)
    (by first | exact .inl (by decide +kernel) | exact .inr (by decide +kernel)) (by rw [isSubtype_type]; kernel_rfl)
theorem slot_map_iter : Slot "map" "__iter__" "map.__iter__" :=
  .of (owner := "map") (n := "__iter__") (by rw [typeLookup_type, builtinLookup_eq_fast]; kernel_rfl) (by decide +kernel) (by decide +kernel) (by decide +kernel)
    (by first | exact .inl (by decide +kernel) | exact .inr (by decide +kernel)) (by rw [isSubtype_type]; kernel_rfl)
theorem slot_map_next : Slot "map" "__next__" "map.__next__" :=
  .of (owner := "map") (n := "__next__") (by rw [typeLookup_type, builtinLookup_eq_fast]; kernel_rfl) (by decide +kernel) (by decide +kernel) (by decide +kernel)
    (by first | exact .inl (by decide +kernel) | exact .inr (by decide +kernel)) (by rw [isSubtype_type]; kernel_rfl)
theorem args_map_iter (a : Value) : argsOk "map.__iter__" ⟨[a], []⟩ := by unfold argsOk; kernel_rfl
theorem args_map_next (a : Value) : argsOk "map.__next__" ⟨[a], []⟩ := by unfold argsOk; kernel_rfl
theorem entry_map_iter : entryFor table "map.__iter__" = some Builtin.«dict_keyiterator.__iter__» :=
  entryFor_alias (id' := "dict_keyiterator.__iter__") (by kernel_rfl) (by first | rfl | decide +kernel | (unfold String.splitOn; simp +decide [String.splitOnAux])) (by decide +kernel) (by kernel_rfl)
theorem entry_map_next : entryFor table "map.__next__" = some Builtin.«map.__next__» := entryFor_of_tree (by kernel_rfl)
theorem entry_map_new : entryFor table "map.__new__" = some Builtin.«map.__new__» := entryFor_of_tree (by kernel_rfl)
theorem mro_map : mroOf (.type "map") = pure [.type "map", .type "object"] := by rw [mroOf_type]; kernel_rfl
theorem lookup_map_new : typeLookup (.type "map") "__new__" = pure (some (.builtin "map.__new__")) := by rw [typeLookup_type, builtinLookup_eq_fast]; kernel_rfl
theorem called_map : TypeCalled "map" "map.__new__" "object.__init__" :=
  ⟨by decide +kernel, by decide +kernel, ⟨_, _, mro_map⟩, madeBy_type mro_map lookup_map_new (by decide +kernel), by decide +kernel, by rw [isSubtype_type]; kernel_rfl, slot_map_init⟩
theorem typeCall_map_2 (a b : Value) : checkTypeCall "map" ⟨[a, b], []⟩ = pure () := by kernel_rfl
theorem newCall_map_2 (a b : Value) : checkBuiltinCall "map.__new__" ⟨[.type "map", a, b], []⟩ = pure () := by kernel_rfl
theorem args_object_init_3 (a b c : Value) : argsOk "object.__init__" ⟨[a, b, c], []⟩ := by unfold argsOk; kernel_rfl
theorem sub_map : isSubtype (.type "map") (.type "map") = pure true := by rw [isSubtype_type]; kernel_rfl
theorem map_no_len : typeLookup (.type "map") "__len__" = pure none := by rw [typeLookup_type, builtinLookup_eq_fast]; kernel_rfl
theorem map_no_hint : typeLookup (.type "map") "__length_hint__" = pure none := by rw [typeLookup_type, builtinLookup_eq_fast]; kernel_rfl
noncomputable abbrev liO (l : Addr) (i : Nat) : Obj := { cls := .type "list_iterator", data := .fields #[.ref l, .int i 0] }
noncomputable abbrev tupO (vs : Array Value) : Obj := { cls := .type "tuple", data := .seq vs }
noncomputable abbrev mapO (T : Addr) (f : Value) : Obj := { cls := .type "map", data := .fields #[.ref T, f] }
theorem meets_map_new (f : Value) (l : Addr) (items : Array Value) :
    Meets (Builtin.«map.__new__» ⟨[.type "map", f, .ref l], []⟩) (fun _ R s => s.heap.IsList l items ∧
      R (.ok (.ret (.ref (s.heap.objs.size + 2)))) { s with heap := ((s.heap.push (liO l 0)).push (tupO #[.ref s.heap.objs.size])).push (mapO (s.heap.objs.size + 1) f) }) :=
  .of_wp fun prog w A R s h => by
    obtain ⟨hp, g, d, tk, os⟩ := s; obtain ⟨hl, h⟩ := h
    have hsub := sub_map
    have e1 : (hp.push (liO l 0)).objs.size = hp.objs.size + 1 := Heap.size_push ..
    have e2 : ((hp.push (liO l 0)).push (tupO #[.ref hp.objs.size])).objs.size = hp.objs.size + 2 := by rw [Heap.size_push, Heap.size_push]
    wp_walk using wpAny_pyIter_list hl
    refine ⟨_, rfl, ?_⟩
    refine Eq.mp ?_ h
    congr
    · show _ = ((hp.push (liO l 0)).push (tupO #[.ref hp.objs.size])).objs.size
      rw [e2]
    · show _ = (hp.push (liO l 0)).objs.size
      rw [e1]
end Mine
end

section
theorem Mine.rst_RM2 : True ∧ True := by
  w_top off
  first | (walk1; fail "laid") | exact ⟨trivial, trivial⟩
open PySem PySem.W PyProof.Rows PySem.Calls
open Sem (wp)
open AutoSeq1 (wpAny_loadPart')
namespace Mine
section
variable {prog : Program} {w : World} {A : Around} {E : Value → Shared → Prop} {s : Shared}
theorem call_map2 {f : Value} {l : Addr} {items : Array Value} {Q : Value → Shared → Prop} (hl : s.heap.IsList l items)
    (h : ∀ h' I T M, h'.get? I = some (liO l 0) → h'.get? T = some (tupO #[.ref I]) → h'.get? M = some (mapO T f) → s.heap.StaysIn h' → s.heap.get? I = none → s.heap.get? T = none → s.heap.get? M = none → I < T → T < M →
      Q (.ref M) { s with heap := h' }) :
    wpAny (model prog w) A (call (.type "map") [f, .ref l]) Q E s := by
  refine callType_new called_map (by decide) (typeCall_map_2 _ _) (newCall_map_2 _ _) (fun obj => args_object_init_3 obj _ _) entry_map_new (meets_map_new f l items) ⟨hl, ?_⟩
  have e1 : (s.heap.push (liO l 0)).objs.size = s.heap.objs.size + 1 := Heap.size_push ..
  have e2 : ((s.heap.push (liO l 0)).push (tupO #[.ref s.heap.objs.size])).objs.size = s.heap.objs.size + 2 := by rw [Heap.size_push, Heap.size_push]
  have n0 : ∀ k, s.heap.get? (s.heap.objs.size + k) = none := fun k => by
    cases q : s.heap.get? (s.heap.objs.size + k) with
    | none => rfl
    | some o => exact absurd (Heap.lt_size q) (Nat.not_lt_of_le (Nat.le_add_right _ _))
  have hI : (s.heap.push (liO l 0)).get? s.heap.objs.size = some (liO l 0) := Heap.get?_push_size _ rfl
  have hT : ((s.heap.push (liO l 0)).push (tupO #[.ref s.heap.objs.size])).get? (s.heap.objs.size + 1) = some (tupO #[.ref s.heap.objs.size]) := by
    rw [← e1]; exact Heap.get?_push_size _ rfl
  have hM : (((s.heap.push (liO l 0)).push (tupO #[.ref s.heap.objs.size])).push (mapO (s.heap.objs.size + 1) f)).get? (s.heap.objs.size + 2) = some (mapO (s.heap.objs.size + 1) f) := by
    rw [← e2]; exact Heap.get?_push_size _ rfl
  exact ⟨⟨_, hM, rfl⟩, h _ s.heap.objs.size (s.heap.objs.size + 1) (s.heap.objs.size + 2) (Heap.get?_push_of_some _ (Heap.get?_push_of_some _ hI)) (Heap.get?_push_of_some _ hT) hM
    (fun b o e => Heap.get?_push_of_some _ (Heap.get?_push_of_some _ (Heap.get?_push_of_some _ e))) (n0 0) (n0 1) (n0 2) (Nat.lt_succ_self _) (Nat.lt_succ_self _)⟩
theorem nextOf_itemV {v : Value} {it l : Addr} {i : Nat} {items : Array Value} {x : Value} {Q : Value → Shared → Prop} (hit : s.heap.IsListIter it l i)
    (hl : s.heap.IsList l items) (hx : items[i]? = some x)
    (hQ : ∀ h', h'.IsListIter it l (i + 1) → Heap.SameBut it s.heap h' → Q x { s with heap := h' }) (hv : v = .ref it) :
    wpAny (model prog w) A (Builtin.SmallTypes.nextOf v) Q E s := by subst hv; exact wpAny_nextOf_list_item hit hl hx hQ
theorem nextOf_endV {v : Value} {it l : Addr} {i : Nat} {items : Array Value} {Q : Value → Shared → Prop} (hh : A.handled = none)
    (hit : s.heap.IsListIter it l i) (hl : s.heap.IsList l items) (hx : items[i]? = none)
    (hQ : ∀ e h', Heap.ExtBut it s.heap h' → (∃ o, h'.get? e = some o ∧ o.cls = .type "StopIteration") → E (.ref e) { s with heap := h' }) (hv : v = .ref it) :
    wpAny (model prog w) A (Builtin.SmallTypes.nextOf v) Q E s := by
  subst hv
  exact wpAny_nextOf_list_end hh hit hl hx fun h' e h1 h2 => hQ e h' h1 h2
theorem fspath_specV {f : Value} {vs : List Value} {Q : Value → Shared → Prop} {x : Str} {t : Tok}
   (G : Gl w s.heap) (hR : Rm A 1)
   (h : ∀ h' tk', s.heap.StaysIn h' → Q (.str x t) { s with heap := h', toks := tk' }) (hf : f = .ref 94) (hvs : vs = [.str x t]) :
   wpAny (model PP w) A (call f vs) Q E s := by subst hf hvs; exact fspath_spec G hR h
/-- the map of fspath over a list of texts: its walk -/
theorem map_walks {h₀ : Heap} {M T I l : Addr} {items : Array Value} (G : Gl w h₀) (hR : Rm A 4) (s₁ : Shared)
    (st : h₀.StaysIn s₁.heap) (hI0 : h₀.get? I = none) (hTI : T ≠ I) (hMI : M ≠ I) (hlI : l ≠ I)
    (hT : s₁.heap.get? T = some (tupO #[.ref I])) (hM : s₁.heap.get? M = some (mapO T (.ref 94))) (hl : s₁.heap.IsList l items)
    (hs : ∀ v ∈ items.toList, ∃ x t, v = .str x t) (hIlt : I < s₁.heap.objs.size) :
    Walks PP w A M (List.range s₁.heap.objs.size) [I] items.size (fun i v => items[i]? = some v)
      (fun i h => (∀ b o, b ≠ I → s₁.heap.get? b = some o → h.get? b = some o) ∧ h.IsListIter I l i) where
  sub := fun b hb => by
    obtain rfl : b = I := by simpa using hb
    exact List.mem_range.mpr hIlt
  frame := fun i h h' hst hk => ⟨fun b o hb e => hk b (List.mem_range.mpr (Heap.lt_size e)) o (hst.1 b o hb e), by
    obtain ⟨o, ho, hc⟩ := hst.2
    exact ⟨o, hk I (List.mem_range.mpr hIlt) o ho, hc⟩⟩
  item := fun i s Q E hi hst hQ => by
    obtain ⟨hk, hit⟩ := hst
    have hT' := hk T _ hTI hT
    have hM' := hk M _ hMI hM
    have hl' : s.heap.IsList l items := by obtain ⟨o, ho, r⟩ := hl; exact ⟨o, hk l o hlI ho, r⟩
    have hTy : s.TypeIs (.ref M) "map" := ⟨_, hM', rfl⟩
    obtain ⟨x, t, hx⟩ := hs items[i] (by simp)
    unfold pyNext
    refine wpAny_bind (wpAny_attempt (wpAny_callSpecial?_slot (name := Str.ofString "__next__") hTy slot_map_next
      (wpAny_call_entry slot_map_next hTy entry_map_next ?_ (args_map_next _))))
    obtain ⟨hp, g, d, tk, os⟩ := s
    have hix : items[i]? = some (.str x t) := by rw [← hx]; simp [hi]
    wp_walk using nextOf_itemV hit hl' hix
    · intro h' hit2 hsb
      have hM2 : h'.get? M = some (mapO T (.ref 94)) := (hsb.2 M hMI).trans hM'
      have hG : Gl w h' := G.keeps fun b o e => by
        have hb : b ≠ I := fun q => by rw [q, hI0] at e; cases e
        exact (hsb.2 b hb).trans (hk b o hb (st b o e))
      wp_walk using fspath_specV (s := { heap := h', gens := g, drawn := d, toks := tk, os := os }) (x := x) (t := t) hG (Rm.mono (Rm.in1 hR) (by decide))
      · intro h2 tk2 st2
        wp_walk
        refine ⟨_, rfl, ?_⟩
        wp_walk
        refine hQ _ h2 tk2 hix ⟨fun b o hb e => st2 b o ((hsb.2 b hb).trans (hk b o hb e)), ?_⟩ fun b o hb e => ?_
        · obtain ⟨o, ho, r⟩ := hit2
          exact ⟨o, st2 _ _ ho, r⟩
        · exact st2 b o ((hsb.2 b (by simpa using hb)).trans e)
      · rfl
      · rfl
    · rfl
  done := fun s Q E hst hQ => by
    obtain ⟨hk, hit⟩ := hst
    have hT' := hk T _ hTI hT
    have hM' := hk M _ hMI hM
    have hl' : s.heap.IsList l items := by obtain ⟨o, ho, r⟩ := hl; exact ⟨o, hk l o hlI ho, r⟩
    have hTy : s.TypeIs (.ref M) "map" := ⟨_, hM', rfl⟩
    unfold pyNext
    refine wpAny_bind (wpAny_attempt (wpAny_callSpecial?_slot (name := Str.ofString "__next__") hTy slot_map_next
      (wpAny_call_entry slot_map_next hTy entry_map_next ?_ (args_map_next _))))
    obtain ⟨hp, g, d, tk, os⟩ := s
    have hix : items[items.size]? = none := by simp
    wp_walk using nextOf_endV (A := A.in1) hR.handled hit hl' hix
    · intro e h' hx ⟨o, ho, hc⟩
      refine wpAny_bind (wpAny_isInstance (T := "StopIteration") (b := true) ⟨o, ho, hc⟩ isSubtype_stop ?_)
      exact wpAny_pure (hQ h' tk fun b o hb e => hx b o (by simpa using hb) e)
    · rfl
  self := fun i s Q E hst h => by
    have hM' := hst.1 M _ hMI hM
    have hTy : s.TypeIs (.ref M) "map" := ⟨_, hM', rfl⟩
    refine wpAny_pyIter_slot hTy slot_map_iter (wpAny_call_entry slot_map_iter hTy entry_map_iter ?_ (args_map_iter _))
    show wpAny _ _ (ret (.ref M)) _ _ s
    exact wpAny_pure ⟨_, rfl, "map", _, hTy, slot_map_next.lookup, h⟩
end
end Mine
end

section
theorem Mine.rst_RM3 : True ∧ True := by
  w_top off
  first | (walk1; fail "laid") | exact ⟨trivial, trivial⟩
open PySem PySem.W PyProof.Rows PySem.Calls
open Sem (wp)
open AutoSeq1 (wpAny_loadPart')
namespace Mine
noncomputable abbrev lstO (xs : Array Value) (c : Nat) : Obj := { cls := .type "list", dict := none, data := .seq xs c, slots := #[] }
section
variable {prog : Program} {w : World} {A : Around} {E : Value → Shared → Prop} {R : Result → Shared → Prop} {s : Shared} {I : Addr} {fp wr : List Addr} {n : Nat} {P : Nat → Value → Prop} {St : Nat → Heap → Prop}
theorem extend_loopW (W : Walks prog w A.in1 I fp wr n P St) (hn : n ≤ sizeLine) (S : Addr) (hSf : S ∉ fp) (res : Value) :
    ∀ (k i : Nat) (s : Shared) (acc : Array Value) (c : Nat), n - i = k → i ≤ n → St i s.heap → s.heap.get? S = some (lstO acc c) → ItemsOf P acc i →
    (∀ h' tk acc' c', (∀ b o, b ≠ S → b ∉ wr → s.heap.get? b = some o → h'.get? b = some o) → h'.get? S = some (lstO acc' c') → ItemsOf P acc' n → R (.ok (.ret res)) { s with heap := h', toks := tk }) →
    codeAny (model prog w) A (.builtin "list.extend.loop" ⟨[.ref S, .ref I, res], []⟩) R s := by
  intro k i s acc c hk hi hst hS hacc hR
  refine codeAny_extend_loopS W.toS hn S hSf res k i s acc c hk hi hst hS hacc fun s' acc' c' hm hS' ha => ?_
  obtain ⟨hp, g, d, tk, os⟩ := s'
  obtain ⟨m1, m2, m3, m4, _⟩ := hm
  dsimp only at m1 m2 m3 m4 hS'
  subst m2 m3 m4
  exact hR hp tk acc' c' (fun b o hb hw e => m1 b o (fun hm => (List.mem_cons.mp hm).elim hb hw) e) hS' ha
theorem collect_map {Q : List Value → Shared → Prop} (W : Walks prog w A.in1 I fp wr n P St) (hT : ∀ i h, St i h → ∃ o, h.get? I = some o ∧ o.cls = .type "map") (hst : St 0 s.heap) (hfp : ∀ b ∈ fp, b < s.heap.objs.size) (hI : I ∈ fp)
    (hQ : ∀ h' tk acc, (∀ b o, b ∉ wr → s.heap.get? b = some o → h'.get? b = some o) → ItemsOf P acc n → Q acc.toList { s with heap := h', toks := tk }) (hn : n ≤ sizeLine) : wpAny (model prog w) A (collect (.ref I)) Q E s := by
  have hSf : s.heap.objs.size ∉ fp := fun hm => Nat.lt_irrefl _ (hfp _ hm)
  have hSI : s.heap.objs.size ≠ I := fun e => hSf (e ▸ hI)
  unfold collect
  refine wpAny_bind (wpAny_runValue (codeAny_builtin F.entry_proto_collect ?_))
  rw [Around.under_plainId F.plain_proto_collect _]
  show wpAny _ A.in1 (newList [] >>= fun l => again (.builtin "list.__iadd__" ⟨[l, .ref I], []⟩)) _ _ s
  refine wpAny_bind (wpAny_newObj_type ?_)
  refine wpAny_pure ⟨plainId_quiet F.plain_list_iadd _, codeAny_builtin F.entry_list_iadd ?_⟩
  rw [Around.under_plainId F.plain_list_iadd _]
  have hst₁ := W.frame 0 s.heap (s.heap.push (lstO #[] 0)) hst fun b _ o e => Heap.get?_push_of_some _ e
  have hT1 : Shared.TypeIs { s with heap := s.heap.push (lstO #[] 0) } (.ref I) "map" := hT 0 _ hst₁
  show wpAny _ A.in1 (Builtin.List.listExtendWith (.ref s.heap.objs.size) (.ref I) (.ref s.heap.objs.size)) _ _ _
  unfold Builtin.List.listExtendWith
  refine wpAny_bind (wpAny_typeOf hT1 ?_)
  have h1 : Builtin.List.listSameRef (.ref s.heap.objs.size) (.ref I) = false := by simp [Builtin.List.listSameRef, hSI]
  have h2 : (Value.type "map" == Value.type "list") = false := by decide
  have h3 : (Value.type "map" == Value.type "tuple") = false := by decide
  simp only [h1, h2, h3, Bool.or_false, Bool.false_eq_true, if_false]
  refine wpAny_bind (W.self 0 _ _ _ hst₁ ?_)
  refine wpAny_bind (wpAny_holding ?_)
  unfold Builtin.List.listLengthHint
  refine wpAny_bind (wpAny_specialOf hT1 map_no_len ?_)
  show wpAny _ A.in1 (specialOf (Value.ref I) (Str.ofString "__length_hint__") >>= _) _ _ _
  refine wpAny_bind (wpAny_specialOf hT1 map_no_hint ?_)
  refine wpAny_pure ?_
  show wpAny _ A.in1 (rule "list.extend.makes-room" >>= fun _ => Builtin.List.listTouch (.ref s.heap.objs.size) >>= fun _ =>
    again (.builtin "list.extend.loop" ⟨[.ref s.heap.objs.size, .ref I, .ref s.heap.objs.size], []⟩)) _ _ _
  refine wpAny_bind (wpAny_rule ?_)
  have hS₁ : (s.heap.push (lstO #[] 0)).get? s.heap.objs.size = some (lstO #[] 0) := Heap.get?_push_size _ rfl
  refine wpAny_bind ?_
  show wpAny _ A.in1 (updateSeq s.heap.objs.size (·.push .none) >>= fun _ => updateSeq s.heap.objs.size (·.pop)) _ _ _
  refine wpAny_bind (wpAny_updateSeq hS₁ rfl ?_)
  have hS₂ := Heap.get?_update_self (Obj.mapSeq (·.push Value.none)) hS₁ rfl
  refine wpAny_updateSeq hS₂ rfl ?_
  have hS₃ := Heap.get?_update_self (Obj.mapSeq (·.pop)) hS₂ rfl
  have oth : ∀ b o, b ≠ s.heap.objs.size → (s.heap.push (lstO #[] 0)).get? b = some o →
      (((s.heap.push (lstO #[] 0)).update s.heap.objs.size (Obj.mapSeq (·.push Value.none))).update s.heap.objs.size (Obj.mapSeq (·.pop))).get? b = some o :=
    fun b o hb e => (Heap.get?_update_other _ _ (Ne.symm hb)).trans ((Heap.get?_update_other _ _ (Ne.symm hb)).trans e)
  refine wpAny_pure ⟨plainId_quiet F.plain_extend_loop _, extend_loopW W hn _ hSf _ n 0 _ _ _ rfl (Nat.zero_le _)
    (W.frame 0 _ _ hst₁ fun b hb o e => oth b o (fun h => hSf (h ▸ hb)) e) hS₃ (ItemsOf.nil P) fun h' tk acc' c' hm hS' hacc => ?_⟩
  show wpAny _ A (load s.heap.objs.size >>= _) _ _ _
  refine wpAny_bind (wpAny_load hS' ?_)
  refine wpAny_pure (hQ h' tk acc' (fun b o hb e => ?_) hacc)
  have hbs : b ≠ s.heap.objs.size := Nat.ne_of_lt (Heap.lt_size e)
  exact hm b o hbs hb (oth b o hbs (Heap.get?_push_of_some _ e))
theorem call_tuple_map {Q : Value → Shared → Prop} (W : Walks prog w A.in1.in1.in1 I fp wr n P St) (hT : ∀ i h, St i h → ∃ o, h.get? I = some o ∧ o.cls = .type "map") (hst : St 0 s.heap) (hfp : ∀ b ∈ fp, b < s.heap.objs.size) (hI : I ∈ fp)
    (hQ : ∀ (h' : Heap) tk acc, (∀ b o, b ∉ wr → s.heap.get? b = some o → h'.get? b = some o) → ItemsOf P acc n → Q (.ref h'.objs.size) { s with heap := h'.push (tupO acc), toks := tk }) (hn : n ≤ sizeLine) :
    wpAny (model prog w) A (call (.type "tuple") [.ref I]) Q E s := by
  refine callType_codes (Q₁ := fun obj s₁ => s₁.TypeIs obj "tuple" ∧ Q obj s₁) F.called_tuple (F.typeCall_tuple_1 _) F.entry_object_init ?_ fun obj s₁ h₁ => ?_
  · refine codeAny_of_tree ?_
    show wpAny _ A.in1.in1 (do checkBuiltinCall "tuple.__new__" ⟨[.type "tuple", .ref I], []⟩; again (.builtin "tuple.__new__" ⟨[.type "tuple", .ref I], []⟩)) _ _ s
    refine wpAny_bind (wpAny_of_eq (F.newCall_tuple_1 _) (wpAny_pure ⟨plainId_quiet F.plain_tuple_new _, codeAny_builtin F.entry_tuple_new ?_⟩))
    rw [Around.under_plainId F.plain_tuple_new _]
    have hsub := sub_tuple_self
    have hinit := init_tuple_lookup
    have hmh := madeHere_tuple
    have hTI : s.TypeIs (.ref I) "map" := hT 0 _ hst
    wp_walk using wpAny_typeOf hTI, collect_map W hT hst hfp hI
    · intro h' tk acc hm hacc
      show wpAny _ _ (Builtin.Tuple.tupleExact acc.toList.toArray >>= fun v => ret v) _ _ _
      unfold Builtin.Tuple.tupleExact
      refine wpAny_bind (wpAny_newObj_type ?_ (by show acc.toList.toArray.size ≤ sizeLine; simp only [Array.toArray_toList]; rw [hacc.1]; exact hn))
      refine wpAny_pure ?_
      have e : acc.toList.toArray = acc := by simp
      rw [e]
      exact ⟨⟨_, Heap.get?_push_size _ rfl, rfl⟩, hQ h' tk acc hm hacc⟩
    · exact hn
  · exact ⟨h₁.1, F.args_object_init_2 obj _, object_init_meets F.called_tuple.init.lookup F.called_tuple.made (by decide) prog w A.in1 _ s₁ ⟨h₁.1, rfl, h₁.2⟩⟩
end
end Mine
end

section
theorem Mine.rst_RM4 : True ∧ True := by
  w_top off
  first | (walk1; fail "laid") | exact ⟨trivial, trivial⟩
open PySem PySem.W PyProof.Rows PySem.Calls
namespace Mine
section
variable {w : World} {A : Around} {E : Value → Shared → Prop} {s : Shared} {h₀ : Heap} {L : Addr} {m : Str → Option Value} {news : List (Addr × Obj)} {Q : Value → Shared → Prop}
theorem none_of_stays {h h' : Heap} (st : h.StaysIn h') {a : Addr} (e : h'.get? a = none) : h.get? a = none := by
  cases q : h.get? a with
  | none => rfl
  | some o => rw [st a o q] at e; cases e
theorem ne_of_get {h : Heap} {a b : Addr} {o : Obj} (h1 : h.get? a = none) (h2 : h.get? b = some o) : a ≠ b := fun e => by rw [e, h2] at h1; cases h1
theorem Fr.getL (F : Fr h₀ L s.heap m) : ∃ o, s.heap.get? L = some o := by
  obtain ⟨o, _, _, ho, _⟩ := F.ns; exact ⟨o, ho⟩
theorem map_at {l : Addr} {items : Array Value} (F : Fr h₀ L s.heap m) (N : News h₀ L s.heap news) (hl : h₀.IsList l items)
    (h : ∀ h' I T M, Fr h₀ L h' m → News h₀ L h' ((M, mapO T (.ref 94)) :: (T, tupO #[.ref I]) :: (I, liO l 0) :: news) → I ≠ T → I ≠ M → (∀ p ∈ news, p.1 ≠ I) → Q (.ref M) { s with heap := h' }) :
    wpAny (model PP w) A (call (.type "map") [.ref 94, .ref l]) Q E s := by
  have hl' : s.heap.IsList l items := by obtain ⟨o, ho, r⟩ := hl; exact ⟨o, F.keep l o ho, r⟩
  refine call_map2 hl' fun h' I T M hI hT hM st nI nT nM l1 l2 => h h' I T M (Fr.stays F st) ?_ (Nat.ne_of_lt l1) (Nat.ne_of_lt (Nat.lt_trans l1 l2)) fun p hp => Ne.symm (ne_of_get nI (N p hp).1)
  obtain ⟨oL, hoL⟩ := Fr.getL F
  intro p hp
  rcases List.mem_cons.mp hp with rfl | hp
  · exact ⟨hM, ne_of_get nM hoL, none_of_stays F.keep nM⟩
  rcases List.mem_cons.mp hp with rfl | hp
  · exact ⟨hT, ne_of_get nT hoL, none_of_stays F.keep nT⟩
  rcases List.mem_cons.mp hp with rfl | hp
  · exact ⟨hI, ne_of_get nI hoL, none_of_stays F.keep nI⟩
  · exact News.stays N st p hp
theorem tuplemap_at {l M T I : Addr} {items : Array Value} {mean mg mb} (F : Fr h₀ L s.heap m) (N : News h₀ L s.heap ((M, mapO T (.ref 94)) :: (T, tupO #[.ref I]) :: (I, liO l 0) :: news))
    (X : (Mine.hd.heap_1 w.params).In h₀) (Tp : Top VV LL mean mg mb h₀) (hR : Rm A 7)
    (hIT : I ≠ T) (hIM : I ≠ M) (hne : ∀ p ∈ news, p.1 ≠ I) (hl : h₀.IsList l items) (hs : ∀ v ∈ items.toList, ∃ x t, v = .str x t) (hsz : items.size ≤ 1000)
    (h : ∀ D h' tk, Fr h₀ L h' m → News h₀ L h' ((D, tupO items) :: news) → Q (.ref D) { s with heap := h', toks := tk }) :
    wpAny (model PP w) A (call (.type "tuple") [.ref M]) Q E s := by
  have hM := N (M, mapO T (.ref 94)) (.head _)
  have hT := N (T, tupO #[.ref I]) (.tail _ (.head _))
  have hI := N (I, liO l 0) (.tail _ (.tail _ (.head _)))
  have hl' : s.heap.IsList l items := by obtain ⟨o, ho, r⟩ := hl; exact ⟨o, F.keep l o ho, r⟩
  have hlI : l ≠ I := fun e => by obtain ⟨o, ho, _⟩ := hl; rw [e, hI.2.2] at ho; cases ho
  have hR' : Rm A.in1.in1.in1 4 := Rm.in1 (Rm.in1 (Rm.in1 hR))
  have W := map_walks (A := A.in1.in1.in1) (I := I) (T := T) (M := M) (l := l) (items := items) (⟨X, _, _, _, Tp⟩ : Gl w h₀) hR' s F.keep hI.2.2 (Ne.symm hIT) (Ne.symm hIM) hlI hT.1 hM.1 hl' hs (Heap.lt_size hI.1)
  refine call_tuple_map W (fun i h hst => ⟨_, hst.1 M _ (Ne.symm hIM) hM.1, rfl⟩) ⟨fun b o _ e => e, _, hI.1, rfl, rfl⟩ (fun b hb => List.mem_range.mp hb) (List.mem_range.mpr (Heap.lt_size hM.1)) (fun h' tk acc hm hacc => ?_) (by unfold sizeLine; omega)
  have hacc' : acc = items := by
    apply Array.ext
    · exact hacc.1
    · intro i h1 h2
      have := hacc.2 i acc[i] (by simp [h1])
      simp only [Array.getElem?_eq_getElem h2, Option.some.injEq] at this
      exact this.symm
  rw [hacc']
  have oth : ∀ b o, b ≠ I → s.heap.get? b = some o → (h'.push (tupO items)).get? b = some o := fun b o hb e => Heap.get?_push_of_some _ (hm b o (by simpa using hb) e)
  obtain ⟨oL, es, ep, hoL, r⟩ := F.ns
  have hb0 : ∀ b o, h₀.get? b = some o → b ≠ I := fun b o e q => by rw [q, hI.2.2] at e; cases e
  have hD : (h'.push (tupO items)).get? h'.objs.size = some (tupO items) := Heap.get?_push_size _ rfl
  have nD : ∀ b o, b ≠ I → s.heap.get? b = some o → h'.objs.size ≠ b := fun b o hb e q => by
    have h1 := Heap.lt_size (hm b o (by simpa using hb) e)
    rw [q] at h1
    exact Nat.lt_irrefl _ h1
  refine h _ _ tk ⟨⟨oL, es, ep, oth L oL hI.2.1.symm hoL, r⟩, fun b o e => oth b o (hb0 b o e) (F.keep b o e), F.above⟩ fun p hp => ?_
  rcases List.mem_cons.mp hp with rfl | hp
  · refine ⟨hD, nD L oL hI.2.1.symm hoL, ?_⟩
    cases q : h₀.get? h'.objs.size with
    | none => rfl
    | some o => exact absurd rfl (nD _ o (hb0 _ o q) (F.keep _ o q))
  · have hp' := N p (.tail _ (.tail _ (.tail _ hp)))
    exact ⟨oth p.1 _ (hne p hp) hp'.1, hp'.2⟩
end
end Mine
end

section
theorem Mine.rst_RT : True ∧ True := by
  w_top off
  first | (walk1; fail "laid") | exact ⟨trivial, trivial⟩
open PySem PySem.W PyProof.Rows PySem.Calls
namespace Mine
section
variable {M : Model} {A : Around} {E : Value → Shared → Prop} {s : Shared}
theorem try_calm {body : List Stmt} {handlers : List ExceptHandler} {pos : Pos} {env : Env} {Q : Flow → Shared → Prop} (h : wpAny M A (execs body env) Q (fun _ _ => False) s) :
    wpAny M A (exec (.Try body handlers [] [] pos) env) Q E s := by
  show wpAny M A (standAt pos >>= fun _ => tryStmt false (execs body env) handlers (execs [] env) [] env) Q E s
  refine wpAny_bind (wpAny_standAt ?_)
  unfold tryStmt
  simp only [List.isEmpty_nil, if_true]
  refine wpAny_bind (wpAny_attempt (wpAny_mono h (fun f s' hf => ?_) fun _ _ x => x.elim))
  cases f with
  | next => exact wpAny_pure hf
  | brk => exact wpAny_pure hf
  | cont => exact wpAny_pure hf
  | ret v => exact wpAny_pure hf
end
end Mine
end

section
theorem Mine.rst_CP : True ∧ True := by
  w_top off
  first | (walk1; fail "laid") | exact ⟨trivial, trivial⟩
open PySem PySem.W PyProof.Rows PySem.Calls
namespace Mine
noncomputable def KeepBut (C : Addr) (h h' : Heap) : Prop := ∀ b o, b ≠ C → h.get? b = some o → h'.get? b = some o
theorem hideAll_mem {l : List Addr} {h : Heap} {b : Addr} {o : Obj} (e : (hideAll h l).get? b = some o) : h.get? b = some o ∧ b ∉ l :=
  ⟨of_hideAll l e, fun hm => by rw [hideAll_none l hm] at e; cases e⟩
theorem hide_stays {l : List Addr} {h h' : Heap} (k : ∀ b o, b ∉ l → h.get? b = some o → h'.get? b = some o) : (hideAll h l).StaysIn (hideAll h' l) :=
  fun b o e => let ⟨e1, e2⟩ := hideAll_mem e; hideAll_get l (k b o e2 e1) e2
/-- all that stands in h beyond base and the frame -/
noncomputable def fullOf (base : Heap) (C : Addr) (h : Heap) : List (Addr × Obj) :=
  (List.range h.objs.size).filterMap fun a => match h.get? a with
    | some o => if (base.get? a).isNone = true ∧ a ≠ C then some (a, o) else none
    | none => none
theorem mem_fullOf {base h : Heap} {C a : Addr} {o : Obj} : (a, o) ∈ fullOf base C h ↔ h.get? a = some o ∧ base.get? a = none ∧ a ≠ C := by
  unfold fullOf
  rw [List.mem_filterMap]
  constructor
  · rintro ⟨b, hb, e⟩
    split at e
    · rename_i o' ho
      split at e
      · rename_i hc
        cases e
        exact ⟨ho, by simpa using hc.1, hc.2⟩
      · cases e
    · cases e
  · rintro ⟨h1, h2, h3⟩
    exact ⟨a, List.mem_range.mpr (Heap.lt_size h1), by simp [h1, h2, h3]⟩
theorem News.full {base h : Heap} {C : Addr} : News base C h (fullOf base C h) := fun p hp => by
  obtain ⟨a, o⟩ := p
  obtain ⟨h1, h2, h3⟩ := mem_fullOf.mp hp
  exact ⟨h1, h3, h2⟩
theorem keep_of {base h₃ h₄ : Heap} {C : Addr} {m₄ : Str → Option Value} {news : List (Addr × Obj)} (st : base.StaysIn h₃) (F4 : Fr base C h₄ m₄) (N4 : News base C h₄ news) (sub : ∀ p ∈ fullOf base C h₃, p ∈ news) : KeepBut C h₃ h₄ := fun b o hb e => by
  cases q : base.get? b with
  | some o' =>
    have := st b o' q
    rw [e] at this
    cases this
    exact F4.keep b o q
  | none => exact (N4 (b, o) (sub _ (mem_fullOf.mpr ⟨e, q, hb⟩))).1
inductive TestEnd (s : Shared) (C : Addr) (h₃ : Heap) (x : Str) (v : Value) (b : Bool) (ok : Bool) (s₄ : Shared) : Prop
  | mk : (ok = b) → ∀ h₄ tk₄ m₄, (s₄ = { s with heap := h₄, toks := tk₄ }) →
      (KeepBut C h₃ h₄) →
      (h₄.Ns C m₄) →
      (m₄ x = some v) → TestEnd s C h₃ x v b ok s₄
inductive EltEnd (s : Shared) (C : Addr) (h₃ : Heap) (hide : List Addr) (El : Heap → Value → Value → Prop) (v : Value) (y : Value) (s₄ : Shared) : Prop
  | mk : ∀ h₄ tk₄ m₄, (s₄ = { s with heap := h₄, toks := tk₄ }) →
      (KeepBut C h₃ h₄) →
      (h₄.Ns C m₄) →
      (El (hideAll h₄ hide) v y) → EltEnd s C h₃ hide El v y s₄
/-- what a turn of a comprehension must do: the tests, the element -/
structure Turn (prog : Program) (w : World) (A : Around) (cenv : Env) (x : Str) (ifs : List Expr) (elt : Expr) (s : Shared) (I D : Addr) (hid : List Addr) (P : Nat → Value → Prop) (p : Value → Bool) (El : Heap → Value → Value → Prop) : Prop where
  tests : ∀ i v h₃ tk m₃ E', P i v → s.heap.StaysIn h₃ → h₃.Ns cenv.locals m₃ → m₃ x = some v → (∃ o, h₃.get? D = some o) → (∃ o, h₃.get? I = some o) →
    wpAny (model prog w) A (forIn ifs true fun c r => if r = true then do let ok ← isTrue c cenv (eval c cenv); pure (ForInStep.yield ok) else pure (ForInStep.yield r))
      (TestEnd s cenv.locals h₃ x v (p v)) E' { s with heap := h₃, toks := tk }
  elt : ∀ i v h₃ tk m₃ E', P i v → p v = true → s.heap.StaysIn h₃ → h₃.Ns cenv.locals m₃ → m₃ x = some v → (∃ o, h₃.get? D = some o) → (∃ o, h₃.get? I = some o) →
    wpAny (model prog w) A (eval elt cenv)
      (EltEnd s cenv.locals h₃ (cenv.locals :: D :: I :: hid) El v) E' { s with heap := h₃, toks := tk }
section
variable {prog : Program} {w : World} {A : Around} {E : Value → Shared → Prop} {R : Result → Shared → Prop} {s : Shared}
inductive CJ (s : Shared) (C D I : Addr) (hid : List Addr) (n : Nat) (P : Nat → Value → Prop) (St : Nat → Heap → Prop) (p : Value → Bool) (El : Heap → Value → Value → Prop) (k : Nat) (s' : Shared) : Prop
  | mk : ∀ h' tk m' ys (vs : List Value), s' = { s with heap := h', toks := tk } → St vs.length h' → h'.PlainList D ys → h'.Ns C m' → (∀ j v, vs[j]? = some v → P j v) →
      Paired (El (hideAll h' (C :: D :: I :: hid))) (vs.filter p) ys.toList → vs.length ≤ n → k = n + 1 - vs.length → s.heap.StaysIn h' → CJ s C D I hid n P St p El k s'
theorem comp_loop {elt iter : Expr} {x : Str} {px : Pos} {ifs : List Expr} {scope : Scope} {pos : Pos} {I D : Addr} {fp : List Addr} {n : Nat} {P : Nat → Value → Prop} {St : Nat → Heap → Prop}
    {cenv : Env} {m : Str → Option Value} {p : Value → Bool} {El : Heap → Value → Value → Prop} {h₁ : Heap} {tk₁ : Nat} {hid : List Addr}
    (W : Walks prog w A I fp [I] n P St) (hn : n ≤ sizeLine) (mono : ∀ g g' v y, g.StaysIn g' → El g v y → El g' v y)
    (hx : cenv.kindOf x = some .local) (hp : (cenv.scope.kind == .class || (cenv.scope.kind == .module && cenv.locals != cenv.globals)) = false)
    (hDC : D ≠ cenv.locals) (hDf : D ∉ fp) (hCf : cenv.locals ∉ fp) (nI : s.heap.get? I = none) (nD : s.heap.get? D = none) (nC : s.heap.get? cenv.locals = none)
    (hIl : ∀ i h, St i h → ∃ o, h.get? I = some o) (T : Turn prog w A cenv x ifs elt s I D hid P p El)
    (hst : St 0 h₁) (hacc : h₁.PlainList D #[]) (hns : h₁.Ns cenv.locals m) (hs : s.heap.StaysIn h₁)
    (hR : ∀ h' tk m' ys (vs : List Value), h'.Ns cenv.locals m' → h'.PlainList D ys → vs.length = n → (∀ j v, vs[j]? = some v → P j v) →
      Paired (El (hideAll h' (cenv.locals :: D :: I :: hid))) (vs.filter p) ys.toList → s.heap.StaysIn h' → R (.ok .next) { s with heap := h', toks := tk }) :
    codeAny (model prog w) A (.compLoop (.ListComp elt [⟨.Name x px, iter, ifs, 0⟩] scope pos) 0 (.ref I) (.ref D) cenv) R { s with heap := h₁, toks := tk₁ } := by
  have hIf : I ∈ fp := W.sub I (by simp)
  have hCI : cenv.locals ≠ I := fun e => hCf (e ▸ hIf)
  have hDI : D ≠ I := fun e => hDf (e ▸ hIf)
  have bI : ∀ b o, s.heap.get? b = some o → b ≠ I := fun b o e q => by rw [q, nI] at e; cases e
  have bD : ∀ b o, s.heap.get? b = some o → b ≠ D := fun b o e q => by rw [q, nD] at e; cases e
  have bC : ∀ b o, s.heap.get? b = some o → b ≠ cenv.locals := fun b o e q => by rw [q, nC] at e; cases e
  refine codeAny_compLoop_tests
    (CJ s cenv.locals D I hid n P St p El) ?_ (n + 1)
    ⟨h₁, tk₁, m, #[], [], rfl, hst, hacc, hns, by simp, by simpa using Paired.nil, Nat.zero_le _, rfl, hs⟩
  rintro k s' ⟨H, tk, m', ys, vs, rfl, hst', hacc', hn', hP, hF, hi, rfl, hk⟩
  by_cases hlt : vs.length < n
  · refine W.item vs.length _ _ _ hlt hst' fun v h₂ tk₂ hPv hst₂ hk₂ => ?_
    have k2 : ∀ b o, b ≠ I → H.get? b = some o → h₂.get? b = some o := fun b o hb e => hk₂ b o (by simpa using hb) e
    refine wpAny_assign_Name (wpAny_storeName_local hx (hn'.at' fun o e => k2 _ o hCI e) (fun h₃ hn₃ hs₃ => ?_) hp)
    have k3 : ∀ b o, b ≠ I → b ≠ cenv.locals → H.get? b = some o → h₃.get? b = some o := fun b o hb hc e => (hs₃.2 b hc).trans (k2 b o hb e)
    have hst₃ : St (vs.length + 1) h₃ := W.frame _ _ _ hst₂ fun b hb o e => (hs₃.2 b (fun h => hCf (h ▸ hb))).trans e
    have st₃ : s.heap.StaysIn h₃ := fun b o e => k3 b o (bI b o e) (bC b o e) (hk b o e)
    have hD₃ : ∃ o, h₃.get? D = some o := by obtain ⟨c, e⟩ := hacc'; exact ⟨_, k3 D _ hDI hDC e⟩
    refine wpAny_mono (T.tests vs.length v h₃ _ _ _ hPv st₃ hn₃ (by simp) hD₃ (hIl _ _ hst₃)) (fun ok s₄ h₄ => ?_) fun _ _ e => e
    obtain ⟨rfl, h₄, tk₄, m₄, rfl, k4, hn₄, hm₄⟩ := h₄
    have k4' : ∀ b o, b ≠ I → b ≠ cenv.locals → H.get? b = some o → h₄.get? b = some o := fun b o hb hc e => k4 b o hc (k3 b o hb hc e)
    have hst₄ : St (vs.length + 1) h₄ := W.frame _ _ _ hst₃ fun b hb o e => k4 b o (fun h => hCf (h ▸ hb)) e
    have st₄ : s.heap.StaysIn h₄ := fun b o e => k4' b o (bI b o e) (bC b o e) (hk b o e)
    have hacc₄ : h₄.PlainList D ys := hacc'.at fun o e => k4' D o hDI hDC e
    have hP' : ∀ j u, (vs ++ [v])[j]? = some u → P j u := fun j u hj => by
      rcases Nat.lt_trichotomy j vs.length with h | h | h
      · exact hP j u (by rwa [List.getElem?_append_left h] at hj)
      · subst h; simp at hj; subst hj; exact hPv
      · have hnone : (vs ++ [v])[j]? = none := List.getElem?_eq_none (by rw [List.length_append, List.length_singleton]; lia)
        rw [hnone] at hj; cases hj
    have hF₄ : Paired (El (hideAll h₄ (cenv.locals :: D :: I :: hid))) (vs.filter p) ys.toList := hF.mono fun _ _ hy => mono _ _ _ _ (hide_stays fun b o hb e => by simp at hb; exact k4' b o hb.2.2.1 hb.1 e) hy
    have hl1 : (vs ++ [v]).length = vs.length + 1 := by simp
    cases hpv : p v with
    | false =>
      simp only [Bool.false_eq_true, if_false]
      refine ⟨n + 1 - (vs.length + 1), by lia, h₄, tk₄, m₄, ys, vs ++ [v], rfl, by rw [hl1]; exact hst₄, hacc₄, hn₄, hP', ?_, by rw [hl1]; exact hlt, by rw [hl1], st₄⟩
      rw [List.filter_append]; simpa [hpv] using hF₄
    | true =>
      simp only [if_true]
      have hD₄ : ∃ o, h₄.get? D = some o := by obtain ⟨c, e⟩ := hacc₄; exact ⟨_, e⟩
      refine wpAny_mono (T.elt vs.length v h₄ _ _ _ hPv hpv st₄ hn₄ hm₄ hD₄ (hIl _ _ hst₄)) (fun y s₅ h₅ => ?_) fun _ _ e => e
      obtain ⟨h₅, tk₅, m₅, rfl, k5, hn₅, hEl⟩ := h₅
      have hys : ys.size ≤ sizeLine := by
        have e1 := hF.length
        have e2 : (vs.filter p).length ≤ vs.length := List.length_filter_le _ _
        have e4 : ys.toList.length = ys.size := by simp
        lia
      refine wpAny_list_append_plain (hsz := hys) (hacc₄.at fun o e => k5 _ o hDC e) fun h₆ hl₆ hs₆ => ?_
      have k6 : ∀ b o, b ≠ D → b ≠ cenv.locals → h₄.get? b = some o → h₆.get? b = some o := fun b o hb hc e => (hs₆.2 b hb).trans (k5 b o hc e)
      refine ⟨n + 1 - (vs.length + 1), by lia, h₆, tk₅, m₅, ys.push y, vs ++ [v], rfl, ?_, hl₆, hn₅.sameBut hs₆ (Ne.symm hDC), hP', ?_, by rw [hl1]; exact hlt, by rw [hl1], fun b o e => k6 b o (bD b o e) (bC b o e) (st₄ b o e)⟩
      · rw [hl1]
        exact W.frame _ _ h₆ hst₄ fun b hb o e => k6 b o (fun h => hDf (h ▸ hb)) (fun h => hCf (h ▸ hb)) e
      · have hF₆ := hF₄.mono (F' := El (hideAll h₆ (cenv.locals :: D :: I :: hid))) fun _ _ hy => mono _ _ _ _ (hide_stays fun b o hb e => by simp at hb; exact k6 b o hb.2.1 hb.1 e) hy
        have hy₆ : El (hideAll h₆ (cenv.locals :: D :: I :: hid)) v y := mono _ _ _ _ (hide_stays fun b o hb e => by simp at hb; exact (hs₆.2 b hb.2.1).trans e) hEl
        rw [List.filter_append]; simpa [hpv] using Paired.snoc hF₆ hy₆
  · have hin : vs.length = n := by lia
    refine W.done _ _ _ (hin ▸ hst') fun h₂ tk₂ hk₂ => ?_
    have k2 : ∀ b o, b ≠ I → H.get? b = some o → h₂.get? b = some o := fun b o hb e => hk₂ b o (by simpa using hb) e
    exact hR h₂ tk₂ m' ys vs (hn'.at' fun o e => k2 _ o hCI e) (hacc'.at fun o e => k2 _ o hDI e) hin hP
      (hF.mono fun _ _ hy => mono _ _ _ _ (hide_stays fun b o hb e => by simp at hb; exact k2 b o hb.2.2.1 e) hy) fun b o e => k2 b o (bI b o e) (hk b o e)
end
end Mine
end

section
theorem Mine.rst_CP2 : True ∧ True := by
  w_top off
  first | (walk1; fail "laid") | exact ⟨trivial, trivial⟩
open PySem PySem.W PyProof.Rows PySem.Calls
namespace Mine
section
variable {prog : Program} {w : World} {A : Around} {E : Value → Shared → Prop} {s : Shared}
/-- a source that walks -/
noncomputable def Src (prog : Program) (w : World) (A : Around) (s : Shared) (src : Value) (n : Nat) (P : Nat → Value → Prop) : Prop :=
  ∀ (E : Value → Shared → Prop) (Q' : Value → Shared → Prop), (∀ I fp St h₂, Walks prog w A I fp [I] n P St → St 0 h₂ → (∀ i h, St i h → ∃ o, h.get? I = some o) → (∀ b ∈ fp, b < h₂.objs.size) → s.heap.objs.size ≤ h₂.objs.size → s.heap.StaysIn h₂ → s.heap.get? I = none →
    Q' (.ref I) { s with heap := h₂ }) → wpAny (model prog w) A (pyIter src) Q' E s
theorem none_size (h : Heap) : h.get? h.objs.size = none := by
  cases q : h.get? h.objs.size with
  | none => rfl
  | some o => exact absurd (Heap.lt_size q) (Nat.lt_irrefl _)
theorem none_ge {h : Heap} {a : Addr} (ha : h.objs.size ≤ a) : h.get? a = none := by
  cases q : h.get? a with
  | none => rfl
  | some o => exact absurd (Heap.lt_size q) (Nat.not_lt.mpr ha)
theorem stays_push (h : Heap) (o : Obj) : h.StaysIn (h.push o) := fun _ _ e => Heap.get?_push_of_some _ e
theorem Src.list (hh : A.handled = none) {l : Addr} {items : Array Value} (hl : s.heap.IsList l items) : Src prog w A s (.ref l) items.size (fun i v => items[i]? = some v) := by
  intro E Q' h
  refine wpAny_pyIter_list hl ?_
  have hlt : l < s.heap.objs.size := by obtain ⟨o, ho, _⟩ := hl; exact Heap.lt_size ho
  refine h s.heap.objs.size _ _ _ (Walks.list hh s.heap.objs.size l (Nat.ne_of_lt hlt) items) ⟨⟨_, Heap.get?_push_size _ rfl, rfl, rfl⟩, hl.push _⟩ (fun i h hst => ?_) (fun b hb => ?_) (by rw [Heap.size_push]; exact Nat.le_succ _) (stays_push _ _) (none_size _)
  · obtain ⟨⟨o, ho, _⟩, _⟩ := hst; exact ⟨o, ho⟩
  · rw [Heap.size_push]
    simp only [List.mem_cons, List.not_mem_nil, or_false] at hb
    rcases hb with rfl | rfl
    · exact Nat.lt_succ_self _
    · exact Nat.lt_succ_of_lt hlt
theorem Src.tuple (hh : A.handled = none) {l : Addr} {items : Array Value} (hl : s.heap.IsTuple l items) : Src prog w A s (.ref l) items.size (fun i v => items[i]? = some v) := by
  intro E Q' h
  refine wpAny_pyIter_tuple hl ?_
  have hlt : l < s.heap.objs.size := by obtain ⟨o, ho, _⟩ := hl; exact Heap.lt_size ho
  refine h s.heap.objs.size _ _ _ (Walks.tuple hh s.heap.objs.size l (Nat.ne_of_lt hlt) items) ⟨⟨_, Heap.get?_push_size _ rfl, rfl, rfl⟩, hl.at fun o e => Heap.get?_push_of_some _ e⟩ (fun i h hst => ?_) (fun b hb => ?_) (by rw [Heap.size_push]; exact Nat.le_succ _) (stays_push _ _) (none_size _)
  · obtain ⟨⟨o, ho, _⟩, _⟩ := hst; exact ⟨o, ho⟩
  · rw [Heap.size_push]
    simp only [List.mem_cons, List.not_mem_nil, or_false] at hb
    rcases hb with rfl | rfl
    · exact Nat.lt_succ_self _
    · exact Nat.lt_succ_of_lt hlt
theorem comp_block {env : Env} {elt iter : Expr} {x : Str} {px : Pos} {ifs : List Expr} {scope : Scope} {cl : List (Str × Addr)} {pos : Pos} {I : Addr} {fp : List Addr} {n : Nat} {P : Nat → Value → Prop}
    {St : Nat → Heap → Prop} {p : Value → Bool} {El : Heap → Value → Value → Prop} {RR : Value → Addr → Result → Shared → Prop} {h₂ : Heap} {hid : List Addr}
    (W : Walks prog w A I fp [I] n P St) (hsz : n ≤ sizeLine) (mono : ∀ g g' v y, g.StaysIn g' → El g v y → El g' v y)
    (hcell : ∀ y ∈ scope.names, y.2 ≠ .cell) (hkind : scope.kind = .function) (hx : scope.names.lookup x = some .local) (hst : St 0 h₂) (hIl : ∀ i h, St i h → ∃ o, h.get? I = some o) (hfp : ∀ b ∈ fp, b < h₂.objs.size)
    (hle : s.heap.objs.size ≤ h₂.objs.size) (hs : s.heap.StaysIn h₂) (nI : s.heap.get? I = none)
    (T : ∀ C D, s.heap.get? C = none → s.heap.get? D = none → s.heap.objs.size ≤ C → C ≠ D → C ≠ I → D ≠ I → Turn prog w A (compEnvC scope cl C env) x ifs elt s I D hid P p El)
    (hRR : ∀ D C h' tk m' ys (vs : List Value), s.heap.get? D = none → s.heap.get? C = none → D ≠ C → h'.Ns C m' → h'.PlainList D ys → vs.length = n → (∀ j v, vs[j]? = some v → P j v) → Paired (El (hideAll h' (C :: D :: I :: hid))) (vs.filter p) ys.toList →
      s.heap.StaysIn h' → RR (.ref D) C (.ok .next) { s with heap := h', toks := tk }) :
    wpAny (model prog w) A (newList []) (fun acc s₃ => wpAny (model prog w) A (newFunctionEnv scope env.globals cl [] env.qual none .none (some env)) (fun cenv s₄ =>
      codeAny (model prog w) A (.compStart (.ListComp elt [⟨.Name x px, iter, ifs, 0⟩] scope pos) 0 (.ref I) acc { cenv with scope := relabel scope env }) (RR acc cenv.locals) s₄) E s₃) E { s with heap := h₂ } := by
  refine wpAny_newObj_type (wpAny_newFunctionEnv hcell (by intro y hy; simp at hy) (fun h₁ hns₁ hsb₁ => ?_) hkind)
  dsimp only at hns₁ hsb₁ ⊢
  generalize hH2 : h₂.push { cls := .type "list", dict := none, data := .seq ([] : List Value).toArray } = H2 at hns₁ hsb₁ ⊢
  have hC : H2.objs.size = h₂.objs.size + 1 := by rw [← hH2, Heap.size_push]
  have hDC : h₂.objs.size ≠ H2.objs.size := by rw [hC]; exact Nat.ne_of_lt (Nat.lt_succ_self _)
  have below : ∀ b, b < h₂.objs.size → b ≠ H2.objs.size ∧ b ≠ h₂.objs.size := fun b hb => ⟨by rw [hC]; exact Nat.ne_of_lt (Nat.lt_succ_of_lt hb), Nat.ne_of_lt hb⟩
  have hDf : h₂.objs.size ∉ fp := fun hm => Nat.lt_irrefl _ (hfp _ hm)
  have hCf : H2.objs.size ∉ fp := fun hm => by have := hfp _ hm; rw [hC] at this; exact Nat.lt_irrefl _ (Nat.lt_of_succ_lt this)
  have hIf : I ∈ fp := W.sub I (by simp)
  have hIlt : I < h₂.objs.size := hfp I hIf
  have old : ∀ b o, h₂.get? b = some o → h₁.get? b = some o := fun b o e => hsb₁.extBut b o (below b (Heap.lt_size e)).1 (Heap.get?_push_of_some _ (hH2 ▸ Heap.get?_push_of_some _ e))
  have hacc : h₁.PlainList h₂.objs.size #[] := ⟨_, hsb₁.extBut _ _ hDC (Heap.get?_push_of_some _ (hH2 ▸ Heap.get?_push_size _ rfl))⟩
  have hst₁ : St 0 h₁ := W.frame _ _ _ hst fun b _ o e => old b o e
  have nD : s.heap.get? h₂.objs.size = none := none_ge hle
  have nC : s.heap.get? H2.objs.size = none := none_ge (by rw [hC]; exact Nat.le_succ_of_le hle)
  have TT := T H2.objs.size h₂.objs.size nC nD (by rw [hC]; exact Nat.le_succ_of_le hle) (Ne.symm hDC) (Ne.symm (below I hIlt).1) (Ne.symm (below I hIlt).2)
  have loop : ∀ tk, codeAny (model prog w) A (.compLoop (.ListComp elt [⟨.Name x px, iter, ifs, 0⟩] scope pos) 0 (.ref I) (.ref h₂.objs.size) (compEnvC scope cl H2.objs.size env))
        (RR (.ref h₂.objs.size) H2.objs.size) { s with heap := h₁, toks := tk } := fun tk =>
    comp_loop (cenv := compEnvC scope cl H2.objs.size env) W hsz mono (lookup_relabel_local hx) (by simp [compEnvC, relabel, hkind]) hDC hDf hCf nI nD nC hIl TT hst₁ hacc hns₁ (fun b o e => old b o (hs b o e))
      fun h' tk m' ys vs hn ha hlen hP hF hk => hRR _ _ h' tk m' ys vs nD nC hDC hn ha hlen hP hF hk
  exact codeAny_compStart_list (loop _) (W.self 0 _ _ _ hst₁ (loop _))
theorem hide_less {l l' : List Addr} {h : Heap} (hs : ∀ a ∈ l', a ∈ l) : (hideAll h l).StaysIn (hideAll h l') :=
  fun b o e => let ⟨e1, e2⟩ := hideAll_mem e; hideAll_get l' e1 fun hm => e2 (hs b hm)
inductive CompIn (prog : Program) (w : World) (A : Around) (env : Env) (scope : Scope) (cl : List (Str × Addr)) (x : Str) (ifs : List Expr) (elt : Expr) (Q : Value → Shared → Prop) (src : Value) (s₁ : Shared) : Prop
  | mk : ∀ n P p El hid, (Src prog w A s₁ src n P) →
      (n ≤ sizeLine) →
      ((∀ g g' v y, g.StaysIn g' → El g v y → El g' v y)) →
      ((∀ C D I, s₁.heap.get? C = none → s₁.heap.get? D = none → s₁.heap.get? I = none → s₁.heap.objs.size ≤ C → C ≠ D → C ≠ I → D ≠ I → Turn prog w A (compEnvC scope cl C env) x ifs elt s₁ I D hid P p El)) →
      ((∀ D h' tk ys (vs : List Value), s₁.heap.StaysIn h' → s₁.heap.get? D = none → h'.PlainList D ys → vs.length = n → (∀ j v, vs[j]? = some v → P j v) → Paired (El (hideAll h' (D :: hid))) (vs.filter p) ys.toList →
        Q (.ref D) { s₁ with heap := h', toks := tk })) → CompIn prog w A env scope cl x ifs elt Q src s₁
inductive CompInA (prog : Program) (w : World) (A : Around) (env : Env) (scope : Scope) (cl : List (Str × Addr)) (x y : Str) (ifs : List Expr) (elt : Expr) (Q : Flow → Shared → Prop) (src : Value) (s₁ : Shared) : Prop
  | mk : ∀ n P p El hid m, (env.locals ∈ hid) →
      (s₁.heap.Ns env.locals m) →
      (Src prog w A s₁ src n P) →
      (n ≤ sizeLine) →
      ((∀ g g' v y, g.StaysIn g' → El g v y → El g' v y)) →
      ((∀ C D I, s₁.heap.get? C = none → s₁.heap.get? D = none → s₁.heap.get? I = none → s₁.heap.objs.size ≤ C → C ≠ D → C ≠ I → D ≠ I → Turn prog w A (compEnvC scope cl C env) x ifs elt s₁ I D hid P p El)) →
      ((∀ D h' tk ys (vs : List Value), KeepBut env.locals s₁.heap h' → h'.Ns env.locals (fun z => if z = y then some (.ref D) else m z) → s₁.heap.get? D = none → h'.PlainList D ys → vs.length = n → (∀ j v, vs[j]? = some v → P j v) → Paired (El (hideAll h' (D :: hid))) (vs.filter p) ys.toList →
        Q .next { s₁ with heap := h', toks := tk })) → CompInA prog w A env scope cl x y ifs elt Q src s₁
/-- a list comprehension, by its turn -/
theorem comp_eval {env : Env} {elt iter : Expr} {x : Str} {px : Pos} {ifs : List Expr} {scope : Scope} {cl : List (Str × Addr)} {pos : Pos} {Q : Value → Shared → Prop}
    (hclos : closureFor scope env = pure cl) (hcell : ∀ y ∈ scope.names, y.2 ≠ .cell) (hkind : scope.kind = .function)
    (hnames : ∀ y ∈ scope.names, y.2 = .local → scope.names.lookup y.1 = some .local) (hx : scope.names.lookup x = some .local) (hs : ∀ x, foldedSetIterable iter env x = pure x)
    (h : wpAny (model prog w) A (eval iter env) (fun src s₁ => CompIn prog w A env scope cl x ifs elt Q src s₁) E s) :
    wpAny (model prog w) A (eval (.ListComp elt [⟨.Name x px, iter, ifs, 0⟩] scope pos) env) Q E s := by
  rw [eval_ListComp]
  refine wpAny_comprehension_free (use := none) rfl hs hclos hkind hnames (wpAny_mono h (fun src s₁ h₁ => ?_) fun _ _ e => e)
  obtain ⟨n, P, p, El, hid, S, hsz, mono, T, hQ⟩ := h₁
  refine S _ _ fun I fp St h₂ W hst hIl hfp hle hst2 nI => ?_
  refine comp_block (hid := hid) (RR := fun acc C => compPost (model prog w) A E none Q acc C) W hsz mono hcell hkind hx hst hIl hfp hle hst2 nI (fun C D a b c d e f => T C D I a b nI c d e f) ?_
  intro D C h' tk m' ys vs nD nC hDC hn hl hlen hP hF hk
  have bC : ∀ b o, s₁.heap.get? b = some o → b ≠ C := fun b o e q => by rw [q, nC] at e; cases e
  refine ⟨m', hn, fun h'' hs'' => hQ D h'' tk ys vs (fun b o e => (hs''.2 b (bC b o e)).trans (hk b o e)) nD (hl.at fun o e => (hs''.2 D hDC).trans e) hlen hP (hF.mono fun _ _ hy => mono _ _ _ _ ?_ hy)⟩
  exact fun b o e => let ⟨e1, e2⟩ := hideAll_mem e; hideAll_get _ ((hs''.2 b (fun q => e2 (by simp [q]))).trans e1) fun hm => e2 (by rcases List.mem_cons.mp hm with q | q; simp [q]; simp [q])
theorem comp_assign {env : Env} {elt iter : Expr} {x y : Str} {px py : Pos} {ifs : List Expr} {scope : Scope} {cl : List (Str × Addr)} {pos spos : Pos} {Q : Flow → Shared → Prop}
    (hsw : swapsWith (.ListComp elt [⟨.Name x px, iter, ifs, 0⟩] scope pos) (some (.Name y py)) spos.line env = pure true)
    (hclos : closureFor scope env = pure cl) (hcell : ∀ y ∈ scope.names, y.2 ≠ .cell) (hkind : scope.kind = .function)
    (hnames : ∀ y ∈ scope.names, y.2 = .local → scope.names.lookup y.1 = some .local) (hx : scope.names.lookup x = some .local) (hs : ∀ x, foldedSetIterable iter env x = pure x)
    (hy : env.kindOf y = some .local) (hp : (env.scope.kind == .class || (env.scope.kind == .module && env.locals != env.globals)) = false)
    (h : wpAny (model prog w) A (eval iter env) (fun src s₁ => CompInA prog w A env scope cl x y ifs elt Q src s₁) E s) :
    wpAny (model prog w) A (exec (.Assign [.Name y py] (.ListComp elt [⟨.Name x px, iter, ifs, 0⟩] scope pos) spos) env) Q E s := by
  rw [exec_Assign_Name_used _ _ _ _ hsw]
  refine wpAny_bind (wpAny_standAt (wpAny_bind ?_))
  show wpAny _ A (do let _ ← comprehension (.ListComp elt [⟨.Name x px, iter, ifs, 0⟩] scope pos) scope env _ (newList []) false (eval iter env) (some (assign (.Name y py) env))) _ _ s
  refine wpAny_bind (wpAny_mono (wpAny_comprehension_free (use := some (assign (.Name y py) env)) (Q := fun _ s' => Q .next s') rfl hs hclos hkind hnames
    (wpAny_mono h (fun src s₁ h₁ => ?_) fun _ _ e => e)) (fun _ s' hq => wpAny_pure (wpAny_pure hq)) fun _ _ e => e)
  obtain ⟨n, P, p, El, hid, m, hLh, hn, S, hsz, mono, T, hQ⟩ := h₁
  refine S _ _ fun I fp St h₂ W hst hIl hfp hle hst2 nI => ?_
  refine comp_block (hid := hid) (RR := fun acc C => compPost (model prog w) A E (some (assign (.Name y py) env)) (fun _ s' => Q .next s') acc C) W hsz mono hcell hkind hx hst hIl hfp hle hst2 nI (fun C D a b c d e f => T C D I a b nI c d e f) ?_
  intro D C h' tk m' ys vs nD nC hDC hnC hlD hlen hP hF hk
  obtain ⟨oL, es, ep, hoL, r⟩ := id hn
  have hLC : env.locals ≠ C := fun q => by rw [q, nC] at hoL; cases hoL
  have hLD : env.locals ≠ D := fun q => by rw [q, nD] at hoL; cases hoL
  have bC : ∀ b o, s₁.heap.get? b = some o → b ≠ C := fun b o e q => by rw [q, nC] at e; cases e
  show wpAny _ A (assign (.Name y py) env (.ref D)) _ _ _
  refine wpAny_assign_Name (wpAny_storeName_local hy (hn.at' fun o e => hk _ o e) (fun h₃ hn₃ hs₃ => ?_) hp)
  refine ⟨m', hnC.sameBut hs₃ (Ne.symm hLC), fun h₄ hs₄ => ?_⟩
  refine hQ D h₄ _ ys vs (fun b o hb e => (hs₄.2 b (bC b o e)).trans ((hs₃.2 b hb).trans (hk b o e))) (hn₃.sameBut hs₄ hLC) nD (hlD.at fun o e => (hs₄.2 D hDC).trans ((hs₃.2 D (Ne.symm hLD)).trans e)) hlen hP (hF.mono fun _ _ hz => ?_)
  refine mono _ _ _ _ (fun b o e => ?_) hz
  obtain ⟨e1, e2⟩ := hideAll_mem e
  refine hideAll_get _ ((hs₄.2 b (fun q => e2 (by simp [q]))).trans ((hs₃.2 b (fun q => e2 (by rw [q]; simp [hLh]))).trans e1)) fun hm => e2 ?_
  rcases List.mem_cons.mp hm with q | q
  · simp [q]
  · simp [q]
theorem tests_nil {cenv : Env} {s : Shared} {Q : Bool → Shared → Prop} (h : Q true s) :
    wpAny (model prog w) A (forIn ([] : List Expr) true fun c r => if r = true then do let ok ← isTrue c cenv (eval c cenv); pure (ForInStep.yield ok) else pure (ForInStep.yield r)) Q E s := wpAny_pure h
theorem tests_one {cenv : Env} {s : Shared} {Q : Bool → Shared → Prop} {c : Expr} (h : wpAny (model prog w) A (isTrue c cenv (eval c cenv)) Q E s) :
    wpAny (model prog w) A (forIn [c] true fun c r => if r = true then do let ok ← isTrue c cenv (eval c cenv); pure (ForInStep.yield ok) else pure (ForInStep.yield r)) Q E s := by
  simp only [List.forIn_cons, List.forIn_nil, if_true]
  refine wpAny_bind (wpAny_bind (wpAny_mono h (fun b s' hb => wpAny_pure (wpAny_pure hb)) fun _ _ e => e))
end
end Mine
end

section
theorem Mine.rst_PT : True ∧ True := by
  w_top off
  first | (walk1; fail "laid") | exact ⟨trivial, trivial⟩
open PySem PySem.W PyProof.Rows PySem.Calls
namespace Mine
open PySem.StrLaws PySem.Builtin.Str
/-- the signs of a text -/
abbrev ls (x : Str) : List Nat := x.cps.toList
theorem ls_ext {x y : Str} (h : ls x = ls y) : x = y := Str.ext' (Array.toList_inj.mp h)
theorem ls_append (x y : Str) : ls (x ++ y) = ls x ++ ls y := by simp [ls, Str.cps_append]
theorem ls_len (x : Str) : x.length = (ls x).length := by simp [ls, Str.length]
theorem slash_eq : slash = ⟨#[47]⟩ := by decide +kernel
theorem ls_slash : ls slash = [47] := by rw [slash_eq]
theorem ls_empty : ls Str.empty = [] := rfl
noncomputable def Seg (p : Str) : Prop := 47 ∉ ls p
theorem ls_join_cons (sep x y : Str) (r : List Str) : ls (Str.join sep (x :: y :: r)) = ls x ++ (ls sep ++ ls (Str.join sep (y :: r))) := by
  show ls (x ++ sep ++ Str.join sep (y :: r)) = _
  rw [ls_append, ls_append, List.append_assoc]
theorem ls_join_one (sep x : Str) : ls (Str.join sep [x]) = ls x := rfl
theorem cut_eq {c : Nat} : ∀ {a b u v : List Nat}, c ∉ a → c ∉ b → a ++ c :: u = b ++ c :: v → a = b ∧ u = v
  | [], [], _, _, _, _, h => by simpa using h
  | [], x :: b, _, _, _, hb, h => by simp at h; exact absurd h.1 (fun q => hb (by simp [q]))
  | x :: a, [], _, _, ha, _, h => by simp at h; exact absurd h.1 (fun q => ha (by simp [q]))
  | x :: a, y :: b, u, v, ha, hb, h => by
    simp at h
    obtain ⟨h1, h2⟩ := h
    have := cut_eq (a := a) (b := b) (fun q => ha (by simp [q])) (fun q => hb (by simp [q])) h2
    exact ⟨by rw [h1, this.1], this.2⟩
theorem join_inj : ∀ {ps qs : List Str}, ps ≠ [] → qs ≠ [] → (∀ p ∈ ps, Seg p) → (∀ q ∈ qs, Seg q) → Str.join slash ps = Str.join slash qs → ps = qs
  | [], _, h, _, _, _, _ => absurd rfl h
  | _, [], _, h, _, _, _ => absurd rfl h
  | [p], [q], _, _, _, _, h => by simpa [Str.join] using h
  | [p], q :: q2 :: r, _, _, hp, hq, h => by
    have := congrArg ls h
    rw [ls_join_one, ls_join_cons, ls_slash] at this
    exact absurd (by rw [this]; simp) (hp p (by simp))
  | p :: p2 :: r, [q], _, _, hp, hq, h => by
    have := congrArg ls h
    rw [ls_join_one, ls_join_cons, ls_slash] at this
    exact absurd (by rw [← this]; simp) (hq q (by simp))
  | p :: p2 :: r, q :: q2 :: r2, _, _, hp, hq, h => by
    have := congrArg ls h
    rw [ls_join_cons, ls_join_cons, ls_slash] at this
    obtain ⟨h1, h2⟩ := cut_eq (hp p (by simp)) (hq q (by simp)) this
    have h3 := join_inj (ps := p2 :: r) (qs := q2 :: r2) (by simp) (by simp) (fun x hx => hp x (by simp [hx])) (fun x hx => hq x (by simp [hx])) (ls_ext h2)
    rw [ls_ext h1, h3]
theorem split_ne (x y : Str) : Txt.split x y ≠ [] := by
  unfold Txt.split
  split
  · simp
  split
  · simp
  · rw [partsBetween_eq]
    obtain ⟨p, r, e⟩ := partsFrom_ne x y.length 0 (occurrences x y 0 x.length (x.length + 1))
    rw [e]; simp
theorem split_seg (x : Str) : ∀ p ∈ Txt.split x slash, Seg p := by
  rw [slash_eq]; exact split_free x 47
theorem split_join {ps : List Str} (h : ps ≠ []) (hs : ∀ p ∈ ps, Seg p) : Txt.split (Str.join slash ps) slash = ps :=
  join_inj (split_ne _ _) h (split_seg _) hs (StrLaws.join_split _ _)
theorem join_len_ge (sep : Str) (hsep : 1 ≤ sep.length) : ∀ ps : List Str, ps.length ≤ (Str.join sep ps).length + 1
  | [] => by simp
  | [x] => by simp
  | x :: y :: r => by
    have := join_len_ge sep hsep (y :: r)
    have e := congrArg List.length (ls_join_cons sep x y r)
    rw [← ls_len] at e
    simp only [List.length_append, ← ls_len] at e
    simp only [List.length_cons] at this ⊢
    lia
theorem split_len' (x : Str) : (Txt.split x slash).length ≤ x.length + 1 := by
  have := join_len_ge slash (by rw [slash_eq]; decide) (Txt.split x slash)
  rwa [StrLaws.join_split] at this
theorem mem_join_len (sep : Str) : ∀ {ps : List Str} {p : Str}, p ∈ ps → p.length ≤ (Str.join sep ps).length
  | [x], p, h => by simp at h; subst h; exact Nat.le_refl _
  | x :: y :: r, p, h => by
    have e := congrArg List.length (ls_join_cons sep x y r)
    rw [← ls_len] at e
    simp only [List.length_append, ← ls_len] at e
    rcases List.mem_cons.mp h with rfl | h
    · lia
    · have := mem_join_len sep (ps := y :: r) h
      lia
theorem split_mem_len {x p : Str} (h : p ∈ Txt.split x slash) : p.length ≤ x.length := by
  have := mem_join_len slash h
  rwa [StrLaws.join_split] at this
end Mine
end

section
theorem Mine.rst_S4 : True ∧ True := by
  w_top off
  first | (walk1; fail "laid") | exact ⟨trivial, trivial⟩
open PySem PySem.W PyProof.Rows PySem.Calls
namespace Mine
theorem fill4 : (PySem.Challenge.rw_pd0049_01.prog = PySem.Challenge.rw_pd0049_01.prog) ∧ (∀ P, Mine.hd.heap_1 P = Mine.hd.heap_1 P) := by k_fill; exact ⟨rfl, fun _ => rfl⟩
local macro_rules | `(tactic| walk_at "eval ListComp") => `(tactic| (refine comp_eval (cl := []) rfl (by decide) rfl (by decide) rfl (fun _ => rfl) ?_))
local macro_rules | `(tactic| walk_at "sub") => `(tactic| (intro p hp; (repeat (first | exact hp | apply List.Mem.tail))))
theorem vs_eq {items : Array Value} {vs : List Value} (h1 : vs.length = items.size) (h2 : ∀ (j : Nat) v, vs[j]? = some v → items[j]? = some v) : vs = items.toList := by
  apply List.ext_getElem?
  intro j
  cases q : vs[j]? with
  | some v => rw [Array.getElem?_toList]; exact (h2 j v q).symm
  | none =>
    have : vs.length ≤ j := by simpa using q
    symm
    simp; omega
theorem paired_eq {l l' : List Value} (h : Paired (fun v y => y = v) l l') : l' = l := by
  induction h with
  | nil => rfl
  | cons h _ ih => rw [h, ih]
/-- a list of texts stands at a -/
inductive StrsAt (h : Heap) (a : Addr) (xs : List Str) : Prop
  | mk : ∀ (l : List (Str × Tok)) (c : Nat), (l.map (·.1) = xs) →
      (h.get? a = some (lstO (strValues l).toArray c)) → StrsAt h a xs
theorem StrsAt.keeps {h h' : Heap} {a : Addr} {xs : List Str} (x : StrsAt h a xs) (k : ∀ o, h.get? a = some o → h'.get? a = some o) : StrsAt h' a xs := by
  obtain ⟨l, c, e, ho⟩ := x; exact ⟨l, c, e, k _ ho⟩
noncomputable def okPiece (c : Str) : Bool := !([Str.ofString "", Str.ofString "."].any fun x => x == c)
noncomputable def okPieceV : Value → Bool
  | .str c _ => okPiece c
  | _ => false
noncomputable def piecesF (x : Str) : List Str := (Txt.split x slash).filter okPiece
theorem filter_strValues (f : Str → Bool) (g : Value → Bool) (hg : ∀ x t, g (.str x t) = f x) (l : List (Str × Tok)) : (strValues l).filter g = strValues (l.filter fun z => f z.1) := by
  induction l with
  | nil => rfl
  | cons z l ih =>
    obtain ⟨x, t⟩ := z
    simp only [strValues, List.map_cons, List.filter_cons, hg] at ih ⊢
    split <;> simp [ih]
theorem map_filter_fst (f : Str → Bool) (l : List (Str × Tok)) : (l.filter fun z => f z.1).map (·.1) = (l.map (·.1)).filter f := by
  induction l with
  | nil => rfl
  | cons z l ih =>
    simp only [List.filter_cons, List.map_cons]
    split <;> simp [ih]
theorem strValues_get {l : List (Str × Tok)} {i : Nat} {v : Value} (h : (strValues l).toArray[i]? = some v) : ∃ c u, v = .str c u ∧ c ∈ l.map (·.1) := by
  simp only [strValues, List.getElem?_toArray, List.getElem?_map, Option.map_eq_some_iff] at h
  obtain ⟨z, hz, rfl⟩ := h
  exact ⟨_, _, rfl, List.mem_map.mpr ⟨z, List.mem_of_getElem? hz, rfl⟩⟩
theorem pieces_spec {w : World} {A : Around} {s : Shared} {E : Value → Shared → Prop} {Q : Value → Shared → Prop} {x : Str} {t : Tok}
   (G : Gl w s.heap) (hR : Rm A 2) (hx : x.length ≤ 1000)
   (h : ∀ D h' tk', s.heap.StaysIn h' → s.heap.get? D = none → StrsAt h' D (piecesF x) → Q (.ref D) { s with heap := h', toks := tk' }) :
   wpAny (model PP w) A (call (.ref 167) [.str x t]) Q E s := by
  obtain ⟨X, mean, mg, mb, T⟩ := G
  obtain ⟨hn, dp, fr, gd, un⟩ := A
  obtain rfl : hn = none := hR.handled
  refine call_defK (binds := [(Str.ofString "text", .str x t)]) X T.nolimit (by k_is) (by k_is) (Rm.room hR) (BindsTo.of_eq rfl) (locs rfl) (by decide) rfl rfl rfl ?_
  intro h₁ L _ F N
  k_steps
  rename_i l h2 k2 e1 e2 e3 hl F2 N2
  refine ⟨_, _, okPieceV, fun _ v y => y = v, [], Src.list rfl hl, ?_, fun _ _ _ _ _ e => e, ?_, ?_⟩
  · have : (strValues l).toArray.size = (l.map (·.1)).length := by simp [strValues]
    rw [this, e1]
    have : (Txt.split x (Str.ofString "/")).length ≤ x.length + 1 := split_len' x
    unfold sizeLine
    omega
  · intro C D I nC nD nI hC hCD hCI hDI
    have X3 := X.keeps F2.keep
    have T3 := T.keeps F2.keep
    clear F2 N2
    refine ⟨?_, ?_⟩
    · intro i v h₃ tk m₃ E' hP st hns hm _ _
      refine tests_one ?_
      have F3 : Fr h2 C h₃ m₃ := ⟨hns, st, hC⟩
      have N3 : News h2 C h₃ (fullOf h2 C h₃) := News.full
      obtain ⟨c, u, rfl, -⟩ := strValues_get hP
      k_steps
      exact ⟨rfl, _, _, _, rfl, keep_of st (by assumption) (by assumption) (by walk_at "sub"), Fr.ns (by assumption), hm⟩
    · intro i v h₃ tk m₃ E' hP hv st hns hm _ _
      have F3 : Fr h2 C h₃ m₃ := ⟨hns, st, hC⟩
      have N3 : News h2 C h₃ (fullOf h2 C h₃) := News.full
      k_steps
      exact ⟨_, _, _, rfl, keep_of st (by assumption) (by assumption) (by walk_at "sub"), Fr.ns (by assumption), rfl⟩
  · intro D h' tk ys vs st nD hpl hlen hvs hp
    have hv := vs_eq hlen hvs
    have hy := paired_eq hp
    rw [hv, filter_strValues okPiece okPieceV (fun _ _ => rfl)] at hy
    refine h D h' tk (fun b o e => st b o (F2.keep b o e)) (none_of_stays F2.keep nD) ⟨l.filter fun z => okPiece z.1, hpl.choose, ?_, ?_⟩
    · rw [map_filter_fst, e1]; rfl
    · rw [← hy]; exact hpl.choose_spec
end Mine
end

section
theorem Mine.rst_RC : True ∧ True := by
  w_top off
  first | (walk1; fail "laid") | exact ⟨trivial, trivial⟩
open PySem PySem.W PyProof.Rows PySem.Calls
namespace Mine
section
variable {M : Model} {A : Around} {E : Value → Shared → Prop} {s : Shared} {base : Heap} {C : Addr} {m : Str → Option Value}
theorem name_cellB {env : Env} {x : Str} {pos : Pos} {c : Addr} {v : Value} {Q : Value → Shared → Prop} (hx : env.kindOf x = some .cell) (hk : env.scope.kind = .function) (hc : env.cells.lookup x = some c)
    (F : Fr base C s.heap m) (hv : base.IsCell c (some v)) (hb : (x == ("__debug__" : Str)) = false) (h : Q v s) : wpAny M A (eval (.Name x pos) env) Q E s :=
  wpAny_Name (wpAny_loadName_cell hk hx hc (hv.keeps F.keep) h) hb
end
end Mine
end

section
theorem Mine.rst_CM : True ∧ True := by
  w_top off
  first | (walk1; fail "laid") | exact ⟨trivial, trivial⟩
open PySem PySem.W PyProof.Rows PySem.Calls
open AutoSeq1 (wpAny_loadPart')
open MeetsSeq MeetsSeq2 MeetsSeq3 SeqRoads2 SeqAt
namespace Mine
noncomputable def LtAt (A : Around) (s : Shared) (y x : Value) (b : Bool) : Prop :=
  ∀ (prog : Program) (w : World) (E : Value → Shared → Prop) (Q : Value → Shared → Prop), Q (.bool b) s → wpAny (model prog w) A (richCompare .Lt y x) Q E s
noncomputable def GtAt (A : Around) (s : Shared) (y x : Value) (b : Bool) : Prop :=
  ∀ (prog : Program) (w : World) (E : Value → Shared → Prop) (Q : Value → Shared → Prop), Q (.bool b) s → wpAny (model prog w) A (richCompare .Gt y x) Q E s
noncomputable def lexLt {α : Type} [DecidableEq α] (lt : α → α → Bool) : List α → List α → Bool
  | [], [] => false
  | [], _ :: _ => true
  | _ :: _, [] => false
  | a :: as, b :: bs => if a = b then lexLt lt as bs else lt a b
theorem lexLt_nil {α : Type} [DecidableEq α] (lt : α → α → Bool) (ys : List α) : lexLt lt [] ys = decide (0 < ys.length) := by
  cases ys <;> simp [lexLt]
theorem lexLt_to_nil {α : Type} [DecidableEq α] (lt : α → α → Bool) (xs : List α) : lexLt lt xs [] = false := by
  cases xs <;> simp [lexLt]
theorem lt_loop {α : Type} [DecidableEq α] (lt : α → α → Bool) (l b : Addr) (items items2 : Array Value) (n n2 : Nat) (xs ys : List α) (hx : items.size = xs.length) (hy : items2.size = ys.length) (k : Nat) :
    ∀ i : Nat, xs.length - i = k → i ≤ xs.length → i ≤ ys.length → Meets (Builtin.«list.__eq__.loop» ⟨[.ref l, .ref b, rawInt i, rawInt 0], []⟩)
      (fun A R s => s.heap.get? l = some (lstO items n) ∧ s.heap.get? b = some (lstO items2 n2) ∧
        (∀ j (h1 : j < items.size) (h2 : j < items2.size), EqAt A.in1 s items[j] items2[j] (decide (xs[j] = ys[j]))) ∧
        (∀ j (h1 : j < items.size) (h2 : j < items2.size), LtAt A.in1 s items[j] items2[j] (lt xs[j] ys[j])) ∧
        R (.ok (.ret (.bool (lexLt lt (xs.drop i) (ys.drop i))))) s) := by
  induction k with
  | zero =>
    intro i hk hi hi2 prog w A R s h
    obtain ⟨hp, g, d, tk, os⟩ := s; obtain ⟨hl, hb, he, hr, h⟩ := h
    wp_walk using wpAny_loadPart' hl, wpAny_loadPart' hb
    have hi1 : items[((i : Nat) : Int).toNat]? = none := by simp; lia
    have hd : xs.drop i = [] := by simp; lia
    rw [hd, lexLt_nil] at h
    rw [hi1]
    have e1 : items.size = i := by lia
    wp_walk using wpAny_loadPart' hl, wpAny_loadPart' hb
    show R (.ok (.ret (.bool (decide (items.size < items2.size))))) _
    have : decide (items.size < items2.size) = decide (0 < (ys.drop i).length) := by
      rw [List.length_drop]
      congr 1
      apply propext
      lia
    rw [this]; exact h
  | succ k ih =>
    intro i hk hi hi2 prog w A R s h
    obtain ⟨hp, g, d, tk, os⟩ := s; obtain ⟨hl, hb, he, hr, h⟩ := h
    wp_walk using wpAny_loadPart' hl, wpAny_loadPart' hb
    have hlt : i < items.size := by lia
    have hltx : i < xs.length := by lia
    have hi1 : items[((i : Nat) : Int).toNat]? = some items[i] := by simp [hlt]
    have hdx : xs.drop i = xs[i] :: xs.drop (i + 1) := List.drop_eq_getElem_cons hltx
    by_cases hlt2 : i < items2.size
    · have hlty : i < ys.length := by lia
      have hi2 : items2[((i : Nat) : Int).toNat]? = some items2[i] := by simp [hlt2]
      have hdy : ys.drop i = ys[i] :: ys.drop (i + 1) := List.drop_eq_getElem_cons hlty
      have hc : ((i : Int) + 1) = ((i + 1 : Nat) : Int) := by push_cast; rfl
      rw [hdx, hdy, lexLt] at h
      rw [hi1, hi2]
      refine wpAny_bind (he i hlt hlt2 prog w _ _ ?_)
      by_cases hb' : xs[i] = ys[i]
      · rw [if_pos hb'] at h
        simp only [hb', decide_true, if_true]
        wp_walk
        rw [hc]
        exact ⟨plainId_quiet plain_eq_loop _, codeAny_builtin entry_eq_loop (by
          rw [Around.under_plainId plain_eq_loop _]
          exact ih (i + 1) (by lia) (by lia) (by lia) prog w A R _ ⟨hl, hb, he, hr, h⟩)⟩
      · rw [if_neg hb'] at h
        simp only [hb', decide_false, Bool.false_eq_true, if_false]
        wp_walk using wpAny_loadPart' hl, wpAny_loadPart' hb
        rw [hi1, hi2]
        dsimp only
        refine wpAny_bind (hr i hlt hlt2 prog w _ _ ?_)
        wp_walk
        exact h
    · have hi2 : items2[((i : Nat) : Int).toNat]? = none := by simp; lia
      have hdy : ys.drop i = [] := by simp; lia
      rw [hdy, lexLt_to_nil] at h
      rw [hi1, hi2]
      wp_walk using wpAny_loadPart' hl, wpAny_loadPart' hb
      show R (.ok (.ret (.bool (decide (items.size < items2.size))))) _
      have : decide (items.size < items2.size) = false := by simp; lia
      rw [this]; exact h
theorem gt_loop {α : Type} [DecidableEq α] (lt : α → α → Bool) (l b : Addr) (items items2 : Array Value) (n n2 : Nat) (xs ys : List α) (hx : items.size = xs.length) (hy : items2.size = ys.length) (k : Nat) :
    ∀ i : Nat, xs.length - i = k → i ≤ xs.length → i ≤ ys.length → Meets (Builtin.«list.__eq__.loop» ⟨[.ref l, .ref b, rawInt i, rawInt 4], []⟩)
      (fun A R s => s.heap.get? l = some (lstO items n) ∧ s.heap.get? b = some (lstO items2 n2) ∧
        (∀ j (h1 : j < items.size) (h2 : j < items2.size), EqAt A.in1 s items[j] items2[j] (decide (xs[j] = ys[j]))) ∧
        (∀ j (h1 : j < items.size) (h2 : j < items2.size), GtAt A.in1 s items[j] items2[j] (lt ys[j] xs[j])) ∧
        R (.ok (.ret (.bool (lexLt lt (ys.drop i) (xs.drop i))))) s) := by
  induction k with
  | zero =>
    intro i hk hi hi2 prog w A R s h
    obtain ⟨hp, g, d, tk, os⟩ := s; obtain ⟨hl, hb, he, hr, h⟩ := h
    wp_walk using wpAny_loadPart' hl, wpAny_loadPart' hb
    have hi1 : items[((i : Nat) : Int).toNat]? = none := by simp; lia
    have hd : xs.drop i = [] := by simp; lia
    rw [hd, lexLt_to_nil] at h
    rw [hi1]
    have e1 : items.size = i := by lia
    wp_walk using wpAny_loadPart' hl, wpAny_loadPart' hb
    show R (.ok (.ret (.bool (decide (items.size > items2.size))))) _
    have : decide (items.size > items2.size) = false := by simp; lia
    rw [this]; exact h
  | succ k ih =>
    intro i hk hi hi2 prog w A R s h
    obtain ⟨hp, g, d, tk, os⟩ := s; obtain ⟨hl, hb, he, hr, h⟩ := h
    wp_walk using wpAny_loadPart' hl, wpAny_loadPart' hb
    have hlt : i < items.size := by lia
    have hltx : i < xs.length := by lia
    have hi1 : items[((i : Nat) : Int).toNat]? = some items[i] := by simp [hlt]
    have hdx : xs.drop i = xs[i] :: xs.drop (i + 1) := List.drop_eq_getElem_cons hltx
    by_cases hlt2 : i < items2.size
    · have hlty : i < ys.length := by lia
      have hi2 : items2[((i : Nat) : Int).toNat]? = some items2[i] := by simp [hlt2]
      have hdy : ys.drop i = ys[i] :: ys.drop (i + 1) := List.drop_eq_getElem_cons hlty
      have hc : ((i : Int) + 1) = ((i + 1 : Nat) : Int) := by push_cast; rfl
      rw [hdx, hdy, lexLt] at h
      rw [hi1, hi2]
      refine wpAny_bind (he i hlt hlt2 prog w _ _ ?_)
      by_cases hb' : xs[i] = ys[i]
      · rw [if_pos hb'.symm] at h
        simp only [hb', decide_true, if_true]
        wp_walk
        rw [hc]
        exact ⟨plainId_quiet plain_eq_loop _, codeAny_builtin entry_eq_loop (by
          rw [Around.under_plainId plain_eq_loop _]
          exact ih (i + 1) (by lia) (by lia) (by lia) prog w A R _ ⟨hl, hb, he, hr, h⟩)⟩
      · rw [if_neg (fun q => hb' q.symm)] at h
        simp only [hb', decide_false, Bool.false_eq_true, if_false]
        wp_walk using wpAny_loadPart' hl, wpAny_loadPart' hb
        rw [hi1, hi2]
        dsimp only
        refine wpAny_bind (hr i hlt hlt2 prog w _ _ ?_)
        wp_walk
        exact h
    · have hi2 : items2[((i : Nat) : Int).toNat]? = none := by simp; lia
      have hdy : ys.drop i = [] := by simp; lia
      rw [hdy, lexLt_nil] at h
      rw [hi1, hi2]
      wp_walk using wpAny_loadPart' hl, wpAny_loadPart' hb
      show R (.ok (.ret (.bool (decide (items.size > items2.size))))) _
      have : decide (items.size > items2.size) = decide (0 < (xs.drop i).length) := by
        rw [List.length_drop]
        congr 1
        apply propext
        lia
      rw [this]; exact h
theorem list_lt {α : Type} [DecidableEq α] (lt : α → α → Bool) (l b : Addr) (items items2 : Array Value) (n n2 : Nat) (xs ys : List α) (hx : items.size = xs.length) (hy : items2.size = ys.length) :
    Meets (Builtin.«list.__lt__» ⟨[.ref l, .ref b], []⟩)
      (fun A R s => s.heap.get? l = some (lstO items n) ∧ s.heap.get? b = some (lstO items2 n2) ∧
        (∀ j (h1 : j < items.size) (h2 : j < items2.size), EqAt A.in1 s items[j] items2[j] (decide (xs[j] = ys[j]))) ∧
        (∀ j (h1 : j < items.size) (h2 : j < items2.size), LtAt A.in1 s items[j] items2[j] (lt xs[j] ys[j])) ∧
        R (.ok (.ret (.bool (lexLt lt xs ys)))) s) := by
  intro prog w A R s h
  obtain ⟨hp, g, d, tk, os⟩ := s; obtain ⟨hl, hb, he, hr, h⟩ := h
  have f3 := AutoSeq1.sub_list_list
  wp_walk using wpAny_loadPart' hl, wpAny_loadPart' hb
  exact ⟨plainId_quiet plain_eq_loop _, codeAny_builtin entry_eq_loop (by
    rw [Around.under_plainId plain_eq_loop _]
    exact lt_loop lt l b items items2 n n2 xs ys hx hy _ 0 rfl (Nat.zero_le _) (Nat.zero_le _) prog w A R _ ⟨hl, hb, he, hr, by simpa using h⟩)⟩
theorem list_gt {α : Type} [DecidableEq α] (lt : α → α → Bool) (l b : Addr) (items items2 : Array Value) (n n2 : Nat) (xs ys : List α) (hx : items.size = xs.length) (hy : items2.size = ys.length) :
    Meets (Builtin.«list.__gt__» ⟨[.ref l, .ref b], []⟩)
      (fun A R s => s.heap.get? l = some (lstO items n) ∧ s.heap.get? b = some (lstO items2 n2) ∧
        (∀ j (h1 : j < items.size) (h2 : j < items2.size), EqAt A.in1 s items[j] items2[j] (decide (xs[j] = ys[j]))) ∧
        (∀ j (h1 : j < items.size) (h2 : j < items2.size), GtAt A.in1 s items[j] items2[j] (lt ys[j] xs[j])) ∧
        R (.ok (.ret (.bool (lexLt lt ys xs)))) s) := by
  intro prog w A R s h
  obtain ⟨hp, g, d, tk, os⟩ := s; obtain ⟨hl, hb, he, hr, h⟩ := h
  have f3 := AutoSeq1.sub_list_list
  wp_walk using wpAny_loadPart' hl, wpAny_loadPart' hb
  exact ⟨plainId_quiet plain_eq_loop _, codeAny_builtin entry_eq_loop (by
    rw [Around.under_plainId plain_eq_loop _]
    exact gt_loop lt l b items items2 n n2 xs ys hx hy _ 0 rfl (Nat.zero_le _) (Nat.zero_le _) prog w A R _ ⟨hl, hb, he, hr, by simpa using h⟩)⟩
section
variable {A : Around} {s : Shared}
theorem LtAt.lists {α : Type} [DecidableEq α] {lt : α → α → Bool} {l b : Addr} {items items2 : Array Value} {n n2 : Nat} {xs ys : List α} (hl : s.heap.get? l = some (lstO items n)) (hb : s.heap.get? b = some (lstO items2 n2)) (hx : items.size = xs.length) (hy : items2.size = ys.length) (hu : A.units < cLine)
    (he : ∀ j (h1 : j < items.size) (h2 : j < items2.size), EqAt A.in1 s items[j] items2[j] (decide (xs[j] = ys[j])))
    (hr : ∀ j (h1 : j < items.size) (h2 : j < items2.size), LtAt A.in1 s items[j] items2[j] (lt xs[j] ys[j])) : LtAt A s (.ref l) (.ref b) (lexLt lt xs ys) := fun prog w E Q h =>
  richCompare_meets_room (op := .Lt) ⟨_, hl, rfl⟩ ⟨_, hb, rfl⟩ F.slot_list_lt F.entry_list_lt (F.args_list_lt_2 _ _) (list_lt lt l b items items2 n n2 xs ys hx hy)
    ⟨hl, hb, he, hr, show Value.bool (lexLt lt xs ys) ≠ Value.notImplemented ∧ Q (.bool (lexLt lt xs ys)) s from ⟨(fun x => nomatch x), h⟩⟩ hu
theorem GtAt.lists {α : Type} [DecidableEq α] {lt : α → α → Bool} {l b : Addr} {items items2 : Array Value} {n n2 : Nat} {xs ys : List α} (hl : s.heap.get? l = some (lstO items n)) (hb : s.heap.get? b = some (lstO items2 n2)) (hx : items.size = xs.length) (hy : items2.size = ys.length) (hu : A.units < cLine)
    (he : ∀ j (h1 : j < items.size) (h2 : j < items2.size), EqAt A.in1 s items[j] items2[j] (decide (xs[j] = ys[j])))
    (hr : ∀ j (h1 : j < items.size) (h2 : j < items2.size), GtAt A.in1 s items[j] items2[j] (lt ys[j] xs[j])) : GtAt A s (.ref l) (.ref b) (lexLt lt ys xs) := fun prog w E Q h =>
  richCompare_meets_room (op := .Gt) ⟨_, hl, rfl⟩ ⟨_, hb, rfl⟩ F.slot_list_gt F.entry_list_gt (F.args_list_gt_2 _ _) (list_gt lt l b items items2 n n2 xs ys hx hy)
    ⟨hl, hb, he, hr, show Value.bool (lexLt lt ys xs) ≠ Value.notImplemented ∧ Q (.bool (lexLt lt ys xs)) s from ⟨(fun x => nomatch x), h⟩⟩ hu
end
end Mine
end

section
theorem Mine.rst_CM2 : True ∧ True := by
  w_top off
  first | (walk1; fail "laid") | exact ⟨trivial, trivial⟩
open PySem PySem.W PyProof.Rows PySem.Calls
open AutoSeq1 (wpAny_loadPart')
open MeetsSeq MeetsSeq2 MeetsSeq3 SeqRoads2 SeqAt
set_option linter.unusedVariables false
namespace Mine
theorem tuple_lt {α : Type} [DecidableEq α] (lt : α → α → Bool) (l b : Addr) (items items2 : Array Value) (n n2 : Nat) (xs ys : List α) (hx : items.size = xs.length) (hy : items2.size = ys.length) :
    Meets (Builtin.«tuple.__lt__» ⟨[.ref l, .ref b], []⟩)
      (fun A R s => s.heap.get? l = some { cls := .type "tuple", data := .seq items n } ∧ s.heap.get? b = some { cls := .type "tuple", data := .seq items2 n2 } ∧
        (∀ j (h1 : j < items.size) (h2 : j < items2.size), EqAt A.in1 s items[j] items2[j] (decide (xs[j] = ys[j]))) ∧
        (∀ j (h1 : j < items.size) (h2 : j < items2.size), LtAt A.in1 s items[j] items2[j] (lt xs[j] ys[j])) ∧
        R (.ok (.ret (.bool (lexLt lt xs ys)))) s) :=
  .of_wp fun prog w A R s h => by
    obtain ⟨hp, g, d, tk, os⟩ := s; obtain ⟨hl, hb, he, hr, h⟩ := h
    have f2 := AutoSeq1.sub_tuple_tuple
    have hZ : (items.toList.zip items2.toList).length = min items.size items2.size := by simp
    wp_walk using wpAny_loadPart' hl, wpAny_loadPart' hb, wpAny_forIn_list _ (fun rest b s' => b.1 = none ∧ s' = ⟨hp, g, d, tk, os⟩ ∧ ∃ i, i ≤ xs.length ∧ i ≤ ys.length ∧ rest = (items.toList.zip items2.toList).drop i ∧
      R (.ok (.ret (.bool (lexLt lt (xs.drop i) (ys.drop i))))) ⟨hp, g, d, tk, os⟩) _
    case turn =>
      rintro ⟨y, x⟩ rest b s' ⟨hb', rfl, i, hix, hiy, hz, hR⟩
      have hlt : i < (items.toList.zip items2.toList).length := by
        rcases Nat.lt_or_ge i (items.toList.zip items2.toList).length with h' | h'
        · exact h'
        · rw [List.drop_of_length_le h'] at hz; cases hz
      have hm : i < min items.size items2.size := hZ ▸ hlt
      have h1 : i < items.size := Nat.lt_of_lt_of_le hm (Nat.min_le_left _ _)
      have h2 : i < items2.size := Nat.lt_of_lt_of_le hm (Nat.min_le_right _ _)
      rw [List.drop_eq_getElem_cons hlt] at hz
      injection hz with hyx hrest
      have hy' : y = items[i] := by have := congrArg Prod.fst hyx; simpa using this
      have hx' : x = items2[i] := by have := congrArg Prod.snd hyx; simpa using this
      subst hy' hx'
      have hxl : i < xs.length := by omega
      have hyl : i < ys.length := by omega
      rw [List.drop_eq_getElem_cons hxl, List.drop_eq_getElem_cons hyl, lexLt] at hR
      refine wpAny_bind (he i h1 h2 prog w _ _ ?_)
      by_cases hq : xs[i] = ys[i]
      · rw [if_pos hq] at hR
        simp only [hq, decide_true]
        wp_walk
        exact ⟨rfl, rfl, i + 1, hxl, hyl, hrest, hR⟩
      · rw [if_neg hq] at hR
        simp only [hq, decide_false]
        have hr' : ∀ (E : Value → Shared → Prop) (Q : Value → Shared → Prop), Q (.bool (lt xs[i] ys[i])) ⟨hp, g, d, tk, os⟩ → wpAny (model prog w) A.in1 (richCompare .Lt items[i] items2[i]) Q E ⟨hp, g, d, tk, os⟩ := fun E Q q => hr i h1 h2 prog w E Q q
        wp_walk using hr'
        exact ⟨_, rfl, hR⟩
    case fin =>
      rintro ⟨b1, b2⟩ s' ⟨hb', rfl, i, hix, hiy, hz, hR⟩
      simp only at hb'
      subst hb'
      have hge : min items.size items2.size ≤ i := by
        rcases Nat.lt_or_ge i (items.toList.zip items2.toList).length with h' | h'
        · rw [List.drop_eq_getElem_cons h'] at hz; cases hz
        · exact hZ ▸ h'
      wp_walk
      refine ⟨_, rfl, ?_⟩
      have : lexLt lt (xs.drop i) (ys.drop i) = decide (items.size < items2.size) := by
        by_cases hc : xs.length ≤ i
        · rw [List.drop_of_length_le hc, lexLt_nil, List.length_drop]
          congr 1
          apply propext
          omega
        · have : ys.length ≤ i := by omega
          rw [List.drop_of_length_le this, lexLt_to_nil]
          symm
          simp
          omega
      rw [this] at hR
      exact hR
    case h =>
      exact ⟨rfl, rfl, 0, Nat.zero_le _, Nat.zero_le _, rfl, by simpa using h⟩
section
variable {A : Around} {s : Shared}
theorem LtAt.tuples {α : Type} [DecidableEq α] {lt : α → α → Bool} {l b : Addr} {items items2 : Array Value} {n n2 : Nat} {xs ys : List α} (hl : s.heap.get? l = some { cls := .type "tuple", data := .seq items n }) (hb : s.heap.get? b = some { cls := .type "tuple", data := .seq items2 n2 }) (hx : items.size = xs.length) (hy : items2.size = ys.length) (hu : A.units < cLine)
    (he : ∀ j (h1 : j < items.size) (h2 : j < items2.size), EqAt A.in1 s items[j] items2[j] (decide (xs[j] = ys[j])))
    (hr : ∀ j (h1 : j < items.size) (h2 : j < items2.size), LtAt A.in1 s items[j] items2[j] (lt xs[j] ys[j])) : LtAt A s (.ref l) (.ref b) (lexLt lt xs ys) := fun prog w E Q h =>
  richCompare_meets_room (op := .Lt) ⟨_, hl, rfl⟩ ⟨_, hb, rfl⟩ F.slot_tuple_lt F.entry_tuple_lt (F.args_tuple_lt_2 _ _) (tuple_lt lt l b items items2 n n2 xs ys hx hy)
    ⟨hl, hb, he, hr, show Value.bool (lexLt lt xs ys) ≠ Value.notImplemented ∧ Q (.bool (lexLt lt xs ys)) s from ⟨(fun x => nomatch x), h⟩⟩ hu
noncomputable def strLt (x y : Str) : Bool := decide (x.cps.toList < y.cps.toList)
theorem LtAt.str (x y : Str) (t u : Tok) : LtAt A s (.str x t) (.str y u) (strLt x y) := fun prog w E Q h => lt_str h
theorem GtAt.str (x y : Str) (t u : Tok) : GtAt A s (.str x t) (.str y u) (strLt y x) := fun prog w E Q h => PySem.P.gt_str h
theorem EqAt.str (x y : Str) (t u : Tok) : EqAt A s (.str x t) (.str y u) (decide (x = y)) := by
  have := (eqGives_str x y t u).at A s
  have e : (x == y) = decide (x = y) := by
    by_cases q : x = y
    · simp [q]
    · simp [q]
  rwa [e] at this
theorem LtAt.int (x y : Int) (t u : Tok) : LtAt A s (.int x t) (.int y u) (decide (x < y)) := fun prog w E Q h => lt_int h
theorem EqAt.int (x y : Int) (t u : Tok) : EqAt A s (.int x t) (.int y u) (decide (x = y)) := by
  have := (EqGives.int x y t u).at A s
  have e : (x == y) = decide (x = y) := by
    by_cases q : x = y
    · simp [q]
    · simp [q]
  rwa [e] at this
/-- the order of lists of names -/
noncomputable def namesLt : List Str → List Str → Bool := lexLt strLt
theorem strValues_size (l : List (Str × Tok)) : (strValues l).toArray.size = (l.map (·.1)).length := by simp [strValues]
theorem strValues_at (l : List (Str × Tok)) (j : Nat) (h : j < (strValues l).toArray.size) (h' : j < (l.map (·.1)).length) : ∃ t, (strValues l).toArray[j] = .str (l.map (·.1))[j] t := by
  simp [strValues]
theorem StrsAt.eq {l b : Addr} {xs ys : List Str} (hl : StrsAt s.heap l xs) (hb : StrsAt s.heap b ys) (hu : A.units < cLine) : EqAt A s (.ref l) (.ref b) (decide (xs = ys)) := by
  obtain ⟨lx, c, rfl, ho⟩ := hl
  obtain ⟨ly, c2, rfl, ho2⟩ := hb
  by_cases hne : l = b
  · subst hne
    rw [ho] at ho2
    have : (strValues lx).toArray = (strValues ly).toArray := by
      injection ho2 with q
      injection q with _ _ q
      injection q
    have e2 : lx = ly := by
      have h3 : strValues lx = strValues ly := by simpa using this
      revert h3
      clear ho ho2 this
      induction lx generalizing ly with
      | nil => intro h3; cases ly with
        | nil => rfl
        | cons a r => simp [strValues] at h3
      | cons a r ih => intro h3; cases ly with
        | nil => simp [strValues] at h3
        | cons a' r' =>
          simp [strValues] at h3 ih
          obtain ⟨⟨h4, h5⟩, h6⟩ := h3
          have := ih r' h6
          rw [this]
          congr 1
          exact Prod.ext h4 h5
    rw [e2]
    simpa using EqAt.same (A := A) (s := s) (.ref l)
  · refine EqAt.of_refs hne ?_
    by_cases hsz : (strValues lx).toArray.size = (strValues ly).toArray.size
    · have := RcAt.lists (e := fun j => decide ((lx.map (·.1))[j]? = (ly.map (·.1))[j]?)) ⟨_, ho, rfl, c, rfl⟩ ⟨_, ho2, rfl, c2, rfl⟩ hsz hu (fun j h1 h2 => ?_)
      · have e : (List.range (strValues lx).toArray.size).all (fun j => decide ((lx.map (·.1))[j]? = (ly.map (·.1))[j]?)) = decide (lx.map (·.1) = ly.map (·.1)) := by
          rw [Bool.eq_iff_iff, List.all_eq_true, decide_eq_true_iff]
          constructor
          · intro h3
            apply List.ext_getElem?
            intro j
            by_cases hj : j < (strValues lx).toArray.size
            · exact of_decide_eq_true (h3 j (List.mem_range.mpr hj))
            · rw [strValues_size] at hj hsz
              rw [strValues_size] at hsz
              rw [List.getElem?_eq_none (by omega), List.getElem?_eq_none (by omega)]
          · intro h3 j _
            rw [h3]; simp
        rw [e] at this
        exact this
      · have g1 := h1; have g2 := h2
        rw [strValues_size] at g1 g2
        obtain ⟨t1, q1⟩ := strValues_at lx j h1 g1
        obtain ⟨t2, q2⟩ := strValues_at ly j h2 g2
        rw [q1, q2]
        have := EqAt.str (A := A.in1) (s := s) (lx.map (·.1))[j] (ly.map (·.1))[j] t1 t2
        rw [List.getElem?_eq_getElem g1, List.getElem?_eq_getElem g2]
        simpa using this
    · have e : decide (lx.map (·.1) = ly.map (·.1)) = false := by
        rw [decide_eq_false_iff_not]
        intro q
        rw [strValues_size, strValues_size, q] at hsz
        exact hsz rfl
      rw [e]
      exact RcAt.lists_lengths ⟨_, ho, rfl, c, rfl⟩ ⟨_, ho2, rfl, c2, rfl⟩ (by simpa using hsz) hu
theorem StrsAt.lt {l b : Addr} {xs ys : List Str} (hl : StrsAt s.heap l xs) (hb : StrsAt s.heap b ys) (hu : A.units < cLine) : LtAt A s (.ref l) (.ref b) (namesLt xs ys) := by
  obtain ⟨lx, c, rfl, ho⟩ := hl
  obtain ⟨ly, c2, rfl, ho2⟩ := hb
  refine LtAt.lists ho ho2 (strValues_size _) (strValues_size _) hu (fun j h1 h2 => ?_) (fun j h1 h2 => ?_)
  all_goals
    have g1 := h1; have g2 := h2
    rw [strValues_size] at g1 g2
    obtain ⟨t1, q1⟩ := strValues_at lx j h1 g1
    obtain ⟨t2, q2⟩ := strValues_at ly j h2 g2
    rw [q1, q2]
  · exact EqAt.str _ _ _ _
  · exact LtAt.str _ _ _ _
theorem StrsAt.gt {l b : Addr} {xs ys : List Str} (hl : StrsAt s.heap l xs) (hb : StrsAt s.heap b ys) (hu : A.units < cLine) : GtAt A s (.ref l) (.ref b) (namesLt ys xs) := by
  obtain ⟨lx, c, rfl, ho⟩ := hl
  obtain ⟨ly, c2, rfl, ho2⟩ := hb
  refine GtAt.lists (lt := strLt) ho ho2 (strValues_size _) (strValues_size _) hu (fun j h1 h2 => ?_) (fun j h1 h2 => ?_)
  all_goals
    have g1 := h1; have g2 := h2
    rw [strValues_size] at g1 g2
    obtain ⟨t1, q1⟩ := strValues_at lx j h1 g1
    obtain ⟨t2, q2⟩ := strValues_at ly j h2 g2
    rw [q1, q2]
  · exact EqAt.str _ _ _ _
  · exact GtAt.str _ _ _ _
end
end Mine
end

section
theorem Mine.rst_MM : True ∧ True := by
  w_top off
  first | (walk1; fail "laid") | exact ⟨trivial, trivial⟩
open PySem PySem.W PyProof.Rows PySem.Calls
set_option linter.unusedVariables false
namespace Mine
section
variable {prog : Program} {w : World} {A : Around} {E : Value → Shared → Prop} {R : Result → Shared → Prop} {s : Shared}
theorem min_loop {items : Array Value} {s₀ : Shared} {I l S : Addr} (hh : A.handled = none) (bt : Nat → Nat → Bool)
    (hcmp : ∀ i j vi vj h' tk, items[i]? = some vi → items[j]? = some vj → s₀.heap.StaysIn h' → LtAt A.in1 { s₀ with heap := h', toks := tk } vi vj (bt i j))
    (nI : s₀.heap.get? I = none) (nS : s₀.heap.get? S = none) (hSI : S ≠ I) (hlI : l ≠ I) (hl : s₀.heap.IsList l items) :
    ∀ (k j : Nat) (h : Heap) (tk : Nat) (vb : Value) (c : Nat), items.size - (j + 1) = k → j + 1 ≤ items.size → h.IsListIter I l (j + 1) → items[argBest bt j]? = some vb → s₀.heap.StaysIn h →
    h.get? S = some (lstO #[vb, vb] c) →
    (∀ v h' tk, items[argBest bt (items.size - 1)]? = some v → s₀.heap.StaysIn h' → R (.ok (.ret v)) { s₀ with heap := h', toks := tk }) →
    codeAny (model prog w) A (.builtin "min.loop" ⟨[.ref I, .none, .ref S], []⟩) R { s₀ with heap := h, toks := tk } := by
  have hname : (toString "min" ++ toString ".loop" : String) = "min.loop" := by decide
  have bI : ∀ b o, s₀.heap.get? b = some o → b ≠ I := fun b o e q => by rw [q, nI] at e; cases e
  have bS : ∀ b o, s₀.heap.get? b = some o → b ≠ S := fun b o e q => by rw [q, nS] at e; cases e
  intro k
  induction k with
  | zero =>
    intro j h tk vb c hk hj hit hPb hst hS hR
    have hin : j + 1 = items.size := by omega
    have hl' : h.IsList l items := by obtain ⟨o, ho, r⟩ := hl; exact ⟨o, hst l o ho, r⟩
    refine codeAny_builtin F.entry_min_loop ?_
    rw [Around.under_plainId F.plain_min_loop _]
    show wpAny _ A.in1 (seqItems? (.ref S) >>= _) _ _ _
    refine wpAny_bind (wpAny_seqItems hS rfl ?_)
    show wpAny _ A.in1 (tryCatch (pyNext (.ref I)) _ >>= _) _ _ _
    refine wpAny_bind (wpAny_tryCatch (wpAny_pyNext_list_end (A := A.in1) hh hit hl' (by simp; omega) fun h' hx => ?_))
    have hS' : h'.get? S = some (lstO #[vb, vb] c) := hx S _ hSI hS
    show wpAny _ A.in1 (updateSeq S (fun _ => #[]) >>= _) _ _ _
    refine wpAny_bind ?_
    refine wpAny_updateSeq hS' rfl (wpAny_bind (wpAny_letGo (wpAny_pure ?_)))
    refine hR vb _ tk (by rw [← hin]; exact hPb) fun b o e => (Heap.get?_update_other _ _ (Ne.symm (bS b o e))).trans (hx b o (bI b o e) (hst b o e))
  | succ k ih =>
    intro j h tk vb c hk hj hit hPb hst hS hR
    have hlt : j + 1 < items.size := by omega
    have hl' : h.IsList l items := by obtain ⟨o, ho, r⟩ := hl; exact ⟨o, hst l o ho, r⟩
    have hv : items[j + 1]? = some items[j + 1] := by simp [hlt]
    refine codeAny_builtin F.entry_min_loop ?_
    rw [Around.under_plainId F.plain_min_loop _]
    show wpAny _ A.in1 (seqItems? (.ref S) >>= _) _ _ _
    refine wpAny_bind (wpAny_seqItems hS rfl ?_)
    show wpAny _ A.in1 (tryCatch (pyNext (.ref I)) _ >>= _) _ _ _
    refine wpAny_bind (wpAny_tryCatch (wpAny_pyNext_list_item hit hl' hv fun h' hit' hsb => ?_))
    have hS' : h'.get? S = some (lstO #[vb, vb] c) := (hsb.2 S hSI).trans hS
    have hst' : s₀.heap.StaysIn h' := fun b o e => (hsb.2 b (bI b o e)).trans (hst b o e)
    show wpAny _ A.in1 (tryCatch (holding [items[j + 1], items[j + 1]] (richCompare .Lt items[j + 1] vb >>= _)) _ >>= _) _ _ _
    refine wpAny_bind (wpAny_tryCatch (wpAny_holding (wpAny_bind (hcmp (j + 1) (argBest bt j) _ vb h' tk hv hPb hst' _ _ _ _ ?_))))
    refine wpAny_bind (wpAny_holding (wpAny_truthy_bool ?_))
    refine wpAny_bind (wpAny_letGo (wpAny_pure ?_))
    cases hb : bt (j + 1) (argBest bt j) with
    | true =>
      simp only [if_true]
      refine wpAny_bind ?_
      refine wpAny_updateSeq hS' rfl (wpAny_bind (wpAny_letGo ?_))
      rw [hname]
      refine wpAny_pure ⟨plainId_quiet F.plain_min_loop _, ih (j + 1) _ tk items[j + 1] _ (by omega) hlt ?_ (by simp only [argBest, hb, if_true]; exact hv) (fun b o e => ?_) (Heap.get?_update_self _ hS' rfl) hR⟩
      · obtain ⟨o, ho, r⟩ := hit'
        exact ⟨o, (Heap.get?_update_other _ _ hSI).trans ho, r⟩
      · exact (Heap.get?_update_other _ _ (Ne.symm (bS b o e))).trans (hst' b o e)
    | false =>
      simp only [Bool.false_eq_true, if_false]
      refine wpAny_bind (wpAny_letGo ?_)
      rw [hname]
      exact wpAny_pure ⟨plainId_quiet F.plain_min_loop _, ih (j + 1) _ tk vb c (by omega) hlt hit' (by simp only [argBest, hb, Bool.false_eq_true, if_false]; exact hPb) hst' hS' hR⟩
theorem call_min_list {items : Array Value} {l : Addr} {Q : Value → Shared → Prop} (hh : A.handled = none) (bt : Nat → Nat → Bool) (hl : s.heap.IsList l items) (hn : 0 < items.size)
    (hcmp : ∀ i j vi vj h' tk, items[i]? = some vi → items[j]? = some vj → s.heap.StaysIn h' → LtAt A.in1 { s with heap := h', toks := tk } vi vj (bt i j))
    (hQ : ∀ v h' tk, items[argBest bt (items.size - 1)]? = some v → s.heap.StaysIn h' → Q v { s with heap := h', toks := tk }) :
    wpAny (model prog w) A (call (.builtin "min") [.ref l]) Q E s := by
  have hname : (toString "min" ++ toString ".loop" : String) = "min.loop" := by decide
  refine call_function_tree F.kind_min F.plain_min F.entry_min (F.args_min1 _) ?_
  show wpAny _ A.in1 (Builtin.Builtins.bindParams "min" ["key", "default"] 0 ⟨[], []⟩ >>= _) _ _ s
  refine wpAny_bind (wpAny_of_eq (show Builtin.Builtins.bindParams "min" ["key", "default"] 0 ⟨[], []⟩ = pure [none, none] from rfl) ?_)
  refine wpAny_bind (wpAny_pure ?_)
  refine wpAny_bind (wpAny_pyIter_list hl ?_)
  refine wpAny_bind (wpAny_newObj_type ?_)
  rw [hname]
  have hlt : l < s.heap.objs.size := by obtain ⟨o, ho, _⟩ := hl; exact Heap.lt_size ho
  have z1 : (s.heap.push (liO l 0)).objs.size = s.heap.objs.size + 1 := Heap.size_push ..
  have nI := none_size s.heap
  have nS : s.heap.get? (s.heap.push (liO l 0)).objs.size = none := none_ge (by rw [z1]; exact Nat.le_succ _)
  have hSI : (s.heap.push (liO l 0)).objs.size ≠ s.heap.objs.size := by rw [z1]; exact Nat.succ_ne_self _
  have hlI : l ≠ s.heap.objs.size := Nat.ne_of_lt hlt
  have st2 : s.heap.StaysIn ((s.heap.push (liO l 0)).push (lstO #[] 0)) := fun b o e => Heap.get?_push_of_some _ (Heap.get?_push_of_some _ e)
  have hit2 : ((s.heap.push (liO l 0)).push (lstO #[] 0)).IsListIter s.heap.objs.size l 0 := ⟨_, Heap.get?_push_of_some _ (Heap.get?_push_size _ rfl), rfl, rfl⟩
  have hS2 : ((s.heap.push (liO l 0)).push (lstO #[] 0)).get? (s.heap.push (liO l 0)).objs.size = some (lstO #[] 0) := Heap.get?_push_size _ rfl
  have bI : ∀ b o, s.heap.get? b = some o → b ≠ s.heap.objs.size := fun b o e q => by rw [q, nI] at e; cases e
  have bS : ∀ b o, s.heap.get? b = some o → b ≠ (s.heap.push (liO l 0)).objs.size := fun b o e q => by rw [q, nS] at e; cases e
  have hl2 : ((s.heap.push (liO l 0)).push (lstO #[] 0)).IsList l items := by obtain ⟨o, ho, r⟩ := hl; exact ⟨o, st2 l o ho, r⟩
  have hv : items[0]? = some items[0] := by simp [hn]
  refine wpAny_pure ⟨plainId_quiet F.plain_min_loop _, ?_⟩
  refine codeAny_builtin F.entry_min_loop ?_
  rw [Around.under_plainId F.plain_min_loop _]
  show wpAny _ A.in1 (seqItems? (.ref (s.heap.push (liO l 0)).objs.size) >>= _) _ _ _
  refine wpAny_bind (wpAny_seqItems hS2 rfl ?_)
  show wpAny _ A.in1 (tryCatch (pyNext (.ref s.heap.objs.size)) _ >>= _) _ _ _
  refine wpAny_bind (wpAny_tryCatch (wpAny_pyNext_list_item hit2 hl2 hv fun h' hit' hsb => ?_))
  have hS' : h'.get? (s.heap.push (liO l 0)).objs.size = some (lstO #[] 0) := (hsb.2 _ hSI).trans hS2
  show wpAny _ A.in1 (updateSeq (s.heap.push (liO l 0)).objs.size (fun _ => #[items[0], items[0]]) >>= _) _ _ _
  refine wpAny_bind ?_
  refine wpAny_updateSeq hS' rfl ?_
  rw [hname]
  refine wpAny_pure ⟨plainId_quiet F.plain_min_loop _, min_loop (s₀ := s) hh bt hcmp nI nS hSI hlI hl _ 0 _ s.toks items[0] _ rfl hn ?_ hv (fun b o e => ?_) (Heap.get?_update_self _ hS' rfl) fun v h'' tk hP hk => hQ v h'' tk hP hk⟩
  · obtain ⟨o, ho, r⟩ := hit'
    exact ⟨o, (Heap.get?_update_other _ _ hSI).trans ho, r⟩
  · exact (Heap.get?_update_other _ _ (Ne.symm (bS b o e))).trans ((hsb.2 b (bI b o e)).trans (st2 b o e))
theorem max_loop {items : Array Value} {s₀ : Shared} {I l S : Addr} (hh : A.handled = none) (bt : Nat → Nat → Bool)
    (hcmp : ∀ i j vi vj h' tk, items[i]? = some vi → items[j]? = some vj → s₀.heap.StaysIn h' → GtAt A.in1 { s₀ with heap := h', toks := tk } vi vj (bt i j))
    (nI : s₀.heap.get? I = none) (nS : s₀.heap.get? S = none) (hSI : S ≠ I) (hlI : l ≠ I) (hl : s₀.heap.IsList l items) :
    ∀ (k j : Nat) (h : Heap) (tk : Nat) (vb : Value) (c : Nat), items.size - (j + 1) = k → j + 1 ≤ items.size → h.IsListIter I l (j + 1) → items[argBest bt j]? = some vb → s₀.heap.StaysIn h →
    h.get? S = some (lstO #[vb, vb] c) →
    (∀ v h' tk, items[argBest bt (items.size - 1)]? = some v → s₀.heap.StaysIn h' → R (.ok (.ret v)) { s₀ with heap := h', toks := tk }) →
    codeAny (model prog w) A (.builtin "max.loop" ⟨[.ref I, .none, .ref S], []⟩) R { s₀ with heap := h, toks := tk } := by
  have hname : (toString "max" ++ toString ".loop" : String) = "max.loop" := by decide
  have bI : ∀ b o, s₀.heap.get? b = some o → b ≠ I := fun b o e q => by rw [q, nI] at e; cases e
  have bS : ∀ b o, s₀.heap.get? b = some o → b ≠ S := fun b o e q => by rw [q, nS] at e; cases e
  intro k
  induction k with
  | zero =>
    intro j h tk vb c hk hj hit hPb hst hS hR
    have hin : j + 1 = items.size := by omega
    have hl' : h.IsList l items := by obtain ⟨o, ho, r⟩ := hl; exact ⟨o, hst l o ho, r⟩
    refine codeAny_builtin F.entry_max_loop ?_
    rw [Around.under_plainId F.plain_max_loop _]
    show wpAny _ A.in1 (seqItems? (.ref S) >>= _) _ _ _
    refine wpAny_bind (wpAny_seqItems hS rfl ?_)
    show wpAny _ A.in1 (tryCatch (pyNext (.ref I)) _ >>= _) _ _ _
    refine wpAny_bind (wpAny_tryCatch (wpAny_pyNext_list_end (A := A.in1) hh hit hl' (by simp; omega) fun h' hx => ?_))
    have hS' : h'.get? S = some (lstO #[vb, vb] c) := hx S _ hSI hS
    show wpAny _ A.in1 (updateSeq S (fun _ => #[]) >>= _) _ _ _
    refine wpAny_bind ?_
    refine wpAny_updateSeq hS' rfl (wpAny_bind (wpAny_letGo (wpAny_pure ?_)))
    refine hR vb _ tk (by rw [← hin]; exact hPb) fun b o e => (Heap.get?_update_other _ _ (Ne.symm (bS b o e))).trans (hx b o (bI b o e) (hst b o e))
  | succ k ih =>
    intro j h tk vb c hk hj hit hPb hst hS hR
    have hlt : j + 1 < items.size := by omega
    have hl' : h.IsList l items := by obtain ⟨o, ho, r⟩ := hl; exact ⟨o, hst l o ho, r⟩
    have hv : items[j + 1]? = some items[j + 1] := by simp [hlt]
    refine codeAny_builtin F.entry_max_loop ?_
    rw [Around.under_plainId F.plain_max_loop _]
    show wpAny _ A.in1 (seqItems? (.ref S) >>= _) _ _ _
    refine wpAny_bind (wpAny_seqItems hS rfl ?_)
    show wpAny _ A.in1 (tryCatch (pyNext (.ref I)) _ >>= _) _ _ _
    refine wpAny_bind (wpAny_tryCatch (wpAny_pyNext_list_item hit hl' hv fun h' hit' hsb => ?_))
    have hS' : h'.get? S = some (lstO #[vb, vb] c) := (hsb.2 S hSI).trans hS
    have hst' : s₀.heap.StaysIn h' := fun b o e => (hsb.2 b (bI b o e)).trans (hst b o e)
    show wpAny _ A.in1 (tryCatch (holding [items[j + 1], items[j + 1]] (richCompare .Gt items[j + 1] vb >>= _)) _ >>= _) _ _ _
    refine wpAny_bind (wpAny_tryCatch (wpAny_holding (wpAny_bind (hcmp (j + 1) (argBest bt j) _ vb h' tk hv hPb hst' _ _ _ _ ?_))))
    refine wpAny_bind (wpAny_holding (wpAny_truthy_bool ?_))
    refine wpAny_bind (wpAny_letGo (wpAny_pure ?_))
    cases hb : bt (j + 1) (argBest bt j) with
    | true =>
      simp only [if_true]
      refine wpAny_bind ?_
      refine wpAny_updateSeq hS' rfl (wpAny_bind (wpAny_letGo ?_))
      rw [hname]
      refine wpAny_pure ⟨plainId_quiet F.plain_max_loop _, ih (j + 1) _ tk items[j + 1] _ (by omega) hlt ?_ (by simp only [argBest, hb, if_true]; exact hv) (fun b o e => ?_) (Heap.get?_update_self _ hS' rfl) hR⟩
      · obtain ⟨o, ho, r⟩ := hit'
        exact ⟨o, (Heap.get?_update_other _ _ hSI).trans ho, r⟩
      · exact (Heap.get?_update_other _ _ (Ne.symm (bS b o e))).trans (hst' b o e)
    | false =>
      simp only [Bool.false_eq_true, if_false]
      refine wpAny_bind (wpAny_letGo ?_)
      rw [hname]
      exact wpAny_pure ⟨plainId_quiet F.plain_max_loop _, ih (j + 1) _ tk vb c (by omega) hlt hit' (by simp only [argBest, hb, Bool.false_eq_true, if_false]; exact hPb) hst' hS' hR⟩
theorem call_max_list {items : Array Value} {l : Addr} {Q : Value → Shared → Prop} (hh : A.handled = none) (bt : Nat → Nat → Bool) (hl : s.heap.IsList l items) (hn : 0 < items.size)
    (hcmp : ∀ i j vi vj h' tk, items[i]? = some vi → items[j]? = some vj → s.heap.StaysIn h' → GtAt A.in1 { s with heap := h', toks := tk } vi vj (bt i j))
    (hQ : ∀ v h' tk, items[argBest bt (items.size - 1)]? = some v → s.heap.StaysIn h' → Q v { s with heap := h', toks := tk }) :
    wpAny (model prog w) A (call (.builtin "max") [.ref l]) Q E s := by
  have hname : (toString "max" ++ toString ".loop" : String) = "max.loop" := by decide
  refine call_function_tree F.kind_max F.plain_max F.entry_max (F.args_max1 _) ?_
  show wpAny _ A.in1 (Builtin.Builtins.bindParams "max" ["key", "default"] 0 ⟨[], []⟩ >>= _) _ _ s
  refine wpAny_bind (wpAny_of_eq (show Builtin.Builtins.bindParams "max" ["key", "default"] 0 ⟨[], []⟩ = pure [none, none] from rfl) ?_)
  refine wpAny_bind (wpAny_pure ?_)
  refine wpAny_bind (wpAny_pyIter_list hl ?_)
  refine wpAny_bind (wpAny_newObj_type ?_)
  rw [hname]
  have hlt : l < s.heap.objs.size := by obtain ⟨o, ho, _⟩ := hl; exact Heap.lt_size ho
  have z1 : (s.heap.push (liO l 0)).objs.size = s.heap.objs.size + 1 := Heap.size_push ..
  have nI := none_size s.heap
  have nS : s.heap.get? (s.heap.push (liO l 0)).objs.size = none := none_ge (by rw [z1]; exact Nat.le_succ _)
  have hSI : (s.heap.push (liO l 0)).objs.size ≠ s.heap.objs.size := by rw [z1]; exact Nat.succ_ne_self _
  have hlI : l ≠ s.heap.objs.size := Nat.ne_of_lt hlt
  have st2 : s.heap.StaysIn ((s.heap.push (liO l 0)).push (lstO #[] 0)) := fun b o e => Heap.get?_push_of_some _ (Heap.get?_push_of_some _ e)
  have hit2 : ((s.heap.push (liO l 0)).push (lstO #[] 0)).IsListIter s.heap.objs.size l 0 := ⟨_, Heap.get?_push_of_some _ (Heap.get?_push_size _ rfl), rfl, rfl⟩
  have hS2 : ((s.heap.push (liO l 0)).push (lstO #[] 0)).get? (s.heap.push (liO l 0)).objs.size = some (lstO #[] 0) := Heap.get?_push_size _ rfl
  have bI : ∀ b o, s.heap.get? b = some o → b ≠ s.heap.objs.size := fun b o e q => by rw [q, nI] at e; cases e
  have bS : ∀ b o, s.heap.get? b = some o → b ≠ (s.heap.push (liO l 0)).objs.size := fun b o e q => by rw [q, nS] at e; cases e
  have hl2 : ((s.heap.push (liO l 0)).push (lstO #[] 0)).IsList l items := by obtain ⟨o, ho, r⟩ := hl; exact ⟨o, st2 l o ho, r⟩
  have hv : items[0]? = some items[0] := by simp [hn]
  refine wpAny_pure ⟨plainId_quiet F.plain_max_loop _, ?_⟩
  refine codeAny_builtin F.entry_max_loop ?_
  rw [Around.under_plainId F.plain_max_loop _]
  show wpAny _ A.in1 (seqItems? (.ref (s.heap.push (liO l 0)).objs.size) >>= _) _ _ _
  refine wpAny_bind (wpAny_seqItems hS2 rfl ?_)
  show wpAny _ A.in1 (tryCatch (pyNext (.ref s.heap.objs.size)) _ >>= _) _ _ _
  refine wpAny_bind (wpAny_tryCatch (wpAny_pyNext_list_item hit2 hl2 hv fun h' hit' hsb => ?_))
  have hS' : h'.get? (s.heap.push (liO l 0)).objs.size = some (lstO #[] 0) := (hsb.2 _ hSI).trans hS2
  show wpAny _ A.in1 (updateSeq (s.heap.push (liO l 0)).objs.size (fun _ => #[items[0], items[0]]) >>= _) _ _ _
  refine wpAny_bind ?_
  refine wpAny_updateSeq hS' rfl ?_
  rw [hname]
  refine wpAny_pure ⟨plainId_quiet F.plain_max_loop _, max_loop (s₀ := s) hh bt hcmp nI nS hSI hlI hl _ 0 _ s.toks items[0] _ rfl hn ?_ hv (fun b o e => ?_) (Heap.get?_update_self _ hS' rfl) fun v h'' tk hP hk => hQ v h'' tk hP hk⟩
  · obtain ⟨o, ho, r⟩ := hit'
    exact ⟨o, (Heap.get?_update_other _ _ hSI).trans ho, r⟩
  · exact (Heap.get?_update_other _ _ (Ne.symm (bS b o e))).trans ((hsb.2 b (bI b o e)).trans (st2 b o e))
end
end Mine
end

section
theorem Mine.rst_ST : True ∧ True := by
  w_top off
  first | (walk1; fail "laid") | exact ⟨trivial, trivial⟩
open PySem PySem.W PyProof.Rows PySem.Calls
set_option linter.unusedVariables false
namespace Mine
noncomputable def hb (b : Bool) : Int := if b then 1 else 0
noncomputable def hn (b : Bool) : Nat := if b then 1 else 0
noncomputable abbrev setO0 (led : Bool) : Obj := { cls := .type "set", data := .set #[] 0 (SetTable.fresh 0 0 led) }
noncomputable abbrev tab1 (led b : Bool) : SetTable := { mask := 7, place := #[hn b], dummies := #[], finger := 0, led := led, moves := 0, plain := true }
noncomputable abbrev setO1 (led b : Bool) : Obj := { cls := .type "set", data := .set #[(hb b, .bool b)] 1 (tab1 led b) }
theorem lay1 (led b : Bool) : layNew (SetTable.fresh 0 0 led) #[] (hb b) (.bool b) = (#[(hb b, .bool b)], tab1 led b, false, false) := by
  cases led <;> cases b <;> rfl
section
variable {prog : Program} {w : World} {A : Around} {E : Value → Shared → Prop} {s : Shared}
theorem hash_bool {b : Bool} {Q : Int → Shared → Prop} (hu : A.units < cLine) (h : ∀ tk, Q (hb b) { s with toks := tk }) : wpAny (model prog w) A (pyHash (.bool b)) Q E s := by
  refine pyHash_laid (.bool b) (.bool b) A s Q rfl ?_ (by have : (WData.bool b).depth = 0 := by first | rfl | simp [WData.depth]
                                                          lia) ?_
  · constructor
  · intro tk
    have e : hashW w.params (.bool b) = hb b := by cases b <;> rfl
    rw [e]; exact h tk
theorem setState_of {S : Addr} {o : Obj} {es : Array (Int × Value)} {n : Nat} {t : SetTable} {Q : (Array (Int × Value) × Nat × SetTable) → Shared → Prop} (hS : s.heap.get? S = some o) (hd : o.data = .set es n t)
    (hok : (t.place.size != es.size || decide (t.fill > t.mask)) = false) (h : Q (es, n, t) s) : wpAny (model prog w) A (setState S) Q E s := by
  unfold setState
  refine wpAny_bind (wpAny_load hS ?_)
  rw [hd]
  dsimp only
  rw [if_neg (by rw [hok]; exact Bool.false_ne_true)]
  exact wpAny_pure h
theorem storeSet_of {S : Addr} {o : Obj} {es es' : Array (Int × Value)} {n : Nat} {t t' : SetTable} {Q : Unit → Shared → Prop} (hS : s.heap.get? S = some o) (hd : o.data = .set es n t) (hz : es'.size ≤ 1000)
    (h : Q () { s with heap := s.heap.update S (Obj.putSet es' t') }) : wpAny (model prog w) A (storeSet S es' t') Q E s := by
  unfold storeSet
  refine wpAny_bind (wpAny_load hS ?_)
  rw [hd]
  dsimp only
  rw [if_neg (by unfold sizeLine; lia)]
  obtain ⟨hp, g, d, tk, os⟩ := s
  exact wpAny_update hS h
theorem eqBool_bool {b : Bool} {Q : Bool → Shared → Prop} (h : Q true s) : wpAny (model prog w) A (eqBool (.bool b) (.bool b)) Q E s := PySem.SeqAt.EqAt.same (A := A) (s := s) (.bool b) prog w E Q h
theorem set_add_first {S : Addr} {led b : Bool} {Q : Value → Shared → Prop} (hu : A.units + 2 < cLine) (hS : s.heap.get? S = some (setO0 led))
    (h : ∀ h' tk, h'.get? S = some (setO1 led b) → Heap.SameBut S s.heap h' → Q .none { s with heap := h', toks := tk }) :
    wpAny (model prog w) A (call (.builtin "set.add") [.ref S, .bool b]) Q E s := by
  refine wpAny_call_entry F.slot_set_add ⟨_, hS, rfl⟩ F.entry_set_add ?_ (F.args_set_add_2 _ _)
  unfold Builtin.«set.add»
  show wpAny _ _ (setAdd S (.bool b) >>= fun _ => ret .none) _ _ s
  refine wpAny_bind ?_
  unfold setAdd
  refine wpAny_holding (wpAny_bind (hash_bool (A := A.in1) (by show A.units + 1 < cLine; lia) fun tk => ?_))
  unfold setAddHashed
  refine wpAny_holding ?_
  show wpAny _ _ (setAddHashedIn S (.bool b) (hb b) (99999 + 1)) _ _ _
  rw [setAddHashedIn]
  refine wpAny_bind (setState_of (s := { s with toks := tk }) hS rfl rfl ?_)
  dsimp only
  rw [if_pos (by simp [byScan, Value.scannable, scanBound])]
  refine wpAny_bind ?_
  unfold setAddByScan
  refine wpAny_bind (wpAny_rule ?_)
  show wpAny _ _ ((pure ScanMet.absent : Sem ScanMet) >>= _) _ _ _
  refine wpAny_bind (wpAny_pure ?_)
  dsimp only
  rw [lay1]
  dsimp only
  refine wpAny_bind (wpAny_pure ?_)
  refine wpAny_bind (wpAny_pure ?_)
  rw [if_pos rfl]
  refine wpAny_bind (storeSet_of (s := { s with toks := tk }) hS rfl (by simp) ?_)
  rw [if_neg (by cases led <;> cases b <;> decide)]
  refine wpAny_pure ?_
  dsimp only
  refine wpAny_pure ?_
  refine wpAny_pure ⟨_, rfl, h _ tk ?_ (Heap.SameBut.update ..)⟩
  exact Heap.get?_update_self _ hS rfl
theorem set_add_again {S : Addr} {led b : Bool} {Q : Value → Shared → Prop} (hu : A.units + 2 < cLine) (hS : s.heap.get? S = some (setO1 led b))
    (h : ∀ tk, Q .none { s with toks := tk }) :
    wpAny (model prog w) A (call (.builtin "set.add") [.ref S, .bool b]) Q E s := by
  refine wpAny_call_entry F.slot_set_add ⟨_, hS, rfl⟩ F.entry_set_add ?_ (F.args_set_add_2 _ _)
  unfold Builtin.«set.add»
  show wpAny _ _ (setAdd S (.bool b) >>= fun _ => ret .none) _ _ s
  refine wpAny_bind ?_
  unfold setAdd
  refine wpAny_holding (wpAny_bind (hash_bool (A := A.in1) (by show A.units + 1 < cLine; lia) fun tk => ?_))
  unfold setAddHashed
  refine wpAny_holding ?_
  show wpAny _ _ (setAddHashedIn S (.bool b) (hb b) (99999 + 1)) _ _ _
  rw [setAddHashedIn]
  refine wpAny_bind (setState_of (s := { s with toks := tk }) hS rfl (by cases led <;> cases b <;> decide) ?_)
  dsimp only
  rw [if_pos (by simp [byScan, Value.scannable, scanBound])]
  refine wpAny_bind ?_
  unfold setAddByScan
  refine wpAny_bind (wpAny_rule ?_)
  show wpAny _ _ (setScanFrom S (.bool b) (hb b) true [(hb b, .bool b)] 0 >>= _) _ _ _
  refine wpAny_bind ?_
  rw [setScanFrom]
  rw [if_pos (by simp)]
  refine wpAny_bind ?_
  unfold setEpoch
  refine wpAny_bind (setState_of (s := { s with toks := tk }) hS rfl (by cases led <;> cases b <;> decide) (wpAny_pure ?_))
  refine wpAny_bind (eqBool_bool ?_)
  rw [if_pos rfl]
  refine wpAny_pure ?_
  dsimp only
  refine wpAny_pure ?_
  dsimp only
  refine wpAny_pure ?_
  exact wpAny_pure ⟨_, rfl, h tk⟩
end
end Mine
end

section
theorem Mine.rst_ST2 : True ∧ True := by
  w_top off
  first | (walk1; fail "laid") | exact ⟨trivial, trivial⟩
open PySem PySem.W PyProof.Rows PySem.Calls
open AutoSeq1 (wpAny_loadPart')
set_option linter.unusedVariables false
namespace Mine
theorem entry_set_iter : entryFor table "set.__iter__" = some Builtin.«frozenset.__iter__» :=
  entryFor_alias (id' := "frozenset.__iter__") (by kernel_rfl) (by first | rfl | decide +kernel | (unfold String.splitOn; simp +decide [String.splitOnAux])) (by decide +kernel) (by kernel_rfl)
theorem slot_setit_next : Slot "set_iterator" "__next__" "set_iterator.__next__" :=
  .of (owner := "set_iterator") (n := "__next__") (by rw [typeLookup_type, builtinLookup_eq_fast]; kernel_rfl) (by decide +kernel) (by decide +kernel) (by decide +kernel)
    (by first | exact .inl (by decide +kernel) | exact .inr (by decide +kernel)) (by rw [isSubtype_type]; kernel_rfl)
theorem entry_setit_next : entryFor table "set_iterator.__next__" = some Builtin.«set_iterator.__next__» := entryFor_of_tree (by kernel_rfl)
theorem args_setit_next (a : Value) : argsOk "set_iterator.__next__" ⟨[a], []⟩ := by unfold argsOk; kernel_rfl
theorem args_set_iter1 (a : Value) : argsOk "set.__iter__" ⟨[a], []⟩ := by unfold argsOk; kernel_rfl
noncomputable abbrev setIt (a b : Nat) (S : Value) : Obj := { cls := .type "set_iterator", data := .fields #[rawInt a, rawInt b, S, rawInt 1, rawInt 1] }
theorem pick1 {α : Type} (f : Nat → Nat) (x : α) : pickOrder f #[x] = #[x] := by
  show pickOrder.go f 1 0 [x] #[] = #[x]
  rw [pickOrder.go]
  simp [Nat.mod_one, pickOrder.go]
section
variable {prog : Program} {w : World} {A : Around} {E : Value → Shared → Prop} {s : Shared}
theorem setsByText_of {x : Bool} {Q : Bool → Shared → Prop} (hft : w.params.followText "set-order" = x) (h : Q x s) : wpAny (model prog w) A setsByText Q E s := by
  unfold setsByText
  refine wpAny_bind (wpAny_askSetting (wpAny_pure ?_))
  have : (model prog w).w.params.followText "set-order" = x := hft
  rw [this]; exact h
theorem pyIter_set1 {S : Addr} {led b : Bool} {Q : Value → Shared → Prop} (hS : s.heap.get? S = some (setO1 led b))
    (h : Q (.ref s.heap.objs.size) { s with heap := s.heap.push (setIt 0 0 (.ref S)) }) : wpAny (model prog w) A (pyIter (.ref S)) Q E s := by
  have hT : s.TypeIs (.ref S) "set" := ⟨_, hS, rfl⟩
  have hok : ((tab1 led b).place.size != (#[(hb b, Value.bool b)] : Array (Int × Value)).size || decide ((tab1 led b).fill > (tab1 led b).mask)) = false := by cases led <;> cases b <;> decide
  refine wpAny_pyIter_slot hT F.slot_set_iter (wpAny_call_entry F.slot_set_iter hT entry_set_iter ?_ (args_set_iter1 _))
  unfold Builtin.«frozenset.__iter__»
  obtain ⟨hp, g, d, tk, os⟩ := s
  cases hft : w.params.followText "set-order"
  all_goals
    wp_walk using setState_of hS rfl hok, setsByText_of hft
    exact ⟨_, rfl, "set_iterator", _, ⟨_, Heap.get?_push_size _ rfl, rfl⟩, slot_setit_next.lookup, h⟩
theorem next_set1 {S I : Addr} {b : Bool} {Q : Option Value → Shared → Prop} (hS : s.heap.get? S = some (setO1 (!w.params.followText "set-order") b)) (hI : s.heap.get? I = some (setIt 0 0 (.ref S)))
    (h : ∀ h' k, h'.get? I = some (setIt k 1 (.ref S)) → (w.params.followText "set-order" = false → k = hn b + 1) → Heap.SameBut I s.heap h' → Q (some (.bool b)) { s with heap := h' }) : wpAny (model prog w) A (pyNext (.ref I)) Q E s := by
  have hT : s.TypeIs (.ref I) "set_iterator" := ⟨_, hI, rfl⟩
  unfold pyNext
  refine wpAny_bind (wpAny_attempt (wpAny_callSpecial?_slot (name := Str.ofString "__next__") hT slot_setit_next (wpAny_call_entry slot_setit_next hT entry_setit_next ?_ (args_setit_next _))))
  obtain ⟨hp, g, d, tk, os⟩ := s
  cases hft : w.params.followText "set-order"
  · rw [hft] at hS
    have hok : ((tab1 true b).place.size != (#[(hb b, Value.bool b)] : Array (Int × Value)).size || decide ((tab1 true b).fill > (tab1 true b).mask)) = false := by cases b <;> decide
    unfold Builtin.«set_iterator.__next__»
    wp_walk using setState_of hS rfl hok, setsByText_of hft
    refine ⟨_, rfl, wpAny_pure (h _ (hn b + 1) ?_ (fun _ => rfl) ((Heap.SameBut.update ..).trans (Heap.SameBut.update ..)))⟩
    refine (Heap.get?_update_self _ (Heap.get?_update_self _ hI rfl) rfl).trans ?_
    cases b <;> rfl
  · rw [hft] at hS
    have hok : ((tab1 false b).place.size != (#[(hb b, Value.bool b)] : Array (Int × Value)).size || decide ((tab1 false b).fill > (tab1 false b).mask)) = false := by cases b <;> decide
    unfold Builtin.«set_iterator.__next__»
    wp_walk using setState_of hS rfl hok, setsByText_of hft
    refine wpAny_askSetting ?_
    dsimp only
    rw [pick1]
    wp_walk
    refine ⟨_, rfl, wpAny_pure (h _ 0 ?_ (fun q => by rw [hft] at q; cases q) ((Heap.SameBut.update ..).trans (Heap.SameBut.update ..)))⟩
    refine (Heap.get?_update_self _ (Heap.get?_update_self _ hI rfl) rfl).trans ?_
    cases b <;> rfl
theorem next_set1_end {S I : Addr} {b : Bool} {k : Nat} {Q : Option Value → Shared → Prop} (hh : A.handled = none) (hS : s.heap.get? S = some (setO1 (!w.params.followText "set-order") b)) (hI : s.heap.get? I = some (setIt k 1 (.ref S)))
    (hk : w.params.followText "set-order" = false → k = hn b + 1)
    (h : ∀ h', Heap.ExtBut I s.heap h' → Q none { s with heap := h' }) : wpAny (model prog w) A (pyNext (.ref I)) Q E s := by
  have hT : s.TypeIs (.ref I) "set_iterator" := ⟨_, hI, rfl⟩
  unfold pyNext
  refine wpAny_bind (wpAny_attempt (wpAny_callSpecial?_slot (name := Str.ofString "__next__") hT slot_setit_next (wpAny_call_entry slot_setit_next hT entry_setit_next ?_ (args_setit_next _))))
  obtain ⟨hp, g, d, tk, os⟩ := s
  have hh1 : A.in1.handled = none := hh
  cases hft : w.params.followText "set-order"
  · rw [hft] at hS
    have hk' := hk hft
    subst hk'
    have hok : ((tab1 true b).place.size != (#[(hb b, Value.bool b)] : Array (Int × Value)).size || decide ((tab1 true b).fill > (tab1 true b).mask)) = false := by cases b <;> decide
    cases b
    all_goals
      unfold Builtin.«set_iterator.__next__»
      wp_walk using setState_of hS rfl hok, setsByText_of hft
      simp only [raiseNew]
      refine wpAny_bind (wpAny_handled ?_)
      rw [hh1]
      refine wpAny_bind (wpAny_pure (wpAny_throw ?_))
      refine wpAny_bind (wpAny_isInstance (T := "StopIteration") (b := true) ⟨_, Heap.get?_push_size _ rfl, rfl⟩ isSubtype_stop ?_)
      exact wpAny_pure (h _ (((Heap.SameBut.update ..).extBut.push _).push _))
  · rw [hft] at hS
    have hok : ((tab1 false b).place.size != (#[(hb b, Value.bool b)] : Array (Int × Value)).size || decide ((tab1 false b).fill > (tab1 false b).mask)) = false := by cases b <;> decide
    unfold Builtin.«set_iterator.__next__»
    wp_walk using setState_of hS rfl hok, setsByText_of hft
    · refine wpAny_askSetting ?_
      dsimp only
      rw [pick1]
      wp_walk
      simp only [raiseNew]
      refine wpAny_bind (wpAny_handled ?_)
      rw [hh1]
      refine wpAny_bind (wpAny_pure (wpAny_throw ?_))
      refine wpAny_bind (wpAny_isInstance (T := "StopIteration") (b := true) ⟨_, Heap.get?_push_size _ rfl, rfl⟩ isSubtype_stop ?_)
      exact wpAny_pure (h _ (((Heap.SameBut.update ..).extBut.push _).push _))
theorem unpack_set1 {S : Addr} {b : Bool} {Q : List Value → Shared → Prop} (hh : A.handled = none) (hS : s.heap.get? S = some (setO1 (!w.params.followText "set-order") b))
    (h : ∀ h', s.heap.StaysIn h' → Q [.bool b] { s with heap := h' }) : wpAny (model prog w) A (unpackItems (.ref S) 1 none) Q E s := by
  have hT : s.TypeIs (.ref S) "set" := ⟨_, hS, rfl⟩
  unfold unpackItems
  refine wpAny_bind ?_
  unfold notIterableAtAll
  refine wpAny_bind (wpAny_specialOf hT F.slot_set_iter.lookup ?_)
  refine wpAny_pure ?_
  simp only [Bool.false_eq_true, if_false]
  refine wpAny_bind (wpAny_holding (pyIter_set1 hS ?_))
  have hS1 : (s.heap.push (setIt 0 0 (.ref S))).get? S = some (setO1 (!w.params.followText "set-order") b) := Heap.get?_push_of_some _ hS
  have hI1 : (s.heap.push (setIt 0 0 (.ref S))).get? s.heap.objs.size = some (setIt 0 0 (.ref S)) := Heap.get?_push_size _ rfl
  have hSI : S ≠ s.heap.objs.size := Nat.ne_of_lt (Heap.lt_size hS)
  refine wpAny_bind (wpAny_holding ?_)
  show wpAny _ _ (pyNext (.ref s.heap.objs.size) >>= _) _ _ _
  refine wpAny_bind (next_set1 hS1 hI1 fun h2 k hI2 hk hsb => ?_)
  refine wpAny_bind (wpAny_holding (wpAny_pure ?_))
  refine wpAny_pure ?_
  rw [if_neg (by simp)]
  refine wpAny_bind (wpAny_holding (next_set1_end hh ((hsb.2 S hSI).trans hS1) hI2 hk fun h3 hx => ?_))
  simp only [Option.isSome_none, Bool.false_eq_true, if_false]
  refine wpAny_pure (h h3 fun c o e => ?_)
  have hc : c ≠ s.heap.objs.size := Nat.ne_of_lt (Heap.lt_size e)
  exact hx c o hc ((hsb.2 c hc).trans (Heap.get?_push_of_some _ e))
end
end Mine
end

section
theorem Mine.rst_SC : True ∧ True := by
  w_top off
  first | (walk1; fail "laid") | exact ⟨trivial, trivial⟩
open PySem PySem.W PyProof.Rows PySem.Calls
set_option linter.unusedVariables false
namespace Mine
theorem compTurn_set (elt target iter : Expr) (scope : Scope) (pos : Pos) (it acc : Value) (env : Env) :
    compTurn (.SetComp elt [⟨target, iter, [], 0⟩] scope pos) 0 it acc env = (standAt iter.pos >>= fun _ => pyNext it >>= fun r => match r with
      | none => pure (.done .next)
      | some v => letOwnedTupleGo target it v >>= fun _ => assign target env v >>= fun _ =>
        (eval elt env >>= fun x => standAt elt.pos >>= fun _ => call (.builtin "set.add") [acc, x] >>= fun _ => pure ()) >>= fun _ =>
          again (.compLoop (.SetComp elt [⟨target, iter, [], 0⟩] scope pos) 0 it acc env)) := by rfl
section
variable {prog : Program} {w : World} {A : Around} {E : Value → Shared → Prop} {R : Result → Shared → Prop} {s : Shared}
theorem compStart_set {elt target iter : Expr} {scope : Scope} {pos : Pos} {it acc : Value} {env : Env}
    (h0 : codeAny (model prog w) A (.compLoop (.SetComp elt [⟨target, iter, [], 0⟩] scope pos) 0 it acc env) R s)
    (h : wpAny (model prog w) A (pyIter it) (fun it' s' => codeAny (model prog w) A (.compLoop (.SetComp elt [⟨target, iter, [], 0⟩] scope pos) 0 it' acc env) R s')
      (notedBy (model prog w) A env fun x s' => R (.error x) s') s) :
    codeAny (model prog w) A (.compStart (.SetComp elt [⟨target, iter, [], 0⟩] scope pos) 0 it acc env) R s := by
  refine codeAny_of_tree ?_
  show wpAny _ _ ((compStart (.SetComp elt [⟨target, iter, [], 0⟩] scope pos) 0 it acc env).onRaise (fun x => do noteFrame x env; standAt theWindowsPlace)) _ _ s
  refine wpAny_notedAt ?_
  unfold compStart
  show wpAny _ _ (ask >>= _) _ _ s
  refine wpAny_bind (wpAny_askSetting (wpAny_ite ?_))
  split
  · first
      | exact wpAny_bind (wpAny_pure (wpAny_pure (And.intro rfl h0)))
      | exact wpAny_pure (And.intro rfl h0)
  · first
      | exact wpAny_bind (wpAny_rule (wpAny_bind (wpAny_standAt (wpAny_bind (wpAny_mono h (fun it' s' h' => wpAny_pure (And.intro rfl h')) fun _ _ x => x)))))
      | (refine wpAny_bind (wpAny_rule ?_); show wpAny _ _ (standAt iter.pos >>= _) _ _ s; exact wpAny_bind (wpAny_standAt (wpAny_bind (wpAny_mono h (fun it' s' h' => wpAny_pure (And.intro rfl h')) fun _ _ x => x))))
noncomputable def setAt (led b : Bool) (k : Nat) : Obj := if k = 0 then setO0 led else setO1 led b
theorem setAt_cls (led b : Bool) (k : Nat) : (setAt led b k).cls = .type "set" := by unfold setAt; split <;> rfl
inductive SJ (s : Shared) (C D : Addr) (n : Nat) (St : Nat → Heap → Prop) (led b : Bool) (k : Nat) (s' : Shared) : Prop
  | mk : ∀ h' tk m' j, s' = { s with heap := h', toks := tk } → St j h' → h'.get? D = some (setAt led b j) → h'.Ns C m' → j ≤ n → k = n + 1 - j → s.heap.StaysIn h' → SJ s C D n St led b k s'
theorem setcomp_loop {elt iter : Expr} {x : Str} {px : Pos} {scope : Scope} {pos : Pos} {I D : Addr} {fp : List Addr} {n : Nat} {P : Nat → Value → Prop} {St : Nat → Heap → Prop}
    {cenv : Env} {m : Str → Option Value} {led b : Bool} {h₁ : Heap} {tk₁ : Nat} {hid : List Addr}
    (W : Walks prog w A I fp [I] n P St) (hu : A.units + 2 < cLine)
    (hx : cenv.kindOf x = some .local) (hp : (cenv.scope.kind == .class || (cenv.scope.kind == .module && cenv.locals != cenv.globals)) = false)
    (hDC : D ≠ cenv.locals) (hDf : D ∉ fp) (hCf : cenv.locals ∉ fp) (nI : s.heap.get? I = none) (nD : s.heap.get? D = none) (nC : s.heap.get? cenv.locals = none)
    (hIl : ∀ i h, St i h → ∃ o, h.get? I = some o) (T : Turn prog w A cenv x [] elt s I D hid P (fun _ => true) (fun _ _ y => y = .bool b))
    (hst : St 0 h₁) (hacc : h₁.get? D = some (setO0 led)) (hns : h₁.Ns cenv.locals m) (hs : s.heap.StaysIn h₁)
    (hR : ∀ h' tk m', h'.Ns cenv.locals m' → h'.get? D = some (setAt led b n) → s.heap.StaysIn h' → R (.ok .next) { s with heap := h', toks := tk }) :
    codeAny (model prog w) A (.compLoop (.SetComp elt [⟨.Name x px, iter, [], 0⟩] scope pos) 0 (.ref I) (.ref D) cenv) R { s with heap := h₁, toks := tk₁ } := by
  have hIf : I ∈ fp := W.sub I (by simp)
  have hCI : cenv.locals ≠ I := fun e => hCf (e ▸ hIf)
  have hDI : D ≠ I := fun e => hDf (e ▸ hIf)
  have bI : ∀ b o, s.heap.get? b = some o → b ≠ I := fun b o e q => by rw [q, nI] at e; cases e
  have bD : ∀ b o, s.heap.get? b = some o → b ≠ D := fun b o e q => by rw [q, nD] at e; cases e
  have bC : ∀ b o, s.heap.get? b = some o → b ≠ cenv.locals := fun b o e q => by rw [q, nC] at e; cases e
  refine codeAny_loop rfl
    (SJ s cenv.locals D n St led b) ?_ (n + 1)
    ⟨h₁, tk₁, m, 0, rfl, hst, hacc, hns, Nat.zero_le _, rfl, hs⟩
  rintro k s' ⟨H, tk, m', j, rfl, hst', hacc', hn', hi, rfl, hk⟩
  show wpAny _ A ((compTurn (.SetComp elt [⟨.Name x px, iter, [], 0⟩] scope pos) 0 (.ref I) (.ref D) cenv).onRaise (fun x => do noteFrame x cenv; theTreesLotGoes x)) _ _ _
  refine wpAny_noted ?_
  rw [compTurn_set]
  refine wpAny_bind (wpAny_standAt (wpAny_bind ?_))
  by_cases hlt : j < n
  · refine W.item j _ _ _ hlt hst' fun v h₂ tk₂ hPv hst₂ hk₂ => ?_
    refine wpAny_bind (wpAny_of_eq (show letOwnedTupleGo (.Name x px) (.ref I) v = pure () from rfl) ?_)
    have k2 : ∀ b o, b ≠ I → H.get? b = some o → h₂.get? b = some o := fun b o hb e => hk₂ b o (by simpa using hb) e
    refine wpAny_bind (wpAny_assign_Name (wpAny_storeName_local hx (hn'.at' fun o e => k2 _ o hCI e) (fun h₃ hn₃ hs₃ => ?_) hp))
    have k3 : ∀ b o, b ≠ I → b ≠ cenv.locals → H.get? b = some o → h₃.get? b = some o := fun b o hb hc e => (hs₃.2 b hc).trans (k2 b o hb e)
    have hst₃ : St (j + 1) h₃ := W.frame _ _ _ hst₂ fun b hb o e => (hs₃.2 b (fun h => hCf (h ▸ hb))).trans e
    have st₃ : s.heap.StaysIn h₃ := fun b o e => k3 b o (bI b o e) (bC b o e) (hk b o e)
    have hD₃ := k3 D _ hDI hDC hacc'
    refine wpAny_bind (wpAny_bind (wpAny_mono (T.elt j v h₃ _ _ _ hPv rfl st₃ hn₃ (by simp) ⟨_, hD₃⟩ (hIl _ _ hst₃)) (fun y s₅ h₅ => ?_) fun _ _ e => e))
    obtain ⟨h₅, tk₅, m₅, rfl, k5, hn₅, hy⟩ := h₅
    subst hy
    refine wpAny_bind (wpAny_standAt ?_)
    have hD₅ := k5 D _ hDC hD₃
    have hst₅ : St (j + 1) h₅ := W.frame _ _ _ hst₃ fun b hb o e => k5 b o (fun h => hCf (h ▸ hb)) e
    have st₅ : s.heap.StaysIn h₅ := fun b o e => k5 b o (bC b o e) (st₃ b o e)
    refine wpAny_bind ?_
    by_cases hj : j = 0
    · subst hj
      refine set_add_first hu hD₅ fun h₆ tk₆ hD₆ hs₆ => ?_
      refine wpAny_pure (wpAny_pure ⟨rfl, n + 1 - (0 + 1), by lia, h₆, tk₆, m₅, 1, rfl, W.frame _ _ _ hst₅ fun b hb o e => (hs₆.2 b (fun h => hDf (h ▸ hb))).trans e, hD₆, hn₅.sameBut hs₆ (Ne.symm hDC), by lia, by lia, fun b o e => (hs₆.2 b (bD b o e)).trans (st₅ b o e)⟩)
    · have e1 : setAt led b j = setO1 led b := if_neg hj
      rw [e1] at hD₅
      refine set_add_again hu hD₅ fun tk₆ => ?_
      refine wpAny_pure (wpAny_pure ⟨rfl, n + 1 - (j + 1), by lia, h₅, tk₆, m₅, j + 1, rfl, hst₅, hD₅, hn₅, by lia, by lia, st₅⟩)
  · have hin : j = n := by lia
    subst hin
    refine W.done _ _ _ hst' fun h₂ tk₂ hk₂ => ?_
    have k2 : ∀ b o, b ≠ I → H.get? b = some o → h₂.get? b = some o := fun b o hb e => hk₂ b o (by simpa using hb) e
    exact wpAny_pure (hR h₂ tk₂ m' (hn'.at' fun o e => k2 _ o hCI e) (k2 D _ hDI hacc') fun b o e => k2 b o (bI b o e) (hk b o e))
inductive CompInS (prog : Program) (w : World) (A : Around) (env : Env) (scope : Scope) (cl : List (Str × Addr)) (x : Str) (elt : Expr) (Q : Value → Shared → Prop) (src : Value) (s₁ : Shared) : Prop
  | mk : ∀ n P b, (Src prog w A s₁ src n P) →
      (0 < n) →
      ((∀ C D I, s₁.heap.get? C = none → s₁.heap.get? D = none → s₁.heap.get? I = none → s₁.heap.objs.size ≤ C → C ≠ D → C ≠ I → D ≠ I → Turn prog w A (compEnvC scope cl C env) x [] elt s₁ I D [] P (fun _ => true) (fun _ _ y => y = .bool b))) →
      ((∀ D h' tk, s₁.heap.StaysIn h' → s₁.heap.get? D = none → h'.get? D = some (setO1 (!w.params.followText "set-order") b) → Q (.ref D) { s₁ with heap := h', toks := tk })) → CompInS prog w A env scope cl x elt Q src s₁
theorem setcomp_eval {env : Env} {elt iter : Expr} {x : Str} {px : Pos} {scope : Scope} {cl : List (Str × Addr)} {pos : Pos} {Q : Value → Shared → Prop} (hu : A.units + 2 < cLine)
    (hclos : closureFor scope env = pure cl) (hcell : ∀ y ∈ scope.names, y.2 ≠ .cell) (hkind : scope.kind = .function)
    (hnames : ∀ y ∈ scope.names, y.2 = .local → scope.names.lookup y.1 = some .local) (hx : scope.names.lookup x = some .local) (hs : ∀ x, foldedSetIterable iter env x = pure x)
    (h : wpAny (model prog w) A (eval iter env) (fun src s₁ => CompInS prog w A env scope cl x elt Q src s₁) E s) :
    wpAny (model prog w) A (eval (.SetComp elt [⟨.Name x px, iter, [], 0⟩] scope pos) env) Q E s := by
  show wpAny _ A (comprehension (.SetComp elt [⟨.Name x px, iter, [], 0⟩] scope pos) scope env _ (newSet (.type "set")) false (eval iter env)) Q E s
  refine wpAny_comprehension_free (use := none) rfl hs hclos hkind hnames (wpAny_mono h (fun src s₁ h₁ => ?_) fun _ _ e => e)
  obtain ⟨n, P, b, S, hn, T, hQ⟩ := h₁
  refine S _ _ fun I fp St h₂ W hst hIl hfp hle hst2 nI => ?_
  unfold newSet
  refine wpAny_bind (setsByText_of rfl ?_)
  refine wpAny_newObj_type (wpAny_newFunctionEnv hcell (by intro y hy; simp at hy) (fun h₁ hns₁ hsb₁ => ?_) hkind)
  dsimp only at hns₁ hsb₁ ⊢
  generalize hL : (!w.params.followText "set-order") = led at hQ hns₁ hsb₁ ⊢
  generalize hH2 : h₂.push { cls := .type "set", dict := none, data := .set #[] 0 (SetTable.fresh 0 0 led) } = H2 at hns₁ hsb₁ ⊢
  have hC : H2.objs.size = h₂.objs.size + 1 := by rw [← hH2, Heap.size_push]
  have hDC : h₂.objs.size ≠ H2.objs.size := by rw [hC]; exact Nat.ne_of_lt (Nat.lt_succ_self _)
  have below : ∀ b, b < h₂.objs.size → b ≠ H2.objs.size ∧ b ≠ h₂.objs.size := fun b hb => ⟨by rw [hC]; exact Nat.ne_of_lt (Nat.lt_succ_of_lt hb), Nat.ne_of_lt hb⟩
  have hDf : h₂.objs.size ∉ fp := fun hm => Nat.lt_irrefl _ (hfp _ hm)
  have hCf : H2.objs.size ∉ fp := fun hm => by have := hfp _ hm; rw [hC] at this; exact Nat.lt_irrefl _ (Nat.lt_of_succ_lt this)
  have hIf : I ∈ fp := W.sub I (by simp)
  have hIlt : I < h₂.objs.size := hfp I hIf
  have old : ∀ b o, h₂.get? b = some o → h₁.get? b = some o := fun b o e => hsb₁.extBut b o (below b (Heap.lt_size e)).1 (Heap.get?_push_of_some _ (hH2 ▸ Heap.get?_push_of_some _ e))
  have hacc : h₁.get? h₂.objs.size = some (setO0 led) := hsb₁.extBut _ _ hDC (Heap.get?_push_of_some _ (hH2 ▸ Heap.get?_push_size _ rfl))
  have hst₁ : St 0 h₁ := W.frame _ _ _ hst fun b _ o e => old b o e
  have nD : s₁.heap.get? h₂.objs.size = none := none_ge hle
  have nC : s₁.heap.get? H2.objs.size = none := none_ge (by rw [hC]; exact Nat.le_succ_of_le hle)
  have TT := T H2.objs.size h₂.objs.size I nC nD nI (by rw [hC]; exact Nat.le_succ_of_le hle) (Ne.symm hDC) (Ne.symm (below I hIlt).1) (Ne.symm (below I hIlt).2)
  have e1 : setAt led b n = setO1 led b := if_neg (by lia)
  have loop : ∀ tk, codeAny (model prog w) A (.compLoop (.SetComp elt [⟨.Name x px, iter, [], 0⟩] scope pos) 0 (.ref I) (.ref h₂.objs.size) (compEnvC scope cl H2.objs.size env))
        (compPost (model prog w) A E none Q (.ref h₂.objs.size) H2.objs.size) { s₁ with heap := h₁, toks := tk } := fun tk =>
    setcomp_loop (cenv := compEnvC scope cl H2.objs.size env) W hu (lookup_relabel_local hx) (by simp [compEnvC, relabel, hkind]) hDC hDf hCf nI nD nC hIl TT hst₁ hacc hns₁ (fun b o e => old b o (hst2 b o e))
      fun h' tk m' hn' ha hk => by
        rw [e1] at ha
        refine ⟨m', hn', fun h'' hs'' => hQ h₂.objs.size h'' tk (fun b o e => ?_) nD ((hs''.2 _ hDC).trans ha)⟩
        have hb : b ≠ H2.objs.size := fun q => by rw [q, nC] at e; cases e
        exact (hs''.2 b hb).trans (hk b o e)
  exact compStart_set (loop _) (W.self 0 _ _ _ hst₁ (loop _))
end
end Mine
end

section
theorem Mine.rst_RD : True ∧ True := by
  w_top off
  first | (walk1; fail "laid") | exact ⟨trivial, trivial⟩
open PySem PySem.W PyProof.Rows PySem.Calls
set_option linter.unusedVariables false
namespace Mine
section
variable {prog : Program} {w : World} {A : Around} {E : Value → Shared → Prop} {s : Shared} {h₀ : Heap} {L : Addr} {m : Str → Option Value} {news : List (Addr × Obj)}
theorem truthy_tupYes {t : Addr} {items : Array Value} {Q : Bool → Shared → Prop} (N : News h₀ L s.heap news) (hm : (t, tupO items) ∈ news) (hn : 0 < items.size) (hz : items.size ≤ 1000) (h : ∀ tk, Q true { s with toks := tk }) :
    wpAny (model prog w) A (truthy (.ref t)) Q E s := by
  refine truthy_tuple (News.isTup N hm) (by omega) ?_
  have e : (!items.isEmpty) = true := by
    have : items ≠ #[] := fun q => by rw [q] at hn; simp at hn
    simp [this]
  rw [e]
  exact h _
theorem tup_first {t : Addr} {v : Value} {vs : List Value} {u : Tok} {value slice : Expr} {Q : Value → Shared → Prop} (N : News h₀ L s.heap news) (hm : (t, tupO (v :: vs).toArray) ∈ news) (h : Q v s)
    (hs : subscripted slice false (.ref t) (.int 0 u) = operate [.ref t, .int 0 u] (getItem (.ref t) (.int 0 u)) := by with_unfolding_all rfl) :
    wpAny (model prog w) A (subscriptTail value slice (.ref t) (.int 0 u)) Q E s :=
  item_tupleT (News.isTup N hm) (by decide) (by decide) (j := 0) (by simp [seqIndex?]) rfl h hs
end
end Mine
end

section
theorem Mine.rst_P1 : True ∧ True := by
  w_top off
  first | (walk1; fail "laid") | exact ⟨trivial, trivial⟩
open PySem PySem.W PyProof.Rows PySem.Calls
namespace Mine
open PySem.StrLaws PySem.Builtin.Str
/-- the top of a path -/
noncomputable def topF (b : Bool) : Str := if b then slash else Str.empty
noncomputable def pathF (b : Bool) (ns : List Str) : Str := topF b ++ Str.join slash ns
structure Good (p : Str) : Prop where
  seg : Seg p
  ok : okPiece p = true
theorem okPiece_iff {p : Str} : okPiece p = true ↔ p ≠ Str.ofString "" ∧ p ≠ Str.ofString "." := by
  have h : okPiece p = !((Str.ofString "" == p) || ((Str.ofString "." == p) || false)) := rfl
  rw [h]
  generalize Str.ofString "" = a
  generalize Str.ofString "." = b
  cases h1 : (a == p)
  · cases h2 : (b == p)
    · exact ⟨fun _ => ⟨fun q => (beq_eq_false_iff_ne.mp h1) q.symm, fun q => (beq_eq_false_iff_ne.mp h2) q.symm⟩, fun _ => rfl⟩
    · exact ⟨fun q => absurd q (by decide), fun q => absurd (beq_iff_eq.mp h2).symm q.2⟩
  · exact ⟨fun q => absurd q (by simp), fun q => absurd (beq_iff_eq.mp h1).symm q.1⟩
theorem ofString_empty : Str.ofString "" = Str.empty := by decide +kernel
theorem Good.ne {p : Str} (h : Good p) : p ≠ Str.empty := by have := (okPiece_iff.mp h.ok).1; rwa [ofString_empty] at this
theorem Good.ls_ne {p : Str} (h : Good p) : ls p ≠ [] := fun q => h.ne (ls_ext (by rw [q]; rfl))
theorem filter_good {ns : List Str} (h : ∀ p ∈ ns, Good p) : ns.filter okPiece = ns := List.filter_eq_self.mpr fun p hp => (h p hp).ok
theorem empty_append (x : Str) : Str.empty ++ x = x := Str.empty_append x
theorem join_cons_ne (x : Str) {ps : List Str} (h : ps ≠ []) : Str.join slash (x :: ps) = x ++ slash ++ Str.join slash ps := by
  cases ps with
  | nil => exact absurd rfl h
  | cons y r => rfl
theorem seg_empty : Seg Str.empty := by simp [Seg, ls_empty]
theorem seg_dot : Seg (Str.ofString ".") := by unfold Seg; decide +kernel
theorem okPiece_empty : okPiece Str.empty = false := by decide +kernel
theorem okPiece_dot : okPiece (Str.ofString ".") = false := by decide +kernel
/-- the front of a row's text -/
noncomputable def frontF (b : Bool) : Str := if b then slash else Str.ofString "./"
theorem dotslash : Str.ofString "./" = Str.ofString "." ++ slash := by decide +kernel
theorem split_front (b : Bool) {ps : List Str} (h : ps ≠ []) (hs : ∀ p ∈ ps, Seg p) :
    Txt.split (frontF b ++ Str.join slash ps) slash = (if b then Str.empty else Str.ofString ".") :: ps := by
  have e : frontF b ++ Str.join slash ps = Str.join slash ((if b then Str.empty else Str.ofString ".") :: ps) := by
    rw [join_cons_ne _ h]
    cases b
    · simp only [frontF, Bool.false_eq_true, if_false]; rw [dotslash]
    · simp only [frontF, if_true]; rw [empty_append]
  rw [e]
  refine split_join (by simp) fun p hp => ?_
  rcases List.mem_cons.mp hp with rfl | hp
  · cases b
    · exact seg_dot
    · exact seg_empty
  · exact hs p hp
theorem pieces_front (b : Bool) {ps : List Str} (h : ps ≠ []) (hs : ∀ p ∈ ps, Seg p) : piecesF (frontF b ++ Str.join slash ps) = ps.filter okPiece := by
  unfold piecesF
  rw [split_front b h hs, List.filter_cons]
  cases b
  · simp [okPiece_dot]
  · simp [okPiece_empty]
theorem split_path (b : Bool) {ns : List Str} (hs : ∀ p ∈ ns, Seg p) :
    Txt.split (pathF b ns) slash = if ns = [] then (if b then [Str.empty, Str.empty] else [Str.empty]) else (if b then Str.empty :: ns else ns) := by
  unfold pathF
  by_cases h : ns = []
  · subst h
    rw [if_pos rfl]
    cases b
    · exact split_join (ps := [Str.empty]) (by simp) (by simp [seg_empty])
    · have : topF true ++ Str.join slash [] = Str.join slash [Str.empty, Str.empty] := by decide +kernel
      rw [this]
      exact split_join (by simp) (by simp [seg_empty])
  · rw [if_neg h]
    cases b
    · simp only [topF, Bool.false_eq_true, if_false, empty_append]
      exact split_join h hs
    · have : topF true ++ Str.join slash ns = Str.join slash (Str.empty :: ns) := by
        rw [join_cons_ne _ h, empty_append]; rfl
      rw [this]
      refine split_join (by simp) fun p hp => ?_
      rcases List.mem_cons.mp hp with rfl | hp
      · exact seg_empty
      · exact hs p hp
theorem pieces_path (b : Bool) {ns : List Str} (hs : ∀ p ∈ ns, Good p) : piecesF (pathF b ns) = ns := by
  unfold piecesF
  rw [split_path b fun p hp => (hs p hp).seg]
  by_cases h : ns = []
  · subst h; cases b <;> simp [okPiece_empty]
  · rw [if_neg h]
    cases b
    · simp [filter_good hs]
    · simp [okPiece_empty, filter_good hs]
/- the last slash -/
theorem at_slash {x : Str} {i : Nat} : At x slash x.length i ↔ (ls x)[i]? = some 47 := by
  rw [slash_eq]; exact subAt_one x 47 i
theorem rfind_cat {a c : Str} (hc : Seg c) : Txt.rfind (a ++ slash ++ c) slash = (a.length : Int) := by
  have hx : ls (a ++ slash ++ c) = ls a ++ 47 :: ls c := by rw [ls_append, ls_append, ls_slash, List.append_assoc]; rfl
  unfold Txt.rfind
  rcases last_spec (a ++ slash ++ c) slash with ⟨h, h2⟩ | ⟨i, h, h2, h3⟩
  · exfalso
    refine h2 a.length (at_slash.mpr ?_)
    rw [hx, ls_len]; simp
  · rw [h]
    show (i : Int) = _
    congr 1
    have h4 := at_slash.mp h2
    rw [hx] at h4
    rcases Nat.lt_trichotomy i a.length with q | q | q
    · exfalso
      refine h3 a.length q (at_slash.mpr ?_)
      rw [hx, ls_len]; simp
    · exact q
    · exfalso
      rw [ls_len] at q
      rw [List.getElem?_append_right (by lia)] at h4
      obtain ⟨k, hk⟩ : ∃ k, i - (ls a).length = k + 1 := ⟨i - (ls a).length - 1, by lia⟩
      rw [hk, List.getElem?_cons_succ] at h4
      exact hc (List.mem_of_getElem? h4)
theorem rfind_none {c : Str} (hc : Seg c) : Txt.rfind c slash = -1 := by
  unfold Txt.rfind
  rcases last_spec c slash with ⟨h, h2⟩ | ⟨i, h, h2, h3⟩
  · rw [h]
  · exfalso; exact hc (List.mem_of_getElem? (at_slash.mp h2))
theorem slice_to {x : Str} {j : Nat} (h : j ≤ x.length) : Txt.slice x none (some (j : Int)) = ⟨((ls x).take j).toArray⟩ := by
  show sliceText x none (some (j : Int)) = _
  rw [ls_len] at h
  rw [sliceText_to ⟨by lia, by exact_mod_cast h⟩]
  simp [ls]
theorem slice_from {x : Str} {j : Nat} (h : j ≤ x.length) : Txt.slice x (some (j : Int)) none = ⟨((ls x).drop j).toArray⟩ := by
  show sliceText x (some (j : Int)) none = _
  rw [ls_len] at h
  rw [sliceText_from ⟨by lia, by exact_mod_cast h⟩]
  congr 2
  rw [List.take_of_length_le]
  · simp
  · simp
/-- a text cut behind its last slash -/
structure Cut (x pre c : Str) : Prop where
  pre : preF x = pre
  tail : tailF x = c
theorem cut_cat {a c : Str} (hc : Seg c) : Cut (a ++ slash ++ c) (a ++ slash) c := by
  have e : Txt.rfind (a ++ slash ++ c) slash + 1 = (((a ++ slash).length : Nat) : Int) := by
    rw [rfind_cat hc, Str.length_append]
    have : slash.length = 1 := by rw [slash_eq]; rfl
    rw [this]; push_cast; rfl
  have hle : (a ++ slash).length ≤ (a ++ slash ++ c).length := by rw [Str.length_append (a ++ slash)]; lia
  constructor
  · unfold preF
    rw [e, slice_to hle]
    apply ls_ext
    rw [ls_append (a ++ slash)]
    simp [ls_len]
  · unfold tailF
    rw [e, slice_from hle]
    apply ls_ext
    rw [ls_append (a ++ slash)]
    simp [ls_len]
theorem cut_none {c : Str} (hc : Seg c) : Cut c Str.empty c := by
  constructor
  · unfold preF
    rw [rfind_none hc]
    have := slice_to (x := c) (j := 0) (Nat.zero_le _)
    simpa [Str.empty] using this
  · unfold tailF
    rw [rfind_none hc]
    have := slice_from (x := c) (j := 0) (Nat.zero_le _)
    simpa using this
theorem rstrip_same {a : Str} {u : Nat} {r : List Nat} (h : ls a = r ++ [u]) (hu : u ≠ 47) : Txt.rstripChars (a ++ slash) slash = a := by
  have hx : ls (a ++ slash) = r ++ [u] ++ [47] := by rw [ls_append, ls_slash, h]
  have hcon : ∀ n, slash.cps.contains n = decide (n = 47) := by
    intro n; rw [slash_eq]; simp
  have hhi : stripHi slash.cps.contains true (a ++ slash) (stripLo slash.cps.contains false (a ++ slash)) = a.length := by
    unfold stripHi stripLo
    simp only [if_true, Bool.false_eq_true, if_false, List.drop_zero]
    show (a ++ slash).length - _ = _
    have : ((a ++ slash).cps.toList.reverse.takeWhile slash.cps.contains) = [47] := by
      have := hx
      simp only [ls] at this
      rw [this]
      simp only [List.reverse_append, List.reverse_cons, List.reverse_nil, List.nil_append, List.cons_append]
      rw [List.takeWhile_cons, hcon, List.takeWhile_cons, hcon]
      simp [hu]
    rw [this, Str.length_append]
    have : slash.length = 1 := by rw [slash_eq]; rfl
    rw [this]; simp
  unfold Txt.rstripChars Txt.stripBy
  split
  · rename_i hs
    unfold stripSame at hs
    rw [hhi] at hs
    simp only [Bool.and_eq_true, beq_iff_eq] at hs
    have := hs.2
    rw [Str.length_append] at this
    have h1 : slash.length = 1 := by rw [slash_eq]; rfl
    lia
  · unfold PySem.stripped
    rw [hhi]
    apply ls_ext
    show (strSub _ _ _).cps.toList = _
    rw [strSub_toList]
    simp only [stripLo, Bool.false_eq_true, if_false, List.drop_zero]
    show (ls (a ++ slash)).take _ = _
    rw [ls_append, ls_len]
    simp
theorem mul_slash_all (n : Int) : ∀ k ∈ ls (Txt.mul slash n), k = 47 := by
  have key : ∀ (m : Nat) (acc : Array Nat), (∀ k ∈ acc.toList, k = 47) → ∀ k ∈ ((List.replicate m slash.cps).foldl (· ++ ·) acc).toList, k = 47 := by
    intro m
    induction m with
    | zero => intro acc h; simpa using h
    | succ m ih =>
      intro acc h
      rw [List.replicate_succ, List.foldl_cons]
      refine ih _ ?_
      intro k hk
      rw [slash_eq] at hk
      simp only [Array.toList_append, List.mem_append] at hk
      rcases hk with hk | hk
      · exact h k hk
      · simpa using hk
  unfold Txt.mul
  split
  · simp [ls_empty]
  split
  · rw [ls_slash]; simp
  · exact key _ _ (by simp)
/-- the last sign of a path with names is no slash -/
theorem path_last (b : Bool) : ∀ {ns : List Str}, ns ≠ [] → (∀ p ∈ ns, Good p) → ∃ r u, ls (pathF b ns) = r ++ [u] ∧ u ≠ 47 := by
  have key : ∀ ns : List Str, ns ≠ [] → (∀ p ∈ ns, Good p) → ∃ r u, ls (Str.join slash ns) = r ++ [u] ∧ u ≠ 47 := by
    intro ns
    induction ns with
    | nil => intro h; exact absurd rfl h
    | cons x r ih =>
      intro _ hg
      cases r with
      | nil =>
        have hx := hg x (by simp)
        refine ⟨(ls x).dropLast, (ls x).getLast hx.ls_ne, ?_, fun q => hx.seg ?_⟩
        · rw [ls_join_one, List.dropLast_concat_getLast]
        · rw [← q]; exact List.getLast_mem _
      | cons y r =>
        obtain ⟨q, u, e, hu⟩ := ih (by simp) (fun p hp => hg p (by simp [hp]))
        exact ⟨ls x ++ (ls slash ++ q), u, by rw [ls_join_cons, e]; simp, hu⟩
  intro ns h hg
  obtain ⟨r, u, e, hu⟩ := key ns h hg
  exact ⟨ls (topF b) ++ r, u, by unfold pathF; rw [ls_append, e, List.append_assoc], hu⟩
theorem join_snoc (c : Str) : ∀ {ns : List Str}, ns ≠ [] → Str.join slash (ns ++ [c]) = Str.join slash ns ++ slash ++ c
  | [], h => absurd rfl h
  | [x], _ => rfl
  | x :: y :: r, _ => by
    have := join_snoc c (ns := y :: r) (by simp)
    show x ++ slash ++ Str.join slash ((y :: r) ++ [c]) = x ++ slash ++ Str.join slash (y :: r) ++ slash ++ c
    rw [this]
    simp only [Str.append_assoc]
theorem path_snoc (b : Bool) (c : Str) {ns : List Str} (h : ns ≠ []) : pathF b (ns ++ [c]) = pathF b ns ++ slash ++ c := by
  unfold pathF
  rw [join_snoc c h]
  simp only [Str.append_assoc]
theorem headF_eq {x pre c : Str} (h : Cut x pre c) : headF x = if ((pre.length : Nat) : Int) ≠ 0 ∧ (pre != Txt.mul slash ((pre.length : Nat) : Int)) = true then Txt.rstripChars pre slash else pre := by
  unfold headF; rw [h.pre]
theorem headF_snoc (b : Bool) {ns : List Str} {c : Str} (hg : ∀ p ∈ ns, Good p) (hc : Good c) : headF (pathF b (ns ++ [c])) = pathF b ns ∧ tailF (pathF b (ns ++ [c])) = c := by
  by_cases h : ns = []
  · subst h
    cases b
    · have e : pathF false ([] ++ [c]) = c := by simp [pathF, topF, empty_append, Str.join]
      have e2 : pathF false [] = Str.empty := by decide +kernel
      have k := cut_none hc.seg
      rw [e, e2]
      refine ⟨?_, k.tail⟩
      rw [headF_eq k, if_neg]
      intro q; exact q.1 rfl
    · have e : pathF true ([] ++ [c]) = Str.empty ++ slash ++ c := by simp [pathF, topF, empty_append, Str.join]
      have e2 : pathF true [] = slash := by decide +kernel
      have k := cut_cat (a := Str.empty) hc.seg
      rw [empty_append] at k
      rw [e, e2, empty_append]
      refine ⟨?_, k.tail⟩
      rw [headF_eq k, if_neg]
      intro q
      have : (slash != Txt.mul slash ((slash.length : Nat) : Int)) = false := by decide +kernel
      rw [this] at q
      exact Bool.noConfusion q.2
  · have k := cut_cat (a := pathF b ns) hc.seg
    rw [path_snoc b c h]
    refine ⟨?_, k.tail⟩
    obtain ⟨r, u, e, hu⟩ := path_last b h hg
    have hl : slash.length = 1 := by rw [slash_eq]; rfl
    rw [headF_eq k, if_pos]
    · exact rstrip_same e hu
    · refine ⟨?_, ?_⟩
      · rw [Str.length_append, hl]; lia
      · rw [bne_iff_ne]
        intro q
        have := mul_slash_all (((pathF b ns ++ slash).length : Nat) : Int)
        rw [← q, ls_append, e] at this
        exact hu (this u (by simp))
theorem headF_top (b : Bool) : headF (pathF b []) = pathF b [] ∧ tailF (pathF b []) = Str.empty := by
  cases b
  · have e2 : pathF false [] = Str.empty := by decide +kernel
    rw [e2]
    have k := cut_none seg_empty
    refine ⟨?_, k.tail⟩
    rw [headF_eq k, if_neg]
    intro q; exact q.1 rfl
  · have e2 : pathF true [] = slash := by decide +kernel
    have e3 : slash = Str.empty ++ slash ++ Str.empty := by decide +kernel
    have k := cut_cat (a := Str.empty) seg_empty
    rw [← e3, empty_append] at k
    rw [e2]
    refine ⟨?_, k.tail⟩
    rw [headF_eq k, if_neg]
    intro q
    have : (slash != Txt.mul slash ((slash.length : Nat) : Int)) = false := by decide +kernel
    rw [this] at q
    exact Bool.noConfusion q.2
theorem starts_iff {x : Str} : Txt.startswith x slash = true ↔ (ls x)[0]? = some 47 := by
  rw [← at_slash]
  unfold Txt.startswith At
  simp
theorem ends_last {x : Str} : Txt.endswith x slash = true ↔ ∃ r, ls x = r ++ [47] := by
  have hl : slash.length = 1 := by rw [slash_eq]; rfl
  have : Txt.endswith x slash = true ↔ 1 ≤ x.length ∧ (ls x)[x.length - 1]? = some 47 := by
    rw [← at_slash]
    unfold Txt.endswith At
    simp only [hl, Bool.and_eq_true, decide_eq_true_eq]
    constructor
    · rintro ⟨h1, h2⟩; exact ⟨by lia, by lia, h2⟩
    · rintro ⟨h1, h2, h3⟩; exact ⟨by lia, h3⟩
  rw [this, ls_len]
  constructor
  · rintro ⟨h1, h2⟩
    have hne : ls x ≠ [] := by intro q; rw [q] at h1; simp at h1
    refine ⟨(ls x).dropLast, ?_⟩
    rw [← List.getLast?_eq_getElem?] at h2
    have := List.getLast?_eq_some_getLast hne
    rw [this] at h2
    injection h2 with h2
    conv => lhs; rw [← List.dropLast_concat_getLast hne]
    rw [h2]
  · rintro ⟨r, h⟩
    rw [h]; simp
theorem starts_false {c : Str} (h : Seg c) : Txt.startswith c slash = false := by
  cases q : Txt.startswith c slash with
  | false => rfl
  | true => exact absurd (List.mem_of_getElem? (starts_iff.mp q)) h
theorem join_path (b : Bool) {ns : List Str} {c : Str} (hg : ∀ p ∈ ns, Good p) (hc : Good c) : joinF (pathF b ns) c = pathF b (ns ++ [c]) := by
  have h1 := starts_false hc.seg
  by_cases h : ns = []
  · subst h
    cases b
    · have e2 : pathF false [] = Str.empty := by decide +kernel
      rw [e2, joinF2 h1 rfl]
      simp [pathF, topF, empty_append, Str.join]
    · have e2 : pathF true [] = slash := by decide +kernel
      rw [e2, joinF3 h1 (by decide +kernel) (by decide +kernel)]
      simp [pathF, topF, Str.join]
  · obtain ⟨r, u, e, hu⟩ := path_last b h hg
    rw [joinF4 h1, path_snoc b c h, Str.append_assoc]
    · rw [ls_len, e]; simp
      lia
    · cases q : Txt.endswith (pathF b ns) slash with
      | false => rfl
      | true =>
        obtain ⟨r2, q2⟩ := ends_last.mp q
        rw [e] at q2
        have := List.append_inj_right' q2 rfl
        simp at this
        exact absurd this hu
theorem starts_front (b : Bool) (x : Str) : Txt.startswith (frontF b ++ x) slash = b := by
  cases b
  · cases q : Txt.startswith (frontF false ++ x) slash with
    | false => rfl
    | true =>
      have := starts_iff.mp q
      rw [ls_append] at this
      have e : ls (frontF false) = [46, 47] := by decide +kernel
      rw [e] at this
      simp at this
  · rw [starts_iff, ls_append]
    simp [frontF, ls_slash]
theorem starts_path (b : Bool) {ns : List Str} (hg : ∀ p ∈ ns, Good p) : Txt.startswith (pathF b ns) slash = b := by
  cases b
  · cases q : Txt.startswith (pathF false ns) slash with
    | false => rfl
    | true =>
      have := starts_iff.mp q
      simp only [pathF, topF, Bool.false_eq_true, if_false, empty_append] at this
      cases ns with
      | nil => simp [Str.join, ls_empty] at this
      | cons x r =>
        have hx := hg x (by simp)
        have hne := hx.ls_ne
        cases r with
        | nil =>
          rw [ls_join_one] at this
          exact absurd (List.mem_of_getElem? this) hx.seg
        | cons y r =>
          rw [ls_join_cons, List.getElem?_append_left (List.length_pos_iff.mpr hne)] at this
          exact absurd (List.mem_of_getElem? this) hx.seg
  · rw [starts_iff]
    simp only [pathF, topF, if_true]
    rw [ls_append, ls_slash]; simp
end Mine
end

section
theorem Mine.rst_LR : True ∧ True := by
  w_top off
  first | (walk1; fail "laid") | exact ⟨trivial, trivial⟩
open PySem PySem.W PyProof.Rows PySem.Calls
set_option linter.unusedVariables false
namespace Mine
/-- hides a goal while things are taken apart -/
theorem hideG {G : Prop} (k : ∀ G' : Prop, (G → G') → G') : G := k G id
/-- where a turn of a loop may end -/
noncomputable def LoopQ (J : Shared → Prop) (Q : Flow → Shared → Prop) (f : Flow) (s : Shared) : Prop :=
  match f with
  | .next => J s
  | .cont => J s
  | .brk => Q .next s
  | .ret v => Q (.ret v) s
/-- a state of s's with another heap -/
inductive HeapIs (s : Shared) (J : Heap → Prop) (s' : Shared) : Prop
  | mk : ∀ h tk, s' = { s with heap := h, toks := tk } → J h → HeapIs s J s'
/-- a count that falls as a place rises -/
inductive UpTo (n : Nat) (J : Nat → Shared → Prop) (k : Nat) (s' : Shared) : Prop
  | mk : ∀ i, J i s' → i ≤ n → k = n + 1 - i → UpTo n J k s'
section
variable {prog : Program} {w : World} {A : Around} {E : Value → Shared → Prop} {s : Shared} {env : Env} {Q : Flow → Shared → Prop}
theorem calm {α : Type} {M : Model} {t : Sem α} {P : α → Shared → Prop} {E' : Value → Shared → Prop} {s' : Shared} (h : wpAny M A t P (fun _ _ => False) s') : wpAny M A t P E' s' := wpAny_mono h (fun _ _ x => x) fun _ _ x => x.elim
noncomputable def WhileTurn (prog : Program) (w : World) (A : Around) (env : Env) (body : List Stmt) (R : Shared → Prop) (Q : Flow → Shared → Prop) (b : Bool) (s₂ : Shared) : Prop :=
  if b = true then wpAny (model prog w) A (execs body env) (LoopQ R Q) (fun _ _ => False) s₂ else Q .next s₂
theorem while_rule {test : Expr} {body : List Stmt} {pos : Pos} (J : Nat → Heap → Prop)
    (turn : ∀ (R : Shared → Prop) n, (∀ h tk m, m < n → J m h → R { s with heap := h, toks := tk }) → ∀ h tk, J n h → wpAny (model prog w) A (isTrue test env (eval test env)) (WhileTurn prog w A env body R Q) (fun _ _ => False) { s with heap := h, toks := tk })
    (n : Nat) (h : J n s.heap) : wpAny (model prog w) A (exec (.While test body [] pos) env) Q E s := by
  refine wpAny_While (codeAny_whileLoop (fun k s' => HeapIs s (J k) s') (fun k s' hk => ?_) n ⟨s.heap, s.toks, rfl, h⟩)
  obtain ⟨h', tk, rfl, hJ⟩ := hk
  refine calm (wpAny_mono (turn (HeapIs s fun h' => ∃ m, m < k ∧ J m h') k (fun h tk m a b => ⟨h, tk, rfl, m, a, b⟩) h' tk hJ) (fun b s₂ hb => ?_) fun _ _ x => x)
  cases b with
  | false => exact wpAny_execs_nil hb
  | true =>
    refine calm (wpAny_mono hb (fun f s₃ hf => ?_) fun _ _ x => x)
    cases f with
    | next => obtain ⟨h2, t2, rfl, m, hm, hj⟩ := hf; exact ⟨m, hm, h2, t2, rfl, hj⟩
    | cont => obtain ⟨h2, t2, rfl, m, hm, hj⟩ := hf; exact ⟨m, hm, h2, t2, rfl, hj⟩
    | brk => exact hf
    | ret v => exact hf
theorem go_list {target : Expr} {I l : Addr} {i : Nat} {v : Value} {Q' : Unit → Shared → Prop} (hi : s.heap.IsListIter I l i) (h : Q' () s) : wpAny (model prog w) A (letOwnedTupleGo target (.ref I) v) Q' E s := by
  obtain ⟨o, ho, hc, hd⟩ := hi
  obtain ⟨cls, od, dat, sl⟩ := o
  dsimp only at hc hd
  subst hc hd
  have key : ∀ (t : Expr), wpAny (model prog w) A (letOwnedTupleGo t (.ref I) v) Q' E s := by
    intro t
    unfold letOwnedTupleGo
    split
    all_goals first
      | exact wpAny_pure h
      | (cases v with
         | ref a =>
           refine wpAny_bind (wpAny_load ho ?_)
           dsimp only
           rw [if_neg (by simp)]
           exact wpAny_pure h
         | _ => exact wpAny_pure h)
  exact key target
/-- what a for over a list, told by its state, must do -/
inductive ListIn (prog : Program) (w : World) (A : Around) (env : Env) (target : Expr) (body : List Stmt) (Q : Flow → Shared → Prop) (val : Value) (s₁ : Shared) : Prop
  | mk : ∀ (l : Addr) (items : Array Value) (J : Nat → Heap → Prop), (val = .ref l) →
      (s₁.heap.IsList l items) →
      ((∀ i h h', J i h → KeepBut s₁.heap.objs.size h h' → J i h')) →
      ((∀ i h, J i h → h.IsList l items)) →
      (J 0 s₁.heap) →
      ((∀ (R : Shared → Prop) i, (∀ h tk, J (i + 1) h → h.IsListIter s₁.heap.objs.size l (i + 1) → R { s₁ with heap := h, toks := tk }) → ∀ v h tk, i < items.size → items[i]? = some v → J i h → h.IsListIter s₁.heap.objs.size l (i + 1) → wpAny (model prog w) A (assign target env v) (fun _ s' => wpAny (model prog w) A (execs body env)
      (LoopQ R Q) (fun _ _ => False) s') (fun _ _ => False) { s₁ with heap := h, toks := tk })) →
      ((∀ h tk, J items.size h → Q .next { s₁ with heap := h, toks := tk })) → ListIn prog w A env target body Q val s₁
theorem for_listIn {target iter : Expr} {body : List Stmt} {pos : Pos} (hh : A.handled = none) (hs : ∀ x, foldedSetIterable iter env x = pure x)
    (h : wpAny (model prog w) A (eval iter env) (ListIn prog w A env target body Q) (fun _ _ => False) s) :
    wpAny (model prog w) A (exec (.For target iter body [] pos) env) Q E s := by
  refine wpAny_For (calm (wpAny_mono h (fun xv s₁ h₁ => ?_) fun _ _ x => x)) hs
  obtain ⟨l, items, J, rfl, hit, stable, hl, h0, turn, done⟩ := h₁
  refine wpAny_pyIter_list hit ?_
  have hlt : l < s₁.heap.objs.size := by obtain ⟨o, ho, _⟩ := hit; exact Heap.lt_size ho
  have W := Walks.list (prog := prog) (w := w) (A := A) hh s₁.heap.objs.size l (Nat.ne_of_lt hlt) items
  have old : KeepBut s₁.heap.objs.size s₁.heap (s₁.heap.push { cls := .type "list_iterator", data := .fields #[.ref l, .int 0 0] }) := fun b o _ e => Heap.get?_push_of_some _ e
  refine codeAny_forLoop_any (UpTo (items.size) fun i => HeapIs s₁ (fun h' => J i h' ∧ h'.IsListIter s₁.heap.objs.size l i)) ?_ (items.size + 1)
    ⟨0, ⟨_, _, rfl, stable 0 _ _ h0 old, ⟨_, Heap.get?_push_size _ rfl, rfl, rfl⟩⟩, Nat.zero_le _, rfl⟩
  rintro k s' ⟨i, ⟨H, tk, rfl, hJ, hI⟩, hi, rfl⟩
  by_cases hlt : i < items.size
  · refine calm (W.item i _ _ _ hlt ⟨hI, hl i H hJ⟩ fun v h₂ tk₂ hv hst₂ hk₂ => ?_)
    have hJ₂ : J i h₂ := stable i _ _ hJ fun b o hb e => hk₂ b o (by simpa using hb) e
    refine go_list (i := i + 1) hst₂.1 ?_
    refine calm (wpAny_mono (turn (HeapIs s₁ fun h' => J (i + 1) h' ∧ h'.IsListIter s₁.heap.objs.size l (i + 1)) i (fun h tk a b => ⟨h, tk, rfl, a, b⟩) v h₂ tk₂ hlt hv hJ₂ hst₂.1) (fun _ s₃ h₃ => calm (wpAny_mono h₃ (fun f s₄ h₄ => ?_) fun _ _ x => x)) fun _ _ x => x)
    have fin : HeapIs s₁ (fun h' => J (i + 1) h' ∧ h'.IsListIter s₁.heap.objs.size l (i + 1)) s₄ → ∃ m, m < items.size + 1 - i ∧ UpTo (items.size) (fun j => HeapIs s₁ (fun h' => J j h' ∧ h'.IsListIter s₁.heap.objs.size l j)) m s₄ :=
      fun q => ⟨items.size + 1 - (i + 1), by lia, i + 1, q, hlt, rfl⟩
    cases f with
    | next => exact fin h₄
    | cont => exact fin h₄
    | brk => exact h₄
    | ret v => exact h₄
  · have hin : i = items.size := by lia
    subst hin
    refine calm (W.done _ _ _ ⟨hI, hl _ H hJ⟩ fun h₂ tk₂ hk₂ => wpAny_execs_nil ?_)
    exact done h₂ tk₂ (stable _ _ _ hJ fun b o hb e => hk₂ b o (by simpa using hb) e)
/-- for over a list that stays: the iterator lies at the heap's end -/
theorem for_list {target iter : Expr} {body : List Stmt} {pos : Pos} {l : Addr} {items : Array Value} (J : Nat → Heap → Prop) (hh : A.handled = none) (hs : ∀ x, foldedSetIterable iter env x = pure x)
    (hit : s.heap.IsList l items) (stable : ∀ i h h', J i h → KeepBut s.heap.objs.size h h' → J i h') (hl : ∀ i h, J i h → h.IsList l items) (h0 : J 0 s.heap)
    (turn : ∀ (R : Shared → Prop) i, (∀ h tk, J (i + 1) h → h.IsListIter s.heap.objs.size l (i + 1) → R { s with heap := h, toks := tk }) → ∀ v h tk, i < items.size → items[i]? = some v → J i h → h.IsListIter s.heap.objs.size l (i + 1) → wpAny (model prog w) A (assign target env v) (fun _ s' => wpAny (model prog w) A (execs body env)
      (LoopQ R Q) (fun _ _ => False) s') (fun _ _ => False) { s with heap := h, toks := tk })
    (done : ∀ h tk, J items.size h → Q .next { s with heap := h, toks := tk })
    (h : wpAny (model prog w) A (eval iter env) (fun v s' => v = .ref l ∧ s' = s) (fun _ _ => False) s) :
    wpAny (model prog w) A (exec (.For target iter body [] pos) env) Q E s :=
  for_listIn hh hs (calm (wpAny_mono h (fun v s' e => by obtain ⟨rfl, rfl⟩ := e; exact ⟨l, items, J, rfl, hit, stable, hl, h0, turn, done⟩) fun _ _ x => x))
noncomputable def KeepBut2 (a b : Addr) (h h' : Heap) : Prop := ∀ c o, c ≠ a → c ≠ b → h.get? c = some o → h'.get? c = some o
/-- the state that an enumerate's loop carries -/
noncomputable def EnumSt (J : Nat → Heap → Prop) (e it l i : Nat) (h : Heap) : Prop := J i h ∧ (∃ old, IsEnum h e it (i : Int) old) ∧ h.IsListIter it l i
inductive EnumIn (prog : Program) (w : World) (A : Around) (env : Env) (xi xv : Str) (body : List Stmt) (Q : Flow → Shared → Prop) (val : Value) (s₁ : Shared) : Prop
  | mk : ∀ (e it l : Addr) (items : Array Value) (J : Nat → Heap → Prop), (val = .ref e) →
      (e ≠ it) →
      (l ≠ e) →
      (l ≠ it) →
      (IsEnum s₁.heap e it 0 .none) →
      (s₁.heap.IsListIter it l 0) →
      ((∀ i h h', J i h → KeepBut2 e it h h' → J i h')) →
      ((∀ i h, J i h → h.IsList l items)) →
      (J 0 s₁.heap) →
      ((∀ (R : Shared → Prop) i, (∀ h tk, J (i + 1) h → (∃ old, IsEnum h e it ((i + 1 : Nat) : Int) old) → h.IsListIter it l (i + 1) → R { s₁ with heap := h, toks := tk }) → ∀ v t h tk, i < items.size → items[i]? = some v → J i h → (∃ old, IsEnum h e it ((i + 1 : Nat) : Int) old) → h.IsListIter it l (i + 1) →
      wpAny (model prog w) A (storeName env xi (.int i t)) (fun _ s' => wpAny (model prog w) A (storeName env xv v) (fun _ s' => wpAny (model prog w) A (execs body env)
        (LoopQ R Q) (fun _ _ => False) s') (fun _ _ => False) s') (fun _ _ => False) { s₁ with heap := h, toks := tk })) →
      ((∀ h tk, J items.size h → Q .next { s₁ with heap := h, toks := tk })) → EnumIn prog w A env xi xv body Q val s₁
theorem for_enum {xi xv : Str} {pi pv pt pos : Pos} {x1} {iter : Expr} {body : List Stmt} (hh : A.handled = none) (hs : ∀ x, foldedSetIterable iter env x = pure x)
    (h : wpAny (model prog w) A (eval iter env) (EnumIn prog w A env xi xv body Q) (fun _ _ => False) s) :
    wpAny (model prog w) A (exec (.For (.Tuple [.Name xi pi, .Name xv pv] x1 pt) iter body [] pos) env) Q E s := by
  refine wpAny_For (calm (wpAny_mono h (fun xval s₁ h₁ => ?_) fun _ _ x => x)) hs
  obtain ⟨e, it, l, items, J, rfl, hei, hle, hli, he, hit, stable, hl, h0, turn, done⟩ := h₁
  refine wpAny_pyIter_enum he ?_
  refine codeAny_forLoop_any (UpTo (items.size) fun i => HeapIs s₁ (EnumSt J e it l i)) ?_ (items.size + 1)
    ⟨0, ⟨_, _, rfl, h0, ⟨_, he⟩, hit⟩, Nat.zero_le _, rfl⟩
  rintro k s' ⟨i, ⟨H, tk, rfl, hJ, ⟨old, he'⟩, hit'⟩, hi, rfl⟩
  have hl' := hl i H hJ
  cases hv : items[i]? with
  | none =>
    have hsz : i = items.size := Nat.le_antisymm hi (by simpa using hv)
    refine calm (wpAny_pyNext_enum_end hh he' hit' hl' hv fun h₁ he₁ => wpAny_execs_nil ?_)
    subst hsz
    exact done h₁ tk (stable _ _ _ hJ fun c o _ hb x => he₁ c o hb x)
  | some v =>
    have hlt : i < items.size := (Array.getElem?_eq_some_iff.mp hv).1
    have heH : e < H.objs.size := Heap.lt_size he'
    obtain ⟨oi, hoi, _⟩ := id hit'
    have hiH : it < H.objs.size := Heap.lt_size hoi
    refine calm (wpAny_pyNext_enum_item he' hit' hl' hv hei fun h₁ heo hit₁ ht₁ hz₁ hk₁ => ?_)
    refine wpAny_letOwnedTupleGo_enum heo fun h₂ he₂ hs₂ => ?_
    replace hs₂ : Heap.SameBut e h₁ h₂ := hs₂
    have ht₂ : h₂.IsTuple H.objs.size #[.int i tk, v] := ⟨_, (hs₂.2 _ (Nat.ne_of_gt heH)).trans ht₁, rfl, _, rfl⟩
    have hz₂ : h₂.objs.size = H.objs.size + 1 := hs₂.1.trans hz₁
    refine wpAny_assign_Tuple hh ht₂ rfl rfl fun h₃ hx₃ => ?_
    replace hx₃ : Heap.ExtBut h₂.objs.size h₂ h₃ := hx₃
    have old₃ : ∀ b o, b < H.objs.size → h₂.get? b = some o → h₃.get? b = some o := fun b o hb x => hx₃ b o (by rw [hz₂]; exact Nat.ne_of_lt (Nat.lt_succ_of_lt hb)) x
    have hJ₃ : J i h₃ := stable _ _ _ hJ fun c o h1 h2 x => old₃ c o (Heap.lt_size x) ((hs₂.2 c h1).trans (hk₁ c o h1 h2 x))
    have hi1 : ((i + 1 : Nat) : Int) = (i : Int) + 1 := by push_cast; rfl
    have he₃ : IsEnum h₃ e it ((i + 1 : Nat) : Int) v := by rw [hi1]; exact old₃ e _ heH he₂
    have hit₃ : h₃.IsListIter it l (i + 1) := (hit₁.extBut hs₂.extBut (Ne.symm hei)).at fun o x => old₃ it o hiH x
    show wpAny _ A (do holding [v] (assign (.Name xi pi) env (.int i tk)); do holding [] (assign (.Name xv pv) env v); pure ()) _ _ _
    have T := turn (HeapIs s₁ (EnumSt J e it l (i + 1))) i (fun h tk a b c => ⟨h, tk, rfl, a, b, c⟩) v tk h₃ (tk + 1) hlt hv hJ₃ ⟨_, he₃⟩ hit₃
    refine wpAny_bind (wpAny_holding (wpAny_assign_Name (calm (wpAny_mono T (fun _ s₄ h₄ => ?_) fun _ _ x => x))))
    refine wpAny_bind (wpAny_holding (wpAny_assign_Name (calm (wpAny_mono h₄ (fun _ s₅ h₅ => ?_) fun _ _ x => x))))
    refine wpAny_pure (calm (wpAny_mono h₅ (fun f s₆ h₆ => ?_) fun _ _ x => x))
    have fin : HeapIs s₁ (EnumSt J e it l (i + 1)) s₆ → ∃ m, m < items.size + 1 - i ∧ UpTo (items.size) (fun j => HeapIs s₁ (EnumSt J e it l j)) m s₆ :=
      fun q => ⟨items.size + 1 - (i + 1), by omega, i + 1, q, hlt, rfl⟩
    cases f with
    | next => exact fin h₆
    | cont => exact fin h₆
    | brk => exact h₆
    | ret v => exact h₆
end
end Mine
end

section
theorem Mine.rst_CPL : True ∧ True := by
  w_top off
  first | (walk1; fail "laid") | exact ⟨trivial, trivial⟩
open PySem PySem.W PyProof.Rows PySem.Calls
set_option linter.unusedVariables false
namespace Mine
/-- an element of split_paths: the pieces of a text -/
inductive ElSplit (g : Heap) (v y : Value) : Prop
  | mk : ∀ T c u, (v = .str c u) →
      (y = .ref T) →
      (StrsAt g T (Txt.split c slash)) → ElSplit g v y
theorem ElSplit.mono (g g' : Heap) (v y : Value) (st : g.StaysIn g') (h : ElSplit g v y) : ElSplit g' v y := by
  obtain ⟨T, c, u, h1, h2, h3⟩ := h
  exact ⟨T, c, u, h1, h2, h3.keeps fun o e => st T o e⟩
theorem EltEnd.of {s : Shared} {C : Addr} {base h₃ h₄ : Heap} {hide : List Addr} {El : Heap → Value → Value → Prop} {v y : Value} {m₄ : Str → Option Value} {news : List (Addr × Obj)} {tk : Nat}
    (st : base.StaysIn h₃) (F4 : Fr base C h₄ m₄) (N4 : News base C h₄ news) (sub : ∀ p ∈ fullOf base C h₃, p ∈ news) (e : El (hideAll h₄ hide) v y) : EltEnd s C h₃ hide El v y { s with heap := h₄, toks := tk } :=
  ⟨h₄, tk, m₄, rfl, keep_of st F4 N4 sub, F4.ns, e⟩
/-- a new list of texts, seen with things hidden -/
theorem StrsAt.new {h h' : Heap} {l : List (Str × Tok)} {c : Nat} {hide : List Addr} (ho : h'.get? h.objs.size = some (lstO (strValues l).toArray c)) (hh : ∀ a ∈ hide, ∃ o, h.get? a = some o) : StrsAt (hideAll h' hide) h.objs.size (l.map (·.1)) :=
  ⟨l, c, rfl, hideAll_get hide ho fun hm => let ⟨_, e⟩ := hh _ hm; Nat.lt_irrefl _ (Heap.lt_size e)⟩
theorem KeepBut.fr {h₀ h h' : Heap} {L : Addr} {m m' : Str → Option Value} (F : Fr h₀ L h m) (kb : KeepBut L h h') (hn : h'.Ns L m') : Fr h₀ L h' m' :=
  ⟨hn, fun b o e => kb b o (Nat.ne_of_lt (Nat.lt_of_lt_of_le (Heap.lt_size e) F.above)) (F.keep b o e), F.above⟩
theorem KeepBut.news {h₀ h h' : Heap} {L : Addr} {news : List (Addr × Obj)} (N : News h₀ L h news) (kb : KeepBut L h h') : News h₀ L h' news :=
  fun p hp => ⟨kb _ _ (N p hp).2.1 (N p hp).1, (N p hp).2⟩
theorem News.put {h₀ h h' : Heap} {L D : Addr} {o : Obj} {m : Str → Option Value} {news : List (Addr × Obj)} (F : Fr h₀ L h m) (nD : h.get? D = none) (ho : h'.get? D = some o) (N : News h₀ L h' news) : News h₀ L h' ((D, o) :: news) := by
  intro p hp
  rcases List.mem_cons.mp hp with rfl | hp
  · refine ⟨ho, fun q => ?_, none_of_stays F.keep nD⟩
    obtain ⟨o', _, _, e, _⟩ := F.ns
    have q' : D = L := q
    rw [q', e] at nD; cases nD
  · exact N p hp
theorem Rm.unitD {A : Around} {k : Nat} {env : Env} (h : Rm A (k + 1)) : (A.deeper env).units + 2 < cLine := by
  have := h.units
  show A.units + 3 + 2 < cLine
  unfold cLine; lia
theorem assign_set1 {prog : Program} {w : World} {A : Around} {s : Shared} {E : Value → Shared → Prop} {env : Env} {x : Str} {px pos : Pos} {k : Nat} {S : Addr} {b : Bool} {Q : Unit → Shared → Prop} (hh : A.handled = none)
    (hS : s.heap.get? S = some (setO1 (!w.params.followText "set-order") b)) (h : ∀ h', s.heap.StaysIn h' → wpAny (model prog w) A (storeName env x (.bool b)) Q E { s with heap := h' }) :
    wpAny (model prog w) A (assign (.Tuple [.Name x px] k pos) env (.ref S)) Q E s := by
  rw [arm_assign_Tuple]
  refine wpAny_bind (wpAny_standAt ?_)
  unfold unpack
  refine wpAny_bind (wpAny_holding ?_)
  show wpAny _ _ (unpackItems (.ref S) 1 none) _ _ _
  refine unpack_set1 hh hS fun h' st => ?_
  show wpAny _ _ (assignInOrder [assign (.Name x px) env] [.bool b]) _ _ _
  unfold assignInOrder
  refine wpAny_bind (wpAny_assign_Name (wpAny_mono (h h' st) (fun _ _ q => ?_) fun _ _ e => e))
  unfold assignInOrder
  exact wpAny_pure q
theorem News.join {h₀ h : Heap} {L : Addr} {n1 n2 : List (Addr × Obj)} (a : News h₀ L h n1) (b : News h₀ L h n2) : News h₀ L h (n1 ++ n2) := fun p hp => (List.mem_append.mp hp).elim (a p) (b p)
theorem StrsAt.but {h h' : Heap} {L a : Addr} {hide : List Addr} {xs : List Str} (x : StrsAt (hideAll h hide) a xs) (hL : L ∈ hide) (kb : KeepBut L h h') : StrsAt h' a xs := by
  obtain ⟨l, c, e, ho⟩ := x
  have h2 := hideAll_mem ho
  exact ⟨l, c, e, kb _ _ (fun q => h2.2 (q ▸ hL)) h2.1⟩
/-- the lists of pieces, one for each text -/
noncomputable def PieceLists (g : Heap) (f : Str → List Str) (cs : List Str) (ys : List Value) : Prop := Paired (fun c y => ∃ T, y = .ref T ∧ StrsAt g T (f c)) cs ys
theorem pieceLists_of {h h' : Heap} {L : Addr} {hide : List Addr} {l : List (Str × Tok)} {ys : List Value} (hL : L ∈ hide) (kb : KeepBut L h h') (p : Paired (ElSplit (hideAll h hide)) (strValues l) ys) : PieceLists h' (fun c => Txt.split c slash) (l.map (·.1)) ys := by
  unfold PieceLists
  induction l generalizing ys with
  | nil => cases p; exact .nil
  | cons z l ih =>
    cases p with
    | cons e r =>
      obtain ⟨T, c, u, e1, e2, e3⟩ := e
      injection e1 with e1 _
      subst e1
      exact .cons ⟨T, e2, e3.but hL kb⟩ (ih r)
/-- an element of the second list: what is left of the pieces -/
inductive ElKept (H : Heap) (g : Heap) (v y : Value) : Prop
  | mk : ∀ V T xs, (v = .ref V) →
      (StrsAt H V xs) →
      (y = .ref T) →
      (StrsAt g T (xs.filter okPiece)) → ElKept H g v y
theorem ElKept.mono (H g g' : Heap) (v y : Value) (st : g.StaysIn g') (h : ElKept H g v y) : ElKept H g' v y := by
  obtain ⟨V, T, xs, h1, h2, h3, h4⟩ := h
  exact ⟨V, T, xs, h1, h2, h3, h4.keeps fun o e => st T o e⟩
theorem PieceLists.get {g : Heap} {f : Str → List Str} {cs : List Str} {ys : List Value} (p : PieceLists g f cs ys) {i : Nat} {v : Value} (h : ys[i]? = some v) : ∃ T c, v = .ref T ∧ StrsAt g T (f c) ∧ c ∈ cs := by
  unfold PieceLists at p
  induction p generalizing i with
  | nil => simp at h
  | cons a r ih =>
    cases i with
    | zero =>
      simp at h; subst h
      obtain ⟨T, e1, e2⟩ := a
      exact ⟨T, _, e1, e2, List.mem_cons_self ..⟩
    | succ i =>
      simp at h
      obtain ⟨T, c, e1, e2, e3⟩ := ih h
      exact ⟨T, c, e1, e2, List.mem_cons_of_mem _ e3⟩
theorem strValues_inj : ∀ {a b : List (Str × Tok)}, strValues a = strValues b → a = b
  | [], [], _ => rfl
  | [], _ :: _, h => by simp [strValues] at h
  | _ :: _, [], h => by simp [strValues] at h
  | (x, t) :: a, (y, u) :: b, h => by
    simp only [strValues, List.map_cons, List.cons.injEq, Value.str.injEq] at h
    obtain ⟨⟨h1, h2⟩, h3⟩ := h
    rw [h1, h2, strValues_inj (a := a) (b := b) h3]
theorem StrsAt.inj {h : Heap} {a : Addr} {xs ys : List Str} (x : StrsAt h a xs) (y : StrsAt h a ys) : xs = ys := by
  obtain ⟨l, c, rfl, e⟩ := x
  obtain ⟨l2, c2, rfl, e2⟩ := y
  rw [e] at e2
  injection e2 with e2
  injection e2 with _ _ e2 _
  injection e2 with e2 _
  have : strValues l = strValues l2 := by simpa using e2
  rw [strValues_inj this]
theorem pieceLists_comb {h7 h8 : Heap} {hide : List Addr} : ∀ {cs : List Str} {ys zs : List Value}, PieceLists h7 (fun c => Txt.split c slash) cs ys → Paired (ElKept h7 (hideAll h8 hide)) ys zs → PieceLists h8 piecesF cs zs := by
  intro cs ys zs p q
  unfold PieceLists at p ⊢
  induction p generalizing zs with
  | nil => cases q; exact .nil
  | cons a r ih =>
    cases q with
    | cons b r2 =>
      obtain ⟨T, rfl, e2⟩ := a
      obtain ⟨V, T2, xs, f1, f2, f3, f4⟩ := b
      injection f1 with f1
      subst f1
      have := e2.inj f2
      subst this
      refine .cons ⟨T2, f3, ?_⟩ (ih r2)
      obtain ⟨l, c, g1, g2⟩ := f4
      exact ⟨l, c, g1, of_hideAll _ g2⟩
theorem PieceLists.mono {h h' : Heap} {f : Str → List Str} {cs : List Str} {ys : List Value} (p : PieceLists h f cs ys) (k : ∀ T xs, Value.ref T ∈ ys → StrsAt h T xs → StrsAt h' T xs) : PieceLists h' f cs ys := by
  unfold PieceLists at p ⊢
  induction p with
  | nil => exact .nil
  | cons a r ih =>
    obtain ⟨T, rfl, e2⟩ := a
    exact .cons ⟨T, rfl, k T _ (List.mem_cons_self ..) e2⟩ (ih fun T xs hT => k T xs (List.mem_cons_of_mem _ hT))
theorem okV_tt {c : Str} {u : Tok} (h1 : ((c.length : Nat) : Int) ≠ 0) (h2 : (c != Str.ofString ".") = true) : true = okPieceV (.str c u) := by
  symm
  show okPiece c = true
  rw [okPiece_iff]
  exact ⟨fun q => h1 (by rw [q]; rfl), bne_iff_ne.mp h2⟩
theorem okV_tf {c : Str} {u : Tok} (h2 : (c != Str.ofString ".") = false) : false = okPieceV (.str c u) := by
  symm
  show okPiece c = false
  cases q : okPiece c with
  | false => rfl
  | true => exact absurd h2 (by rw [bne_iff_ne.mpr (okPiece_iff.mp q).2]; exact Bool.noConfusion)
theorem okV_f {c : Str} {u : Tok} (h1 : ((c.length : Nat) : Int) = 0) : false = okPieceV (.str c u) := by
  symm
  show okPiece c = false
  cases q : okPiece c with
  | false => rfl
  | true =>
    have := (okPiece_iff.mp q).1
    refine absurd ?_ this
    rw [ofString_empty]
    apply ls_ext
    have h2 : (ls c).length = 0 := by rw [← ls_len]; exact_mod_cast h1
    rw [List.length_eq_zero_iff.mp h2]; rfl
theorem in4 {h : Heap} {a b c d : Addr} (ha : ∃ o, h.get? a = some o) (hb : ∃ o, h.get? b = some o) (hc : ∃ o, h.get? c = some o) (hd : ∃ o, h.get? d = some o) : ∀ x ∈ [a, b, c, d], ∃ o, h.get? x = some o := by
  intro x hx
  simp only [List.mem_cons, List.not_mem_nil, or_false] at hx
  rcases hx with rfl | rfl | rfl | rfl <;> assumption
theorem Ns.here {h : Heap} {a : Addr} {m : Str → Option Value} (n : h.Ns a m) : ∃ o, h.get? a = some o := let ⟨o, _, _, e, _⟩ := n; ⟨o, e⟩
/-- the name of the least list, as min finds it; of the greatest, as max does -/
noncomputable def minF (L : List (List Str)) : List Str := L.getD (argBest (fun i j => namesLt (L.getD i []) (L.getD j [])) (L.length - 1)) []
noncomputable def maxF (L : List (List Str)) : List Str := L.getD (argBest (fun i j => namesLt (L.getD j []) (L.getD i [])) (L.length - 1)) []
theorem PieceLists.length {g : Heap} {f : Str → List Str} {cs : List Str} {ys : List Value} (p : PieceLists g f cs ys) : cs.length = ys.length := Paired.length p
theorem PieceLists.at {g : Heap} {f : Str → List Str} {cs : List Str} {ys : List Value} (p : PieceLists g f cs ys) {i : Nat} {v : Value} (h : ys[i]? = some v) : ∃ T, v = .ref T ∧ StrsAt g T ((cs.map f).getD i []) := by
  unfold PieceLists at p
  induction p generalizing i with
  | nil => simp at h
  | cons a r ih =>
    cases i with
    | zero =>
      simp at h; subst h
      obtain ⟨T, e1, e2⟩ := a
      exact ⟨T, e1, by simpa using e2⟩
    | succ i =>
      simp at h
      obtain ⟨T, e1, e2⟩ := ih h
      exact ⟨T, e1, by simpa using e2⟩
section
variable {prog : Program} {w : World} {A : Around} {E : Value → Shared → Prop} {s : Shared} {D : Addr} {zs : Array Value} {c : Nat} {f : Str → List Str} {cs : List Str} {Q : Value → Shared → Prop}
theorem min_lists (hh : A.handled = none) (hu : A.in1.units < cLine) (ho : s.heap.get? D = some (lstO zs c)) (hn : 0 < zs.size) (PL : PieceLists s.heap f cs zs.toList)
    (hQ : ∀ T h' tk, s.heap.StaysIn h' → StrsAt s.heap T (minF (cs.map f)) → Q (.ref T) { s with heap := h', toks := tk }) : wpAny (model prog w) A (call (.builtin "min") [.ref D]) Q E s := by
  have hlen : zs.size = (cs.map f).length := by rw [List.length_map, PL.length]; simp
  refine call_min_list hh (fun i j => namesLt ((cs.map f).getD i []) ((cs.map f).getD j [])) ⟨_, ho, rfl, _, rfl⟩ hn (fun i j vi vj h' tk hi hj st => ?_) (fun v h' tk hv st => ?_)
  · obtain ⟨T1, rfl, e1⟩ := PL.at (i := i) (v := vi) (by simpa using hi)
    obtain ⟨T2, rfl, e2⟩ := PL.at (i := j) (v := vj) (by simpa using hj)
    exact StrsAt.lt (e1.keeps fun o e => st _ o e) (e2.keeps fun o e => st _ o e) hu
  · rw [hlen] at hv
    obtain ⟨T, rfl, e⟩ := PL.at (i := _) (v := v) (by rw [Array.getElem?_toList]; exact hv)
    exact hQ T h' tk st e
theorem max_lists (hh : A.handled = none) (hu : A.in1.units < cLine) (ho : s.heap.get? D = some (lstO zs c)) (hn : 0 < zs.size) (PL : PieceLists s.heap f cs zs.toList)
    (hQ : ∀ T h' tk, s.heap.StaysIn h' → StrsAt s.heap T (maxF (cs.map f)) → Q (.ref T) { s with heap := h', toks := tk }) : wpAny (model prog w) A (call (.builtin "max") [.ref D]) Q E s := by
  have hlen : zs.size = (cs.map f).length := by rw [List.length_map, PL.length]; simp
  refine call_max_list hh (fun i j => namesLt ((cs.map f).getD j []) ((cs.map f).getD i [])) ⟨_, ho, rfl, _, rfl⟩ hn (fun i j vi vj h' tk hi hj st => ?_) (fun v h' tk hv st => ?_)
  · obtain ⟨T1, rfl, e1⟩ := PL.at (i := i) (v := vi) (by simpa using hi)
    obtain ⟨T2, rfl, e2⟩ := PL.at (i := j) (v := vj) (by simpa using hj)
    exact StrsAt.gt (e1.keeps fun o e => st _ o e) (e2.keeps fun o e => st _ o e) hu
  · rw [hlen] at hv
    obtain ⟨T, rfl, e⟩ := PL.at (i := _) (v := v) (by rw [Array.getElem?_toList]; exact hv)
    exact hQ T h' tk st e
end
theorem StrsAt.ne_ns {h : Heap} {T L : Addr} {xs : List Str} {m : Str → Option Value} (x : StrsAt h T xs) (n : h.Ns L m) : T ≠ L := by
  rintro rfl
  obtain ⟨l, c, _, e⟩ := x
  obtain ⟨o, es, ep, e2, e3, _⟩ := n
  rw [e] at e2
  cases e2
  cases e3
theorem StrsAt.kb {h h' : Heap} {T L : Addr} {xs : List Str} {m : Str → Option Value} (x : StrsAt h T xs) (n : h.Ns L m) (kb : KeepBut L h h') : StrsAt h' T xs := x.keeps fun o e => kb _ _ (x.ne_ns n) e
/-- the common front -/
noncomputable def lcpF : List Str → List Str → List Str
  | a :: as, b :: bs => if a = b then a :: lcpF as bs else []
  | _, _ => []
theorem lcpF_brk : ∀ {xs ys : List Str} {i : Nat} {a b : Str}, xs.take i = ys.take i → xs[i]? = some a → ys[i]? = some b → a ≠ b → lcpF xs ys = xs.take i
  | x :: xs, y :: ys, 0, a, b, _, ha, hb, hne => by
    simp at ha hb; subst ha hb
    simp [lcpF, hne]
  | x :: xs, y :: ys, i + 1, a, b, ht, ha, hb, hne => by
    simp at ht ha hb
    simp [lcpF, ht.1, lcpF_brk ht.2 ha hb hne]
  | [], _, _, _, _, _, ha, _, _ => by simp at ha
  | _ :: _, [], _, _, _, _, _, hb, _ => by simp at hb
theorem lcpF_all : ∀ {xs ys : List Str}, xs = ys.take xs.length → lcpF xs ys = xs
  | [], _, _ => by simp [lcpF]
  | x :: xs, [], h => by simp at h
  | x :: xs, y :: ys, h => by
    simp at h
    simp [lcpF, h.1, lcpF_all h.2]
theorem namesLt_ext : ∀ {xs ys : List Str} {i : Nat}, namesLt ys xs = false → xs.take i = ys.take i → i < xs.length → i < ys.length
  | x :: xs, [], _, h, _, _ => by simp [namesLt, lexLt] at h
  | x :: xs, y :: ys, 0, _, _, _ => by simp
  | x :: xs, y :: ys, i + 1, h, ht, hi => by
    simp at ht hi ⊢
    obtain ⟨h1, h2⟩ := ht
    subst h1
    have : namesLt ys xs = false := by simpa [namesLt, lexLt] using h
    exact namesLt_ext this h2 hi
theorem EnumIn.of_rest {prog : Program} {w : World} {A : Around} {env : Env} {xi xv : Str} {body : List Stmt} {Q : Flow → Shared → Prop} {val : Value} {s₁ : Shared} (Rest : Heap → Prop)
    (hrest : ∀ h tk, Rest h → Q .next { s₁ with heap := h, toks := tk })
    (hmain : ∀ Q' : Flow → Shared → Prop, (∀ h tk, Rest h → Q' .next { s₁ with heap := h, toks := tk }) → EnumIn prog w A env xi xv body Q' val s₁) : EnumIn prog w A env xi xv body Q val s₁ := hmain Q hrest
/-- what a list of texts gives at a place -/
theorem StrsAt.item {h : Heap} {T : Addr} {xs : List Str} (x : StrsAt h T xs) : ∃ l c, xs = l.map (·.1) ∧ h.get? T = some (lstO (strValues l).toArray c) := by
  obtain ⟨l, c, e1, e2⟩ := x; exact ⟨l, c, e1.symm, e2⟩
theorem item_str {prog : Program} {w : World} {A : Around} {E : Value → Shared → Prop} {s : Shared} {value slice : Expr} {T : Addr} {l : List (Str × Tok)} {c i : Nat} {u : Tok} {x : Str} {Q : Value → Shared → Prop}
    (ho : s.heap.get? T = some (lstO (strValues l).toArray c)) (hi : i < 2 ^ 62) (hx : (l.map (·.1))[i]? = some x) (h : ∀ t, Q (.str x t) s)
    (hs : subscripted slice false (.ref T) (.int i u) = operate [.ref T, .int i u] (getItem (.ref T) (.int i u)) := by with_unfolding_all rfl) :
    wpAny (model prog w) A (subscriptTail value slice (.ref T) (.int i u)) Q E s := by
  rw [List.getElem?_map] at hx
  obtain ⟨⟨x', t⟩, h1, h2⟩ := Option.map_eq_some_iff.mp hx
  dsimp only at h2
  subst h2
  exact tail_any (Heap.IsList.typeIs (s := s) ⟨_, ho, rfl, _, rfl⟩) slot_list_getitem.lookup (wpAny_getItem_list ⟨_, ho, rfl, _, rfl⟩ (by lia) (by lia) (by simp [strValues, h1]) (h t)) hs
theorem pin {m : Str → Option Value} {x : Str} {v : Value} (h : m x = some v) : m = fun y => if y = x then some v else m y := by
  funext y
  by_cases q : y = x
  · rw [if_pos q, q, h]
  · rw [if_neg q]
theorem KeepBut.trans {L : Addr} {a b c : Heap} (x : KeepBut L a b) (y : KeepBut L b c) : KeepBut L a c := fun d o hd e => y d o hd (x d o hd e)
theorem KeepBut.of_stays {L : Addr} {a b : Heap} (x : a.StaysIn b) : KeepBut L a b := fun d o _ e => x d o e
theorem pin4 {m : Str → Option Value} {x1 x2 x3 x4 : Str} {v1 v2 v3 v4 : Value} (h1 : m x1 = some v1) (h2 : m x2 = some v2) (h3 : m x3 = some v3) (h4 : m x4 = some v4) :
    m = fun y => if y = x1 then some v1 else if y = x2 then some v2 else if y = x3 then some v3 else if y = x4 then some v4 else m y := by
  funext y
  by_cases q1 : y = x1
  · rw [if_pos q1, q1, h1]
  by_cases q2 : y = x2
  · rw [if_neg q1, if_pos q2, q2, h2]
  by_cases q3 : y = x3
  · rw [if_neg q1, if_neg q2, if_pos q3, q3, h3]
  by_cases q4 : y = x4
  · rw [if_neg q1, if_neg q2, if_neg q3, if_pos q4, q4, h4]
  · rw [if_neg q1, if_neg q2, if_neg q3, if_neg q4]
theorem KeepBut.fr' {h₀ hD h : Heap} {L : Addr} {m : Str → Option Value} (k : h₀.StaysIn hD) (a : h₀.objs.size ≤ L) (kb : KeepBut L hD h) (hn : h.Ns L m) : Fr h₀ L h m :=
  ⟨hn, fun b o e => kb b o (Nat.ne_of_lt (Nat.lt_of_lt_of_le (Heap.lt_size e) a)) (k b o e), a⟩
theorem argBest_le (bt : Nat → Nat → Bool) : ∀ n, argBest bt n ≤ n
  | 0 => Nat.le_refl _
  | n + 1 => by
    have := argBest_le bt n
    simp only [argBest]
    split <;> lia
theorem minF_mem {L : List (List Str)} (h : 0 < L.length) : minF L ∈ L := by
  unfold minF
  have := argBest_le (fun i j => namesLt (L.getD i []) (L.getD j [])) (L.length - 1)
  rw [List.getD_eq_getElem?_getD, List.getElem?_eq_getElem (by lia), Option.getD_some]
  exact List.getElem_mem _
theorem minF_len {cs : List Str} {n : Nat} (h : 0 < cs.length) (hc : ∀ c ∈ cs, c.length ≤ n) : (minF (cs.map piecesF)).length ≤ n + 1 := by
  obtain ⟨c, hc1, hc2⟩ := List.mem_map.mp (minF_mem (L := cs.map piecesF) (by simpa using h))
  rw [← hc2]
  have h1 := List.length_filter_le okPiece (Txt.split c slash)
  have h2 := split_len' c
  have h3 := hc c hc1
  show (piecesF c).length ≤ _
  unfold piecesF
  lia
theorem slicePick_to (items : Array Value) (i : Nat) (h : i ≤ items.size) : slicePick items none (some (i : Int)) none = (items.toList.take i).toArray := by
  have e : slicePick items none (some (i : Int)) none = slicePick items (some ((0 : Nat) : Int)) (some (i : Int)) none := by
    have e0 : max (0 : Int) (min 0 (items.size : Int)) = 0 := by lia
    unfold slicePick sliceBounds
    simp [e0]
  rw [e, slicePick_run items 0 i h (Nat.zero_le _)]
  simp
theorem take_succ_eq {xs ys : List Str} {i : Nat} {a : Str} (h : xs.take i = ys.take i) (hx : xs[i]? = some a) (hy : ys[i]? = some a) : xs.take (i + 1) = ys.take (i + 1) := by
  rw [List.take_add_one, List.take_add_one, h, hx, hy]
theorem strValues_take (l : List (Str × Tok)) (i : Nat) : (strValues l).take i = strValues (l.take i) := by simp [strValues, List.map_take]
theorem lcpF_sub : ∀ {xs ys : List Str} {p : Str}, p ∈ lcpF xs ys → p ∈ xs
  | a :: as, b :: bs, p, h => by
    simp only [lcpF] at h
    split at h
    · rcases List.mem_cons.mp h with h | h
      · simp [h]
      · exact List.mem_cons_of_mem _ (lcpF_sub h)
    · simp at h
  | [], _, _, h => by simp [lcpF] at h
  | _ :: _, [], _, h => by simp [lcpF] at h
theorem lcpF_len : ∀ (xs ys : List Str), (lcpF xs ys).length ≤ xs.length
  | a :: as, b :: bs => by
    have := lcpF_len as bs
    simp only [lcpF]
    split <;> simp; lia
  | [], _ => by simp [lcpF]
  | _ :: _, [] => by simp [lcpF]
theorem sum_len_le {B : Nat} (texts : List Str) (h : ∀ y ∈ texts, y.length ≤ B) : (texts.map (·.length)).sum ≤ texts.length * B := StrLaws.sumLen_le texts h
theorem minF_piece {cs : List Str} {n : Nat} (h : 0 < cs.length) (hc : ∀ c ∈ cs, c.length ≤ n) : ∀ p ∈ minF (cs.map piecesF), p.length ≤ n := by
  intro p hp
  obtain ⟨c, hc1, hc2⟩ := List.mem_map.mp (minF_mem (L := cs.map piecesF) (by simpa using h))
  rw [← hc2] at hp
  exact Nat.le_trans (split_mem_len (List.mem_filter.mp hp).1) (hc c hc1)
theorem join_eq (ns : List Str) : Txt.join slash ns = Str.join slash ns := StrLaws.glued_eq_join slash ns
theorem join_len_le {ns : List Str} {n B : Nat} (h1 : ns.length ≤ n) (h2 : ∀ p ∈ ns, p.length ≤ B) : (ns.map (·.length)).sum + ns.length * slash.length ≤ n * B + n := by
  have := sum_len_le ns h2
  have h3 : ns.length * B ≤ n * B := Nat.mul_le_mul_right _ h1
  have h4 : slash.length = 1 := by rw [slash_eq]; rfl
  rw [h4]; lia
end Mine
end

section
theorem Mine.rst_S5 : True ∧ True := by
  w_top off
  first | (walk1; fail "laid") | exact ⟨trivial, trivial⟩
open PySem PySem.W PyProof.Rows PySem.Calls
set_option linter.unusedVariables false
namespace Mine
theorem fill9 : (PySem.Challenge.rw_pd0049_01.prog = PySem.Challenge.rw_pd0049_01.prog) ∧ (∀ P, Mine.hd.heap_1 P = Mine.hd.heap_1 P) := by k_fill; exact ⟨rfl, fun _ => rfl⟩
local macro_rules | `(tactic| walk_at "sub") => `(tactic| (intro p hp; (repeat (first | exact hp | apply List.Mem.tail))))
local macro_rules | `(tactic| walk_at "call type:map") => `(tactic| (refine map_at (by k_asm) (by k_asm) (by k_asm) ?_; intro h' I' T' M' F' N' n1' n2' n3'))
local macro_rules | `(tactic| walk_at "call type:tuple") => `(tactic| (refine tuplemap_at (by k_asm) (by k_asm) (by k_asm) (by k_asm) (by walk_at "room") (by k_asm) (by k_asm) (by k_asm) (by k_asm) (by assumption) (by assumption) ?_; intro D' h' tk' F' N'))
local macro_rules | `(tactic| walk_at "exec Try") => `(tactic| (refine try_calm ?_))
local macro_rules | `(tactic| walk_at "exec Assign cons ListComp") => `(tactic| (refine comp_assign (cl := _) rfl rfl (by decide) rfl (by decide) rfl (fun _ => rfl) rfl rfl ?_))
local macro_rules | `(tactic| walk_at "eval Name") => `(tactic| ((first | with_reducible show wpAny _ _ (eval (Expr.Name (Str.ofString "sep") _) (compEnvC _ _ _ _)) _ _ _ | with_reducible show wpAny _ _ (eval (Expr.Name (Str.ofString "curdir") _) (compEnvC _ _ _ _)) _ _ _); k_dflt (refine' name_cellB ?x ?k ?c ?F ?v ?d ?_; (case x => kernel_rfl); (case k => rfl); (case c => rfl); (case F => k_asm); (case v => assumption); (case d => decide))))
local macro_rules | `(tactic| walk_at "truthy ref") => `(tactic| (refine truthy_tupYes (by k_asm) (by k_mem) (by assumption) (by assumption) ?_; intro tk'))
local macro_rules | `(tactic| walk_at "subscriptTail") => `(tactic| ((with_reducible show wpAny _ _ (subscriptTail _ _ (Value.ref _) (Value.int 0 _)) _ _ _); refine tup_first (by k_asm) (by k_mem) ?_))
local macro_rules | `(tactic| walk_at "eval SetComp") => `(tactic| (refine setcomp_eval (cl := _) (Rm.unitD (by assumption)) rfl (by decide) rfl (by decide) rfl (fun _ => rfl) ?_))
local macro_rules | `(tactic| walk_at "exec For Tuple Call") => `(tactic| (refine for_enum rfl (fun _ => rfl) ?_))
theorem withO3 {G : Prop} {h₀ h : Heap} {L : Addr} {x1 x2 x3 : Addr} {o1 o2 o3 : Obj} {r : List (Addr × Obj)} (N : News h₀ L h ((x1, o1) :: (x2, o2) :: (x3, o3) :: r)) (k : ∀ g y1 p2 p3, g = h → y1 = x1 → p2 = o2 → p3 = o3 → G) : G := k _ _ _ _ rfl rfl rfl rfl
theorem withP2 {G : Prop} {h₀ h : Heap} {L : Addr} {x1 x2 : Addr} {o1 o2 : Obj} {r : List (Addr × Obj)} (N : News h₀ L h ((x1, o1) :: (x2, o2) :: r)) (k : ∀ g y1 y2, g = h → y1 = x1 → y2 = x2 → G) : G := k _ _ _ rfl rfl rfl
inductive R5 (L : Addr) (b : Bool) (hD : Heap) (S1 S2 : List Str) (h : Heap) : Prop
  | mk : ∀ T3 m, (h.Ns L m) →
      (m (Str.ofString "isabs") = some (.bool b)) →
      (m (Str.ofString "common") = some (.ref T3)) →
      (KeepBut L hD h) →
      (StrsAt h T3 (lcpF S1 S2)) → R5 L b hD S1 S2 h
inductive J5 (L T1 T2 : Addr) (b : Bool) (hD : Heap) (S1 S2 : List Str) (i : Nat) (h : Heap) : Prop
  | mk : ∀ m, (h.Ns L m) →
      (m (Str.ofString "isabs") = some (.bool b)) →
      (m (Str.ofString "common") = some (.ref T1)) →
      (m (Str.ofString "s1") = some (.ref T1)) →
      (m (Str.ofString "s2") = some (.ref T2)) →
      (KeepBut L hD h) →
      (S1.take i = S2.take i) → J5 L T1 T2 b hD S1 S2 i h
theorem cp_spec {w : World} {A : Around} {s : Shared} {E : Value → Shared → Prop} {Q : Value → Shared → Prop} {x : Str} {t : Tok} {ps : List (Str × Tok)} {l : Addr} {b : Bool}
   (G : Gl w s.heap) (hR : Rm A 9) (hl : s.heap.IsList l (strValues ((x, t) :: ps)).toArray) (hz : ps.length ≤ 900) (hlen : ∀ z ∈ (x, t) :: ps, z.1.length ≤ 1000) (hb : ∀ z ∈ (x, t) :: ps, Txt.startswith z.1 slash = b)
   (hle : namesLt (maxF ((((x, t) :: ps).map (·.1)).map piecesF)) (minF ((((x, t) :: ps).map (·.1)).map piecesF)) = false)
   (h : ∀ t1 h' tk', s.heap.StaysIn h' → Q (.str (pathF b (lcpF (minF ((((x, t) :: ps).map (·.1)).map piecesF)) (maxF ((((x, t) :: ps).map (·.1)).map piecesF)))) t1) { s with heap := h', toks := tk' }) :
   wpAny (model PP w) A (call (.ref 134) [.ref l]) Q E s := by
  refine hideG fun hG0 kG0 => ?_
  obtain ⟨X, mean, mg, mb, T⟩ := G
  obtain ⟨hn, dp, fr, gd, un⟩ := A
  obtain rfl : hn = none := hR.handled
  refine kG0 ?_
  clear kG0 hG0
  refine call_defC (binds := [(Str.ofString "paths", .ref l)]) X T.nolimit (by k_is) (by k_is) (Rm.room hR) (BindsTo.of_eq rfl) rfl (by decide +kernel) rfl rfl rfl ?_
  intro h₁ L tk cells F N Y
  k_cells Y
  have hs0 : ∀ v ∈ (strValues ((x, t) :: ps)).toArray.toList, ∃ x t, v = Value.str x t := by
    intro v hv
    simp only [strValues, List.mem_map] at hv
    obtain ⟨z, _, rfl⟩ := hv
    exact ⟨_, _, rfl⟩
  have hz0 : (strValues ((x, t) :: ps)).toArray.size ≤ 1000 := by simp [strValues]; lia
  have hp0 : 0 < (strValues ((x, t) :: ps)).toArray.size := by simp [strValues]
  k_steps
  rename Fr _ _ _ _ => F3
  rename News _ _ _ _ => N3
  refine withO3 N3 ?_
  rintro hh3 d0 oD oS rfl rfl rfl rfl
  refine hideG fun hG0 kG0 => ?_
  obtain ⟨tk3, dS⟩ : ∃ tk, oS.data = .cell (some (.str (Str.ofString "/") tk)) := ⟨_, by assumption⟩
  obtain ⟨tkdot, dD⟩ : ∃ tk, oD.data = .cell (some (.str (Str.ofString ".") tk)) := ⟨_, by assumption⟩
  refine kG0 ?_
  clear kG0 hG0
  have hd0 : hh3.get? d0 = some (tupO (strValues ((x, t) :: ps)).toArray) := (N3 (d0, _) (.head _)).1
  have hoD : hh3.get? (L + 1 + 1) = some oD := (N3 (L + 1 + 1, oD) (.tail _ (.head _))).1
  have hoS : hh3.get? (L + 1) = some oS := (N3 (L + 1, oS) (.tail _ (.tail _ (.head _)))).1
  have hsep : hh3.IsCell (L + 1) (some (.str (Str.ofString "/") tk3)) := ⟨oS, hoS, dS⟩
  have hcur : hh3.IsCell (L + 1 + 1) (some (.str (Str.ofString ".") tkdot)) := ⟨oD, hoD, dD⟩
  refine ⟨(strValues ((x, t) :: ps)).toArray.size, fun i v => (strValues ((x, t) :: ps)).toArray[i]? = some v, fun _ => true, ElSplit, [L], _, List.Mem.head _, F3.ns, Src.tuple rfl ⟨_, hd0, rfl, 0, rfl⟩, (by unfold sizeLine; lia), ElSplit.mono, ?_, ?_⟩
  · intro C D I nC nD nI hC hCD hCI hDI
    have X3 := X.keeps F3.keep
    have T3 := T.keeps F3.keep
    have hL3 := Ns.here F3.ns
    clear F3 N3
    refine ⟨?_, ?_⟩
    · intro i v h₃ tk m₃ E' hP st hns hm _ _
      exact tests_nil ⟨rfl, h₃, tk, m₃, rfl, fun _ _ _ e => e, hns, hm⟩
    · intro i v h₃ tk m₃ E' hP hv st hns hm hD hI
      have F4 : Fr hh3 C h₃ m₃ := ⟨hns, st, hC⟩
      have N4 : News hh3 C h₃ (fullOf hh3 C h₃) := News.full
      refine hideG fun hG0 kG0 => ?_
      obtain ⟨c, u, rfl, hc⟩ := strValues_get hP
      have hcl : c.length ≤ 1000 := by
        obtain ⟨z, hz1, rfl⟩ := List.mem_map.mp hc
        exact hlen z hz1
      obtain ⟨fz, hfz⟩ : ∃ fz, fz = fullOf hh3 C h₃ := ⟨_, rfl⟩
      refine kG0 ?_
      clear kG0 hG0
      rw [← hfz] at N4
      k_steps
      rename_i l9 h9 k9 e9 _ _ _ F9 N9
      exact EltEnd.of st F9 N9 (fun p hp => List.Mem.tail _ (by rw [hfz]; exact hp)) ⟨_, _, _, rfl, rfl, e9 ▸ StrsAt.new (N9 _ (.head _)).1 (in4 (Ns.here hns) hD hI (hL3.imp fun o e => st _ _ e))⟩
  · intro D h4 tk4 ys vs kb hns4 nD4 hpl hln hP hPair
    refine hideG fun hG0 kG0 => ?_
    obtain ⟨c4, hD4⟩ := hpl
    have F4 := KeepBut.fr F3 kb hns4
    have N4 := News.put F3 nD4 hD4 (KeepBut.news N3 kb)
    have hsep4 : h4.IsCell (L + 1) (some (.str (Str.ofString "/") tk3)) := ⟨oS, (N4 (L + 1, oS) (.tail _ (.tail _ (.tail _ (.head _))))).1, dS⟩
    obtain ⟨fz4, hfz4⟩ : ∃ fz, fz = fullOf s.heap L h4 := ⟨_, rfl⟩
    refine kG0 ?_
    clear kG0 hG0
    have N4 : News s.heap L h4 ((D, lstO ys c4) :: (d0, tupO (strValues ((x, t) :: ps)).toArray) :: (L + 1 + 1, oD) :: (L + 1, oS) :: fz4) := News.join N4 (hfz4 ▸ News.full)
    have K4 := F4.keep
    clear kb hns4 F3 N3
    dsimp only
    iterate 4 walk_at "one"
    refine setcomp_eval (cl := _) (Rm.unitD hR) rfl (by decide) rfl (by decide) rfl (fun _ => rfl) ?_
    iterate 1 walk_at "one"
    refine ⟨(strValues ((x, t) :: ps)).toArray.size, fun i v => (strValues ((x, t) :: ps)).toArray[i]? = some v, b, Src.tuple rfl ⟨_, (N4 (d0, _) (.tail _ (.head _))).1, rfl, 0, rfl⟩, hp0, ?_, ?_⟩
    · intro C D I nC nD nI hC hCD hCI hDI
      have X3 := X.keeps F4.keep
      have T3 := T.keeps F4.keep
      clear F4 N4
      refine ⟨?_, ?_⟩
      · intro i v h₃ tk m₃ E' hP st hns hm _ _
        exact tests_nil ⟨rfl, h₃, tk, m₃, rfl, fun _ _ _ e => e, hns, hm⟩
      · intro i v h₃ tk m₃ E' hP hv st hns hm hD hI
        have F5 : Fr h4 C h₃ m₃ := ⟨hns, st, hC⟩
        have N5 : News h4 C h₃ (fullOf h4 C h₃) := News.full
        refine hideG fun hG0 kG0 => ?_
        obtain ⟨c, u, rfl, hc⟩ := strValues_get hP
        have hcl : Txt.startswith c (Str.ofString "/") = b := by
          obtain ⟨z, hz1, rfl⟩ := List.mem_map.mp hc
          exact hb z hz1
        obtain ⟨fz, hfz⟩ : ∃ fz, fz = fullOf h4 C h₃ := ⟨_, rfl⟩
        refine kG0 ?_
        clear kG0 hG0
        rw [← hfz] at N5
        k_steps
        exact EltEnd.of st F5 N5 (fun p hp => by rw [hfz]; exact hp) (by rw [hcl])
    · intro D5 h5 tk5 st5 nD5 hD5
      have F5 : Fr s.heap L h5 _ := ⟨F4.ns.keeps st5, fun b o e => st5 b o (F4.keep b o e), F4.above⟩
      have N5 := News.put F4 nD5 hD5 (News.stays N4 st5)
      clear F4 N4
      dsimp only
      refine assign_set1 rfl hD5 fun h6 st6 => ?_
      have F6 := Fr.stays F5 st6
      have N6 := News.stays N5 st6
      clear F5 N5
      k_steps
      rename_i h7 F7 N7
      have kb7 := keep_of K4 F7 N7 (fun p hp => by rw [hfz4]; exact .tail _ (.tail _ (.tail _ (.tail _ (.tail _ hp)))))
      have hvs : vs = strValues ((x, t) :: ps) := by have := vs_eq hln hP; simpa using this
      rw [hvs, List.filter_eq_self.mpr (fun _ _ => rfl)] at hPair
      have PL7 := pieceLists_of (by simp) kb7 hPair
      have hD7 : h7.get? D = some (lstO ys c4) := (N7 _ (.tail _ (.head _))).1
      have hoD7 : h7.get? (L + 1 + 1) = some oD := (N7 (L + 1 + 1, oD) (.tail _ (.tail _ (.tail _ (.head _))))).1
      have hcur7 : h7.IsCell (L + 1 + 1) (some (.str (Str.ofString ".") tkdot)) := ⟨oD, hoD7, dD⟩
      refine ⟨ys.size, fun i v => ys[i]? = some v, fun _ => true, ElKept h7, [L], _, List.Mem.head _, F7.ns, Src.list rfl ⟨_, hD7, rfl, _, rfl⟩, ?_, ElKept.mono h7, ?_, ?_⟩
      · have := PL7.length
        simp at this
        unfold sizeLine; lia
      · intro C D' I nC nD nI hC hCD hCI hDI
        have X3 := X.keeps F7.keep
        have T3 := T.keeps F7.keep
        have hL7 := Ns.here F7.ns
        clear F7 N7
        refine ⟨?_, ?_⟩
        · intro i v h₃ tk m₃ E' hP st hns hm _ _
          exact tests_nil ⟨rfl, h₃, tk, m₃, rfl, fun _ _ _ e => e, hns, hm⟩
        · intro i v h₃ tk m₃ E' hP hv st hns hm hD hI
          have F8 : Fr h7 C h₃ m₃ := ⟨hns, st, hC⟩
          have N8 : News h7 C h₃ (fullOf h7 C h₃) := News.full
          refine hideG fun hG0 kG0 => ?_
          obtain ⟨fz, hfz⟩ : ∃ fz, fz = fullOf h7 C h₃ := ⟨_, rfl⟩
          rw [← hfz] at N8
          obtain ⟨V, c, rfl, hSV, hc⟩ := PL7.get (i := i) (v := v) (by simpa using hP)
          obtain ⟨lv, cv, e1, hV⟩ := id hSV
          refine kG0 ?_
          clear kG0 hG0
          have hcl : c.length ≤ 1000 := by
            obtain ⟨z, hz1, rfl⟩ := List.mem_map.mp hc
            exact hlen z hz1
          refine comp_eval (cl := _) rfl (by decide) rfl (by decide) rfl (fun _ => rfl) ?_
          iterate 1 walk_at "one"
          refine ⟨(strValues lv).toArray.size, fun j u => (strValues lv).toArray[j]? = some u, okPieceV, fun _ v y => y = v, [], Src.list rfl ⟨_, st V _ hV, rfl, _, rfl⟩, ?_, fun _ _ _ _ _ e => e, ?_, ?_⟩
          · have := split_len' c
            rw [strValues_size, e1]
            unfold sizeLine
            lia
          · have hcur3 : h₃.IsCell (L + 1 + 1) (some (.str (Str.ofString ".") tkdot)) := hcur7.keeps st
            have X9 := X3.keeps st
            have T9 := T3.keeps st
            intro C2 D2 I2 nC2 nD2 nI2 hC2 hCD2 hCI2 hDI2
            clear F8 N8
            refine ⟨?_, ?_⟩
            · intro i2 v2 h₄ tk2 m₄ E2 hP2 st2 hns2 hm2 _ _
              refine tests_one ?_
              have F9 : Fr h₃ C2 h₄ m₄ := ⟨hns2, st2, hC2⟩
              have N9 : News h₃ C2 h₄ (fullOf h₃ C2 h₄) := News.full
              refine hideG fun hG0 kG0 => ?_
              obtain ⟨c2, u2, rfl, hc2⟩ := strValues_get hP2
              have hl2 : c2.length ≤ 1000 := Nat.le_trans (split_mem_len (e1 ▸ hc2)) hcl
              obtain ⟨fz2, hfz2⟩ : ∃ fz, fz = fullOf h₃ C2 h₄ := ⟨_, rfl⟩
              refine kG0 ?_
              clear kG0 hG0
              rw [← hfz2] at N9
              k_steps
              · exact ⟨okV_tt (by assumption) (by assumption), h₄, _, m₄, rfl, fun _ _ _ e => e, hns2, hm2⟩
              · exact ⟨okV_tf (by assumption), h₄, _, m₄, rfl, fun _ _ _ e => e, hns2, hm2⟩
              · exact ⟨okV_f (by assumption), h₄, _, m₄, rfl, fun _ _ _ e => e, hns2, hm2⟩
            · intro i2 v2 h₄ tk2 m₄ E2 hP2 hv2 st2 hns2 hm2 _ _
              have F9 : Fr h₃ C2 h₄ m₄ := ⟨hns2, st2, hC2⟩
              have N9 : News h₃ C2 h₄ (fullOf h₃ C2 h₄) := News.full
              obtain ⟨fz2, hfz2⟩ : ∃ fz, fz = fullOf h₃ C2 h₄ := ⟨_, rfl⟩
              rw [← hfz2] at N9
              k_steps
              exact EltEnd.of st2 F9 N9 (fun p hp => by rw [hfz2]; exact hp) rfl
          · intro D2 h5' tk5' ys2 vs2 st5' nD2 hpl2 hlen2 hvs2 hp2
            have hv := vs_eq hlen2 hvs2
            have hy := paired_eq hp2
            rw [hv, filter_strValues okPiece okPieceV (fun _ _ => rfl)] at hy
            obtain ⟨c9, h9⟩ := hpl2
            refine ⟨h5', tk5', m₃, rfl, fun b o _ e => st5' b o e, hns.keeps st5', V, D2, _, rfl, hSV, rfl, lv.filter fun z => okPiece z.1, c9, by rw [map_filter_fst, e1], hideAll_get _ (by rw [← hy]; exact h9) fun hm => ?_⟩
            obtain ⟨o, e⟩ := in4 (Ns.here hns) hD hI (hL7.imp fun o e => st _ _ e) _ hm
            rw [e] at nD2
            cases nD2
      · intro D3 h8 tk8 zs vs3 kb8 hns8 nD8 hpl8 hln8 hP8 hPair8
        refine hideG fun hG0 kG0 => ?_
        obtain ⟨c8, hD8⟩ := hpl8
        have F8 := KeepBut.fr F7 kb8 hns8
        obtain ⟨fz8, hfz8⟩ : ∃ fz, fz = fullOf s.heap L h8 := ⟨_, rfl⟩
        refine kG0 ?_
        clear kG0 hG0
        have hoS7 : h7.get? (L + 1) = some oS := (N7 (L + 1, oS) (.tail _ (.tail _ (.tail _ (.tail _ (.head _)))))).1
        have hneS : (L + 1) ≠ L := Nat.succ_ne_self L
        have N8 : News s.heap L h8 ((D3, lstO zs c8) :: (L + 1, oS) :: fz8) := by
          intro p hp
          rcases List.mem_cons.mp hp with rfl | hp
          · exact News.put F7 nD8 hD8 News.nil _ (.head _)
          · rcases List.mem_cons.mp hp with rfl | hp
            · exact ⟨kb8 _ _ hneS hoS7, (N7 _ (.tail _ (.tail _ (.tail _ (.tail _ (.head _)))))).2⟩
            · exact News.full _ (hfz8 ▸ hp)
        have hvs3 : vs3 = ys.toList := vs_eq hln8 hP8
        rw [hvs3, List.filter_eq_self.mpr (fun _ _ => rfl)] at hPair8
        have PL8 := pieceLists_comb PL7 hPair8
        have K8 : s.heap.StaysIn h8 := F8.keep
        have n8 := F8.ns
        clear F7 N7 kb7 kb8 hns8
        dsimp only
        iterate 8 walk_at "one"
        have hzs : 0 < zs.size := by
          have := PL8.length
          simp at this; lia
        have hu8 : (Around.deeper { handled := none, depth := dp, frames := fr, guards := gd, units := un } (envOfC (Str.ofString "commonpath") default 0 134 (.ref 133))).in1.units < cLine := Nat.lt_of_succ_lt (Rm.unitD hR)
        refine min_lists rfl hu8 ((N8 (D3, _) (.head _)).1) hzs PL8 ?_
        intro T1 h9 tk9 st9 hT1
        have F9 := Fr.stays F8 st9
        have N9 := News.stays N8 st9
        have K9 : h8.StaysIn h9 := st9
        iterate 10 walk_at "one"
        rename_i hA FA NA
        have kbA := keep_of K8 FA NA (fun p hp => by rw [hfz8]; exact .tail _ (.tail _ hp))
        have hDA : hA.get? D3 = some (lstO zs c8) := (NA (D3, _) (.head _)).1
        have PLA := PL8.mono fun T xs _ e => e.kb n8 kbA
        refine max_lists rfl hu8 hDA hzs PLA ?_
        intro T2 hB tkB stB hT2
        have FB := Fr.stays FA stB
        obtain ⟨fzB, hfzB⟩ : ∃ fz, fz = fullOf s.heap L hB := ⟨_, rfl⟩
        have NB : News s.heap L hB ((L + 1, oS) :: fzB) := News.join (n1 := [(L + 1, oS)]) (fun p hp => by rw [List.mem_singleton.mp hp]; exact News.stays NA stB _ (.tail _ (.head _))) (hfzB ▸ News.full)
        have hT1B : StrsAt hB T1 (minF _) := (hT1.kb n8 kbA).keeps fun o e => stB _ _ e
        have hT2B : StrsAt hB T2 (maxF _) := hT2.keeps fun o e => stB _ _ e
        have KB : s.heap.StaysIn hB := FB.keep
        have nB := FB.ns
        clear NA FA
        iterate 14 walk_at "one"
        rename_i hX tkD hD FD ND
        have kbD := keep_of KB FD ND (fun p hp => by rw [hfzB]; exact .tail _ hp)
        have hT1D := hT1B.kb nB kbD
        have hT2D := hT2B.kb nB kbD
        generalize hS1 : minF (List.map piecesF (List.map (·.1) ((x, t) :: ps))) = S1 at hT1D hle
        generalize hS2 : maxF (List.map piecesF (List.map (·.1) ((x, t) :: ps))) = S2 at hT2D hle
        have hoS' : hD.get? (L + 1) = some oS := (ND (L + 1, oS) (.head _)).1
        have nD := FD.ns
        have aD := FD.above
        have kD : s.heap.StaysIn hD := FD.keep
        have hT1n := hT1D.ne_ns nD
        have hT2n := hT2D.ne_ns nD
        refine hideG fun hG0 kG0 => ?_
        obtain ⟨l1, c1, e1, o1⟩ := hT1D.item
        obtain ⟨l2, c2, e2, o2⟩ := hT2D.item
        refine kG0 ?_
        clear kG0 hG0
        refine call_enumerate_1 o1 ?_
        intro hE hen hit hszE hkE
        have hLlt : L < hD.objs.size := nD.lt
        refine EnumIn.of_rest (R5 L b hD S1 S2) ?_ ?_
        · rintro hr tk1 ⟨T3, m, hn, q1, q2, q5, hT3⟩
          have hn' := hn
          rw [pin4 q1 q2 q1 q2] at hn'
          have FT := KeepBut.fr' kD aD q5 hn'
          refine hideG fun hG0 kG0 => ?_
          obtain ⟨l3, c3, e3, o3⟩ := hT3.item
          obtain ⟨fzR, hfzR⟩ : ∃ fz, fz = fullOf s.heap L hr := ⟨_, rfl⟩
          refine kG0 ?_
          clear kG0 hG0
          have NT : News s.heap L hr ((L + 1, oS) :: fzR) := News.join (n1 := [(L + 1, oS)]) (fun p hp => by rw [List.mem_singleton.mp hp]; exact ⟨q5 _ _ (Nat.succ_ne_self L) hoS', (ND _ (.head _)).2⟩) (hfzR ▸ News.full)
          have KR : s.heap.StaysIn hr := FT.keep
          have hcs : ∀ c ∈ ((x, t) :: ps).map (·.1), c.length ≤ 1000 := by
            intro c hc
            obtain ⟨z, hz1, rfl⟩ := List.mem_map.mp hc
            exact hlen z hz1
          have hjl : ((lcpF S1 S2).map (·.length)).sum + (lcpF S1 S2).length * slash.length ≤ 1001 * 1000 + 1001 := by
            refine join_len_le (Nat.le_trans (lcpF_len _ _) (hS1 ▸ minF_len (by simp) hcs)) fun p hp => ?_
            have := lcpF_sub hp
            rw [← hS1] at this
            exact minF_piece (by simp) hcs p this
          have hok := joinOk_of (Nat.le_trans hjl (by decide))
          have hjs : (Txt.join slash (lcpF S1 S2)).length ≤ 1002001 := by
            have := StrLaws.join_length_le slash (lcpF S1 S2)
            rw [join_eq]; lia
          rw [hS1, hS2] at h
          dsimp only
          k_steps
          · rename_i hbt hF FF NF
            have kF := keep_of KR FF NF (fun p hp => by rw [hfzR]; exact .tail _ hp)
            refine SC.join ⟨_, kF _ _ (hT3.ne_ns hn) o3, rfl, _, rfl⟩ e3.symm hok ?_
            intro t8 k8
            refine SB.add ?_ (Nat.le_trans (Nat.add_le_add (Nat.le_of_eq (show slash.length = 1 by rw [slash_eq]; rfl)) hjs) (by decide))
            intro t9 k9
            have e := h t9 hF k9 FF.keep
            subst hbt
            rw [join_eq]
            exact e
          · rename_i hbt _ _ _ _ hF FF NF
            have kF := keep_of KR FF NF (fun p hp => by rw [hfzR]; exact .tail _ hp)
            refine SC.join ⟨_, kF _ _ (hT3.ne_ns hn) o3, rfl, _, rfl⟩ e3.symm hok ?_
            intro t8 k8
            refine SB.add ?_ (Nat.le_trans (Nat.add_le_add (Nat.le_of_eq (show (Str.ofString "").length = 0 by decide +kernel)) hjs) (by decide))
            intro t9 k9
            have e := h t9 hF k9 FF.keep
            subst hbt
            rw [join_eq, ofString_empty]
            exact e
        · intro Q' hQ'
          refine ⟨_, _, T1, (strValues l1).toArray, (J5 L T1 T2 b hD S1 S2),
            rfl, Nat.succ_ne_self _, ?_, ?_, hen, hit, ?_, ?_, ?_, ?_, ?_⟩
          · exact Nat.ne_of_lt (Nat.lt_succ_of_lt (Heap.lt_size o1))
          · exact Nat.ne_of_lt (Heap.lt_size o1)
          · rintro i h h' ⟨m, hn, q1, q2, q3, q4, q5, q6⟩ kb
            have ne : ∀ b, b < hD.objs.size → b ≠ hD.objs.size + 1 ∧ b ≠ hD.objs.size := fun b hb => ⟨Nat.ne_of_lt (Nat.lt_succ_of_lt hb), Nat.ne_of_lt hb⟩
            exact ⟨m, hn.at' fun o e => kb _ _ (ne _ hLlt).1 (ne _ hLlt).2 e, q1, q2, q3, q4, fun b o hb e => kb _ _ (ne _ (Heap.lt_size e)).1 (ne _ (Heap.lt_size e)).2 (q5 b o hb e), q6⟩
          · rintro i h ⟨m, hn, q1, q2, q3, q4, q5, q6⟩
            exact ⟨_, q5 _ _ hT1n o1, rfl, _, rfl⟩
          · exact ⟨_, nD.keeps hkE, rfl, rfl, rfl, rfl, KeepBut.of_stays hkE, rfl⟩
          · rintro RW i hRW v t1 h tk1 hi hv ⟨m, hn, q1, q2, q3, q4, q5, q6⟩ hen1 hit1
            have hsz : (strValues l1).toArray.size = S1.length := by rw [e1]; simp [strValues]
            rw [hsz] at hi
            have hi2 : i < S2.length := namesLt_ext hle q6 hi
            have hSl : S1.length ≤ 1001 := by
              rw [← hS1]
              refine minF_len (by simp) fun c hc => ?_
              obtain ⟨z, hz1, rfl⟩ := List.mem_map.mp hc
              exact hlen z hz1
            have hil : i < l1.length := by rw [e1] at hi; simpa using hi
            refine hideG fun hG0 kG0 => ?_
            obtain ⟨⟨cx, ct⟩, hz1⟩ : ∃ z, l1[i]? = some z := ⟨l1[i], by simp⟩
            have hx1 : S1[i]? = some cx := by rw [e1, List.getElem?_map, hz1]; rfl
            have hx2 : (l2.map (·.1))[i]? = some S2[i] := by rw [← e2]; simp [hi2]
            obtain rfl : v = .str cx ct := by
              simp [strValues, hz1] at hv
              exact hv.symm
            refine kG0 ?_
            clear kG0 hG0
            have hn' := hn
            rw [pin4 q1 q2 q3 q4] at hn'
            have FT := KeepBut.fr' kD aD q5 hn'
            obtain ⟨fzT, hfzT⟩ : ∃ fz, fz = fullOf s.heap L h := ⟨_, rfl⟩
            have NT : News s.heap L h ((L + 1, oS) :: fzT) := News.join (n1 := [(L + 1, oS)]) (fun p hp => by rw [List.mem_singleton.mp hp]; exact ⟨q5 _ _ (Nat.succ_ne_self L) hoS', (ND _ (.head _)).2⟩) (hfzT ▸ News.full)
            have KT : s.heap.StaysIn h := FT.keep
            iterate 10 walk_at "one"
            rename_i h1T F1T N1T h2T F2T N2T
            have kT2 := keep_of KT F2T N2T (fun p hp => by rw [hfzT]; exact .tail _ hp)
            have o22 : h2T.get? T2 = some (lstO (strValues l2).toArray c2) := kT2 _ _ hT2n (q5 _ _ hT2n o2)
            refine item_str o22 (by lia) hx2 ?_
            intro t22
            have o12 : h2T.get? T1 = some (lstO (strValues l1).toArray c1) := kT2 _ _ hT1n (q5 _ _ hT1n o1)
            have hx2' : S2[i]? = some S2[i] := by simp [hi2]
            k_steps
            · rename_i hne
              refine slice_list F2T N2T ⟨_, o12, rfl, _, rfl⟩ .none (.int _ _) ?_ (hsz := by rw [strValues_size, ← e1]; unfold sizeLine; lia)
              intro h3T F3T N3T
              k_steps
              rename_i h4T F4T N4T
              have kT4 := keep_of KT F4T N4T (fun p hp => by rw [hfzT]; exact .tail _ (.tail _ hp))
              refine hQ' _ _ ⟨_, _, F4T.ns, rfl, rfl, q5.trans kT4, l1.take i, 0, ?_, (N4T _ (.head _)).1.trans ?_⟩
              · rw [lcpF_brk q6 hx1 hx2' (bne_iff_ne.mp hne), e1, List.map_take]
              · rw [slicePick_to _ _ (by rw [strValues_size, ← e1]; exact Nat.le_of_lt hi)]
                show some (lstO ((strValues l1).take i).toArray 0) = _
                rw [strValues_take]
            · rename_i hne
              have heq : cx = S2[i] := by
                by_cases q : cx = S2[i]
                · exact q
                · rw [bne_iff_ne.mpr q] at hne; cases hne
              refine hRW _ _ ⟨_, F2T.ns, rfl, rfl, rfl, rfl, q5.trans kT2, take_succ_eq q6 hx1 (heq ▸ hx2')⟩ ?_ ?_
              · obtain ⟨old, ho⟩ := hen1
                exact ⟨old, kT2 _ _ (Nat.ne_of_gt (Nat.lt_succ_of_lt hLlt)) ho⟩
              · obtain ⟨o, ho, r⟩ := hit1
                exact ⟨o, kT2 _ _ (Nat.ne_of_gt hLlt) ho, r⟩
          · rintro h tk1 ⟨m, hn, q1, q2, q3, q4, q5, q6⟩
            refine hQ' h tk1 ⟨T1, m, hn, q1, q2, q5, ?_⟩
            have hsz : (strValues l1).toArray.size = S1.length := by rw [e1]; simp [strValues]
            rw [hsz] at q6
            rw [lcpF_all (by rw [← q6]; simp)]
            exact ⟨l1, c1, e1.symm, q5 _ _ hT1n o1⟩
end Mine
end

section
theorem Mine.rst_LX : True ∧ True := by
  w_top off
  first | (walk1; fail "laid") | exact ⟨trivial, trivial⟩
open PySem PySem.W PyProof.Rows PySem.Calls
set_option linter.unusedVariables false
namespace Mine
section
variable {prog : Program} {w : World} {A : Around} {env : Env} {body : List Stmt} {s s₂ : Shared} {Q : Flow → Shared → Prop} {R : Shared → Prop} {b : Bool}
theorem WhileTurn.no (hb : b = false) (h : Q .next s₂) : WhileTurn prog w A env body R Q b s₂ := by subst hb; exact h
theorem WhileTurn.yes (hb : b = true) (h : wpAny (model prog w) A (execs body env) (LoopQ R Q) (fun _ _ => False) s₂) : WhileTurn prog w A env body R Q b s₂ := by subst hb; exact h
end
section
variable {prog : Program} {w : World} {A : Around} {E : Value → Shared → Prop} {s : Shared} {h₀ : Heap} {L D : Addr} {m : Str → Option Value} {news : List (Addr × Obj)}
theorem News.swap {h h' : Heap} {o o' : Obj} (N : News h₀ L h ((D, o) :: news)) (hne : ∀ p ∈ news, p.1 ≠ D) (hs : Heap.SameBut D h h') (ho : h'.get? D = some o') : News h₀ L h' ((D, o') :: news) := by
  intro p hp
  rcases List.mem_cons.mp hp with rfl | hp
  · exact ⟨ho, (N _ (.head _)).2⟩
  · exact ⟨(hs.2 p.1 (hne p hp)).trans (N p (.tail _ hp)).1, (N p (.tail _ hp)).2⟩
theorem Fr.swap {h h' : Heap} {o : Obj} (F : Fr h₀ L h m) (N : News h₀ L h ((D, o) :: news)) (hs : Heap.SameBut D h h') : Fr h₀ L h' m := F.change hs (N _ (.head _)).2.1 (N _ (.head _)).2.2
/-- append to the list at the ledger's head -/
theorem append_N {its : Array Value} {n : Nat} {x : Value} {Q : Value → Shared → Prop} (F : Fr h₀ L s.heap m) (N : News h₀ L s.heap ((D, lstO its n) :: news)) (hne : ∀ p ∈ news, p.1 ≠ D) (hsz : its.size ≤ sizeLine)
    (h : ∀ h', Fr h₀ L h' m → News h₀ L h' ((D, lstO (its.push x) (n + 1)) :: news) → Q .none { s with heap := h' }) : wpAny (model prog w) A (call (.builtin "list.append") [.ref D, x]) Q E s :=
  append_at (hsz := hsz) (N _ (.head _)).1 fun h' hs ho' => h h' (Fr.swap F N hs) (News.swap N hne hs ho')
end
theorem path_names_len {b : Bool} {ns : List Str} {n : Nat} (h : (pathF b ns).length ≤ n) : ns.length ≤ n + 1 := by
  have := join_len_ge slash (by rw [slash_eq]; decide) ns
  unfold pathF at h
  rw [Str.length_append] at h
  omega
end Mine
end

section
theorem Mine.rst_S6 : True ∧ True := by
  w_top off
  first | (walk1; fail "laid") | exact ⟨trivial, trivial⟩
open PySem PySem.W PyProof.Rows PySem.Calls
set_option linter.unusedVariables false
namespace Mine
theorem fill10 : (PySem.Challenge.rw_pd0049_01.prog = PySem.Challenge.rw_pd0049_01.prog) ∧ (∀ P, Mine.hd.heap_1 P = Mine.hd.heap_1 P) := by k_fill; exact ⟨rfl, fun _ => rfl⟩
theorem split_at {w : World} {A : Around} {s : Shared} {E : Value → Shared → Prop} {Q : Value → Shared → Prop} {h₀ : Heap} {L : Addr} {m : Str → Option Value} {news : List (Addr × Obj)} {mean mg mb} {x : Str} {t : Tok}
   (F : Fr h₀ L s.heap m) (N : News h₀ L s.heap news) (X : (Mine.hd.heap_1 w.params).In h₀) (T : Top VV LL mean mg mb h₀) (hR : Rm A 2) (hx : x.length ≤ 1000)
   (h : ∀ D t1 t2 h' tk', Fr h₀ L h' m → News h₀ L h' ((D, { cls := .type "tuple", data := .seq #[.str (headF x) t1, .str (tailF x) t2] }) :: news) → Q (.ref D) { s with heap := h', toks := tk' }) :
   wpAny (model PP w) A (call (.ref 122) [.str x t]) Q E s :=
  split_spec (Gl.keeps ⟨X, _, _, _, T⟩ F.keep) hR hx fun D t1 t2 h' tk' st hD nD => h D t1 t2 h' tk' (Fr.stays F st) (News.put F nD hD (News.stays N st))
local macro_rules | `(tactic| walk_at "call ref") => `(tactic| (refine split_at (by k_asm) (by k_asm) (by k_asm) (by k_asm) (by walk_at "room") (by assumption) ?_; intro D' t1' t2' h' tk' F' N'))
local macro_rules | `(tactic| walk_at "call builtin:list.append") => `(tactic| (refine append_N (by k_asm) (by k_asm) (by first | assumption | exact fun _ h => nomatch h) (by assumption) ?_; intro h' F' N'))
inductive J6 (base : Heap) (L Dn : Addr) (b : Bool) (ns : List Str) (k : Nat) (h : Heap) : Prop
  | mk : (k ≤ ns.length) → ∀ m u1 u2 lk c, (h.Ns L m) →
      (m (Str.ofString "names") = some (.ref Dn)) →
      (m (Str.ofString "head") = some (.str (headF (pathF b (ns.take k))) u1)) →
      (m (Str.ofString "tail") = some (.str (tailF (pathF b (ns.take k))) u2)) →
      (base.StaysIn h) →
      (h.get? Dn = some (lstO (strValues lk).toArray c)) →
      (lk.map (·.1) = (ns.drop k).reverse) → J6 base L Dn b ns k h
theorem names_spec {w : World} {A : Around} {s : Shared} {E : Value → Shared → Prop} {Q : Value → Shared → Prop} {b : Bool} {ns : List Str} {t : Tok}
   (G : Gl w s.heap) (hR : Rm A 3) (hg : ∀ p ∈ ns, Good p) (hl : ∀ k, (pathF b (ns.take k)).length ≤ 1000)
   (h : ∀ D h' tk', s.heap.StaysIn h' → s.heap.get? D = none → StrsAt h' D ns → Q (.ref D) { s with heap := h', toks := tk' }) :
   wpAny (model PP w) A (call (.ref 179) [.str (pathF b ns) t]) Q E s := by
  obtain ⟨X, mean, mg, mb, T⟩ := G
  obtain ⟨hn, dp, fr, gd, un⟩ := A
  obtain rfl : hn = none := hR.handled
  refine call_defK (binds := [(Str.ofString "path", .str (pathF b ns) t)]) X T.nolimit (by k_is) (by k_is) (Rm.room hR) (BindsTo.of_eq rfl) (locs rfl) (by decide) rfl rfl rfl ?_
  intro h₁ L _ F N
  have hlp : (pathF b ns).length ≤ 1000 := by have := hl ns.length; rwa [List.take_length] at this
  iterate 27 walk_at "one"
  rename Fr _ _ _ _ => FW
  rename News _ _ _ _ => NW
  refine withP2 NW ?_
  rintro hW D2 Dn rfl rfl rfl
  have nDn : s.heap.get? Dn = none := (NW _ (.tail _ (.head _))).2.2
  have neDn : Dn ≠ L := (NW _ (.tail _ (.head _))).2.1
  have hDn : hW.get? Dn = some (lstO #[] 0) := (NW _ (.tail _ (.head _))).1
  have aL := FW.above
  refine while_rule (J6 s.heap L Dn b ns) ?_ ns.length
    ⟨Nat.le_refl _, _, _, _, [], 0, FW.ns, rfl, by rw [List.take_length]; rfl, by rw [List.take_length]; rfl, FW.keep, hDn, by simp⟩
  rintro RW k hRW hh tkh ⟨hk, m, u1, u2, lk, c, hn, q1, q2, q3, st, ho, hlk⟩
  have FT : Fr s.heap L hh m := ⟨hn, st, aL⟩
  rw [pin4 q1 q2 q3 q1] at FT
  have NT : News s.heap L hh [(Dn, lstO (strValues lk).toArray c)] := fun p hp => by rw [List.mem_singleton.mp hp]; exact ⟨ho, neDn, nDn⟩
  clear FW NW hn
  have hnl : ns.length ≤ 1001 := path_names_len hlp
  have hsz : (strValues lk).toArray.size ≤ sizeLine := by
    rw [strValues_size, hlk]
    simp
    unfold sizeLine; omega
  cases k with
  | zero =>
    have e2 := (headF_top b).2
    rw [List.take_zero, e2] at FT
    have hc : (Str.empty != Str.ofString "") = false := by decide +kernel
    k_steps
    refine WhileTurn.no hc ?_
    dsimp only
    iterate 12 walk_at "one"
    refine slice_list3 FT NT ⟨_, ho, rfl, _, rfl⟩ .none .none (.int _ _) (by decide) ?_ (hsz := ?_)
    · intro h' F' N'
      k_steps
      refine h _ _ _ F'.keep (N' _ (.head _)).2.2 ⟨lk.reverse, 0, ?_, (N' _ (.head _)).1.trans ?_⟩
      · rw [List.map_reverse, hlk]; simp
      · rw [krv_pick]
        show some (lstO (strValues lk).reverse.toArray 0) = _
        simp [strValues]
    · exact hsz
  | succ j =>
    have hj : j < ns.length := hk
    have hts : ns.take (j + 1) = ns.take j ++ [ns[j]] := List.take_succ_eq_append_getElem hj
    have hgj : Good ns[j] := hg _ (List.getElem_mem hj)
    obtain ⟨e1, e2⟩ := headF_snoc b (fun p hp => hg p (List.mem_of_mem_take hp)) hgj (ns := ns.take j)
    rw [hts, e1, e2] at FT
    have hlj := hl j
    have hc : (ns[j] != Str.ofString "") = true := bne_iff_ne.mpr (okPiece_iff.mp hgj.ok).1
    k_steps
    refine WhileTurn.yes hc ?_
    k_steps
    rename Fr _ _ _ _ => FE
    rename News _ _ _ _ => NE
    refine hRW _ _ j (Nat.lt_succ_self _) ⟨Nat.le_of_lt hj, _, _, _, lk ++ [(ns[j], u2)], c + 1, FE.ns, rfl, rfl, rfl, FE.keep, (NE _ (.tail _ (.head _))).1.trans ?_, ?_⟩
    · simp [strValues]
    · have e := List.drop_eq_getElem_cons hj
      rw [List.map_append, hlk, e, List.reverse_cons]
      rfl
end Mine
end

section
theorem Mine.rst_LH : True ∧ True := by
  w_top off
  first | (walk1; fail "laid") | exact ⟨trivial, trivial⟩
open PySem PySem.W PyProof.Rows PySem.Calls
open MeetsSeq
set_option linter.unusedVariables false
namespace Mine
section
variable {prog : Program} {w : World} {A : Around} {E : Value → Shared → Prop} {s : Shared} {h₀ : Heap} {L D : Addr} {m : Str → Option Value} {news : List (Addr × Obj)} {l : List Value} {n : Nat}
theorem mapSeq_same (f : Array Value → Array Value) (xs : Array Value) (n : Nat) (h : (f xs).size = xs.size) : Obj.mapSeq f (lstO xs n) = lstO (f xs) n := by
  simp [Obj.mapSeq, h]
theorem mapSeq_new (f : Array Value → Array Value) (xs : Array Value) (n : Nat) (h : (f xs).size ≠ xs.size) : Obj.mapSeq f (lstO xs n) = lstO (f xs) (n + 1) := by
  simp [Obj.mapSeq, h]
/-- an item of a list -/
theorem item_at {value slice : Expr} {i : Nat} {u : Tok} {v : Value} {Q : Value → Shared → Prop} (ho : s.heap.get? D = some (lstO l.toArray n)) (hi : i < 2 ^ 62) (hx : l[i]? = some v) (h : Q v s)
    (hs : subscripted slice false (.ref D) (.int i u) = operate [.ref D, .int i u] (getItem (.ref D) (.int i u)) := by with_unfolding_all rfl) :
    wpAny (model prog w) A (subscriptTail value slice (.ref D) (.int i u)) Q E s :=
  tail_any (Heap.IsList.typeIs (s := s) ⟨_, ho, rfl, _, rfl⟩) slot_list_getitem.lookup (wpAny_getItem_list ⟨_, ho, rfl, _, rfl⟩ (by omega) (by omega) (by simpa using hx) h) hs
theorem setitem_arr {items : Array Value} {k : Int} {t : Tok} {v : Value} {Q : Unit → Shared → Prop} (ho : s.heap.get? D = some (lstO items n)) (h0 : 0 ≤ k) (hfit : k < 2 ^ 63) (hn : k < items.size)
    (hQ : ∀ h', h'.get? D = some (lstO (items.setIfInBounds k.toNat v) n) → Heap.SameBut D s.heap h' → Q () { s with heap := h' }) :
    wpAny (model prog w) A (setItem (.ref D) (.int k t) v) Q E s := by
  have e : Obj.mapSeq (·.setIfInBounds k.toNat v) (lstO items n) = lstO (items.setIfInBounds k.toNat v) n := mapSeq_same _ _ _ (by simp)
  exact ki_setAt ho h0 hfit hn (hQ _ (by rw [Heap.get?_update_self _ ho (by rw [e]; rfl), e]) (Heap.SameBut.update ..))
theorem setitem_at {i : Nat} {u : Tok} {v : Value} {Q : Unit → Shared → Prop} (ho : s.heap.get? D = some (lstO l.toArray n)) (hi : i < 2 ^ 62) (hl : i < l.length)
    (h : ∀ h', h'.get? D = some (lstO (l.set i v).toArray n) → Heap.SameBut D s.heap h' → Q () { s with heap := h' }) : wpAny (model prog w) A (setItem (.ref D) (.int i u) v) Q E s :=
  setitem_arr ho (by omega) (by omega) (by simpa using hl) fun h' a b => h h' (by simpa using a) b
theorem pop_at {y : Value} {Q : Value → Shared → Prop} (ho : s.heap.get? D = some (lstO (l ++ [y]).toArray n)) (hsz : l.length + 1 ≤ sizeLine)
    (h : ∀ h', h'.get? D = some (lstO l.toArray (n + 1)) → Heap.SameBut D s.heap h' → Q y { s with heap := h' }) : wpAny (model prog w) A (call (.builtin "list.pop") [.ref D]) Q E s := by
  have e : Obj.mapSeq (fun xs => xs.eraseIdxIfInBounds ((l ++ [y]).toArray.size - 1)) (lstO (l ++ [y]).toArray n) = lstO l.toArray (n + 1) := by
    have e1 : (l ++ [y]).toArray.eraseIdxIfInBounds ((l ++ [y]).toArray.size - 1) = l.toArray := by
      apply Array.toList_inj.mp
      simp [Array.eraseIdxIfInBounds, List.eraseIdx_append_of_length_le]
    rw [mapSeq_new _ _ _ (by rw [e1]; simp), e1]
  refine call_meets F.slot_list_pop ⟨_, ho, rfl⟩ F.entry_list_pop (F.args_list_pop_1 _) (list_pop_last D (l ++ [y]).toArray n y (by simp) (by simpa using hsz)) ⟨ho, ?_⟩
  exact h _ (by rw [Heap.get?_update_self _ ho (by rw [e]; rfl), e]) (Heap.SameBut.update ..)
end
end Mine
end

section
theorem Mine.rst_PQ : True ∧ True := by
  w_top off
  first | (walk1; fail "laid") | exact ⟨trivial, trivial⟩
namespace Mine
/-- a strict weak order -/
structure Weak {α : Type} (lt : α → α → Bool) : Prop where
  asym : ∀ a b, lt a b = true → lt b a = false
  trans : ∀ a b c, lt b a = false → lt c b = false → lt c a = false
section
variable {α : Type} {lt : α → α → Bool}
/-- parents come first -/
noncomputable def IsHeap (lt : α → α → Bool) (l : List α) : Prop := ∀ i a b, 0 < i → l[i]? = some a → l[(i - 1) / 2]? = some b → lt a b = false
structure Hole (lt : α → α → Bool) (l : List α) (p : Nat) : Prop where
  off : ∀ i a b, 0 < i → i ≠ p → (i - 1) / 2 ≠ p → l[i]? = some a → l[(i - 1) / 2]? = some b → lt a b = false
  over : ∀ i a b, 0 < i → (i - 1) / 2 = p → 0 < p → l[i]? = some a → l[(p - 1) / 2]? = some b → lt a b = false
noncomputable def Below (lt : α → α → Bool) (l : List α) (p : Nat) (x : α) : Prop := ∀ i a, 0 < i → (i - 1) / 2 = p → l[i]? = some a → lt a x = false
theorem get_set_ne {l : List α} {i j : Nat} {x : α} (h : i ≠ j) : (l.set i x)[j]? = l[j]? := by simp [List.getElem?_set, h]
theorem get_set_eq {l : List α} {i : Nat} {x : α} (h : i < l.length) : (l.set i x)[i]? = some x := by simp [List.getElem?_set, h]
theorem set_heap {l : List α} {p : Nat} {x : α} (hp : p < l.length) (H : Hole lt l p) (B : Below lt l p x) (hx : ∀ b, 0 < p → l[(p - 1) / 2]? = some b → lt x b = false) : IsHeap lt (l.set p x) := by
  intro i a b hi ha hb
  by_cases h1 : i = p
  · subst h1
    rw [get_set_eq hp] at ha
    cases ha
    rw [get_set_ne (by lia)] at hb
    exact hx b hi hb
  · rw [get_set_ne (Ne.symm h1)] at ha
    by_cases h2 : (i - 1) / 2 = p
    · rw [h2, get_set_eq hp] at hb
      cases hb
      exact B i a hi h2 ha
    · rw [get_set_ne (Ne.symm h2)] at hb
      exact H.off i a b hi h1 h2 ha hb
theorem set_perm {l : List α} {i j : Nat} {x y : α} (hi : i < l.length) (hj : l[j]? = some y) (hij : i ≠ j) : ((l.set i y).set j x).Perm (l.set i x) := by
  induction l generalizing i j with
  | nil => simp at hi
  | cons a l ih =>
    cases i with
    | zero =>
      cases j with
      | zero => exact absurd rfl hij
      | succ j =>
        simp only [List.getElem?_cons_succ] at hj
        simp only [List.set_cons_zero, List.set_cons_succ]
        -- y :: l.set j x  ~  x :: l
        clear ih hij hi
        induction l generalizing j with
        | nil => simp at hj
        | cons c l ih2 =>
          cases j with
          | zero => simp at hj; subst hj; simpa using List.Perm.swap x c l
          | succ j =>
            simp only [List.getElem?_cons_succ] at hj
            simp only [List.set_cons_succ]
            exact (List.Perm.swap c y _).trans ((List.Perm.cons c (ih2 _ hj)).trans (List.Perm.swap x c _))
    | succ i =>
      cases j with
      | zero =>
        simp at hj
        subst hj
        simp only [List.length_cons, Nat.add_lt_add_iff_right] at hi
        simp only [List.set_cons_succ, List.set_cons_zero]
        -- x :: l.set i a ~ a :: l.set i x
        clear ih hij
        induction l generalizing i with
        | nil => simp at hi
        | cons c l ih2 =>
          cases i with
          | zero => simpa using List.Perm.swap a x l
          | succ i =>
            simp only [List.length_cons, Nat.add_lt_add_iff_right] at hi
            simp only [List.set_cons_succ]
            exact (List.Perm.swap c x _).trans ((List.Perm.cons c (ih2 _ hi)).trans (List.Perm.swap a c _))
      | succ j =>
        simp only [List.length_cons, Nat.add_lt_add_iff_right] at hi
        simp only [List.getElem?_cons_succ] at hj
        simp only [List.set_cons_succ]
        exact List.Perm.cons a (ih hi hj (fun q => hij (by rw [q])))
theorem heap_root (W : Weak lt) {l : List α} (H : IsHeap lt l) {m : α} (hm : l[0]? = some m) : ∀ (i : Nat) (a : α), l[i]? = some a → lt a m = false := by
  intro i
  induction i using Nat.strongRecOn with
  | _ i ih =>
    intro a ha
    by_cases h0 : i = 0
    · subst h0
      rw [hm] at ha; cases ha
      cases q : lt m m with
      | false => rfl
      | true => have := W.asym _ _ q; rw [q] at this; cases this
    · have hlt : i < l.length := (List.getElem?_eq_some_iff.mp ha).1
      have hpar : (i - 1) / 2 < l.length := by lia
      have hb : l[(i - 1) / 2]? = some l[(i - 1) / 2] := by simp [hpar]
      exact W.trans _ _ _ (ih _ (by lia) _ hb) (H i a _ (by lia) ha hb)
end
/-- the way up of an item, as _siftdown goes it -/
noncomputable def sdF {α : Type} (lt : α → α → Bool) (x : α) : Nat → Nat → List α → List α
  | 0, pos, l => l.set pos x
  | f + 1, pos, l => if pos = 0 then l.set pos x else match l[(pos - 1) / 2]? with
    | some p => if lt x p = true then sdF lt x f ((pos - 1) / 2) (l.set pos p) else l.set pos x
    | none => l.set pos x
theorem sdF_fuel {α : Type} (lt : α → α → Bool) (x : α) : ∀ (f g pos : Nat) (l : List α), pos ≤ f → pos ≤ g → sdF lt x f pos l = sdF lt x g pos l
  | 0, 0, pos, l, _, _ => rfl
  | 0, g + 1, pos, l, h, _ => by
    have : pos = 0 := by lia
    subst this; simp [sdF]
  | f + 1, 0, pos, l, _, h => by
    have : pos = 0 := by lia
    subst this; simp [sdF]
  | f + 1, g + 1, pos, l, h1, h2 => by
    by_cases h0 : pos = 0
    · simp [sdF, h0]
    · simp only [sdF, if_neg h0]
      cases l[(pos - 1) / 2]? with
      | none => rfl
      | some p =>
        dsimp only
        rw [sdF_fuel lt x f g ((pos - 1) / 2) (l.set pos p) (by lia) (by lia)]
/-- what _siftdown makes of the list -/
noncomputable def siftdown {α : Type} (lt : α → α → Bool) (x : α) (pos : Nat) (l : List α) : List α := sdF lt x pos pos l
theorem siftdown_zero {α : Type} (lt : α → α → Bool) (x : α) (l : List α) : siftdown lt x 0 l = l.set 0 x := rfl
theorem siftdown_up {α : Type} {lt : α → α → Bool} {x p : α} {pos : Nat} {l : List α} (h0 : pos ≠ 0) (hp : l[(pos - 1) / 2]? = some p) (h : lt x p = true) : siftdown lt x pos l = siftdown lt x ((pos - 1) / 2) (l.set pos p) := by
  obtain ⟨k, rfl⟩ : ∃ k, pos = k + 1 := ⟨pos - 1, by lia⟩
  unfold siftdown
  show sdF lt x (k + 1) (k + 1) l = _
  rw [sdF, if_neg h0, hp]
  dsimp only
  rw [if_pos h]
  exact sdF_fuel _ _ _ _ _ _ (by lia) (Nat.le_refl _)
theorem siftdown_stop {α : Type} {lt : α → α → Bool} {x p : α} {pos : Nat} {l : List α} (h0 : pos ≠ 0) (hp : l[(pos - 1) / 2]? = some p) (h : lt x p = false) : siftdown lt x pos l = l.set pos x := by
  obtain ⟨k, rfl⟩ : ∃ k, pos = k + 1 := ⟨pos - 1, by lia⟩
  unfold siftdown
  rw [sdF, if_neg h0, hp]
  dsimp only
  rw [if_neg (by rw [h]; decide)]
section
variable {α : Type} {lt : α → α → Bool}
theorem sd_heap (W : Weak lt) {x : α} : ∀ (p : Nat) (l : List α), p < l.length → Hole lt l p → Below lt l p x → IsHeap lt (siftdown lt x p l) := by
  intro p
  induction p using Nat.strongRecOn with
  | _ p ih =>
    intro l hp H B
    by_cases h0 : p = 0
    · subst h0
      rw [siftdown_zero]
      exact set_heap hp H B fun b h => absurd h (by lia)
    · have hpar : (p - 1) / 2 < l.length := by lia
      obtain ⟨b0, hb0⟩ : ∃ b0, l[(p - 1) / 2]? = some b0 := ⟨l[(p - 1) / 2], by simp [hpar]⟩
      cases hc : lt x b0 with
      | false =>
        rw [siftdown_stop h0 hb0 hc]
        refine set_heap hp H B fun b _ hb => ?_
        rw [hb0] at hb; cases hb; exact hc
      | true =>
        rw [siftdown_up h0 hb0 hc]
        have hxb : lt b0 x = false := W.asym _ _ hc
        refine ih _ (by lia) _ (by simpa using hpar) ⟨?_, ?_⟩ ?_
        · intro i a b hi h1 h2 ha hb
          have hip : i ≠ p := fun q => h2 (by rw [q])
          rw [get_set_ne (Ne.symm hip)] at ha
          by_cases h3 : (i - 1) / 2 = p
          · rw [h3, get_set_eq hp] at hb
            cases hb
            exact H.over i a b0 hi h3 (by lia) ha hb0
          · rw [get_set_ne (Ne.symm h3)] at hb
            exact H.off i a b hi hip h3 ha hb
        · intro i a b hi h1 h2 ha hb
          rw [get_set_ne (by lia)] at hb
          by_cases hip : i = p
          · subst hip
            rw [get_set_eq hp] at ha
            cases ha
            exact H.off _ b0 b h2 (by lia) (by lia) hb0 hb
          · rw [get_set_ne (Ne.symm hip)] at ha
            exact W.trans _ _ _ (H.off _ b0 b h2 (by lia) (by lia) hb0 hb) (H.off i a b0 hi hip (by lia) ha (h1 ▸ hb0))
        · intro i a hi h1 ha
          by_cases hip : i = p
          · subst hip
            rw [get_set_eq hp] at ha
            cases ha
            exact hxb
          · rw [get_set_ne (Ne.symm hip)] at ha
            exact W.trans _ _ _ hxb (H.off i a b0 hi hip (by lia) ha (h1 ▸ hb0))
theorem sd_perm {x : α} : ∀ (p : Nat) (l : List α), p < l.length → (siftdown lt x p l).Perm (l.set p x) := by
  intro p
  induction p using Nat.strongRecOn with
  | _ p ih =>
    intro l hp
    by_cases h0 : p = 0
    · subst h0; rw [siftdown_zero]
    · have hpar : (p - 1) / 2 < l.length := by lia
      obtain ⟨b0, hb0⟩ : ∃ b0, l[(p - 1) / 2]? = some b0 := ⟨l[(p - 1) / 2], by simp [hpar]⟩
      cases hc : lt x b0 with
      | false => rw [siftdown_stop h0 hb0 hc]
      | true =>
        rw [siftdown_up h0 hb0 hc]
        exact (ih _ (by lia) _ (by simpa using hpar)).trans (set_perm hp hb0 (by lia))
/-- heappush on lists -/
noncomputable def pushF (lt : α → α → Bool) (x : α) (l : List α) : List α := siftdown lt x l.length (l ++ [x])
theorem push_heap (W : Weak lt) {x : α} {l : List α} (H : IsHeap lt l) : IsHeap lt (pushF lt x l) := by
  refine sd_heap W _ _ (by simp) ⟨?_, ?_⟩ ?_
  · intro i a b hi h1 h2 ha hb
    have hil : i < (l ++ [x]).length := (List.getElem?_eq_some_iff.mp ha).1
    simp at hil
    rw [List.getElem?_append_left (by lia)] at ha hb
    exact H i a b hi ha hb
  · intro i a b hi h1 h2 ha hb
    have hil : i < (l ++ [x]).length := (List.getElem?_eq_some_iff.mp ha).1
    simp at hil
    lia
  · intro i a hi h1 ha
    have hil : i < (l ++ [x]).length := (List.getElem?_eq_some_iff.mp ha).1
    simp at hil
    lia
theorem push_perm {x : α} {l : List α} : (pushF lt x l).Perm (x :: l) := by
  refine (sd_perm _ _ (by simp)).trans ?_
  have : (l ++ [x]).set l.length x = l ++ [x] := by
    apply List.ext_getElem?
    intro i
    by_cases h : l.length = i
    · subst h; simp
    · rw [get_set_ne h]
  rw [this]
  simpa using List.perm_append_comm (l₁ := l) (l₂ := [x])
/-- the way down of the hole, as _siftup goes it -/
noncomputable def suF (lt : α → α → Bool) : Nat → Nat → List α → Nat × List α
  | 0, p, l => (p, l)
  | f + 1, p, l => match l[2 * p + 1]? with
    | none => (p, l)
    | some a => match l[2 * p + 2]? with
      | none => suF lt f (2 * p + 1) (l.set p a)
      | some b => if lt a b = true then suF lt f (2 * p + 1) (l.set p a) else suF lt f (2 * p + 2) (l.set p b)
noncomputable def siftup (lt : α → α → Bool) (x : α) (l : List α) : List α := let r := suF lt l.length 0 l; siftdown lt x r.1 (r.2.set r.1 x)
theorem su_hole (W : Weak lt) {x : α} : ∀ (f p : Nat) (l : List α), p < l.length → l.length ≤ p + f → Hole lt l p →
    Hole lt (suF lt f p l).2 (suF lt f p l).1 ∧ (suF lt f p l).1 < l.length ∧ (suF lt f p l).2.length = l.length ∧ l.length ≤ 2 * (suF lt f p l).1 + 1 ∧ ((suF lt f p l).2.set (suF lt f p l).1 x).Perm (l.set p x) := by
  intro f
  induction f with
  | zero => intro p l hp hf H; exact absurd hf (by lia)
  | succ f ih =>
    intro p l hp hf H
    have step : ∀ (c : Nat) (a : α), (c = 2 * p + 1 ∨ c = 2 * p + 2) → l[c]? = some a → (∀ i b, (i = 2 * p + 1 ∨ i = 2 * p + 2) → i ≠ c → l[i]? = some b → lt b a = false) →
        Hole lt (suF lt f c (l.set p a)).2 (suF lt f c (l.set p a)).1 ∧ (suF lt f c (l.set p a)).1 < l.length ∧ (suF lt f c (l.set p a)).2.length = l.length ∧ l.length ≤ 2 * (suF lt f c (l.set p a)).1 + 1 ∧ ((suF lt f c (l.set p a)).2.set (suF lt f c (l.set p a)).1 x).Perm (l.set p x) := by
      intro c a hc ha hs
      have hcl : c < l.length := (List.getElem?_eq_some_iff.mp ha).1
      have hcp : (c - 1) / 2 = p := by lia
      have H2 : Hole lt (l.set p a) c := by
        constructor
        · intro i u v hi h1 h2 hu hv
          by_cases hip : i = p
          · subst hip
            rw [get_set_eq hp] at hu
            cases hu
            rw [get_set_ne (by lia)] at hv
            exact H.over c a v (by lia) hcp hi ha hv
          · rw [get_set_ne (Ne.symm hip)] at hu
            by_cases h3 : (i - 1) / 2 = p
            · rw [h3, get_set_eq hp] at hv
              cases hv
              exact hs i u (by lia) h1 hu
            · rw [get_set_ne (Ne.symm h3)] at hv
              exact H.off i u v hi hip h3 hu hv
        · intro i u v hi h1 h2 hu hv
          rw [hcp, get_set_eq hp] at hv
          cases hv
          rw [get_set_ne (by lia)] at hu
          exact H.off i u a hi (by lia) (by lia) hu (h1 ▸ ha)
      obtain ⟨r1, r2, r3, r4, r5⟩ := ih c (l.set p a) (by simpa using hcl) (by simp; lia) H2
      simp only [List.length_set] at r2 r3 r4
      exact ⟨r1, r2, r3, r4, r5.trans (set_perm hp ha (by lia))⟩
    cases h1 : l[2 * p + 1]? with
    | none =>
      have e : suF lt (f + 1) p l = (p, l) := by simp only [suF, h1]
      rw [e]
      have := List.getElem?_eq_none_iff.mp h1
      exact ⟨H, hp, rfl, by lia, List.Perm.refl _⟩
    | some a =>
      cases h2 : l[2 * p + 2]? with
      | none =>
        have e : suF lt (f + 1) p l = suF lt f (2 * p + 1) (l.set p a) := by simp only [suF, h1, h2]
        rw [e]
        refine step _ a (.inl rfl) h1 fun i b hi hne hb => ?_
        rcases hi with rfl | rfl
        · exact absurd rfl hne
        · rw [h2] at hb; cases hb
      | some b =>
        cases hc : lt a b with
        | true =>
          have e : suF lt (f + 1) p l = suF lt f (2 * p + 1) (l.set p a) := by simp only [suF, h1, h2, hc, if_true]
          rw [e]
          refine step _ a (.inl rfl) h1 fun i u hi hne hu => ?_
          rcases hi with rfl | rfl
          · exact absurd rfl hne
          · rw [h2] at hu; cases hu; exact W.asym _ _ hc
        | false =>
          have e : suF lt (f + 1) p l = suF lt f (2 * p + 2) (l.set p b) := by simp only [suF, h1, h2, hc, Bool.false_eq_true, if_false]
          rw [e]
          refine step _ b (.inr rfl) h2 fun i u hi hne hu => ?_
          rcases hi with rfl | rfl
          · rw [h1] at hu; cases hu; exact hc
          · exact absurd rfl hne
theorem siftup_ok (W : Weak lt) {x : α} {l : List α} (h0 : 0 < l.length) (H : Hole lt l 0) : IsHeap lt (siftup lt x l) ∧ (siftup lt x l).Perm (l.set 0 x) := by
  obtain ⟨r1, r2, r3, r4, r5⟩ := su_hole W (x := x) l.length 0 l h0 (by lia) H
  unfold siftup
  dsimp only
  generalize (suF lt l.length 0 l).1 = p at *
  generalize (suF lt l.length 0 l).2 = m at *
  have hp : p < m.length := by lia
  refine ⟨sd_heap W _ _ (by simpa using hp) ⟨?_, ?_⟩ ?_, ?_⟩
  · intro i a b hi h1 h2 ha hb
    rw [get_set_ne (Ne.symm h1)] at ha
    rw [get_set_ne (Ne.symm h2)] at hb
    exact r1.off i a b hi h1 h2 ha hb
  · intro i a b hi h1 h2 ha hb
    have := (List.getElem?_eq_some_iff.mp ha).1
    simp at this
    lia
  · intro i a hi h1 ha
    have := (List.getElem?_eq_some_iff.mp ha).1
    simp at this
    lia
  · refine (sd_perm _ _ (by simpa using hp)).trans ?_
    rw [List.set_set]
    exact r5
/-- heappop on lists: what goes out, what stays -/
noncomputable def popF (lt : α → α → Bool) (l : List α) : List α := match l.dropLast, l.getLast? with
  | [], _ => []
  | a :: r, some y => siftup lt y (y :: r)
  | _, none => []
theorem pop_ok (W : Weak lt) {m : α} {r : List α} (H : IsHeap lt (m :: r)) : IsHeap lt (popF lt (m :: r)) ∧ (popF lt (m :: r)).Perm r := by
  unfold popF
  by_cases h : r = []
  · subst h
    simp
    intro i a b hi ha; simp at ha
  · obtain ⟨r', y, rfl⟩ : ∃ r' y, r = r' ++ [y] := ⟨r.dropLast, r.getLast h, (List.dropLast_concat_getLast h).symm⟩
    have e1 : (m :: (r' ++ [y])).dropLast = m :: r' := by
      have : m :: (r' ++ [y]) = (m :: r') ++ [y] := rfl
      rw [this, List.dropLast_concat]
    have e2 : (m :: (r' ++ [y])).getLast? = some y := by
      have : m :: (r' ++ [y]) = (m :: r') ++ [y] := rfl
      rw [this, List.getLast?_concat]
    rw [e1, e2]
    dsimp only
    have hH : Hole lt (y :: r') 0 := by
      constructor
      · intro i a b hi h1 h2 ha hb
        obtain ⟨j, rfl⟩ : ∃ j, i = j + 1 := ⟨i - 1, by lia⟩
        have hj : j < r'.length := by have := (List.getElem?_eq_some_iff.mp ha).1; simpa using this
        obtain ⟨k, hk⟩ : ∃ k, (j + 1 - 1) / 2 = k + 1 := ⟨(j + 1 - 1) / 2 - 1, by lia⟩
        rw [hk] at hb
        simp only [List.getElem?_cons_succ] at ha hb
        have hkl : k < r'.length := (List.getElem?_eq_some_iff.mp hb).1
        refine H (j + 1) a b hi ?_ ?_
        · simp only [List.getElem?_cons_succ]; rw [List.getElem?_append_left hj]; exact ha
        · rw [hk]; simp only [List.getElem?_cons_succ]; rw [List.getElem?_append_left hkl]; exact hb
      · intro i a b hi h1 h2; exact absurd h2 (by lia)
    obtain ⟨a1, a2⟩ := siftup_ok W (x := y) (l := y :: r') (by simp) hH
    refine ⟨a1, a2.trans ?_⟩
    simpa using (List.perm_append_comm (l₁ := [y]) (l₂ := r'))
end
end Mine
end

section
theorem Mine.rst_SD : True ∧ True := by
  w_top off
  first | (walk1; fail "laid") | exact ⟨trivial, trivial⟩
open PySem PySem.W PyProof.Rows PySem.Calls
set_option linter.unusedVariables false
namespace Mine
theorem while_rest {prog : Program} {w : World} {A : Around} {E : Value → Shared → Prop} {s : Shared} {env : Env} {Q : Flow → Shared → Prop} {test : Expr} {body : List Stmt} {pos : Pos} (Rest : Heap → Prop)
    (hrest : ∀ h tk, Rest h → Q .next { s with heap := h, toks := tk })
    (hmain : ∀ Q' : Flow → Shared → Prop, (∀ h tk, Rest h → Q' .next { s with heap := h, toks := tk }) → wpAny (model prog w) A (exec (.While test body [] pos) env) Q' E s) :
    wpAny (model prog w) A (exec (.While test body [] pos) env) Q E s := hmain Q hrest
end Mine
end

section
theorem Mine.rst_S7 : True ∧ True := by
  w_top off
  first | (walk1; fail "laid") | exact ⟨trivial, trivial⟩
open PySem PySem.W PyProof.Rows PySem.Calls
set_option linter.unusedVariables false
namespace Mine
theorem fill11 : (PySem.Challenge.rw_pd0049_01.prog = PySem.Challenge.rw_pd0049_01.prog) ∧ (∀ P, Mine.hd.heap_1 P = Mine.hd.heap_1 P) := by k_fill; exact ⟨rfl, fun _ => rfl⟩
/-- how items compare, while all but the list at hp stays -/
noncomputable def CmpBut (s : Shared) (hp : Addr) (P : Value → Prop) (lt : Value → Value → Bool) : Prop :=
  ∀ u v, P u → P v → ∀ A' h' tk, A'.units + 4 < cLine → KeepBut hp s.heap h' → LtAt A' { s with heap := h', toks := tk } u v (lt u v)
theorem Rm.unit4 {A : Around} {k : Nat} {env : Env} (h : Rm A (k + 1)) : (A.deeper env).units + 4 < cLine := by
  have := h.units
  show A.units + 3 + 4 < cLine
  unfold cLine; lia
inductive R7 (base : Heap) (L hp : Addr) (x : Value) (l : List Value) (lt : Value → Value → Bool) (pos : Nat) (h' : Heap) : Prop
  | mk : ∀ (k : Nat) (m : Str → Option Value) (l' : List Value) (c' tp : Nat), (h'.Ns L m) →
      (m (Str.ofString "heap") = some (.ref hp)) →
      (m (Str.ofString "pos") = some (.int k tp)) →
      (m (Str.ofString "newitem") = some x) →
      (base.StaysIn h') →
      (h'.get? hp = some (lstO l'.toArray c')) →
      (l'.length = l.length) →
      (k < l.length) →
      (siftdown lt x pos l = l'.set k x) → R7 base L hp x l lt pos h'
inductive J7 (base : Heap) (L hp : Addr) (x : Value) (l : List Value) (lt : Value → Value → Bool) (pos : Nat) (t0 : Tok) (P : Value → Prop) (k : Nat) (h' : Heap) : Prop
  | mk : (k ≤ pos) → ∀ (m : Str → Option Value) (l' : List Value) (c' tp : Nat), (h'.Ns L m) →
      (m (Str.ofString "heap") = some (.ref hp)) →
      (m (Str.ofString "startpos") = some (.int 0 t0)) →
      (m (Str.ofString "pos") = some (.int k tp)) →
      (m (Str.ofString "newitem") = some x) →
      (base.StaysIn h') →
      (h'.get? hp = some (lstO l'.toArray c')) →
      (l'.length = l.length) →
      ((∀ v ∈ l', P v)) →
      (siftdown lt x pos l = siftdown lt x k l') → J7 base L hp x l lt pos t0 P k h'
theorem siftdown_spec {w : World} {A : Around} {s : Shared} {E : Value → Shared → Prop} {Q : Value → Shared → Prop} {hp : Addr} {l : List Value} {c : Nat} {P : Value → Prop} {lt : Value → Value → Bool} {pos : Nat} {x : Value} {t0 t1 : Tok}
   (G : Gl w (hideAll s.heap [hp])) (hR : Rm A 2) (ho : s.heap.get? hp = some (lstO l.toArray c)) (hx : l[pos]? = some x) (hlen : l.length ≤ 64) (hP : ∀ v ∈ l, P v) (hC : CmpBut s hp P lt)
   (h : ∀ h' tk' c', KeepBut hp s.heap h' → h'.get? hp = some (lstO (siftdown lt x pos l).toArray c') → Q .none { s with heap := h', toks := tk' }) :
   wpAny (model PP w) A (call (.ref 155) [.ref hp, .int 0 t0, .int pos t1]) Q E s := by
  obtain ⟨X, mean, mg, mb, T⟩ := G
  obtain ⟨hn, dp, fr, gd, un⟩ := A
  obtain rfl : hn = none := hR.handled
  have sub : (hideAll s.heap [hp]).StaysIn s.heap := fun b o e => of_hideAll _ e
  refine call_defK (binds := [(Str.ofString "heap", .ref hp), (Str.ofString "startpos", .int 0 t0), (Str.ofString "pos", .int pos t1)]) (X.keeps sub) (T.nolimit.keeps sub) (by k_is) (by k_is) (Rm.room hR) (BindsTo.of_eq rfl) (locs rfl) (by decide) rfl rfl rfl ?_
  intro h₁ L eL F0 N0
  generalize hb : hideAll s.heap [hp] = base at X T sub
  have F : Fr base L h₁ _ := ⟨F0.ns, fun b o e => F0.keep b o (sub b o e), by rw [← hb, hideAll_size]; exact F0.above⟩
  have N : News base L h₁ [(hp, lstO l.toArray c)] := fun p hp' => by
    rw [List.mem_singleton.mp hp']
    exact ⟨F0.keep _ _ ho, Nat.ne_of_lt (Nat.lt_of_lt_of_le (Heap.lt_size ho) F0.above), by rw [← hb]; exact hideAll_none _ (.head _)⟩
  have KB := KeepBut.of_stays (L := hp) F0.keep
  clear F0 N0
  have hpos : pos < l.length := (List.getElem?_eq_some_iff.mp hx).1
  iterate 5 walk_at "one"
  refine item_at (N.get (.head _)) (by lia) hx ?_
  iterate 2 walk_at "one"
  rename Fr _ _ _ _ => FW
  rename News _ _ _ _ => NW
  have nehp : hp ≠ L := (NW _ (.head _)).2.1
  have nbhp : base.get? hp = none := (NW _ (.head _)).2.2
  have aL := FW.above
  have hall : hideAll s.heap [hp] = base := hb
  have ofb : ∀ {h' : Heap}, base.StaysIn h' → KeepBut hp s.heap h' := fun {h'} st b o hne e => st b o (by rw [← hall]; exact hideAll_get _ e (by simpa using hne))
  have startJ : h₁.get? hp = h₁.get? hp := rfl
  refine while_rest (R7 base L hp x l lt pos) ?_ ?_
  · clear FW NW
    rintro hh tkh ⟨k, m, l', c', tp, hn, q1, q3, q4, st, ho', hl', hk, hS⟩
    have FT : Fr base L hh m := ⟨hn, st, aL⟩
    rw [pin4 q1 q3 q4 q1] at FT
    have NT : News base L hh [(hp, lstO l'.toArray c')] := fun p hp' => by rw [List.mem_singleton.mp hp']; exact ⟨ho', nehp, nbhp⟩
    clear hn
    dsimp only
    iterate 5 walk_at "one"
    refine setitem_at (NT.get (.head _)) (by lia) (by lia) ?_
    intro h9 h9o h9s
    have F9 := Fr.swap FT NT h9s
    have N9 := News.swap NT (fun _ h => nomatch h) h9s h9o
    clear FT NT
    k_steps
    rw [← hS] at N9
    exact h _ _ _ (ofb F9.keep) (N9.get (.head _))
  intro Q' hQ'
  refine while_rule (J7 base L hp x l lt pos t0 P) ?_ pos
    ⟨Nat.le_refl _, _, l, c, t1, FW.ns, rfl, rfl, rfl, rfl, FW.keep, (NW _ (.head _)).1, rfl, hP, rfl⟩
  clear FW NW
  rintro RW k hRW hh tkh ⟨hk, m, l', c', tp, hn, q1, q2, q3, q4, st, ho', hl', hP', hS⟩
  have FT : Fr base L hh m := ⟨hn, st, aL⟩
  rw [pin4 q1 q2 q3 q4] at FT
  have NT : News base L hh [(hp, lstO l'.toArray c')] := fun p hp' => by rw [List.mem_singleton.mp hp']; exact ⟨ho', nehp, nbhp⟩
  k_steps
  cases k with
  | zero =>
    refine WhileTurn.no (by decide) (hQ' _ _ ⟨0, m, l', c', tp, hn, q1, q3, q4, st, ho', hl', by lia, ?_⟩)
    rw [hS, siftdown_zero]
  | succ j =>
    refine WhileTurn.yes (by simp) ?_
    clear hn
    obtain ⟨y, hy⟩ : ∃ y, l'[j / 2]? = some y := ⟨l'[j / 2], by rw [List.getElem?_eq_getElem]⟩
    iterate 15 walk_at "one"
    have ej : Int.fdiv (((j + 1 : Nat) : Int) - 1) (2 ^ Int.toNat 1) = ((j / 2 : Nat) : Int) := by
      have : (((j + 1 : Nat) : Int) - 1) = ((j : Nat) : Int) := by lia
      rw [this]
      show Int.fdiv (j : Int) 2 = _
      rw [Int.fdiv_eq_ediv_of_nonneg _ (by decide)]
      lia
    rename Fr _ _ _ _ => FA
    rename News _ _ _ _ => NA
    rw [ej] at FA ⊢
    refine item_at (NA.get (.head _)) (by lia) hy ?_
    iterate 6 walk_at "one"
    rename Fr _ _ _ _ => FB
    rename News _ _ _ _ => NB
    refine hC x y (hP _ (List.mem_of_getElem? hx)) (hP' _ (List.mem_of_getElem? hy)) _ _ _ (Rm.unit4 hR) (ofb FB.keep) PP w _ _ ?_
    k_steps
    · rename_i hlt
      refine setitem_at (NB.get (.head _)) (by lia) (by lia) ?_
      intro h9 h9o h9s
      have F9 := Fr.swap FB NB h9s
      have N9 := News.swap NB (fun _ h => nomatch h) h9s h9o
      clear FB NB
      k_steps
      rename Fr _ _ _ _ => FE
      rename News _ _ _ _ => NE
      refine hRW _ _ (j / 2) (by lia) ⟨by lia, _, l'.set (j + 1) y, c', _, FE.ns, rfl, rfl, rfl, rfl, FE.keep, NE.get (.head _), by simpa using hl', fun v hv => ?_, ?_⟩
      · rcases List.mem_or_eq_of_mem_set hv with hv | rfl
        · exact hP' v hv
        · exact hP' _ (List.mem_of_getElem? hy)
      · rw [hS, siftdown_up (by lia) (by simpa using hy) hlt]
        simp
    · rename_i hlt
      refine hQ' _ _ ⟨j + 1, _, l', c', _, FB.ns, rfl, rfl, rfl, FB.keep, NB.get (.head _), hl', by lia, ?_⟩
      rw [hS, siftdown_stop (by lia) (by simpa using hy) hlt]
end Mine
end

section
theorem Mine.rst_S8 : True ∧ True := by
  w_top off
  first | (walk1; fail "laid") | exact ⟨trivial, trivial⟩
open PySem PySem.W PyProof.Rows PySem.Calls
set_option linter.unusedVariables false
namespace Mine
theorem fill12 : (PySem.Challenge.rw_pd0049_01.prog = PySem.Challenge.rw_pd0049_01.prog) ∧ (∀ P, Mine.hd.heap_1 P = Mine.hd.heap_1 P) := by k_fill; exact ⟨rfl, fun _ => rfl⟩
theorem Gl.hide {w : World} {base h : Heap} {hp : Addr} {mean mg mb} (X : (Mine.hd.heap_1 w.params).In base) (T : Top VV LL mean mg mb base) (k : base.StaysIn h) (nb : base.get? hp = none) : Gl w (hideAll h [hp]) :=
  Gl.keeps ⟨X, _, _, _, T⟩ fun b o e => hideAll_get _ (k b o e) fun hm => by
    rw [List.mem_singleton.mp hm, nb] at e; cases e
theorem CmpBut.step {s : Shared} {hp : Addr} {P : Value → Prop} {lt : Value → Value → Bool} (h : CmpBut s hp P lt) {h' : Heap} {tk : Nat} (kb : KeepBut hp s.heap h') : CmpBut { s with heap := h', toks := tk } hp P lt :=
  fun u v hu hv A' h'' tk' hA k => h u v hu hv A' h'' tk' hA (kb.trans k)
theorem Fr.but {base h h' : Heap} {L hp : Addr} {m : Str → Option Value} (F : Fr base L h m) (ne : hp ≠ L) (nb : base.get? hp = none) (k : KeepBut hp h h') : Fr base L h' m :=
  ⟨F.ns.at' fun o e => k _ _ (Ne.symm ne) e, fun b o e => k b o (fun q => by rw [q, nb] at e; cases e) (F.keep b o e), F.above⟩
theorem siftdown_at {w : World} {A : Around} {s : Shared} {E : Value → Shared → Prop} {Q : Value → Shared → Prop} {base : Heap} {L hp : Addr} {m : Str → Option Value} {mean mg mb} {l : List Value} {c : Nat} {P : Value → Prop} {lt : Value → Value → Bool} {pos : Nat} {x : Value} {t0 t1 : Tok}
   (F : Fr base L s.heap m) (N : News base L s.heap [(hp, lstO l.toArray c)]) (X : (Mine.hd.heap_1 w.params).In base) (T : Top VV LL mean mg mb base) (hR : Rm A 2) (hx : l[pos]? = some x) (hlen : l.length ≤ 64) (hP : ∀ v ∈ l, P v) (hC : CmpBut s hp P lt)
   (h : ∀ h' tk' c', KeepBut hp s.heap h' → Fr base L h' m → News base L h' [(hp, lstO (siftdown lt x pos l).toArray c')] → Q .none { s with heap := h', toks := tk' }) :
   wpAny (model PP w) A (call (.ref 155) [.ref hp, .int 0 t0, .int pos t1]) Q E s :=
  siftdown_spec (Gl.hide X T F.keep (N _ (.head _)).2.2) hR (N.get (.head _)) hx hlen hP hC fun h' tk' c' kb ho =>
    h h' tk' c' kb (Fr.but F (N _ (.head _)).2.1 (N _ (.head _)).2.2 kb) fun p hp' => by rw [List.mem_singleton.mp hp']; exact ⟨ho, (N _ (.head _)).2⟩
theorem len_at {prog : Program} {w : World} {A : Around} {E : Value → Shared → Prop} {s : Shared} {D : Addr} {l : List Value} {n : Nat} {Q : Value → Shared → Prop} (ho : s.heap.get? D = some (lstO l.toArray n)) (hl : l.length < 2 ^ 62)
    (h : ∀ t tk, Q (.int l.length t) { s with toks := tk }) : wpAny (model prog w) A (call (.builtin "len") [.ref D]) Q E s :=
  len_list ⟨_, ho, rfl, _, rfl⟩ (by simp; omega) (by have := h (s.toks + 1) (s.toks + 1 + 1); simpa using this)
theorem heappush_spec {w : World} {A : Around} {s : Shared} {E : Value → Shared → Prop} {Q : Value → Shared → Prop} {hp : Addr} {l : List Value} {c : Nat} {P : Value → Prop} {lt : Value → Value → Bool} {x : Value}
   (G : Gl w (hideAll s.heap [hp])) (hR : Rm A 3) (ho : s.heap.get? hp = some (lstO l.toArray c)) (hlen : l.length ≤ 60) (hP : ∀ v ∈ l, P v) (hx : P x) (hC : CmpBut s hp P lt)
   (h : ∀ h' tk' c', KeepBut hp s.heap h' → h'.get? hp = some (lstO (pushF lt x l).toArray c') → Q .none { s with heap := h', toks := tk' }) :
   wpAny (model PP w) A (call (.ref 141) [.ref hp, x]) Q E s := by
  obtain ⟨X, mean, mg, mb, T⟩ := G
  obtain ⟨hn, dp, fr, gd, un⟩ := A
  obtain rfl : hn = none := hR.handled
  have sub : (hideAll s.heap [hp]).StaysIn s.heap := fun b o e => of_hideAll _ e
  refine call_defK (binds := [(Str.ofString "heap", .ref hp), (Str.ofString "item", x)]) (X.keeps sub) (T.nolimit.keeps sub) (by k_is) (by k_is) (Rm.room hR) (BindsTo.of_eq rfl) (locs rfl) (by decide) rfl rfl rfl ?_
  intro h₁ L eL F0 N0
  generalize hb : hideAll s.heap [hp] = base at X T sub
  have F : Fr base L h₁ _ := ⟨F0.ns, fun b o e => F0.keep b o (sub b o e), by rw [← hb, hideAll_size]; exact F0.above⟩
  have N : News base L h₁ [(hp, lstO l.toArray c)] := fun p hp' => by
    rw [List.mem_singleton.mp hp']
    exact ⟨F0.keep _ _ ho, Nat.ne_of_lt (Nat.lt_of_lt_of_le (Heap.lt_size ho) F0.above), by rw [← hb]; exact hideAll_none _ (.head _)⟩
  have ofb : ∀ {h' : Heap}, base.StaysIn h' → KeepBut hp s.heap h' := fun {h'} st b o hne e => st b o (by rw [← hb]; exact hideAll_get _ e (by simpa using hne))
  clear F0 N0
  iterate 9 walk_at "one"
  refine append_N F N (fun _ h => nomatch h) (by unfold sizeLine; simp; omega) ?_
  intro h2 F2 N2
  have e1 : l.toArray.push x = (l ++ [x]).toArray := by simp
  rw [e1] at N2
  clear F N
  iterate 17 walk_at "one"
  refine len_at (N2.get (.head _)) (by simp; omega) ?_
  intro t3 tk3
  iterate 4 walk_at "one"
  have e2 : (((l ++ [x]).length : Nat) : Int) - 1 = ((l.length : Nat) : Int) := by simp
  rw [e2]
  refine siftdown_at F2 N2 X T (Rm.mono (Rm.deeper hR) (by decide)) (x := x) (by simp) (by simp; omega) (fun v hv => ?_) (hC.step (ofb F2.keep)) ?_
  · rcases List.mem_append.mp hv with hv | hv
    · exact hP v hv
    · rw [List.mem_singleton.mp hv]; exact hx
  intro h5 tk5 c5 kb5 F5 N5
  k_steps
  exact h _ _ _ (ofb F5.keep) (N5.get (.head _))
end Mine
end

section
theorem Mine.rst_S9 : True ∧ True := by
  w_top off
  first | (walk1; fail "laid") | exact ⟨trivial, trivial⟩
open PySem PySem.W PyProof.Rows PySem.Calls
set_option linter.unusedVariables false
namespace Mine
theorem fill13 : (PySem.Challenge.rw_pd0049_01.prog = PySem.Challenge.rw_pd0049_01.prog) ∧ (∀ P, Mine.hd.heap_1 P = Mine.hd.heap_1 P) := by k_fill; exact ⟨rfl, fun _ => rfl⟩
theorem pin6 {m : Str → Option Value} {x1 x2 x3 x4 x5 x6 : Str} {v1 v2 v3 v4 v5 v6 : Value} (h1 : m x1 = some v1) (h2 : m x2 = some v2) (h3 : m x3 = some v3) (h4 : m x4 = some v4) (h5 : m x5 = some v5) (h6 : m x6 = some v6) :
    m = fun y => if y = x1 then some v1 else if y = x2 then some v2 else if y = x3 then some v3 else if y = x4 then some v4 else if y = x5 then some v5 else if y = x6 then some v6 else m y := by
  funext y
  by_cases q1 : y = x1
  · rw [if_pos q1, q1, h1]
  by_cases q2 : y = x2
  · rw [if_neg q1, if_pos q2, q2, h2]
  rw [if_neg q1, if_neg q2]
  exact congrFun (pin4 h3 h4 h5 h6) y
theorem suF_none {α : Type} {lt : α → α → Bool} {k p : Nat} {l : List α} (h : l[2 * p + 1]? = none) : suF lt k p l = (p, l) := by
  cases k with
  | zero => rfl
  | succ k => simp only [suF, h]
theorem suF_left {α : Type} {lt : α → α → Bool} {k p : Nat} {l : List α} {a : α} (h : l[2 * p + 1]? = some a) (h2 : l[2 * p + 2]? = none ∨ ∃ b, l[2 * p + 2]? = some b ∧ lt a b = true) : suF lt (k + 1) p l = suF lt k (2 * p + 1) (l.set p a) := by
  rcases h2 with h2 | ⟨b, h2, h3⟩
  · simp only [suF, h, h2]
  · simp only [suF, h, h2, h3, if_true]
theorem suF_right {α : Type} {lt : α → α → Bool} {k p : Nat} {l : List α} {a b : α} (h : l[2 * p + 1]? = some a) (h2 : l[2 * p + 2]? = some b) (h3 : lt a b = false) : suF lt (k + 1) p l = suF lt k (2 * p + 2) (l.set p b) := by
  simp only [suF, h, h2, h3, Bool.false_eq_true, if_false]
inductive R9 (base : Heap) (L hp : Addr) (x : Value) (l : List Value) (lt : Value → Value → Bool) (t0 : Tok) (P : Value → Prop) (h' : Heap) : Prop
  | mk : ∀ (k p : Nat) (m : Str → Option Value) (l' : List Value) (c' tp : Nat), (h'.Ns L m) →
      (m (Str.ofString "heap") = some (.ref hp)) →
      (m (Str.ofString "startpos") = some (.int 0 t0)) →
      (m (Str.ofString "pos") = some (.int p tp)) →
      (m (Str.ofString "newitem") = some x) →
      (base.StaysIn h') →
      (h'.get? hp = some (lstO l'.toArray c')) →
      (l'.length = l.length) →
      (p < l.length) →
      ((∀ v ∈ l', P v)) →
      (suF lt l.length 0 l = (p, l')) → R9 base L hp x l lt t0 P h'
inductive J9 (base : Heap) (L hp : Addr) (x : Value) (l : List Value) (lt : Value → Value → Bool) (t0 t3 : Tok) (P : Value → Prop) (k : Nat) (h' : Heap) : Prop
  | mk : ∀ (p : Nat) (m : Str → Option Value) (l' : List Value) (c' tp tc : Nat), (h'.Ns L m) →
      (m (Str.ofString "heap") = some (.ref hp)) →
      (m (Str.ofString "startpos") = some (.int 0 t0)) →
      (m (Str.ofString "pos") = some (.int p tp)) →
      (m (Str.ofString "newitem") = some x) →
      (m (Str.ofString "endpos") = some (.int l.length t3)) →
      (m (Str.ofString "childpos") = some (.int ((2 * p + 1 : Nat) : Int) tc)) →
      (base.StaysIn h') →
      (h'.get? hp = some (lstO l'.toArray c')) →
      (l'.length = l.length) →
      (p < l.length) →
      ((∀ v ∈ l', P v)) →
      (suF lt l.length 0 l = suF lt k p l') →
      (l.length ≤ p + k) → J9 base L hp x l lt t0 t3 P k h'
theorem siftup_spec {w : World} {A : Around} {s : Shared} {E : Value → Shared → Prop} {Q : Value → Shared → Prop} {hp : Addr} {l : List Value} {c : Nat} {P : Value → Prop} {lt : Value → Value → Bool} {x : Value} {t0 : Tok}
   (G : Gl w (hideAll s.heap [hp])) (hR : Rm A 3) (ho : s.heap.get? hp = some (lstO l.toArray c)) (hlen : l.length ≤ 60) (hx : l[0]? = some x) (hP : ∀ v ∈ l, P v) (hC : CmpBut s hp P lt)
   (h : ∀ h' tk' c', KeepBut hp s.heap h' → h'.get? hp = some (lstO (siftup lt x l).toArray c') → Q .none { s with heap := h', toks := tk' }) :
   wpAny (model PP w) A (call (.ref 162) [.ref hp, .int 0 t0]) Q E s := by
  obtain ⟨X, mean, mg, mb, T⟩ := G
  obtain ⟨hn, dp, fr, gd, un⟩ := A
  obtain rfl : hn = none := hR.handled
  have sub : (hideAll s.heap [hp]).StaysIn s.heap := fun b o e => of_hideAll _ e
  refine call_defK (binds := [(Str.ofString "heap", .ref hp), (Str.ofString "pos", .int 0 t0)]) (X.keeps sub) (T.nolimit.keeps sub) (by k_is) (by k_is) (Rm.room hR) (BindsTo.of_eq rfl) (locs rfl) (by decide) rfl rfl rfl ?_
  intro h₁ L eL F0 N0
  generalize hb : hideAll s.heap [hp] = base at X T sub
  have F : Fr base L h₁ _ := ⟨F0.ns, fun b o e => F0.keep b o (sub b o e), by rw [← hb, hideAll_size]; exact F0.above⟩
  have N : News base L h₁ [(hp, lstO l.toArray c)] := fun p hp' => by
    rw [List.mem_singleton.mp hp']
    exact ⟨F0.keep _ _ ho, Nat.ne_of_lt (Nat.lt_of_lt_of_le (Heap.lt_size ho) F0.above), by rw [← hb]; exact hideAll_none _ (.head _)⟩
  have ofb : ∀ {h' : Heap}, base.StaysIn h' → KeepBut hp s.heap h' := fun {h'} st b o hne e => st b o (by rw [← hb]; exact hideAll_get _ e (by simpa using hne))
  clear F0 N0
  iterate 8 walk_at "one"
  refine len_at (N.get (.head _)) (by lia) ?_
  intro t3 tk3
  iterate 11 walk_at "one"
  rename News _ _ _ _ => N1
  refine item_at (i := 0) (N1.get (.head _)) (by lia) hx ?_
  iterate 12 walk_at "one"
  rename Fr _ _ _ _ => FW
  rename News _ _ _ _ => NW
  have nehp : hp ≠ L := (NW _ (.head _)).2.1
  have nbhp : base.get? hp = none := (NW _ (.head _)).2.2
  have aL := FW.above
  have h0l : 0 < l.length := (List.getElem?_eq_some_iff.mp hx).1
  refine while_rest (R9 base L hp x l lt t0 P) ?_ ?_
  · clear FW NW
    rintro hh tkh ⟨k, p, m, l', c', tp, hn, q1, q2, q3, q4, st, ho', hl', hk, hP', hS⟩
    have FT : Fr base L hh m := ⟨hn, st, aL⟩
    rw [pin4 q1 q2 q3 q4] at FT
    have NT : News base L hh [(hp, lstO l'.toArray c')] := fun p hp' => by rw [List.mem_singleton.mp hp']; exact ⟨ho', nehp, nbhp⟩
    clear hn
    dsimp only
    iterate 5 walk_at "one"
    refine setitem_at (NT.get (.head _)) (by lia) (by lia) ?_
    intro h9 h9o h9s
    have F9 := Fr.swap FT NT h9s
    have N9 := News.swap NT (fun _ h => nomatch h) h9s h9o
    clear FT NT
    iterate 13 walk_at "one"
    refine siftdown_at F9 N9 X T (Rm.mono (Rm.deeper hR) (by decide)) (x := x) (get_set_eq (by lia)) (by rw [List.length_set]; lia) (fun v hv => ?_) (hC.step (ofb F9.keep)) ?_
    · rcases List.mem_or_eq_of_mem_set hv with hv | rfl
      · exact hP' v hv
      · exact hP _ (List.mem_of_getElem? hx)
    intro h5 tk5 c5 kb5 F5 N5
    k_steps
    have e5 : siftup lt x l = siftdown lt x p (l'.set p x) := by unfold siftup; rw [hS]
    exact h _ _ _ (ofb F5.keep) (by rw [e5]; exact N5.get (.head _))
  intro Q' hQ'
  refine while_rule (J9 base L hp x l lt t0 t3 P) ?_ l.length
    ⟨0, _, l, c, t0, _, FW.ns, rfl, rfl, rfl, rfl, rfl, rfl, FW.keep, (NW _ (.head _)).1, rfl, h0l, hP, rfl, by lia⟩
  clear FW NW
  rintro RW k hRW hh tkh ⟨p, m, l', c', tp, tc, hn, q1, q2, q3, q4, q5, q6, st, ho', hl', hk, hP', hS, hkk⟩
  have FT : Fr base L hh m := ⟨hn, st, aL⟩
  rw [pin6 q1 q2 q3 q4 q5 q6] at FT
  have NT : News base L hh [(hp, lstO l'.toArray c')] := fun p hp' => by rw [List.mem_singleton.mp hp']; exact ⟨ho', nehp, nbhp⟩
  k_steps
  rcases Nat.lt_or_ge (2 * p + 1) l.length with h1 | h1
  rotate_left
  · refine WhileTurn.no (by simp; lia) (hQ' _ _ ⟨k, p, m, l', c', tp, hn, q1, q2, q3, q4, st, ho', hl', hk, hP', ?_⟩)
    rw [hS, suF_none (by simp; lia)]
  obtain ⟨a, ha⟩ : ∃ a, l'[2 * p + 1]? = some a := ⟨l'[2 * p + 1], by rw [List.getElem?_eq_getElem]⟩
  refine WhileTurn.yes (by simp; lia) ?_
  clear hn
  have er : ((2 * p + 1 : Nat) : Int) + 1 = ((2 * p + 2 : Nat) : Int) := by lia
  iterate 6 walk_at "one"
  rw [er]
  iterate 10 walk_at "one"
  · rename_i hq
    rename Fr _ _ _ _ => FA
    rename News _ _ _ _ => NA
    obtain ⟨b, hb2⟩ : ∃ b, l'[2 * p + 2]? = some b := ⟨l'[2 * p + 2]'(by lia), by rw [List.getElem?_eq_getElem]⟩
    iterate 6 walk_at "one"
    refine item_at (NA.get (.head _)) (by lia) ha ?_
    iterate 3 walk_at "one"
    refine item_at (NA.get (.head _)) (by lia) hb2 ?_
    refine hC a b (hP' _ (List.mem_of_getElem? ha)) (hP' _ (List.mem_of_getElem? hb2)) _ _ _ (Rm.unit4 hR) (ofb FA.keep) PP w _ _ ?_
    k_steps
    · rename lt a b = true => hlt
      refine item_at (NA.get (.head _)) (by lia) ha ?_
      iterate 2 walk_at "one"
      refine setitem_at (NA.get (.head _)) (by lia) (by lia) ?_
      intro h9 h9o h9s
      have F9 := Fr.swap FA NA h9s
      have N9 := News.swap NA (fun _ h => nomatch h) h9s h9o
      clear FA NA
      k_steps
      rename Fr _ _ _ _ => FE
      rename News _ _ _ _ => NE
      obtain ⟨k, rfl⟩ : ∃ j, k = j + 1 := ⟨k - 1, by lia⟩
      exact hRW _ _ k (by lia) ⟨2 * p + 1, _, l'.set p a, c', _, _, FE.ns, rfl, rfl, rfl, rfl, rfl, rfl, FE.keep, NE.get (.head _), by rw [List.length_set]; exact hl', by lia, fun v hv => by
        rcases List.mem_or_eq_of_mem_set hv with hv | rfl
        · exact hP' v hv
        · exact hP' _ (List.mem_of_getElem? ha), by rw [hS, suF_left ha (.inr ⟨b, hb2, hlt⟩)], by lia⟩
    · rename lt a b = false => hlt
      rename Fr _ _ _ _ => FC
      rename News _ _ _ _ => NC
      refine item_at (NC.get (.head _)) (by lia) hb2 ?_
      iterate 2 walk_at "one"
      refine setitem_at (NC.get (.head _)) (by lia) (by lia) ?_
      intro h9 h9o h9s
      have F9 := Fr.swap FC NC h9s
      have N9 := News.swap NC (fun _ h => nomatch h) h9s h9o
      clear FC NC
      k_steps
      rename Fr _ _ _ _ => FE
      rename News _ _ _ _ => NE
      obtain ⟨k, rfl⟩ : ∃ j, k = j + 1 := ⟨k - 1, by lia⟩
      exact hRW _ _ k (by lia) ⟨2 * p + 2, _, l'.set p b, c', _, _, FE.ns, rfl, rfl, rfl, rfl, rfl, rfl, FE.keep, NE.get (.head _), by rw [List.length_set]; exact hl', by lia, fun v hv => by
        rcases List.mem_or_eq_of_mem_set hv with hv | rfl
        · exact hP' v hv
        · exact hP' _ (List.mem_of_getElem? hb2), by rw [hS, suF_right ha hb2 hlt], by lia⟩
  · rename_i hq
    rename News _ _ _ _ => NB
    rename Fr _ _ _ _ => FB
    iterate 8 walk_at "one"
    refine item_at (NB.get (.head _)) (by lia) ha ?_
    iterate 2 walk_at "one"
    refine setitem_at (NB.get (.head _)) (by lia) (by lia) ?_
    intro h9 h9o h9s
    have F9 := Fr.swap FB NB h9s
    have N9 := News.swap NB (fun _ h => nomatch h) h9s h9o
    clear FB NB
    k_steps
    rename Fr _ _ _ _ => FE
    rename News _ _ _ _ => NE
    obtain ⟨k, rfl⟩ : ∃ j, k = j + 1 := ⟨k - 1, by lia⟩
    exact hRW _ _ k (by lia) ⟨2 * p + 1, _, l'.set p a, c', _, _, FE.ns, rfl, rfl, rfl, rfl, rfl, rfl, FE.keep, NE.get (.head _), by rw [List.length_set]; exact hl', by lia, fun v hv => by
      rcases List.mem_or_eq_of_mem_set hv with hv | rfl
      · exact hP' v hv
      · exact hP' _ (List.mem_of_getElem? ha), by rw [hS, suF_left ha (.inl (by simp; lia))], by lia⟩
end Mine
end

section
theorem Mine.rst_S10 : True ∧ True := by
  w_top off
  first | (walk1; fail "laid") | exact ⟨trivial, trivial⟩
open PySem PySem.W PyProof.Rows PySem.Calls
set_option linter.unusedVariables false
namespace Mine
theorem fill14 : (PySem.Challenge.rw_pd0049_01.prog = PySem.Challenge.rw_pd0049_01.prog) ∧ (∀ P, Mine.hd.heap_1 P = Mine.hd.heap_1 P) := by k_fill; exact ⟨rfl, fun _ => rfl⟩
theorem siftup_at {w : World} {A : Around} {s : Shared} {E : Value → Shared → Prop} {Q : Value → Shared → Prop} {base : Heap} {L hp : Addr} {m : Str → Option Value} {mean mg mb} {l : List Value} {c : Nat} {P : Value → Prop} {lt : Value → Value → Bool} {x : Value} {t0 : Tok}
   (F : Fr base L s.heap m) (N : News base L s.heap [(hp, lstO l.toArray c)]) (X : (Mine.hd.heap_1 w.params).In base) (T : Top VV LL mean mg mb base) (hR : Rm A 3) (hx : l[0]? = some x) (hlen : l.length ≤ 60) (hP : ∀ v ∈ l, P v) (hC : CmpBut s hp P lt)
   (h : ∀ h' tk' c', KeepBut hp s.heap h' → Fr base L h' m → News base L h' [(hp, lstO (siftup lt x l).toArray c')] → Q .none { s with heap := h', toks := tk' }) :
   wpAny (model PP w) A (call (.ref 162) [.ref hp, .int 0 t0]) Q E s :=
  siftup_spec (Gl.hide X T F.keep (N _ (.head _)).2.2) hR (N.get (.head _)) hlen hx hP hC fun h' tk' c' kb ho =>
    h h' tk' c' kb (Fr.but F (N _ (.head _)).2.1 (N _ (.head _)).2.2 kb) fun p hp' => by rw [List.mem_singleton.mp hp']; exact ⟨ho, (N _ (.head _)).2⟩
theorem heappop_spec {w : World} {A : Around} {s : Shared} {E : Value → Shared → Prop} {Q : Value → Shared → Prop} {hp : Addr} {r : List Value} {x0 : Value} {c : Nat} {P : Value → Prop} {lt : Value → Value → Bool}
   (G : Gl w (hideAll s.heap [hp])) (hR : Rm A 4) (ho : s.heap.get? hp = some (lstO (x0 :: r).toArray c)) (hlen : r.length < 60) (hP : ∀ v ∈ x0 :: r, P v) (hC : CmpBut s hp P lt)
   (h : ∀ h' tk' c', KeepBut hp s.heap h' → h'.get? hp = some (lstO (popF lt (x0 :: r)).toArray c') → Q x0 { s with heap := h', toks := tk' }) :
   wpAny (model PP w) A (call (.ref 148) [.ref hp]) Q E s := by
  obtain ⟨X, mean, mg, mb, T⟩ := G
  obtain ⟨hn, dp, fr, gd, un⟩ := A
  obtain rfl : hn = none := hR.handled
  have sub : (hideAll s.heap [hp]).StaysIn s.heap := fun b o e => of_hideAll _ e
  refine call_defK (binds := [(Str.ofString "heap", .ref hp)]) (X.keeps sub) (T.nolimit.keeps sub) (by k_is) (by k_is) (Rm.room hR) (BindsTo.of_eq rfl) (locs rfl) (by decide) rfl rfl rfl ?_
  intro h₁ L eL F0 N0
  generalize hb : hideAll s.heap [hp] = base at X T sub
  have F : Fr base L h₁ _ := ⟨F0.ns, fun b o e => F0.keep b o (sub b o e), by rw [← hb, hideAll_size]; exact F0.above⟩
  have N : News base L h₁ [(hp, lstO (x0 :: r).toArray c)] := fun p hp' => by
    rw [List.mem_singleton.mp hp']
    exact ⟨F0.keep _ _ ho, Nat.ne_of_lt (Nat.lt_of_lt_of_le (Heap.lt_size ho) F0.above), by rw [← hb]; exact hideAll_none _ (.head _)⟩
  have ofb : ∀ {h' : Heap}, base.StaysIn h' → KeepBut hp s.heap h' := fun {h'} st b o hne e => st b o (by rw [← hb]; exact hideAll_get _ e (by simpa using hne))
  clear F0 N0
  obtain ⟨ys, y, hy⟩ : ∃ ys y, x0 :: r = ys ++ [y] := ⟨_, _, (List.dropLast_concat_getLast (List.cons_ne_nil x0 r)).symm⟩
  rw [hy] at N
  have hyl : ys.length = r.length := by have := congrArg List.length hy; simp at this; lia
  have hdl : (x0 :: r).dropLast = ys := by rw [hy, List.dropLast_concat]
  have hgl : (x0 :: r).getLast? = some y := by rw [hy, List.getLast?_concat]
  iterate 6 walk_at "one"
  refine pop_at (N.get (.head _)) (by unfold sizeLine; lia) ?_
  intro h9 h9o h9s
  have F9 := Fr.swap F N h9s
  have N9 := News.swap N (fun _ h => nomatch h) h9s h9o
  clear F N
  cases ys with
  | nil =>
    obtain ⟨rfl, rfl⟩ : x0 = y ∧ r = [] := by simpa using hy
    k_steps
    rename Fr _ _ _ _ => FB
    rename News _ _ _ _ => NB
    exact h _ _ _ (ofb FB.keep) (NB.get (.head _))
  | cons a ys =>
    obtain ⟨rfl, hr⟩ : x0 = a ∧ r = ys ++ [y] := by simpa using hy
    iterate 20 walk_at "one"
    rename Fr _ _ _ _ => FB
    rename News _ _ _ _ => NB
    have hyl' : (x0 :: ys).length = r.length := hyl
    refine setitem_at (i := 0) (l := x0 :: ys) (NB.get (.head _)) (by lia) (by simp) ?_
    intro h8 h8o h8s
    have F8 := Fr.swap FB NB h8s
    have N8 := News.swap NB (fun _ h => nomatch h) h8s h8o
    clear FB NB
    iterate 11 walk_at "one"
    refine siftup_at F8 N8 X T (Rm.mono (Rm.deeper hR) (by decide)) (l := y :: ys) rfl (by simp at hyl' ⊢; lia) (fun v hv => ?_) (hC.step (ofb F8.keep)) ?_
    · rcases List.mem_cons.mp hv with rfl | hv
      · exact hP _ (by rw [hr]; simp)
      · exact hP _ (by rw [hr]; simp [hv])
    intro h5 tk5 c5 kb5 F5 N5
    clear F8 N8
    k_steps
    rename Fr _ _ _ _ => FE
    rename News _ _ _ _ => NE
    have e5 : popF lt (x0 :: r) = siftup lt y (y :: ys) := by unfold popF; rw [hdl, hgl]
    exact h _ _ _ (ofb FE.keep) (by rw [e5]; exact NE.get (.head _))
end Mine
end

section
theorem Mine.rst_SO : True ∧ True := by
  w_top off
  first | (walk1; fail "laid") | exact ⟨trivial, trivial⟩
open PySem PySem.W PyProof.Rows
set_option linter.unusedVariables false
namespace Mine
section
variable {n : Nat} {blt : Nat → Nat → Bool} {cmp : Nat → Nat → (Bool → Shared → Prop) → Shared → Prop}
/-- comparisons answer by an order and change nothing -/
noncomputable def CmpBy (n : Nat) (blt : Nat → Nat → Bool) (cmp : Nat → Nat → (Bool → Shared → Prop) → Shared → Prop) : Prop := ∀ i j C s, i < n → j < n → C (blt i j) s → cmp i j C s
noncomputable def PermR (n : Nat) (p : Array Nat) : Prop := p.Perm (List.range n).toArray
theorem PermR.size {p : Array Nat} (h : PermR n p) : p.size = n := by have := h.size_eq; simpa using this
theorem PermR.lt {p : Array Nat} (h : PermR n p) (hn : 0 < n) (k : Nat) : p.getD k 0 < n := by
  by_cases hk : k < p.size
  · have e : p.getD k 0 = p[k] := by simp [Array.getD, hk]
    have hm : p[k] ∈ p.toList := by simp
    have := (Array.perm_iff_toList_perm.mp h).mem_iff.mp hm
    rw [e]; simpa using this
  · have e : p.getD k 0 = 0 := by simp [Array.getD, hk]
    lia
theorem getD_of {p q : Array Nat} {i j : Nat} (h : p[i]? = q[j]?) : p.getD i 0 = q.getD j 0 := by
  rw [Array.getD_eq_getD_getElem?, Array.getD_eq_getD_getElem?, h]
/-- rising, falling and alike stretches -/
noncomputable def Up (blt : Nat → Nat → Bool) (p : Array Nat) (k : Nat) : Prop := ∀ i j, i ≤ j → j < k → blt (p.getD j 0) (p.getD i 0) = false
noncomputable def Down (blt : Nat → Nat → Bool) (p : Array Nat) (k : Nat) : Prop := ∀ i j, i ≤ j → j < k → blt (p.getD i 0) (p.getD j 0) = false
noncomputable def Alike (blt : Nat → Nat → Bool) (p : Array Nat) (a b : Nat) : Prop := ∀ i j, a ≤ i → i < b → a ≤ j → j < b → blt (p.getD i 0) (p.getD j 0) = false
theorem Weak.refl {α : Type} {lt : α → α → Bool} (W : Weak lt) (a : α) : lt a a = false := by
  cases q : lt a a with
  | false => rfl
  | true => have := W.asym _ _ q; rw [q] at this; exact this
theorem rev_get {p : Array Nat} {i j : Nat} (hj : j ≤ p.size) (k : Nat) : (kas_rev p i j).getD k 0 = if i ≤ k ∧ k < j then p.getD (i + j - 1 - k) 0 else p.getD k 0 := by
  have := getElem?_mirror_all (i := i) hj k
  unfold kas_rev
  by_cases h : i ≤ k ∧ k < j
  · rw [if_pos h] at this ⊢; exact getD_of this
  · rw [if_neg h] at this ⊢; exact getD_of this
theorem bub_get {p : Array Nat} {k d : Nat} (hk : k < p.size) (hd : d ≤ k) (i : Nat) : (bubble p k d).getD i 0 = if i = k - d then p.getD k 0 else if k - d < i ∧ i ≤ k then p.getD (i - 1) 0 else p.getD i 0 := by
  have := getElem?_bubble hk d hd i
  by_cases h : i = k - d
  · rw [if_pos h] at this ⊢; exact getD_of this
  · rw [if_neg h] at this ⊢
    by_cases h2 : k - d < i ∧ i ≤ k
    · rw [if_pos h2] at this ⊢; exact getD_of this
    · rw [if_neg h2] at this ⊢; exact getD_of this
theorem PermR.rev {p : Array Nat} (h : PermR n p) (i j : Nat) : PermR n (kas_rev p i j) := (mirror_perm _ _ _ _).trans h
theorem PermR.bub {p : Array Nat} (h : PermR n p) (k d : Nat) : PermR n (bubble p k d) := (bubble_perm _ _ _).trans h
section
variable (hn : 0 < n) (W : Weak blt) (hC : CmpBy n blt cmp)
include hn hC W
theorem asc_ok {p : Array Nat} (hp : PermR n p) : ∀ (f k : Nat) (s : Shared) (G : Nat → Shared → Prop), 1 ≤ k → k + f ≤ n → Up blt p k → (∀ m, k ≤ m → m ≤ k + f → Up blt p m → (m < k + f → blt (p.getD m 0) (p.getD (m - 1) 0) = true) → G m s) → (kas_asc p f k).kasWp cmp G s
  | 0, k, s, G, h1, hk, hu, hG => hG k (Nat.le_refl _) (Nat.le_refl _) hu fun h => absurd h (by lia)
  | f + 1, k, s, G, h1, hk, hu, hG => by
    show cmp (p.getD k 0) (p.getD (k - 1) 0) _ s
    refine hC _ _ _ _ (hp.lt hn _) (hp.lt hn _) ?_
    cases hc : blt (p.getD k 0) (p.getD (k - 1) 0) with
    | true => exact hG k (Nat.le_refl _) (by lia) hu fun _ => hc
    | false =>
      show (kas_asc p f (k + 1)).kasWp cmp G s
      refine asc_ok hp f (k + 1) s G (by lia) (by lia) (fun i j hij hj => ?_) fun m a b c d => hG m (by lia) (by lia) c fun h => d (by lia)
      by_cases hjk : j = k
      · subst hjk
        by_cases hik : i = j
        · subst hik; exact W.refl _
        · exact W.trans _ _ _ (hu i (j - 1) (by lia) (by lia)) hc
      · exact hu i j hij (by lia)
/-- while the run falls -/
structure Fall (n : Nat) (blt : Nat → Nat → Bool) (p : Array Nat) (k q : Nat) : Prop where
  perm : PermR n p
  pos : q + 1 ≤ k
  le : k ≤ n
  down : Down blt p k
  alike : Alike blt p (k - (q + 1)) k
omit hn hC in
theorem Fall.rev {p : Array Nat} {k q : Nat} (h : Fall n blt p k q) : PermR n (kas_rev p (k - (q + 1)) k) ∧ Down blt (kas_rev p (k - (q + 1)) k) k ∧ (∀ i, k ≤ i → (kas_rev p (k - (q + 1)) k).getD i 0 = p.getD i 0) ∧
    (∀ i j, k - (q + 1) ≤ i → i < k → blt ((kas_rev p (k - (q + 1)) k).getD i 0) (p.getD j 0) = blt (p.getD (k - (q + 1) + k - 1 - i) 0) (p.getD j 0)) ∧
    (∀ j, blt (p.getD j 0) (p.getD (k - 1) 0) = true → blt (p.getD j 0) ((kas_rev p (k - (q + 1)) k).getD (k - 1) 0) = true) := by
  have hk : k ≤ p.size := by rw [h.perm.size]; exact h.le
  have hpos := h.pos
  refine ⟨h.perm.rev _ _, fun i j hij hj => ?_, fun i hi => ?_, fun i j h1 h2 => ?_, fun j hj => ?_⟩
  · rw [rev_get hk, rev_get hk]
    split <;> split
    · exact h.alike _ _ (by lia) (by lia) (by lia) (by lia)
    · rename_i a b; exact absurd ⟨by lia, hj⟩ b
    · rename_i a b; exact h.down _ _ (by lia) (by lia)
    · exact h.down _ _ hij hj
  · rw [rev_get hk, if_neg (by lia)]
  · rw [rev_get hk, if_pos ⟨h1, h2⟩]
  · rw [rev_get hk, if_pos (by lia)]
    have e : k - (q + 1) + k - 1 - (k - 1) = k - (q + 1) := by lia
    rw [e]
    have al := h.alike (k - (q + 1)) (k - 1) (Nat.le_refl _) (by lia) (by lia) (by lia)
    cases hc : blt (p.getD j 0) (p.getD (k - (q + 1)) 0) with
    | true => rfl
    | false =>
      have := W.trans _ _ _ al hc
      rw [hj] at this; exact this.symm
theorem desc_ok : ∀ (f : Nat) (p : Array Nat) (k q : Nat) (s : Shared) (G : Array Nat × Nat × Nat → Shared → Prop), Fall n blt p k q → k + f ≤ n →
    (∀ p' k' q', Fall n blt p' k' q' → k ≤ k' → G (p', k', q') s) → (kas_desc f p k q).kasWp cmp G s
  | 0, p, k, q, s, G, h, hk, hG => hG p k q h (Nat.le_refl _)
  | f + 1, p, k, q, s, G, h, hk, hG => by
    show cmp (p.getD k 0) (p.getD (k - 1) 0) _ s
    have hpos := h.pos
    refine hC _ _ _ _ (h.perm.lt hn _) (h.perm.lt hn _) ?_
    cases hc : blt (p.getD k 0) (p.getD (k - 1) 0) with
    | true =>
      dsimp only
      rw [if_pos rfl]
      have down' : ∀ r : Array Nat, Down blt r k → blt (r.getD k 0) (r.getD (k - 1) 0) = true → Down blt r (k + 1) := by
        intro r hr hl i j hij hj
        by_cases hjk : j = k
        · subst hjk
          by_cases hik : i = j
          · subst hik; exact W.refl _
          · exact W.trans _ _ _ (W.asym _ _ hl) (hr i (j - 1) (by lia) (by lia))
        · exact hr i j hij (by lia)
      have al' : ∀ r : Array Nat, Alike blt r (k + 1 - (0 + 1)) (k + 1) := by
        intro r i j a b c d
        have : i = k := by lia
        have : j = k := by lia
        subst i; subst j
        exact W.refl _
      by_cases hq : q > 0
      · rw [if_pos hq]
        obtain ⟨r1, r2, r3, r4, r5⟩ := h.rev W
        refine desc_ok f _ (k + 1) 0 s G ⟨r1, by lia, by lia, down' _ r2 ?_, al' _⟩ (by lia) fun p' k' q' a b => hG p' k' q' a (by lia)
        rw [r3 k (Nat.le_refl _)]
        exact r5 k hc
      · rw [if_neg hq]
        exact desc_ok f _ (k + 1) 0 s G ⟨h.perm, by lia, by lia, down' _ h.down hc, al' _⟩ (by lia) fun p' k' q' a b => hG p' k' q' a (by lia)
    | false =>
      dsimp only
      rw [if_neg (by decide)]
      refine hC _ _ _ _ (h.perm.lt hn _) (h.perm.lt hn _) ?_
      cases hd : blt (p.getD (k - 1) 0) (p.getD k 0) with
      | true => exact hG p k q h (Nat.le_refl _)
      | false =>
        dsimp only
        rw [if_neg (by decide)]
        refine desc_ok f p (k + 1) (q + 1) s G ⟨h.perm, by lia, by lia, fun i j hij hj => ?_, fun i j a b c d => ?_⟩ (by lia) fun p' k' q' a b => hG p' k' q' a (by lia)
        · by_cases hjk : j = k
          · subst hjk
            by_cases hik : i = j
            · subst hik; exact W.refl _
            · exact W.trans _ _ _ hd (h.down i (j - 1) (by lia) (by lia))
          · exact h.down i j hij (by lia)
        · have e : k + 1 - (q + 1 + 1) = k - (q + 1) := by lia
          rw [e] at a c
          have last : ∀ i, k - (q + 1) ≤ i → i < k → blt (p.getD i 0) (p.getD k 0) = false ∧ blt (p.getD k 0) (p.getD i 0) = false := fun i a b =>
            ⟨W.trans _ _ _ hd (h.alike i (k - 1) a b (by lia) (by lia)), W.trans _ _ _ (h.alike (k - 1) i (by lia) (by lia) a b) hc⟩
          by_cases h1 : i = k <;> by_cases h2 : j = k
          · subst h1; subst h2; exact W.refl _
          · subst h1; exact (last j c (by lia)).2
          · subst h2; exact (last i a (by lia)).1
          · exact h.alike i j a (by lia) c (by lia)
omit hn hC in
theorem down_rev {p : Array Nat} {k : Nat} (hp : PermR n p) (hk : k ≤ n) (h : Down blt p k) : Up blt (kas_rev p 0 k) k := by
  intro i j hij hj
  have hk' : k ≤ p.size := by rw [hp.size]; exact hk
  rw [rev_get hk', rev_get hk', if_pos (by lia), if_pos (by lia)]
  exact h _ _ (by lia) (by lia)
theorem tail3_ok {p : Array Nat} {k : Nat} (hp : PermR n p) (h1 : 1 ≤ k) (hk : k ≤ n) (h : Down blt p k) {s : Shared} {G : Nat × Array Nat → Shared → Prop}
    (hG : ∀ m p', PermR n p' → 1 ≤ m → m ≤ n → Up blt p' m → G (m, p') s) : (kas_tail3 k n p).kasWp cmp G s := by
  unfold kas_tail3
  rw [KasT.kasWp_bind]
  exact asc_ok hn W hC (hp.rev _ _) (n - k) k s _ h1 (by lia) (down_rev W hp hk h) fun m a b c _ => hG m _ (hp.rev _ _) (by lia) (by lia) c
theorem descPart_ok {p : Array Nat} {k : Nat} (hp : PermR n p) (h1 : 1 ≤ k) (hk : k < n) (al : Alike blt p 0 k) (hlt : blt (p.getD k 0) (p.getD (k - 1) 0) = true) {s : Shared} {G : Nat × Array Nat → Shared → Prop}
    (hG : ∀ m p', PermR n p' → 1 ≤ m → m ≤ n → Up blt p' m → G (m, p') s) : (kas_descPart k n p).kasWp cmp G s := by
  unfold kas_descPart
  rw [KasT.kasWp_bind]
  refine desc_ok hn W hC _ p (k + 1) 0 s _ ⟨hp, by lia, by lia, fun i j hij hj => ?_, fun i j a b c d => ?_⟩ (by lia) fun p' k' q' F hk' => ?_
  · by_cases hjk : j = k
    · subst hjk
      by_cases hik : i = j
      · subst hik; exact W.refl _
      · exact W.trans _ _ _ (W.asym _ _ hlt) (al i (j - 1) (by lia) (by lia) (by lia) (by lia))
    · exact al i j (by lia) (by lia) (by lia) (by lia)
  · have : i = k := by lia
    have : j = k := by lia
    subst i; subst j
    exact W.refl _
  · dsimp only
    by_cases hq : q' > 0
    · rw [if_pos hq]
      obtain ⟨r1, r2, _⟩ := F.rev W
      exact tail3_ok hn W hC r1 (by lia) F.le r2 hG
    · rw [if_neg hq]
      exact tail3_ok hn W hC F.perm (by lia) F.le F.down hG
theorem count_ok {p : Array Nat} (hp : PermR n p) {s : Shared} {G : Nat × Array Nat → Shared → Prop} (hG : ∀ m p', PermR n p' → 1 ≤ m → m ≤ n → Up blt p' m → G (m, p') s) : (kas_count n p).kasWp cmp G s := by
  unfold kas_count
  rw [KasT.kasWp_bind]
  refine asc_ok hn W hC hp (n - 1) 1 s _ (Nat.le_refl _) (by lia) (fun i j hij hj => ?_) fun m a b c d => ?_
  · have : i = 0 := by lia
    have : j = 0 := by lia
    subst i; subst j; exact W.refl _
  · by_cases hm : m = n
    · rw [if_pos (by simp [hm])]
      exact hG m p hp a (by lia) c
    · rw [if_neg (by simpa using hm)]
      have hlt := d (by lia)
      by_cases h1 : m > 1
      · rw [if_pos h1]
        refine hC _ _ _ _ (hp.lt hn _) (hp.lt hn _) ?_
        cases hc : blt (p.getD 0 0) (p.getD (m - 1) 0) with
        | true => exact hG m p hp a (by lia) c
        | false =>
          dsimp only
          rw [if_neg (by decide)]
          have hm' : m ≤ p.size := by rw [hp.size]; lia
          have al : Alike blt p 0 m := fun i j _ hi _ hj =>
            W.trans _ _ _ (c j (m - 1) (by lia) (by lia)) (W.trans _ _ _ hc (c 0 i (by lia) hi))
          refine descPart_ok hn W hC (hp.rev _ _) a (by lia) (fun i j _ hi _ hj => ?_) ?_ hG
          · rw [rev_get hm', rev_get hm', if_pos (by lia), if_pos (by lia)]
            exact al _ _ (by lia) (by lia) (by lia) (by lia)
          · rw [rev_get hm', rev_get hm', if_neg (by lia), if_pos (by lia)]
            have e : 0 + m - 1 - (m - 1) = 0 := by lia
            rw [e]
            cases hd : blt (p.getD m 0) (p.getD 0 0) with
            | true => rfl
            | false =>
              have := W.trans _ _ _ (al 0 (m - 1) (by lia) (by lia) (by lia) (by lia)) hd
              rw [hlt] at this; exact this.symm
      · rw [if_neg h1]
        have : m = 1 := by lia
        subst this
        refine descPart_ok hn W hC hp (by lia) (by lia) (fun i j _ hi _ hj => ?_) hlt hG
        have : i = 0 := by lia
        have : j = 0 := by lia
        subst i; subst j; exact W.refl _
theorem place_ok {p : Array Nat} {k : Nat} (hp : PermR n p) (hu : Up blt p k) {s : Shared} {G : Nat → Shared → Prop} : ∀ (f l r : Nat), l ≤ r → r ≤ k → r - l ≤ f → (∀ i, i < l → blt (p.getD k 0) (p.getD i 0) = false) → (∀ i, r ≤ i → i < k → blt (p.getD k 0) (p.getD i 0) = true) →
    (∀ m, m ≤ k → (∀ i, i < m → blt (p.getD k 0) (p.getD i 0) = false) → (∀ i, m ≤ i → i < k → blt (p.getD k 0) (p.getD i 0) = true) → G m s) → (kas_place p k f l r).kasWp cmp G s
  | 0, l, r, h1, h2, h3, lo, hi, hG => by
    have : l = r := by lia
    subst this
    exact hG l h2 lo hi
  | f + 1, l, r, h1, h2, h3, lo, hi, hG => by
    by_cases hge : l ≥ r
    · have : l = r := by lia
      subst this
      have e : kas_place p k (f + 1) l l = .ret l := by simp [kas_place]
      rw [e]
      exact hG l h2 lo hi
    · have e : kas_place p k (f + 1) l r = .ask (p.getD k 0) (p.getD ((l + r) / 2) 0) fun c => if c = true then kas_place p k f l ((l + r) / 2) else kas_place p k f ((l + r) / 2 + 1) r := by
        simp only [kas_place]; rw [if_neg hge]
      rw [e]
      show cmp _ _ _ s
      refine hC _ _ _ _ (hp.lt hn _) (hp.lt hn _) ?_
      cases hc : blt (p.getD k 0) (p.getD ((l + r) / 2) 0) with
      | true =>
        dsimp only
        rw [if_pos rfl]
        refine place_ok hp hu f l ((l + r) / 2) (by lia) (by lia) (by lia) lo (fun i a b => ?_) hG
        cases hd : blt (p.getD k 0) (p.getD i 0) with
        | true => rfl
        | false =>
          have := W.trans _ _ _ (hu ((l + r) / 2) i a b) hd |> fun (q : blt (p.getD k 0) (p.getD ((l + r) / 2) 0) = false) => q
          rw [hc] at this; exact this.symm
      | false =>
        dsimp only
        rw [if_neg (by decide)]
        refine place_ok hp hu f ((l + r) / 2 + 1) r (by lia) h2 (by lia) (fun i a => ?_) hi hG
        exact W.trans _ _ _ (hu i ((l + r) / 2) (by lia) (by lia)) hc
theorem bin_ok {s : Shared} {G : Array Nat → Shared → Prop} : ∀ (f : Nat) (p : Array Nat) (k : Nat), PermR n p → k + f = n → Up blt p k → (∀ p', PermR n p' → Up blt p' n → G p' s) → (kas_bin f p k).kasWp cmp G s
  | 0, p, k, hp, hk, hu, hG => by
    have : k = n := by lia
    subst this
    exact hG p hp hu
  | f + 1, p, k, hp, hk, hu, hG => by
    show ((kas_place p k k 0 k).bind fun l => kas_bin f (bubble p k (k - l)) (k + 1)).kasWp cmp G s
    rw [KasT.kasWp_bind]
    refine place_ok hn W hC hp hu k 0 k (Nat.zero_le _) (Nat.le_refl _) (by lia) (fun i h => absurd h (by lia)) (fun i a b => absurd b (by lia)) fun m hm lo hi => ?_
    have hks : k < p.size := by rw [hp.size]; lia
    refine bin_ok f _ (k + 1) (hp.bub _ _) (by lia) (fun i j hij hj => ?_) hG
    have e : k - (k - m) = m := by lia
    rw [bub_get hks (by lia), bub_get hks (by lia), e]
    rcases Nat.lt_trichotomy i m with h1 | h1 | h1 <;> rcases Nat.lt_trichotomy j m with h2 | h2 | h2
    · rw [if_neg (by lia), if_neg (by lia), if_neg (by lia), if_neg (by lia)]; exact hu _ _ hij (by lia)
    · rw [if_pos h2, if_neg (by lia), if_neg (by lia)]; exact lo _ h1
    · rw [if_neg (by lia), if_pos (by lia), if_neg (by lia), if_neg (by lia)]; exact hu _ _ (by lia) (by lia)
    · exact absurd h2 (by lia)
    · rw [if_pos h2, if_pos h1]; exact W.refl _
    · rw [if_neg (by lia), if_pos (by lia), if_pos h1]; exact W.asym _ _ (hi _ (by lia) (by lia))
    · exact absurd h2 (by lia)
    · exact absurd h2 (by lia)
    · rw [if_neg (by lia), if_pos (by lia), if_neg (by lia), if_pos (by lia)]; exact hu _ _ (by lia) (by lia)
/-- what the sort comes to -/
theorem sort_ok {s : Shared} {G : Array Nat → Shared → Prop} (hG : ∀ p, PermR n p → Up blt p n → G p s) : (kas_sort n).kasWp cmp G s := by
  unfold kas_sort
  rw [KasT.kasWp_bind]
  refine count_ok hn W hC (Array.Perm.refl _) fun m p hp h1 hm hu => ?_
  dsimp only
  by_cases h : m < n
  · rw [if_pos h]
    have e : max m 1 = m := by lia
    rw [e]
    exact bin_ok hn W hC (n - m) p m hp (by lia) hu hG
  · rw [if_neg h]
    have : m = n := by lia
    subst this
    exact hG p hp hu
end
end
end Mine
end

section
theorem Mine.rst_OL : True ∧ True := by
  w_top off
  first | (walk1; fail "laid") | exact ⟨trivial, trivial⟩
open PySem PySem.W PyProof.Rows PySem.Calls
set_option linter.unusedVariables false
namespace Mine
/-- a strict total order -/
structure Tot {α : Type} (lt : α → α → Bool) : Prop where
  irr : ∀ a, lt a a = false
  tr : ∀ a b c, lt a b = true → lt b c = true → lt a c = true
  tot : ∀ a b, lt a b = false → lt b a = false → a = b
theorem Tot.weak {α : Type} {lt : α → α → Bool} (T : Tot lt) : Weak lt := by
  have asym : ∀ a b, lt a b = true → lt b a = false := fun a b h => by
    cases q : lt b a with
    | false => rfl
    | true => have := T.tr _ _ _ h q; rw [T.irr] at this; cases this
  refine ⟨asym, fun a b c h1 h2 => ?_⟩
  cases q : lt c a with
  | false => rfl
  | true =>
    cases r : lt a b with
    | true => have := T.tr _ _ _ q r; rw [h2] at this; cases this
    | false =>
      have := T.tot _ _ r h1
      subst this
      rw [h2] at q; cases q
theorem Tot.lt_of {α : Type} {lt : α → α → Bool} (T : Tot lt) {a b : α} (h : lt b a = false) (hne : a ≠ b) : lt a b = true := by
  cases q : lt a b with
  | true => rfl
  | false => exact absurd (T.tot _ _ q h) hne
theorem tot_str : Tot strLt where
  irr a := strKind.irrefl a.cps.toList
  tr a b c h1 h2 := strKind.trans a.cps.toList b.cps.toList c.cps.toList h1 h2
  tot a b h1 h2 := by
    have := strKind.total a.cps.toList b.cps.toList h1 h2
    exact Str.ext' (Array.toList_inj.mp this)
theorem tot_lex {α : Type} [DecidableEq α] {lt : α → α → Bool} (T : Tot lt) : Tot (lexLt lt) where
  irr := by
    intro a
    induction a with
    | nil => rfl
    | cons x a ih => simp [lexLt, ih]
  tr := by
    intro a
    induction a with
    | nil => intro b c h1 h2; cases b with
      | nil => simp [lexLt] at h1
      | cons y b => cases c with
        | nil => simp [lexLt] at h2
        | cons z c => rfl
    | cons x a ih =>
      intro b c h1 h2
      cases b with
      | nil => simp [lexLt] at h1
      | cons y b => cases c with
        | nil => simp [lexLt] at h2
        | cons z c =>
          simp only [lexLt] at h1 h2 ⊢
          by_cases e1 : x = y
          · subst e1
            rw [if_pos rfl] at h1
            by_cases e2 : x = z
            · rw [if_pos e2] at h2 ⊢; exact ih _ _ h1 h2
            · rw [if_neg e2] at h2 ⊢; exact h2
          · rw [if_neg e1] at h1
            by_cases e2 : y = z
            · subst e2; rw [if_neg e1]; exact h1
            · rw [if_neg e2] at h2
              have := T.tr _ _ _ h1 h2
              rw [if_neg]
              · exact this
              · intro q; subst q; rw [T.irr] at this; cases this
  tot := by
    intro a
    induction a with
    | nil => intro b h1 h2; cases b with
      | nil => rfl
      | cons y b => simp [lexLt] at h1
    | cons x a ih =>
      intro b h1 h2
      cases b with
      | nil => simp [lexLt] at h2
      | cons y b =>
        simp only [lexLt] at h1 h2
        by_cases e : x = y
        · subst e
          rw [if_pos rfl] at h1 h2
          rw [ih _ h1 h2]
        · rw [if_neg e] at h1
          rw [if_neg (Ne.symm e)] at h2
          exact absurd (T.tot _ _ h1 h2) e
theorem tot_names : Tot namesLt := tot_lex tot_str
noncomputable def prodLt {α β : Type} [DecidableEq α] (l1 : α → α → Bool) (l2 : β → β → Bool) (x y : α × β) : Bool := if x.1 = y.1 then l2 x.2 y.2 else l1 x.1 y.1
theorem tot_prod {α β : Type} [DecidableEq α] {l1 : α → α → Bool} {l2 : β → β → Bool} (T1 : Tot l1) (T2 : Tot l2) : Tot (prodLt l1 l2) where
  irr a := by simp [prodLt, T2.irr]
  tr a b c h1 h2 := by
    simp only [prodLt] at h1 h2 ⊢
    by_cases e1 : a.1 = b.1
    · rw [if_pos e1] at h1
      by_cases e2 : b.1 = c.1
      · rw [if_pos e2] at h2; rw [if_pos (e1.trans e2)]; exact T2.tr _ _ _ h1 h2
      · rw [if_neg e2] at h2; rw [if_neg (e1 ▸ e2), e1]; exact h2
    · rw [if_neg e1] at h1
      by_cases e2 : b.1 = c.1
      · rw [if_neg (e2 ▸ e1), ← e2]; exact h1
      · rw [if_neg e2] at h2
        have := T1.tr _ _ _ h1 h2
        rw [if_neg]
        · exact this
        · intro q; rw [q, T1.irr] at this; cases this
  tot a b h1 h2 := by
    simp only [prodLt] at h1 h2
    by_cases e : a.1 = b.1
    · rw [if_pos e] at h1
      rw [if_pos e.symm] at h2
      exact Prod.ext e (T2.tot _ _ h1 h2)
    · rw [if_neg e] at h1
      rw [if_neg (Ne.symm e)] at h2
      exact absurd (T1.tot _ _ h1 h2) e
noncomputable def intLt (a b : Int) : Bool := decide (a < b)
theorem tot_int : Tot intLt where
  irr a := by simp [intLt]
  tr a b c h1 h2 := by simp [intLt] at *; lia
  tot a b h1 h2 := by simp [intLt] at *; lia
/-- names before their row's number -/
noncomputable def pairLt : List Str × Int → List Str × Int → Bool := prodLt namesLt intLt
theorem tot_pair : Tot pairLt := tot_prod tot_names tot_int
end Mine
end

section
theorem Mine.rst_ML : True ∧ True := by
  w_top off
  first | (walk1; fail "laid") | exact ⟨trivial, trivial⟩
open PySem PySem.W PyProof.Rows PySem.Calls
set_option linter.unusedVariables false
namespace Mine
abbrev Names := List Str
theorem lcpF_comm : ∀ (a b : Names), lcpF a b = lcpF b a
  | [], [] => rfl
  | [], _ :: _ => rfl
  | _ :: _, [] => rfl
  | x :: a, y :: b => by
    simp only [lcpF]
    by_cases h : x = y
    · subst h; simp [lcpF_comm a b]
    · rw [if_neg h, if_neg (Ne.symm h)]
theorem lcpF_left : ∀ (a b : Names), lcpF a b = a.take (lcpF a b).length
  | [], _ => by simp [lcpF]
  | _ :: _, [] => by simp [lcpF]
  | x :: a, y :: b => by
    simp only [lcpF]
    split
    · simp only [List.length_cons, List.take_succ_cons]; rw [← lcpF_left a b]
    · simp
theorem lcpF_right (a b : Names) : lcpF a b = b.take (lcpF a b).length := by
  have := lcpF_left b a
  rw [lcpF_comm b a] at this; exact this
theorem lcpF_split (P N : Names) : N = P.take (lcpF P N).length ++ N.drop (lcpF P N).length := by
  have h : P.take (lcpF P N).length = N.take (lcpF P N).length := (lcpF_left P N).symm.trans (lcpF_right P N)
  rw [h, List.take_append_drop]
theorem namesLt_cons (x y : Str) (a b : Names) : namesLt (x :: a) (y :: b) = if x = y then namesLt a b else strLt x y := rfl
theorem namesLt_front : ∀ (c a b : Names), namesLt (c ++ a) (c ++ b) = namesLt a b
  | [], _, _ => rfl
  | x :: c, a, b => by rw [List.cons_append, List.cons_append, namesLt_cons, if_pos rfl, namesLt_front c a b]
theorem lcp_more : ∀ {P a b : Names}, namesLt a P = false → namesLt b P = false → (lcpF P b).length < (lcpF P a).length → namesLt a b = true
  | [], a, b, _, _, h => by simp [lcpF] at h
  | p :: P, [], b, _, _, h => by simp [lcpF] at h
  | p :: P, x :: a, [], _, hb, h => by simp [namesLt, lexLt] at hb
  | p :: P, x :: a, y :: b, ha, hb, h => by
    by_cases hx : p = x
    · subst hx
      by_cases hy : p = y
      · subst hy
        rw [namesLt_cons, if_pos rfl] at ha hb ⊢
        simp only [lcpF, if_true, List.length_cons, Nat.add_lt_add_iff_right] at h
        exact lcp_more ha hb h
      · rw [namesLt_cons, if_neg hy]
        rw [namesLt_cons, if_neg (Ne.symm hy)] at hb
        exact tot_str.lt_of hb hy
    · simp [lcpF, hx] at h
theorem lcp_keep : ∀ {P a b : Names}, (lcpF P b).length < (lcpF P a).length → lcpF a b = lcpF P b
  | [], a, b, h => by simp [lcpF] at h
  | p :: P, [], b, h => by simp [lcpF] at h
  | p :: P, x :: a, [], h => by simp [lcpF]
  | p :: P, x :: a, y :: b, h => by
    by_cases hx : p = x
    · subst hx
      by_cases hy : p = y
      · subst hy
        simp only [lcpF, if_true, List.length_cons, Nat.add_lt_add_iff_right] at h ⊢
        rw [lcp_keep h]
      · simp [lcpF, hy]
    · simp [lcpF, hx] at h
/-- what lies in the heap -/
structure Ent where
  neg : Int
  rest : Names
  j : Int
  both : Names
/-- the order of the heap, for roots b -/
noncomputable def entKey (b : Bool) (e : Ent) : Int × (Names × (Int × Str)) := (e.neg, e.rest, e.j, pathF b e.both)
noncomputable def entLt (b : Bool) (x y : Ent) : Bool := prodLt intLt (prodLt namesLt (prodLt intLt strLt)) (entKey b x) (entKey b y)
theorem weak_ent (b : Bool) : Weak (entLt b) := by
  have W := (tot_prod tot_int (tot_prod tot_names (tot_prod tot_int tot_str))).weak
  exact ⟨fun x y h => W.asym _ _ h, fun x y z h1 h2 => W.trans _ _ _ h1 h2⟩
noncomputable def ent (P N : Names) (j : Int) : Ent := ⟨-(((lcpF P N).length : Nat) : Int), N.drop (lcpF P N).length, j, lcpF P N⟩
section
variable {α β : Type} [DecidableEq α] {l1 : α → α → Bool} {l2 : β → β → Bool} {x y : α × β}
theorem prodLt_ne (h : x.1 ≠ y.1) : prodLt l1 l2 x y = l1 x.1 y.1 := if_neg h
theorem prodLt_eq (h : x.1 = y.1) : prodLt l1 l2 x y = l2 x.2 y.2 := if_pos h
end
/-- the heap's order upon the first ones is the order of the pairs -/
theorem ent_order {b : Bool} {P M N : Names} {i j : Int} (hM : namesLt M P = false) (hN : namesLt N P = false) (h : pairLt (M, i) (N, j) = true) : entLt b (ent P M i) (ent P N j) = true := by
  unfold entLt
  rcases Nat.lt_trichotomy (lcpF P N).length (lcpF P M).length with h1 | h1 | h1
  · have hne : (entKey b (ent P M i)).1 ≠ (entKey b (ent P N j)).1 := by
      show -(((lcpF P M).length : Nat) : Int) ≠ -(((lcpF P N).length : Nat) : Int)
      omega
    rw [prodLt_ne hne]
    show decide (-(((lcpF P M).length : Nat) : Int) < -(((lcpF P N).length : Nat) : Int)) = true
    rw [decide_eq_true_eq]; omega
  · have heq : (entKey b (ent P M i)).1 = (entKey b (ent P N j)).1 := by
      show -(((lcpF P M).length : Nat) : Int) = -(((lcpF P N).length : Nat) : Int)
      rw [h1]
    rw [prodLt_eq heq]
    have e1 := lcpF_split P M
    have e2 := lcpF_split P N
    rw [← h1] at e1
    by_cases hMN : M = N
    · subst hMN
      have h' : intLt i j = true := by
        have := h; unfold pairLt at this; rwa [prodLt_eq (by rfl)] at this
      have hij : i ≠ j := by intro q; subst q; simp [intLt] at h'
      rw [prodLt_eq (by rfl)]
      rw [prodLt_ne (by exact hij)]
      exact h'
    · have h' : namesLt M N = true := by
        have := h; unfold pairLt at this; rwa [prodLt_ne (by exact hMN)] at this
      have hne : M.drop (lcpF P N).length ≠ N.drop (lcpF P N).length := fun q => hMN ((e1.trans (congrArg (P.take (lcpF P N).length ++ ·) q)).trans e2.symm)
      rw [prodLt_ne (by show M.drop (lcpF P M).length ≠ N.drop (lcpF P N).length; rw [← h1]; exact hne)]
      show namesLt (M.drop (lcpF P M).length) (N.drop (lcpF P N).length) = true
      rw [← h1]
      have e3 : namesLt (P.take (lcpF P N).length ++ M.drop (lcpF P N).length) (P.take (lcpF P N).length ++ N.drop (lcpF P N).length) = true := by rw [← e1, ← e2]; exact h'
      rwa [namesLt_front] at e3
  · have h2 := lcp_more hN hM h1
    have hMN : M ≠ N := by intro q; subst q; exact absurd h1 (Nat.lt_irrefl _)
    have h' : namesLt M N = true := by
      have := h; unfold pairLt at this; rwa [prodLt_ne (by exact hMN)] at this
    have := tot_names.weak.asym _ _ h'
    rw [h2] at this; cases this
end Mine
end

section
theorem Mine.rst_SL : True ∧ True := by
  w_top off
  first | (walk1; fail "laid") | exact ⟨trivial, trivial⟩
open PySem PySem.W PyProof.Rows PySem.Calls
set_option linter.unusedVariables false
namespace Mine
section
variable {prog : Program} {w : World} {A : Around} {E : Value → Shared → Prop} {s : Shared}
/-- the sort at a state that comparisons keep -/
theorem sort_conv {n : Nat} {blt : Nat → Nat → Bool} {cmp : Nat → Nat → (Bool → Shared → Prop) → Shared → Prop} (hc : ∀ i j C, i < n → j < n → C (blt i j) s → cmp i j C s) {α : Type} {G : α → Shared → Prop} :
    ∀ t : KasT α, t.kasWp (fun i j C s' => i < n ∧ j < n ∧ C (blt i j) s') G s → t.kasWp cmp G s
  | .ret a, h => h
  | .ask i j k, h => hc i j _ h.1 h.2.1 (sort_conv hc (k (blt i j)) h.2.2)
theorem sort_at {n : Nat} {blt : Nat → Nat → Bool} {cmp : Nat → Nat → (Bool → Shared → Prop) → Shared → Prop} (hn : 0 < n) (W : Weak blt) (hc : ∀ i j C, i < n → j < n → C (blt i j) s → cmp i j C s) {G : Array Nat → Shared → Prop}
    (hG : ∀ p, PermR n p → Up blt p n → G p s) : (kas_sort n).kasWp cmp G s :=
  sort_conv hc _ (sort_ok hn W (fun i j C s' hi hj h => ⟨hi, hj, h⟩) hG)
/-- one type: lists of texts -/
theorem oneLt_strs {l b : Addr} {xs ys : List Str} {Q : Bool → Shared → Prop} (hl : StrsAt s.heap l xs) (hb : StrsAt s.heap b ys) (hu : A.units < cLine) (h : Q (namesLt xs ys) s) :
    wpAny (model prog w) A (oneLt' true (.ref l) (.ref b)) Q E s := by
  obtain ⟨lx, c, rfl, ho⟩ := hl
  obtain ⟨ly, c2, rfl, ho2⟩ := hb
  rw [oneLt'_eq]
  simp only [if_true]
  refine wpAny_bind (wpAny_cRoomFor hu ?_)
  refine wpAny_bind (wpAny_callSpecialIfBound?_slot (T := "list") ⟨_, ho, rfl⟩ F.slot_list_lt
    (call_meets F.slot_list_lt ⟨_, ho, rfl⟩ F.entry_list_lt (F.args_list_lt_2 _ _) (list_lt strLt l b _ _ c c2 (lx.map (·.1)) (ly.map (·.1)) (strValues_size _) (strValues_size _)) ⟨ho, ho2, ?_, ?_, ?_⟩))
  · intro j h1 h2
    have g1 := h1; have g2 := h2
    rw [strValues_size] at g1 g2
    obtain ⟨t1, q1⟩ := strValues_at lx j h1 g1
    obtain ⟨t2, q2⟩ := strValues_at ly j h2 g2
    rw [q1, q2]
    exact EqAt.str _ _ _ _
  · intro j h1 h2
    have g1 := h1; have g2 := h2
    rw [strValues_size] at g1 g2
    obtain ⟨t1, q1⟩ := strValues_at lx j h1 g1
    obtain ⟨t2, q2⟩ := strValues_at ly j h2 g2
    rw [q1, q2]
    exact LtAt.str _ _ _ _
  · exact wpAny_truthy_bool h
end
end Mine
end

section
theorem Mine.rst_SK : True ∧ True := by
  w_top off
  first | (walk1; fail "laid") | exact ⟨trivial, trivial⟩
open PySem PySem.W PyProof.Rows PySem.Calls
set_option linter.unusedVariables false
namespace Mine
section
variable {prog : Program} {w : World} {A : Around} {E : Value → Shared → Prop} {s : Shared} {h₀ : Heap} {L : Addr} {m : Str → Option Value} {news : List (Addr × Obj)}
/-- a key's sort of one item: the end -/
theorem one_end {kS a : Addr} {k v : Value} {e e1 : Nat} {P : PySem.Fin → Shared → Prop} (h : KatFin h₀ L m kS a [k] e e1 [v] (fun s' => P (.done (.ret .none)) s') s) :
    wpAny (model prog w) A (ksk_end a false (List.toArray [v]) e1 (.ref kS) (List.toArray [k])) P E s := by
  unfold ksk_end
  dsimp only
  rw [if_neg (by simp)]
  have h1 : (List.toArray [v]).size < 2 := by simp
  rw [if_pos h1, if_pos h1, if_neg (by simp)]
  show wpAny _ _ (ksk_tail a false e1 (.ref kS) (SortSt.mk' general' ((List.toArray [k]).zip (List.toArray [v])) #[] 7 none)) _ _ _
  refine kat_tail (ks := [k]) (out := [v]) (b := false) ?_ (by simp) (by simp) rfl h
  show ((List.toArray [k]).zip (List.toArray [v])).map (·.2) = _
  simp
theorem sorted_one {l : Addr} {f v : Value} {kw : List (Str × Value)} {Q : Value → Shared → Prop} (F : Fr h₀ L s.heap m) (N : News h₀ L s.heap news) (hl : s.heap.IsList l (List.toArray [v]))
    (ha1 : argsOk "sorted" ⟨[.ref l], kw⟩) (ha2 : ∀ x, argsOk "list.sort" ⟨[.ref x], kw⟩) (ht : ∀ x, Builtin.«list.sort» ⟨[.ref x], kw⟩ = ksk_tree x f false)
    (h : ∀ D kS e1 h', Fr h₀ L h' m → News h₀ L h' ((kS, seqObj "list" #[] 0) :: (D, seqObj "list" #[] e1) :: news) → D < kS → (∀ q ∈ news, q.1 < D) →
      KatKeys prog w A.in1.in1 h₀ L m kS f (fun ks e s' => ∃ k, ks = [k] ∧ KatFin h₀ L m kS D [k] e e1 [v] (fun s4 => Q (.ref D) s4) s') [v] [] 0 { s with heap := h' }) :
    wpAny (model prog w) A (call (.builtin "sorted") [.ref l] kw) Q E s := by
  refine call_function_entry_kw kind_sorted plain_sorted entry_sorted ha1 ?_
  unfold Builtin.«sorted»
  refine wpAny_bind (m := checkCount "sorted" 1 1 _) (wpAny_pure ?_)
  refine wpAny_bind (collect_list (vs := [v]) hl ?_ (by rw [sizeLine_eq]; simp))
  refine wpAny_bind (wpAny_newList ?_ (by rw [sizeLine_eq]; simp))
  generalize hA : (s.heap.push (seqObj "list" #[] 0)).update s.heap.objs.size (Obj.mapSeq (· ++ List.toArray [v])) = H1
  have hsz : H1.objs.size = s.heap.objs.size + 1 := by rw [← hA, Heap.size_update, size_push']
  have k1 : ∀ b o, s.heap.get? b = some o → H1.get? b = some o := fun b o q => by
    have hlt : b < s.heap.objs.size := Heap.lt_size q
    rw [← hA, Heap.get?_update_ne _ _ _ _ (Nat.ne_of_lt hlt), Heap.get?_push_ne _ _ _ (Nat.ne_of_lt hlt)]
    exact q
  clear hA
  have hL : L < s.heap.objs.size := F.ns.lt
  generalize hD : H1.objs.size = D
  have hDo : (H1.push (seqObj "list" (List.toArray [v]) 0)).get? D = some (seqObj "list" (List.toArray [v]) 0) := by rw [← hD]; exact Heap.get?_push_size _ rfl
  have k2 : ∀ b o, s.heap.get? b = some o → (H1.push (seqObj "list" (List.toArray [v]) 0)).get? b = some o := fun b o q => Heap.get?_push_of_some _ (k1 b o q)
  have F2 : Fr h₀ L (H1.push (seqObj "list" (List.toArray [v]) 0)) m := F.kept k2
  have N2 : News h₀ L (H1.push (seqObj "list" (List.toArray [v]) 0)) news := N.grown k2
  have hDsz : (H1.push (seqObj "list" (List.toArray [v]) 0)).objs.size = D + 1 := by rw [size_push', hD]
  have hD' : D = s.heap.objs.size + 1 := hD.symm.trans hsz
  have hLD : L < D := by rw [hD']; exact Nat.lt_succ_of_lt hL
  have hnD : ∀ q ∈ news, q.1 < D := fun q hq => by rw [hD']; exact Nat.lt_succ_of_lt (Heap.lt_size (N q hq).1)
  have hD0 : h₀.get? D = none := Heap.get?_none_of_le (Nat.le_trans F.above (Nat.le_of_lt hLD))
  have hL2 : L < D + 2 := Nat.lt_of_lt_of_le hLD (Nat.le_add_right _ _)
  show wpAny _ _ _ _ _ { s with heap := H1.push (seqObj "list" (List.toArray [v]) 0) }
  generalize H1.push (seqObj "list" (List.toArray [v]) 0) = H2 at *
  refine wpAny_bind (wpAny_holding (wpAny_call_entry_kw slot_list_sort ⟨_, hDo, rfl⟩ entry_list_sort ?body (ha2 _)))
  show wpAny (model prog w) A.in1.in1 (Builtin.«list.sort» ⟨[.ref D], kw⟩) _ _ _
  rw [ht]
  have s1 := Heap.SameBut.update H2 D (Obj.mapSeq fun _ => (#[] : Array Value))
  obtain ⟨e1, ho1⟩ : ∃ e1, (H2.update D (Obj.mapSeq fun _ => (#[] : Array Value))).get? D = some (seqObj "list" #[] e1) := ⟨_, get?_update_seq hDo fun _ => #[]⟩
  have F3 := kas_fr F2 s1 (Nat.ne_of_gt hLD) hD0
  have N3 := kas_news N2 s1 fun p hp => Nat.ne_of_lt (hnD p hp)
  have hz3 : (H2.update D (Obj.mapSeq fun _ => (#[] : Array Value))).objs.size = D + 1 := by rw [Heap.size_update, hDsz]
  unfold ksk_tree
  refine wpAny_bind (listItems_at hDo rfl ?_)
  refine wpAny_bind (listUpdate_at hDo rfl ?_ (by rw [sizeLine_eq]; simp) (Nat.zero_le _))
  refine wpAny_bind (seqEpoch_at ho1 rfl ?_)
  refine wpAny_bind (wpAny_newTuple ?_ (by rw [sizeLine_eq]; simp))
  refine wpAny_bind (wpAny_newList ?_ (Nat.zero_le _))
  refine wpAny_holding ?_
  show wpAny _ _ _ _ _ { s with heap := ((H2.update D (Obj.mapSeq fun _ => (#[] : Array Value))).push (seqObj "tuple" (List.toArray [v]) 0)).push (seqObj "list" #[] 0) }
  generalize H2.update D (Obj.mapSeq fun _ => (#[] : Array Value)) = H3 at *
  have hkS : (H3.push (seqObj "tuple" (List.toArray [v]) 0)).objs.size = D + 2 := by rw [size_push', hz3]
  have F4 : Fr h₀ L ((H3.push (seqObj "tuple" (List.toArray [v]) 0)).push (seqObj "list" #[] 0)) m := (F3.push _).push _
  have hko : ((H3.push (seqObj "tuple" (List.toArray [v]) 0)).push (seqObj "list" #[] 0)).get? (D + 2) = some (seqObj "list" #[] 0) := by rw [← hkS]; exact Heap.get?_push_size _ rfl
  have N4 : News h₀ L ((H3.push (seqObj "tuple" (List.toArray [v]) 0)).push (seqObj "list" #[] 0)) ((D + 2, seqObj "list" #[] 0) :: (D, seqObj "list" #[] e1) :: news) := by
    intro p hp
    rcases List.mem_cons.mp hp with rfl | hp
    · exact ⟨hko, Nat.ne_of_gt hL2, Heap.get?_none_of_le (Nat.le_trans F.above (Nat.le_of_lt hL2))⟩
    · rcases List.mem_cons.mp hp with rfl | hp
      · exact ⟨Heap.get?_push_of_some _ (Heap.get?_push_of_some _ ho1), Nat.ne_of_gt hLD, hD0⟩
      · exact ⟨Heap.get?_push_of_some _ (Heap.get?_push_of_some _ (N3 p hp).1), (N3 p hp).2⟩
  rw [hkS]
  have K := h D (D + 2) e1 _ F4 N4 (Nat.lt_add_of_pos_right (by decide)) hnD
  generalize (H3.push (seqObj "tuple" (List.toArray [v]) 0)).push (seqObj "list" #[] 0) = H4 at *
  unfold ksk_rest
  refine wpAny_bind (wpAny_rule ?_)
  rw [List.forIn_toArray]
  refine wpAny_bind (wpAny_mono (kat_fold (n := 1) (by omega) (fun x ks e s' C hz hx => ?_) [v] [] 0 _ (by simp) hko K) (fun _ s' hd => ?_) fun _ _ x => x)
  · refine wpAny_bind (wpAny_attempt (wpAny_mono hx (fun k s'' hk => ?_) fun _ _ hF => hF.elim))
    obtain ⟨news', g, F', N', U, c⟩ := hk
    obtain ⟨pre, post, e0, hg, x1, x2⟩ := U.split
    rw [e0] at N'
    have nk := N' (D + 2, seqObj "list" (List.toArray ks) e) (List.mem_append_right _ (.head _))
    have s1 := Heap.SameBut.update s''.heap (D + 2) (Obj.mapSeq (·.push k))
    have ea : (List.toArray ks).push k = List.toArray (ks ++ [k]) := by simp
    obtain ⟨c2, hc2⟩ : ∃ c2, (s''.heap.update (D + 2) (Obj.mapSeq (·.push k))).get? (D + 2) = some (seqObj "list" (List.toArray (ks ++ [k])) c2) := ⟨_, by rw [← ea]; exact get?_update_seq nk.1 (·.push k)⟩
    try dsimp only
    refine wpAny_bind (listUpdate_at nk.1 rfl ?_ (by rw [List.size_toArray, sizeLine_eq]; omega) (Nat.le_trans (Nat.le_of_eq (Array.size_push ..)) (by rw [List.size_toArray, sizeLine_eq]; omega)))
    exact wpAny_pure ⟨rfl, k, c2, hc2, c _ c2 (kas_fr F' s1 nk.2.1 nk.2.2) (by rw [hg]; exact news_set N' x1 x2 s1 hc2)⟩
  · obtain ⟨ks, e, hk', _, k, rfl, fin⟩ := hd
    try dsimp only
    refine wpAny_bind (listItems_at hk' rfl ?_)
    exact one_end (fin.mono fun s4 hq => ⟨_, rfl, wpAny_pure ⟨_, rfl, hq⟩⟩)
end
end Mine
end

section
theorem Mine.rst_SP : True ∧ True := by
  w_top off
  first | (walk1; fail "laid") | exact ⟨trivial, trivial⟩
open PySem PySem.W PyProof.Rows PySem.Calls
set_option linter.unusedVariables false
namespace Mine
theorem range_getD {α : Type} (d : α) (l : List α) : (List.range l.length).map (fun i => l.getD i d) = l := by
  apply List.ext_getElem?
  intro i
  by_cases h : i < l.length
  · simp [h]
  · simp [h]
theorem sorted_perm {α : Type} {d : α} {l : List α} {p : Array Nat} (h : PermR l.length p) : (p.toList.map fun i => l.getD i d).Perm l := by
  have h2 : p.toList.Perm (List.range l.length) := by simpa using Array.perm_iff_toList_perm.mp h
  have := h2.map fun i => l.getD i d
  rwa [range_getD] at this
theorem sorted_up {α : Type} {d : α} {l : List α} {p : Array Nat} {blt : Nat → Nat → Bool} {lt : α → α → Bool} (h : PermR l.length p) (hb : ∀ i j, i < l.length → j < l.length → blt i j = lt (l.getD i d) (l.getD j d)) (hu : Up blt p l.length) :
    (p.toList.map fun i => l.getD i d).Pairwise fun a b => lt b a = false := by
  rw [List.pairwise_map, List.pairwise_iff_getElem]
  intro i j hi hj hij
  have hz : p.size = l.length := h.size
  have hi' : i < p.size := by simpa using hi
  have hj' : j < p.size := by simpa using hj
  have e1 : p.getD i 0 = p.toList[i] := by simp [Array.getD, hi']
  have e2 : p.getD j 0 = p.toList[j] := by simp [Array.getD, hj']
  have hn : 0 < l.length := by lia
  have b1 := h.lt hn i
  have b2 := h.lt hn j
  have := hu i j (by lia) (by lia)
  rw [e1, e2] at *
  rwa [hb _ _ b2 b1] at this
theorem Weak.by {α β : Type} {lt : β → β → Bool} (W : Weak lt) (f : α → β) : Weak fun a b => lt (f a) (f b) := ⟨fun a b => W.asym _ _, fun a b c => W.trans _ _ _⟩
theorem strValues_getD (l : List (Str × Tok)) (i : Nat) (h : i < l.length) (d : Str × Tok) : (strValues l).getD i .none = .str (l.getD i d).1 (l.getD i d).2 := by
  simp [strValues, List.getD, h]
/-- keys laid so far -/
inductive KeysIn (kobjs : List (Addr × Obj)) (z : Str × Tok) (k : Value) : Prop
  | mk : ∀ T ll c, (k = .ref T) →
      (ll.map (·.1) = piecesF z.1) →
      ((T, lstO (strValues ll).toArray c) ∈ kobjs) → KeysIn kobjs z k
theorem KeysIn.more {kobjs kobjs' : List (Addr × Obj)} {z : Str × Tok} {k : Value} (h : KeysIn kobjs z k) (hs : ∀ p ∈ kobjs, p ∈ kobjs') : KeysIn kobjs' z k :=
  let ⟨T, ll, c, a, b, e⟩ := h; ⟨T, ll, c, a, b, hs _ e⟩
theorem Paired.snoc {α β : Type} {R : α → β → Prop} {a : α} {b : β} : ∀ {l : List α} {l' : List β}, Paired R l l' → R a b → Paired R (l ++ [a]) (l' ++ [b])
  | _, _, .nil, h => .cons h .nil
  | _, _, .cons x r, h => .cons x (Paired.snoc r h)
theorem Paired.imp {α β : Type} {R S : α → β → Prop} (f : ∀ a b, R a b → S a b) : ∀ {l : List α} {l' : List β}, Paired R l l' → Paired S l l'
  | _, _, .nil => .nil
  | _, _, .cons x r => .cons (f _ _ x) (Paired.imp f r)
section
variable {w : World} {A : Around} {E : Value → Shared → Prop} {base : Heap} {L : Addr} {m : Str → Option Value} {news : List (Addr × Obj)} {mean : ExcName → Option Value} {mg mb : Str → Option Value}
/-- the keys of a row -/
theorem keys_walk {s : Shared} {kS D : Addr} {e1 : Nat} {Fin : List Value → Nat → Shared → Prop} (X : (Mine.hd.heap_1 w.params).In base) (T : Top VV LL mean mg mb base) (hR : Rm A 2) (hkD : D ≠ kS) (hnk : ∀ p ∈ news, p.1 ≠ kS) :
    ∀ (r dn : List (Str × Tok)) (ks : List Value) (e : Nat) (hh : Heap) (tk : Nat) (kobjs : List (Addr × Obj)), (∀ z ∈ r, z.1.length ≤ 1000) → Fr base L hh m → News base L hh ((kS, seqObj "list" (List.toArray ks) e) :: (D, seqObj "list" #[] e1) :: (kobjs ++ news)) →
      (∀ p ∈ kobjs, p.1 ≠ kS ∧ p.1 ≠ D) → Paired (KeysIn kobjs) dn ks →
      (∀ ks e hh tk kobjs, Fr base L hh m → News base L hh ((kS, seqObj "list" (List.toArray ks) e) :: (D, seqObj "list" #[] e1) :: (kobjs ++ news)) → (∀ p ∈ kobjs, p.1 ≠ kS ∧ p.1 ≠ D) → Paired (KeysIn kobjs) (dn ++ r) ks → Fin ks e { s with heap := hh, toks := tk }) →
      KatKeys PP w A base L m kS (.ref 167) Fin (strValues r) ks e { s with heap := hh, toks := tk }
  | [], dn, ks, e, hh, tk, kobjs, hx, F, N, hk, hp, fin => KatKeys.nil (fin ks e hh tk kobjs F N hk (by simpa using hp))
  | (x, t) :: r, dn, ks, e, hh, tk, kobjs, hx, F, N, hk, hp, fin => by
    refine KatKeys.cons (pieces_spec (Gl.keeps ⟨X, _, _, _, T⟩ F.keep) hR (hx _ (.head _)) ?_)
    intro T' h' tk' st nT hT
    obtain ⟨ll, c, hll, hTo⟩ := hT
    have hkS := (N _ (.head _)).1
    have hDo := (N _ (.tail _ (.head _))).1
    have n1 : T' ≠ kS := fun q => by rw [q, hkS] at nT; cases nT
    have n2 : T' ≠ D := fun q => by rw [q, hDo] at nT; cases nT
    have N1 := News.put F nT hTo (News.stays N st)
    have N2 : News base L h' ((kS, seqObj "list" (List.toArray ks) e) :: (D, seqObj "list" #[] e1) :: (((T', lstO (strValues ll).toArray c) :: kobjs) ++ news)) := by
      intro p hp
      rcases List.mem_cons.mp hp with rfl | hp
      · exact N1 _ (.tail _ (.head _))
      rcases List.mem_cons.mp hp with rfl | hp
      · exact N1 _ (.tail _ (.tail _ (.head _)))
      rcases List.mem_cons.mp hp with rfl | hp
      · exact N1 _ (.head _)
      · exact N1 _ (.tail _ (.tail _ (.tail _ hp)))
    refine KatBack.intro (Fr.stays F st) N2 (UpdF.head ?_) ?_
    · intro p hp
      rcases List.mem_cons.mp hp with rfl | hp
      · exact hkD
      rcases List.mem_cons.mp hp with rfl | hp
      · exact n1
      rcases List.mem_append.mp hp with hp | hp
      · exact (hk p hp).1
      · exact hnk p hp
    · intro h2 c2 F2 N2
      refine keys_walk (e1 := e1) X T hR hkD hnk r (dn ++ [(x, t)]) (ks ++ [.ref T']) c2 h2 tk' ((T', lstO (strValues ll).toArray c) :: kobjs) (fun z hz => hx z (.tail _ hz)) F2 N2 ?_ ?_ ?_
      · intro p hp
        rcases List.mem_cons.mp hp with rfl | hp
        · exact ⟨n1, n2⟩
        · exact hk p hp
      · exact Paired.snoc (Paired.imp (fun a b h => h.more fun p hp => .tail _ hp) hp) ⟨T', ll, c, rfl, hll, .head _⟩
      · intro ks e hh tk kobjs F N hk hp
        exact fin ks e hh tk kobjs F N hk (by simpa using hp)
theorem Paired.get? {α β : Type} {R : α → β → Prop} : ∀ {l : List α} {l' : List β}, Paired R l l' → ∀ {i : Nat} {a : α}, l[i]? = some a → ∃ b, l'[i]? = some b ∧ R a b
  | _, _, .nil, i, a, h => by simp at h
  | _, _, .cons x r, 0, a, h => by simp at h; subst h; exact ⟨_, rfl, x⟩
  | _, _, .cons x r, i + 1, a, h => by simpa using Paired.get? r (by simpa using h)
theorem Paired.len {α β : Type} {R : α → β → Prop} : ∀ {l : List α} {l' : List β}, Paired R l l' → l.length = l'.length
  | _, _, .nil => rfl
  | _, _, .cons _ r => by simp [Paired.len r]
noncomputable def rowLt (a b : Str × Tok) : Bool := namesLt (piecesF a.1) (piecesF b.1)
theorem weak_row : Weak rowLt := tot_names.weak.by fun a : Str × Tok => piecesF a.1
theorem sorted_pieces {s : Shared} {Q : Value → Shared → Prop} {l : Addr} {ls : List (Str × Tok)} (X : (Mine.hd.heap_1 w.params).In base) (T : Top VV LL mean mg mb base) (hR : Rm A 5) (F : Fr base L s.heap m) (N : News base L s.heap news)
   (hl : s.heap.IsList l (strValues ls).toArray) (hne : 0 < ls.length) (h64 : ls.length < 64) (hx : ∀ z ∈ ls, z.1.length ≤ 1000)
   (h : ∀ D h' tk ls' c', Fr base L h' m → News base L h' ((D, lstO (strValues ls').toArray c') :: news) → ls'.Perm ls → ls'.Pairwise (fun a b => rowLt b a = false) → (∀ p ∈ news, p.1 < D) → Q (.ref D) { s with heap := h', toks := tk }) :
   wpAny (model PP w) A (call (.builtin "sorted") [.ref l] [(Str.ofString "key", .ref 167)]) Q E s := by
  have hR2 : Rm A.in1.in1 3 := Rm.in1 (Rm.in1 hR)
  have fin1 : ∀ {D kS : Addr} {e1 c : Nat} {kobjs : List (Addr × Obj)} {ls' : List (Str × Tok)} {hh : Heap} {tk : Nat} {ks : List Value} {e : Nat}, D < kS → (∀ p ∈ news, p.1 < D) → (∀ p ∈ kobjs, p.1 ≠ kS ∧ p.1 ≠ D) → Fr base L hh m →
      News base L hh ((kS, seqObj "list" (List.toArray ks) e) :: (D, seqObj "list" #[] e1) :: (kobjs ++ news)) → ls'.Perm ls → ls'.Pairwise (fun a b => rowLt b a = false) →
      KatFin base L m kS D ks e e1 (strValues ls') (fun s4 => Q (.ref D) s4) { s with heap := hh, toks := tk } := by
    intro D kS e1 c kobjs ls' hh tk ks e hDk hnD hk F2 N2 p1 p2
    refine KatFin.intro F2 N2 (UpdF.head ?_) ?_
    · intro p hp
      rcases List.mem_cons.mp hp with rfl | hp
      · exact Nat.ne_of_lt hDk
      rcases List.mem_append.mp hp with hp | hp
      · exact (hk p hp).1
      · exact Nat.ne_of_lt (Nat.lt_trans (hnD p hp) hDk)
    intro h3 c3 F3 N3
    refine KasFin.intro F3 N3 (UpdF.tail (Nat.ne_of_gt hDk) (UpdF.head ?_)) ?_
    · intro p hp
      rcases List.mem_append.mp hp with hp | hp
      · exact (hk p hp).2
      · exact Nat.ne_of_lt (hnD p hp)
    intro h4 c4 F4 N4
    refine h D h4 tk ls' c4 F4 (fun p hp => N4 p ?_) p1 p2 hnD
    rcases List.mem_cons.mp hp with rfl | hp
    · exact .tail _ (.head _)
    · exact .tail _ (.tail _ (List.mem_append_right _ hp))
  match ls, hne with
  | [z], _ =>
    obtain ⟨x, t⟩ := z
    refine sorted_one (v := .str x t) (f := .ref 167) F N hl (ksk_s1 _ _) (fun _ => ksk_l1 _ _) (fun _ => ksk_t1 _ _) ?_
    intro D kS e1 h' F1 N1 hDk hnD
    refine keys_walk (e1 := e1) X T (Rm.mono hR2 (by decide)) (Nat.ne_of_lt hDk) (fun p hp => Nat.ne_of_lt (Nat.lt_trans (hnD p hp) hDk)) [(x, t)] [] [] 0 h' s.toks [] hx F1 N1 (fun _ h => nomatch h) .nil ?_
    intro ks e hh tk kobjs F2 N2 hk hp
    have hlen := Paired.len hp
    obtain ⟨k, rfl⟩ : ∃ k, ks = [k] := by
      match ks, hlen with
      | [k], _ => exact ⟨k, rfl⟩
    exact ⟨k, rfl, fin1 (c := 0) (ls' := [(x, t)]) hDk hnD hk F2 N2 (List.Perm.refl _) (List.pairwise_singleton _ _)⟩
  | z1 :: z2 :: r, _ =>
    generalize hls : z1 :: z2 :: r = ls at *
    have h2 : 2 ≤ ls.length := by rw [← hls]; simp
    have hn : 0 < ls.length := by lia
    refine kat_sortedK (vs := strValues ls) (b := false) (f := .ref 167) F N hl (by simpa [strValues] using h2) (by simpa [strValues] using h64) (ksk_s1 _ _) (fun _ => ksk_l1 _ _) (fun _ => ksk_t1 _ _) ?_
    intro D kS e1 h' F1 N1 hDk hnD
    refine keys_walk (e1 := e1) X T (Rm.mono hR2 (by decide)) (Nat.ne_of_lt hDk) (fun p hp => Nat.ne_of_lt (Nat.lt_trans (hnD p hp) hDk)) ls [] [] 0 h' s.toks [] hx F1 N1 (fun _ h => nomatch h) .nil ?_
    intro ks e hh tk kobjs F2 N2 hk hp
    have hlen : ls.length = ks.length := Paired.len hp
    have key : ∀ i, i < ls.length → ∃ T', ks.getD i .none = .ref T' ∧ StrsAt hh T' (piecesF (ls.getD i z1).1) := by
      intro i hi
      have e1 : ls[i]? = some (ls.getD i z1) := by simp [List.getD, hi]
      obtain ⟨k, hk1, T', ll, c, rfl, hll, hm⟩ := Paired.get? hp e1
      exact ⟨T', by simp [List.getD, hk1], ll, c, hll, (N2 _ (.tail _ (.tail _ (List.mem_append_left _ hm)))).1⟩
    refine kas_kind (T := .type "list") (by lia) (fun v hv => ?_) (by decide) (by decide) ?_
    · obtain ⟨i, hi, rfl⟩ := List.getElem_of_mem hv
      obtain ⟨T', e1, ll, c, hll, ho⟩ := key i (by lia)
      have e2 : ks[i] = .ref T' := by rw [← e1]; simp [List.getD, hi]
      rw [e2]
      exact (show Looks _ _ (typeOf (.ref T')) (lstO (strValues ll).toArray c).cls from (Looks.ld ho).andThen .now)
    have hvl : (strValues ls).length = ls.length := by simp [strValues]
    rw [hvl]
    refine sort_at (blt := fun i j => rowLt (ls.getD i z1) (ls.getD j z1)) hn (weak_row.by fun i => ls.getD i z1) (fun i j C hi hj hC => ?_) ?_
    · obtain ⟨Ti, ei, si⟩ := key i hi
      obtain ⟨Tj, ej, sj⟩ := key j hj
      show wpAny _ _ (keyLt' oneType' (ks.getD i .none) (ks.getD j .none)) C _ _
      rw [ei, ej, keyLt'_oneType]
      exact oneLt_strs si sj (Rm.unit hR2) hC
    · intro p hp1 hp2
      have ev : (p.toList.map fun i => (strValues ls).getD i .none) = strValues (p.toList.map fun i => ls.getD i z1) := by
        show _ = List.map _ (List.map _ _)
        rw [List.map_map]
        refine List.map_congr_left fun i hi => ?_
        have hil : i < ls.length := by
          have h2 : p.toList.Perm (List.range ls.length) := by simpa using Array.perm_iff_toList_perm.mp hp1
          simpa using h2.mem_iff.mp hi
        exact strValues_getD ls i hil z1
      show KatFin base L m kS D ks e e1 (p.toList.map fun i => (strValues ls).getD i .none) _ _
      rw [ev]
      exact fin1 (c := 0) hDk hnD hk F2 N2 (sorted_perm hp1) (sorted_up hp1 (fun i j hi hj => rfl) hp2)
end
end Mine
end

section
theorem Mine.rst_LA : True ∧ True := by
  w_top off
  first | (walk1; fail "laid") | exact ⟨trivial, trivial⟩
open PySem PySem.W PyProof.Rows PySem.Calls
set_option linter.unusedVariables false
namespace Mine
theorem range_size (n : Nat) : Builtin.Range.rangeSize 0 n 1 = n := by
  rw [rangeSize_pos (by lia) (by lia)]
  simp
theorem Walks.lt {prog : Program} {w : World} {A : Around} {I : Addr} {fp wr : List Addr} {n : Nat} {P : Nat → Value → Prop} {St : Nat → Heap → Prop} (W : Walks prog w A I fp wr n P St) : Walks prog w A I fp wr n (fun i v => i < n ∧ P i v) St :=
  { W with item := fun i s Q E hi st hQ => W.item i s Q E hi st fun v h tk hp => hQ v h tk ⟨hi, hp⟩ }
theorem Src.range {prog : Program} {w : World} {A : Around} {s : Shared} (hh : A.handled = none) {r : Addr} {n : Nat} {t u v : Tok} (hn : n ≤ 1000) (hr : IsRange s.heap r 0 n 1 t u v) : Src prog w A s (.ref r) n (fun i v => i < n ∧ ∃ t, v = .int (0 + i * 1) t) := by
  intro E Q' h
  refine wpAny_pyIter_range hr (by simp [Builtin.Range.small, Builtin.Range.rangeFitsLong, range_size]; lia) ?_
  rw [range_size]
  have W := Walks.lt (Walks.range (prog := prog) (w := w) (A := A) hh s.heap.objs.size 0 1 n)
  have hI : IsRangeIter (s.heap.push { cls := .type "range_iterator", data := .fields #[rawInt 0, rawInt n, rawInt 1] }) s.heap.objs.size (0 + (0 : Nat) * 1) (n - (0 : Nat)) 1 := by
    have e1 : (0 : Int) + (0 : Nat) * 1 = 0 := rfl
    have e2 : (n : Int) - (0 : Nat) = n := by lia
    rw [e1, e2]
    exact Heap.get?_push_size _ rfl
  refine h s.heap.objs.size _ _ _ W hI (fun i h hst => ⟨_, hst⟩) (fun b hb => ?_) (by rw [Heap.size_push]; exact Nat.le_succ _) (stays_push _ _) (none_size _)
  rw [Heap.size_push]
  rw [List.mem_singleton.mp hb]
  exact Nat.lt_succ_self _
theorem with9 {G : Prop} {h₀ h : Heap} {L : Addr} {x1 x2 x3 x4 x5 x6 x7 x8 x9 : Addr} {o1 o2 o3 o4 o5 o6 o7 o8 o9 : Obj} (N : News h₀ L h [(x1, o1), (x2, o2), (x3, o3), (x4, o4), (x5, o5), (x6, o6), (x7, o7), (x8, o8), (x9, o9)])
    (k : ∀ g y1 y2 y3 y4 y5 y6 y7 y8 y9, g = h → y1 = x1 → y2 = x2 → y3 = x3 → y4 = x4 → y5 = x5 → y6 = x6 → y7 = x7 → y8 = x8 → y9 = x9 → G) : G := k _ _ _ _ _ _ _ _ _ _ rfl rfl rfl rfl rfl rfl rfl rfl rfl rfl
end Mine
namespace Mine
theorem rows_ord {L P a0 a1 a2 a3 a4 R : Nat} (f6 : L + 1 + 1 < P ∧ L + 1 < P) (f5 : P < a0 ∧ L + 1 + 1 < a0 ∧ L + 1 < a0) (f4 : a0 < a1 ∧ P < a1 ∧ L + 1 + 1 < a1 ∧ L + 1 < a1)
    (f3 : a1 < a2 ∧ a0 < a2 ∧ P < a2 ∧ L + 1 + 1 < a2 ∧ L + 1 < a2) (f2 : a2 < a3 ∧ a1 < a3 ∧ a0 < a3 ∧ P < a3 ∧ L + 1 + 1 < a3 ∧ L + 1 < a3) (f1 : a3 < a4 ∧ a2 < a4 ∧ a1 < a4 ∧ a0 < a4 ∧ P < a4 ∧ L + 1 + 1 < a4 ∧ L + 1 < a4)
    (f0 : a4 < R ∧ a3 < R ∧ a2 < R ∧ a1 < R ∧ a0 < R ∧ P < R ∧ L + 1 + 1 < R ∧ L + 1 < R) : (∀ a ∈ [a0, a1, a2, a3, a4], P ≠ a ∧ R ≠ a ∧ L + 1 + 1 ≠ a ∧ L + 1 ≠ a) ∧ [a0, a1, a2, a3, a4].Nodup ∧ P ≠ L + 1 + 1 ∧ R ≠ L + 1 + 1 ∧ L + 1 ≠ L + 1 + 1 := by
  refine ⟨fun a ha => ?_, ?_, ?_⟩
  · simp at ha
    rcases ha with rfl | rfl | rfl | rfl | rfl <;> lia
  · simp; lia
  · lia
theorem withH {G : Prop} {h₀ h : Heap} {L : Addr} {m : Str → Option Value} (F : Fr h₀ L h m) (k : ∀ g, g = h → G) : G := k _ rfl
theorem mod8 (z : Int) : ∃ k : Nat, k < 8 ∧ Int.fmod z 8 = (k : Int) := by
  have h1 := Int.fmod_nonneg_of_pos z (b := 8) (by lia)
  have h2 := Int.fmod_lt_of_pos z (b := 8) (by lia)
  exact ⟨(Int.fmod z 8).toNat, by lia, by lia⟩
noncomputable def poolTexts : List Str := [Str.ofString "", Str.ofString "a", Str.ofString "b", Str.ofString "a-", Str.ofString ".", Str.ofString "a.b", Str.ofString "..", Str.ofString "a"]
theorem pool_seg : ∀ p ∈ poolTexts, Seg p ∧ p.length ≤ 3 := by
  intro p hp
  unfold poolTexts at hp
  simp only [List.mem_cons, List.not_mem_nil, or_false] at hp
  rcases hp with rfl | rfl | rfl | rfl | rfl | rfl | rfl | rfl <;> exact ⟨by unfold Seg; decide +kernel, by decide +kernel⟩
theorem pool_list {l : List Value} {ys : List Value} (h : Paired (fun _ y => ∃ c u, y = Value.str c u ∧ c ∈ poolTexts) l ys) : ∃ lz : List (Str × Tok), ys = strValues lz ∧ (∀ z ∈ lz, z.1 ∈ poolTexts) ∧ lz.length = l.length := by
  induction h with
  | nil => exact ⟨[], rfl, (fun _ h => nomatch h), rfl⟩
  | cons x r ih =>
    obtain ⟨c, u, rfl, hc⟩ := x
    obtain ⟨lz, rfl, h1, h2⟩ := ih
    refine ⟨(c, u) :: lz, rfl, fun z hz => ?_, by simp [h2]⟩
    rcases List.mem_cons.mp hz with rfl | hz
    · exact hc
    · exact h1 z hz
/-- a store into a cell at the ledger's head -/
theorem store_cell {M : Model} {A : Around} {E : Value → Shared → Prop} {s : Shared} {h₀ : Heap} {L : Addr} {m : Str → Option Value} {news : List (Addr × Obj)} {env : Env} {name : Str} {c : Addr} {o : Obj} {v₀ : Option Value} {v : Value} {Q : Unit → Shared → Prop}
    (F : Fr h₀ L s.heap m) (N : News h₀ L s.heap ((c, o) :: news)) (hne : ∀ p ∈ news, p.1 ≠ c) (hd : o.data = .cell v₀) (hk : env.scope.kind = .function) (hl : env.kindOf name = some .cell) (hc : env.cells.lookup name = some c)
    (h : ∀ h' o', Fr h₀ L h' m → News h₀ L h' ((c, o') :: news) → o'.data = .cell (some v) → Q () { s with heap := h' }) : wpAny M A (storeName env name v) Q E s := by
  refine wpAny_storeName_cell hk hl hc ⟨_, (N _ (.head _)).1, hd⟩ fun h' hv hs => ?_
  obtain ⟨o', ho', hd'⟩ := hv
  exact h h' o' (Fr.swap F N hs) (News.swap N hne hs ho') hd'
end Mine
end

section
theorem Mine.rst_RS : True ∧ True := by
  w_top off
  first | (walk1; fail "laid") | exact ⟨trivial, trivial⟩
open PySem PySem.W PyProof.Rows
set_option linter.unusedVariables false
namespace Mine
noncomputable def residues (ns : List (Int × Tok)) (j : Nat) : Nat := (ns.filter fun z => decide (Int.fmod z.1 5 = j)).length
theorem residues_le (ns : List (Int × Tok)) (j : Nat) : residues ns j ≤ ns.length := List.length_filter_le _ _
noncomputable def intVals (ns : List (Int × Tok)) : List Value := ns.map fun z => .int z.1 z.2
theorem residues_app (a b : List (Int × Tok)) (j : Nat) : residues (a ++ b) j = residues a j + residues b j := by simp [residues]
theorem residues_one (x : Int) (t : Tok) (j : Nat) : residues [(x, t)] j = if j = (Int.fmod x 5).toNat then 1 else 0 := by
  have h1 := Int.fmod_nonneg_of_pos x (b := 5) (by lia)
  have h2 := Int.fmod_lt_of_pos x (b := 5) (by lia)
  by_cases h : j = (Int.fmod x 5).toNat
  · have e : Int.fmod x 5 = (j : Int) := by lia
    rw [if_pos h]
    unfold residues
    rw [List.filter_cons_of_pos (by exact decide_eq_true e)]
    rfl
  · have e : ¬ Int.fmod x 5 = (j : Int) := by lia
    rw [if_neg h]
    unfold residues
    rw [List.filter_cons_of_neg (by rw [decide_eq_false e]; decide)]
    rfl
theorem residues_step {ns : List (Int × Tok)} {i : Nat} {v : Value} (hv : (intVals ns).toArray[i]? = some v) : ∃ x tx, v = .int x tx ∧ residues (ns.take (i + 1)) (Int.fmod x 5).toNat = residues (ns.take i) (Int.fmod x 5).toNat + 1 ∧ ∀ j, j ≠ (Int.fmod x 5).toNat → residues (ns.take (i + 1)) j = residues (ns.take i) j := by
  have hv' : (intVals ns)[i]? = some v := by simpa using hv
  unfold intVals at hv'
  rw [List.getElem?_map] at hv'
  cases e : ns[i]? with
  | none => rw [e] at hv'; cases hv'
  | some z =>
    rw [e] at hv'
    cases hv'
    refine ⟨z.1, z.2, rfl, ?_, fun j hj => ?_⟩
    · rw [List.take_add_one, e, residues_app]
      show _ + residues [(z.1, z.2)] _ = _
      rw [residues_one, if_pos rfl]
    · rw [List.take_add_one, e, residues_app]
      show _ + residues [(z.1, z.2)] _ = _
      rw [residues_one, if_neg hj]; rfl
theorem residues_sum : ∀ ns : List (Int × Tok), residues ns 0 + residues ns 1 + residues ns 2 + residues ns 3 + residues ns 4 = ns.length
  | [] => rfl
  | (x, t) :: r => by
    have ih := residues_sum r
    have h1 := Int.fmod_nonneg_of_pos x (b := 5) (by lia)
    have h2 := Int.fmod_lt_of_pos x (b := 5) (by lia)
    have e : ∀ j, residues ((x, t) :: r) j = (if j = (Int.fmod x 5).toNat then 1 else 0) + residues r j := fun j => by
      rw [← residues_one x t j, ← residues_app]; rfl
    rw [e, e, e, e, e, List.length_cons, ← ih]
    have : (Int.fmod x 5).toNat < 5 := by lia
    generalize (Int.fmod x 5).toNat = k at *
    have : k = 0 ∨ k = 1 ∨ k = 2 ∨ k = 3 ∨ k = 4 := by lia
    rcases this with rfl | rfl | rfl | rfl | rfl <;> simp <;> lia
end Mine
end

section
theorem Mine.rst_MQ : True ∧ True := by
  w_top off
  first | (walk1; fail "laid") | exact ⟨trivial, trivial⟩
open PySem PySem.W PyProof.Rows PySem.Calls
set_option linter.unusedVariables false
namespace Mine
/-- a list of names and its row -/
abbrev Item := Names × Int
/-- all that is left, each with its row's number -/
noncomputable def tagF : Int → List (List Names) → List Item
  | _, [] => []
  | k, r :: rs => r.map (fun N => (N, k)) ++ tagF (k + 1) rs
noncomputable def Sorted (l : List Item) : Prop := l.Pairwise fun x y => pairLt y x = false
noncomputable def Rises (r : List Names) : Prop := r.Pairwise fun x y => namesLt y x = false
/-- what is told of a sorted list, from P on -/
noncomputable def dueF (b : Bool) : Names → List Item → List (Int × Str × Str)
  | _, [] => []
  | P, (N, k) :: r => (k, pathF b N, pathF b (lcpF P N)) :: dueF b N r
theorem tag_mem {x : Item} : ∀ {k : Int} {rs : List (List Names)}, x ∈ tagF k rs → ∃ (j : Nat) (r : List Names), rs[j]? = some r ∧ x.2 = k + j ∧ x.1 ∈ r
  | k, [], h => nomatch h
  | k, r :: rs, h => by
    rcases List.mem_append.mp h with h | h
    · obtain ⟨N, hN, rfl⟩ := List.mem_map.mp h
      exact ⟨0, r, rfl, by simp, hN⟩
    · obtain ⟨j, r', e1, e2, e3⟩ := tag_mem h
      exact ⟨j + 1, r', by simpa using e1, by rw [e2]; push_cast; lia, e3⟩
theorem mem_tag {N : Names} {r : List Names} : ∀ {rs : List (List Names)} {j : Nat} (k : Int), rs[j]? = some r → N ∈ r → (N, k + j) ∈ tagF k rs
  | [], j, k, h, _ => by simp at h
  | r' :: rs, 0, k, h, hN => by
    simp at h; subst h
    exact List.mem_append_left _ (List.mem_map.mpr ⟨N, hN, by simp⟩)
  | r' :: rs, j + 1, k, h, hN => by
    have := mem_tag (rs := rs) (j := j) (k + 1) (by simpa using h) hN
    refine List.mem_append_right _ ?_
    have e : k + ((j + 1 : Nat) : Int) = k + 1 + (j : Int) := by push_cast; lia
    rw [e]; exact this
theorem tag_set {N : Names} {r : List Names} : ∀ {rs : List (List Names)} {j : Nat} (k : Int), rs[j]? = some (N :: r) → (tagF k rs).Perm ((N, k + j) :: tagF k (rs.set j r))
  | [], j, k, h => by simp at h
  | r' :: rs, 0, k, h => by
    simp at h; subst h
    simp [tagF]
  | r' :: rs, j + 1, k, h => by
    have ih := tag_set (rs := rs) (j := j) (k + 1) (by simpa using h)
    have e : k + ((j + 1 : Nat) : Int) = k + 1 + (j : Int) := by push_cast; lia
    rw [e]
    show (r'.map (fun N => (N, k)) ++ tagF (k + 1) rs).Perm ((N, k + 1 + (j : Int)) :: (r'.map (fun N => (N, k)) ++ tagF (k + 1) (rs.set j r)))
    exact (List.Perm.append_left _ ih).trans List.perm_middle
theorem tag_nil : ∀ {rs : List (List Names)} (k : Int), (∀ r ∈ rs, r = []) → tagF k rs = []
  | [], k, _ => rfl
  | r :: rs, k, h => by
    show r.map _ ++ tagF (k + 1) rs = []
    rw [h r (.head _), tag_nil (k + 1) fun r hr => h r (.tail _ hr)]; rfl
theorem tag_len : ∀ (rs : List (List Names)) (k : Int), (tagF k rs).length = (rs.map (·.length)).sum
  | [], k => rfl
  | r :: rs, k => by simp [tagF, tag_len rs]
theorem pair_fst {x y : Item} (h : pairLt y x = false) : namesLt y.1 x.1 = false := by
  by_cases e : y.1 = x.1
  · rw [e]; exact tot_names.irr _
  · unfold pairLt at h
    rwa [prodLt_ne e] at h
theorem pair_same {M N : Names} {k : Int} (h : namesLt M N = false) : pairLt (M, k) (N, k) = false := by
  unfold pairLt
  by_cases e : M = N
  · rw [prodLt_eq (by exact e)]; simp [intLt]
  · rw [prodLt_ne (by exact e)]; exact h
/-- what goes out of the heap is the next of the sorted list -/
theorem step_ok {b : Bool} {P N : Names} {rest : List Names} {rs : List (List Names)} {srt : List Item} {k : Nat} (hr : ∀ r ∈ rs, Rises r) (hp : srt.Perm (tagF 0 rs)) (hs : Sorted srt)
    (hP : ∀ x ∈ srt, namesLt x.1 P = false) (hk : rs[k]? = some (N :: rest)) (hmin : ∀ (j : Nat) (M : Names) (r : List Names), rs[j]? = some (M :: r) → entLt b (ent P M j) (ent P N k) = false) :
    ∃ srt', srt = (N, (k : Int)) :: srt' ∧ srt'.Perm (tagF 0 (rs.set k rest)) ∧ Sorted srt' ∧ ∀ x ∈ srt', namesLt x.1 N = false := by
  have hmem : (N, (k : Int)) ∈ srt := hp.mem_iff.mpr (by have := mem_tag (0 : Int) hk (List.mem_cons_self ..); simpa using this)
  match srt, hmem with
  | x :: srt', hmem =>
    have hx : x = (N, (k : Int)) := by
      obtain ⟨i, r, e1, e2, e3⟩ := tag_mem (hp.mem_iff.mp (List.mem_cons_self ..))
      obtain ⟨M', q⟩ := x
      have e2' : q = (i : Int) := by simpa using e2
      subst e2'
      have hle : pairLt (N, (k : Int)) (M', (i : Int)) = false := by
        rcases List.mem_cons.mp hmem with q | q
        · rw [← q]; exact tot_pair.irr _
        · exact (List.pairwise_cons.mp hs).1 _ q
      match r, e3 with
      | M :: r, e3 =>
        have hM : namesLt M' M = false := by
          rcases List.mem_cons.mp e3 with q | q
          · have q' : M' = M := q
            rw [q']; exact tot_names.irr _
          · exact (List.pairwise_cons.mp (hr _ (List.mem_of_getElem? e1))).1 _ q
        have hMP : namesLt M P = false := hP (M, (i : Int)) (hp.mem_iff.mpr (by have := mem_tag (0 : Int) e1 (List.mem_cons_self ..); simpa using this))
        have hNP : namesLt N P = false := hP _ hmem
        have h1 : pairLt (M, (i : Int)) (N, (k : Int)) = false := by
          cases q : pairLt (M, (i : Int)) (N, (k : Int)) with
          | false => rfl
          | true => have := ent_order (b := b) hMP hNP q; rw [hmin i M r e1] at this; cases this
        have h2 : pairLt (M', (i : Int)) (M, (i : Int)) = false := pair_same hM
        exact tot_pair.tot _ _ (tot_pair.weak.trans _ _ _ h1 h2) hle
    subst hx
    refine ⟨srt', rfl, ?_, (List.pairwise_cons.mp hs).2, fun x hx => pair_fst ((List.pairwise_cons.mp hs).1 _ hx)⟩
    have := hp.trans (tag_set (0 : Int) hk)
    simpa using this
/-- sorted lists of the same things are alike -/
theorem sorted_unique {α : Type} {lt : α → α → Bool} (T : Tot lt) : ∀ {l l' : List α}, l.Perm l' → l.Pairwise (fun x y => lt y x = false) → l'.Pairwise (fun x y => lt y x = false) → l = l'
  | [], l', h, _, _ => (List.nil_perm.mp h).symm
  | x :: l, [], h, _, _ => absurd h.length_eq (by simp)
  | x :: l, y :: l', h, h1, h2 => by
    have e : x = y := by
      have m1 : x ∈ y :: l' := h.mem_iff.mp (List.mem_cons_self ..)
      have m2 : y ∈ x :: l := h.mem_iff.mpr (List.mem_cons_self ..)
      rcases List.mem_cons.mp m1 with q | q
      · exact q
      rcases List.mem_cons.mp m2 with q' | q'
      · exact q'.symm
      exact T.tot _ _ ((List.pairwise_cons.mp h2).1 _ q) ((List.pairwise_cons.mp h1).1 _ q')
    subst e
    rw [sorted_unique T (List.Perm.cons_inv h) (List.pairwise_cons.mp h1).2 (List.pairwise_cons.mp h2).2]
/-- what stays in the heap is right for the next one too -/
theorem ent_keep {P N M : Names} {j : Int} (h : (lcpF P M).length < (lcpF P N).length) : ent N M j = ent P M j := by
  unfold ent
  rw [lcp_keep h]
theorem ent_neg_ge {b : Bool} {x y : Ent} (h : entLt b x y = false) : y.neg ≤ x.neg := by
  by_cases e : x.neg = y.neg
  · lia
  · unfold entLt at h
    rw [prodLt_ne (by exact e)] at h
    have h' : decide (x.neg < y.neg) = false := h
    have : ¬ x.neg < y.neg := of_decide_eq_false h'
    lia
end Mine
end

section
theorem Mine.rst_TE : True ∧ True := by
  w_top off
  first | (walk1; fail "laid") | exact ⟨trivial, trivial⟩
open PySem PySem.W PyProof.Rows PySem.Calls
open MeetsSeq MeetsSeq2 MeetsSeq3 SeqRoads2 SeqAt
set_option linter.unusedVariables false
namespace Mine
abbrev Trip := Int × Str × Str
/-- a tuple of a number and two texts -/
inductive TripAt (h : Heap) (v : Value) (t : Trip) : Prop
  | mk : ∀ a c t1 t2 t3, (v = .ref a) →
      (h.get? a = some { cls := .type "tuple", data := .seq #[.int t.1 t1, .str t.2.1 t2, .str t.2.2 t3] c }) → TripAt h v t
inductive TripsAt (h : Heap) (D : Addr) (ts : List Trip) : Prop
  | mk : ∀ (l : List Value) (c : Nat), (h.get? D = some (lstO l.toArray c)) →
      (Paired (TripAt h) l ts) → TripsAt h D ts
theorem TripAt.keeps {h h' : Heap} {v : Value} {t : Trip} (x : TripAt h v t) (k : ∀ a o, v = .ref a → h.get? a = some o → h'.get? a = some o) : TripAt h' v t := by
  obtain ⟨a, c, t1, t2, t3, e1, e2⟩ := x
  exact ⟨a, c, t1, t2, t3, e1, k _ _ e1 e2⟩
section
variable {A : Around} {s : Shared}
theorem TripAt.eq {v v' : Value} {t : Trip} (x : TripAt s.heap v t) (y : TripAt s.heap v' t) (hu : A.units < cLine) : EqAt A s v v' true := by
  obtain ⟨a, c, t1, t2, t3, rfl, ho⟩ := x
  obtain ⟨b, d, u1, u2, u3, rfl, ho'⟩ := y
  by_cases hne : a = b
  · subst hne; exact EqAt.same _
  · refine EqAt.of_refs hne ?_
    refine RcAt.tuples (e := fun _ => true) ⟨_, ho, rfl, c, rfl⟩ ⟨_, ho', rfl, d, rfl⟩ hu ?_
    intro j h1 h2
    have hj : j = 0 ∨ j = 1 ∨ j = 2 := by simp at h1; lia
    rcases hj with rfl | rfl | rfl
    · have := EqAt.int (A := A.in1) (s := s) t.1 t.1 t1 u1; rwa [decide_eq_true rfl] at this
    · have := EqAt.str (A := A.in1) (s := s) t.2.1 t.2.1 t2 u2; rwa [decide_eq_true rfl] at this
    · have := EqAt.str (A := A.in1) (s := s) t.2.2 t.2.2 t3 u3; rwa [decide_eq_true rfl] at this
theorem Paired.at2 {α β : Type} {R : α → β → Prop} : ∀ {l : List α} {l' : List β}, Paired R l l' → ∀ (j : Nat) (h : j < l.length) (h' : j < l'.length), R l[j] l'[j]
  | _, _, .nil, j, h, _ => absurd h (Nat.not_lt_zero _)
  | _, _, .cons x r, 0, _, _ => x
  | _, _, .cons x r, j + 1, h, h' => Paired.at2 r j (by simpa using h) (by simpa using h')
theorem TripsAt.eq {D D' : Addr} {ts : List Trip} (x : TripsAt s.heap D ts) (y : TripsAt s.heap D' ts) (hu : A.units < cLine) (hu1 : A.in1.units < cLine) : RcAt A s (.ref D) (.ref D') true := by
  obtain ⟨l, c, ho, p⟩ := x
  obtain ⟨l', c', ho', p'⟩ := y
  have e1 : l.length = ts.length := Paired.length p
  have e2 : l'.length = ts.length := Paired.length p'
  have := RcAt.lists (A := A) (s := s) (e := fun _ => true) ⟨_, ho, rfl, c, rfl⟩ ⟨_, ho', rfl, c', rfl⟩ (by simp [e1, e2]) hu (fun j h1 h2 => by
    have h1' : j < l.length := by simpa using h1
    have h2' : j < l'.length := by simpa using h2
    have q1 := Paired.at2 p j h1' (by lia)
    have q2 := Paired.at2 p' j h2' (by lia)
    have := TripAt.eq (A := A.in1) (s := s) q1 q2 hu1
    simpa using this)
  rwa [show (List.range l.toArray.size).all (fun _ => true) = true from List.all_eq_true.mpr fun _ _ => rfl] at this
end
end Mine
end

section
theorem Mine.rst_LF : True ∧ True := by
  w_top off
  first | (walk1; fail "laid") | exact ⟨trivial, trivial⟩
open PySem PySem.W PyProof.Rows PySem.Calls
set_option linter.unusedVariables false
namespace Mine
section
variable {prog : Program} {w : World} {A : Around} {E : Value → Shared → Prop} {s : Shared} {env : Env} {Q : Flow → Shared → Prop}
/-- what a for over a range must do -/
inductive RangeIn (prog : Program) (w : World) (A : Around) (env : Env) (target : Expr) (body : List Stmt) (Q : Flow → Shared → Prop) (val : Value) (s₁ : Shared) : Prop
  | mk : ∀ (r : Addr) (n : Nat) (t u v : Tok) (J : Nat → Heap → Prop), (val = .ref r) →
      (n ≤ 1000) →
      (IsRange s₁.heap r 0 n 1 t u v) →
      ((∀ i h h', J i h → KeepBut s₁.heap.objs.size h h' → J i h')) →
      (J 0 s₁.heap) →
      ((∀ (R : Shared → Prop) i, (∀ h tk, J (i + 1) h → IsRangeIter h s₁.heap.objs.size (0 + ((i + 1 : Nat) : Int) * 1) ((n : Int) - ((i + 1 : Nat) : Int)) 1 → R { s₁ with heap := h, toks := tk }) → ∀ t h tk, i < n → J i h → IsRangeIter h s₁.heap.objs.size (0 + ((i + 1 : Nat) : Int) * 1) ((n : Int) - ((i + 1 : Nat) : Int)) 1 → wpAny (model prog w) A (assign target env (.int (i : Int) t)) (fun _ s' => wpAny (model prog w) A (execs body env)
      (LoopQ R Q) (fun _ _ => False) s') (fun _ _ => False) { s₁ with heap := h, toks := tk })) →
      ((∀ h tk, J n h → Q .next { s₁ with heap := h, toks := tk })) → RangeIn prog w A env target body Q val s₁
theorem for_rangeIn {x : Str} {px pos : Pos} {iter : Expr} {body : List Stmt} (hh : A.handled = none) (hs : ∀ x, foldedSetIterable iter env x = pure x)
    (h : wpAny (model prog w) A (eval iter env) (RangeIn prog w A env (.Name x px) body Q) (fun _ _ => False) s) :
    wpAny (model prog w) A (exec (.For (.Name x px) iter body [] pos) env) Q E s := by
  refine wpAny_For (calm (wpAny_mono h (fun xv s₁ h₁ => ?_) fun _ _ x => x)) hs
  obtain ⟨r, n, t, u, v, J, rfl, hn, hr, stable, h0, turn, done⟩ := h₁
  refine wpAny_pyIter_range hr (by simp [Builtin.Range.small, Builtin.Range.rangeFitsLong, range_size]; lia) ?_
  rw [range_size]
  have W := Walks.range (prog := prog) (w := w) (A := A) hh s₁.heap.objs.size 0 1 n
  have old : KeepBut s₁.heap.objs.size s₁.heap (s₁.heap.push { cls := .type "range_iterator", data := .fields #[rawInt 0, rawInt n, rawInt 1] }) := fun b o _ e => Heap.get?_push_of_some _ e
  have hI : IsRangeIter (s₁.heap.push { cls := .type "range_iterator", data := .fields #[rawInt 0, rawInt n, rawInt 1] }) s₁.heap.objs.size (0 + (0 : Nat) * 1) (n - (0 : Nat)) 1 := by
    have e1 : (0 : Int) + (0 : Nat) * 1 = 0 := rfl
    have e2 : (n : Int) - (0 : Nat) = n := by lia
    rw [e1, e2]
    exact Heap.get?_push_size _ rfl
  refine codeAny_forLoop_any (UpTo (n) fun i => HeapIs s₁ (fun h' => J i h' ∧ IsRangeIter h' s₁.heap.objs.size (0 + (i : Int) * 1) ((n : Int) - (i : Int)) 1)) ?_ (n + 1)
    ⟨0, ⟨_, _, rfl, stable 0 _ _ h0 old, hI⟩, Nat.zero_le _, rfl⟩
  rintro k s' ⟨i, ⟨H, tk, rfl, hJ, hI⟩, hi, rfl⟩
  by_cases hlt : i < n
  · refine calm (W.item i _ _ _ hlt hI fun v h₂ tk₂ hv hst₂ hk₂ => ?_)
    have hJ₂ : J i h₂ := stable i _ _ hJ fun b o hb e => hk₂ b o (by simpa using hb) e
    obtain ⟨t', rfl⟩ := hv
    have ei : (0 : Int) + (i : Int) * 1 = (i : Int) := by lia
    rw [ei]
    show wpAny _ _ (letOwnedTupleGo (.Name x px) _ _) _ _ _
    refine wpAny_pure ?_
    refine calm (wpAny_mono (turn (HeapIs s₁ fun h' => J (i + 1) h' ∧ IsRangeIter h' s₁.heap.objs.size (0 + ((i + 1 : Nat) : Int) * 1) ((n : Int) - ((i + 1 : Nat) : Int)) 1) i (fun h tk a b => ⟨h, tk, rfl, a, b⟩) t' h₂ tk₂ hlt hJ₂ hst₂) (fun _ s₃ h₃ => calm (wpAny_mono h₃ (fun f s₄ h₄ => ?_) fun _ _ x => x)) fun _ _ x => x)
    have fin : HeapIs s₁ (fun h' => J (i + 1) h' ∧ IsRangeIter h' s₁.heap.objs.size (0 + ((i + 1 : Nat) : Int) * 1) ((n : Int) - ((i + 1 : Nat) : Int)) 1) s₄ →
        ∃ m, m < n + 1 - i ∧ UpTo (n) (fun j => HeapIs s₁ (fun h' => J j h' ∧ IsRangeIter h' s₁.heap.objs.size (0 + (j : Int) * 1) ((n : Int) - (j : Int)) 1)) m s₄ :=
      fun q => ⟨n + 1 - (i + 1), by lia, i + 1, q, hlt, rfl⟩
    cases f with
    | next => exact fin h₄
    | cont => exact fin h₄
    | brk => exact h₄
    | ret v => exact h₄
  · have hin : i = n := by lia
    subst hin
    refine calm (W.done _ _ _ hI fun h₂ tk₂ hk₂ => wpAny_execs_nil ?_)
    exact done h₂ tk₂ (stable _ _ _ hJ fun b o hb e => hk₂ b o (by simpa using hb) e)
end
end Mine
end

section
theorem Mine.rst_S11 : True ∧ True := by
  w_top off
  first | (walk1; fail "laid") | exact ⟨trivial, trivial⟩
open PySem PySem.W PyProof.Rows PySem.Calls
set_option linter.unusedVariables false
namespace Mine
theorem fill15 : (PySem.Challenge.rw_pd0049_01.prog = PySem.Challenge.rw_pd0049_01.prog) ∧ (∀ P, Mine.hd.heap_1 P = Mine.hd.heap_1 P) := by k_fill; exact ⟨rfl, fun _ => rfl⟩
/-- a text of a row -/
inductive RowText (b : Bool) (x : Str) : Prop
  | mk : ∀ ps : List Str, (ps ≠ []) →
      (ps.length ≤ 4) →
      ((∀ p ∈ ps, Seg p ∧ p.length ≤ 3)) →
      (x = frontF b ++ Str.join slash ps) → RowText b x
inductive RowIs (b : Bool) (h : Heap) (a : Addr) (n : Nat) : Prop
  | mk : ∀ ls c, (h.get? a = some (lstO (strValues ls).toArray c)) →
      ((∀ z ∈ ls, RowText b z.1)) →
      (ls.length = n) → RowIs b h a n
/-- a list of rows of texts -/
inductive RowsAt (h : Heap) (D : Addr) (rr : List (List Str)) : Prop
  | mk : ∀ (as : List Addr) (c : Nat), (h.get? D = some (lstO (as.map Value.ref).toArray c)) →
      (Paired (fun a r => StrsAt h a r) as rr) → RowsAt h D rr
/-- what _law_rows tells of its rows -/
structure RowsOk (b : Bool) (rr : List (List Str)) : Prop where
  five : rr.length = 5
  texts : ∀ r ∈ rr, ∀ x ∈ r, RowText b x
  sorted : ∀ r ∈ rr, r.Pairwise fun x y => namesLt (piecesF y) (piecesF x) = false
  few : (rr.map (·.length)).sum ≤ 20
  many : 2 ≤ (rr.map (·.length)).sum
inductive ElRow (b : Bool) (as : List Addr) (ns : List (Int × Tok)) (g : Heap) (v y : Value) : Prop
  | mk : ∀ a D r, (v = .ref a) →
      (y = .ref D) →
      (StrsAt g D r) →
      ((∀ x ∈ r, RowText b x)) →
      (r.Pairwise (fun x y => namesLt (piecesF y) (piecesF x) = false)) →
      (∀ j : Nat, as[j]? = some a → r.length = residues ns j) → ElRow b as ns g v y
theorem ElRow.mono (b : Bool) (as : List Addr) (ns : List (Int × Tok)) (g g' : Heap) (v y : Value) (st : g.StaysIn g') (h : ElRow b as ns g v y) : ElRow b as ns g' v y := by
  obtain ⟨a, D, r, e1, e2, e3, e4, e5, e6⟩ := h
  exact ⟨a, D, r, e1, e2, e3.keeps fun o e => st _ _ e, e4, e5, e6⟩
theorem front_len (b : Bool) : (frontF b).length ≤ 2 := by cases b <;> decide +kernel
theorem RowText.len {b : Bool} {x : Str} (h : RowText b x) : x.length ≤ 40 := by
  obtain ⟨ps, h1, h2, h3, rfl⟩ := h
  have e1 := join_len_le (n := 4) (B := 3) h2 fun p hp => (h3 p hp).2
  have e2 := StrLaws.join_length_le slash ps
  have e3 := front_len b
  rw [Str.length_append]
  lia
theorem rows_of {b : Bool} {as : List Addr} {ns : List (Int × Tok)} {g : Heap} : ∀ {vs ys : List Value}, Paired (ElRow b as ns g) vs ys → ∃ (as' : List Addr) (rr : List (List Str)), ys = as'.map Value.ref ∧ Paired (fun a r => StrsAt g a r) as' rr ∧
    (∀ r ∈ rr, (∀ x ∈ r, RowText b x) ∧ r.Pairwise fun x y => namesLt (piecesF y) (piecesF x) = false) ∧ Paired (fun v (r : List Str) => ∀ a, v = .ref a → ∀ k : Nat, as[k]? = some a → r.length = residues ns k) vs rr
  | [], [], .nil => ⟨[], [], rfl, .nil, (fun _ h => nomatch h), .nil⟩
  | _ :: _, _ :: _, .cons x r => by
    obtain ⟨as', rr, e1, e2, e3, e4⟩ := rows_of r
    obtain ⟨a, D, q, rfl, rfl, h1, h2, h3, h4⟩ := x
    refine ⟨D :: as', q :: rr, by rw [e1]; rfl, .cons h1 e2, fun r hr => ?_, .cons ?_ e4⟩
    · rcases List.mem_cons.mp hr with rfl | hr
      · exact ⟨h2, h3⟩
      · exact e3 r hr
    · intro a' ha' k hk
      cases ha'
      exact h4 k hk
theorem rows_few {as : List Addr} {ns : List (Int × Tok)} {rr : List (List Str)} (h5 : as.length = 5) (p : Paired (fun v (r : List Str) => ∀ a, v = .ref a → ∀ k : Nat, as[k]? = some a → r.length = residues ns k) (as.map Value.ref) rr) : rr.length = 5 ∧ (rr.map (·.length)).sum = ns.length := by
  match as, h5 with
  | [a0, a1, a2, a3, a4], _ =>
    cases p with | cons x0 p => cases p with | cons x1 p => cases p with | cons x2 p => cases p with | cons x3 p => cases p with | cons x4 p => cases p with | nil =>
    refine ⟨rfl, ?_⟩
    have := residues_sum ns
    rw [← x0 _ rfl 0 rfl, ← x1 _ rfl 1 rfl, ← x2 _ rfl 2 rfl, ← x3 _ rfl 3 rfl, ← x4 _ rfl 4 rfl] at this
    simp only [List.map_cons, List.map_nil, List.sum_cons, List.sum_nil]
    lia
inductive J11 (base : Heap) (L R P a0 a1 a2 a3 a4 : Addr) (as : List Addr) (oPC : Obj) (lp : List (Str × Tok)) (ns : List (Int × Tok)) (b : Bool) (t : Tok) (i : Nat) (h : Heap) : Prop
  | mk : ∀ (m : Str → Option Value) (oY : Obj) (vY : Option Value), (h.Ns L m) →
      (m (Str.ofString "front") = some (.str (frontF b) t)) →
      (m (Str.ofString "rows") = some (.ref R)) →
      (base.StaysIn h) →
      (h.get? (L + 1 + 1) = some oY) →
      (oY.data = .cell vY) →
      (h.get? (L + 1) = some oPC) →
      (h.get? P = some (lstO (strValues lp).toArray 0)) →
      (h.get? R = some (lstO #[.ref a0, .ref a1, .ref a2, .ref a3, .ref a4] 0)) →
      (∀ (j : Nat) (a : Addr), as[j]? = some a → RowIs b h a (residues (ns.take i) j)) → J11 base L R P a0 a1 a2 a3 a4 as oPC lp ns b t i h
theorem rows_spec {w : World} {A : Around} {s : Shared} {E : Value → Shared → Prop} {Q : Value → Shared → Prop} {l : Addr} {b : Bool} {t : Tok} {ns : List (Int × Tok)}
   (G : Gl w s.heap) (hR : Rm A 9) (hl : s.heap.IsList l (intVals ns).toArray) (hz : ns.length ≤ 20) (hfull : ∀ j, j < 5 → 0 < residues ns j)
   (hfin : ∀ D rr h' tk', s.heap.StaysIn h' → s.heap.get? D = none → RowsAt h' D rr → RowsOk b rr → Q (.ref D) { s with heap := h', toks := tk' }) :
   wpAny (model PP w) A (call (.ref 172) [.ref l, .str (frontF b) t]) Q E s := by
  refine hideG fun hG0 kG0 => ?_
  obtain ⟨X, mean, mg, mb, T⟩ := G
  obtain ⟨hn, dp, fr, gd, un⟩ := A
  obtain rfl : hn = none := hR.handled
  refine kG0 ?_
  clear kG0 hG0
  refine call_defC (binds := [(Str.ofString "numbers", .ref l), (Str.ofString "front", .str (frontF b) t)]) X T.nolimit (by k_is) (by k_is) (Rm.room hR) (BindsTo.of_eq rfl) rfl (by decide +kernel) rfl rfl rfl ?_
  intro h₁ L tk cells F N Y
  k_cells Y
  iterate 50 walk_at "one"
  rename Fr _ _ _ _ => F1
  rename News _ _ _ _ => N1
  rename Heap => H1
  refine with9 N1 ?_
  rintro g0 R a4 a3 a2 a1 a0 P yc pc - rfl rfl rfl rfl rfl rfl rfl e8 e9
  clear e8 e9 yc pc
  refine hideG fun hG0 kG0 => ?_
  obtain ⟨as, has⟩ : ∃ as : List Addr, as = [a0, a1, a2, a3, a4] := ⟨_, rfl⟩
  obtain ⟨oPC, hoPC, dPC⟩ : ∃ o, H1.get? (L + 1) = some o ∧ o.data = .cell (some (.ref P)) := ⟨_, (N1 (L + 1, _) (.tail _ (.tail _ (.tail _ (.tail _ (.tail _ (.tail _ (.tail _ (.tail _ (.head _)))))))))).1, by assumption⟩
  obtain ⟨lp, hlp, hoP⟩ : ∃ lp : List (Str × Tok), lp.map (·.1) = poolTexts ∧ H1.get? P = some (lstO (strValues lp).toArray 0) := ⟨[(_, _), (_, _), (_, _), (_, _), (_, _), (_, _), (_, _), (_, _)], rfl, (N1 (P, _) (.tail _ (.tail _ (.tail _ (.tail _ (.tail _ (.tail _ (.head _)))))))).1⟩
  obtain ⟨oY, hoY⟩ : ∃ o, H1.get? (L + 1 + 1) = some o ∧ ∃ v, o.data = .cell v := ⟨_, (N1 (L + 1 + 1, _) (.tail _ (.tail _ (.tail _ (.tail _ (.tail _ (.tail _ (.tail _ (.head _))))))))).1, _, by assumption⟩
  have hoR := (N1 (R, _) (.head _)).1
  obtain ⟨hnd1, hnd2, hnd3⟩ := rows_ord (L := L) (P := P) (a0 := a0) (a1 := a1) (a2 := a2) (a3 := a3) (a4 := a4) (R := R) (by assumption) (by assumption) (by assumption) (by assumption) (by assumption) (by assumption) (by assumption)
  refine kG0 ?_
  clear kG0 hG0
  have hnew : ∀ p ∈ [R, P, L + 1 + 1, L + 1], p ≠ L ∧ s.heap.get? p = none := by
    intro p hp
    simp only [List.mem_cons, List.not_mem_nil, or_false] at hp
    rcases hp with q | q | q | q <;> rw [q]
    · exact (N1 (R, _) (.head _)).2
    · exact (N1 (P, _) (.tail _ (.tail _ (.tail _ (.tail _ (.tail _ (.tail _ (.head _)))))))).2
    · exact (N1 (L + 1 + 1, _) (.tail _ (.tail _ (.tail _ (.tail _ (.tail _ (.tail _ (.tail _ (.head _))))))))).2
    · exact (N1 (L + 1, _) (.tail _ (.tail _ (.tail _ (.tail _ (.tail _ (.tail _ (.tail _ (.tail _ (.head _)))))))))).2
  have hasn : ∀ (j : Nat) (a : Addr), as[j]? = some a → a ≠ L ∧ s.heap.get? a = none ∧ RowIs b H1 a (residues (ns.take 0) j) := by
    intro j a hj
    rw [has] at hj
    rcases j with _ | _ | _ | _ | _ | j
    · cases hj; have := N1 (a0, _) (.tail _ (.tail _ (.tail _ (.tail _ (.tail _ (.head _)))))); exact ⟨this.2.1, this.2.2, [], 0, this.1, (fun _ h => nomatch h), rfl⟩
    · cases hj; have := N1 (a1, _) (.tail _ (.tail _ (.tail _ (.tail _ (.head _))))); exact ⟨this.2.1, this.2.2, [], 0, this.1, (fun _ h => nomatch h), rfl⟩
    · cases hj; have := N1 (a2, _) (.tail _ (.tail _ (.tail _ (.head _)))); exact ⟨this.2.1, this.2.2, [], 0, this.1, (fun _ h => nomatch h), rfl⟩
    · cases hj; have := N1 (a3, _) (.tail _ (.tail _ (.head _))); exact ⟨this.2.1, this.2.2, [], 0, this.1, (fun _ h => nomatch h), rfl⟩
    · cases hj; have := N1 (a4, _) (.tail _ (.head _)); exact ⟨this.2.1, this.2.2, [], 0, this.1, (fun _ h => nomatch h), rfl⟩
    · simp at hj
  have hrows : ∀ (j : Nat) (a : Addr), as[j]? = some a → RowIs b H1 a (residues (ns.take 0) j) := fun j a hj => (hasn j a hj).2.2
  have hlt : ∀ {p : Addr} {o : Obj}, H1.get? p = some o → p ≠ H1.objs.size := fun e => Nat.ne_of_lt (Heap.lt_size e)
  have aL := F1.above
  walk_at "one"
  refine for_list (l := l) (items := (intVals ns).toArray) (J11 s.heap L R P a0 a1 a2 a3 a4 as oPC lp ns b t) rfl (fun _ => rfl) ?_ ?_ ?_ ?_ ?_ ?_ ?_
  · obtain ⟨o, ho, hc, hd⟩ := hl
    exact ⟨o, F1.keep _ _ ho, hc, hd⟩
  · rintro i h h' ⟨m, oY, vY, hn, q1, q2, st, g1, d1, g2, g3, g4, hr⟩ kb
    exact ⟨m, oY, vY, hn.at' fun o e => kb _ _ (Nat.ne_of_lt F1.ns.lt) e, q1, q2, fun p o e => kb _ _ (hlt (F1.keep _ _ e)) (st _ _ e), kb _ _ (hlt hoY.1) g1, d1, kb _ _ (hlt hoPC) g2, kb _ _ (hlt hoP) g3, kb _ _ (hlt hoR) g4,
      fun j a hj => by obtain ⟨ls, c, e1, e2, e3⟩ := hr j a hj; obtain ⟨ls0, c0, e0, _⟩ := hrows j a hj; exact ⟨ls, c, kb _ _ (hlt e0) e1, e2, e3⟩⟩
  · rintro i h ⟨m, oY, vY, hn, q1, q2, st, g1, d1, g2, g3, g4, hr⟩
    refine hideG fun hG0 kG0 => ?_
    obtain ⟨o, ho, hc, hd⟩ := hl
    refine kG0 ?_
    clear kG0 hG0
    exact ⟨o, st _ _ ho, hc, hd⟩
  · obtain ⟨vY, dY⟩ := hoY.2
    exact ⟨_, oY, vY, F1.ns, rfl, rfl, F1.keep, hoY.1, dY, hoPC, hoP, hoR, hrows⟩
  · rintro RW i hRW v h tk hi hv ⟨m, oY, vY, hn, q1, q2, st, g1, d1, g2, g3, g4, hr⟩ hit
    refine hideG fun hG0 kG0 => ?_
    obtain ⟨x, tx, hvx, hxr⟩ := residues_step hv
    refine kG0 ?_
    clear kG0 hG0
    subst hvx
    have hm5 : (Int.fmod x 5).toNat < 5 := by have h1 := Int.fmod_nonneg_of_pos x (b := 5) (by lia); have h2 := Int.fmod_lt_of_pos x (b := 5) (by lia); lia
    refine hideG fun hG0 kG0 => ?_
    obtain ⟨r, hr5⟩ : ∃ r, r = (Int.fmod x 5).toNat := ⟨_, rfl⟩
    rw [← hr5] at hxr hm5
    obtain ⟨a, ha⟩ : ∃ a, as[r]? = some a := ⟨as[r]'(by rw [has]; exact hm5), by rw [List.getElem?_eq_getElem]⟩
    obtain ⟨ls, ca, ga, hls, hlsn⟩ := hr r a ha
    obtain ⟨oI, hoI, hcI, hdI⟩ := id hit
    obtain ⟨fz, hfz⟩ : ∃ fz, fz = (fullOf s.heap L h).filter fun p => decide (p.1 ≠ a ∧ p.1 ≠ L + 1 + 1) := ⟨_, rfl⟩
    have FT : Fr s.heap L h m := ⟨hn, st, aL⟩
    rw [pin4 q1 q2 q1 q2] at FT
    have haL := hasn r a ha
    have ham : a ∈ [a0, a1, a2, a3, a4] := by rw [← has]; exact List.mem_of_getElem? ha
    obtain ⟨n1, n2, n3, n4⟩ := hnd1 a ham
    refine kG0 ?_
    clear kG0 hG0
    have NT : News s.heap L h ((L + 1 + 1, oY) :: (a, lstO (strValues ls).toArray ca) :: (R, lstO #[.ref a0, .ref a1, .ref a2, .ref a3, .ref a4] 0) :: (P, lstO (strValues lp).toArray 0) :: (L + 1, oPC) :: (H1.objs.size, oI) :: fz) := by
      intro p hp
      rcases List.mem_cons.mp hp with rfl | hp
      · exact ⟨g1, hnew _ (by simp)⟩
      rcases List.mem_cons.mp hp with rfl | hp
      · exact ⟨ga, haL.1, haL.2.1⟩
      rcases List.mem_cons.mp hp with rfl | hp
      · exact ⟨g4, hnew _ (by simp)⟩
      rcases List.mem_cons.mp hp with rfl | hp
      · exact ⟨g3, hnew _ (by simp)⟩
      rcases List.mem_cons.mp hp with rfl | hp
      · exact ⟨g2, hnew _ (by simp)⟩
      rcases List.mem_cons.mp hp with rfl | hp
      · exact ⟨hoI, Nat.ne_of_gt F1.ns.lt, Heap.get?_none_of_le (Nat.le_trans aL (Nat.le_of_lt F1.ns.lt))⟩
      rw [hfz] at hp
      exact News.full p (List.mem_filter.mp hp).1
    have hfzn : ∀ p ∈ fz, p.1 ≠ a ∧ p.1 ≠ L + 1 + 1 := by
      intro p hp
      rw [hfz] at hp
      simpa using (List.mem_filter.mp hp).2
    have hney : ∀ p ∈ ((a, lstO (strValues ls).toArray ca) :: (R, lstO #[.ref a0, .ref a1, .ref a2, .ref a3, .ref a4] 0) :: (P, lstO (strValues lp).toArray 0) :: (L + 1, oPC) :: (H1.objs.size, oI) :: fz), p.1 ≠ L + 1 + 1 := by
      intro p hp
      rcases List.mem_cons.mp hp with rfl | hp
      · exact Ne.symm n3
      rcases List.mem_cons.mp hp with rfl | hp
      · exact hnd3.2.1
      rcases List.mem_cons.mp hp with rfl | hp
      · exact hnd3.1
      rcases List.mem_cons.mp hp with rfl | hp
      · exact hnd3.2.2
      rcases List.mem_cons.mp hp with rfl | hp
      · exact Ne.symm (hlt hoY.1)
      exact (hfzn p hp).2
    iterate 9 walk_at "one"
    rename Fr _ _ _ _ => FA
    rename News _ _ _ _ => NA
    refine store_cell FA NA hney d1 rfl rfl rfl ?_
    intro h2 oY2 F2 N2 d2
    clear FA NA
    have e5 : Int.fmod x 5 = ((r : Nat) : Int) := by rw [hr5]; exact (Int.toNat_of_nonneg (Int.fmod_nonneg_of_pos x (by lia))).symm
    iterate 9 walk_at "one"
    rw [e5]
    have hra : [Value.ref a0, .ref a1, .ref a2, .ref a3, .ref a4][r]? = some (.ref a) := by
      have : [Value.ref a0, .ref a1, .ref a2, .ref a3, .ref a4] = as.map Value.ref := by rw [has]; rfl
      rw [this, List.getElem?_map, ha]; rfl
    refine item_at (l := [.ref a0, .ref a1, .ref a2, .ref a3, .ref a4]) (N2 (R, _) (.tail _ (.tail _ (.head _)))).1 (by lia) hra ?_
    iterate 10 walk_at "one"
    refine comp_eval (cl := _) rfl (by decide) rfl (by decide) rfl (fun _ => rfl) ?_
    iterate 7 walk_at "one"
    rename IsRange _ _ _ _ _ _ _ _ => RG
    rename Fr _ _ _ _ => F3
    rename News _ _ _ _ => N3
    rename Heap => H3
    refine ⟨4, _, fun _ => true, fun _ _ y => ∃ c u, y = .str c u ∧ c ∈ poolTexts, [], Src.range rfl (by decide) RG, (by decide), (fun _ _ _ _ _ e => e), ?_, ?_⟩
    · intro C D I nC nD nI hC hCD hCI hDI
      have g3P := (N3 (P, _) (.tail _ (.tail _ (.tail _ (.head _))))).1
      have g3c := (N3 (L + 1, _) (.tail _ (.tail _ (.tail _ (.tail _ (.head _)))))).1
      have g3y := (N3 (L + 1 + 1, _) (.head _)).1
      have X3 := X.keeps F3.keep
      have T3 := T.keeps F3.keep
      clear F3 N3
      refine ⟨?_, ?_⟩
      · intro i v h₃ tk m₃ E' hP st hns hm _ _
        exact tests_nil ⟨rfl, h₃, tk, m₃, rfl, fun _ _ _ e => e, hns, hm⟩
      · intro i v h₃ tk m₃ E' hP hv st hns hm _ _
        refine hideG fun hG0 kG0 => ?_
        obtain ⟨hi4, tp, rfl⟩ := hP
        refine kG0 ?_
        clear kG0 hG0
        have F4 : Fr H3 C h₃ m₃ := ⟨hns, st, hC⟩
        have N4 : News H3 C h₃ (fullOf H3 C h₃) := News.full
        have hpc : H3.IsCell (L + 1) (some (.ref P)) := ⟨_, g3c, dPC⟩
        have hyc := (⟨_, g3y, d2⟩ : H3.IsCell (L + 1 + 1) _)
        have hpool : ∀ k, k < 8 → ∃ z : Str × Tok, z.1 ∈ poolTexts ∧ (strValues lp)[k]? = some (.str z.1 z.2) := by
          intro k hk
          have hl8 : lp.length = 8 := (List.length_map (f := fun z : Str × Tok => z.1) (as := lp)).symm.trans (by rw [hlp]; rfl)
          have hk' : k < lp.length := by lia
          refine ⟨lp[k], ?_, ?_⟩
          · rw [← hlp]; exact List.mem_map.mpr ⟨_, List.getElem_mem hk', rfl⟩
          · simp [strValues, hk']
        have hi5 : i = 0 ∨ i = 1 ∨ i = 2 ∨ i = 3 := by lia
        rcases hi5 with rfl | rfl | rfl | rfl
        · replace hm : m₃ (Str.ofString "p") = some (.int 0 tp) := hm
          iterate 1 walk_at "one"
          refine name_cellB (by kernel_rfl) rfl rfl F4 hpc (by decide) ?_
          iterate 2 walk_at "one"
          refine name_cellB (by kernel_rfl) rfl rfl F4 hyc (by decide) ?_
          iterate 7 walk_at "one"
          refine hideG fun hG0 kG0 => ?_
          obtain ⟨k, hk8, ek⟩ := mod8 (Int.fdiv (Int.fdiv x 5) (8 ^ Int.toNat 0))
          refine kG0 ?_
          clear kG0 hG0
          rw [ek]
          refine hideG fun hG0 kG0 => ?_
          obtain ⟨z, hz1, hz2⟩ := hpool k hk8
          refine kG0 ?_
          clear kG0 hG0
          refine item_at (l := strValues lp) (st _ _ g3P) (by lia) hz2 ?_
          exact ⟨h₃, _, m₃, rfl, fun _ _ _ e => e, hns, z.1, z.2, rfl, hz1⟩
        · replace hm : m₃ (Str.ofString "p") = some (.int 1 tp) := hm
          iterate 1 walk_at "one"
          refine name_cellB (by kernel_rfl) rfl rfl F4 hpc (by decide) ?_
          iterate 2 walk_at "one"
          refine name_cellB (by kernel_rfl) rfl rfl F4 hyc (by decide) ?_
          iterate 7 walk_at "one"
          refine hideG fun hG0 kG0 => ?_
          obtain ⟨k, hk8, ek⟩ := mod8 (Int.fdiv (Int.fdiv x 5) (8 ^ Int.toNat 1))
          refine kG0 ?_
          clear kG0 hG0
          rw [ek]
          refine hideG fun hG0 kG0 => ?_
          obtain ⟨z, hz1, hz2⟩ := hpool k hk8
          refine kG0 ?_
          clear kG0 hG0
          refine item_at (l := strValues lp) (st _ _ g3P) (by lia) hz2 ?_
          exact ⟨h₃, _, m₃, rfl, fun _ _ _ e => e, hns, z.1, z.2, rfl, hz1⟩
        · replace hm : m₃ (Str.ofString "p") = some (.int 2 tp) := hm
          iterate 1 walk_at "one"
          refine name_cellB (by kernel_rfl) rfl rfl F4 hpc (by decide) ?_
          iterate 2 walk_at "one"
          refine name_cellB (by kernel_rfl) rfl rfl F4 hyc (by decide) ?_
          iterate 7 walk_at "one"
          refine hideG fun hG0 kG0 => ?_
          obtain ⟨k, hk8, ek⟩ := mod8 (Int.fdiv (Int.fdiv x 5) (8 ^ Int.toNat 2))
          refine kG0 ?_
          clear kG0 hG0
          rw [ek]
          refine hideG fun hG0 kG0 => ?_
          obtain ⟨z, hz1, hz2⟩ := hpool k hk8
          refine kG0 ?_
          clear kG0 hG0
          refine item_at (l := strValues lp) (st _ _ g3P) (by lia) hz2 ?_
          exact ⟨h₃, _, m₃, rfl, fun _ _ _ e => e, hns, z.1, z.2, rfl, hz1⟩
        · replace hm : m₃ (Str.ofString "p") = some (.int 3 tp) := hm
          iterate 1 walk_at "one"
          refine name_cellB (by kernel_rfl) rfl rfl F4 hpc (by decide) ?_
          iterate 2 walk_at "one"
          refine name_cellB (by kernel_rfl) rfl rfl F4 hyc (by decide) ?_
          iterate 7 walk_at "one"
          refine hideG fun hG0 kG0 => ?_
          obtain ⟨k, hk8, ek⟩ := mod8 (Int.fdiv (Int.fdiv x 5) (8 ^ Int.toNat 3))
          refine kG0 ?_
          clear kG0 hG0
          rw [ek]
          refine hideG fun hG0 kG0 => ?_
          obtain ⟨z, hz1, hz2⟩ := hpool k hk8
          refine kG0 ?_
          clear kG0 hG0
          refine item_at (l := strValues lp) (st _ _ g3P) (by lia) hz2 ?_
          exact ⟨h₃, _, m₃, rfl, fun _ _ _ e => e, hns, z.1, z.2, rfl, hz1⟩
    · intro D h4 tk4 ys vs st4 nD4 hpl hlen4 hP4 hPair
      obtain ⟨c4, hD4⟩ := hpl
      have F5 := Fr.stays F3 st4
      have N5 := News.put F3 nD4 hD4 (News.stays N3 st4)
      clear F3 N3
      dsimp only
      iterate 1 walk_at "one"
      refine hideG fun hG0 kG0 => ?_
      obtain ⟨lz, hlz, hlz1, hlz2⟩ := pool_list hPair
      rw [List.filter_eq_self.mpr (fun _ _ => rfl), hlen4] at hlz2
      obtain ⟨rfl⟩ : ys = (strValues lz).toArray := by rw [← hlz]
      refine kG0 ?_
      clear kG0 hG0
      have hjl : ((lz.map (·.1)).map (·.length)).sum + (lz.map (·.1)).length * slash.length ≤ 4 * 3 + 4 :=
        join_len_le (by rw [List.length_map]; lia) fun p hp => by obtain ⟨z, hz1, rfl⟩ := List.mem_map.mp hp; exact (pool_seg _ (hlz1 z hz1)).2
      have hok := joinOk_of (Nat.le_trans hjl (by decide))
      refine SC.join ⟨_, (N5 _ (.head _)).1, rfl, _, rfl⟩ rfl hok ?_
      intro t8 k8
      have hjs : (Txt.join slash (lz.map (·.1))).length ≤ 16 := by
        have := StrLaws.join_length_le slash (lz.map (·.1))
        rw [join_eq]; lia
      have hfl := front_len b
      refine SB.add ?_ (Nat.le_trans (Nat.add_le_add hfl hjs) (by decide))
      intro t9 k9
      iterate 1 walk_at "one"
      have N6 : News s.heap L h4 ((a, lstO (strValues ls).toArray ca) :: (R, lstO #[.ref a0, .ref a1, .ref a2, .ref a3, .ref a4] 0) :: (P, lstO (strValues lp).toArray 0) :: (L + 1, oPC) :: (L + 1 + 1, oY2) :: (H1.objs.size, oI) :: fz) := by
        intro p hp
        refine N5 p (.tail _ ?_)
        rcases List.mem_cons.mp hp with rfl | hp
        · exact .tail _ (.head _)
        rcases List.mem_cons.mp hp with rfl | hp
        · exact .tail _ (.tail _ (.head _))
        rcases List.mem_cons.mp hp with rfl | hp
        · exact .tail _ (.tail _ (.tail _ (.head _)))
        rcases List.mem_cons.mp hp with rfl | hp
        · exact .tail _ (.tail _ (.tail _ (.tail _ (.head _))))
        rcases List.mem_cons.mp hp with rfl | hp
        · exact .head _
        rcases List.mem_cons.mp hp with rfl | hp
        · exact .tail _ (.tail _ (.tail _ (.tail _ (.tail _ (.head _)))))
        exact .tail _ (.tail _ (.tail _ (.tail _ (.tail _ (.tail _ hp)))))
      have hnea : ∀ p ∈ ((R, lstO #[.ref a0, .ref a1, .ref a2, .ref a3, .ref a4] 0) :: (P, lstO (strValues lp).toArray 0) :: (L + 1, oPC) :: (L + 1 + 1, oY2) :: (H1.objs.size, oI) :: fz), p.1 ≠ a := by
        intro p hp
        rcases List.mem_cons.mp hp with rfl | hp
        · exact n2
        rcases List.mem_cons.mp hp with rfl | hp
        · exact n1
        rcases List.mem_cons.mp hp with rfl | hp
        · exact n4
        rcases List.mem_cons.mp hp with rfl | hp
        · exact n3
        rcases List.mem_cons.mp hp with rfl | hp
        · obtain ⟨ls0, c0, e0, _⟩ := hrows r a ha
          exact Ne.symm (hlt e0)
        exact (hfzn p hp).1
      refine append_N F5 N6 hnea (by have := residues_le (ns.take i) r; rw [List.length_take] at this; simp only [strValues_size, List.length_map]; unfold sizeLine; lia) ?_
      intro h6 F6 N7
      clear F5 N5 N6
      iterate 2 walk_at "one"
      refine hRW h6 _ ⟨_, oY2, _, F6.ns, rfl, rfl, F6.keep, (N7 _ (.tail _ (.tail _ (.tail _ (.tail _ (.head _)))))).1, d2, (N7 _ (.tail _ (.tail _ (.tail _ (.head _))))).1, (N7 _ (.tail _ (.tail _ (.head _)))).1, (N7 _ (.tail _ (.head _))).1, ?_⟩
        ⟨oI, (N7 _ (.tail _ (.tail _ (.tail _ (.tail _ (.tail _ (.head _))))))).1, hcI, hdI⟩
      intro j a' ha'
      by_cases hj : j = r
      · subst hj
        obtain rfl : a = a' := by rw [ha] at ha'; exact Option.some.inj ha'
        refine ⟨ls ++ [(frontF b ++ Txt.join slash (lz.map (·.1)), t9)], ca + 1, ?_, ?_, ?_⟩
        · have := (N7 _ (.head _)).1
          simpa [strValues] using this
        · intro z hz
          rcases List.mem_append.mp hz with hz | hz
          · exact hls z hz
          · rw [List.mem_singleton.mp hz]
            refine ⟨lz.map (·.1), ?_, by rw [List.length_map]; lia, fun p hp => ?_, by rw [join_eq]⟩
            · intro q
              have : lz.length = 0 := by rw [← List.length_map (f := fun z : Str × Tok => z.1), q]; rfl
              lia
            · obtain ⟨z, hz1, rfl⟩ := List.mem_map.mp hp
              exact pool_seg _ (hlz1 z hz1)
        · rw [List.length_append, hlsn, hxr.1]; rfl
      · obtain ⟨ls', c', e1, e2, e3⟩ := hr j a' ha'
        refine ⟨ls', c', ?_, e2, by rw [hxr.2 j hj]; exact e3⟩
        have hne' : a' ≠ a := fun q => hj ((List.getElem?_inj (by rw [has]; exact (List.getElem?_eq_some_iff.mp (has ▸ ha')).1) (has ▸ hnd2)).mp (by rw [ha', ha, q]))
        have ham' : a' ∈ [a0, a1, a2, a3, a4] := by rw [← has]; exact List.mem_of_getElem? ha'
        have hm : (a', lstO (strValues ls').toArray c') ∈ fz := by
          rw [hfz]
          exact List.mem_filter.mpr ⟨mem_fullOf.mpr ⟨e1, (hasn j a' ha').2.1, (hasn j a' ha').1⟩, by simp [hne', Ne.symm (hnd1 a' ham').2.2.1]⟩
        exact (N7 _ (.tail _ (.tail _ (.tail _ (.tail _ (.tail _ (.tail _ hm))))))).1
  · rintro h tk ⟨m, oY, vY, hn, q1, q2, st, g1, d1, g2, g3, g4, hr⟩
    have FE : Fr s.heap L h m := ⟨hn, st, aL⟩
    rw [pin4 q1 q2 q1 q2] at FE
    have NE : News s.heap L h ((R, lstO #[.ref a0, .ref a1, .ref a2, .ref a3, .ref a4] 0) :: fullOf s.heap L h) := by
      intro p hp
      rcases List.mem_cons.mp hp with rfl | hp
      · exact ⟨g4, hnew _ (by simp)⟩
      · exact News.full p hp
    iterate 2 walk_at "one"
    refine comp_eval (cl := _) rfl (by decide) rfl (by decide) rfl (fun _ => rfl) ?_
    iterate 1 walk_at "one"
    refine ⟨(#[.ref a0, .ref a1, .ref a2, .ref a3, .ref a4] : Array Value).size, _, fun _ => true, ElRow b as ns, [], Src.list rfl ⟨_, (NE (R, _) (.head _)).1, rfl, _, rfl⟩, (show 5 ≤ sizeLine by decide), ElRow.mono b as ns, ?_, ?_⟩
    · intro C D I nC nD nI hC hCD hCI hDI
      have X3 := X.keeps FE.keep
      have T3 := T.keeps FE.keep
      clear FE NE
      refine ⟨?_, ?_⟩
      · intro i v h₃ tk m₃ E' hP st hns hm _ _
        exact tests_nil ⟨rfl, h₃, tk, m₃, rfl, fun _ _ _ e => e, hns, hm⟩
      · intro i v h₃ tk m₃ E' hP hv st3 hns hm hDD hII
        refine hideG fun hG0 kG0 => ?_
        obtain ⟨a, ha, rfl⟩ : ∃ a, as[i]? = some a ∧ v = .ref a := by
          have e : (as.map Value.ref)[i]? = some v := by rw [has]; simpa using hP
          rw [List.getElem?_map] at e
          cases q : as[i]? with
          | none => rw [q] at e; cases e
          | some a => rw [q] at e; exact ⟨a, rfl, (Option.some.inj e).symm⟩
        have F4 : Fr h C h₃ m₃ := ⟨hns, st3, hC⟩
        obtain ⟨fz, hfz⟩ : ∃ fz, fz = fullOf h C h₃ := ⟨_, rfl⟩
        have N4 : News h C h₃ fz := hfz ▸ News.full
        obtain ⟨ls, c, ga, hls, hlsn⟩ := hr i a ha
        refine kG0 ?_
        clear kG0 hG0
        have hi5 : i < 5 := by have := (List.getElem?_eq_some_iff.mp ha).1; rw [has] at this; exact this
        iterate 9 walk_at "one"
        rename Fr _ _ _ _ => F5
        rename News _ _ _ _ => N5
        have htk : (ns.take (intVals ns).toArray.size) = ns := by rw [show (intVals ns).toArray.size = ns.length by simp [intVals], List.take_length]
        rw [htk] at hlsn
        have hls20 : ls.length ≤ 20 := by rw [hlsn]; exact Nat.le_trans (residues_le _ _) hz
        refine sorted_pieces X3 T3 (Rm.mono (Rm.deeper hR) (by decide)) F5 N5 ⟨_, (st3 _ _ ga), rfl, _, rfl⟩ (by rw [hlsn]; exact hfull i hi5) (by lia) (fun z hz => Nat.le_trans (RowText.len (hls z hz)) (by decide)) ?_
        intro D' h' tk' ls' c' F6 N6 hperm hpw hnD
        refine EltEnd.of st3 F6 N6 (fun p hp => .tail _ (hfz ▸ hp)) ⟨a, D', ls'.map (·.1), rfl, rfl, ⟨ls', c', rfl, hideAll_get _ (N6 _ (.head _)).1 ?_⟩, ?_, ?_, ?_⟩
        · intro hm
          have hold : ∀ d, (∃ o, h₃.get? d = some o) → h.get? d = none → d ≠ C → D' ≠ d := by
            rintro d ⟨o, ho⟩ hn hne rfl
            exact Nat.lt_irrefl _ (hnD (D', o) (hfz ▸ mem_fullOf.mpr ⟨ho, hn, hne⟩))
          simp only [List.mem_cons, List.not_mem_nil, or_false] at hm
          rcases hm with q | q | q
          · exact (N6 _ (.head _)).2.1 q
          · exact hold D hDD nD hCD.symm q
          · exact hold I hII nI hCI.symm q
        · intro x hx
          refine hideG fun hG0 kG0 => ?_
          obtain ⟨z, hz1, rfl⟩ := List.mem_map.mp hx
          refine kG0 ?_
          clear kG0 hG0
          exact hls z (hperm.mem_iff.mp hz1)
        · exact List.pairwise_map.mpr hpw
        · intro j hj
          have e : j = i := ((List.getElem?_inj (by rw [has]; exact (List.getElem?_eq_some_iff.mp (has ▸ hj)).1) (has ▸ hnd2)).mp (by rw [hj, ha]))
          rw [List.length_map, hperm.length_eq, hlsn, e]
    · intro D h4 tk4 ys vs st4 nD4 hpl hlen4 hP4 hPair
      refine hideG fun hG0 kG0 => ?_
      obtain ⟨c4, hD4⟩ := hpl
      have hvs : vs = as.map Value.ref := by
        have := vs_eq hlen4 hP4
        rw [this, has]; rfl
      rw [hvs, List.filter_eq_self.mpr (fun _ _ => rfl)] at hPair
      obtain ⟨as', rr, e1, e2, e3, e4⟩ := rows_of hPair
      obtain ⟨e5, e6⟩ := rows_few (by rw [has]; rfl) e4
      refine kG0 ?_
      clear kG0 hG0
      dsimp only
      refine hfin D rr h4 tk4 (fun b o e => st4 b o (st b o e)) (none_of_stays st nD4) ⟨as', c4, ?_, Paired.imp (fun a r x => ?_) e2⟩ ⟨e5, fun r hr => (e3 r hr).1, fun r hr => (e3 r hr).2, by rw [e6]; exact hz, by
        rw [e6]
        have q0 := hfull 0 (by decide)
        have q1 := hfull 1 (by decide)
        have q2 := residues_sum ns
        lia⟩
      · rw [hD4, ← e1]
      · obtain ⟨l1, c1, q1, q2⟩ := x
        exact ⟨l1, c1, q1, of_hideAll _ q2⟩
  · k_steps
end Mine
end

section
theorem Mine.rst_SQ : True ∧ True := by
  w_top off
  first | (walk1; fail "laid") | exact ⟨trivial, trivial⟩
open PySem PySem.W PyProof.Rows PySem.Calls
open MeetsSeq MeetsSeq2 MeetsSeq3 SeqRoads2 SeqAt
set_option linter.unusedVariables false
namespace Mine
/-- a tuple of a list of names and a number -/
inductive ItemAt (h : Heap) (v : Value) (x : Item) : Prop
  | mk : ∀ a T u c, (v = .ref a) →
      (h.get? a = some { cls := .type "tuple", data := .seq #[.ref T, .int x.2 u] c }) →
      (StrsAt h T x.1) → ItemAt h v x
theorem ItemAt.keeps {h h' : Heap} {v : Value} {x : Item} (i : ItemAt h v x) (k : ∀ a o, h.get? a = some o → (∃ c d sl, o = { cls := c, dict := none, data := .seq d sl }) → h'.get? a = some o) : ItemAt h' v x := by
  obtain ⟨a, T, u, c, e1, e2, e3⟩ := i
  exact ⟨a, T, u, c, e1, k _ _ e2 ⟨_, _, _, rfl⟩, e3.keeps fun o e => by
    obtain ⟨l, c', _, ho⟩ := e3
    rw [ho] at e; cases e
    exact k _ _ ho ⟨_, _, _, rfl⟩⟩
theorem ItemAt.but {h h' : Heap} {v : Value} {x : Item} {L : Addr} {m : Str → Option Value} (i : ItemAt h v x) (n : h.Ns L m) (kb : KeepBut L h h') : ItemAt h' v x := by
  obtain ⟨a, T, u, c, e1, e2, e3⟩ := i
  refine ⟨a, T, u, c, e1, kb _ _ ?_ e2, e3.kb n kb⟩
  rintro rfl
  obtain ⟨o, _, _, e, d, _⟩ := n
  rw [e2] at e; cases e
  simp at d
theorem ItemAt.stays {h h' : Heap} {v : Value} {x : Item} (i : ItemAt h v x) (st : h.StaysIn h') : ItemAt h' v x := i.keeps fun a o e _ => st a o e
section
variable {prog : Program} {w : World} {A : Around} {E : Value → Shared → Prop} {s : Shared} {base : Heap} {L : Addr} {m : Str → Option Value} {news : List (Addr × Obj)}
theorem items_tups {h : Heap} : ∀ {vs : List Value} {its : List Item}, Paired (ItemAt h) vs its → ∃ fs : List Value, KatTups h vs fs ∧ fs.length = vs.length ∧ ∀ v ∈ fs, ∃ T ll c, v = .ref T ∧ h.get? T = some (lstO (strValues ll).toArray c)
  | [], [], .nil => ⟨[], .nil, rfl, fun _ h => nomatch h⟩
  | _ :: _, _ :: _, .cons x r => by
    obtain ⟨fs, h1, h2, h3⟩ := items_tups r
    obtain ⟨a, T, u, c, rfl, ho, ll, cl, e1, e2⟩ := x
    refine ⟨.ref T :: fs, KatTups.cons ho rfl rfl rfl h1, by simp [h2], fun v hv => ?_⟩
    rcases List.mem_cons.mp hv with rfl | hv
    · exact ⟨T, ll, cl, rfl, e2⟩
    · exact h3 v hv
theorem item_lt {v v' : Value} {x y : Item} {Q : Bool → Shared → Prop} (hx : ItemAt s.heap v x) (hy : ItemAt s.heap v' y) (hu : A.units < cLine) (h : Q (pairLt x y) s) : wpAny (model prog w) A (keyLt' (tuples' true) v v') Q E s := by
  obtain ⟨N, k⟩ := x
  obtain ⟨M, j⟩ := y
  obtain ⟨a, T, u, c, rfl, ho, hT⟩ := hx
  obtain ⟨b, T', u', c', rfl, ho', hT'⟩ := hy
  refine kat_lt ho rfl ho' rfl ?_
  refine kat_cons (p := .ref T) (q := .ref T') (StrsAt.eq hT hT' hu prog w _ _ ?_)
  by_cases e : N = M
  · rw [show decide ((N, k).1 = (M, j).1) = true from decide_eq_true e]
    refine kat_yes (kat_cons (p := .int k u) (q := .int j u') (EqAt.int _ _ _ _ prog w _ _ ?_))
    by_cases e2 : k = j
    · rw [decide_eq_true e2]
      refine kat_yes (kat_nil ?_)
      have : pairLt (N, k) (M, j) = false := by rw [e, e2]; exact tot_pair.irr _
      rw [this] at h
      exact h
    · rw [decide_eq_false e2]
      refine kat_no (kat_one _ _ ?_)
      have : pairLt (N, k) (M, j) = decide (k < j) := by unfold pairLt; rw [prodLt_eq (by exact e)]; rfl
      rw [this] at h
      exact lt_int h
  · rw [show decide ((N, k).1 = (M, j).1) = false from decide_eq_false e]
    refine kat_no ?_
    have : pairLt (N, k) (M, j) = namesLt N M := by unfold pairLt; rw [prodLt_ne (by exact e)]
    rw [this] at h
    exact oneLt_strs hT hT' hu h
theorem paired_getD {R : Value → Item → Prop} {vs : List Value} {its : List Item} (p : Paired R vs its) {d : Item} {i : Nat} (hi : i < its.length) : R (vs.getD i .none) (its.getD i d) := by
  have e := Paired.len p
  have := Paired.at2 p i (by lia) hi
  simpa [List.getD, hi, show i < vs.length by lia] using this
/-- the sorted list of the pairs -/
theorem sorted_items {R : Value → Item → Prop} {Q : Value → Shared → Prop} {l : Addr} {vs : List Value} {its : List Item} (hR : Rm A 5) (F : Fr base L s.heap m) (N : News base L s.heap news) (hfull : ∀ p ∈ fullOf base L s.heap, p ∈ news)
   (hl : s.heap.IsList l vs.toArray) (h2 : 2 ≤ vs.length) (h64 : vs.length < 64) (hp : Paired (ItemAt s.heap) vs its) (hq : Paired R vs its)
   (h : ∀ D h' tk vs' its' c', Fr base L h' m → News base L h' ((D, lstO vs'.toArray c') :: news) → KeepBut L s.heap h' → Paired R vs' its' → its'.Perm its → Sorted its' → (∀ p ∈ news, p.1 < D) → Q (.ref D) { s with heap := h', toks := tk }) :
   wpAny (model prog w) A (call (.builtin "sorted") [.ref l]) Q E s := by
  have hR2 : Rm A.in1.in1 3 := Rm.in1 (Rm.in1 hR)
  have hlen : vs.length = its.length := Paired.len hp
  have hn : 0 < its.length := by lia
  obtain ⟨d, hd⟩ : ∃ d, d ∈ its := ⟨its[0], List.getElem_mem hn⟩
  refine kat_sorted F N hl h2 h64 ?_
  intro D e1 h' F1 N1 hnD
  have kb1 : KeepBut L s.heap h' := keep_of F.keep F1 N1 fun p hp => .tail _ (hfull p hp)
  have hp1 : Paired (ItemAt h') vs its := Paired.imp (fun v x i => i.but F.ns kb1) hp
  obtain ⟨fs, t1, t2, t3⟩ := items_tups hp1
  refine kat_kind (T := .type "list") t1 (by lia) (fun v hv => ?_) (by decide) ?_
  · obtain ⟨T', ll, c, rfl, ho⟩ := t3 v hv
    exact (show Looks _ _ (typeOf (.ref T')) (lstO (strValues ll).toArray c).cls from (Looks.ld ho).andThen .now)
  rw [show (Value.type "list" != Value.type "tuple") = true by decide, hlen]
  refine sort_at (blt := fun i j => pairLt (its.getD i d) (its.getD j d)) hn (tot_pair.weak.by fun i => its.getD i d) (fun i j C hi hj hC => ?_) ?_
  · exact item_lt (paired_getD hp1 hi) (paired_getD hp1 hj) (Rm.unit hR2) hC
  · intro p hp2 hup
    refine KasFin.intro F1 N1 (UpdF.head ?_) ?_
    · intro q hq
      exact Nat.ne_of_lt (hnD q hq)
    intro h4 c4 F4 N4
    have kb4 : KeepBut L s.heap h4 := keep_of F.keep F4 N4 fun p hp => .tail _ (hfull p hp)
    refine h D h4 s.toks (p.toList.map fun i => vs.getD i .none) (p.toList.map fun i => its.getD i d) c4 F4 N4 kb4 ?_ (sorted_perm hp2) (sorted_up hp2 (fun i j hi hj => rfl) hup) hnD
    have hin : ∀ i ∈ p.toList, i < its.length := by
      intro i hi
      have h2 : p.toList.Perm (List.range its.length) := by simpa using Array.perm_iff_toList_perm.mp hp2
      simpa using h2.mem_iff.mp hi
    generalize p.toList = q at hin
    induction q with
    | nil => exact .nil
    | cons i q ih => exact .cons (paired_getD hq (hin i (.head _))) (ih fun i hi => hin i (.tail _ hi))
end
end Mine
end

section
theorem Mine.rst_LG : True ∧ True := by
  w_top off
  first | (walk1; fail "laid") | exact ⟨trivial, trivial⟩
open PySem PySem.W PyProof.Rows PySem.Calls
set_option linter.unusedVariables false
namespace Mine
theorem with2 {G : Prop} {h₀ h : Heap} {L : Addr} {x1 x2 : Addr} {o1 o2 : Obj} (N : News h₀ L h [(x1, o1), (x2, o2)]) (k : ∀ g y1 y2, g = h → y1 = x1 → y2 = x2 → G) : G := k _ _ _ rfl rfl rfl
inductive SeqO (o : Obj) : Prop
  | mk : ∀ c d n, (o = { cls := c, dict := none, data := .seq d n }) → SeqO o
theorem SeqO.lst (d : Array Value) (n : Nat) : SeqO (lstO d n) := ⟨_, _, _, rfl⟩
theorem SeqO.ne_ns {h : Heap} {L : Addr} {m : Str → Option Value} {o : Obj} (x : SeqO o) (n : h.Ns L m) (e : h.get? L = some o) : False := by
  obtain ⟨c, d, k, rfl⟩ := x
  obtain ⟨o', _, _, e', d', _⟩ := n
  rw [e] at e'; cases e'
  simp at d'
theorem withN1 {G : Prop} {h₀ h : Heap} {L : Addr} {x1 : Addr} {o1 : Obj} {r : List (Addr × Obj)} (N : News h₀ L h ((x1, o1) :: r)) (k : ∀ g y1, g = h → y1 = x1 → G) : G := k _ _ rfl rfl
theorem withN2 {G : Prop} {h₀ h : Heap} {L : Addr} {x1 x2 : Addr} {o1 o2 : Obj} {r : List (Addr × Obj)} (N : News h₀ L h ((x1, o1) :: (x2, o2) :: r)) (k : ∀ g y1 y2, g = h → y1 = x1 → y2 = x2 → G) : G := k _ _ _ rfl rfl rfl
theorem withN3 {G : Prop} {h₀ h : Heap} {L : Addr} {x1 x2 x3 : Addr} {o1 o2 o3 : Obj} {r : List (Addr × Obj)} (N : News h₀ L h ((x1, o1) :: (x2, o2) :: (x3, o3) :: r)) (k : ∀ g y1 y2 y3, g = h → y1 = x1 → y2 = x2 → y3 = x3 → G) : G := k _ _ _ _ rfl rfl rfl rfl
theorem TripAt.hid {h h' : Heap} {hide : List Addr} {v : Value} {x : Trip} (i : TripAt (hideAll h hide) v x) (k : ∀ a o, a ∉ hide → h.get? a = some o → SeqO o → h'.get? a = some o) : TripAt (hideAll h' hide) v x := by
  obtain ⟨a, c, t1, t2, t3, e1, e2⟩ := i
  have := hideAll_mem e2
  exact ⟨a, c, t1, t2, t3, e1, hideAll_get _ (k _ _ this.2 this.1 ⟨_, _, _, rfl⟩) this.2⟩
noncomputable def namesOf (rr : List (List Str)) : List (List Names) := rr.map (·.map piecesF)
theorem tag_take {rs : List (List Names)} {r : List Names} : ∀ {i : Nat} (k : Int), rs[i]? = some r → tagF k (rs.take (i + 1)) = tagF k (rs.take i) ++ r.map fun N => (N, k + (i : Int)) := by
  induction rs with
  | nil => intro i k h; simp at h
  | cons q rs ih =>
    intro i k h
    cases i with
    | zero =>
      simp at h; subst h
      simp [tagF]
    | succ i =>
      have := ih (i := i) (k + 1) (by simpa using h)
      have e : k + ((i + 1 : Nat) : Int) = k + 1 + (i : Int) := by push_cast; lia
      rw [e]
      show q.map _ ++ tagF (k + 1) (rs.take (i + 1)) = (q.map _ ++ tagF (k + 1) (rs.take i)) ++ _
      rw [this, List.append_assoc]
theorem StrsAt.hid {h h' : Heap} {hide : List Addr} {T : Addr} {xs : List Str} (x : StrsAt (hideAll h hide) T xs) (k : ∀ a o, a ∉ hide → h.get? a = some o → SeqO o → h'.get? a = some o) : StrsAt (hideAll h' hide) T xs := by
  obtain ⟨l, c, e1, e2⟩ := x
  have := hideAll_mem e2
  exact ⟨l, c, e1, hideAll_get _ (k _ _ this.2 this.1 (SeqO.lst _ _)) this.2⟩
theorem ItemAt.hid {h h' : Heap} {hide : List Addr} {v : Value} {x : Item} (i : ItemAt (hideAll h hide) v x) (k : ∀ a o, a ∉ hide → h.get? a = some o → SeqO o → h'.get? a = some o) : ItemAt (hideAll h' hide) v x := by
  obtain ⟨a, T, u, c, e1, e2, e3⟩ := i
  have := hideAll_mem e2
  exact ⟨a, T, u, c, e1, hideAll_get _ (k _ _ this.2 this.1 ⟨_, _, _, rfl⟩) this.2, e3.hid k⟩
theorem topF_len (b : Bool) : (topF b).length ≤ 1 := by cases b <;> decide +kernel
/-- what stands in a heap -/
noncomputable def liveOf (h : Heap) : List Addr := (List.range h.objs.size).filter fun a => (h.get? a).isSome
theorem mem_live {h : Heap} {a : Addr} : a ∈ liveOf h ↔ ∃ o, h.get? a = some o := by
  unfold liveOf
  rw [List.mem_filter, List.mem_range]
  constructor
  · rintro ⟨_, e⟩
    exact Option.isSome_iff_exists.mp e
  · rintro ⟨o, e⟩
    exact ⟨Heap.lt_size e, by rw [e]; rfl⟩
theorem not_live {h : Heap} {a : Addr} : a ∉ liveOf h ↔ h.get? a = none := by
  rw [mem_live]
  constructor
  · intro q
    cases e : h.get? a with
    | none => rfl
    | some o => exact absurd ⟨o, e⟩ q
  · rintro e ⟨o, q⟩
    rw [e] at q; cases q
theorem ItemAt.new {h : Heap} {hide : List Addr} {v : Value} {x : Item} (i : ItemAt (hideAll h hide) v x) : ItemAt (hideAll h (h.objs.size :: hide)) v x := by
  obtain ⟨a, T, u, c, e1, e2, l, cl, e3, e4⟩ := i
  have m1 := hideAll_mem e2
  have m2 := hideAll_mem e4
  exact ⟨a, T, u, c, e1, hideAll_get _ m1.1 (by simp only [List.mem_cons, not_or]; exact ⟨Nat.ne_of_lt (Heap.lt_size m1.1), m1.2⟩), l, cl, e3, hideAll_get _ m2.1 (by simp only [List.mem_cons, not_or]; exact ⟨Nat.ne_of_lt (Heap.lt_size m2.1), m2.2⟩)⟩
/-- all stays but some things -/
theorem keep_but {base h h' : Heap} {L : Addr} {m' : Str → Option Value} {news' : List (Addr × Obj)} (ex : List Addr) (st : base.StaysIn h) (F' : Fr base L h' m') (N' : News base L h' news') (sub : ∀ p ∈ fullOf base L h, p.1 ∉ ex → p ∈ news') :
    ∀ a o, a ≠ L → a ∉ ex → h.get? a = some o → h'.get? a = some o := by
  intro a o hL hex e
  cases q : base.get? a with
  | some o' =>
    have := st _ _ q
    rw [e] at this; cases this
    exact F'.keep _ _ q
  | none => exact (N' _ (sub (a, o) (mem_fullOf.mpr ⟨e, q, hL⟩) hex)).1
/-- an element of the list that _law_due sorts -/
inductive ElItem (i : Nat) (g : Heap) (v y : Value) : Prop
  | mk : ∀ x t, (v = .str x t) →
      (ItemAt g y (piecesF x, (i : Int))) → ElItem i g v y
theorem ElItem.mono (i : Nat) (g g' : Heap) (v y : Value) (st : g.StaysIn g') (h : ElItem i g v y) : ElItem i g' v y := by
  obtain ⟨x, t, e1, e2⟩ := h
  exact ⟨x, t, e1, e2.stays st⟩
theorem items_of {g g' : Heap} {i : Nat} (k : ∀ v x, ItemAt g v x → ItemAt g' v x) : ∀ {l : List (Str × Tok)} {ys : List Value}, Paired (ElItem i g) (strValues l) ys → Paired (ItemAt g') ys ((l.map (·.1)).map fun x => (piecesF x, (i : Int)))
  | [], [], .nil => .nil
  | _ :: l, _ :: ys, .cons x r => by
    obtain ⟨z, t, e1, e2⟩ := x
    cases e1
    exact .cons (k _ _ e2) (items_of k r)
theorem Paired.app {α β : Type} {R : α → β → Prop} : ∀ {l1 : List α} {l1' : List β} {l2 : List α} {l2' : List β}, Paired R l1 l1' → Paired R l2 l2' → Paired R (l1 ++ l2) (l1' ++ l2')
  | [], [], _, _, .nil, h => h
  | _ :: _, _ :: _, _, _, .cons x r, h => .cons x (Paired.app r h)
end Mine
end

section
theorem Mine.rst_S12 : True ∧ True := by
  w_top off
  first | (walk1; fail "laid") | exact ⟨trivial, trivial⟩
open PySem PySem.W PyProof.Rows PySem.Calls
set_option linter.unusedVariables false
namespace Mine
theorem fill16 : (PySem.Challenge.rw_pd0049_01.prog = PySem.Challenge.rw_pd0049_01.prog) ∧ (∀ P, Mine.hd.heap_1 P = Mine.hd.heap_1 P) := by k_fill; exact ⟨rfl, fun _ => rfl⟩
theorem mem_sum_le {r : List Str} : ∀ {rr : List (List Str)}, r ∈ rr → r.length ≤ (rr.map (·.length)).sum
  | q :: rr, h => by
    rcases List.mem_cons.mp h with rfl | h
    · simp
    · have := mem_sum_le h
      simp only [List.map_cons, List.sum_cons]
      lia
theorem take_sum_le : ∀ (l : List Nat) (i : Nat), (l.take i).sum ≤ l.sum
  | [], i => by simp
  | x :: l, 0 => by simp
  | x :: l, i + 1 => by
    have := take_sum_le l i
    simp only [List.take_succ_cons, List.sum_cons]
    lia
theorem allLt_mem {d : Nat} : ∀ {l : List (Addr × Obj)}, AllLt d l → ∀ p ∈ l, p.1 < d
  | [], _, p, h => nomatch h
  | q :: l, x, p, h => by
    rcases List.mem_cons.mp h with rfl | h
    · exact x.1
    · exact allLt_mem x.2 p h
theorem RowText.small {b : Bool} {x : Str} (h : RowText b x) : (piecesF x).length ≤ 4 ∧ ∀ p ∈ piecesF x, Good p ∧ p.length ≤ 3 := by
  obtain ⟨ps, h1, h2, h3, rfl⟩ := h
  rw [pieces_front b h1 fun p hp => (h3 p hp).1]
  refine ⟨Nat.le_trans (List.length_filter_le _ _) h2, fun p hp => ?_⟩
  obtain ⟨hp1, hp2⟩ := List.mem_filter.mp hp
  exact ⟨⟨(h3 p hp1).1, hp2⟩, (h3 p hp1).2⟩
inductive J12a (base : Heap) (L D O I : Addr) (rr : List (List Str)) (b : Bool) (t : Tok) (i : Nat) (h : Heap) : Prop
  | mk : ∀ (m : Str → Option Value) (oK : Obj) (vK : Option Value) (lo : List Value) (c : Nat), (h.Ns L m) →
      (m (Str.ofString "rows") = some (.ref D)) →
      (m (Str.ofString "top") = some (.str (topF b) t)) →
      (m (Str.ofString "order") = some (.ref O)) →
      (base.StaysIn h) →
      (h.get? (L + 1) = some oK) →
      (oK.data = .cell vK) →
      (h.get? O = some (lstO lo.toArray c)) →
      (Paired (ItemAt (hideAll h (I :: O :: liveOf base))) lo (tagF 0 ((namesOf rr).take i))) → J12a base L D O I rr b t i h
inductive J12b (base : Heap) (L DU D2 I2 : Addr) (b : Bool) (t : Tok) (its' : List Item) (vs' : List Value) (c' : Nat) (i : Nat) (h : Heap) : Prop
  | mk : ∀ (m : Str → Option Value) (oK : Obj) (vK : Option Value) (ld : List Value) (c : Nat) (AH : Addr) (P : Names) (dn : List Trip), (h.Ns L m) →
      (m (Str.ofString "top") = some (.str (topF b) t)) →
      (m (Str.ofString "due") = some (.ref DU)) →
      (m (Str.ofString "ahead") = some (.ref AH)) →
      (base.StaysIn h) →
      (h.get? (L + 1) = some oK) →
      (oK.data = .cell vK) →
      (h.get? DU = some (lstO ld.toArray c)) →
      (Paired (TripAt (hideAll h (I2 :: DU :: liveOf base))) ld dn) →
      (dueF b [] its' = dn ++ dueF b P (its'.drop i)) →
      (StrsAt (hideAll h (I2 :: DU :: liveOf base)) AH P) →
      (P.length ≤ 4) →
      (h.get? D2 = some (lstO vs'.toArray c')) →
      (Paired (ItemAt (hideAll h (I2 :: DU :: liveOf base))) vs' its') →
      (ld.length ≤ i) → J12b base L DU D2 I2 b t its' vs' c' i h
inductive R12 (L T' DU : Addr) (b : Bool) (t : Tok) (P N' : Names) (HW : Heap) (hh : Heap) : Prop
  | mk : ∀ (m' : Str → Option Value) (ts : Tok), (hh.Ns L m') →
      (m' (Str.ofString "names") = some (.ref T')) →
      (m' (Str.ofString "top") = some (.str (topF b) t)) →
      (m' (Str.ofString "due") = some (.ref DU)) →
      (m' (Str.ofString "shared") = some (.int ((lcpF P N').length : Nat) ts)) →
      (KeepBut L HW hh) → R12 L T' DU b t P N' HW hh
inductive J12c (L T' DU AH : Addr) (b : Bool) (t : Tok) (P N' : Names) (HW : Heap) (k : Nat) (hh : Heap) : Prop
  | mk : ∀ (j : Nat) (m' : Str → Option Value) (ts : Tok), (k = N'.length - j) →
      (j ≤ N'.length) →
      (j ≤ P.length) →
      (N'.take j = P.take j) →
      (hh.Ns L m') →
      (m' (Str.ofString "names") = some (.ref T')) →
      (m' (Str.ofString "top") = some (.str (topF b) t)) →
      (m' (Str.ofString "due") = some (.ref DU)) →
      (m' (Str.ofString "ahead") = some (.ref AH)) →
      (m' (Str.ofString "shared") = some (.int (j : Int) ts)) →
      (KeepBut L HW hh) → J12c L T' DU AH b t P N' HW k hh
theorem due_spec {w : World} {A : Around} {s : Shared} {E : Value → Shared → Prop} {Q : Value → Shared → Prop} {D : Addr} {rr : List (List Str)} {b : Bool} {t : Tok}
   (G : Gl w s.heap) (hR : Rm A 9) (hD : RowsAt s.heap D rr) (hO : RowsOk b rr) (h2 : 2 ≤ (rr.map (·.length)).sum)
   (hfin : ∀ T its h' tk', s.heap.StaysIn h' → s.heap.get? T = none → its.Perm (tagF 0 (namesOf rr)) → Sorted its → TripsAt h' T (dueF b [] its) → Q (.ref T) { s with heap := h', toks := tk' }) :
   wpAny (model PP w) A (call (.ref 191) [.ref D, .str (topF b) t]) Q E s := by
  obtain ⟨X, mean, mg, mb, T⟩ := G
  obtain ⟨hn, dp, fr, gd, un⟩ := A
  obtain rfl : hn = none := hR.handled
  obtain ⟨ras, rc, hDo, hDp⟩ := hD
  have hr5 : ras.length = 5 := (Paired.len hDp).trans hO.five
  refine call_defC (binds := [(Str.ofString "rows", .ref D), (Str.ofString "top", .str (topF b) t)]) X T.nolimit (by k_is) (by k_is) (Rm.room hR) (BindsTo.of_eq rfl) rfl (by decide +kernel) rfl rfl rfl ?_
  intro h₁ L tk cells F N Y
  k_cells Y
  iterate 8 walk_at "one"
  rename Fr _ _ _ _ => F1
  rename News _ _ _ _ => N1
  rename Heap => H1
  refine with2 N1 ?_
  rintro g0 O c9 - rfl e9
  clear e9 c9
  have hoO := (N1 (O, _) (.head _))
  have hoKn := (N1 (L + 1, _) (.tail _ (.head _))).2
  have hneO : O ≠ L + 1 := Nat.ne_of_gt (by assumption)
  have aL := F1.above
  have hlt : ∀ {p : Addr} {o : Obj}, H1.get? p = some o → p ≠ H1.objs.size := fun e => Nat.ne_of_lt (Heap.lt_size e)
  refine for_rangeIn rfl (fun _ => rfl) ?_
  iterate 10 walk_at "one"
  refine len_at (F1.keep _ _ hDo) (by rw [List.length_map, hr5]; decide) ?_
  intro t3 tk3
  have e5 : (((ras.map Value.ref).length : Nat) : Int) = 5 := by rw [List.length_map, hr5]; rfl
  rw [e5]
  iterate 2 walk_at "one"
  rename IsRange _ _ _ _ _ _ _ _ => RG
  rename Fr _ _ _ _ => F2
  rename News _ _ _ _ => N2
  rename Heap => H2
  obtain ⟨I, hI⟩ : ∃ I, I = H2.objs.size := ⟨_, rfl⟩
  have hlt2 : ∀ {p : Addr} {o : Obj}, H2.get? p = some o → p ≠ I := fun e => by rw [hI]; exact Nat.ne_of_lt (Heap.lt_size e)
  have hoO2 : H2.get? O = some (lstO #[] 0) := (N2 (O, _) (.head _)).1
  obtain ⟨oK, hoK2, vK0, dK⟩ : ∃ o, H2.get? (L + 1) = some o ∧ ∃ v, o.data = .cell v := ⟨_, (N2 (L + 1, _) (.tail _ (.head _))).1, _, by assumption⟩
  have hLI : L < I := by rw [hI]; exact F2.ns.lt
  have nI0 : s.heap.get? I = none := Heap.get?_none_of_le (Nat.le_trans aL (Nat.le_of_lt hLI))
  refine ⟨_, 5, _, _, _, (J12a s.heap L D O I rr b t), rfl, by decide, RG, ?_, ?_, ?_, ?_⟩
  · show ∀ (i : Nat) (h h' : Heap), _ → KeepBut H2.objs.size h h' → _
    rw [← hI]
    rintro i h h' ⟨m, oK, vK, lo, c, hn, q1, q2, q3, st, g1, d1, g2, g3⟩ kb
    exact ⟨m, oK, vK, lo, c, hn.at' fun o e => kb _ _ (Nat.ne_of_lt hLI) e, q1, q2, q3, fun p o e => kb _ _ (fun q => by rw [q, nI0] at e; cases e) (st _ _ e), kb _ _ (hlt2 hoK2) g1, d1, kb _ _ (hlt2 hoO2) g2,
      Paired.imp (fun v x it => it.hid fun a o ha e _ => kb a o (fun q => ha (by simp [q])) e) g3⟩
  · exact ⟨_, oK, vK0, [], 0, F2.ns, rfl, rfl, rfl, F2.keep, hoK2, dK, hoO2, .nil⟩
  · show ∀ (RW : Shared → Prop) (i : Nat), (∀ (h' : Heap) (tk' : Nat), _ → IsRangeIter h' H2.objs.size _ _ _ → _) → ∀ (t' : Tok) (h : Heap) (tk : Nat), i < 5 → _ → IsRangeIter h H2.objs.size _ _ _ → _
    rw [← hI]
    rintro RW i hRW t' h tk hi ⟨m, oK, vK, lo, c, hn, q1, q2, q3, st, g1, d1, g2, g3⟩ hit
    obtain ⟨fz, hfz⟩ : ∃ fz, fz = (fullOf s.heap L h).filter fun p => decide (p.1 ∉ [O, L + 1]) := ⟨_, rfl⟩
    have FT : Fr s.heap L h m := ⟨hn, st, aL⟩
    rw [pin4 q1 q2 q3 q1] at FT
    have NT : News s.heap L h ((L + 1, oK) :: (O, lstO lo.toArray c) :: fz) := by
      intro p hp
      rcases List.mem_cons.mp hp with rfl | hp
      · exact ⟨g1, hoKn⟩
      rcases List.mem_cons.mp hp with rfl | hp
      · exact ⟨g2, hoO.2⟩
      rw [hfz] at hp
      exact News.full p (List.mem_filter.mp hp).1
    have hfzn : ∀ p ∈ fz, p.1 ≠ O ∧ p.1 ≠ L + 1 := by
      intro p hp
      rw [hfz] at hp
      simpa using (List.mem_filter.mp hp).2
    have hney : ∀ p ∈ ((O, lstO lo.toArray c) :: fz), p.1 ≠ L + 1 := by
      intro p hp
      rcases List.mem_cons.mp hp with rfl | hp
      · exact hneO
      exact (hfzn p hp).2
    iterate 1 walk_at "one"
    rename Fr _ _ _ _ => FA
    rename News _ _ _ _ => NA
    refine store_cell FA NA hney d1 rfl rfl rfl ?_
    intro h2 oK2 F3 N3 d2
    clear FA NA
    iterate 8 walk_at "one"
    refine comp_eval (cl := _) rfl (by decide) rfl (by decide) rfl (fun _ => rfl) ?_
    iterate 3 walk_at "one"
    have hi5 : i < ras.length := by rw [hr5]; exact hi
    have hir : i < rr.length := by rw [hO.five]; exact hi
    have hra : StrsAt s.heap ras[i] rr[i] := Paired.at2 hDp i hi5 hir
    obtain ⟨lr, cr, elr, hra2⟩ := id hra
    refine item_at (l := ras.map Value.ref) (F3.keep _ _ hDo) (by lia) (by rw [List.getElem?_map, List.getElem?_eq_getElem hi5]; rfl) ?_
    have hrlen : rr[i].length ≤ 20 := Nat.le_trans (mem_sum_le (List.getElem_mem hir)) hO.few
    have hlr : lr.length = rr[i].length := by rw [← elr, List.length_map]
    obtain ⟨oI, hoI⟩ : ∃ o, h2.get? I = some o := ⟨_, (N3 (I, _) (.tail _ (.tail _ (by rw [hfz]; exact List.mem_filter.mpr ⟨mem_fullOf.mpr ⟨hit, nI0, Nat.ne_of_gt hLI⟩, by simp [Ne.symm (hlt2 hoO2), Ne.symm (hlt2 hoK2)]⟩)))).1⟩
    have hcK : h2.IsCell (L + 1) (some (.int (i : Int) t')) := ⟨oK2, (N3 (L + 1, _) (.head _)).1, d2⟩
    have hoO3 : h2.get? O = some (lstO lo.toArray c) := (N3 (O, _) (.tail _ (.head _))).1
    have hra3 := F3.keep _ _ hra2
    refine ⟨(strValues lr).toArray.size, fun j v => (strValues lr).toArray[j]? = some v, fun _ => true, ElItem i, I :: O :: liveOf s.heap, Src.list rfl ⟨_, hra3, rfl, _, rfl⟩, ?_, ElItem.mono i, ?_, ?_⟩
    · rw [strValues_size, elr]; unfold sizeLine; lia
    · intro C D' I' nC nD nI hC hCD hCI hDI
      have X3 := X.keeps F3.keep
      have T3 := T.keeps F3.keep
      have st3 := F3.keep
      clear F3 N3
      refine ⟨?_, ?_⟩
      · intro j v h₃ tk m₃ E' hP st hns hm _ _
        exact tests_nil ⟨rfl, h₃, tk, m₃, rfl, fun _ _ _ e => e, hns, hm⟩
      · intro j v h₃ tk m₃ E' hP hv st hns hm hDD hII
        obtain ⟨x, u, rfl, hx⟩ := strValues_get hP
        have hxt : RowText b x := hO.texts rr[i] (List.getElem_mem hir) x (elr ▸ hx)
        obtain ⟨fy, hfy⟩ : ∃ fy, fy = fullOf h2 C h₃ := ⟨_, rfl⟩
        have F4 : Fr h2 C h₃ m₃ := ⟨hns, st, hC⟩
        have N4 : News h2 C h₃ fy := hfy ▸ News.full
        iterate 9 walk_at "one"
        refine ⟨X3.keeps st, pieces_spec ⟨X3.keeps st, _, _, _, T3.keeps st⟩ (by walk_at "room") (Nat.le_trans (RowText.len hxt) (by decide)) ?_⟩
        intro T' h5 tk5 st5 nT hT5
        rename Fr _ _ _ _ => F5
        rename News _ _ _ _ => N5
        obtain ⟨lT, cT, eT, hTo⟩ := hT5
        have F6 := Fr.stays F5 st5
        have N6 := News.put F5 nT hTo (News.stays N5 st5)
        clear F5 N5
        iterate 1 walk_at "one"
        refine name_cellB (by kernel_rfl) rfl rfl F6 hcK (by decide) ?_
        iterate 2 walk_at "one"
        rename Fr _ _ _ _ => F7
        rename News _ _ _ _ => N7
        have hnot : ∀ d, h2.get? d = none → d ≠ C → (∀ p ∈ fy, p.1 ≠ d) → d ∉ C :: D' :: I' :: I :: O :: liveOf s.heap := by
          intro d hd1 hd2 hd3 hm
          have hold : ∀ z, (∃ o, h₃.get? z = some o) → d = z → False := by
            rintro z ⟨o, ho⟩ rfl
            exact hd3 (d, o) (hfy ▸ mem_fullOf.mpr ⟨ho, hd1, hd2⟩) rfl
          simp only [List.mem_cons] at hm
          rcases hm with q | q | q | q | q | q
          · exact hd2 q
          · exact hold _ hDD q
          · exact hold _ hII q
          · rw [q, hoI] at hd1; cases hd1
          · rw [q, hoO3] at hd1; cases hd1
          · obtain ⟨o, ho⟩ := mem_live.mp q
            rw [st3 _ _ ho] at hd1; cases hd1
        refine EltEnd.of st F7 N7 (fun p hp => .tail _ (.tail _ (hfy ▸ hp))) ⟨x, u, rfl, _, T', _, _, rfl, hideAll_get _ (N7 _ (.head _)).1 ?_, lT, cT, eT, hideAll_get _ (N7 _ (.tail _ (.head _))).1 ?_⟩
        · refine hnot _ (N7 _ (.head _)).2.2 (N7 _ (.head _)).2.1 fun p hp => Nat.ne_of_lt ?_
          exact allLt_mem (by assumption : _ < _ ∧ AllLt _ fy).2 p hp
        · refine hnot _ (N7 _ (.tail _ (.head _))).2.2 (N7 _ (.tail _ (.head _))).2.1 fun p hp q => ?_
          have e := (mem_fullOf.mp (show (p.1, p.2) ∈ fullOf h2 C h₃ from hfy ▸ hp)).1
          rw [q] at e
          have nT' : h₃.get? T' = none := nT
          rw [nT'] at e; cases e
    · intro D4 h4 tk4 ys vs st4 nD4 hpl hlen4 hP4 hPair
      obtain ⟨c4, hD4⟩ := hpl
      have hvs : vs = strValues lr := by have := vs_eq hlen4 hP4; simpa using this
      rw [hvs, List.filter_eq_self.mpr (fun _ _ => rfl)] at hPair
      have F5 := Fr.stays F3 st4
      have N5 := News.put F3 nD4 hD4 (News.stays N3 st4)
      clear F3 N3
      dsimp only
      iterate 1 walk_at "one"
      have hneD4 : D4 ≠ O := fun q => by
        have nD4' : h2.get? D4 = none := nD4
        rw [q, hoO3] at nD4'; cases nD4'
      have hlo : lo.length ≤ 20 := by
        have e1 := Paired.len g3
        rw [e1, tag_len]
        have e2 : (List.map (·.length) (namesOf rr)) = rr.map (·.length) := by simp [namesOf, Function.comp_def]
        rw [List.map_take, e2]
        exact Nat.le_trans (take_sum_le _ _) hO.few
      have hys : ys.size = lr.length := by
        have := Paired.len hPair
        simpa [strValues] using this.symm
      have kb1 := keep_but [O, L + 1] st F5 N5 fun p hp hx => .tail _ (.tail _ (.tail _ (by
        rw [hfz]; exact List.mem_filter.mpr ⟨hp, decide_eq_true hx⟩)))
      obtain ⟨f5, hf5⟩ : ∃ f5, f5 = (fullOf s.heap L h4).filter fun p => decide (p.1 ∉ [O]) := ⟨_, rfl⟩
      have N5' : News s.heap L h4 ((O, lstO lo.toArray c) :: f5) := by
        intro p hp
        rcases List.mem_cons.mp hp with rfl | hp
        · exact N5 _ (.tail _ (.tail _ (.head _)))
        · rw [hf5] at hp
          exact News.full p (List.mem_filter.mp hp).1
      have hf5n : ∀ p ∈ f5, p.1 ≠ O := by
        intro p hp
        rw [hf5] at hp
        simpa using (List.mem_filter.mp hp).2
      have hK5 : (L + 1, oK2) ∈ f5 := by
        have := N5 (L + 1, oK2) (.tail _ (.head _))
        rw [hf5]; exact List.mem_filter.mpr ⟨mem_fullOf.mpr ⟨this.1, this.2.2, this.2.1⟩, by simp [Ne.symm hneO]⟩
      have st5 := F5.keep
      have n5 := F5.ns
      refine extend_in (own := []) (rest := f5) (ys := lo) (n := c) (n2 := c4) (its2 := ys) F5 N5' (fun _ h => nomatch h) hf5n hD4 ?_ (hsz := by unfold sizeLine; lia)
      intro h6 c6 F6 N6
      clear F5 N5 N5'
      have kb2 := keep_but [O] st5 F6 N6 fun p hp hx => .tail _ (by
        rw [hf5]; exact List.mem_filter.mpr ⟨hp, decide_eq_true hx⟩)
      iterate 1 walk_at "one"
      have hnI : I ∉ [O, L + 1] := by
        simp [Ne.symm (hlt2 hoO2), Ne.symm (hlt2 hoK2)]
      have hneLI : I ≠ L := Nat.ne_of_gt hLI
      have hnIO : I ∉ [O] := by simp [Ne.symm (hlt2 hoO2)]
      refine hRW h6 _ ⟨_, oK2, _, lo ++ ys.toList, c6, F6.ns, rfl, rfl, rfl, F6.keep, (N6 _ (.tail _ hK5)).1, d2, (N6 _ (.head _)).1, ?_⟩ (kb2 _ _ hneLI hnIO (kb1 _ _ hneLI hnI hit))
      have er : (namesOf rr)[i]? = some (rr[i].map piecesF) := by rw [namesOf, List.getElem?_map, List.getElem?_eq_getElem hir]; rfl
      rw [tag_take 0 er, show (0 : Int) + (i : Int) = (i : Int) from Int.zero_add _]
      refine Paired.app ?old ?new
      case old =>
        refine Paired.imp (fun v x it => it.hid ?_) g3
        intro a o ha e sq
        have haO : a ≠ O := fun q => ha (by simp [q])
        have haL : a ≠ L := fun q => by rw [q] at e; exact SeqO.ne_ns sq hn e
        refine kb2 _ _ haL (by simpa using haO) (kb1 _ _ haL ?_ e)
        have haK : a ≠ L + 1 := by
          rintro rfl
          rw [g1] at e; cases e
          obtain ⟨c0, d0, n0, rfl⟩ := sq
          simp at d1
        simp [haO, haK]
      case new =>
        have := items_of (i := i) (g' := hideAll h6 (I :: O :: liveOf s.heap)) (fun v x it => ?_) hPair
        · rw [elr] at this
          simpa [Function.comp_def] using this
        · have it2 : ItemAt (hideAll h6 (D4 :: I :: O :: liveOf s.heap)) v x := it.hid fun a o ha e sq => kb2 _ _ (fun q => by rw [q] at e; exact SeqO.ne_ns sq n5 e) (fun q => ha (by simp at q; simp [q])) e
          exact it2.stays (hide_less fun a ha => List.mem_cons_of_mem _ ha)
  · rintro h tk ⟨m, oK, vK, lo, c, hn, q1, q2, q3, st, g1, d1, g2, g3⟩
    have FT : Fr s.heap L h m := ⟨hn, st, aL⟩
    rw [pin4 q1 q2 q3 q1] at FT
    obtain ⟨fz, hfz⟩ : ∃ fz, fz = fullOf s.heap L h := ⟨_, rfl⟩
    have NT : News s.heap L h fz := hfz ▸ News.full
    iterate 23 walk_at "one"
    rename Fr _ _ _ _ => FA
    rename News _ _ _ _ => NA
    rename Heap => HA
    refine withN3 NA ?_
    rintro g0 zz AH0 DU - rfl rfl rfl
    have hDUA : HA.get? DU = some (lstO #[] 0) := (NA (DU, _) (.tail _ (.tail _ (.head _)))).1
    have hAHA : HA.get? AH0 = some (lstO (strValues []).toArray 0) := (NA (AH0, _) (.tail _ (.head _))).1
    have hDUn := (NA (DU, _) (.tail _ (.tail _ (.head _)))).2
    have kbA := keep_but [] st FA NA fun p hp _ => .tail _ (.tail _ (.tail _ (hfz ▸ hp)))
    have nA := FA.ns
    have stA := FA.keep
    have hAHn : s.heap.get? AH0 = none := (NA (AH0, _) (.tail _ (.head _))).2.2
    have hneADU : AH0 ≠ DU := Nat.ne_of_gt (by assumption : DU < AH0 ∧ AllLt AH0 fz).1
    have hDUf : ∀ a o, h.get? a = some o → a ≠ L → a ≠ DU := fun a o e hL q => by
      cases hb : s.heap.get? a with
      | some o' => rw [q, hDUn.2] at hb; cases hb
      | none => exact Nat.lt_irrefl _ (q ▸ (by assumption : ∀ p ∈ fz, p.1 < DU) (a, o) (hfz ▸ mem_fullOf.mpr ⟨e, hb, hL⟩))
    have htk : (namesOf rr).take 5 = namesOf rr := List.take_of_length_le (by rw [namesOf, List.length_map, hO.five]; exact Nat.le_refl _)
    rw [htk] at g3
    have hOA : HA.get? O = some (lstO lo.toArray c) := kbA _ _ hoO.2.1 (by simp) g2
    have pA : Paired (ItemAt (hideAll HA (DU :: liveOf s.heap))) lo (tagF 0 (namesOf rr)) := Paired.imp (fun v x it => by
      have h2 : ItemAt (hideAll h (I :: O :: DU :: liveOf s.heap)) v x := by
        obtain ⟨a, T, u, c, e1, e2, l, cl, e3, e4⟩ := it
        have m1 := hideAll_mem e2
        have m2 := hideAll_mem e4
        have n1 := hDUf _ _ m1.1 fun q => SeqO.ne_ns ⟨_, _, _, rfl⟩ hn (q ▸ m1.1)
        have n2 := hDUf _ _ m2.1 fun q => SeqO.ne_ns (SeqO.lst _ _) hn (q ▸ m2.1)
        have m1' := m1.2
        have m2' := m2.2
        simp only [List.mem_cons, not_or] at m1' m2'
        exact ⟨a, T, u, c, e1, hideAll_get _ m1.1 (by simp only [List.mem_cons, not_or]; exact ⟨m1'.1, m1'.2.1, n1, m1'.2.2⟩), l, cl, e3, hideAll_get _ m2.1 (by simp only [List.mem_cons, not_or]; exact ⟨m2'.1, m2'.2.1, n2, m2'.2.2⟩)⟩
      exact (h2.hid (h' := HA) fun a o ha e sq => kbA _ _ (fun q => by rw [q] at e; exact SeqO.ne_ns sq hn e) (by simp) e).stays (hide_less fun a ha => List.mem_cons_of_mem _ (List.mem_cons_of_mem _ ha))) g3
    have hlo : lo.length = (rr.map (·.length)).sum := by
      have e1 := Paired.len g3
      have e2 : (List.map (·.length) (namesOf rr)) = rr.map (·.length) := by simp [namesOf, Function.comp_def]
      rw [e1, tag_len, e2]
    have hfew := hO.few
    refine for_listIn rfl (fun _ => rfl) ?_
    iterate 6 walk_at "one"
    clear NA
    refine sorted_items (R := ItemAt (hideAll HA (DU :: liveOf s.heap))) (news := fullOf s.heap L HA) (by walk_at "room") FA News.full (fun p hp => hp) ⟨_, hOA, rfl, _, rfl⟩ (by lia) (by lia) (Paired.imp (fun v x it => it.stays fun a o e => of_hideAll _ e) pA) pA ?_
    intro D2 h' tk' vs' its' c' F5 N5 kb5 p5 perm5 srt5 hnD5
    obtain ⟨I2, hI2⟩ : ∃ I, I = h'.objs.size := ⟨_, rfl⟩
    have stA := FA.keep
    clear FA
    have hlt5 : ∀ {p : Addr} {o : Obj}, h'.get? p = some o → p ≠ I2 := fun e => by rw [hI2]; exact Nat.ne_of_lt (Heap.lt_size e)
    have hneL : ∀ {p : Addr} {o : Obj}, HA.get? p = some o → SeqO o → p ≠ L := fun e sq q => by rw [q] at e; exact SeqO.ne_ns sq nA e
    have hDU5 : h'.get? DU = some (lstO #[] 0) := kb5 _ _ hDUn.1 hDUA
    have hAH5 : h'.get? AH0 = some (lstO (strValues []).toArray 0) := kb5 _ _ (hneL hAHA (SeqO.lst _ _)) hAHA
    have hAHb : s.heap.get? AH0 = none := hAHn
    have hD25 := N5 (D2, _) (.head _)
    have hneD2 : D2 ≠ DU := Nat.ne_of_gt (hnD5 (DU, lstO #[] 0) (mem_fullOf.mpr ⟨hDUA, hDUn.2, hDUn.1⟩))
    have hKA : HA.get? (L + 1) = some oK := kbA _ _ (Nat.succ_ne_self L) (by simp) g1
    have hK5 : h'.get? (L + 1) = some oK := kb5 _ _ (Nat.succ_ne_self L) hKA
    have hneKD : D2 ≠ L + 1 := Nat.ne_of_gt (hnD5 (L + 1, oK) (mem_fullOf.mpr ⟨hKA, hoKn.2, hoKn.1⟩))
    have hneKDU : DU ≠ L + 1 := fun q => by rw [← q, hDUA] at hKA; cases hKA; simp at d1
    have hLI2 : L < I2 := by rw [hI2]; exact F5.ns.lt
    have nI2 : s.heap.get? I2 = none := Heap.get?_none_of_le (Nat.le_trans aL (Nat.le_of_lt hLI2))
    have p6 : Paired (ItemAt (hideAll h' (I2 :: DU :: liveOf s.heap))) vs' its' := Paired.imp (fun v x it => by
      have := (it.hid (h' := h') fun a o ha e sq => kb5 _ _ (hneL e sq) e).new
      rwa [← hI2] at this) p5
    have hsmall : ∀ x ∈ its', x.1.length ≤ 4 ∧ ∀ p ∈ x.1, p.length ≤ 3 := by
      intro x hx
      obtain ⟨j, r, e1, e2, e3⟩ := tag_mem (perm5.mem_iff.mp hx)
      unfold namesOf at e1
      rw [List.getElem?_map] at e1
      cases er : rr[j]? with
      | none => rw [er] at e1; cases e1
      | some r0 =>
        rw [er] at e1; cases e1
        obtain ⟨y, hy, e4⟩ := List.mem_map.mp e3
        rw [← e4]
        exact ⟨(hO.texts r0 (List.mem_of_getElem? er) y hy).small.1, fun p hp => ((hO.texts r0 (List.mem_of_getElem? er) y hy).small.2 p hp).2⟩
    have hnow : ∀ {p : Addr}, p ∈ liveOf s.heap → ∃ o, s.heap.get? p = some o := fun h => mem_live.mp h
    refine ⟨D2, vs'.toArray, (J12b s.heap L DU D2 I2 b t its' vs' c'), rfl, ⟨_, hD25.1, rfl, _, rfl⟩, ?_, ?_, ?_, ?_, ?_⟩
    · show ∀ (i : Nat) (h h_ : Heap), _ → KeepBut h'.objs.size h h_ → _
      rw [← hI2]
      rintro i h h' ⟨m, oK, vK, ld, c, AH, P, dn, hn, q1, q2, q3, st, r1, r2, r3, r4, r5, r6, r7, r8, r9, r10⟩ kb
      have kh : ∀ a o, a ∉ I2 :: DU :: liveOf s.heap → h.get? a = some o → SeqO o → h'.get? a = some o := fun a o ha e _ => kb a o (fun q => ha (by rw [q]; exact .head _)) e
      exact ⟨m, oK, vK, ld, c, AH, P, dn, hn.at' fun o e => kb _ _ (Nat.ne_of_lt hLI2) e, q1, q2, q3, fun p o e => kb _ _ (fun q => by rw [q, nI2] at e; cases e) (st _ _ e), kb _ _ (hlt5 hK5) r1, r2, kb _ _ (hlt5 hDU5) r3,
        Paired.imp (fun v x it => it.hid kh) r4, r5, r6.hid kh, r7, kb _ _ (hlt5 hD25.1) r8, Paired.imp (fun v x it => it.hid kh) r9, r10⟩
    · rintro i h ⟨m, oK, vK, ld, c, AH, P, dn, hn, q1, q2, q3, st, r1, r2, r3, r4, r5, r6, r7, r8, r9, r10⟩
      exact ⟨_, r8, rfl, _, rfl⟩
    · refine ⟨_, oK, vK, [], 0, AH0, [], [], F5.ns, rfl, rfl, rfl, F5.keep, hK5, d1, hDU5, .nil, rfl, ⟨[], 0, rfl, hideAll_get _ hAH5 ?_⟩, by decide, hD25.1, p6, Nat.le_refl _⟩
      simp only [List.mem_cons, not_or]
      exact ⟨hlt5 hAH5, hneADU, not_live.mpr hAHb⟩
    · show ∀ (RW : Shared → Prop) (i : Nat), (∀ (h_ : Heap) (tk_ : Nat), _ → h_.IsListIter h'.objs.size _ _ → _) → ∀ (v : Value) (h : Heap) (tk : Nat), i < vs'.toArray.size → vs'.toArray[i]? = some v → _ → h.IsListIter h'.objs.size _ _ → _
      rw [← hI2]
      rintro RW i hRW v h tk hi hv ⟨m, oK, vK, ld, c, AH, P, dn, hn, q1, q2, q3, st, r1, r2, r3, r4, r5, r6, r7, r8, r9, r10⟩ hit
      have hvl : vs'.length = its'.length := Paired.len r9
      have hi' : i < its'.length := by rw [← hvl]; simpa using hi
      have hiv : i < vs'.length := by rw [hvl]; exact hi'
      have hit2 := Paired.at2 r9 i hiv hi'
      obtain ⟨a, T', u, ca, ev, ea, lT, cT, eT, oT⟩ := hit2
      obtain rfl : v = .ref a := by
        have : v = vs'[i] := by simpa [hiv] using hv.symm
        rw [this, ev]
      obtain ⟨lA, cA, eA, oA⟩ := id r6
      have ma := hideAll_mem ea
      have mT := hideAll_mem oT
      have mA := hideAll_mem oA
      have hbn : ∀ {p : Addr}, p ∉ I2 :: DU :: liveOf s.heap → s.heap.get? p = none := fun hp => not_live.mp fun q => hp (List.mem_cons_of_mem _ (List.mem_cons_of_mem _ q))
      have hnL : ∀ {p : Addr} {o : Obj}, h.get? p = some o → SeqO o → p ≠ L := fun e sq q => by rw [q] at e; exact SeqO.ne_ns sq hn e
      have hnK : ∀ {p : Addr} {o : Obj}, h.get? p = some o → SeqO o → p ≠ L + 1 := fun e sq q => by
        rw [q, r1] at e; cases e
        obtain ⟨c0, d0, n0, rfl⟩ := sq
        simp at r2
      have hnDU : ∀ {p : Addr}, p ∉ I2 :: DU :: liveOf s.heap → p ≠ DU := fun hp q => hp (by rw [q]; exact .tail _ (.head _))
      obtain ⟨fz, hfz⟩ : ∃ fz, fz = (fullOf s.heap L h).filter fun p => decide (p.1 ∉ [DU, L + 1]) := ⟨_, rfl⟩
      have FT : Fr s.heap L h m := ⟨hn, st, aL⟩
      rw [pin4 q1 q2 q3 q1] at FT
      have NT : News s.heap L h ((L + 1, oK) :: (DU, lstO ld.toArray c) :: (a, { cls := .type "tuple", data := .seq #[.ref T', .int its'[i].2 u] ca }) :: (T', lstO (strValues lT).toArray cT) :: (AH, lstO (strValues lA).toArray cA) :: fz) := by
        intro p hp
        rcases List.mem_cons.mp hp with rfl | hp
        · exact ⟨r1, hoKn⟩
        rcases List.mem_cons.mp hp with rfl | hp
        · exact ⟨r3, hDUn⟩
        rcases List.mem_cons.mp hp with rfl | hp
        · exact ⟨ma.1, hnL ma.1 ⟨_, _, _, rfl⟩, hbn ma.2⟩
        rcases List.mem_cons.mp hp with rfl | hp
        · exact ⟨mT.1, hnL mT.1 (SeqO.lst _ _), hbn mT.2⟩
        rcases List.mem_cons.mp hp with rfl | hp
        · exact ⟨mA.1, hnL mA.1 (SeqO.lst _ _), hbn mA.2⟩
        rw [hfz] at hp
        exact News.full p (List.mem_filter.mp hp).1
      have hfzn : ∀ p ∈ fz, p.1 ≠ DU ∧ p.1 ≠ L + 1 := by
        intro p hp
        rw [hfz] at hp
        simpa using (List.mem_filter.mp hp).2
      have hney : ∀ p ∈ ((DU, lstO ld.toArray c) :: (a, ({ cls := .type "tuple", data := .seq #[.ref T', .int its'[i].2 u] ca } : Obj)) :: (T', lstO (strValues lT).toArray cT) :: (AH, lstO (strValues lA).toArray cA) :: fz), p.1 ≠ L + 1 := by
        intro p hp
        rcases List.mem_cons.mp hp with rfl | hp
        · exact hneKDU
        rcases List.mem_cons.mp hp with rfl | hp
        · exact hnK ma.1 ⟨_, _, _, rfl⟩
        rcases List.mem_cons.mp hp with rfl | hp
        · exact hnK mT.1 (SeqO.lst _ _)
        rcases List.mem_cons.mp hp with rfl | hp
        · exact hnK mA.1 (SeqO.lst _ _)
        exact (hfzn p hp).2
      clear F5 N5
      iterate 6 walk_at "one"
      rename Fr _ _ _ _ => FA
      rename News _ _ _ _ => NA
      dsimp only
      refine store_cell FA NA hney r2 rfl rfl rfl ?_
      intro h2 oK2 F3 N3 d2
      clear FA NA
      iterate 7 walk_at "one"
      rename Fr _ _ _ _ => FW
      rename News _ _ _ _ => NW
      rename Heap => HW
      have nW := FW.ns
      have stW := FW.keep
      have oTW : HW.get? T' = some (lstO (strValues lT).toArray cT) := (NW (T', _) (.tail _ (.tail _ (.tail _ (.head _))))).1
      have oAW : HW.get? AH = some (lstO (strValues lA).toArray cA) := (NW (AH, _) (.tail _ (.tail _ (.tail _ (.tail _ (.head _)))))).1
      have oKW : HW.get? (L + 1) = some oK2 := (NW (L + 1, _) (.head _)).1
      have oDUW : HW.get? DU = some (lstO ld.toArray c) := (NW (DU, _) (.tail _ (.head _))).1
      have kbW := keep_but [DU, L + 1] st FW NW fun p hp hx => .tail _ (.tail _ (.tail _ (.tail _ (.tail _ (by
        rw [hfz]; exact List.mem_filter.mpr ⟨hp, decide_eq_true hx⟩)))))
      have hTn := (NW (T', _) (.tail _ (.tail _ (.tail _ (.head _))))).2
      have hAn := (NW (AH, _) (.tail _ (.tail _ (.tail _ (.tail _ (.head _)))))).2
      obtain ⟨N', hN'⟩ : ∃ N', N' = (its'[i]).1 := ⟨_, rfl⟩
      obtain ⟨kk, hkk⟩ : ∃ kk, kk = (its'[i]).2 := ⟨_, rfl⟩
      rw [← hN'] at eT
      rw [← hkk] at d2
      have hNs : N'.length ≤ 4 ∧ ∀ p ∈ N', p.length ≤ 3 := hN' ▸ hsmall _ (List.getElem_mem hi')
      refine while_rest (R12 L T' DU b t P N' HW) ?_ ?_
      · rintro hh tkh ⟨m', ts, nh, p1, p2, p3, p4, kbh⟩
        have hDUn' : HW.get? DU = some _ ∧ _ := NW (DU, _) (.tail _ (.head _))
        clear FW NW
        have FT := KeepBut.fr' stW aL kbh nh
        rw [pin4 p1 p2 p3 p4] at FT
        have sthh := FT.keep
        obtain ⟨f2, hf2⟩ : ∃ fz, fz = (fullOf s.heap L hh).filter fun p => decide (p.1 ∉ [DU]) := ⟨_, rfl⟩
        have NT : News s.heap L hh ((DU, lstO ld.toArray c) :: (L + 1, oK2) :: (T', lstO (strValues lT).toArray cT) :: f2) := by
          intro p hp
          rcases List.mem_cons.mp hp with rfl | hp
          · exact ⟨kbh _ _ hDUn.1 oDUW, hDUn⟩
          rcases List.mem_cons.mp hp with rfl | hp
          · exact ⟨kbh _ _ (Nat.succ_ne_self L) oKW, hoKn⟩
          rcases List.mem_cons.mp hp with rfl | hp
          · exact ⟨kbh _ _ hTn.1 oTW, hTn⟩
          rw [hf2] at hp
          exact News.full p (List.mem_filter.mp hp).1
        have hf2n : ∀ p ∈ f2, p.1 ≠ DU := by
          intro p hp
          rw [hf2] at hp
          simpa using (List.mem_filter.mp hp).2
        dsimp only
        iterate 20 walk_at "one"
        have hjb : ∀ ns : Names, ns.length ≤ 4 → (∀ p ∈ ns, p.length ≤ 3) → (Txt.join slash ns).length ≤ 16 := fun ns h1 h2 => by
          have e1 := join_len_le h1 h2
          have e2 := StrLaws.join_length_le slash ns
          rw [join_eq]
          lia
        have hok1 := joinOk_of (Nat.le_trans (join_len_le hNs.1 hNs.2) (by decide))
        have htl := topF_len b
        refine SC.join ⟨_, (NT (T', _) (.tail _ (.tail _ (.head _)))).1, rfl, _, rfl⟩ eT hok1 ?_
        intro t8 k8
        refine SB.add ?_ (Nat.le_trans (Nat.add_le_add htl (hjb _ hNs.1 hNs.2)) (by decide))
        intro t9 k9
        iterate 15 walk_at "one"
        rename Fr _ _ _ _ => F4
        rename News _ _ _ _ => N4
        have oT4 := (N4 (T', _) (.tail _ (.tail _ (.head _)))).1
        refine slice_list F4 N4 ⟨_, oT4, rfl, _, rfl⟩ .none (.int _ _) ?_ (hsz := by rw [strValues_size, eT]; unfold sizeLine; lia)
        intro h5 F5 N5
        clear F4 N4
        rw [slicePick_to _ _ (by rw [strValues_size, eT, lcpF_comm]; exact lcpF_len _ _)] at N5
        have e6 : (strValues lT).toArray.toList.take (lcpF P N').length = strValues (lT.take (lcpF P N').length) := strValues_take _ _
        rw [e6] at N5
        have e7 : (lT.take (lcpF P N').length).map (·.1) = lcpF P N' := by rw [List.map_take, eT, ← lcpF_right]
        have hLs : (lcpF P N').length ≤ 4 ∧ ∀ p ∈ lcpF P N', p.length ≤ 3 := ⟨Nat.le_trans (by rw [lcpF_comm]; exact lcpF_len _ _) hNs.1, fun p hp => hNs.2 p (by rw [lcpF_comm] at hp; exact lcpF_sub hp)⟩
        have hok2 := joinOk_of (Nat.le_trans (join_len_le hLs.1 hLs.2) (by decide))
        iterate 1 walk_at "one"
        refine SC.join ⟨_, (N5 _ (.head _)).1, rfl, _, rfl⟩ e7 hok2 ?_
        intro t10 k10
        refine SB.add ?_ (Nat.le_trans (Nat.add_le_add htl (hjb _ hLs.1 hLs.2)) (by decide))
        intro t11 k11
        iterate 3 walk_at "one"
        rename Fr _ _ _ _ => F6
        rename News _ _ _ _ => N6
        rename Heap => H6
        refine withN1 N6 ?_
        rintro g0 tup - rfl
        have hord := (by assumption : _ < tup ∧ DU < tup ∧ L + 1 < tup ∧ T' < tup ∧ AllLt tup f2)
        have e8 : topF b ++ Txt.join slash N' = pathF b N' := by rw [join_eq]; rfl
        have e9 : topF b ++ Txt.join slash (lcpF P N') = pathF b (lcpF P N') := by rw [join_eq]; rfl
        have N7 : News s.heap L H6 ((DU, lstO ld.toArray c) :: (tup, { cls := .type "tuple", data := .seq #[.int kk u, .str (pathF b N') t9, .str (pathF b (lcpF P N')) t11] 0 }) :: (L + 1, oK2) :: (T', lstO (strValues lT).toArray cT) :: f2) := by
          intro p hp
          rcases List.mem_cons.mp hp with rfl | hp
          · exact N6 _ (.tail _ (.tail _ (.head _)))
          rcases List.mem_cons.mp hp with rfl | hp
          · rw [← e8, ← e9]; exact N6 _ (.head _)
          · exact N6 _ (.tail _ (.tail _ (.tail _ hp)))
        have hneq : ∀ p ∈ ((tup, ({ cls := .type "tuple", data := .seq #[.int kk u, .str (pathF b N') t9, .str (pathF b (lcpF P N')) t11] 0 } : Obj)) :: (L + 1, oK2) :: (T', lstO (strValues lT).toArray cT) :: f2), p.1 ≠ DU := by
          intro p hp
          rcases List.mem_cons.mp hp with rfl | hp
          · exact Nat.ne_of_gt hord.2.1
          rcases List.mem_cons.mp hp with rfl | hp
          · exact Ne.symm hneKDU
          rcases List.mem_cons.mp hp with rfl | hp
          · exact hnDU mT.2
          exact hf2n p hp
        have hil : i < 64 := by
          have := perm5.length_eq
          rw [tag_len] at this
          have e2 : (List.map (·.length) (namesOf rr)) = rr.map (·.length) := by simp [namesOf, Function.comp_def]
          rw [e2] at this
          lia
        refine append_N F6 N7 hneq (by simp; unfold sizeLine; lia) ?_
        intro h9 F9 N9
        clear N6 F6 N7
        k_steps
        rename Fr _ _ _ _ => FE
        rename News _ _ _ _ => NE
        rename Heap => HE
        have kb9 := keep_but [DU] sthh FE NE fun p hp hx => .tail _ (.tail _ (.tail _ (.tail _ (by rw [hf2]; exact List.mem_filter.mpr ⟨hp, decide_eq_true hx⟩))))
        have kall : ∀ a o, a ∉ I2 :: DU :: liveOf s.heap → h.get? a = some o → SeqO o → HE.get? a = some o := fun a o ha e sq =>
          kb9 _ _ (hnL e sq) (by simpa using hnDU ha) (kbh _ _ (hnL e sq) (kbW _ _ (hnL e sq) (by simp [hnDU ha, hnK e sq]) e))
        have hneI : I2 ≠ DU ∧ I2 ≠ L + 1 ∧ I2 ≠ L := ⟨Ne.symm (hlt5 hDU5), Ne.symm (hlt5 hK5), Nat.ne_of_gt hLI2⟩
        obtain ⟨oI, hoI, cI, dI⟩ := hit
        have hoIE : HE.get? I2 = some oI := kb9 _ _ hneI.2.2 (by simp [hneI.1]) (kbh _ _ hneI.2.2 (kbW _ _ hneI.2.2 (by simp [hneI.1, hneI.2.1]) hoI))
        have hotup := NE (tup, _) (.tail _ (.head _))
        have hD2n : D2 ∉ I2 :: DU :: liveOf s.heap := by
          simp only [List.mem_cons, not_or]
          exact ⟨hlt5 hD25.1, hneD2, not_live.mpr hD25.2.2⟩
        have htupn : tup ∉ I2 :: DU :: liveOf s.heap := by
          simp only [List.mem_cons, not_or]
          refine ⟨fun q => ?_, Nat.ne_of_gt hord.2.1, not_live.mpr hotup.2.2⟩
          have := hotup.1
          rw [q, hoIE] at this
          cases this
          simp at dI
        have eit : its'[i] = (N', kk) := Prod.ext hN'.symm hkk.symm
        refine hRW HE _ ⟨_, oK2, _, ld ++ [.ref tup], c + 1, T', N', dn ++ [(kk, pathF b N', pathF b (lcpF P N'))], FE.ns, rfl, rfl, rfl, FE.keep, (NE _ (.tail _ (.tail _ (.head _)))).1, d2, ?_, ?_, ?_, ?_, hNs.1, ?_, ?_, ?_⟩ ⟨oI, hoIE, cI, dI⟩
        · have := (NE _ (.head _)).1
          simpa using this
        · exact Paired.snoc (Paired.imp (fun v x it => it.hid kall) r4) ⟨tup, 0, u, t9, t11, rfl, hideAll_get _ hotup.1 htupn⟩
        · rw [r5, List.drop_eq_getElem_cons hi', eit, List.append_assoc]; rfl
        · exact ⟨lT, cT, eT, hideAll_get _ (kall _ _ mT.2 mT.1 (SeqO.lst _ _)) mT.2⟩
        · exact kall _ _ hD2n r8 (SeqO.lst _ _)
        · exact Paired.imp (fun v x it => it.hid kall) r9
        · simp; lia
      intro Q' hQ'
      refine while_rule (J12c L T' DU AH b t P N' HW) ?_ N'.length
        ⟨0, _, _, rfl, Nat.zero_le _, Nat.zero_le _, rfl, nW, rfl, rfl, rfl, rfl, rfl, fun _ _ _ e => e⟩
      rintro RW k hRW hh tkh ⟨j, m', ts, hk, hj1, hj2, hjt, nh, p1, p2, p3, p4, p5, kbh⟩
      have FT := KeepBut.fr' stW aL kbh nh
      rw [pin6 p1 p2 p3 p4 p5 p1] at FT
      obtain ⟨fzh, hfzh⟩ : ∃ fz, fz = fullOf s.heap L hh := ⟨_, rfl⟩
      have sth := FT.keep
      have NT : News s.heap L hh ((T', lstO (strValues lT).toArray cT) :: (AH, lstO (strValues lA).toArray cA) :: fzh) := by
        intro p hp
        rcases List.mem_cons.mp hp with rfl | hp
        · exact ⟨kbh _ _ hTn.1 oTW, hTn⟩
        rcases List.mem_cons.mp hp with rfl | hp
        · exact ⟨kbh _ _ hAn.1 oAW, hAn⟩
        · exact News.full p (hfzh ▸ hp)
      clear FW NW
      iterate 9 walk_at "one"
      refine len_at (l := strValues lT) (NT.get (.head _)) (by rw [strValues, List.length_map]; have := congrArg List.length eT; simp at this; lia) ?_
      intro t5 tk5
      have elT : (strValues lT).length = N'.length := by rw [← eT]; simp [strValues]
      have elA : (strValues lA).length = P.length := by rw [← eA]; simp [strValues]
      iterate 3 walk_at "one"
      · rename_i hc1
        have hjN : j < N'.length := by lia
        iterate 9 walk_at "one"
        refine len_at (l := strValues lA) (NT.get (.tail _ (.head _))) (by lia) ?_
        intro t6 tk6
        iterate 3 walk_at "one"
        · rename_i hc2
          have hjP : j < P.length := by lia
          iterate 5 walk_at "one"
          refine item_str (NT.get (.head _)) (by lia) (show (lT.map (·.1))[j]? = some N'[j] by rw [eT]; exact List.getElem?_eq_getElem hjN) ?_
          intro t7
          iterate 3 walk_at "one"
          refine item_str (NT.get (.tail _ (.head _))) (by lia) (show (lA.map (·.1))[j]? = some P[j] by rw [eA]; exact List.getElem?_eq_getElem hjP) ?_
          intro t8
          iterate 3 walk_at "one"
          · rename_i hc3
            have e3 : N'[j] = P[j] := by simpa using hc3
            iterate 1 walk_at "one"
            refine WhileTurn.yes rfl ?_
            k_steps
            rename Fr _ _ _ _ => FE
            rename News _ _ _ _ => NE
            have htk : N'.take (j + 1) = P.take (j + 1) := by
              rw [List.take_succ_eq_append_getElem hjN, List.take_succ_eq_append_getElem hjP, hjt, e3]
            refine hRW _ _ (N'.length - (j + 1)) (by lia) ⟨j + 1, _, _, rfl, hjN, hjP, htk, FE.ns, rfl, rfl, rfl, rfl, rfl, ?_⟩
            exact KeepBut.trans kbh (keep_of sth FE NE fun p hp => .tail _ (.tail _ (hfzh ▸ hp)))
          · rename_i hc3
            have e3 : N'[j] ≠ P[j] := by simpa using hc3
            refine WhileTurn.no rfl (hQ' _ _ ⟨m', ts, nh, p1, p2, p3, ?_, kbh⟩)
            have : lcpF P N' = P.take j := lcpF_brk hjt.symm (List.getElem?_eq_getElem hjP) (List.getElem?_eq_getElem hjN) (Ne.symm e3)
            rw [this, List.length_take, Nat.min_eq_left hj2]
            exact p5
        · rename_i hc2
          have ejP : j = P.length := by lia
          refine WhileTurn.no rfl (hQ' _ _ ⟨m', ts, nh, p1, p2, p3, ?_, kbh⟩)
          have : lcpF P N' = P := lcpF_all (by rw [← ejP]; rw [hjt, ejP, List.take_length])
          rw [this, ← ejP]; exact p5
      · rename_i hc1
        have ejN : j = N'.length := by lia
        refine WhileTurn.no rfl (hQ' _ _ ⟨m', ts, nh, p1, p2, p3, ?_, kbh⟩)
        have : lcpF P N' = N' := (lcpF_comm _ _).trans (lcpF_all (by rw [← ejN, ← hjt, ejN, List.take_length]))
        rw [this, ← ejN]; exact p5
    · rintro h tk ⟨m, oK, vK, ld, c, AH, P, dn, hn, q1, q2, q3, st, r1, r2, r3, r4, r5, r6, r7, r8, r9, r10⟩
      have FT : Fr s.heap L h m := ⟨hn, st, aL⟩
      rw [pin4 q1 q2 q3 q1] at FT
      clear F5 N5
      obtain ⟨fz, hfz⟩ : ∃ fz, fz = fullOf s.heap L h := ⟨_, rfl⟩
      have NT : News s.heap L h fz := hfz ▸ News.full
      dsimp only
      k_steps
      have edn : dueF b [] its' = dn := by
        rw [r5, List.drop_of_length_le (by have := Paired.len r9; simp; lia)]
        simp [dueF]
      refine hfin DU its' h tk st hDUn.2 perm5 srt5 ⟨ld, c, r3, ?_⟩
      rw [edn]
      refine Paired.imp (fun v x it => ?_) r4
      obtain ⟨a, c, t1, t2, t3, e1, e2⟩ := it
      exact ⟨a, c, t1, t2, t3, e1, of_hideAll _ e2⟩
end Mine
end

section
theorem Mine.rst_MH : True ∧ True := by
  w_top off
  first | (walk1; fail "laid") | exact ⟨trivial, trivial⟩
open PySem PySem.W PyProof.Rows PySem.Calls
set_option linter.unusedVariables false
namespace Mine
noncomputable def rowF (rs : List (List Names)) (j : Nat) : List Names := rs.getD j []
noncomputable def hdF (rs : List (List Names)) (j : Nat) : Names := (rowF rs j).headD []
/-- who waits to be asked (ag), who lies in the heap (S) -/
structure Cover (rs : List (List Names)) (ag S : List Nat) : Prop where
  nd : (ag ++ S).Nodup
  lt : ∀ j ∈ ag ++ S, j < rs.length
  all : ∀ j, rowF rs j ≠ [] → j ∈ ag ∨ j ∈ S
  ne : ∀ j ∈ S, rowF rs j ≠ []
/-- the heap's things, as f tells them -/
structure Lies (b : Bool) (f : Value → Ent) (l : List Value) (P : Names) (rs : List (List Names)) (S : List Nat) : Prop where
  heap : IsHeap (fun u v => entLt b (f u) (f v)) l
  perm : (l.map f).Perm (S.map fun j => ent P (hdF rs j) (j : Int))
theorem weak_by (b : Bool) (f : Value → Ent) : Weak fun u v => entLt b (f u) (f v) := ⟨fun u v => (weak_ent b).asym _ _, fun u v x => (weak_ent b).trans _ _ _⟩
theorem row_get {rs : List (List Names)} {j : Nat} (h : rowF rs j ≠ []) : ∃ r, rs[j]? = some (hdF rs j :: r) := by
  unfold rowF at h
  cases e : rs[j]? with
  | none => simp [List.getD, e] at h
  | some q =>
    simp [List.getD, e] at h
    cases q with
    | nil => exact absurd rfl h
    | cons N r => exact ⟨r, by simp [hdF, rowF, List.getD, e]⟩
theorem row_of {rs : List (List Names)} {j : Nat} {N : Names} {r : List Names} (h : rs[j]? = some (N :: r)) : rowF rs j = N :: r ∧ hdF rs j = N := by
  have : rowF rs j = N :: r := by simp [rowF, List.getD, h]
  exact ⟨this, by simp [hdF, this]⟩
theorem IsHeap.congr {α : Type} {lt lt' : α → α → Bool} {l : List α} (h : ∀ a ∈ l, ∀ b ∈ l, lt a b = lt' a b) (H : IsHeap lt l) : IsHeap lt' l := fun i a b h0 ha hb => by
  rw [← h a (List.mem_of_getElem? ha) b (List.mem_of_getElem? hb)]
  exact H i a b h0 ha hb
/-- a new thing goes in -/
theorem Lies.push {b : Bool} {f : Value → Ent} {l : List Value} {P : Names} {rs : List (List Names)} {S : List Nat} {x : Value} {j : Nat} (H : Lies b f l P rs S) (hx : f x = ent P (hdF rs j) (j : Int)) :
    Lies b f (pushF (fun u v => entLt b (f u) (f v)) x l) P rs (j :: S) := by
  refine ⟨push_heap (weak_by b f) H.heap, ?_⟩
  refine (push_perm.map f).trans ?_
  rw [List.map_cons, List.map_cons, hx]
  exact H.perm.cons _
theorem Lies.congr {b : Bool} {f g : Value → Ent} {l : List Value} {P : Names} {rs : List (List Names)} {S : List Nat} (H : Lies b f l P rs S) (h : ∀ v ∈ l, f v = g v) : Lies b g l P rs S := by
  refine ⟨H.heap.congr fun u hu v hv => by rw [h u hu, h v hv], ?_⟩
  rw [← List.map_congr_left h]
  exact H.perm
/-- the top goes out -/
theorem Lies.pop {b : Bool} {f : Value → Ent} {x : Value} {r : List Value} {P : Names} {rs : List (List Names)} {S : List Nat} (H : Lies b f (x :: r) P rs S) :
    ∃ k ∈ S, f x = ent P (hdF rs k) (k : Int) ∧ (∀ j ∈ S, entLt b (ent P (hdF rs j) (j : Int)) (f x) = false) ∧ Lies b f (popF (fun u v => entLt b (f u) (f v)) (x :: r)) P rs (S.erase k) := by
  have hm : f x ∈ S.map fun j => ent P (hdF rs j) (j : Int) := H.perm.mem_iff.mp (List.mem_map.mpr ⟨x, .head _, rfl⟩)
  obtain ⟨k, hk, ek⟩ := List.mem_map.mp hm
  refine ⟨k, hk, ek.symm, fun j hj => ?_, ?_⟩
  · have hm2 : ent P (hdF rs j) (j : Int) ∈ (x :: r).map f := H.perm.mem_iff.mpr (List.mem_map.mpr ⟨j, hj, rfl⟩)
    obtain ⟨v, hv, ev⟩ := List.mem_map.mp hm2
    obtain ⟨i, hi, e⟩ := List.getElem_of_mem hv
    have := heap_root (weak_by b f) H.heap (m := x) rfl i v (by rw [← e]; exact List.getElem?_eq_getElem hi)
    rw [← ev]; exact this
  · obtain ⟨h1, h2⟩ := pop_ok (weak_by b f) H.heap
    refine ⟨h1, (h2.map f).trans ?_⟩
    have h3 : (f x :: r.map f).Perm ((S.map fun j => ent P (hdF rs j) (j : Int))) := H.perm
    have h4 := h3.trans ((List.perm_cons_erase hk).map fun j => ent P (hdF rs j) (j : Int))
    rw [List.map_cons, ek] at h4
    exact h4.cons_inv
theorem Cover.take {rs : List (List Names)} {ag S : List Nat} {j : Nat} (C : Cover rs (j :: ag) S) (h : rowF rs j ≠ []) : Cover rs ag (j :: S) := by
  have p : (ag ++ j :: S).Perm (j :: ag ++ S) := List.perm_middle
  refine ⟨p.nodup_iff.mpr C.nd, fun i hi => C.lt i (p.mem_iff.mp hi), fun i hi => ?_, fun i hi => ?_⟩
  · rcases C.all i hi with h | h
    · rcases List.mem_cons.mp h with rfl | h
      · exact .inr (.head _)
      · exact .inl h
    · exact .inr (.tail _ h)
  · rcases List.mem_cons.mp hi with rfl | hi
    · exact h
    · exact C.ne i hi
theorem Cover.drop {rs : List (List Names)} {ag S : List Nat} {j : Nat} (C : Cover rs (j :: ag) S) (h : rowF rs j = []) : Cover rs ag S := by
  refine ⟨(List.nodup_cons.mp C.nd).2, fun i hi => C.lt i (.tail _ hi), fun i hi => ?_, C.ne⟩
  rcases C.all i hi with h' | h'
  · rcases List.mem_cons.mp h' with rfl | h'
    · exact absurd h hi
    · exact .inl h'
  · exact .inr h'
theorem Cover.pop {rs : List (List Names)} {ag S : List Nat} {k : Nat} (C : Cover rs ag S) (hk : k ∈ S) : Cover rs (ag ++ [k]) (S.erase k) := by
  have p : ((ag ++ [k]) ++ S.erase k).Perm (ag ++ S) := by
    rw [List.append_assoc]
    exact List.Perm.append_left _ (List.perm_cons_erase hk).symm
  refine ⟨p.nodup_iff.mpr C.nd, fun i hi => C.lt i (p.mem_iff.mp hi), fun i hi => ?_, fun i hi => C.ne i (List.mem_of_mem_erase hi)⟩
  have : i ∈ ag ++ S := List.mem_append.mpr (C.all i hi)
  rcases List.mem_append.mp (p.mem_iff.mpr this) with h | h
  · exact .inl h
  · exact .inr h
/-- a place goes on -/
theorem Cover.next {rs : List (List Names)} {ag S : List Nat} {k : Nat} {rest : List Names} (C : Cover rs ag S) (hk : k ∈ ag) : Cover (rs.set k rest) ag S := by
  have hne : ∀ j ∈ S, j ≠ k := fun j hj q => by
    have := List.nodup_append.mp C.nd
    exact this.2.2 k hk j hj q.symm
  have hrow : ∀ j, j ≠ k → rowF (rs.set k rest) j = rowF rs j := fun j hj => by
    simp [rowF, List.getD, List.getElem?_set, Ne.symm hj]
  refine ⟨C.nd, fun i hi => by rw [List.length_set]; exact C.lt i hi, fun i hi => ?_, fun i hi => by rw [hrow i (hne i hi)]; exact C.ne i hi⟩
  by_cases q : i = k
  · exact .inl (q ▸ hk)
  · rw [hrow i q] at hi
    exact C.all i hi
theorem hd_set {rs : List (List Names)} {j k : Nat} {rest : List Names} (h : j ≠ k) : hdF (rs.set k rest) j = hdF rs j := by
  simp [hdF, rowF, List.getD, List.getElem?_set, Ne.symm h]
/-- what stays is right for the next path -/
theorem Lies.next {b : Bool} {f : Value → Ent} {l : List Value} {P N : Names} {rs : List (List Names)} {S : List Nat} {k : Nat} {rest : List Names} (H : Lies b f l P rs S) (hS : ∀ j ∈ S, j ≠ k ∧ (lcpF P (hdF rs j)).length < (lcpF P N).length) :
    Lies b f l N (rs.set k rest) S := by
  refine ⟨H.heap, ?_⟩
  have e : (S.map fun j => ent N (hdF (rs.set k rest) j) (j : Int)) = S.map fun j => ent P (hdF rs j) (j : Int) := by
    refine List.map_congr_left fun j hj => ?_
    rw [hd_set (hS j hj).1]
    exact ent_keep (hS j hj).2
  rw [e]; exact H.perm
theorem rises_set {rs : List (List Names)} {k : Nat} {N : Names} {rest : List Names} (h : ∀ r ∈ rs, Rises r) (hk : rs[k]? = some (N :: rest)) : ∀ r ∈ rs.set k rest, Rises r := by
  intro r hr
  rcases List.mem_or_eq_of_mem_set hr with hr | rfl
  · exact h r hr
  · exact (List.pairwise_cons.mp (h _ (List.mem_of_getElem? hk))).2
/-- the whole turn: what goes out is the next of the sorted list -/
theorem turn_ok {b : Bool} {P : Names} {rs : List (List Names)} {srt : List Item} {S : List Nat} {k : Nat} (hr : ∀ r ∈ rs, Rises r) (hp : srt.Perm (tagF 0 rs)) (hs : Sorted srt) (hP : ∀ x ∈ srt, namesLt x.1 P = false)
    (C : Cover rs [] S) (hk : k ∈ S) (hmin : ∀ j ∈ S, entLt b (ent P (hdF rs j) (j : Int)) (ent P (hdF rs k) (k : Int)) = false) :
    ∃ rest srt', rs[k]? = some (hdF rs k :: rest) ∧ srt = (hdF rs k, (k : Int)) :: srt' ∧ srt'.Perm (tagF 0 (rs.set k rest)) ∧ Sorted srt' ∧ ∀ x ∈ srt', namesLt x.1 (hdF rs k) = false := by
  obtain ⟨rest, hrest⟩ := row_get (C.ne k hk)
  obtain ⟨srt', h1, h2, h3, h4⟩ := step_ok (b := b) hr hp hs hP hrest fun j M r hj => by
    obtain ⟨e1, e2⟩ := row_of hj
    have hjS : j ∈ S := (C.all j (by rw [e1]; simp)).resolve_left fun h => nomatch h
    have := hmin j hjS
    rwa [e2] at this
  exact ⟨rest, srt', hrest, h1, h2, h3, h4⟩
theorem cover_empty {rs : List (List Names)} (C : Cover rs [] []) : ∀ r ∈ rs, r = [] := by
  intro r hr
  obtain ⟨j, hj, e⟩ := List.getElem_of_mem hr
  cases q : r with
  | nil => rfl
  | cons N q' =>
    have : rowF rs j ≠ [] := by simp [rowF, List.getD, hj, e, q]
    rcases C.all j this with h | h <;> exact nomatch h
end Mine
end

section
theorem Mine.rst_EN : True ∧ True := by
  w_top off
  first | (walk1; fail "laid") | exact ⟨trivial, trivial⟩
open PySem PySem.W PyProof.Rows PySem.Calls
open MeetsSeq MeetsSeq2 MeetsSeq3 SeqRoads2 SeqAt
set_option linter.unusedVariables false
namespace Mine
/-- a thing of the heap -/
inductive EntAt (b : Bool) (h : Heap) (v : Value) (e : Ent) : Prop
  | mk : ∀ a T t1 t2 t3 c, (v = .ref a) →
      (h.get? a = some { cls := .type "tuple", data := .seq #[.int e.neg t1, .ref T, .int e.j t2, .str (pathF b e.both) t3] c }) →
      (StrsAt h T e.rest) → EntAt b h v e
theorem EntAt.hid {b : Bool} {h h' : Heap} {hide : List Addr} {v : Value} {x : Ent} (i : EntAt b (hideAll h hide) v x) (k : ∀ a o, a ∉ hide → h.get? a = some o → SeqO o → h'.get? a = some o) : EntAt b (hideAll h' hide) v x := by
  obtain ⟨a, T, t1, t2, t3, c, e1, e2, e3⟩ := i
  have := hideAll_mem e2
  exact ⟨a, T, t1, t2, t3, c, e1, hideAll_get _ (k _ _ this.2 this.1 ⟨_, _, _, rfl⟩) this.2, e3.hid k⟩
theorem EntAt.stays {b : Bool} {h h' : Heap} {v : Value} {x : Ent} (i : EntAt b h v x) (st : h.StaysIn h') : EntAt b h' v x := by
  obtain ⟨a, T, t1, t2, t3, c, e1, e2, e3⟩ := i
  exact ⟨a, T, t1, t2, t3, c, e1, st _ _ e2, e3.keeps fun o e => st _ _ e⟩
theorem EntAt.shown {b : Bool} {h : Heap} {hide : List Addr} {v : Value} {x : Ent} (i : EntAt b (hideAll h hide) v x) : EntAt b h v x := i.stays fun a o e => of_hideAll _ e
abbrev Key := Int ⊕ (Names ⊕ Str)
noncomputable def keyLt : Key → Key → Bool
  | .inl a, .inl b => decide (a < b)
  | .inr (.inl a), .inr (.inl b) => namesLt a b
  | .inr (.inr a), .inr (.inr b) => strLt a b
  | _, _ => false
noncomputable def keysOf (b : Bool) (e : Ent) : List Key := [.inl e.neg, .inr (.inl e.rest), .inl e.j, .inr (.inr (pathF b e.both))]
theorem keys_lt (b : Bool) (x y : Ent) : lexLt keyLt (keysOf b x) (keysOf b y) = entLt b x y := by
  unfold keysOf entLt prodLt entKey
  simp only [lexLt, Sum.inl.injEq, Sum.inr.injEq, keyLt]
  by_cases h1 : x.neg = y.neg
  · rw [if_pos h1, if_pos h1]
    by_cases h2 : x.rest = y.rest
    · rw [if_pos h2, if_pos h2]
      by_cases h3 : x.j = y.j
      · rw [if_pos h3, if_pos h3]
        by_cases h4 : pathF b x.both = pathF b y.both
        · rw [if_pos h4, h4]; exact (tot_str.irr _).symm
        · rw [if_neg h4]
      · rw [if_neg h3, if_neg h3]; rfl
    · rw [if_neg h2, if_neg h2]
  · rw [if_neg h1, if_neg h1]; rfl
theorem ent_lt {b : Bool} {A : Around} {s : Shared} {u v : Value} {x y : Ent} (hx : EntAt b s.heap u x) (hy : EntAt b s.heap v y) (hu : A.units + 4 < cLine) : LtAt A s u v (entLt b x y) := by
  obtain ⟨a, T, t1, t2, t3, c, rfl, e2, e3⟩ := hx
  obtain ⟨a', T', u1, u2, u3, c', rfl, f2, f3⟩ := hy
  rw [← keys_lt]
  have hu1 : A.in1.units < cLine := by show A.units + 1 < cLine; lia
  refine LtAt.tuples e2 f2 rfl rfl (by lia) ?_ ?_
  · intro j h1 h2
    have hj : j = 0 ∨ j = 1 ∨ j = 2 ∨ j = 3 := by simp at h1; lia
    rcases hj with rfl | rfl | rfl | rfl
    · have := EqAt.int (A := A.in1) (s := s) x.neg y.neg t1 u1
      simpa [keysOf] using this
    · have := StrsAt.eq (A := A.in1) (s := s) e3 f3 hu1
      simpa [keysOf] using this
    · have := EqAt.int (A := A.in1) (s := s) x.j y.j t2 u2
      simpa [keysOf] using this
    · have := EqAt.str (A := A.in1) (s := s) (pathF b x.both) (pathF b y.both) t3 u3
      simpa [keysOf] using this
  · intro j h1 h2
    have hj : j = 0 ∨ j = 1 ∨ j = 2 ∨ j = 3 := by simp at h1; lia
    rcases hj with rfl | rfl | rfl | rfl
    · exact LtAt.int (A := A.in1) (s := s) x.neg y.neg t1 u1
    · exact StrsAt.lt (A := A.in1) (s := s) e3 f3 hu1
    · exact LtAt.int (A := A.in1) (s := s) x.j y.j t2 u2
    · exact LtAt.str (A := A.in1) (s := s) (pathF b x.both) (pathF b y.both) t3 u3
/-- how the heap's things compare -/
theorem ent_cmp {b : Bool} {s : Shared} {hp : Addr} {f : Value → Ent} {P : Value → Prop} (h : ∀ v, P v → EntAt b (hideAll s.heap [hp]) v (f v)) : CmpBut s hp P fun u v => entLt b (f u) (f v) := by
  intro u v hu hv A' h' tk hA kb
  have k : ∀ v, P v → EntAt b h' v (f v) := fun v hv => ((h v hv).hid (h' := h') fun a o ha e _ => kb a o (by simpa using ha) e).shown
  exact ent_lt (s := { s with heap := h', toks := tk }) (k u hu) (k v hv) hA
end Mine
end

section
theorem Mine.rst_CT : True ∧ True := by
  w_top off
  first | (walk1; fail "laid") | exact ⟨trivial, trivial⟩
open PySem PySem.W PyProof.Rows PySem.Calls
set_option linter.unusedVariables false
namespace Mine
theorem minF_two (a b : Names) : minF [a, b] = if namesLt b a = true then b else a := by
  unfold minF
  simp only [List.length_cons, List.length_nil, argBest]
  show [a, b].getD (if namesLt b a = true then 1 else 0) [] = _
  cases namesLt b a <;> rfl
theorem maxF_two (a b : Names) : maxF [a, b] = if namesLt a b = true then b else a := by
  unfold maxF
  simp only [List.length_cons, List.length_nil, argBest]
  show [a, b].getD (if namesLt a b = true then 1 else 0) [] = _
  cases namesLt a b <;> rfl
theorem minF_one (a : Names) : minF [a] = a := rfl
theorem maxF_one (a : Names) : maxF [a] = a := rfl
theorem lcpF_self : ∀ a : Names, lcpF a a = a
  | [] => rfl
  | x :: a => by simp [lcpF, lcpF_self a]
theorem two_le (a b : Names) : namesLt (maxF [a, b]) (minF [a, b]) = false := by
  rw [minF_two, maxF_two]
  cases h1 : namesLt b a with
  | true =>
    have := tot_names.weak.asym _ _ h1
    simp [this]
  | false =>
    cases h2 : namesLt a b with
    | true => simp [h1]
    | false => simp [tot_names.irr]
theorem two_lcp (a b : Names) : lcpF (minF [a, b]) (maxF [a, b]) = lcpF a b := by
  rw [minF_two, maxF_two]
  cases h1 : namesLt b a with
  | true =>
    have := tot_names.weak.asym _ _ h1
    simp [this, lcpF_comm]
  | false =>
    cases h2 : namesLt a b with
    | true => simp
    | false =>
      have := tot_names.tot _ _ h1 h2
      subst this
      simp
/-- a path's names: few, short, good -/
structure Small (P : Names) : Prop where
  few : P.length ≤ 4
  good : ∀ p ∈ P, Good p ∧ p.length ≤ 3
theorem Small.take {P : Names} (h : Small P) (k : Nat) : Small (P.take k) := ⟨by have := h.few; rw [List.length_take]; omega, fun p hp => h.good p (List.mem_of_mem_take hp)⟩
theorem Small.path {b : Bool} {P : Names} (h : Small P) : (pathF b P).length ≤ 20 := by
  have e1 := join_len_le (n := 4) (B := 3) h.few fun p hp => (h.good p hp).2
  have e2 := StrLaws.join_length_le slash P
  have htl := topF_len b
  unfold pathF
  rw [Str.length_append]
  omega
theorem RowText.names {b : Bool} {x : Str} (h : RowText b x) : Small (piecesF x) := by
  obtain ⟨ps, h1, h2, h3, rfl⟩ := h
  rw [pieces_front b h1 fun p hp => (h3 p hp).1]
  refine ⟨Nat.le_trans (List.length_filter_le _ _) h2, fun p hp => ?_⟩
  obtain ⟨hp1, hp2⟩ := List.mem_filter.mp hp
  exact ⟨⟨(h3 p hp1).1, hp2⟩, (h3 p hp1).2⟩
theorem RowText.starts {b : Bool} {x : Str} (h : RowText b x) : Txt.startswith x slash = b := by
  obtain ⟨ps, h1, h2, h3, rfl⟩ := h
  exact starts_front b _
theorem Small.lcp {P : Names} (h : Small P) (N : Names) : Small (lcpF P N) := by rw [lcpF_left]; exact h.take _
section
variable {w : World} {A : Around} {s : Shared} {E : Value → Shared → Prop} {Q : Value → Shared → Prop} {l : Addr} {b : Bool} {x : Str} {t u : Tok} {P : Names}
theorem cp_two (G : Gl w s.heap) (hR : Rm A 9) (hl : s.heap.IsList l #[.str (pathF b P) t, .str x u]) (hP : Small P) (hx : RowText b x)
   (h : ∀ t1 h' tk', s.heap.StaysIn h' → Q (.str (pathF b (lcpF P (piecesF x))) t1) { s with heap := h', toks := tk' }) : wpAny (model PP w) A (call (.ref 134) [.ref l]) Q E s := by
  have e : ([(pathF b P, t), (x, u)].map (·.1)).map piecesF = [P, piecesF x] := by
    simp only [List.map_cons, List.map_nil]
    rw [pieces_path b fun p hp => (hP.good p hp).1]
  refine cp_spec (x := pathF b P) (t := t) (ps := [(x, u)]) (b := b) G hR hl (show 1 ≤ 900 by decide) ?_ ?_ ?_ ?_
  · intro z hz
    simp only [List.mem_cons, List.not_mem_nil, or_false] at hz
    rcases hz with rfl | rfl
    · exact Nat.le_trans hP.path (by decide)
    · exact Nat.le_trans hx.len (by decide)
  · intro z hz
    simp only [List.mem_cons, List.not_mem_nil, or_false] at hz
    rcases hz with rfl | rfl
    · exact starts_path b fun p hp => (hP.good p hp).1
    · exact hx.starts
  · rw [e]; exact two_le _ _
  · rw [e, two_lcp]; exact h
theorem cp_one (G : Gl w s.heap) (hR : Rm A 9) (hl : s.heap.IsList l #[.str x u]) (hx : RowText b x)
   (h : ∀ t1 h' tk', s.heap.StaysIn h' → Q (.str (pathF b (piecesF x)) t1) { s with heap := h', toks := tk' }) : wpAny (model PP w) A (call (.ref 134) [.ref l]) Q E s := by
  have e : ([(x, u)].map (·.1)).map piecesF = [piecesF x] := rfl
  refine cp_spec (x := x) (t := u) (ps := []) (b := b) G hR hl (show 0 ≤ 900 by decide) ?_ ?_ ?_ ?_
  · intro z hz
    rw [List.mem_singleton.mp hz]
    exact Nat.le_trans hx.len (by decide)
  · intro z hz
    rw [List.mem_singleton.mp hz]
    exact hx.starts
  · rw [e, minF_one, maxF_one]; exact tot_names.irr _
  · rw [e, minF_one, maxF_one, lcpF_self]; exact h
theorem names_at (G : Gl w s.heap) (hR : Rm A 3) (hP : Small P)
   (h : ∀ D h' tk', s.heap.StaysIn h' → s.heap.get? D = none → StrsAt h' D P → Q (.ref D) { s with heap := h', toks := tk' }) : wpAny (model PP w) A (call (.ref 179) [.str (pathF b P) t]) Q E s :=
  names_spec G hR (fun p hp => (hP.good p hp).1) (fun k => Nat.le_trans (hP.take k).path (by decide)) h
end
end Mine
end

section
theorem Mine.rst_TL : True ∧ True := by
  w_top off
  first | (walk1; fail "laid") | exact ⟨trivial, trivial⟩
open PySem PySem.W PyProof.Rows PySem.Calls
open MeetsSeq MeetsSeq2 MeetsSeq3 SeqRoads2 SeqAt
set_option linter.unusedVariables false
namespace Mine
theorem newsCons {h₀ h : Heap} {L D : Addr} {o : Obj} {news : List (Addr × Obj)} (ho : h.get? D = some o) (hL : D ≠ L) (hn : h₀.get? D = none) (N : News h₀ L h news) : News h₀ L h ((D, o) :: news) := by
  intro p hp
  rcases List.mem_cons.mp hp with rfl | hp
  · exact ⟨ho, hL, hn⟩
  · exact N p hp
theorem withN5 {G : Prop} {h₀ h : Heap} {L : Addr} {x1 x2 x3 x4 x5 : Addr} {o1 o2 o3 o4 o5 : Obj} {r : List (Addr × Obj)} (N : News h₀ L h ((x1, o1) :: (x2, o2) :: (x3, o3) :: (x4, o4) :: (x5, o5) :: r))
    (k : ∀ g y1 y2 y3 y4 y5, g = h → y1 = x1 → y2 = x2 → y3 = x3 → y4 = x4 → y5 = x5 → G) : G := k _ _ _ _ _ _ rfl rfl rfl rfl rfl rfl
theorem ne_nil {prog : Program} {w : World} {A : Around} {E : Value → Shared → Prop} {s : Shared} {l D : Addr} {its : List Value} {c c' : Nat} {Q : Value → Shared → Prop} (hl : s.heap.get? l = some (lstO its.toArray c)) (hD : s.heap.get? D = some (lstO #[] c')) (hu : A.units < cLine)
    (h1 : its = [] → Q (.bool false) s) (h2 : its ≠ [] → Q (.bool true) s) : wpAny (model prog w) A (compareOp .NotEq (.ref l) (.ref D)) Q E s := by
  cases its with
  | nil =>
    have := RcNeAt.lists (A := A) (s := s) (e := fun _ => true) ⟨_, hl, rfl, c, rfl⟩ ⟨_, hD, rfl, c', rfl⟩ rfl hu (fun j h _ => absurd h (by simp))
    exact this prog w E Q (h1 rfl)
  | cons x r =>
    have := RcNeAt.lists_lengths (A := A) (s := s) ⟨_, hl, rfl, c, rfl⟩ ⟨_, hD, rfl, c', rfl⟩ (by simp) hu
    exact this prog w E Q (h2 (by simp))
theorem slicePick_from (items : Array Value) (i : Nat) (h : i ≤ items.size) : slicePick items (some (i : Int)) none none = (items.toList.drop i).toArray := by
  have e : slicePick items (some (i : Int)) none none = slicePick items (some (i : Int)) (some ((items.size : Nat) : Int)) none := by
    have e0 : max (0 : Int) (min (if (items.size : Int) < 0 then (items.size : Int) + (items.size : Int) else (items.size : Int)) (items.size : Int)) = items.size := by
      rw [if_neg (by lia)]; lia
    unfold slicePick sliceBounds
    simp [e0]
  rw [e, slicePick_run items i items.size (Nat.le_refl _) h]
  rw [List.take_of_length_le (by simp)]
theorem strValues_drop (l : List (Str × Tok)) (i : Nat) : (strValues l).drop i = strValues (l.drop i) := by simp [strValues, List.map_drop]
theorem newTuple_at {M : Model} {A : Around} {E : Value → Shared → Prop} {s : Shared} {h₀ : Heap} {L : Addr} {m : Str → Option Value} {news : List (Addr × Obj)} {items : List Value} {Q : Value → Shared → Prop} (F : Fr h₀ L s.heap m) (N : News h₀ L s.heap news) (hsz : items.length ≤ sizeLine)
    (h : ∀ a h', Fr h₀ L h' m → News h₀ L h' ((a, { cls := .type "tuple", data := .seq items.toArray }) :: news) → s.heap.StaysIn h' → s.heap.get? a = none → Q (.ref a) { s with heap := h' }) : wpAny M A (newTuple items) Q E s := by
  refine wpAny_newTuple (h s.heap.objs.size _ (Fr.stays F (stays_push _ _)) (newsCons (Heap.get?_push_size _ rfl) (Nat.ne_of_gt F.ns.lt) (Heap.get?_none_of_le (Nat.le_trans F.above (Nat.le_of_lt F.ns.lt))) (News.stays N (stays_push _ _))) (stays_push _ _) (none_size _)) hsz
/-- an item of a tuple of four -/
theorem tup_at {prog : Program} {w : World} {A : Around} {E : Value → Shared → Prop} {s : Shared} {t : Addr} {l : List Value} {c : Nat} {k : Int} {j : Nat} {u : Tok} {x : Value} {value slice : Expr} {Q : Value → Shared → Prop} (ho : s.heap.get? t = some { cls := .type "tuple", data := .seq l.toArray c })
    (hlo : -(2 ^ 63) ≤ k) (hhi : k < 2 ^ 63) (hj : seqIndex? k l.length = some j) (hx : l[j]? = some x) (h : Q x s)
    (hs : subscripted slice false (.ref t) (.int k u) = operate [.ref t, .int k u] (getItem (.ref t) (.int k u)) := by with_unfolding_all rfl) :
    wpAny (model prog w) A (subscriptTail value slice (.ref t) (.int k u)) Q E s :=
  item_tupleT ⟨_, ho, rfl, _, rfl⟩ hlo hhi hj hx h hs
inductive PairAt (h : Heap) (v : Value) (x : Str) : Prop
  | mk : ∀ a T t c, (v = .ref a) →
      (h.get? a = some { cls := .type "tuple", data := .seq #[.str x t, .ref T] c }) →
      (StrsAt h T (piecesF x)) → PairAt h v x
inductive PlainRow (h : Heap) (a : Addr) (r : List Str) : Prop
  | mk : ∀ (l : List Value) (c : Nat), (h.get? a = some (lstO l.toArray c)) →
      (Paired (PairAt h) l r) → PlainRow h a r
inductive PlainAt (h : Heap) (D : Addr) (rr : List (List Str)) : Prop
  | mk : ∀ (as : List Addr) (c : Nat), (h.get? D = some (lstO (as.map Value.ref).toArray c)) →
      (Paired (PlainRow h) as rr) → PlainAt h D rr
noncomputable def natVals (l : List (Nat × Tok)) : List Value := l.map fun z => .int (z.1 : Int) z.2
theorem natVals_len (l : List (Nat × Tok)) : (natVals l).length = l.length := by simp [natVals]
theorem natVals_get {l : List (Nat × Tok)} {i n : Nat} {u : Tok} (h : l[i]? = some (n, u)) : (natVals l)[i]? = some (.int (n : Int) u) := by
  simp [natVals, h]
theorem carried5 {ys : List Value} (CA : CarriedAll ys ((rangeInts 0 1 5).map .int)) : ∃ agt : List (Nat × Tok), natVals agt = ys ∧ agt.map (·.1) = [0, 1, 2, 3, 4] := by
  cases CA with | cons c0 CA => cases CA with | cons c1 CA => cases CA with | cons c2 CA => cases CA with | cons c3 CA => cases CA with | cons c4 CA => cases CA with | nil =>
  cases c0; cases c1; cases c2; cases c3; cases c4
  exact ⟨[(0, _), (1, _), (2, _), (3, _), (4, _)], rfl, rfl⟩
theorem pin8 {m : Str → Option Value} {x1 x2 x3 x4 x5 x6 x7 x8 : Str} {v1 v2 v3 v4 v5 v6 v7 v8 : Value} (h1 : m x1 = some v1) (h2 : m x2 = some v2) (h3 : m x3 = some v3) (h4 : m x4 = some v4) (h5 : m x5 = some v5) (h6 : m x6 = some v6) (h7 : m x7 = some v7) (h8 : m x8 = some v8) :
    m = fun y => if y = x1 then some v1 else if y = x2 then some v2 else if y = x3 then some v3 else if y = x4 then some v4 else if y = x5 then some v5 else if y = x6 then some v6 else if y = x7 then some v7 else if y = x8 then some v8 else m y := by
  funext y
  by_cases q1 : y = x1
  · rw [if_pos q1, q1, h1]
  by_cases q2 : y = x2
  · rw [if_neg q1, if_pos q2, q2, h2]
  by_cases q3 : y = x3
  · rw [if_neg q1, if_neg q2, if_pos q3, q3, h3]
  by_cases q4 : y = x4
  · rw [if_neg q1, if_neg q2, if_neg q3, if_pos q4, q4, h4]
  rw [if_neg q1, if_neg q2, if_neg q3, if_neg q4]
  exact congrFun (pin4 h5 h6 h7 h8) y
/-- what is left of the rows -/
noncomputable def remF (rr : List (List Str)) (pls : List Nat) : List (List Names) := List.zipWith (fun r p => r.drop p) (namesOf rr) pls
/-- what the heap of _law_told's run holds -/
structure TSt (b : Bool) (hide : List Addr) (HP TO PL AG : Addr) (h : Heap) (f : Value → Ent) (lh lt : List Value) (plt agt : List (Nat × Tok)) (dn : List Trip) : Prop where
  heap : ∃ c, h.get? HP = some (lstO lh.toArray c)
  told : ∃ c, h.get? TO = some (lstO lt.toArray c)
  plc : ∃ c, h.get? PL = some (lstO (natVals plt).toArray c)
  agn : ∃ c, h.get? AG = some (lstO (natVals agt).toArray c)
  ents : ∀ v ∈ lh, EntAt b (hideAll h hide) v (f v)
  trips : Paired (TripAt (hideAll h hide)) lt dn
/-- what it means -/
structure TMean (b : Bool) (rr : List (List Str)) (its : List Item) (f : Value → Ent) (lh lt : List Value) (pls ag S : List Nat) (P : Names) (srt : List Item) (dn : List Trip) : Prop where
  five : pls.length = 5
  perm : srt.Perm (tagF 0 (remF rr pls))
  sorted : Sorted srt
  above : ∀ x ∈ srt, namesLt x.1 P = false
  due : dueF b [] its = dn ++ dueF b P srt
  small : Small P
  cover : Cover (remF rr pls) ag S
  lies : Lies b f lh P (remF rr pls) S
  few : lt.length + srt.length ≤ 20
theorem StrsAt.new' {h : Heap} {hide : List Addr} {T : Addr} {xs : List Str} (x : StrsAt (hideAll h hide) T xs) : StrsAt (hideAll h (h.objs.size :: hide)) T xs := by
  obtain ⟨l, c, e1, e2⟩ := x
  have m2 := hideAll_mem e2
  exact ⟨l, c, e1, hideAll_get _ m2.1 (by simp only [List.mem_cons, not_or]; exact ⟨Nat.ne_of_lt (Heap.lt_size m2.1), m2.2⟩)⟩
theorem EntAt.new {b : Bool} {h : Heap} {hide : List Addr} {v : Value} {x : Ent} (i : EntAt b (hideAll h hide) v x) : EntAt b (hideAll h (h.objs.size :: hide)) v x := by
  obtain ⟨a, T, t1, t2, t3, c, e1, e2, e3⟩ := i
  have m1 := hideAll_mem e2
  exact ⟨a, T, t1, t2, t3, c, e1, hideAll_get _ m1.1 (by simp only [List.mem_cons, not_or]; exact ⟨Nat.ne_of_lt (Heap.lt_size m1.1), m1.2⟩), e3.new'⟩
theorem TripAt.new {h : Heap} {hide : List Addr} {v : Value} {x : Trip} (i : TripAt (hideAll h hide) v x) : TripAt (hideAll h (h.objs.size :: hide)) v x := by
  obtain ⟨a, c, t1, t2, t3, e1, e2⟩ := i
  have m1 := hideAll_mem e2
  exact ⟨a, c, t1, t2, t3, e1, hideAll_get _ m1.1 (by simp only [List.mem_cons, not_or]; exact ⟨Nat.ne_of_lt (Heap.lt_size m1.1), m1.2⟩)⟩
theorem TripAt.stays {h h' : Heap} {v : Value} {x : Trip} (i : TripAt h v x) (st : h.StaysIn h') : TripAt h' v x := by
  obtain ⟨a, c, t1, t2, t3, e1, e2⟩ := i
  exact ⟨a, c, t1, t2, t3, e1, st _ _ e2⟩
section
variable {b : Bool} {hide : List Addr} {HP TO PL AG : Addr} {h h' : Heap} {f : Value → Ent} {lh lt : List Value} {plt agt : List (Nat × Tok)} {dn : List Trip}
theorem StrsAt.also {z : Addr} {T : Addr} {xs : List Str} (x : StrsAt (hideAll h hide) T xs) (k : ∀ a o, a ∉ hide → h.get? a = some o → SeqO o → a ≠ z) : StrsAt (hideAll h (z :: hide)) T xs := by
  obtain ⟨l, c, e1, e2⟩ := x
  have m2 := hideAll_mem e2
  exact ⟨l, c, e1, hideAll_get _ m2.1 (by simp only [List.mem_cons, not_or]; exact ⟨k _ _ m2.2 m2.1 (SeqO.lst _ _), m2.2⟩)⟩
theorem EntAt.also {z : Addr} {v : Value} {x : Ent} (i : EntAt b (hideAll h hide) v x) (k : ∀ a o, a ∉ hide → h.get? a = some o → SeqO o → a ≠ z) : EntAt b (hideAll h (z :: hide)) v x := by
  obtain ⟨a, T, t1, t2, t3, c, e1, e2, e3⟩ := i
  have m1 := hideAll_mem e2
  exact ⟨a, T, t1, t2, t3, c, e1, hideAll_get _ m1.1 (by simp only [List.mem_cons, not_or]; exact ⟨k _ _ m1.2 m1.1 ⟨_, _, _, rfl⟩, m1.2⟩), e3.also k⟩
theorem TripAt.also {z : Addr} {v : Value} {x : Trip} (i : TripAt (hideAll h hide) v x) (k : ∀ a o, a ∉ hide → h.get? a = some o → SeqO o → a ≠ z) : TripAt (hideAll h (z :: hide)) v x := by
  obtain ⟨a, c, t1, t2, t3, e1, e2⟩ := i
  have m1 := hideAll_mem e2
  exact ⟨a, c, t1, t2, t3, e1, hideAll_get _ m1.1 (by simp only [List.mem_cons, not_or]; exact ⟨k _ _ m1.2 m1.1 ⟨_, _, _, rfl⟩, m1.2⟩)⟩
theorem TSt.also {z : Addr} (x : TSt b hide HP TO PL AG h f lh lt plt agt dn) (k : ∀ a o, a ∉ hide → h.get? a = some o → SeqO o → a ≠ z) : TSt b (z :: hide) HP TO PL AG h f lh lt plt agt dn :=
  ⟨x.heap, x.told, x.plc, x.agn, fun v hv => (x.ents v hv).also k, Paired.imp (fun _ _ y => y.also k) x.trips⟩
/-- things that stay as they are seen, four lists anew -/
theorem TSt.anew {AG' : Addr} {lh' : List Value} {plt' agt' : List (Nat × Tok)} (x : TSt b hide HP TO PL AG h f lh lt plt agt dn) (h1 : ∃ c, h'.get? HP = some (lstO lh'.toArray c)) (h2 : ∃ c, h'.get? TO = some (lstO lt.toArray c)) (h3 : ∃ c, h'.get? PL = some (lstO (natVals plt').toArray c))
    (h4 : ∃ c, h'.get? AG' = some (lstO (natVals agt').toArray c)) (hl : ∀ v ∈ lh', v ∈ lh) (k : ∀ a o, a ∉ hide → h.get? a = some o → SeqO o → h'.get? a = some o) : TSt b hide HP TO PL AG' h' f lh' lt plt' agt' dn :=
  ⟨h1, h2, h3, h4, fun v hv => (x.ents v (hl v hv)).hid k, Paired.imp (fun _ _ y => y.hid k) x.trips⟩
theorem TSt.more (x : TSt b hide HP TO PL AG h f lh lt plt agt dn) : TSt b (h.objs.size :: hide) HP TO PL AG h f lh lt plt agt dn :=
  ⟨x.heap, x.told, x.plc, x.agn, fun v hv => (x.ents v hv).new, Paired.imp (fun _ _ y => y.new) x.trips⟩
theorem TSt.less {hide' : List Addr} (x : TSt b hide HP TO PL AG h f lh lt plt agt dn) (hs : ∀ a ∈ hide', a ∈ hide) : TSt b hide' HP TO PL AG h f lh lt plt agt dn :=
  ⟨x.heap, x.told, x.plc, x.agn, fun v hv => (x.ents v hv).stays (hide_less hs), Paired.imp (fun _ _ y => y.stays (hide_less hs)) x.trips⟩
end
/-- the run's variables -/
structure TFrame (D HP TO PL AG : Addr) (b : Bool) (P : Names) (m : Str → Option Value) (tl td : Tok) : Prop where
  rows : m (Str.ofString "rows") = some (.ref D)
  last : m (Str.ofString "last") = some (.str (pathF b P) tl)
  depth : m (Str.ofString "depth") = some (.int ((P.length : Nat) : Int) td)
  places : m (Str.ofString "places") = some (.ref PL)
  told : m (Str.ofString "told") = some (.ref TO)
  heap : m (Str.ofString "heap") = some (.ref HP)
  again : m (Str.ofString "again") = some (.ref AG)
/-- a list of one's own -/
structure AGok (base : Heap) (L HP TO PL AG : Addr) : Prop where
  hp : AG ≠ HP
  to : AG ≠ TO
  pl : AG ≠ PL
  ns : AG ≠ L
  nb : base.get? AG = none
theorem rem_row {rr : List (List Str)} {pls : List Nat} {j p : Nat} (hj : j < rr.length) (hp : pls[j]? = some p) : rowF (remF rr pls) j = (rr[j].map piecesF).drop p := by
  have e : (remF rr pls)[j]? = some ((rr[j].map piecesF).drop p) := by
    unfold remF namesOf
    rw [List.getElem?_zipWith, List.getElem?_map, List.getElem?_eq_getElem hj, hp]
    rfl
  simp [rowF, List.getD, e]
theorem nodup_le : ∀ (n : Nat) {l : List Nat}, l.Nodup → (∀ x ∈ l, x < n) → l.length ≤ n
  | 0, l, _, h => by
    cases l with
    | nil => exact Nat.le_refl _
    | cons x l => exact absurd (h x (.head _)) (Nat.not_lt_zero _)
  | n + 1, l, hd, h => by
    have h1 := nodup_le n (l := l.erase n) (hd.erase n) fun x hx => by
      have := h x (List.mem_of_mem_erase hx)
      have hne : x ≠ n := fun q => (hd.mem_erase_iff.mp hx).1 q
      lia
    have h2 := List.length_erase (a := n) (l := l)
    split at h2 <;> lia
noncomputable def upd (f : Value → Ent) (x : Value) (e : Ent) : Value → Ent := fun v => @ite _ (v = x) (Classical.propDecidable _) e (f v)
theorem upd_self (f : Value → Ent) (x : Value) (e : Ent) : upd f x e x = e := by unfold upd; rw [if_pos rfl]
theorem upd_ne (f : Value → Ent) {x v : Value} (e : Ent) (h : v ≠ x) : upd f x e v = f v := by unfold upd; rw [if_neg h]
theorem TMean.len {b : Bool} {rr : List (List Str)} {its : List Item} {f : Value → Ent} {lh lt : List Value} {pls ag S : List Nat} {P : Names} {srt : List Item} {dn : List Trip} (h : TMean b rr its f lh lt pls ag S P srt dn) : lh.length ≤ 5 := by
  have e := h.lies.perm.length_eq
  rw [List.length_map, List.length_map] at e
  rw [e]
  refine nodup_le 5 (List.nodup_append.mp h.cover.nd).2.1 fun x hx => ?_
  have := h.cover.lt x (List.mem_append_right _ hx)
  unfold remF at this
  rw [List.length_zipWith, h.five] at this
  lia
theorem rem_rises {b : Bool} {rr : List (List Str)} (hO : RowsOk b rr) (pls : List Nat) : ∀ r ∈ remF rr pls, Rises r := by
  intro r hr
  obtain ⟨i, e⟩ := List.mem_iff_getElem?.mp hr
  unfold remF namesOf at e
  rw [List.getElem?_zipWith, List.getElem?_map] at e
  cases e1 : rr[i]? with
  | none => rw [e1] at e; cases e
  | some r0 =>
    cases e2 : pls[i]? with
    | none => rw [e1, e2] at e; cases e
    | some p =>
      rw [e1, e2] at e
      have e3 : (r0.map piecesF).drop p = r := by simpa using e
      rw [← e3]
      exact List.Pairwise.drop (List.pairwise_map.mpr (hO.sorted _ (List.mem_of_getElem? e1)))
theorem rem_set {rr : List (List Str)} {pls : List Nat} {k p : Nat} {N : Names} {rest : List Names} (hp : pls[k]? = some p) (hk : (remF rr pls)[k]? = some (N :: rest)) : remF rr (pls.set k (p + 1)) = (remF rr pls).set k rest := by
  unfold remF at hk ⊢
  apply List.ext_getElem?
  intro i
  rw [List.getElem?_zipWith, List.getElem?_set, List.getElem?_set]
  by_cases hik : k = i
  · subst hik
    rw [if_pos rfl, if_pos rfl, List.length_zipWith]
    rw [List.getElem?_zipWith, hp] at hk
    cases e : (namesOf rr)[k]? with
    | none => rw [e] at hk; cases hk
    | some r =>
      rw [e] at hk
      have h1 : k < (namesOf rr).length := (List.getElem?_eq_some_iff.mp e).1
      have h2 : k < pls.length := (List.getElem?_eq_some_iff.mp hp).1
      rw [if_pos h2, if_pos (show k < min (namesOf rr).length pls.length by lia)]
      have h3 : r.drop p = N :: rest := by simpa using hk
      show some (r.drop (p + 1)) = some rest
      rw [← List.tail_drop, h3]; rfl
  · rw [if_neg hik, if_neg hik, List.getElem?_zipWith]
theorem pin12 {m : Str → Option Value} {x1 x2 x3 x4 x5 x6 x7 x8 x9 xa xb xc : Str} {v1 v2 v3 v4 v5 v6 v7 v8 v9 va vb vc : Value} (h1 : m x1 = some v1) (h2 : m x2 = some v2) (h3 : m x3 = some v3) (h4 : m x4 = some v4) (h5 : m x5 = some v5) (h6 : m x6 = some v6) (h7 : m x7 = some v7) (h8 : m x8 = some v8) (h9 : m x9 = some v9) (ha : m xa = some va) (hb : m xb = some vb) (hc : m xc = some vc) :
    m = fun y => if y = x1 then some v1 else if y = x2 then some v2 else if y = x3 then some v3 else if y = x4 then some v4 else if y = x5 then some v5 else if y = x6 then some v6 else if y = x7 then some v7 else if y = x8 then some v8 else if y = x9 then some v9 else if y = xa then some va else if y = xb then some vb else if y = xc then some vc else m y := by
  funext y
  by_cases q1 : y = x1
  · rw [if_pos q1, q1, h1]
  by_cases q2 : y = x2
  · rw [if_neg q1, if_pos q2, q2, h2]
  by_cases q3 : y = x3
  · rw [if_neg q1, if_neg q2, if_pos q3, q3, h3]
  by_cases q4 : y = x4
  · rw [if_neg q1, if_neg q2, if_neg q3, if_pos q4, q4, h4]
  rw [if_neg q1, if_neg q2, if_neg q3, if_neg q4]
  exact congrFun (pin8 h5 h6 h7 h8 h9 ha hb hc) y
/-- what the top of the heap left in the variables -/
structure TTop (b : Bool) (e : Ent) (RT : Addr) (m : Str → Option Value) (t1 t2 t3 : Tok) : Prop where
  less : m (Str.ofString "less") = some (.int e.neg t1)
  rest : m (Str.ofString "rest") = some (.ref RT)
  k : m (Str.ofString "k") = some (.int e.j t2)
  both : m (Str.ofString "both") = some (.str (pathF b e.both) t3)
/-- nothing of it changes -/
theorem TSt.keeps {b : Bool} {hide : List Addr} {HP TO PL AG : Addr} {h h' : Heap} {f : Value → Ent} {lh lt : List Value} {plt agt : List (Nat × Tok)} {dn : List Trip} (x : TSt b hide HP TO PL AG h f lh lt plt agt dn)
    (k : ∀ a o, h.get? a = some o → SeqO o → h'.get? a = some o) : TSt b hide HP TO PL AG h' f lh lt plt agt dn :=
  ⟨x.heap.imp fun c e => k _ _ e (SeqO.lst _ _), x.told.imp fun c e => k _ _ e (SeqO.lst _ _), x.plc.imp fun c e => k _ _ e (SeqO.lst _ _), x.agn.imp fun c e => k _ _ e (SeqO.lst _ _),
    fun v hv => (x.ents v hv).hid fun a o _ e sq => k a o e sq, Paired.imp (fun v t y => y.hid fun a o _ e sq => k a o e sq) x.trips⟩
end Mine
end

section
theorem Mine.rst_S13 : True ∧ True := by
  w_top off
  first | (walk1; fail "laid") | exact ⟨trivial, trivial⟩
open PySem PySem.W PyProof.Rows PySem.Calls
set_option linter.unusedVariables false
namespace Mine
theorem fill17 : (PySem.Challenge.rw_pd0049_01.prog = PySem.Challenge.rw_pd0049_01.prog) ∧ (∀ P, Mine.hd.heap_1 P = Mine.hd.heap_1 P) := by k_fill; exact ⟨rfl, fun _ => rfl⟩
inductive R13a (base : Heap) (L TO : Addr) (b : Bool) (its : List Item) (h : Heap) : Prop
  | mk : ∀ (m : Str → Option Value) (lt : List Value) (c : Nat), (h.Ns L m) →
      (m (Str.ofString "told") = some (.ref TO)) →
      (base.StaysIn h) →
      (h.get? TO = some (lstO lt.toArray c)) →
      (Paired (TripAt h) lt (dueF b [] its)) → R13a base L TO b its h
inductive J13a (base : Heap) (L D HP TO PL : Addr) (b : Bool) (rr : List (List Str)) (its : List Item) (n : Nat) (h : Heap) : Prop
  | mk : ∀ (AG : Addr) (m : Str → Option Value) (f : Value → Ent) (lh lt : List Value) (plt agt : List (Nat × Tok)) (P : Names) (S : List Nat) (srt : List Item) (dn : List Trip) (tl td : Tok), (h.Ns L m) →
      (TFrame D HP TO PL AG b P m tl td) →
      (base.StaysIn h) →
      (AGok base L HP TO PL AG) →
      (TSt b (HP :: TO :: PL :: AG :: liveOf base) HP TO PL AG h f lh lt plt agt dn) →
      (TMean b rr its f lh lt (plt.map (·.1)) (agt.map (·.1)) S P srt dn) →
      ((agt = [] → S = [])) →
      (n = srt.length + if agt = [] then 0 else 1) → J13a base L D HP TO PL b rr its n h
inductive J13b (base : Heap) (L I D HP TO PL AG : Addr) (b : Bool) (rr : List (List Str)) (its : List Item) (lt : List Value) (plt agt : List (Nat × Tok)) (dn : List Trip) (P : Names) (srt : List Item) (tl td : Tok) (i : Nat) (h : Heap) : Prop
  | mk : ∀ (m : Str → Option Value) (f : Value → Ent) (lh : List Value) (S : List Nat), (h.Ns L m) →
      (TFrame D HP TO PL AG b P m tl td) →
      (base.StaysIn h) →
      (TSt b (I :: HP :: TO :: PL :: AG :: liveOf base) HP TO PL AG h f lh lt plt agt dn) →
      (TMean b rr its f lh lt (plt.map (·.1)) ((agt.map (·.1)).drop i) S P srt dn) → J13b base L I D HP TO PL AG b rr its lt plt agt dn P srt tl td i h
inductive R13b (base : Heap) (L D HP TO PL AG2 RT : Addr) (b : Bool) (rr : List (List Str)) (lt : List Value) (plt : List (Nat × Tok)) (dn : List Trip) (f : Value → Ent) (P Nk : Names) (k sh : Nat) (S : List Nat) (tl td u1 u2 u3 : Tok) (hh : Heap) : Prop
  | mk : ∀ (m' : Str → Option Value) (lh' : List Value) (S' : List Nat) (agt' : List (Nat × Tok)), (hh.Ns L m') →
      (TFrame D HP TO PL AG2 b P m' tl td) →
      (TTop b (ent P Nk (k : Int)) RT m' u1 u2 u3) →
      (base.StaysIn hh) →
      (TSt b (HP :: TO :: PL :: AG2 :: liveOf base) HP TO PL AG2 hh f lh' lt plt agt' dn) →
      (Lies b f lh' P (remF rr (plt.map (·.1))) S') →
      (Cover (remF rr (plt.map (·.1))) (agt'.map (·.1)) S') →
      (k ∈ agt'.map (·.1)) →
      ((∀ j ∈ S', j ∈ S)) →
      (StrsAt (hideAll hh (HP :: TO :: PL :: AG2 :: liveOf base)) RT (Nk.drop sh)) →
      (∀ j ∈ S', (lcpF P (hdF (remF rr (plt.map (·.1))) j)).length < sh) → R13b base L D HP TO PL AG2 RT b rr lt plt dn f P Nk k sh S tl td u1 u2 u3 hh
inductive R13c (L D HP TO PL AG2 RT : Addr) (b : Bool) (P Nk : Names) (k sh : Nat) (u1 u2 u3 : Tok) (hh : Heap) (h : Heap) : Prop
  | mk : ∀ (m : Str → Option Value) (tl td : Tok), (h.Ns L m) →
      (TFrame D HP TO PL AG2 b (P.take sh) m tl td) →
      (TTop b (ent P Nk (k : Int)) RT m u1 u2 u3) →
      (KeepBut L hh h) → R13c L D HP TO PL AG2 RT b P Nk k sh u1 u2 u3 hh h
inductive J13c (L D HP TO PL AG2 RT : Addr) (b : Bool) (P Nk : Names) (k sh : Nat) (u1 u2 u3 : Tok) (hy : Heap) (i : Nat) (h : Heap) : Prop
  | mk : ∀ (m : Str → Option Value) (tl td : Tok), (h.Ns L m) →
      (TFrame D HP TO PL AG2 b (P.take sh ++ (Nk.drop sh).take i) m tl td) →
      (TTop b (ent P Nk (k : Int)) RT m u1 u2 u3) →
      (KeepBut L hy h) → J13c L D HP TO PL AG2 RT b P Nk k sh u1 u2 u3 hy i h
inductive J13d (L D HP TO PL AG2 RT : Addr) (b : Bool) (P Nk : Names) (k sh : Nat) (u1 u2 u3 : Tok) (hh : Heap) (n : Nat) (h : Heap) : Prop
  | mk : ∀ (d : Nat) (m : Str → Option Value) (tl td : Tok), (n = d - sh) →
      (sh ≤ d) →
      (d ≤ P.length) →
      (h.Ns L m) →
      (TFrame D HP TO PL AG2 b (P.take d) m tl td) →
      (TTop b (ent P Nk (k : Int)) RT m u1 u2 u3) →
      (KeepBut L hh h) → J13d L D HP TO PL AG2 RT b P Nk k sh u1 u2 u3 hh n h
inductive J13e (base : Heap) (L D HP TO PL AG2 RT : Addr) (b : Bool) (rr : List (List Str)) (lt : List Value) (plt : List (Nat × Tok)) (dn : List Trip) (f : Value → Ent) (P Nk : Names) (k sh : Nat) (S : List Nat) (tl td u1 u2 u3 : Tok) (n : Nat) (hh : Heap) : Prop
  | mk : ∀ (m' : Str → Option Value) (lh' : List Value) (S' : List Nat) (agt' : List (Nat × Tok)), (hh.Ns L m') →
      (TFrame D HP TO PL AG2 b P m' tl td) →
      (TTop b (ent P Nk (k : Int)) RT m' u1 u2 u3) →
      (base.StaysIn hh) →
      (TSt b (HP :: TO :: PL :: AG2 :: liveOf base) HP TO PL AG2 hh f lh' lt plt agt' dn) →
      (Lies b f lh' P (remF rr (plt.map (·.1))) S') →
      (Cover (remF rr (plt.map (·.1))) (agt'.map (·.1)) S') →
      (k ∈ agt'.map (·.1)) →
      ((∀ j ∈ S', j ∈ S)) →
      (StrsAt (hideAll hh (HP :: TO :: PL :: AG2 :: liveOf base)) RT (Nk.drop sh)) →
      (n = lh'.length) → J13e base L D HP TO PL AG2 RT b rr lt plt dn f P Nk k sh S tl td u1 u2 u3 n hh
theorem told_spec {w : World} {A : Around} {s : Shared} {E : Value → Shared → Prop} {Q : Value → Shared → Prop} {D : Addr} {rr : List (List Str)} {b : Bool} {t : Tok} {its : List Item}
   (G : Gl w s.heap) (hR : Rm A 11) (hD : PlainAt s.heap D rr) (hO : RowsOk b rr) (hperm : its.Perm (tagF 0 (namesOf rr))) (hsrt : Sorted its)
   (hfin : ∀ T h' tk', s.heap.StaysIn h' → s.heap.get? T = none → TripsAt h' T (dueF b [] its) → Q (.ref T) { s with heap := h', toks := tk' }) :
   wpAny (model PP w) A (call (.ref 186) [.ref D, .str (topF b) t]) Q E s := by
  refine hideG fun hG0 kG0 => ?_
  obtain ⟨X, mean, mg, mb, T⟩ := G
  obtain ⟨hn, dp, fr, gd, un⟩ := A
  obtain rfl : hn = none := hR.handled
  obtain ⟨ras, rc, hDo, hDp⟩ := hD
  refine kG0 ?_
  clear kG0 hG0
  have hr5 : ras.length = 5 := (Paired.len hDp).trans hO.five
  refine call_defK (binds := [(Str.ofString "rows", .ref D), (Str.ofString "last", .str (topF b) t)]) X T.nolimit (by k_is) (by k_is) (Rm.room hR) (BindsTo.of_eq rfl) (locs rfl) (by decide) rfl rfl rfl ?_
  intro h₁ L eL F N
  iterate 17 walk_at "one"
  rename Fr _ _ _ _ => F1
  refine len_at (F1.keep _ _ hDo) (by rw [List.length_map, hr5]; decide) ?_
  intro t3 tk3
  have e5 : (((ras.map Value.ref).length : Nat) : Int) = 5 := by rw [List.length_map, hr5]; rfl
  rw [e5]
  iterate 44 walk_at "one"
  rename Fr _ _ _ _ => F2
  refine len_at (F2.keep _ _ hDo) (by rw [List.length_map, hr5]; decide) ?_
  intro t4 tk4
  rw [e5]
  iterate 4 walk_at "one"
  rename NewPlain _ _ _ _ => NP
  rename Fr _ _ _ _ => F3
  rename News _ _ _ _ => N3
  rename CarriedAll _ _ => CA
  rename List Value => ys
  obtain ⟨cAG, oAG⟩ := NP.1
  have N4 := newsCons oAG (NP.ne_locals F3) (by assumption) N3
  clear N3
  iterate 3 walk_at "one"
  rename Fr _ _ _ _ => F4
  rename News _ _ _ _ => N5
  rename Heap => H0
  refine withN5 N5 ?_
  rintro g0 AG zz HP TO PL - eAG rfl rfl rfl rfl
  rw [← eAG] at F4 N5
  refine hideG fun hG0 kG0 => ?_
  obtain ⟨agt0, hag0, hagm⟩ := carried5 CA
  obtain ⟨plt0, hplm, oPL⟩ : ∃ plt : List (Nat × Tok), plt.map (·.1) = [0, 0, 0, 0, 0] ∧ H0.get? PL = some (lstO (natVals plt).toArray 0) := ⟨[(0, _), (0, _), (0, _), (0, _), (0, _)], rfl, (N5 (PL, _) (.tail _ (.tail _ (.tail _ (.tail _ (.head _)))))).1⟩
  refine kG0 ?_
  clear kG0 hG0
  have hPLn := (N5 (PL, _) (.tail _ (.tail _ (.tail _ (.tail _ (.head _)))))).2
  have hTO := N5 (TO, _) (.tail _ (.tail _ (.tail _ (.head _))))
  have hHP := N5 (HP, _) (.tail _ (.tail _ (.head _)))
  have hAG0 := N5 (AG, _) (.head _)
  have hTH : TO ≠ HP ∧ PL ≠ HP := by have := (by assumption : TO < HP ∧ PL < HP ∧ _ < HP); exact ⟨Nat.ne_of_lt this.1, Nat.ne_of_lt this.2.1⟩
  have hPT : PL ≠ TO := by have := (by assumption : PL < TO ∧ _ < TO); exact Nat.ne_of_lt this.1
  have hAGk : AGok s.heap L HP TO PL AG := ⟨eAG ▸ Ne.symm (NP.2 (HP, _) (.tail _ (.head _))), eAG ▸ Ne.symm (NP.2 (TO, _) (.tail _ (.tail _ (.head _)))), eAG ▸ Ne.symm (NP.2 (PL, _) (.tail _ (.tail _ (.tail _ (.head _))))), hAG0.2.1, hAG0.2.2⟩
  have aL := F4.above
  have hrem0 : remF rr (plt0.map (·.1)) = namesOf rr := by
    rw [hplm]
    have h5 : (namesOf rr).length = 5 := by rw [namesOf, List.length_map]; exact hO.five
    unfold remF
    generalize namesOf rr = q at h5
    match q, h5 with
    | [_, _, _, _, _], _ => simp
  have hit20 : its.length ≤ 20 := by
    rw [hperm.length_eq, tag_len]
    have e2 : (List.map (·.length) (namesOf rr)) = rr.map (·.length) := by simp [namesOf, Function.comp_def]
    rw [e2]; exact hO.few
  refine while_rest (R13a s.heap L TO b its) ?_ ?_
  · rintro h tk ⟨m, lt, c, hn, hto, st, oT, pT⟩
    have FT : Fr s.heap L h m := ⟨hn, st, aL⟩
    rw [pin4 hto hto hto hto] at FT
    obtain ⟨fz, hfz⟩ : ∃ fz, fz = fullOf s.heap L h := ⟨_, rfl⟩
    have NT : News s.heap L h fz := hfz ▸ News.full
    dsimp only
    clear N5 F4
    k_steps
    exact hfin TO h tk st hTO.2.2 ⟨lt, c, oT, pT⟩
  intro Q' hQ'
  refine while_rule (J13a s.heap L D HP TO PL b rr its) ?_ (its.length + 1) ?_
  rotate_left
  · refine ⟨AG, _, fun _ => ⟨0, [], 0, []⟩, [], [], plt0, agt0, [], [], its, [], t, tk3, F4.ns, ⟨rfl, rfl, rfl, rfl, rfl, rfl, rfl⟩, F4.keep, hAGk, ⟨⟨0, hHP.1⟩, ⟨0, hTO.1⟩, ⟨0, oPL⟩, ⟨cAG, by rw [hag0]; exact hAG0.1⟩, (fun _ h => nomatch h), .nil⟩, ⟨?_, ?_, hsrt, ?_, rfl, ⟨by decide, fun _ h => nomatch h⟩, ⟨?_, ?_, ?_, fun _ h => nomatch h⟩, ⟨?_, .nil⟩, ?_⟩, ?_, ?_⟩
    · rw [hplm]; decide
    · rw [hrem0]; exact hperm
    · intro x hx
      cases x.1 <;> rfl
    · rw [hagm]; decide
    · rw [hagm, hrem0]
      intro j hj
      rw [namesOf, List.length_map, hO.five]
      simp at hj
      lia
    · intro j hj
      left
      rw [hagm]
      have : j < (remF rr (plt0.map (·.1))).length := by
        unfold rowF at hj
        apply Classical.byContradiction
        intro q
        exact hj (by simp [List.getD, Nat.le_of_not_lt q])
      rw [hrem0, namesOf, List.length_map, hO.five] at this
      simp; lia
    · intro i a b h0 ha hb
      simp at ha
    · simp; exact hit20
    · exact fun _ => rfl
    · rw [if_neg]
      intro q; have := congrArg List.length hagm; rw [q] at this; cases this
  clear N5 F4
  rintro RW n hRW h tk1 ⟨AG, m, f, lh, lt, plt, agt, P, S, srt, dn, tl, td, hn, hm, st, hAk, hT, hM, hag, hnn⟩
  have FT : Fr s.heap L h m := ⟨hn, st, aL⟩
  rw [pin8 hm.rows hm.last hm.depth hm.places hm.told hm.heap hm.again hm.again] at FT
  refine hideG fun hG0 kG0 => ?_
  obtain ⟨cH, oH⟩ := hT.heap
  obtain ⟨cT, oT⟩ := hT.told
  obtain ⟨cP, oP⟩ := hT.plc
  obtain ⟨cA, oA⟩ := hT.agn
  obtain ⟨fz, hfz⟩ : ∃ fz, fz = fullOf s.heap L h := ⟨_, rfl⟩
  refine kG0 ?_
  clear kG0 hG0
  have NT : News s.heap L h ((AG, lstO (natVals agt).toArray cA) :: fz) := by
    intro p hp
    rcases List.mem_cons.mp hp with rfl | hp
    · exact ⟨oA, hAk.ns, hAk.nb⟩
    · exact News.full p (hfz ▸ hp)
  iterate 5 walk_at "one"
  rename Fr _ _ _ _ => F1
  rename News _ _ _ _ => N1
  have hu : (Around.deeper (Around.mk none dp fr gd un) (envOf (Str.ofString "_law_told") default L 186 (.ref 185))).units < cLine := Rm.unit (Rm.deeper hR)
  refine ne_nil (its := natVals agt) (N1 (AG, _) (.tail _ (.head _))).1 (N1 _ (.head _)).1 hu ?_ ?_
  · intro hne
    have hag0 : agt = [] := by simpa [natVals] using hne
    iterate 1 walk_at "one"
    rename Fr _ _ _ _ => FE
    rename News _ _ _ _ => NE
    have hS := hag hag0
    have hsrt0 : srt = [] := by
      have h1 := cover_empty (by have := hM.cover; rwa [hag0, hS] at this)
      have h2 := hM.perm
      rw [tag_nil 0 h1] at h2
      exact h2.eq_nil
    have hdue := hM.due
    rw [hsrt0] at hdue
    have kbE := keep_of st FE NE fun p hp => .tail _ (.tail _ (hfz ▸ hp))
    have hlt := hT.keeps (h' := _) fun a o e sq => kbE a o (fun q => by rw [q] at e; exact SeqO.ne_ns sq hn e) e
    obtain ⟨c, oTE⟩ := hlt.told
    refine WhileTurn.no rfl (hQ' _ _ ⟨_, lt, c, FE.ns, rfl, FE.keep, oTE, ?_⟩)
    rw [hdue]
    simp only [dueF, List.append_nil]
    exact Paired.imp (fun v x it => it.stays fun a o e => of_hideAll _ e) hlt.trips
  · intro hne
    iterate 1 walk_at "one"
    refine WhileTurn.yes rfl ?_
    iterate 2 walk_at "one"
    rename Fr _ _ _ _ => FW
    rename News _ _ _ _ => NW
    rename Heap => HW
    have kbW := keep_of st FW NW fun p hp => .tail _ (.tail _ (hfz ▸ hp))
    have hTW := hT.keeps (h' := HW) fun a o e sq => kbW a o (fun q => by rw [q] at e; exact SeqO.ne_ns sq hn e) e
    refine hideG fun hG0 kG0 => ?_
    obtain ⟨I, hI⟩ : ∃ I, I = HW.objs.size := ⟨_, rfl⟩
    have hltW : ∀ {p : Addr} {o : Obj}, HW.get? p = some o → p ≠ I := fun e => by rw [hI]; exact Nat.ne_of_lt (Heap.lt_size e)
    have hLI : L < I := by rw [hI]; exact FW.ns.lt
    have nI0 : s.heap.get? I = none := Heap.get?_none_of_le (Nat.le_trans aL (Nat.le_of_lt hLI))
    have hTW2 := hTW.more
    rw [← hI] at hTW2
    obtain ⟨cHW, oHW⟩ := hTW.heap
    obtain ⟨cTW, oTW⟩ := hTW.told
    obtain ⟨cPW, oPW⟩ := hTW.plc
    obtain ⟨cAW, oAW⟩ := hTW.agn
    refine kG0 ?_
    clear kG0 hG0
    have nW := FW.ns
    have stW := FW.keep
    refine for_list (l := AG) (items := (natVals agt).toArray) (J13b s.heap L I D HP TO PL AG b rr its lt plt agt dn P srt tl td) rfl (fun _ => rfl) ?_ ?_ ?_ ?_ ?_ ?_ ?_
    · exact ⟨_, oAW, rfl, _, rfl⟩
    · show ∀ (i : Nat) (h h' : Heap), _ → KeepBut HW.objs.size h h' → _
      rw [← hI]
      rintro i h h' ⟨m, f, lh, S, hn, hm, st, hT, hM⟩ kb
      refine ⟨m, f, lh, S, hn.at' fun o e => kb _ _ (Nat.ne_of_lt hLI) e, hm, fun p o e => kb _ _ (fun q => by rw [q, nI0] at e; cases e) (st _ _ e), ?_, hM⟩
      refine ⟨hT.heap.imp fun c e => kb _ _ (hltW oHW) e, hT.told.imp fun c e => kb _ _ (hltW oTW) e, hT.plc.imp fun c e => kb _ _ (hltW oPW) e, hT.agn.imp fun c e => kb _ _ (hltW oAW) e, fun v hv => (hT.ents v hv).hid fun a o ha e _ => kb a o (fun q => ha (by rw [q]; exact .head _)) e,
        Paired.imp (fun v t y => y.hid fun a o ha e _ => kb a o (fun q => ha (by rw [q]; exact .head _)) e) hT.trips⟩
    · rintro i h ⟨m, f, lh, S, hn, hm, st, hT, hM⟩
      obtain ⟨c, o⟩ := hT.agn
      exact ⟨_, o, rfl, _, rfl⟩
    · exact ⟨_, f, lh, S, nW, ⟨rfl, rfl, rfl, rfl, rfl, rfl, rfl⟩, stW, hTW2, by rw [List.drop_zero]; exact hM⟩
    · show ∀ (RW : Shared → Prop) (i : Nat), (∀ (h_ : Heap) (tk_ : Nat), _ → h_.IsListIter HW.objs.size _ _ → _) → ∀ (v : Value) (h : Heap) (tk : Nat), i < _ → _ → _ → h.IsListIter HW.objs.size _ _ → _
      rw [← hI]
      rintro RW i hRW v h tk hi hv ⟨m, f, lh, S, hn, hm, st, hT, hM⟩ hit
      have hagl : i < agt.length := by simpa [natVals] using hi
      refine hideG fun hG0 kG0 => ?_
      obtain ⟨⟨j, u⟩, hju⟩ : ∃ z, agt[i] = z := ⟨_, rfl⟩
      have hgi : agt[i]? = some (j, u) := by rw [List.getElem?_eq_getElem hagl, hju]
      obtain rfl : v = .int (j : Int) u := by
        have e := natVals_get hgi
        have hv' : (natVals agt)[i]? = some v := by simpa using hv
        rw [e] at hv'; exact (Option.some.inj hv').symm
      have hdrop : (agt.map (·.1)).drop i = j :: (agt.map (·.1)).drop (i + 1) := by
        rw [List.drop_eq_getElem_cons (by simpa using hagl)]
        simp [hju]
      rw [hdrop] at hM
      have hpl5 : plt.length = 5 := by have := hM.five; simpa using this
      have hno5 : (namesOf rr).length = 5 := by rw [namesOf, List.length_map]; exact hO.five
      have hj5 : j < 5 := by
        have := hM.cover.lt j (.head _)
        simpa [remF, hno5, hpl5] using this
      obtain ⟨⟨p, up⟩, hpu⟩ : ∃ z, plt[j]? = some z := ⟨plt[j], List.getElem?_eq_getElem (by lia)⟩
      obtain ⟨cH, oH⟩ := hT.heap
      obtain ⟨cT, oT⟩ := hT.told
      obtain ⟨cP, oP⟩ := hT.plc
      obtain ⟨cA, oA⟩ := hT.agn
      obtain ⟨fz, hfz⟩ : ∃ fz, fz = (fullOf s.heap L h).filter fun p => decide (p.1 ∉ [HP]) := ⟨_, rfl⟩
      have FT : Fr s.heap L h m := ⟨hn, st, aL⟩
      rw [pin8 hm.rows hm.last hm.depth hm.places hm.told hm.heap hm.again hm.again] at FT
      have NT : News s.heap L h ((HP, lstO lh.toArray cH) :: (PL, lstO (natVals plt).toArray cP) :: fz) := by
        intro p hp
        rcases List.mem_cons.mp hp with rfl | hp
        · exact ⟨oH, hHP.2⟩
        rcases List.mem_cons.mp hp with rfl | hp
        · exact ⟨oP, hPLn⟩
        · rw [hfz] at hp
          exact News.full p (List.mem_filter.mp hp).1
      have hfzn : ∀ p ∈ fz, p.1 ≠ HP := by
        intro p hp
        rw [hfz] at hp
        simpa using (List.mem_filter.mp hp).2
      have hj5' : j < ras.length := by lia
      have hjr : j < rr.length := by have := hO.five; lia
      obtain ⟨lj, cj, oj, pj⟩ := Paired.at2 hDp j hj5' hjr
      refine kG0 ?_
      clear kG0 hG0
      iterate 9 walk_at "one"
      rename Fr _ _ _ _ => F2
      rename News _ _ _ _ => N2
      refine item_at (l := natVals plt) (N2 (PL, _) (.tail _ (.head _))).1 (by lia) (natVals_get hpu) ?_
      iterate 7 walk_at "one"
      refine item_at (l := ras.map Value.ref) (F2.keep _ _ hDo) (by lia) (by rw [List.getElem?_map, List.getElem?_eq_getElem hj5']; rfl) ?_
      iterate 1 walk_at "one"
      have hll : lj.length = rr[j].length := Paired.len pj
      have hr20 : rr[j].length ≤ 20 := Nat.le_trans (mem_sum_le (List.getElem_mem hjr)) hO.few
      refine len_at (F2.keep _ _ oj) (by lia) ?_
      intro t5 tk5
      iterate 3 walk_at "one"
      · rename_i hc1
        have hpl : p < lj.length := by lia
        have hpr : p < rr[j].length := by lia
        refine hideG fun hG0 kG0 => ?_
        obtain ⟨a, Tn, tx, ca, elj, oa, sTn⟩ := Paired.at2 pj p hpl hpr
        refine kG0 ?_
        clear kG0 hG0
        iterate 6 walk_at "one"
        refine item_at (l := ras.map Value.ref) (F2.keep _ _ hDo) (by lia) (by rw [List.getElem?_map, List.getElem?_eq_getElem hj5']; rfl) ?_
        iterate 3 walk_at "one"
        refine item_at (l := natVals plt) (N2 (PL, _) (.tail _ (.head _))).1 (by lia) (natVals_get hpu) ?_
        refine item_at (l := lj) (F2.keep _ _ oj) (by lia) (List.getElem?_eq_getElem hpl) ?_
        rw [elj]
        refine unpackN_ F2 N2 ⟨_, F2.keep _ _ oa, rfl, _, rfl⟩ rfl rfl rfl ?_
        intro h3 F3 N3
        clear F2 N2
        dsimp only
        iterate 22 walk_at "one"
        rename Fr _ _ _ _ => F4
        rename News _ _ _ _ => N4
        have hrt : RowText b (rr[j][p]) := hO.texts _ (List.getElem_mem hjr) _ (List.getElem_mem hpr)
        have hsmP := hM.small
        refine ⟨X.keeps F4.keep, cp_two ⟨X.keeps F4.keep, _, _, _, T.keeps F4.keep⟩ (by walk_at "room") ⟨_, (N4 _ (.head _)).1, rfl, _, rfl⟩ hsmP hrt ?_⟩
        intro t6 h5 tk5' st5
        have F5 := Fr.stays F4 st5
        have N5 := News.stays N4 st5
        clear F4 N4
        iterate 15 walk_at "one"
        rename Fr _ _ _ _ => F6
        rename News _ _ _ _ => N6
        refine names_at ⟨X.keeps F6.keep, _, _, _, T.keeps F6.keep⟩ (by walk_at "room") (hsmP.lcp _) ?_
        rintro ND h7 tk7 st7 nND ⟨lN, cN, eN, oN⟩
        have F7 := Fr.stays F6 st7
        have N7 := News.put F6 nND oN (News.stays N6 st7)
        clear F6 N6
        have elN : (strValues lN).length = (lcpF P (piecesF rr[j][p])).length := by rw [← eN]; simp [strValues]
        have hfew4 := (hsmP.lcp (piecesF rr[j][p])).few
        iterate 1 walk_at "one"
        refine len_at (l := strValues lN) (N7 _ (.head _)).1 (by lia) ?_
        intro t8 tk8
        rw [elN]
        iterate 23 walk_at "one"
        rename Fr _ _ _ _ => F8
        rename News _ _ _ _ => N8
        rename Heap => H8
        refine hideG fun hG0 kG0 => ?_
        obtain ⟨lTn, cTn, eTn, oTn⟩ := sTn
        refine kG0 ?_
        clear kG0 hG0
        have hlT : (strValues lTn).length = (piecesF rr[j][p]).length := by rw [← eTn]; simp [strValues]
        have hsmN := hrt.names
        have hfewN := hsmN.few
        have hsub : (lcpF P (piecesF rr[j][p])).length ≤ (piecesF rr[j][p]).length := by rw [lcpF_comm]; exact lcpF_len _ _
        refine slice_list F8 N8 ⟨_, F8.keep _ _ oTn, rfl, _, rfl⟩ (.int _ _) .none ?_ (hsz := by rw [List.size_toArray, hlT]; unfold sizeLine; lia)
        intro h9 F9 N9
        rw [slicePick_from _ _ (by rw [List.size_toArray, hlT]; exact hsub)] at N9
        have e9 : (strValues lTn).toArray.toList.drop (lcpF P (piecesF rr[j][p])).length = strValues (lTn.drop (lcpF P (piecesF rr[j][p])).length) := strValues_drop _ _
        rw [e9] at N9
        iterate 5 walk_at "one"
        rename Heap => H9
        refine withN1 N9 ?_
        rintro g0 TT - eTT
        rw [← eTT] at N9
        have kb8 := keep_but [HP] st F8 N8 fun p hp hx => .tail _ (.tail _ (.tail _ (.tail _ (by
          rw [hfz]; exact List.mem_filter.mpr ⟨hp, decide_eq_true hx⟩))))
        have kb9 := keep_but [HP] st F9 N9 fun p hp hx => .tail _ (.tail _ (.tail _ (.tail _ (.tail _ (by
          rw [hfz]; exact List.mem_filter.mpr ⟨hp, decide_eq_true hx⟩)))))
        have oTT := N9 (TT, _) (.head _)
        have hneI : I ≠ L ∧ I ∉ [HP] := ⟨Nat.ne_of_gt hLI, by simp [Ne.symm (hltW oHW)]⟩
        refine hideG fun hG0 kG0 => ?_
        obtain ⟨oI, hoI, cI, dI⟩ := hit
        refine kG0 ?_
        clear kG0 hG0
        have in8 : ∀ z, z ∈ I :: HP :: TO :: PL :: AG :: liveOf s.heap → ∃ o, H8.get? z = some o := by
          intro z hz
          simp only [List.mem_cons] at hz
          rcases hz with q | q | q | q | q | hz
          · rw [q]; exact ⟨_, kb8 _ _ hneI.1 hneI.2 hoI⟩
          · rw [q]; exact ⟨_, (N8 (HP, _) (.tail _ (.tail _ (.head _)))).1⟩
          · rw [q]; exact ⟨_, kb8 _ _ hTO.2.1 (by simp [hTH.1]) oT⟩
          · rw [q]; exact ⟨_, (N8 (PL, _) (.tail _ (.tail _ (.tail _ (.head _))))).1⟩
          · rw [q]; exact ⟨_, kb8 _ _ hAk.ns (by simp [hAk.hp]) oA⟩
          · obtain ⟨o, ho⟩ := mem_live.mp hz
            exact ⟨o, F8.keep _ _ ho⟩
        have in9 : ∀ z, z ∈ I :: HP :: TO :: PL :: AG :: liveOf s.heap → ∃ o, H9.get? z = some o := by
          intro z hz
          simp only [List.mem_cons] at hz
          rcases hz with q | q | q | q | q | hz
          · rw [q]; exact ⟨_, kb9 _ _ hneI.1 hneI.2 hoI⟩
          · rw [q]; exact ⟨_, (N9 (HP, _) (.tail _ (.tail _ (.tail _ (.head _))))).1⟩
          · rw [q]; exact ⟨_, kb9 _ _ hTO.2.1 (by simp [hTH.1]) oT⟩
          · rw [q]; exact ⟨_, (N9 (PL, _) (.tail _ (.tail _ (.tail _ (.tail _ (.head _)))))).1⟩
          · rw [q]; exact ⟨_, kb9 _ _ hAk.ns (by simp [hAk.hp]) oA⟩
          · obtain ⟨o, ho⟩ := mem_live.mp hz
            exact ⟨o, F9.keep _ _ ho⟩
        refine newTuple_at F9 N9 (show 4 ≤ sizeLine by decide) ?_
        intro tup H10 F10 N10 st10 ntup
        dsimp only
        clear F9 N9
        have hTTn : TT ∉ I :: HP :: TO :: PL :: AG :: liveOf s.heap := fun hz => by
          obtain ⟨o, ho⟩ := in8 _ hz
          have : H8.get? TT = none := by rw [eTT]; exact Heap.get?_none_of_le (Nat.le_succ _)
          rw [this] at ho; cases ho
        have ntup' : H9.get? tup = none := ntup
        have htupn : tup ∉ I :: HP :: TO :: PL :: AG :: liveOf s.heap := fun hz => by
          obtain ⟨o, ho⟩ := in9 _ hz
          rw [ntup'] at ho; cases ho
        have kb10 : ∀ a o, a ≠ L → a ∉ [HP] → h.get? a = some o → H10.get? a = some o := fun a o h1 h2 e => st10 _ _ (kb9 a o h1 h2 e)
        have hnL : ∀ {p : Addr} {o : Obj}, h.get? p = some o → SeqO o → p ≠ L := fun e sq q => by rw [q] at e; exact SeqO.ne_ns sq hn e
        have hnH : ∀ {p : Addr}, p ∉ I :: HP :: TO :: PL :: AG :: liveOf s.heap → p ∉ [HP] := fun hp q => hp (by rw [List.mem_singleton.mp q]; exact .tail _ (.head _))
        obtain ⟨e, he⟩ : ∃ e, e = ent P (piecesF rr[j][p]) (j : Int) := ⟨_, rfl⟩
        have hene : ∀ v ∈ lh, v ≠ .ref tup := fun v hv q => by
          obtain ⟨a', T', t1, t2, t3, c', ev, ea, _⟩ := hT.ents v hv
          have m1 := hideAll_mem ea
          rw [ev] at q; cases q
          have := kb9 _ _ (hnL m1.1 ⟨_, _, _, rfl⟩) (hnH m1.2) m1.1
          rw [ntup'] at this; cases this
        have hEnts : ∀ v, v ∈ Value.ref tup :: lh → EntAt b (hideAll H10 (I :: HP :: TO :: PL :: AG :: liveOf s.heap)) v (upd f (.ref tup) e v) := by
          intro v hv
          rcases List.mem_cons.mp hv with q | hv
          · rw [q, upd_self, he]
            refine ⟨tup, TT, tk, u, t6, 0, rfl, hideAll_get _ ?_ htupn, lTn.drop (lcpF P (piecesF rr[j][p])).length, 0, by rw [List.map_drop, eTn]; rfl, hideAll_get _ (N10 (TT, _) (.tail _ (.head _))).1 hTTn⟩
            have := (N10 (tup, _) (.head _)).1
            rw [eTT]
            exact this
          · rw [upd_ne _ _ (hene v hv)]
            exact (hT.ents v hv).hid fun a o ha e sq => kb10 a o (hnL e sq) (hnH ha) e
        have hrl : rowF (remF rr (plt.map (·.1))) j = (rr[j].map piecesF).drop p := rem_row hjr (by rw [List.getElem?_map, hpu]; rfl)
        iterate 2 walk_at "one"
        refine heappush_spec (P := fun v => v ∈ Value.ref tup :: lh) (lt := fun u v => entLt b (upd f (.ref tup) e u) (upd f (.ref tup) e v)) (Gl.hide X T F10.keep hHP.2.2) (by walk_at "room") (N10 (HP, _) (.tail _ (.tail _ (.tail _ (.tail _ (.head _)))))).1 (by have := hM.len; lia) (fun v hv => .tail _ hv) (.head _)
          (ent_cmp fun v hv => (hEnts v hv).stays (hide_less fun a ha => by rw [List.mem_singleton.mp ha]; exact .tail _ (.head _))) ?_
        intro h12 tk12 c12 kb12 o12
        dsimp only
        have F12 := Fr.but F10 hHP.2.1 hHP.2.2 kb12
        have n10 := F10.ns
        clear F10 N10
        k_steps
        have kb13 : ∀ a o, a ≠ L → a ∉ [HP] → h.get? a = some o → h12.get? a = some o := fun a o h1 h2 e => kb12 _ _ (by simpa using h2) (kb10 a o h1 h2 e)
        have hpm : ∀ v, v ∈ pushF (fun u v => entLt b (upd f (.ref tup) e u) (upd f (.ref tup) e v)) (.ref tup) lh → v ∈ Value.ref tup :: lh := fun v hv => push_perm.mem_iff.mp hv
        have hne0 : rowF (remF rr (plt.map (·.1))) j ≠ [] := by
          rw [hrl]
          intro q
          have := congrArg List.length q
          simp at this
          lia
        have hhd : hdF (remF rr (plt.map (·.1))) j = piecesF rr[j][p] := by
          unfold hdF
          rw [hrl, List.drop_eq_getElem_cons (by simpa using hpr)]
          simp
        refine hRW h12 _ ⟨_, upd f (.ref tup) e, pushF (fun u v => entLt b (upd f (.ref tup) e u) (upd f (.ref tup) e v)) (.ref tup) lh, j :: S, F12.ns, ⟨rfl, rfl, rfl, rfl, rfl, rfl, rfl⟩, F12.keep, ⟨⟨c12, o12⟩, ⟨cT, kb13 _ _ hTO.2.1 (by simp [hTH.1]) oT⟩, ⟨cP, kb13 _ _ hPLn.1 (by simp [hTH.2]) oP⟩, ⟨cA, kb13 _ _ hAk.ns (by simp [hAk.hp]) oA⟩, ?_, ?_⟩,
          { hM with cover := hM.cover.take hne0, lies := ?_ }⟩ ⟨oI, kb13 _ _ hneI.1 hneI.2 hoI, cI, dI⟩
        · intro v hv
          exact (hEnts v (hpm v hv)).hid fun a o ha e sq => kb12 a o (fun q => ha (by rw [q]; exact .tail _ (.head _))) e
        · exact Paired.imp (fun v x y => y.hid fun a o ha e sq => kb13 a o (hnL e sq) (hnH ha) e) hT.trips
        · refine Lies.push (hM.lies.congr fun v hv => (upd_ne _ _ (hene v hv)).symm) ?_
          rw [upd_self, he, hhd]
      · rename_i hc1
        have hpl : ¬ p < lj.length := by lia
        refine hideG fun hG0 kG0 => ?_
        obtain ⟨oI, hoI, cI, dI⟩ := hit
        refine kG0 ?_
        clear kG0 hG0
        have hrl : rowF (remF rr (plt.map (·.1))) j = (rr[j].map piecesF).drop p := rem_row hjr (by rw [List.getElem?_map, hpu]; rfl)
        have he0 : rowF (remF rr (plt.map (·.1))) j = [] := by
          rw [hrl]
          exact List.drop_of_length_le (by simp; lia)
        have kb2 := keep_but [HP] st F2 N2 fun p hp hx => .tail _ (.tail _ (by
          rw [hfz]; exact List.mem_filter.mpr ⟨hp, decide_eq_true hx⟩))
        have hneI : I ≠ L ∧ I ∉ [HP] := ⟨Nat.ne_of_gt hLI, by simp [Ne.symm (hltW oHW)]⟩
        rename Heap => H2
        have kb3 : ∀ a o, a ≠ L → h.get? a = some o → H2.get? a = some o := fun a o hL e => by
          by_cases q : a = HP
          · rw [q] at e ⊢
            rw [oH] at e
            rw [← Option.some.inj e]
            exact (N2 (HP, _) (.head _)).1
          · exact kb2 a o hL (by simpa using q) e
        k_steps
        exact hRW _ _ ⟨_, f, lh, S, F2.ns, ⟨rfl, rfl, rfl, rfl, rfl, rfl, rfl⟩, F2.keep, hT.keeps fun a o e sq => kb3 a o (fun q => by rw [q] at e; exact SeqO.ne_ns sq hn e) e, { hM with cover := hM.cover.drop he0 }⟩ ⟨oI, kb3 _ _ hneI.1 hoI, cI, dI⟩
    · rintro h tk ⟨m, f, lh, S, hn, hm, st, hT, hM⟩
      have hdr : (agt.map (·.1)).drop (natVals agt).toArray.size = [] := List.drop_of_length_le (by simp [natVals])
      rw [hdr] at hM
      refine hideG fun hG0 kG0 => ?_
      obtain ⟨cH, oH⟩ := hT.heap
      obtain ⟨cT, oT⟩ := hT.told
      obtain ⟨cP, oP⟩ := hT.plc
      have FT : Fr s.heap L h m := ⟨hn, st, aL⟩
      rw [pin8 hm.rows hm.last hm.depth hm.places hm.told hm.heap hm.rows hm.rows] at FT
      obtain ⟨fz, hfz⟩ : ∃ fz, fz = (fullOf s.heap L h).filter fun p => decide (p.1 ∉ [HP, TO, PL]) := ⟨_, rfl⟩
      refine kG0 ?_
      clear kG0 hG0
      have NT : News s.heap L h ((HP, lstO lh.toArray cH) :: (PL, lstO (natVals plt).toArray cP) :: (TO, lstO lt.toArray cT) :: fz) := by
        intro p hp
        rcases List.mem_cons.mp hp with rfl | hp
        · exact ⟨oH, hHP.2⟩
        rcases List.mem_cons.mp hp with rfl | hp
        · exact ⟨oP, hPLn⟩
        rcases List.mem_cons.mp hp with rfl | hp
        · exact ⟨oT, hTO.2⟩
        · rw [hfz] at hp
          exact News.full p (List.mem_filter.mp hp).1
      have hfzn : ∀ p ∈ fz, p.1 ≠ HP ∧ p.1 ≠ TO ∧ p.1 ≠ PL := by
        intro p hp
        rw [hfz] at hp
        simpa using (List.mem_filter.mp hp).2
      dsimp only
      iterate 14 walk_at "one"
      rename Fr _ _ _ _ => F2
      rename News _ _ _ _ => N2
      rename Heap => H2
      refine withN2 N2 ?_
      rintro g0 zz AG2 - rfl rfl
      have hord := (by assumption : HP < AG2 ∧ PL < AG2 ∧ TO < AG2 ∧ AllLt AG2 fz)
      have oAG2 := N2 (AG2, _) (.tail _ (.head _))
      have kb2 := keep_but [HP, TO, PL] st F2 N2 fun p hp hx => .tail _ (.tail _ (.tail _ (.tail _ (.tail _ (by
        rw [hfz]; exact List.mem_filter.mpr ⟨hp, decide_eq_true hx⟩)))))
      have hAk2 : AGok s.heap L HP TO PL AG2 := ⟨Nat.ne_of_gt hord.1, Nat.ne_of_gt hord.2.2.1, Nat.ne_of_gt hord.2.1, oAG2.2.1, oAG2.2.2⟩
      have hnL : ∀ {p : Addr} {o : Obj}, h.get? p = some o → SeqO o → p ≠ L := fun e sq q => by rw [q] at e; exact SeqO.ne_ns sq hn e
      have hn3 : ∀ {p : Addr}, p ∉ HP :: TO :: PL :: liveOf s.heap → p ∉ [HP, TO, PL] := fun hp q => hp (by simp at q; simp only [List.mem_cons]; rcases q with q | q | q <;> simp [q])
      have hT1 := ((hT.less (hide' := HP :: TO :: PL :: liveOf s.heap) fun a ha => by
        simp only [List.mem_cons] at ha ⊢
        rcases ha with q | q | q | q
        · exact .inr (.inl q)
        · exact .inr (.inr (.inl q))
        · exact .inr (.inr (.inr (.inl q)))
        · exact .inr (.inr (.inr (.inr (.inr q))))).also (z := AG2) fun a o ha e sq => by
          have hb : s.heap.get? a = none := not_live.mp fun q => ha (.tail _ (.tail _ (.tail _ q)))
          exact Nat.ne_of_lt (allLt_mem hord.2.2.2 (a, o) (by rw [hfz]; exact List.mem_filter.mpr ⟨mem_fullOf.mpr ⟨e, hb, hnL e sq⟩, decide_eq_true (hn3 ha)⟩))).less (hide' := HP :: TO :: PL :: AG2 :: liveOf s.heap) fun a ha => by
        simp only [List.mem_cons] at ha ⊢
        rcases ha with q | q | q | q | q
        · exact .inr (.inl q)
        · exact .inr (.inr (.inl q))
        · exact .inr (.inr (.inr (.inl q)))
        · exact .inl q
        · exact .inr (.inr (.inr (.inr q)))
      have hT2 : TSt b (HP :: TO :: PL :: AG2 :: liveOf s.heap) HP TO PL AG2 H2 f lh lt plt [] dn :=
        hT1.anew ⟨cH, (N2 (HP, _) (.tail _ (.tail _ (.head _)))).1⟩ ⟨cT, (N2 (TO, _) (.tail _ (.tail _ (.tail _ (.tail _ (.head _)))))).1⟩ ⟨cP, (N2 (PL, _) (.tail _ (.tail _ (.tail _ (.head _))))).1⟩ ⟨0, oAG2.1⟩ (fun v hv => hv) fun a o ha e sq => kb2 a o (hnL e sq) (hn3 fun q => ha (by
          simp only [List.mem_cons] at q ⊢
          rcases q with q | q | q | q
          · exact .inl q
          · exact .inr (.inl q)
          · exact .inr (.inr (.inl q))
          · exact .inr (.inr (.inr (.inr q))))) e
      clear hT1
      refine ne_nil (its := lh) (N2 (HP, _) (.tail _ (.tail _ (.head _)))).1 (N2 (zz, _) (.head _)).1 hu ?_ ?_
      · intro hlh
        have hS0 : S = [] := by
          have := hM.lies.perm.length_eq
          rw [hlh] at this
          simpa using this.symm
        iterate 1 walk_at "one"
        k_steps
        refine hRW _ _ _ ?_ ⟨AG2, _, f, lh, lt, plt, [], P, S, srt, dn, tl, td, F2.ns, ⟨rfl, rfl, rfl, rfl, rfl, rfl, rfl⟩, F2.keep, hAk2, hT2, hM, fun _ => hS0, rfl⟩
        rw [hnn, if_pos rfl, if_neg (fun q => hne (by rw [q]; rfl))]
        lia
      · intro hlh
        refine hideG fun hG0 kG0 => ?_
        obtain ⟨x0, r, hxr⟩ : ∃ x0 r, lh = x0 :: r := by
          cases lh with
          | nil => exact absurd rfl hlh
          | cons x0 r => exact ⟨x0, r, rfl⟩
        refine kG0 ?_
        clear kG0 hG0
        subst hxr
        refine hideG fun hG0 kG0 => ?_
        obtain ⟨k, hkS, hfx, hmin, hL3⟩ := hM.lies.pop
        obtain ⟨rest, srt', hrk, hsrt', hp', hs', hab'⟩ := turn_ok (rem_rises hO _) hM.perm hM.sorted hM.above hM.cover hkS fun j hj => by rw [← hfx]; exact hmin j hj
        have hC3 := hM.cover.pop hkS
        rw [List.nil_append] at hC3
        obtain ⟨a0, RT, u1, u2, u3, ca0, ea0, oa0, lR, cR, eR, oR⟩ := hT2.ents x0 (.head _)
        have ma0 := hideAll_mem oa0
        have mR := hideAll_mem oR
        have hlen5 := hM.len
        obtain ⟨Nk, hNk⟩ : ∃ N, N = hdF (remF rr (plt.map (·.1))) k := ⟨_, rfl⟩
        refine kG0 ?_
        clear kG0 hG0
        rw [← hNk] at hfx hrk hsrt' hab'
        obtain ⟨sh, hsh⟩ : ∃ sh, sh = (lcpF P Nk).length := ⟨_, rfl⟩
        have oa1 : H2.get? a0 = some { cls := .type "tuple", data := .seq #[.int (-(sh : Int)) u1, .ref RT, .int (k : Int) u2, .str (pathF b (lcpF P Nk)) u3] ca0 } := by
          have := ma0.1
          rw [hfx] at this
          rw [hsh]; exact this
        have eR1 : lR.map (·.1) = Nk.drop sh := by
          rw [eR, hfx, hsh]; rfl
        iterate 12 walk_at "one"
        refine heappop_spec (P := fun v => v ∈ x0 :: r) (lt := fun u v => entLt b (f u) (f v)) (Gl.hide X T F2.keep hHP.2.2) (by walk_at "room") (N2 (HP, _) (.tail _ (.tail _ (.head _)))).1 (by simp at hlen5; lia) (fun v hv => hv)
          (ent_cmp fun v hv => (hT2.ents v hv).stays (hide_less fun a ha => by rw [List.mem_singleton.mp ha]; exact .head _)) ?_
        intro h3 tk3' c3 kb3 o3
        dsimp only
        have n2 := F2.ns
        have st2 := F2.keep
        have F3 := Fr.but F2 hHP.2.1 hHP.2.2 kb3
        have st3 := F3.keep
        obtain ⟨f3, hf3⟩ : ∃ fz, fz = (fullOf s.heap L h3).filter fun p => decide (p.1 ∉ [AG2]) := ⟨_, rfl⟩
        have N3 : News s.heap L h3 ((AG2, lstO #[] 0) :: f3) := by
          intro p hp
          rcases List.mem_cons.mp hp with rfl | hp
          · exact ⟨kb3 _ _ hAk2.hp oAG2.1, oAG2.2⟩
          · rw [hf3] at hp
            exact News.full p (List.mem_filter.mp hp).1
        clear F2 N2
        rw [ea0]
        have hne0 : a0 ≠ HP := fun q => ma0.2 (by rw [q]; exact .head _)
        have hneR : RT ≠ HP := fun q => mR.2 (by rw [q]; exact .head _)
        refine unpackN_ F3 N3 ⟨_, kb3 _ _ hne0 oa1, rfl, _, rfl⟩ rfl rfl rfl ?_
        intro h4 F4 N4
        clear F3 N3
        dsimp only
        iterate 23 walk_at "one"
        rename Fr _ _ _ _ => F5
        rename News _ _ _ _ => N5
        have hf3n : ∀ p ∈ f3, p.1 ≠ AG2 := by
          intro p hp
          rw [hf3] at hp
          simpa using (List.mem_filter.mp hp).2
        refine append_N F5 N5 hf3n (by decide) ?_
        intro h6 F6 N6
        dsimp only
        clear F5 N5
        iterate 1 walk_at "one"
        rename Fr _ _ _ _ => FX
        rename News _ _ _ _ => NX
        rename Heap => HX
        have kbX := keep_but [AG2] st3 FX NX fun p hp hx => .tail _ (by
          rw [hf3]; exact List.mem_filter.mpr ⟨hp, decide_eq_true hx⟩)
        have nX := FX.ns
        have stX := FX.keep
        have hnA : ∀ {p : Addr}, p ∉ HP :: TO :: PL :: AG2 :: liveOf s.heap → p ∉ [AG2] := fun hp q => hp (by rw [List.mem_singleton.mp q]; exact .tail _ (.tail _ (.tail _ (.head _))))
        have hnL2 : ∀ {p : Addr} {o : Obj}, H2.get? p = some o → SeqO o → p ≠ L := fun e sq q => by rw [q] at e; exact SeqO.ne_ns sq n2 e
        have kb23 : ∀ a o, a ∉ HP :: TO :: PL :: AG2 :: liveOf s.heap → H2.get? a = some o → SeqO o → HX.get? a = some o := fun a o ha e sq => kbX _ _ (hnL2 e sq) (hnA ha) (kb3 _ _ (fun q => ha (by rw [q]; exact .head _)) e)
        have hHA : HP ∉ [AG2] ∧ TO ∉ [AG2] ∧ PL ∉ [AG2] := ⟨by simp [Ne.symm hAk2.hp], by simp [Ne.symm hAk2.to], by simp [Ne.symm hAk2.pl]⟩
        refine hideG fun hG0 kG0 => ?_
        obtain ⟨cT2, oT2⟩ := hT2.told
        obtain ⟨cP2, oP2⟩ := hT2.plc
        refine kG0 ?_
        clear kG0 hG0
        have hTX : TSt b (HP :: TO :: PL :: AG2 :: liveOf s.heap) HP TO PL AG2 HX f (popF (fun u v => entLt b (f u) (f v)) (x0 :: r)) lt plt [(k, u2)] dn :=
          hT2.anew ⟨c3, kbX _ _ hHP.2.1 hHA.1 o3⟩ ⟨cT2, kbX _ _ hTO.2.1 hHA.2.1 (kb3 _ _ hTH.1 oT2)⟩ ⟨cP2, kbX _ _ hPLn.1 hHA.2.2 (kb3 _ _ hTH.2 oP2)⟩ ⟨1, (NX (AG2, _) (.head _)).1⟩
            (fun v hv => .tail _ ((pop_ok (weak_by b f) hM.lies.heap).2.mem_iff.mp hv)) kb23
        have sRX : StrsAt (hideAll HX (HP :: TO :: PL :: AG2 :: liveOf s.heap)) RT (Nk.drop sh) := StrsAt.hid (h := H2) ⟨lR, cR, eR1, oR⟩ kb23
        refine while_rest (R13b s.heap L D HP TO PL AG2 RT b rr lt plt dn f P Nk k sh S tl td u1 u2 u3) ?_ ?_
        · clear FX NX
          rintro hh tkh ⟨m', lh', S', agt', nh, hm', htop, sth, hT', hL', hC', hkA, hSS, sR, hless⟩
          have FT : Fr s.heap L hh m' := ⟨nh, sth, aL⟩
          rw [pin12 hm'.rows hm'.last hm'.depth hm'.places hm'.told hm'.heap hm'.again htop.less htop.rest htop.k htop.both htop.both] at FT
          obtain ⟨f1, hf1⟩ : ∃ fz, fz = fullOf s.heap L hh := ⟨_, rfl⟩
          have NT : News s.heap L hh f1 := hf1 ▸ News.full
          have hshP : sh ≤ P.length := by
            rw [hsh]; exact lcpF_len _ _
          dsimp only
          iterate 1 walk_at "one"
          refine while_rest (R13c L D HP TO PL AG2 RT b P Nk k sh u1 u2 u3 hh) ?_ ?_
          · clear FT NT
            rintro hy tky ⟨m2, tl2, td2, ny, hmy, htopy, kby⟩
            have FT := KeepBut.fr' sth aL kby ny
            rw [pin12 hmy.rows hmy.last hmy.depth hmy.places hmy.told hmy.heap hmy.again htopy.less htopy.rest htopy.k htopy.both htopy.both] at FT
            refine hideG fun hG0 kG0 => ?_
            obtain ⟨f2, hf2⟩ : ∃ fz, fz = fullOf s.heap L hy := ⟨_, rfl⟩
            have NT : News s.heap L hy f2 := hf2 ▸ News.full
            have sthy := FT.keep
            have hte : (P.take sh).length = sh := by rw [List.length_take]; lia
            have eneg : (ent P Nk (k : Int)).neg = -(sh : Int) := by rw [hsh]; rfl
            rw [hte] at FT
            obtain ⟨lR2, cR2, eR2, oR2⟩ := sR
            refine kG0 ?_
            clear kG0 hG0
            have mR2 := hideAll_mem oR2
            have hRL : RT ≠ L := fun q => SeqO.ne_ns (SeqO.lst _ _) nh (q ▸ mR2.1)
            have hRy : hy.get? RT = some (lstO (strValues lR2).toArray cR2) := kby _ _ hRL mR2.1
            have hsmN : Small Nk := by
              rw [hNk]
              obtain ⟨p, hp⟩ : ∃ p, (plt.map (·.1))[k]? = some p := by
                have h1 := hM.cover.lt k hkS
                unfold remF at h1
                rw [List.length_zipWith] at h1
                exact ⟨_, List.getElem?_eq_getElem (by lia)⟩
              have hk5 : k < rr.length := by
                have h1 := hM.cover.lt k hkS
                unfold remF namesOf at h1
                rw [List.length_zipWith, List.length_map] at h1
                lia
              have hne := hM.cover.ne k hkS
              have hr2 := rem_row hk5 hp
              unfold hdF
              rw [hr2] at hne ⊢
              cases e : (rr[k].map piecesF).drop p with
              | nil => exact absurd e hne
              | cons N0 r0 =>
                have : N0 ∈ rr[k].map piecesF := List.mem_of_mem_drop (e ▸ List.mem_cons_self ..)
                obtain ⟨x, hx, ex⟩ := List.mem_map.mp this
                show Small N0
                rw [← ex]
                exact (hO.texts _ (List.getElem_mem hk5) x hx).names
            dsimp only
            iterate 1 walk_at "one"
            obtain ⟨I3, hI3⟩ : ∃ I, I = hy.objs.size := ⟨_, rfl⟩
            have hlty : ∀ {p : Addr} {o : Obj}, hy.get? p = some o → p ≠ I3 := fun e => by rw [hI3]; exact Nat.ne_of_lt (Heap.lt_size e)
            have hLI3 : L < I3 := by rw [hI3]; exact ny.lt
            refine for_list (l := RT) (items := (strValues lR2).toArray) (J13c L D HP TO PL AG2 RT b P Nk k sh u1 u2 u3 hy) rfl (fun _ => rfl) ?_ ?_ ?_ ?_ ?_ ?_ ?_
            · exact ⟨_, hRy, rfl, _, rfl⟩
            · show ∀ (i : Nat) (h h' : Heap), _ → KeepBut hy.objs.size h h' → _
              rw [← hI3]
              rintro i h h' ⟨m, tl, td, hn, hm, htop, kbh⟩ kb
              exact ⟨m, tl, td, hn.at' fun o e => kb _ _ (Nat.ne_of_lt hLI3) e, hm, htop, fun a o hL e => kb _ _ (hlty e) (kbh _ _ hL e)⟩
            · rintro i h ⟨m, tl, td, hn, hm, htop, kbh⟩
              exact ⟨_, kbh _ _ hRL hRy, rfl, _, rfl⟩
            · exact ⟨m2, tl2, td2, ny, by rw [List.take_zero, List.append_nil]; exact hmy, htopy, fun _ _ _ e => e⟩
            · show ∀ (RW : Shared → Prop) (i : Nat), (∀ (h_ : Heap) (tk_ : Nat), _ → h_.IsListIter hy.objs.size _ _ → _) → ∀ (v : Value) (h : Heap) (tk : Nat), i < _ → _ → _ → h.IsListIter hy.objs.size _ _ → _
              rw [← hI3]
              rintro RW i hRW v h tk11 hi hv ⟨m, tl, td, hn, hm, htop, kbh⟩ hit
              have elR : (strValues lR2).length = (Nk.drop sh).length := by rw [← eR2]; simp [strValues]
              have hiN : i < (Nk.drop sh).length := by rw [← elR]; simpa using hi
              have hil : i < lR2.length := by simpa [strValues] using hi
              refine hideG fun hG0 kG0 => ?_
              obtain ⟨⟨c, tc⟩, hz1⟩ : ∃ z, lR2[i]? = some z := ⟨lR2[i], List.getElem?_eq_getElem hil⟩
              have hcN : (Nk.drop sh)[i]? = some c := by rw [← eR2, List.getElem?_map, hz1]; rfl
              obtain rfl : v = .str c tc := by
                simp [strValues, hz1] at hv
                exact hv.symm
              have hcg : Good c ∧ c.length ≤ 3 := hsmN.good c (List.mem_of_mem_drop (List.mem_of_getElem? hcN))
              have hgW : ∀ p ∈ P.take sh ++ (Nk.drop sh).take i, Good p := fun p hp => by
                rcases List.mem_append.mp hp with h1 | h1
                · exact (hM.small.good p (List.mem_of_mem_take h1)).1
                · exact (hsmN.good p (List.mem_of_mem_drop (List.mem_of_mem_take h1))).1
              have hlW : (P.take sh ++ (Nk.drop sh).take i).length = sh + i := by
                rw [List.length_append, hte, List.length_take]; lia
              have hsmW : (pathF b (P.take sh ++ (Nk.drop sh).take i)).length ≤ 1000 := by
                have e1 := join_len_le (n := 8) (B := 3) (show (P.take sh ++ (Nk.drop sh).take i).length ≤ 8 by
                  have := hM.small.few; have h4 := hsmN.few; rw [List.length_drop] at hiN; lia) fun p hp => by
                    rcases List.mem_append.mp hp with h1 | h1
                    · exact (hM.small.good p (List.mem_of_mem_take h1)).2
                    · exact (hsmN.good p (List.mem_of_mem_drop (List.mem_of_mem_take h1))).2
                have e2 := StrLaws.join_length_le slash (P.take sh ++ (Nk.drop sh).take i)
                have htl := topF_len b
                unfold pathF
                rw [Str.length_append]
                lia
              have FT := KeepBut.fr' sthy aL kbh hn
              rw [pin12 hm.rows hm.last hm.depth hm.places hm.told hm.heap hm.again htop.less htop.rest htop.k htop.both htop.both] at FT
              rw [hlW] at FT
              obtain ⟨f4, hf4⟩ : ∃ fz, fz = fullOf s.heap L h := ⟨_, rfl⟩
              refine kG0 ?_
              clear kG0 hG0
              have NT : News s.heap L h f4 := hf4 ▸ News.full
              have sth4 := FT.keep
              iterate 16 walk_at "one"
              rename Fr _ _ _ _ => F3
              rename News _ _ _ _ => N3
              refine join_spec ⟨X.keeps F3.keep, _, _, _, T.keeps F3.keep⟩ (by walk_at "room") hsmW (Nat.le_trans hcg.2 (by decide)) ?_
              intro t3' h5 tk5 st5
              have F5 := Fr.stays F3 st5
              have N5 := News.stays N3 st5
              clear F3 N3
              have etk : (Nk.drop sh).take (i + 1) = (Nk.drop sh).take i ++ [c] := by
                rw [List.take_add_one, hcN]; rfl
              rw [join_path b hgW hcg.1, List.append_assoc, ← etk]
              have ede : (((sh + i : Nat) : Int) + 1) = ((sh + (i + 1) : Nat) : Int) := by lia
              have hlW' : (P.take sh ++ (Nk.drop sh).take (i + 1)).length = sh + (i + 1) := by
                rw [List.length_append, hte, List.length_take]; lia
              refine hideG fun hG0 kG0 => ?_
              obtain ⟨oI, hoI, cI, dI⟩ := hit
              refine kG0 ?_
              clear kG0 hG0
              k_steps
              rename Fr _ _ _ _ => F6
              rename News _ _ _ _ => N6
              rw [ede] at F6
              have kb6 := keep_of sth4 F6 N6 fun p hp => .tail _ (hf4 ▸ hp)
              exact hRW _ _ ⟨_, t3', _, F6.ns, ⟨rfl, rfl, by rw [hlW']; rfl, rfl, rfl, rfl, rfl⟩, ⟨rfl, rfl, rfl, rfl⟩, KeepBut.trans kbh kb6⟩ ⟨oI, kb6 _ _ (Nat.ne_of_gt hLI3) hoI, cI, dI⟩
            · rintro h tk11 ⟨m, tl, td, hn, hm, htop, kbh⟩
              have elR : (strValues lR2).length = (Nk.drop sh).length := by rw [← eR2]; simp [strValues]
              have ePN : P.take sh ++ (Nk.drop sh).take (strValues lR2).toArray.size = Nk := by
                have e1 : (Nk.drop sh).take (strValues lR2).toArray.size = Nk.drop sh := List.take_of_length_le (by rw [List.size_toArray, elR]; exact Nat.le_refl _)
                rw [e1, hsh, ← lcpF_split]
              rw [ePN] at hm
              have FT := KeepBut.fr' sthy aL kbh hn
              rw [pin12 hm.rows hm.last hm.depth hm.places hm.told hm.heap hm.again htop.less htop.rest htop.k htop.both htop.both] at FT
              have kbhh := KeepBut.trans kby kbh
              refine hideG fun hG0 kG0 => ?_
              obtain ⟨cT, oT⟩ := hT'.told
              obtain ⟨cP, oP⟩ := hT'.plc
              obtain ⟨f4, hf4⟩ : ∃ fz, fz = (fullOf s.heap L h).filter fun p => decide (p.1 ∉ [TO, PL]) := ⟨_, rfl⟩
              refine kG0 ?_
              clear kG0 hG0
              have NT : News s.heap L h ((TO, lstO lt.toArray cT) :: (PL, lstO (natVals plt).toArray cP) :: f4) := by
                intro p hp
                rcases List.mem_cons.mp hp with rfl | hp
                · exact ⟨kbhh _ _ hTO.2.1 oT, hTO.2⟩
                rcases List.mem_cons.mp hp with rfl | hp
                · exact ⟨kbhh _ _ hPLn.1 oP, hPLn⟩
                · rw [hf4] at hp
                  exact News.full p (List.mem_filter.mp hp).1
              have hf4n : ∀ p ∈ f4, p.1 ≠ TO ∧ p.1 ≠ PL := by
                intro p hp
                rw [hf4] at hp
                simpa using (List.mem_filter.mp hp).2
              have sth4 := FT.keep
              dsimp only
              iterate 15 walk_at "one"
              rename Fr _ _ _ _ => F5
              rename News _ _ _ _ => N5
              refine newTuple_at F5 N5 (show 3 ≤ sizeLine by decide) ?_
              intro tup H6 F6 N6 st6 ntup
              have oTh : h.get? TO = some (lstO lt.toArray cT) := kbhh _ _ hTO.2.1 oT
              have oPh : h.get? PL = some (lstO (natVals plt).toArray cP) := kbhh _ _ hPLn.1 oP
              have htT : tup ≠ TO ∧ tup ≠ PL := by
                have ntup' : h.get? tup = none := ntup
                exact ⟨fun q => (by rw [q, oTh] at ntup'; cases ntup'), fun q => (by rw [q, oPh] at ntup'; cases ntup')⟩
              dsimp only
              clear F5 N5
              iterate 1 walk_at "one"
              have N7 : News s.heap L H6 ((TO, lstO lt.toArray cT) :: (PL, lstO (natVals plt).toArray cP) :: (tup, { cls := .type "tuple", data := .seq #[.int (k : Int) u2, .str (pathF b Nk) tl, .str (pathF b (lcpF P Nk)) u3] 0 }) :: f4) := by
                intro p hp
                rcases List.mem_cons.mp hp with rfl | hp
                · exact N6 _ (.tail _ (.head _))
                rcases List.mem_cons.mp hp with rfl | hp
                · exact N6 _ (.tail _ (.tail _ (.head _)))
                rcases List.mem_cons.mp hp with rfl | hp
                · exact N6 _ (.head _)
                · exact N6 _ (.tail _ (.tail _ (.tail _ hp)))
              have hn7 : ∀ p ∈ ((PL, lstO (natVals plt).toArray cP) :: (tup, ({ cls := .type "tuple", data := .seq #[.int (k : Int) u2, .str (pathF b Nk) tl, .str (pathF b (lcpF P Nk)) u3] 0 } : Obj)) :: f4), p.1 ≠ TO := by
                intro p hp
                rcases List.mem_cons.mp hp with rfl | hp
                · exact hPT
                rcases List.mem_cons.mp hp with rfl | hp
                · exact htT.1
                · exact (hf4n p hp).1
              have hlt20 := hM.few
              clear N6
              rename Fr _ _ _ _ => F7
              refine append_N F7 N7 hn7 (by simp; unfold sizeLine; lia) ?_
              intro h8 F8 N8
              clear F7 N7
              iterate 5 walk_at "one"
              rename Fr _ _ _ _ => F9
              rename News _ _ _ _ => N9
              have hpl5 : plt.length = 5 := by have := hM.five; simpa using this
              have hk5 : k < 5 := by
                have h1 := hM.cover.lt k hkS
                unfold remF at h1
                rw [List.length_zipWith, hM.five] at h1
                lia
              refine hideG fun hG0 kG0 => ?_
              obtain ⟨⟨p, up⟩, hpu⟩ : ∃ z, plt[k]? = some z := ⟨plt[k], List.getElem?_eq_getElem (by lia)⟩
              refine kG0 ?_
              clear kG0 hG0
              show wpAny _ _ (getItem (.ref PL) (.int ((k : Nat) : Int) u2)) _ _ _
              refine wpAny_getItem_list ⟨_, (N9 (PL, _) (.tail _ (.head _))).1, rfl, _, rfl⟩ (by lia) (by lia) (show (natVals plt).toArray[(((k : Nat) : Int)).toNat]? = _ by simpa using natVals_get hpu) ?_
              iterate 2 walk_at "one"
              rename Fr _ _ _ _ => F10
              rename News _ _ _ _ => N10
              rename Heap => H10
              have kb10 := keep_but [TO, PL] sth4 F10 N10 fun p hp hx => .tail _ (.tail _ (.tail _ (by
                rw [hf4]; exact List.mem_filter.mpr ⟨hp, decide_eq_true hx⟩)))
              show wpAny _ _ (setItem (.ref PL) (.int ((k : Nat) : Int) u2) _) _ _ _
              refine setitem_at (i := k) (l := natVals plt) (N10 (PL, _) (.tail _ (.head _))).1 (by lia) (by rw [natVals_len]; lia) ?_
              intro h11 o11 s11
              have F11 := F10.change s11 hPLn.1 hPLn.2
              have oTO := (s11.2 TO (Ne.symm hPT)).trans (N10 (TO, _) (.head _)).1
              have otup := (s11.2 tup htT.2).trans (N10 (tup, _) (.tail _ (.tail _ (.head _)))).1
              have ntupb := (N10 (tup, _) (.tail _ (.tail _ (.head _)))).2
              clear F10 N10
              dsimp only
              k_steps
              refine hideG fun hG0 kG0 => ?_
              obtain ⟨cH', oH'⟩ := hT'.heap
              obtain ⟨cA', oA'⟩ := hT'.agn
              have nhL : ∀ {p : Addr} {o : Obj}, hh.get? p = some o → SeqO o → p ≠ L := fun e sq q => by rw [q] at e; exact SeqO.ne_ns sq nh e
              have hnTP : ∀ {p : Addr}, p ∉ HP :: TO :: PL :: AG2 :: liveOf s.heap → p ∉ [TO, PL] := fun hp q => hp (by simp at q; simp only [List.mem_cons]; rcases q with q | q <;> simp [q])
              have kbE : ∀ a o, a ≠ L → a ∉ [TO, PL] → hh.get? a = some o → h11.get? a = some o := fun a o h1 h2 e => (s11.2 a (fun q => h2 (by simp [q]))).trans (kb10 a o h1 h2 (kbhh a o h1 e))
              have kbE2 : ∀ a o, a ∉ HP :: TO :: PL :: AG2 :: liveOf s.heap → hh.get? a = some o → SeqO o → h11.get? a = some o := fun a o ha e sq => kbE a o (nhL e sq) (hnTP ha) e
              have hagne : agt' ≠ [] := fun q => by rw [q] at hkA; exact nomatch hkA
              have hplt : (plt.map (·.1))[k]? = some p := by rw [List.getElem?_map, hpu]; rfl
              have hhpin : HP ∉ [TO, PL] ∧ AG2 ∉ [TO, PL] := ⟨by simp [Ne.symm hTH.1, Ne.symm hTH.2], by simp [hAk2.to, hAk2.pl]⟩
              have htupn : tup ∉ HP :: TO :: PL :: AG2 :: liveOf s.heap := by
                have ntup' : h.get? tup = none := ntup
                simp only [List.mem_cons, not_or]
                refine ⟨fun q => ?_, htT.1, htT.2, fun q => ?_, not_live.mpr ntupb.2⟩
                · rw [q, kbhh _ _ hHP.2.1 oH'] at ntup'; cases ntup'
                · rw [q, kbhh _ _ hAk2.ns oA'] at ntup'; cases ntup'
              have hremS := rem_set hplt hrk
              have hdue := hM.due
              rw [hsrt'] at hdue
              have hfew := hM.few
              have hsl : srt.length = srt'.length + 1 := by rw [hsrt']; rfl
              obtain ⟨tkx, oPL⟩ : ∃ tkx, h11.get? PL = some (lstO (natVals (plt.set k (p + 1, tkx))).toArray cP) := ⟨_, by unfold natVals; rw [List.map_set]; exact o11⟩
              refine kG0 ?_
              clear kG0 hG0
              have hTS : TSt b (HP :: TO :: PL :: AG2 :: liveOf s.heap) HP TO PL AG2 h11 f lh' (lt ++ [.ref tup]) (plt.set k (p + 1, tkx)) agt' (dn ++ [((k : Int), pathF b Nk, pathF b (lcpF P Nk))]) :=
                ⟨⟨cH', kbE _ _ hHP.2.1 hhpin.1 oH'⟩, ⟨cT + 1, by simpa using oTO⟩, ⟨cP, oPL⟩, ⟨cA', kbE _ _ hAk2.ns hhpin.2 oA'⟩, fun v hv => (hT'.ents v hv).hid kbE2, Paired.snoc (Paired.imp (fun v x y => y.hid kbE2) hT'.trips) ⟨tup, 0, u2, tl, u3, rfl, hideAll_get _ otup htupn⟩⟩
              have hpls : (plt.set k (p + 1, tkx)).map (·.1) = (plt.map (·.1)).set k (p + 1) := by rw [List.map_set]
              have hTM : TMean b rr its f lh' (lt ++ [.ref tup]) ((plt.set k (p + 1, tkx)).map (·.1)) (agt'.map (·.1)) S' Nk srt' (dn ++ [((k : Int), pathF b Nk, pathF b (lcpF P Nk))]) := by
                rw [hpls]
                refine ⟨?_, ?_, hs', hab', ?_, hsmN, ?_, ?_, ?_⟩
                · rw [List.length_set, List.length_map]; exact hpl5
                · rw [hremS]; exact hp'
                · rw [hdue, List.append_assoc]; rfl
                · rw [hremS]; exact hC'.next hkA
                · rw [hremS]
                  refine hL'.next fun j hj => ⟨fun q => ?_, by rw [← hsh]; exact hless j hj⟩
                  exact (List.nodup_append.mp hC'.nd).2.2 k hkA j hj q.symm
                · rw [List.length_append]
                  show lt.length + 1 + srt'.length ≤ 20
                  lia
              have hlt9 : srt'.length + 1 < n := by
                rw [hnn, if_neg (fun q => hne (by rw [q]; rfl))]; lia
              have hfin9 : srt'.length + 1 = srt'.length + if agt' = [] then 0 else 1 := by rw [if_neg hagne]
              have n11 : h11.Ns L m := by
                rw [pin12 hm.rows hm.last hm.depth hm.places hm.told hm.heap hm.again htop.less htop.rest htop.k htop.both htop.both]
                exact F11.ns
              refine hRW h11 _ (srt'.length + 1) hlt9 ⟨AG2, m, f, lh', lt ++ [.ref tup], plt.set k (p + 1, tkx), agt', Nk, S', srt', dn ++ [((k : Int), pathF b Nk, pathF b (lcpF P Nk))], tl, td, n11, hm, F11.keep, hAk2, hTS, hTM, fun q => absurd q hagne, hfin9⟩
            · k_steps
          intro Q3 hQ3
          refine while_rule (J13d L D HP TO PL AG2 RT b P Nk k sh u1 u2 u3 hh) ?_ _
            ⟨P.length, m', tl, td, rfl, hshP, Nat.le_refl _, nh, by rw [List.take_length]; exact hm', htop, fun _ _ _ e => e⟩
          clear FT NT
          rintro RW n hRW h tk10 ⟨d, m, tl2, td2, hnd, hd1, hd2, hn, hm, htop2, kbh⟩
          have FT := KeepBut.fr' sth aL kbh hn
          rw [pin12 hm.rows hm.last hm.depth hm.places hm.told hm.heap hm.again htop2.less htop2.rest htop2.k htop2.both htop2.both] at FT
          obtain ⟨f2, hf2⟩ : ∃ fz, fz = fullOf s.heap L h := ⟨_, rfl⟩
          have NT : News s.heap L h f2 := hf2 ▸ News.full
          have sth2 := FT.keep
          have htl : (P.take d).length = d := by rw [List.length_take]; lia
          have eneg : (ent P Nk (k : Int)).neg = -(sh : Int) := by rw [hsh]; rfl
          rw [htl, eneg] at FT
          k_steps
          by_cases hds : d = sh
          · subst hds
            exact WhileTurn.no (decide_eq_false (by lia)) (hQ3 _ _ ⟨m, tl2, td2, hn, hm, htop2, kbh⟩)
          refine WhileTurn.yes (decide_eq_true (by lia)) ?_
          iterate 12 walk_at "one"
          rename Fr _ _ _ _ => F3
          rename News _ _ _ _ => N3
          have hsmd := hM.small.take d
          refine dirname_spec ⟨X.keeps F3.keep, _, _, _, T.keeps F3.keep⟩ (by walk_at "room") (Nat.le_trans hsmd.path (by decide)) ?_
          intro t3' h5 tk5 st5
          have F5 := Fr.stays F3 st5
          have N5 := News.stays N3 st5
          clear F3 N3
          obtain ⟨e, rfl⟩ : ∃ e, d = e + 1 := ⟨d - 1, by lia⟩
          have hePl : e < P.length := by lia
          have etk : P.take (e + 1) = P.take e ++ [P[e]] := List.take_succ_eq_append_getElem hePl
          have ehd : headF (pathF b (P.take (e + 1))) = pathF b (P.take e) := by
            rw [etk]
            exact (headF_snoc b (fun p hp => (hM.small.good p (List.mem_of_mem_take hp)).1) (hM.small.good _ (List.getElem_mem hePl)).1).1
          rw [ehd]
          have ede : (((e + 1 : Nat) : Int) - 1) = ((e : Nat) : Int) := by lia
          have hte : (P.take e).length = e := by rw [List.length_take]; lia
          k_steps
          rename Fr _ _ _ _ => F6
          rename News _ _ _ _ => N6
          rw [ede] at F6
          refine hRW _ _ (e - sh) (by lia) ⟨e, _, t3', _, rfl, by lia, by lia, F6.ns, ⟨rfl, rfl, by rw [hte]; rfl, rfl, rfl, rfl, rfl⟩, ⟨by rw [eneg]; rfl, rfl, rfl, rfl⟩, KeepBut.trans kbh (keep_of sth2 F6 N6 fun p hp => .tail _ (hf2 ▸ hp))⟩
        intro Q2 hQ2
        refine while_rule (J13e s.heap L D HP TO PL AG2 RT b rr lt plt dn f P Nk k sh S tl td u1 u2 u3) ?_ _
          ⟨_, _, S.erase k, [(k, u2)], nX, ⟨rfl, rfl, rfl, rfl, rfl, rfl, rfl⟩, ⟨by rw [hsh]; rfl, rfl, rfl, rfl⟩, stX, hTX, hL3, hC3, .head _, fun j hj => List.mem_of_mem_erase hj, sRX, rfl⟩
        clear FX NX
        rintro RW n hRW h tk9 ⟨m, lh, S', agt', hn, hm, htop, st, hT, hL, hC, hkA, hSS, sR, hnn2⟩
        have FT : Fr s.heap L h m := ⟨hn, st, aL⟩
        rw [pin12 hm.rows hm.last hm.depth hm.places hm.told hm.heap hm.again htop.less htop.rest htop.k htop.both htop.both] at FT
        refine hideG fun hG0 kG0 => ?_
        obtain ⟨cH, oH⟩ := hT.heap
        obtain ⟨cA, oA⟩ := hT.agn
        obtain ⟨f4, hf4⟩ : ∃ fz, fz = (fullOf s.heap L h).filter fun p => decide (p.1 ∉ [AG2, HP]) := ⟨_, rfl⟩
        refine kG0 ?_
        clear kG0 hG0
        have NT : News s.heap L h ((AG2, lstO (natVals agt').toArray cA) :: (HP, lstO lh.toArray cH) :: f4) := by
          intro p hp
          rcases List.mem_cons.mp hp with rfl | hp
          · exact ⟨oA, oAG2.2⟩
          rcases List.mem_cons.mp hp with rfl | hp
          · exact ⟨oH, hHP.2⟩
          · rw [hf4] at hp
            exact News.full p (List.mem_filter.mp hp).1
        have hlenL : lh.length = S'.length := by have := hL.perm.length_eq; simpa using this
        iterate 6 walk_at "one"
        rename Fr _ _ _ _ => F1
        rename News _ _ _ _ => N1
        rename Heap => H1
        have kb1 : ∀ a o, a ≠ L → h.get? a = some o → H1.get? a = some o := fun a o hL' e => by
          by_cases q : a = HP
          · rw [q] at e ⊢
            rw [oH] at e
            rw [← Option.some.inj e]
            exact (N1 (HP, _) (.tail _ (.tail _ (.head _)))).1
          by_cases q2 : a = AG2
          · rw [q2] at e ⊢
            rw [oA] at e
            rw [← Option.some.inj e]
            exact (N1 (AG2, _) (.tail _ (.head _))).1
          · exact keep_but [AG2, HP] st F1 N1 (fun p hp hx => .tail _ (.tail _ (.tail _ (by rw [hf4]; exact List.mem_filter.mpr ⟨hp, decide_eq_true hx⟩)))) a o hL' (by simp [q, q2]) e
        refine ne_nil (its := lh) (N1 (HP, _) (.tail _ (.tail _ (.head _)))).1 (N1 _ (.head _)).1 hu ?_ ?_
        · intro hl0
          have hS0 : S' = [] := by rw [hl0] at hlenL; exact List.eq_nil_of_length_eq_zero hlenL.symm
          iterate 2 walk_at "one"
          refine WhileTurn.no rfl (hQ2 _ _ ⟨_, lh, S', agt', F1.ns, ⟨rfl, rfl, rfl, rfl, rfl, rfl, rfl⟩, ⟨rfl, rfl, rfl, rfl⟩, F1.keep, ?_, hL, hC, hkA, hSS, ?_, fun j hj => by rw [hS0] at hj; exact nomatch hj⟩)
          · exact hT.keeps fun a o e sq => kb1 a o (fun q => by rw [q] at e; exact SeqO.ne_ns sq hn e) e
          · exact sR.hid fun a o _ e sq => kb1 a o (fun q => by rw [q] at e; exact SeqO.ne_ns sq hn e) e
        · intro hl0
          refine hideG fun hG0 kG0 => ?_
          obtain ⟨y0, r', hyr⟩ : ∃ y0 r', lh = y0 :: r' := by
            cases lh with
            | nil => exact absurd rfl hl0
            | cons x0 r => exact ⟨x0, r, rfl⟩
          refine kG0 ?_
          clear kG0 hG0
          subst hyr
          refine hideG fun hG0 kG0 => ?_
          obtain ⟨k1, hk1, hf1, hmin1, hL1⟩ := hL.pop
          obtain ⟨a1, R1, w1, w2, w3, ca1, ea1, oa1', _⟩ := hT.ents y0 (.head _)
          refine kG0 ?_
          clear kG0 hG0
          have ma1 := hideAll_mem oa1'
          have oa2 : ∀ hh : Heap, (∀ a o, a ≠ L → h.get? a = some o → hh.get? a = some o) → hh.get? a1 = some { cls := .type "tuple", data := .seq #[.int (f y0).neg w1, .ref R1, .int (f y0).j w2, .str (pathF b (f y0).both) w3] ca1 } := fun hh kk => kk _ _ (fun q => SeqO.ne_ns ⟨_, _, _, rfl⟩ hn (q ▸ ma1.1)) ma1.1
          iterate 8 walk_at "one"
          rename Fr _ _ _ _ => F2
          rename News _ _ _ _ => N2
          refine item_at (i := 0) (l := y0 :: r') (N2 (HP, _) (.tail _ (.tail _ (.head _)))).1 (by decide) rfl ?_
          rw [ea1]
          iterate 1 walk_at "one"
          refine tup_at (l := [_, _, _, _]) (j := 0) (oa2 _ kb1) (by decide) (by decide) (by simp [seqIndex?]) rfl ?_
          iterate 1 walk_at "one"
          iterate 3 walk_at "one"
          · rename_i hc
            iterate 1 walk_at "one"
            refine WhileTurn.yes rfl ?_
            iterate 16 walk_at "one"
            rename Fr _ _ _ _ => F3
            rename News _ _ _ _ => N3
            have hcl : ∀ x ∈ agt'.map (·.1) ++ S', x < 5 := fun x hx => by
              have := hC.lt x hx
              unfold remF at this
              rw [List.length_zipWith, hM.five] at this
              lia
            have hS5 : S'.length ≤ 5 := nodup_le 5 (List.nodup_append.mp hC.nd).2.1 fun x hx => hcl x (List.mem_append_right _ hx)
            have hagl : agt'.length ≤ 5 := by
              have := nodup_le 5 (List.nodup_append.mp hC.nd).1 fun x hx => hcl x (List.mem_append_left _ hx)
              simpa using this
            have hr5' : r'.length < 60 := by
              rw [List.length_cons] at hlenL; lia
            refine heappop_spec (P := fun v => v ∈ y0 :: r') (lt := fun u v => entLt b (f u) (f v)) (Gl.hide X T F3.keep hHP.2.2) (by walk_at "room") (N3 (HP, _) (.tail _ (.tail _ (.head _)))).1 hr5' (fun v hv => hv)
              (ent_cmp fun v hv => (((hT.ents v hv).hid (h' := H1) fun a o ha e sq => kb1 a o (fun q => by rw [q] at e; exact SeqO.ne_ns sq hn e) e)).stays (hide_less fun a ha => by rw [List.mem_singleton.mp ha]; exact .head _)) ?_
            intro h5 tk5 c5 kb5 o5
            dsimp only
            rw [ea1]
            have F5 := Fr.but F3 hHP.2.1 hHP.2.2 kb5
            obtain ⟨f5, hf5⟩ : ∃ fz, fz = (fullOf s.heap L h5).filter fun p => decide (p.1 ∉ [AG2]) := ⟨_, rfl⟩
            have st5 := F5.keep
            have N5 : News s.heap L h5 ((AG2, lstO (natVals agt').toArray cA) :: f5) := by
              intro p hp
              rcases List.mem_cons.mp hp with rfl | hp
              · exact ⟨kb5 _ _ hAk2.hp (N3 (AG2, _) (.tail _ (.head _))).1, oAG2.2⟩
              · rw [hf5] at hp
                exact News.full p (List.mem_filter.mp hp).1
            have n3 := F3.ns
            clear F3 N3
            iterate 1 walk_at "one"
            have hne1 : a1 ≠ HP := fun q => ma1.2 (by rw [q]; exact .head _)
            refine tup_at (l := [_, _, _, _]) (j := 2) (kb5 _ _ hne1 (oa2 _ kb1)) (by decide) (by decide) (by simp [seqIndex?]) rfl ?_
            iterate 1 walk_at "one"
            have hf5n : ∀ p ∈ f5, p.1 ≠ AG2 := by
              intro p hp
              rw [hf5] at hp
              simpa using (List.mem_filter.mp hp).2
            rename Fr _ _ _ _ => F6
            rename News _ _ _ _ => N6
            refine append_N F6 N6 hf5n (by simp [natVals]; unfold sizeLine; lia) ?_
            intro h7 F7 N7
            clear F6 N6
            k_steps
            rename Fr _ _ _ _ => F8
            rename News _ _ _ _ => N8
            rename Heap => H8
            have kb8 := keep_but [AG2] st5 F8 N8 fun p hp hx => .tail _ (by
              rw [hf5]; exact List.mem_filter.mpr ⟨hp, decide_eq_true hx⟩)
            have hnLh : ∀ {p : Addr} {o : Obj}, h.get? p = some o → SeqO o → p ≠ L := fun e sq q => by rw [q] at e; exact SeqO.ne_ns sq hn e
            have kb58 : ∀ a o, a ∉ HP :: TO :: PL :: AG2 :: liveOf s.heap → h.get? a = some o → SeqO o → H8.get? a = some o := fun a o ha e sq => kb8 _ _ (hnLh e sq) (hnA ha) (kb5 _ _ (fun q => ha (by rw [q]; exact .head _)) (kb1 _ _ (hnLh e sq) e))
            refine hideG fun hG0 kG0 => ?_
            obtain ⟨cT, oT⟩ := hT.told
            obtain ⟨cP, oP⟩ := hT.plc
            refine kG0 ?_
            clear kG0 hG0
            have hpl := (pop_ok (weak_by b f) hL.heap).2
            have hj1 : (f y0).j = (k1 : Int) := by rw [hf1]; rfl
            have hag8 : (agt' ++ [(k1, w2)]).map (·.1) = agt'.map (·.1) ++ [k1] := by simp
            refine hRW H8 _ (popF (fun u v => entLt b (f u) (f v)) (y0 :: r')).length ?_ ⟨_, popF (fun u v => entLt b (f u) (f v)) (y0 :: r'), S'.erase k1, agt' ++ [(k1, w2)], F8.ns, ⟨rfl, rfl, rfl, rfl, rfl, rfl, rfl⟩, ⟨rfl, rfl, rfl, rfl⟩, F8.keep,
              hT.anew ⟨c5, kb8 _ _ hHP.2.1 hHA.1 o5⟩ ⟨cT, kb8 _ _ hTO.2.1 hHA.2.1 (kb5 _ _ hTH.1 (kb1 _ _ hTO.2.1 oT))⟩ ⟨cP, kb8 _ _ hPLn.1 hHA.2.2 (kb5 _ _ hTH.2 (kb1 _ _ hPLn.1 oP))⟩ ⟨cA + 1, ?_⟩ (fun v hv => .tail _ (hpl.mem_iff.mp hv)) kb58, hL1, by rw [hag8]; exact hC.pop hk1, by rw [hag8]; exact List.mem_append_left _ hkA,
              fun j hj => hSS j (List.mem_of_mem_erase hj), sR.hid kb58, rfl⟩
            · rw [hpl.length_eq, hnn2]; exact Nat.lt_succ_self _
            · have := (N8 (AG2, _) (.head _)).1
              rw [hj1] at this
              simpa [natVals] using this
          · rename_i hc
            have hneq : (f y0).neg ≠ (ent P Nk (k : Int)).neg := by
              intro q
              rw [q] at hc
              simp at hc
            refine WhileTurn.no rfl (hQ2 _ _ ⟨_, y0 :: r', S', agt', F2.ns, ⟨rfl, rfl, rfl, rfl, rfl, rfl, rfl⟩, ⟨rfl, rfl, rfl, rfl⟩, F2.keep, ?_, hL, hC, hkA, hSS, ?_, fun j hj => ?_⟩)
            · exact hT.keeps fun a o e sq => kb1 a o (fun q => by rw [q] at e; exact SeqO.ne_ns sq hn e) e
            · exact sR.hid fun a o _ e sq => kb1 a o (fun q => by rw [q] at e; exact SeqO.ne_ns sq hn e) e
            · have g1 := ent_neg_ge (hmin1 j hj)
              have g2 := ent_neg_ge (hmin k1 (hSS k1 hk1))
              rw [hfx] at g2
              have g3 : (f y0).neg = (ent P (hdF (remF rr (plt.map (·.1))) k1) (k1 : Int)).neg := by rw [hf1]
              have g4 : (ent P Nk (k : Int)).neg = -(sh : Int) := by rw [hsh]; rfl
              have g5 : (ent P (hdF (remF rr (plt.map (·.1))) j) (j : Int)).neg = -(((lcpF P (hdF (remF rr (plt.map (·.1))) j)).length : Nat) : Int) := rfl
              lia
    · k_steps
end Mine
end

section
theorem Mine.rst_LW : True ∧ True := by
  w_top off
  first | (walk1; fail "laid") | exact ⟨trivial, trivial⟩
open PySem PySem.W PyProof.Rows PySem.Calls
open MeetsSeq MeetsSeq2 MeetsSeq3 SeqRoads2 SeqAt
set_option linter.unusedVariables false
namespace Mine
theorem ints_vals : ∀ {ws : List Value} {zs : List Int}, IntsAre ws zs → ∃ ns : List (Int × Tok), ws = intVals ns ∧ ns.map (·.1) = zs
  | _, _, .nil => ⟨[], rfl, rfl⟩
  | _, _, .cons i t r => by
    obtain ⟨ns, e1, e2⟩ := ints_vals r
    exact ⟨(i, t) :: ns, by rw [e1]; rfl, by rw [← e2]; rfl⟩
theorem full7 {ns : List (Int × Tok)} {r : List Int} (h : ns.map (·.1) = [85, 15, 806, 47, 2007, 28, 14] ++ r) : ∀ j, j < 5 → 0 < residues ns j := by
  have key : ∀ (z : Int) (j : Nat), z ∈ ns.map (·.1) → Int.fmod z 5 = j → 0 < residues ns j := by
    intro z j hz hj
    obtain ⟨w, hw, rfl⟩ := List.mem_map.mp hz
    exact List.length_pos_of_mem (List.mem_filter.mpr ⟨hw, decide_eq_true hj⟩)
  intro j hj
  have hj5 : j = 0 ∨ j = 1 ∨ j = 2 ∨ j = 3 ∨ j = 4 := by lia
  rcases hj5 with rfl | rfl | rfl | rfl | rfl
  · exact key 85 0 (by rw [h]; simp) (by decide)
  · exact key 806 1 (by rw [h]; simp) (by decide)
  · exact key 47 2 (by rw [h]; simp) (by decide)
  · exact key 28 3 (by rw [h]; simp) (by decide)
  · exact key 14 4 (by rw [h]; simp) (by decide)
theorem rm_law (env : Env) : Rm (Around.deeper callerA env) 12 := ⟨by show callerA.depth + 1 + 12 ≤ 400; decide, by show callerA.units + 3 + 10 * 12 ≤ 1000; decide, rfl⟩
theorem top_true : topF true = Str.ofString "/" := rfl
theorem top_false : topF false = Str.ofString "" := by decide +kernel
theorem front_true : frontF true = Str.ofString "/" := rfl
theorem front_false : frontF false = Str.ofString "./" := rfl
/-- the law's two choices, by one truth -/
theorem pickT {M : Model} {A : Around} {E : Value → Shared → Prop} {s : Shared} {env : Env} {B : Bool} {k1 k2 : Nat} {p1 p2 : Pos} {Q : Value → Shared → Prop} (h : ∀ b t tk, B = b → Q (.str (topF b) t) { s with toks := tk }) :
    if B = true then wpAny M A (eval (.Constant (.str (Str.ofString "/")) k1 p1) env) Q E s else wpAny M A (eval (.Constant (.str (Str.ofString "")) k2 p2) env) Q E s := by
  cases B with
  | true => rw [if_pos rfl]; refine Calls.Constant_str ?_; have := h true s.toks (s.toks + 1) rfl; rw [top_true] at this; exact this
  | false => rw [if_neg (by decide)]; refine Calls.Constant_str ?_; have := h false s.toks (s.toks + 1) rfl; rw [top_false] at this; exact this
theorem pickF {M : Model} {A : Around} {E : Value → Shared → Prop} {s : Shared} {env : Env} {B b : Bool} {k1 k2 : Nat} {p1 p2 : Pos} {Q : Value → Shared → Prop} (hB : B = b) (h : ∀ t tk, Q (.str (frontF b) t) { s with toks := tk }) :
    if B = true then wpAny M A (eval (.Constant (.str (Str.ofString "/")) k1 p1) env) Q E s else wpAny M A (eval (.Constant (.str (Str.ofString "./")) k2 p2) env) Q E s := by
  subst hB
  cases B with
  | true => rw [if_pos rfl]; refine Calls.Constant_str ?_; have := h s.toks (s.toks + 1); rw [front_true] at this; exact this
  | false => rw [if_neg (by decide)]; refine Calls.Constant_str ?_; have := h s.toks (s.toks + 1); rw [front_false] at this; exact this
theorem vstr {x y : Str} (h : x = y) : Value.str x = Value.str y := congrArg _ h
noncomputable def insF (x : Item) : List Item → List Item
  | [] => [x]
  | y :: l => if pairLt y x = true then y :: insF x l else x :: y :: l
theorem insF_perm (x : Item) : ∀ l : List Item, (insF x l).Perm (x :: l)
  | [] => List.Perm.refl _
  | y :: l => by
    unfold insF
    split
    · exact ((insF_perm x l).cons y).trans (List.Perm.swap x y l)
    · exact List.Perm.refl _
theorem insF_sorted (x : Item) : ∀ {l : List Item}, Sorted l → Sorted (insF x l)
  | [], _ => List.pairwise_singleton _ _
  | y :: l, h => by
    have h1 := List.pairwise_cons.mp h
    unfold insF
    split
    · rename_i hyx
      refine List.pairwise_cons.mpr ⟨fun z hz => ?_, insF_sorted x h1.2⟩
      rcases List.mem_cons.mp ((insF_perm x l).mem_iff.mp hz) with rfl | hz
      · exact tot_pair.weak.asym _ _ hyx
      · exact h1.1 z hz
    · rename_i hyx
      have hyx' : pairLt y x = false := by simpa using hyx
      refine List.pairwise_cons.mpr ⟨fun z hz => ?_, h⟩
      rcases List.mem_cons.mp hz with rfl | hz
      · exact hyx'
      · exact tot_pair.weak.trans _ _ _ hyx' (h1.1 z hz)
theorem sorted_ex : ∀ l : List Item, ∃ l', l'.Perm l ∧ Sorted l'
  | [] => ⟨[], List.Perm.refl _, List.Pairwise.nil⟩
  | x :: l => by
    obtain ⟨l', h1, h2⟩ := sorted_ex l
    exact ⟨insF x l', (insF_perm x l').trans (h1.cons x), insF_sorted x h2⟩
/-- an element of the inner and of the outer comprehension of law -/
inductive ElPair (g : Heap) (v y : Value) : Prop
  | mk : ∀ x t, (v = .str x t) →
      (PairAt g y x) → ElPair g v y
theorem PairAt.stays {g g' : Heap} {v : Value} {x : Str} (h : PairAt g v x) (st : g.StaysIn g') : PairAt g' v x := by
  obtain ⟨a, T, t, c, e1, e2, e3⟩ := h
  exact ⟨a, T, t, c, e1, st _ _ e2, e3.keeps fun o e => st _ _ e⟩
theorem ElPair.mono (g g' : Heap) (v y : Value) (st : g.StaysIn g') (h : ElPair g v y) : ElPair g' v y := by
  obtain ⟨x, t, e1, e2⟩ := h
  exact ⟨x, t, e1, e2.stays st⟩
theorem PlainRow.stays {g g' : Heap} {a : Addr} {r : List Str} (h : PlainRow g a r) (st : g.StaysIn g') : PlainRow g' a r := by
  obtain ⟨l, c, e1, e2⟩ := h
  exact ⟨l, c, st _ _ e1, Paired.imp (fun v x y => y.stays st) e2⟩
inductive ElPlain (H : Heap) (g : Heap) (v y : Value) : Prop
  | mk : ∀ a r D, (v = .ref a) →
      (y = .ref D) →
      (StrsAt H a r) →
      (PlainRow g D r) → ElPlain H g v y
theorem ElPlain.mono (H g g' : Heap) (v y : Value) (st : g.StaysIn g') (h : ElPlain H g v y) : ElPlain H g' v y := by
  obtain ⟨a, r, D, e1, e2, e3, e4⟩ := h
  exact ⟨a, r, D, e1, e2, e3, e4.stays st⟩
theorem pairs_of {g g' : Heap} (st : g.StaysIn g') : ∀ {l : List (Str × Tok)} {ys : List Value}, Paired (ElPair g) (strValues l) ys → Paired (PairAt g') ys (l.map (·.1))
  | [], [], .nil => .nil
  | _ :: l, _ :: ys, .cons x r => by
    obtain ⟨z, t, e1, e2⟩ := x
    cases e1
    exact .cons (e2.stays st) (pairs_of st r)
theorem plain_of {H g g' : Heap} (st : g.StaysIn g') : ∀ {as : List Addr} {rr : List (List Str)} {ys : List Value}, Paired (fun a r => StrsAt H a r) as rr → Paired (ElPlain H g) (as.map Value.ref) ys → ∃ ds : List Addr, ys = ds.map Value.ref ∧ Paired (PlainRow g') ds rr
  | [], [], [], .nil, .nil => ⟨[], rfl, .nil⟩
  | _ :: as, _ :: rr, _ :: ys, .cons x r, .cons y r' => by
    obtain ⟨ds, e1, e2⟩ := plain_of st r r'
    obtain ⟨a', r0, D, q1, q2, q3, q4⟩ := y
    cases q1
    have : r0 = _ := q3.inj x
    subst this
    exact ⟨D :: ds, by rw [e1, q2]; rfl, .cons (q4.stays st) e2⟩
end Mine
end

theorem Mine.rst_S14 : True ∧ True := by
  w_top off
  first | (walk1; fail "laid") | exact ⟨trivial, trivial⟩
open PySem PySem.W PyProof.Rows PySem.Calls
set_option linter.unusedVariables false
namespace Mine
theorem fill18 : (PySem.Challenge.rw_pd0049_01.prog = PySem.Challenge.rw_pd0049_01.prog) ∧ (∀ P, Mine.hd.heap_1 P = Mine.hd.heap_1 P) := by k_fill; exact ⟨rfl, fun _ => rfl⟩
end Mine
local macro_rules | `(tactic| k_qdec) => `(tactic| decide +kernel)
theorem PySem.Challenge.cw_pd0049_01_holds : PySem.Challenge.rw_pd0049_01.Holds := by
  refine Mine.hd ?_
  k_go0
  all_goals try k_fold
  iterate 23 walk_at "one"
  refine Mine.pickT ?_
  intro b tt ttk hB
  iterate 39 walk_at "one"
  refine Mine.pickF hB ?_
  intro tf tfk
  iterate 2 walk_at "one"
  rename Top _ _ _ _ _ _ => T
  rename Frag.In _ _ => KX
  rename Fr _ _ _ _ => F
  rename News _ _ _ _ => N
  rename IntsAre _ _ => HI
  rename List Value => ws
  rename Shared => s
  obtain ⟨ns, hns1, hns2⟩ := Mine.ints_vals HI
  rw [hns1] at N
  have hlen : ns.length ≤ 20 := by
    have := congrArg List.length hns2
    rw [List.length_map, List.length_append, List.length_take] at this
    simp at this
    lia
  refine Mine.rows_spec (b := b) ⟨KX.keeps F.keep, _, _, _, T.keeps F.keep⟩ (Mine.Rm.mono (Mine.rm_law _) (by decide)) ⟨_, (N _ (.head _)).1, rfl, _, rfl⟩ hlen (Mine.full7 hns2) ?_
  intro DR rr h2 tk2 st2 nDR hRows hOk
  have F2 := Mine.Fr.stays F st2
  obtain ⟨ras, rc, oDR, pDR⟩ := id hRows
  obtain ⟨fz, hfz⟩ : ∃ fz, fz = Mine.fullOf s.heap s.heap.objs.size h2 := ⟨_, rfl⟩
  have N2 : News s.heap s.heap.objs.size h2 ((DR, Mine.lstO (ras.map Value.ref).toArray rc) :: fz) := Mine.News.put F nDR oDR (hfz ▸ Mine.News.full)
  have n2 := F2.ns
  have stF2 := F2.keep
  clear F N
  iterate 3 walk_at "one"
  refine Mine.comp_assign (cl := _) rfl rfl (by decide) rfl (by decide) rfl (fun _ => rfl) rfl rfl ?_
  iterate 1 walk_at "one"
  rename Fr _ _ _ _ => F3
  rename News _ _ _ _ => N3
  rename Heap => H3
  have kH3 := Mine.keep_of stF2 F3 N3 fun p hp => .tail _ (hfz ▸ hp)
  have oDR3 := (N3 (DR, _) (.head _)).1
  have pDR3 : Paired (fun a r => Mine.StrsAt H3 a r) ras rr := Mine.Paired.imp (fun a r y => y.kb n2 kH3) pDR
  have hr5 : ras.length = 5 := (Mine.Paired.len pDR).trans hOk.five
  have hDRL := (N3 (DR, _) (.head _)).2.1
  have n3 := F3.ns
  refine ⟨(ras.map Value.ref).toArray.size, fun i v => (ras.map Value.ref).toArray[i]? = some v, fun _ => true, Mine.ElPlain H3, [s.heap.objs.size], _, List.Mem.head _, F3.ns, Mine.Src.list rfl ⟨_, oDR3, rfl, _, rfl⟩, ?_, Mine.ElPlain.mono H3, ?_, ?_⟩
  · rw [List.size_toArray, List.length_map, hr5]; decide
  · intro C D I nC nD nI hC hCD hCI hDI
    have X3 := KX.keeps F3.keep
    have T3 := T.keeps F3.keep
    have nL3 := Mine.Ns.here F3.ns
    clear F3 N3
    refine ⟨?_, ?_⟩
    · intro i v h₃ tk m₃ E' hP st hns hm _ _
      exact Mine.tests_nil ⟨rfl, h₃, tk, m₃, rfl, fun _ _ _ e => e, hns, hm⟩
    · intro i v h₃ tk m₃ E' hP hv st hns hm hDD hII
      obtain ⟨hi5, rfl⟩ : ∃ hi : i < ras.length, v = .ref ras[i] := by
        have e : (ras.map Value.ref)[i]? = some v := by simpa using hP
        rw [List.getElem?_map] at e
        cases q : ras[i]? with
        | none => rw [q] at e; cases e
        | some a =>
          rw [q] at e
          obtain ⟨h1, h2⟩ := List.getElem?_eq_some_iff.mp q
          exact ⟨h1, by rw [h2]; exact (Option.some.inj e).symm⟩
      have hir : i < rr.length := by rw [← Mine.Paired.len pDR]; exact hi5
      have hra := Mine.Paired.at2 pDR3 i hi5 hir
      obtain ⟨lr, cr, elr, oar⟩ := id hra
      have hrlen : rr[i].length ≤ 20 := Nat.le_trans (Mine.mem_sum_le (List.getElem_mem hir)) hOk.few
      have hlr : lr.length = rr[i].length := by rw [← elr, List.length_map]
      have F4 : Fr H3 C h₃ m₃ := ⟨hns, st, hC⟩
      obtain ⟨fy, hfy⟩ : ∃ fy, fy = Mine.fullOf H3 C h₃ := ⟨_, rfl⟩
      have N4 : News H3 C h₃ fy := hfy ▸ Mine.News.full
      refine Mine.comp_eval (cl := _) rfl (by decide) rfl (by decide) rfl (fun _ => rfl) ?_
      iterate 1 walk_at "one"
      have oar3 := st _ _ oar
      refine ⟨(strValues lr).toArray.size, fun j v => (strValues lr).toArray[j]? = some v, fun _ => true, Mine.ElPair, [C, D, I, s.heap.objs.size], Mine.Src.list rfl ⟨_, oar3, rfl, _, rfl⟩, ?_, Mine.ElPair.mono, ?_, ?_⟩
      · rw [Mine.strValues_size, elr]; unfold sizeLine; lia
      · intro C2 D2 I2 nC2 nD2 nI2 hC2 hCD2 hCI2 hDI2
        have X4 := X3.keeps st
        have T4 := T3.keeps st
        clear F4 N4
        refine ⟨?_, ?_⟩
        · intro j v h₄ tk m₄ E2 hP2 st2 hns2 hm2 _ _
          exact Mine.tests_nil ⟨rfl, h₄, tk, m₄, rfl, fun _ _ _ e => e, hns2, hm2⟩
        · intro j v h₄ tk m₄ E2 hP2 hv2 st2 hns2 hm2 hDD2 hII2
          obtain ⟨x, u, rfl, hx⟩ := Mine.strValues_get hP2
          have hxt : Mine.RowText b x := hOk.texts rr[i] (List.getElem_mem hir) x (elr ▸ hx)
          obtain ⟨fw, hfw⟩ : ∃ fy, fy = Mine.fullOf h₃ C2 h₄ := ⟨_, rfl⟩
          have F5 : Fr h₃ C2 h₄ m₄ := ⟨hns2, st2, hC2⟩
          have N5 : News h₃ C2 h₄ fw := hfw ▸ Mine.News.full
          iterate 20 walk_at "one"
          rename Fr _ _ _ _ => F6
          rename News _ _ _ _ => N6
          refine Mine.cp_one ⟨X4.keeps F6.keep, _, _, _, T4.keeps F6.keep⟩ (Mine.Rm.mono (Mine.rm_law _) (by decide)) ⟨_, (N6 _ (.head _)).1, rfl, _, rfl⟩ hxt ?_
          intro t7 h7 tk7 st7
          have F7 := Mine.Fr.stays F6 st7
          have N7 := Mine.News.stays N6 st7
          clear F6 N6
          iterate 2 walk_at "one"
          rename Fr _ _ _ _ => F8
          rename News _ _ _ _ => N8
          refine Mine.names_at ⟨X4.keeps F8.keep, _, _, _, T4.keeps F8.keep⟩ (Mine.Rm.mono (Mine.rm_law _) (by decide)) hxt.names ?_
          rintro ND h9 tk9 st9 nND ⟨lN, cN, eN, oN⟩
          have F9 := Mine.Fr.stays F8 st9
          have N9 := Mine.News.put F8 nND oN (Mine.News.stays N8 st9)
          have hold8 : ∀ z, (∃ o, h₄.get? z = some o) → h₃.get? z = none → z ≠ C2 → ND ≠ z := by
            rintro z ⟨o, ho⟩ hn hne rfl
            have h1 := (N8 (ND, o) (.tail _ (hfw ▸ Mine.mem_fullOf.mpr ⟨ho, hn, hne⟩))).1
            rw [nND] at h1; cases h1
          clear F8 N8
          iterate 1 walk_at "one"
          refine Mine.newTuple_at F9 N9 (show 2 ≤ sizeLine by decide) ?_
          intro tup h10 F10 N10 st10 ntup
          have hold9 : ∀ z, (∃ o, h₄.get? z = some o) → h₃.get? z = none → z ≠ C2 → tup ≠ z := by
            rintro z ⟨o, ho⟩ hn hne rfl
            have h1 := (N9 (tup, o) (.tail _ (.tail _ (hfw ▸ Mine.mem_fullOf.mpr ⟨ho, hn, hne⟩)))).1
            rw [ntup] at h1; cases h1
          have hnot : ∀ z, h₃.get? z = none → z ≠ C2 → (∀ y, (∃ o, h₄.get? y = some o) → h₃.get? y = none → y ≠ C2 → z ≠ y) → z ∉ [C2, D2, I2, C, D, I, s.heap.objs.size] := by
            intro z h0 h1 h2 hm
            simp only [List.mem_cons, List.not_mem_nil, or_false] at hm
            rcases hm with q | q | q | q | q | q | q
            · exact h1 q
            · exact h2 D2 hDD2 nD2 (Ne.symm hCD2) q
            · exact h2 I2 hII2 nI2 (Ne.symm hCI2) q
            · obtain ⟨o, e⟩ := Mine.Ns.here hns; rw [q] at h0; exact nomatch (h0.symm.trans e)
            · obtain ⟨o, e⟩ := hDD; rw [q, e] at h0; cases h0
            · obtain ⟨o, e⟩ := hII; rw [q, e] at h0; cases h0
            · obtain ⟨o, e⟩ := nL3; rw [q, st _ _ e] at h0; cases h0
          exact Mine.EltEnd.of st2 F10 N10 (fun p hp => .tail _ (.tail _ (.tail _ (hfw ▸ hp)))) ⟨x, u, rfl, tup, ND, u, 0, rfl, hideAll_get _ (N10 (tup, _) (.head _)).1 (hnot _ (N10 (tup, _) (.head _)).2.2 (N10 (tup, _) (.head _)).2.1 hold9), lN, cN, eN, hideAll_get _ (N10 (ND, _) (.tail _ (.head _))).1 (hnot _ (N10 (ND, _) (.tail _ (.head _))).2.2 (N10 (ND, _) (.tail _ (.head _))).2.1 hold8)⟩
      · intro D2 h5 tk5 ys2 vs2 st5 nD2 hpl2 hlen2 hvs2 hp2
        obtain ⟨c5, hD5⟩ := hpl2
        have hvs : vs2 = strValues lr := by have := Mine.vs_eq hlen2 hvs2; simpa using this
        rw [hvs, List.filter_eq_self.mpr (fun _ _ => rfl)] at hp2
        refine ⟨h5, tk5, m₃, rfl, fun b o _ e => st5 b o e, hns.keeps st5, ras[i], rr[i], D2, rfl, rfl, hra, ys2.toList, c5, hideAll_get _ (by rw [Array.toArray_toList]; exact hD5) ?_, ?_⟩
        · have nD2' : h₃.get? D2 = none := nD2
          intro hm
          simp only [List.mem_cons, List.not_mem_nil, or_false] at hm
          rcases hm with q | q | q | q
          · obtain ⟨o, e⟩ := Mine.Ns.here hns; rw [q] at nD2'; exact nomatch (nD2'.symm.trans e)
          · obtain ⟨o, e⟩ := hDD; rw [q, e] at nD2'; cases nD2'
          · obtain ⟨o, e⟩ := hII; rw [q, e] at nD2'; cases nD2'
          · obtain ⟨o, e⟩ := nL3; rw [q, st _ _ e] at nD2'; cases nD2'
        · have := Mine.pairs_of (Mine.hide_less fun a ha => List.mem_cons_of_mem _ ha) hp2
          rw [elr] at this
          exact this
  · intro D4 h6 tk6 zs vs3 kb6 hns6 nD6 hpl6 hln6 hP6 hPair6
    obtain ⟨c6, hD6⟩ := hpl6
    have hvs3 : vs3 = ras.map Value.ref := by have := Mine.vs_eq hln6 hP6; simpa using this
    rw [hvs3, List.filter_eq_self.mpr (fun _ _ => rfl)] at hPair6
    obtain ⟨ds, eds, pds⟩ := Mine.plain_of (g' := h6) (fun a o e => of_hideAll _ e) pDR3 hPair6
    have F6 := Mine.KeepBut.fr F3 kb6 hns6
    have oDR6 := kb6 _ _ hDRL oDR3
    have pDR6 : Paired (fun a r => Mine.StrsAt h6 a r) ras rr := Mine.Paired.imp (fun a r y => y.kb n3 kb6) pDR3
    have hPl : Mine.PlainAt h6 D4 rr := ⟨ds, c6, by rw [← eds, Array.toArray_toList]; exact hD6, pds⟩
    obtain ⟨its, hperm, hsrt⟩ := Mine.sorted_ex (Mine.tagF 0 (Mine.namesOf rr))
    obtain ⟨f6, hf6⟩ : ∃ fy, fy = Mine.fullOf s.heap s.heap.objs.size h6 := ⟨_, rfl⟩
    have N6 : News s.heap s.heap.objs.size h6 f6 := hf6 ▸ Mine.News.full
    dsimp only
    iterate 12 walk_at "one"
    refine Mine.told_spec (b := b) (its := its) ⟨KX.keeps F6.keep, _, _, _, T.keeps F6.keep⟩ (Mine.Rm.mono (Mine.rm_law _) (by decide)) hPl hOk hperm hsrt ?_
    intro TD h7 tk7 st7 nTD hTT
    have F7 := Mine.Fr.stays F6 st7
    have N7 := Mine.News.stays N6 st7
    clear F6 N6
    iterate 9 walk_at "one"
    refine Mine.due_spec (b := b) ⟨KX.keeps F7.keep, _, _, _, T.keeps F7.keep⟩ (Mine.Rm.mono (Mine.rm_law _) (by decide)) ⟨ras, rc, st7 _ _ oDR6, Mine.Paired.imp (fun a r y => y.keeps fun o e => st7 _ _ e) pDR6⟩ hOk hOk.many ?_
    intro UD its2 h8 tk8 st8 nUD hperm2 hsrt2 hUT
    have hits : its2 = its := Mine.sorted_unique Mine.tot_pair (hperm2.trans hperm.symm) hsrt2 hsrt
    rw [hits] at hUT
    have F8 := Mine.Fr.stays F7 st8
    clear F7 N7
    dsimp only
    have hTT8 : Mine.TripsAt h8 TD (Mine.dueF b [] its) := by
      obtain ⟨l, c, q1, q2⟩ := hTT
      exact ⟨l, c, st8 _ _ q1, Mine.Paired.imp (fun v x y => y.keeps fun a o _ e => st8 _ _ e) q2⟩
    refine Mine.TripsAt.eq (s := { s with heap := h8, toks := tk8 }) hTT8 hUT (Mine.Rm.unit (Mine.rm_law _)) (Mine.Rm.unit (Mine.Rm.in1 (Mine.rm_law _))) _ _ _ _ ?_
    k_steps

