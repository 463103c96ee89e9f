import PyProof.Rows.All
import Wide.All
import OpenK.AllK
import Wide.FinOn
import KE.KLcPair
import Lean
import PySem.Challenge.RW_xh0039_01
set_option Elab.async false
set_option linter.all false
set_option maxRecDepth 100000
set_option maxHeartbeats 8000000
set_option rowWalk.seconds 0
section
local macro_rules | `(tactic| walk_at $s:str) => `(tactic| k_extra $s)
local macro_rules | `(tactic| k_mem) => `(tactic| k_extra "mem")
local macro_rules | `(tactic| x_close) => `(tactic| k_extra "close")
section -- Hd
open PySem PySem.W PySem.W.X PyProof.Rows
namespace Mine
noncomputable def cell (i : Nat) : Stmt := PySem.Challenge.rw_xh0039_01.row.prog.main.body.getD i default
/-- the program as the walks see it: its defs but nsmallest and nlargest -/
noncomputable def view : Program := { PySem.Challenge.rw_xh0039_01.row.prog with main := { PySem.Challenge.rw_xh0039_01.row.prog.main with body := [cell 1, cell 2, cell 4, cell 6, cell 7, cell 8, cell 9, cell 10, cell 11, cell 12, cell 13, cell 14, cell 18, cell 19, cell 20] } }
theorem said_ok : PySem.Challenge.rw_xh0039_01.wellSaid = true := by kernel_rfl
theorem said_by (h : PySem.Challenge.rw_xh0039_01.row.Holds) : PySem.Challenge.rw_xh0039_01.Holds := holds_law said_ok fun _ => h
theorem head_by {H : Hook} {d : DefRec} {kwd : List (Str × PySem.Expr)}
    (hl : LeftO PySem.Challenge.rw_xh0039_01.row.prog view [Str.ofString "nsmallest", Str.ofString "nlargest"] (fun s => xlAt view [] s && recOk (RowW.records PySem.Challenge.rw_xh0039_01.row.toRowW) s) (Hook.obs H) (Hook.val H) 1228)
    (hdef : defOf view PySem.Challenge.rw_xh0039_01.row.name = some (d, kwd)) (hp : PySem.Challenge.rw_xh0039_01.row.prog.theDef PySem.Challenge.rw_xh0039_01.row.name = some (d.params, d.body, d.scope)) (hk : kwWritten? d.params.kwonlyargs d.params.kw_defaults = some kwd)
    (hw : PySem.Challenge.rw_xh0039_01.row.toRowW.promised)
    (hc : WalkO view [Str.ofString "nsmallest", Str.ofString "nlargest"] (XL view []) (Hook.says H) PySem.Challenge.rw_xh0039_01.row.toRowW d kwd fun f vs => PySem.call f vs) : PySem.Challenge.rw_xh0039_01.row.Holds :=
  holds_open hl (Hook.of H) (Hook.keeps H) (fun s e => xl_of s (Bool.and_eq_true_iff.mp e).1) XL.keeps hdef hp hk (fun s e => recFacts_of (Bool.and_eq_true_iff.mp e).2) (by rfl) (row_said said_ok) (by decide +kernel) ⟨rfl, rfl, rfl, rfl, rfl, by decide +kernel⟩ hw hc
section
local macro_rules | `(tactic| o_law) => `(tactic| apply said_by)
local macro_rules | `(tactic| o_head $H) => `(tactic| refine head_by (H := $H) (fun w => by kernel_rfl) rfl rfl rfl ?hw ?hc)
open_top hd for PySem.Challenge.rw_xh0039_01
end
end Mine
end
section -- Base
open PySem PySem.W PySem.W.X PyProof.Rows
namespace Mine
noncomputable abbrev PR : Program := PySem.Challenge.rw_xh0039_01.row.prog
/-- nothing that stood is changed -/
def Ext (h h' : Heap) : Prop := ∀ b o, h.get? b = some o → h'.get? b = some o
theorem Ext.rfl {h : Heap} : Ext h h := fun _ _ e => e
theorem Ext.trans {h h' h'' : Heap} (a : Ext h h') (b : Ext h' h'') : Ext h h'' := fun x o e => b x o (a x o e)
/-- the top's fragment and the ledger's objects stand -/
def Has (w : World) (news : List (Addr × Obj)) (h : Heap) : Prop := (Mine.hd.heap_1 w.params).In h ∧ ∀ q ∈ news, h.get? q.1 = some q.2
theorem Has.ext {w : World} {news : List (Addr × Obj)} {h h' : Heap} (H : Has w news h) (e : Ext h h') : Has w news h' := ⟨fun a o x => e a o (H.1 a o x), fun q hq => e _ _ (H.2 q hq)⟩
theorem Has.sub {w : World} {news news' : List (Addr × Obj)} {h : Heap} (H : Has w news h) (hs : ∀ q ∈ news', q ∈ news) : Has w news' h := ⟨H.1, fun q hq => H.2 q (hs q hq)⟩
/-- comparing two items of V, from anywhere: answers lt, and only adds to the memory -/
def LtOk (w : World) (news : List (Addr × Obj)) (V : Value → Prop) (lt : Value → Value → Bool) (d u : Nat) : Prop :=
  ∀ (A : Around) (s : Shared) (x y : Value) (Q E : Value → Shared → Prop), Has w news s.heap → V x → V y → A.depth + d < recursionLimit → A.units + u < cLine →
    (∀ h' tk', Ext s.heap h' → Q (.bool (lt x y)) { s with heap := h', toks := tk' }) → wpAny (model PR w) A (compareOp .Lt x y) Q E s
theorem LtOk.mono {w : World} {news news' : List (Addr × Obj)} {V : Value → Prop} {lt : Value → Value → Bool} {d u : Nat} (L : LtOk w news V lt d u) (hs : ∀ q ∈ news, q ∈ news') : LtOk w news' V lt d u :=
  fun A s x y Q E H => L A s x y Q E (H.sub hs)
theorem Fr.ext {h₀ h h' : Heap} {L : Addr} {m : Str → Option Value} (F : Fr h₀ L h m) (e : Ext h h') : Fr h₀ L h' m := ⟨F.ns.keeps e, fun b o x => e b o (F.keep b o x), F.above⟩
theorem News.ext {h₀ h h' : Heap} {L : Addr} {nw : List (Addr × Obj)} (N : News h₀ L h nw) (e : Ext h h') : News h₀ L h' nw := fun q hq => ⟨e _ _ (N q hq).1, (N q hq).2⟩
theorem Has.of {w : World} {h₀ h : Heap} {L : Addr} {m : Str → Option Value} {news nw : List (Addr × Obj)} (F : Fr h₀ L h m) (X : (Mine.hd.heap_1 w.params).In h₀) (N : News h₀ L h nw) (hs : ∀ q ∈ news, q ∈ nw) : Has w news h :=
  ⟨fun a o x => F.keep a o (X a o x), fun q hq => (N q (hs q hq)).1⟩
theorem LtOk.use {w : World} {news : List (Addr × Obj)} {V : Value → Prop} {lt : Value → Value → Bool} {d u : Nat} (hL : LtOk w news V lt d u)
  {A : Around} {h₀ : Heap} {L : Addr} {m : Str → Option Value} {nw : List (Addr × Obj)} {s : Shared} {x y : Value} {Q E : Value → Shared → Prop}
  (F : Fr h₀ L s.heap m) (X : (Mine.hd.heap_1 w.params).In h₀) (N : News h₀ L s.heap nw) (hs : ∀ q ∈ news, q ∈ nw) (hx : V x) (hy : V y) (hd : A.depth + d < recursionLimit) (hu : A.units + u < cLine)
  (h : ∀ h' tk', Fr h₀ L h' m → News h₀ L h' nw → Q (.bool (lt x y)) { s with heap := h', toks := tk' }) :
  wpAny (model PR w) A (compareOp .Lt x y) Q E s := hL _ _ _ _ _ _ (.of F X N hs) hx hy hd hu fun h' tk' e => h h' tk' (Fr.ext F e) (News.ext N e)
noncomputable def sdnW (lt : Value → Value → Bool) (x : Value) (sp pos : Nat) (vs : List Value) : List Value :=
  if sp < pos then
    (if lt x (vs.getD ((pos - 1) / 2) .none) then sdnW lt x sp ((pos - 1) / 2) (vs.set pos (vs.getD ((pos - 1) / 2) .none)) else vs.set pos x)
  else vs.set pos x
termination_by pos
decreasing_by lia
noncomputable def sdn (lt : Value → Value → Bool) (sp pos : Nat) (vs : List Value) : List Value := sdnW lt (vs.getD pos .none) sp pos vs
end Mine
end
section -- Lines
open PySem PySem.W PySem.W.X PyProof.Rows PyProof.V PySem.Calls
namespace Mine
/-- a halt of the walk: the goal as it stands, not to be walked on -/
structure Halt (P : Prop) : Prop where
  go : P
theorem Halt.out {P : Prop} (h : Halt P) : P := h.go
/-- many at once: one copy of the goal in place of one for each -/
theorem ex9 {α₁ α₂ α₃ α₄ α₅ α₆ α₇ α₈ α₉ : Type} {P : α₁ → α₂ → α₃ → α₄ → α₅ → α₆ → α₇ → α₈ → α₉ → Prop} {G : Prop} (k : ∀ a b c d e f g h i, P a b c d e f g h i → G) : (∃ a b c d e f g h i, P a b c d e f g h i) → G :=
  fun ⟨a, x⟩ => x.elim fun b x => x.elim fun c x => x.elim fun d x => x.elim fun e x => x.elim fun f x => x.elim fun g x => x.elim fun h x => x.elim fun i x => k a b c d e f g h i x
theorem and10 {a b c d e f g h i j G : Prop} (k : a → b → c → d → e → f → g → h → i → j → G) (x : a ∧ b ∧ c ∧ d ∧ e ∧ f ∧ g ∧ h ∧ i ∧ j) : G :=
  k x.1 x.2.1 x.2.2.1 x.2.2.2.1 x.2.2.2.2.1 x.2.2.2.2.2.1 x.2.2.2.2.2.2.1 x.2.2.2.2.2.2.2.1 x.2.2.2.2.2.2.2.2.1 x.2.2.2.2.2.2.2.2.2
theorem and4 {a b c d G : Prop} (k : a → b → c → d → G) (x : a ∧ b ∧ c ∧ d) : G := k x.1 x.2.1 x.2.2.1 x.2.2.2
theorem nwc {g h : Heap} {L : Addr} {p : Addr × Obj} {l : List (Addr × Obj)} (a : h.get? p.1 = some p.2 ∧ p.1 ≠ L ∧ g.get? p.1 = none) (t : News g L h l) : News g L h (p :: l) := List.forall_mem_cons.mpr ⟨a, t⟩
theorem offc {D : Addr} {p : Addr × Obj} {l : List (Addr × Obj)} (a : p.1 ≠ D) (t : ∀ q ∈ l, q.1 ≠ D) : ∀ q ∈ p :: l, q.1 ≠ D := List.forall_mem_cons.mpr ⟨a, t⟩
theorem inc {p : Addr × Obj} {l l' : List (Addr × Obj)} (a : p ∈ l') (t : ∀ q ∈ l, q ∈ l') : ∀ q ∈ p :: l, q ∈ l' := List.forall_mem_cons.mpr ⟨a, t⟩
theorem pin1 {m : Str → Option Value} {k : Str} {v : Option Value} (h : m k = v) : m = fun x => if x = k then v else m x := by
  funext x
  by_cases e : x = k
  · subst e; simp [h]
  · simp [e]
noncomputable def pinned : List (Str × Value) → (Str → Option Value) → Str → Option Value
  | [], m, x => m x
  | (k, v) :: r, m, x => if x = k then some v else pinned r m x
theorem pin {m : Str → Option Value} : ∀ {ks : List (Str × Value)}, (∀ p ∈ ks, m p.1 = some p.2) → pinned ks m = m
  | [], _ => rfl
  | (k, v) :: r, h => by
    funext x
    show (if x = k then some v else pinned r m x) = m x
    rw [pin (ks := r) (fun q hq => h q (.tail _ hq))]
    by_cases e : x = k
    · rw [if_pos e, e]; exact (h (k, v) (.head _)).symm
    · rw [if_neg e]
section
variable {prog : Program} {w : World} {A : Around} {E : Value → Shared → Prop} {s : Shared} {h₀ : Heap} {L a D : Addr} {m : Str → Option Value} {news : List (Addr × Obj)} {vs l : List Value} {n : Nat} {k : Int} {u : Tok} {x : Value} {value slice : PySem.Expr}
theorem shr_one {y : Int} {t₁ t₂ : Tok} {Q : Value → Shared → Prop} (h : Q (.int (y / 2) s.toks) { s with toks := s.toks + 1 }) : wpAny (model prog w) A (binaryOp .RShift (.int y t₁) (.int 1 t₂)) Q E s := by
  refine rshift_int (by decide) ?_
  have e : y.fdiv (2 ^ Int.toNat 1) = y / 2 := by
    show y.fdiv 2 = y / 2
    exact Int.fdiv_eq_ediv_of_nonneg y (by decide)
  rw [e]; exact h
/-- an item of a list of the ledger at a place in bounds -/
theorem item_at {Q : Value → Shared → Prop} (N : News h₀ L s.heap news) (hm : (a, listOf l.toArray n) ∈ news) (h0 : 0 ≤ k) (h1 : k < (l.length : Int)) (hz : l.length < 1000000) (h : Q (l.getD k.toNat .none) s)
    (hs : subscripted slice false (.ref a) (.int k u) = operate [.ref a, .int k u] (getItem (.ref a) (.int k u)) := by with_unfolding_all rfl) (hg : ∀ r, letTemporaryGo value (.ref a) r = pure () := by intro _; with_unfolding_all rfl) :
    wpAny (model prog w) A (subscriptTail value slice (.ref a) (.int k u)) Q E s := by
  refine kim_list N hm rfl rfl h0 (by lia) (x := l.getD k.toNat .none) ?_ h hs hg
  rw [List.getD_eq_getElem?_getD, List.getElem?_eq_getElem (by lia)]; rfl
/-- a store into a list of the ledger -/
theorem set_at {Q : Unit → Shared → Prop} (F : Fr h₀ L s.heap m) (N : News h₀ L s.heap ((D, listOf vs.toArray n) :: news)) (hl : ∀ q ∈ news, q.1 ≠ D) (h0 : 0 ≤ k) (h1 : k < (vs.length : Int)) (hz : vs.length < 1000000)
    (h : ∀ h', Fr h₀ L h' m → News h₀ L h' ((D, listOf (vs.set k.toNat x).toArray n) :: news) → Q () { s with heap := h' }) :
    wpAny (model prog w) A (setItem (.ref D) (.int k u) x) Q E s := by
  have z := N (D, listOf vs.toArray n) (.head _)
  refine ki_setAt z.1 h0 (by lia) (by simpa using h1) (h _ (F.change (Heap.SameBut.update ..) z.2.1 z.2.2) (ki_turn (pre := []) (post := news) _ N (fun _ h => nomatch h) hl ?_ ?_))
  · apply Array.toList_inj.mp; simp
  · simp
end
end Mine
end
section -- Sd
open PySem PySem.W PySem.W.X PyProof.Rows
namespace Mine
theorem setup_Sd_1 : True := by
  w_top off
  k_with_none
  k_with "subscriptTail" => ((k_here; (with_reducible show wpAny _ _ (subscriptTail _ _ (Value.ref _) (Value.int _ _)) _ _ _); k_dflt (refine' item_at ?zzk1 ?zzk2 ?zzk3 ?zzk4 ?zzk5 ?_ ?zzk6; (case zzk1 => k_asm); (case zzk2 => k_mem); (case zzk3 => lia); (case zzk4 => lia); (case zzk5 => lia); (case zzk6 => with_unfolding_all rfl); k_whole)))
  k_with "exec While Compare cons nil" => ((refine Halt.out ?_))
  k_with "setItem ref int" => ((k_here; (with_reducible show wpAny _ _ (setItem (Value.ref _) (Value.int _ _) _) _ _ _); k_dflt (refine' set_at ?zzk1 ?zzk2 ?zzk3 ?zzk4 ?zzk5 ?zzk6 ?_; (case zzk1 => k_asm); (case zzk2 => k_asm); (case zzk3 => assumption); (case zzk4 => lia); (case zzk5 => lia); (case zzk6 => lia); k_whole); intro _ _ _; (try k_sweep)))
  k_with "binaryOp RShift int int" => ((k_here; k_dflt (refine' shr_one ?_)))
  exact True.intro
theorem siftdown_ok {w : World} {p : Program} {loose : List Str} {mean : ExcName → Option Value} {mg mb : Str → Option Value} {news : List (Addr × Obj)} {V : Value → Prop} {lt : Value → Value → Bool} {d u : Nat}
  (hL : LtOk w news V lt d u)
  {dp un : Nat} {gd : Option (List Code)} {cn : Str} {cs : Scope} {a : Addr} {ccd : Value} {cl : List (Str × Addr)} {outer : List Env} {A₀ : Around} {base h₀ : Heap} {L : Addr} {m : Str → Option Value} {s : Shared} {l : Addr} {vs : List Value} {n : Nat} {sp pos : Nat} {t1 t2 : Tok} {Q E : Value → Shared → Prop} :
    Below A₀ base outer h₀ → Fr h₀ L s.heap m → (Mine.hd.heap_1 w.params).In h₀ → News h₀ L s.heap ((l, listOf vs.toArray n) :: news) → (∀ q ∈ news, q.1 ≠ l) → Top p loose mean mg mb h₀ → cs.kind = .function →
    (∀ v ∈ vs, V v) → sp ≤ pos → pos < vs.length → vs.length < 1000 → dp + 1 + d < recursionLimit → un + 8 + u < cLine →
    (∀ h' tk', Fr h₀ L h' m → News h₀ L h' ((l, listOf (sdn lt sp pos vs).toArray n) :: news) → Q .none { s with heap := h', toks := tk' }) →
    wpAny (model PR w) (ktrTop dp un gd cn cs L a ccd cl outer) (call (.ref 77) [.ref l, .int (sp : Int) t1, .int (pos : Int) t2]) Q E s := by
  have fill : Mine.hd.heap_1 = Mine.hd.heap_1 ∧ PySem.Challenge.rw_xh0039_01 = PySem.Challenge.rw_xh0039_01 := by (k_fill; exact ⟨rfl, rfl⟩)
  clear fill
  intro B F X N hl T hk hV h1 h2 h3 hd hu hQ
  have hd' : dp + 1 < recursionLimit := by lia
  refine wpAny_call ?_
  k_dflt ktr_enter
  k_steps
  refine ⟨?_⟩
  rename_i F1 N1
  refine While_inv2 (fun k m₁ nw => ∃ vs' tp, nw = (l, listOf vs'.toArray n) :: news ∧ m₁ "heap" = some (.ref l) ∧ m₁ "startpos" = some (.int (sp : Int) t1) ∧ m₁ "pos" = some (.int (k : Int) tp) ∧ m₁ "newitem" = some (vs.getD pos .none) ∧
    vs'.length = vs.length ∧ (∀ v ∈ vs', V v) ∧ k < vs.length ∧ sdnW lt (vs.getD pos .none) sp k vs' = sdn lt sp pos vs) (n₀ := pos) F1 N1 ⟨vs, t2, rfl, rfl, rfl, rfl, rfl, rfl, hV, h2, rfl⟩ ?_ ?_
  · rintro k m₁ nw h₁ tk₁ F₂ N₂ ⟨vs', tp, rfl, e1, e2, e3, e4, e5, e6, e7, e9⟩
    rw [← pin (m := m₁) (ks := [("heap", .ref l), ("startpos", .int (sp : Int) t1), ("pos", .int (k : Int) tp), ("newitem", vs.getD pos .none)]) (by
      intro q hq; simp only [List.mem_cons, List.not_mem_nil, or_false] at hq; rcases hq with rfl | rfl | rfl | rfl <;> assumption)] at F₂
    clear e1 e2 e3 e4 F1 N1
    k_steps
    · refine LtOk.use hL (by assumption) (by assumption) (by assumption) (fun q hq => .tail _ hq) ?_ ?_ (by dsimp only [ktrTop, Around.deeper]; lia) (by dsimp only [ktrTop, Around.deeper]; lia) ?_
      · exact hV _ (by rw [List.getD_eq_getElem?_getD, List.getElem?_eq_getElem h2]; exact List.getElem_mem _)
      · exact e6 _ (by rw [List.getD_eq_getElem?_getD, List.getElem?_eq_getElem (by lia)]; exact List.getElem_mem _)
      intro h' tk' F' N'
      k_steps
      · refine ⟨_, _, _, _, (k - 1) / 2, rfl, by assumption, by assumption, by lia, _, _, rfl, rfl, rfl, congrArg (fun z => some (Value.int z _)) (show ((k : Int) - 1) / 2 = (((k - 1) / 2 : Nat) : Int) by lia), rfl, ?_, ?_, by lia, ?_⟩
        · rw [List.length_set]; exact e5
        · intro v hv
          rcases List.mem_or_eq_of_mem_set hv with h | h
          · exact e6 v h
          · rw [h]; exact e6 _ (by rw [List.getD_eq_getElem?_getD, List.getElem?_eq_getElem (by lia)]; exact List.getElem_mem _)
        · have ek : (((k : Int) - 1) / 2).toNat = (k - 1) / 2 := by lia
          have hlt : lt (vs.getD pos .none) (vs'.getD (((k : Int) - 1) / 2).toNat .none) = true := by assumption
          rw [ek] at hlt ⊢
          rw [← e9]
          conv => rhs; rw [sdnW, if_pos (by lia), if_pos hlt]
          rfl
      · dsimp only [WhileStep2]
        k_steps
        refine hQ _ _ (by assumption) ?_
        have ek : (((k : Int) - 1) / 2).toNat = (k - 1) / 2 := by lia
        have hlt : lt (vs.getD pos .none) (vs'.getD (((k : Int) - 1) / 2).toNat .none) = false := by assumption
        rw [ek] at hlt
        have e : vs'.set (k : Int).toNat (vs.getD pos .none) = sdn lt sp pos vs := by
          rw [← e9, sdnW, if_pos (by lia), if_neg (by rw [hlt]; decide)]; rfl
        rw [← e]
        assumption
    · refine hQ _ _ (by assumption) ?_
      have e : vs'.set (k : Int).toNat (vs.getD pos .none) = sdn lt sp pos vs := by
        rw [← e9, sdnW, if_neg (by lia)]; rfl
      rw [← e]
      assumption
  · passes_own
end Mine
end
section -- Sup
open PySem PySem.W PySem.W.X PyProof.Rows
namespace Mine
theorem setup_Sup_1 : True := by
  w_top off
  k_with_none
  k_with "subscriptTail" => ((k_here; (with_reducible show wpAny _ _ (subscriptTail _ _ (Value.ref _) (Value.int _ _)) _ _ _); k_dflt (refine' item_at ?zzk1 ?zzk2 ?zzk3 ?zzk4 ?zzk5 ?_ ?zzk6; (case zzk1 => k_asm); (case zzk2 => k_mem); (case zzk3 => lia); (case zzk4 => lia); (case zzk5 => lia); (case zzk6 => with_unfolding_all rfl); k_whole)))
  k_with "exec While Compare cons nil" => ((refine Halt.out ?_))
  k_with "setItem ref int" => ((k_here; (with_reducible show wpAny _ _ (setItem (Value.ref _) (Value.int _ _) _) _ _ _); k_dflt (refine' set_at ?zzk1 ?zzk2 ?zzk3 ?zzk4 ?zzk5 ?zzk6 ?_; (case zzk1 => k_asm); (case zzk2 => k_asm); (case zzk3 => assumption); (case zzk4 => lia); (case zzk5 => lia); (case zzk6 => lia); k_whole); intro _ _ _; (try k_sweep)))
  k_with "binaryOp RShift int int" => ((k_here; k_dflt (refine' shr_one ?_)))
  exact True.intro
theorem len_at {prog : Program} {w : World} {A : Around} {E : Value → Shared → Prop} {s : Shared} {h₀ : Heap} {L a : Addr} {news : List (Addr × Obj)} {l : List Value} {n : Nat} {Q : Value → Shared → Prop} (N : News h₀ L s.heap news) (hm : (a, listOf l.toArray n) ∈ news) (hz : l.length < 1000000)
    (h : Q (.int (l.length : Nat) (s.toks + 1)) { s with toks := s.toks + 1 + 1 }) : wpAny (model prog w) A (call (.builtin "len") [.ref a]) Q E s :=
  KM.len_K N hm (by rw [List.size_toArray]) (by lia) h
theorem setup_Sup_2 : True := by
  k_with "call builtin:len" => ((k_here; (with_reducible show wpAny _ _ (call (Value.builtin "len") [Value.ref _]) _ _ _); k_dflt (refine' len_at ?zzk1 ?zzk2 ?zzk3 ?_; (case zzk1 => k_asm); (case zzk2 => k_mem); (case zzk3 => lia); k_whole)))
  k_with "call ref" => ((k_here; (with_reducible show wpAny _ _ (call (Value.ref 77) _) _ _ _); refine Halt.out ?_))
  exact True.intro
/-- the way down to a leaf: the place reached and the list -/
noncomputable def supW (lt : Value → Value → Bool) (pos : Nat) (vs : List Value) : Nat × List Value :=
  if 2 * pos + 1 < vs.length then
    (if 2 * pos + 2 < vs.length ∧ lt (vs.getD (2 * pos + 1) .none) (vs.getD (2 * pos + 2) .none) = false then supW lt (2 * pos + 2) (vs.set pos (vs.getD (2 * pos + 2) .none))
     else supW lt (2 * pos + 1) (vs.set pos (vs.getD (2 * pos + 1) .none)))
  else (pos, vs)
termination_by vs.length - pos
decreasing_by all_goals (rw [List.length_set]; lia)
noncomputable def sup (lt : Value → Value → Bool) (pos : Nat) (vs : List Value) : List Value :=
  sdn lt pos (supW lt pos vs).1 ((supW lt pos vs).2.set (supW lt pos vs).1 (vs.getD pos .none))
theorem siftup_ok {w : World} {p : Program} {loose : List Str} {mean : ExcName → Option Value} {mg mb : Str → Option Value} {news : List (Addr × Obj)} {V : Value → Prop} {lt : Value → Value → Bool} {d u : Nat}
  (hL : LtOk w news V lt d u)
  {dp un : Nat} {gd : Option (List Code)} {cn : Str} {cs : Scope} {a : Addr} {ccd : Value} {cl : List (Str × Addr)} {outer : List Env} {A₀ : Around} {base h₀ : Heap} {L : Addr} {m : Str → Option Value} {s : Shared} {l : Addr} {vs : List Value} {n : Nat} {pos : Nat} {t2 : Tok} {Q E : Value → Shared → Prop} :
    Below A₀ base outer h₀ → Fr h₀ L s.heap m → (Mine.hd.heap_1 w.params).In h₀ → News h₀ L s.heap ((l, listOf vs.toArray n) :: news) → (∀ q ∈ news, q.1 ≠ l) → Top p loose mean mg mb h₀ → cs.kind = .function →
    (∀ v ∈ vs, V v) → pos < vs.length → vs.length < 1000 → dp + 2 + d < recursionLimit → un + 16 + u < cLine →
    (∀ h' tk', Fr h₀ L h' m → News h₀ L h' ((l, listOf (sup lt pos vs).toArray n) :: news) → Q .none { s with heap := h', toks := tk' }) →
    wpAny (model PR w) (ktrTop dp un gd cn cs L a ccd cl outer) (call (.ref 84) [.ref l, .int (pos : Int) t2]) Q E s := by
  have fill : Mine.hd.heap_1 = Mine.hd.heap_1 ∧ PySem.Challenge.rw_xh0039_01 = PySem.Challenge.rw_xh0039_01 := by (k_fill; exact ⟨rfl, rfl⟩)
  clear fill
  intro B F X N hl T hk hV h1 h3 hd hu hQ
  have hd' : dp + 1 < recursionLimit := by lia
  refine wpAny_call ?_
  k_dflt ktr_enter
  k_steps
  refine ⟨?_⟩
  rename_i F1 N1
  refine While_inv2 (fun k m₁ nw => ∃ q vs' tp tc te, k = vs.length - q ∧ nw = (l, listOf vs'.toArray n) :: news ∧ m₁ "heap" = some (.ref l) ∧ m₁ "startpos" = some (.int (pos : Int) t2) ∧ m₁ "pos" = some (.int (q : Int) tp) ∧ m₁ "newitem" = some (vs.getD pos .none) ∧ m₁ "endpos" = some (.int (vs.length : Int) te) ∧ m₁ "childpos" = some (.int (2 * (q : Int) + 1) tc) ∧
    vs'.length = vs.length ∧ (∀ v ∈ vs', V v) ∧ q < vs.length ∧ supW lt q vs' = supW lt pos vs ∧ pos ≤ q) (n₀ := vs.length - pos) F1 N1 ?_ ?_ ?_
  · refine ⟨pos, vs, _, _, _, rfl, rfl, rfl, rfl, rfl, rfl, rfl, rfl, rfl, hV, h1, rfl, Nat.le_refl _⟩
  · rintro k m₁ nw h₁ tk₁ F₂ N₂ ⟨q, vs', tp, tc, te, rfl, rfl, e1, e2, e3, e4, e5, e6, e7, e8, e9, e10, e11⟩
    rw [← pin (m := m₁) (ks := [("heap", .ref l), ("startpos", .int (pos : Int) t2), ("pos", .int (q : Int) tp), ("newitem", vs.getD pos .none), ("endpos", .int (vs.length : Int) te), ("childpos", .int (2 * (q : Int) + 1) tc)]) (by
      intro q hq; simp only [List.mem_cons, List.not_mem_nil, or_false] at hq; rcases hq with rfl | rfl | rfl | rfl | rfl | rfl <;> assumption)] at F₂
    clear e1 e2 e3 e4 e5 e6 F1 N1
    have n1 : (2 * (q : Int) + 1).toNat = 2 * q + 1 := by lia
    have n2 : (2 * (q : Int) + 1 + 1).toNat = 2 * q + 2 := by lia
    have n0 : ((q : Int)).toNat = q := by lia
    k_steps
    · refine LtOk.use hL (by assumption) (by assumption) (by assumption) (fun q hq => .tail _ hq) ?_ ?_ (by dsimp only [ktrTop, Around.deeper]; lia) (by dsimp only [ktrTop, Around.deeper]; lia) ?_
      · exact e8 _ (by rw [List.getD_eq_getElem?_getD, List.getElem?_eq_getElem (by lia)]; exact List.getElem_mem _)
      · exact e8 _ (by rw [List.getD_eq_getElem?_getD, List.getElem?_eq_getElem (by lia)]; exact List.getElem_mem _)
      intro h' tk' F' N'
      k_steps
      · have hlt : lt (vs'.getD (2 * (q : Int) + 1).toNat .none) (vs'.getD (2 * (q : Int) + 1 + 1).toNat .none) = true := by assumption
        refine ⟨_, _, _, _, vs.length - (2 * q + 1), rfl, by assumption, by assumption, by lia, 2 * q + 1, _, _, _, _, rfl, rfl, rfl, rfl, congrArg (fun z => some (Value.int z _)) (show (2 * (q : Int) + 1) = ((2 * q + 1 : Nat) : Int) by lia), rfl, rfl, congrArg (fun z => some (Value.int z _)) (show 2 * (2 * (q : Int) + 1) + 1 = 2 * ((2 * q + 1 : Nat) : Int) + 1 by lia), ?_, ?_, by lia, ?_, by lia⟩
        · rw [List.length_set]; exact e7
        · intro v hv
          rcases List.mem_or_eq_of_mem_set hv with h | h
          · exact e8 v h
          · rw [h]; exact e8 _ (by rw [List.getD_eq_getElem?_getD, List.getElem?_eq_getElem (by lia)]; exact List.getElem_mem _)
        · rw [n1, n2] at hlt
          rw [n0, n1, ← e10]
          conv => rhs; rw [supW, if_pos (by lia), if_neg (by rw [hlt]; simp)]
      · have hlt : lt (vs'.getD (2 * (q : Int) + 1).toNat .none) (vs'.getD (2 * (q : Int) + 1 + 1).toNat .none) = false := by assumption
        refine ⟨_, _, _, _, vs.length - (2 * q + 2), rfl, by assumption, by assumption, by lia, 2 * q + 2, _, _, _, _, rfl, rfl, rfl, rfl, congrArg (fun z => some (Value.int z _)) (show (2 * (q : Int) + 1 + 1) = ((2 * q + 2 : Nat) : Int) by lia), rfl, rfl, congrArg (fun z => some (Value.int z _)) (show 2 * (2 * (q : Int) + 1 + 1) + 1 = 2 * ((2 * q + 2 : Nat) : Int) + 1 by lia), ?_, ?_, by lia, ?_, by lia⟩
        · rw [List.length_set]; exact e7
        · intro v hv
          rcases List.mem_or_eq_of_mem_set hv with h | h
          · exact e8 v h
          · rw [h]; exact e8 _ (by rw [List.getD_eq_getElem?_getD, List.getElem?_eq_getElem (by lia)]; exact List.getElem_mem _)
        · rw [n1, n2] at hlt
          rw [n0, n2, ← e10]
          conv => rhs; rw [supW, if_pos (by lia), if_pos ⟨by lia, hlt⟩]
    · refine ⟨_, _, _, _, vs.length - (2 * q + 1), rfl, by assumption, by assumption, by lia, 2 * q + 1, _, _, _, _, rfl, rfl, rfl, rfl, congrArg (fun z => some (Value.int z _)) (show (2 * (q : Int) + 1) = ((2 * q + 1 : Nat) : Int) by lia), rfl, rfl, congrArg (fun z => some (Value.int z _)) (show 2 * (2 * (q : Int) + 1) + 1 = 2 * ((2 * q + 1 : Nat) : Int) + 1 by lia), ?_, ?_, by lia, ?_, by lia⟩
      · rw [List.length_set]; exact e7
      · intro v hv
        rcases List.mem_or_eq_of_mem_set hv with h | h
        · exact e8 v h
        · rw [h]; exact e8 _ (by rw [List.getD_eq_getElem?_getD, List.getElem?_eq_getElem (by lia)]; exact List.getElem_mem _)
      · rw [n0, n1, ← e10]
        conv => rhs; rw [supW, if_pos (by lia), if_neg (by lia)]
    · refine ⟨?_⟩
      rename_i F3 N3
      refine siftdown_ok hL (by assumption) F3 (by assumption) N3 hl (by assumption) rfl ?_ (show pos ≤ q from ?_) ?_ ?_ (by lia) (by dsimp only [ktrTop, Around.deeper]; lia) ?_
      · intro v hv
        rcases List.mem_or_eq_of_mem_set hv with h | h
        · exact e8 v h
        · rw [h]; exact hV _ (by rw [List.getD_eq_getElem?_getD, List.getElem?_eq_getElem h1]; exact List.getElem_mem _)
      · exact e11
      · rw [List.length_set]; lia
      · rw [List.length_set]; lia
      intro h' tk' F' N'
      k_steps
      refine hQ _ _ (by assumption) ?_
      have e : sdn lt pos q (vs'.set (q : Int).toNat (vs.getD pos .none)) = sup lt pos vs := by
        unfold sup
        rw [← e10, n0, supW, if_neg (by lia)]
      rw [← e]
      assumption
  · passes_own
end Mine
end
section -- Hp
open PySem PySem.W PyProof.Rows
namespace Mine
section
variable {lt : Value → Value → Bool}
theorem gD_lt {l : List Value} {j : Nat} (h : j < l.length) : l.getD j .none = l[j] := by
  rw [List.getD_eq_getElem?_getD, List.getElem?_eq_getElem h]; rfl
theorem swap_perm {l : List Value} {i j : Nat} (x : Value) (hi : i < l.length) (hj : j < l.length) (hne : i ≠ j) : ((l.set i (l.getD j .none)).set j x).Perm (l.set i x) := by
  have z := List.set_set_perm (as := l.set i x) (i := i) (j := j) (by rw [List.length_set]; exact hi) (by rw [List.length_set]; exact hj)
  rw [List.getElem_set_self, List.getElem_set_ne hne, List.set_set] at z
  rw [gD_lt hj]; exact z
theorem sdnW_perm (x : Value) (sp : Nat) : ∀ (pos : Nat) (vs : List Value), pos < vs.length → (sdnW lt x sp pos vs).Perm (vs.set pos x) := by
  intro pos
  induction pos using Nat.strongRecOn with
  | _ pos ih =>
    intro vs h
    rw [sdnW]
    by_cases h1 : sp < pos
    · rw [if_pos h1]
      by_cases h2 : lt x (vs.getD ((pos - 1) / 2) .none) = true
      · rw [if_pos h2]
        refine (ih ((pos - 1) / 2) (by lia) _ (by rw [List.length_set]; lia)).trans ?_
        exact swap_perm x h (by lia) (by lia)
      · rw [if_neg h2]
    · rw [if_neg h1]
theorem set_self {l : List Value} {i : Nat} (h : i < l.length) : l.set i (l.getD i .none) = l := by
  rw [gD_lt h]; exact List.set_getElem_self h
theorem sdn_perm {sp pos : Nat} {vs : List Value} (h : pos < vs.length) : (sdn lt sp pos vs).Perm vs := by
  have z := sdnW_perm (lt := lt) (vs.getD pos .none) sp pos vs h
  rwa [set_self h] at z
theorem supW_perm (x : Value) : ∀ (k pos : Nat) (vs : List Value), vs.length - pos = k → pos < vs.length → (supW lt pos vs).1 < vs.length ∧ pos ≤ (supW lt pos vs).1 ∧ (supW lt pos vs).2.length = vs.length ∧ ((supW lt pos vs).2.set (supW lt pos vs).1 x).Perm (vs.set pos x) := by
  intro k
  induction k using Nat.strongRecOn with
  | _ k ih =>
    intro pos vs hk h
    rw [supW]
    by_cases h1 : 2 * pos + 1 < vs.length
    · rw [if_pos h1]
      by_cases h2 : 2 * pos + 2 < vs.length ∧ lt (vs.getD (2 * pos + 1) .none) (vs.getD (2 * pos + 2) .none) = false
      · rw [if_pos h2]
        obtain ⟨a, b, c, d⟩ := ih _ (by rw [← hk]; show (vs.set pos (vs.getD (2 * pos + 2) .none)).length - (2 * pos + 2) < _; rw [List.length_set]; lia) (2 * pos + 2) (vs.set pos (vs.getD (2 * pos + 2) .none)) rfl (by rw [List.length_set]; lia)
        rw [List.length_set] at a c
        exact ⟨a, by lia, c, d.trans (swap_perm x h h2.1 (by lia))⟩
      · rw [if_neg h2]
        obtain ⟨a, b, c, d⟩ := ih _ (by rw [← hk]; show (vs.set pos (vs.getD (2 * pos + 1) .none)).length - (2 * pos + 1) < _; rw [List.length_set]; lia) (2 * pos + 1) (vs.set pos (vs.getD (2 * pos + 1) .none)) rfl (by rw [List.length_set]; lia)
        rw [List.length_set] at a c
        exact ⟨a, by lia, c, d.trans (swap_perm x h h1 (by lia))⟩
    · rw [if_neg h1]
      exact ⟨h, Nat.le_refl _, rfl, List.Perm.refl _⟩
theorem sup_perm {pos : Nat} {vs : List Value} (h : pos < vs.length) : (sup lt pos vs).Perm vs := by
  obtain ⟨a, b, c, d⟩ := supW_perm (lt := lt) (vs.getD pos .none) _ pos vs rfl h
  rw [set_self h] at d
  unfold sup
  exact (sdn_perm (by rw [List.length_set, c]; exact a)).trans d
theorem sup_len {pos : Nat} {vs : List Value} (h : pos < vs.length) : (sup lt pos vs).length = vs.length := (sup_perm h).length_eq
end
end Mine
end
section -- Mm
open PySem PySem.W PySem.W.X PyProof.Rows PyProof.V PySem.Calls
namespace Mine
/-- the memory: what stood ahead stands, the new objects are known -/
structure Me (h₀ h : Heap) (news : List (Addr × Obj)) : Prop where
  keep : ∀ b o, h₀.get? b = some o → h.get? b = some o
  nw : ∀ p ∈ news, h.get? p.1 = some p.2 ∧ h₀.get? p.1 = none
  nd : (news.map (·.1)).Nodup
theorem Me.start (h : Heap) : Me h h [] := ⟨fun _ _ e => e, fun _ hp => (nomatch hp), List.nodup_nil⟩
section
variable {h₀ h h' : Heap} {news news' : List (Addr × Obj)}
theorem Me.at (D : Me h₀ h news) (i : Nat) (a : Addr) (o : Obj) (hi : news[i]? = some (a, o)) : h.get? a = some o := (D.nw _ (List.mem_of_getElem? hi)).1
theorem Me.get (D : Me h₀ h news) {a : Addr} {o : Obj} (hm : (a, o) ∈ news) : h.get? a = some o := (D.nw _ hm).1
theorem Me.ne (D : Me h₀ h news) {a b : Addr} {o ob : Obj} (hm : (a, o) ∈ news) (e : h₀.get? b = some ob) : a ≠ b := by
  intro q
  have z := (D.nw _ hm).2
  rw [q, e] at z; cases z
theorem Me.alloc (D : Me h₀ h news) {o : Obj} (hf : o.isFreed = false) : Me h₀ (h.push o) ((h.objs.size, o) :: news) := by
  refine ⟨fun b o' e => Heap.get?_push_of_some _ (D.keep b o' e), fun p hp => ?_, ?_⟩
  · rcases List.mem_cons.mp hp with rfl | hp
    · refine ⟨Heap.get?_push_size _ hf, ?_⟩
      cases q : h₀.get? h.objs.size with
      | none => rfl
      | some o' => exact absurd (Heap.lt_size (D.keep _ _ q)) (Nat.lt_irrefl _)
    · exact ⟨Heap.get?_push_of_some _ (D.nw p hp).1, (D.nw p hp).2⟩
  · rw [List.map_cons, List.nodup_cons]
    refine ⟨fun hm => ?_, D.nd⟩
    obtain ⟨p, hp, e⟩ := List.mem_map.mp hm
    have := Heap.lt_size (D.nw p hp).1
    exact absurd (e ▸ this) (Nat.lt_irrefl _)
theorem Me.update (D : Me h₀ h news) {i : Nat} {a : Addr} {o : Obj} {f : Obj → Obj} (hi : news[i]? = some (a, o)) (hf : (f o).isFreed = false) : Me h₀ (h.update a f) (news.set i (a, f o)) := by
  have ho := D.at i a o hi
  have z := (D.nw (a, o) (List.mem_of_getElem? hi)).2
  have hs : Heap.SameBut a h (h.update a f) := Heap.SameBut.update ..
  obtain ⟨li, ei⟩ := List.getElem?_eq_some_iff.mp hi
  have em : (news.set i (a, f o)).map (·.1) = news.map (·.1) := by
    rw [List.map_set]
    exact set_same (by rw [List.getElem?_map, hi]; rfl)
  refine ⟨fun b o' e => (hs.2 b fun q => by rw [q, z] at e; cases e).trans (D.keep b o' e), fun p hp => ?_, by rw [em]; exact D.nd⟩
  have hx : (a, f o) ∈ news.set i (a, f o) := List.mem_set li _
  by_cases hpa : p.1 = a
  · have : p = (a, f o) := key_unique (by rw [em]; exact D.nd) hp hx hpa
    subst this
    exact ⟨Heap.get?_update_self _ ho hf, z⟩
  · rcases List.mem_or_eq_of_mem_set hp with hp | rfl
    · exact ⟨(hs.2 _ hpa).trans (D.nw p hp).1, (D.nw p hp).2⟩
    · exact absurd rfl hpa
theorem Me.of (D : Mem h₀ h [] news) : Me h₀ h news :=
  ⟨fun b o e => D.keep b o e (by simp [away]), D.nw, D.ord.imp fun h => Nat.ne_of_gt h⟩
theorem Me.sub (D : Me h₀ h news) (hs : news'.Sublist news) : Me h₀ h news' := ⟨D.keep, fun p hp => D.nw p (hs.subset hp), D.nd.sublist (hs.map _)⟩
theorem Me.trans (D : Me h₀ h news) (D' : Me h h' news') : Me h₀ h' (news' ++ news) := by
  refine ⟨fun b o e => D'.keep b o (D.keep b o e), fun p hp => ?_, ?_⟩
  · rcases List.mem_append.mp hp with hp | hp
    · refine ⟨(D'.nw p hp).1, ?_⟩
      cases q : h₀.get? p.1 with
      | none => rfl
      | some o => have := D.keep _ _ q; rw [(D'.nw p hp).2] at this; cases this
    · exact ⟨D'.keep _ _ (D.nw p hp).1, (D.nw p hp).2⟩
  · rw [List.map_append]
    refine List.nodup_append.mpr ⟨D'.nd, D.nd, fun a ha b hb => ?_⟩
    obtain ⟨p, hp, rfl⟩ := List.mem_map.mp ha
    obtain ⟨q, hq, rfl⟩ := List.mem_map.mp hb
    intro e
    have h1 := (D'.nw p hp).2
    rw [e, (D.nw q hq).1] at h1; cases h1
end
inductive At {β : Type} : List β → Nat → β → Prop
  | head {p : β} {l : List β} : At (p :: l) 0 p
  | tail {p q : β} {l : List β} {i : Nat} : At l i p → At (q :: l) (i + 1) p
theorem At.get {β : Type} {l : List β} {i : Nat} {p : β} (h : At l i p) : l[i]? = some p := by
  induction h with
  | head => rfl
  | tail _ ih => simpa using ih
theorem fil_self (a : Addr) : List.filter (fun x => x != Value.ref a) [Value.ref a, Value.type "object"] = [Value.type "object"] := by
  have h : (Value.type "object" != Value.ref a) = true := rfl
  rw [List.filter_cons_of_neg (by simp)]
  exact (List.filter_cons_of_pos (p := fun x => x != Value.ref a) h).trans (by rw [List.filter_nil])
noncomputable def setAt : List (Option Value) → Nat → Option Value → List (Option Value)
  | [], 0, v => [v]
  | [], n + 1, v => none :: setAt [] n v
  | _ :: r, 0, v => v :: r
  | x :: r, n + 1, v => x :: setAt r n v
theorem drop_self (a : Addr) : List.drop 1 (List.dropWhile (fun x => x != Value.ref a) [Value.ref a, Value.type "object"]) = [Value.type "object"] := by
  rw [List.dropWhile_cons_of_neg (by simp)]; rfl
section
variable {α : Type} {M : Model} {A : Around} {E : Value → Shared → Prop} {s : Shared} {Q : α → Shared → Prop} {h₀ : Heap} {news : List (Addr × Obj)} {a : Addr} {o : Obj}
theorem m_load {p : Option Value} {k : Obj → Sem α} (D : Me h₀ s.heap news) (hm : (a, o) ∈ news) (h : wpAny M A (k o) Q E s) : wpAny M A (.load a p k) Q E s := nd_load (D.nw _ hm).1 h
theorem m_alloc {k : Addr → Sem α} (D : Me h₀ s.heap news) (hf : o.isFreed = false) (h : ∀ a h', Me h₀ h' ((a, o) :: news) → wpAny M A (k a) Q E { s with heap := h' }) : wpAny M A (.alloc o k) Q E s :=
  nd_alloc (h _ _ (D.alloc hf))
theorem m_update {p : Option Value} {f : Obj → Obj} {k : Unit → Sem α} {i : Nat} (D : Me h₀ s.heap news) (hi : news[i]? = some (a, o)) (hf : (f o).isFreed = false)
    (h : ∀ h', Me h₀ h' (news.set i (a, f o)) → wpAny M A (k ()) Q E { s with heap := h' }) : wpAny M A (.update a p f k) Q E s :=
  wpAny_bind (m := updatePart a p f) (f := k) (wpAny_updatePart (D.at i a o hi) (h _ (D.update hi hf)))
theorem setAt_eq : ∀ (sl : List (Option Value)) (i : Nat) (v : Option Value), (sl.toArray ++ Array.replicate (i + 1 - sl.toArray.size) none).setIfInBounds i v = (setAt sl i v).toArray := by
  intro sl i v
  apply Array.toList_inj.mp
  simp only [Array.toList_setIfInBounds, Array.toList_append, Array.toList_replicate, List.size_toArray]
  induction sl generalizing i with
  | nil =>
    induction i with
    | zero => rfl
    | succ n ih =>
      have ih' : (List.replicate (n + 1) (none : Option Value)).set n v = setAt [] n v := by simpa using ih
      simp only [List.length_nil, List.nil_append, Nat.sub_zero, setAt]
      rw [show n + 1 + 1 = (n + 1) + 1 from rfl, List.replicate_succ, List.set_cons_succ, ih']
  | cons x r ih =>
    cases i with
    | zero => simp [setAt]
    | succ n =>
      have := ih n
      simp only [List.length_cons, List.cons_append, List.set_cons_succ, setAt, Nat.add_sub_add_right] at this ⊢
      rw [this]
noncomputable def slotFn (i : Nat) (v : Option Value) : Obj → Obj := fun o => { o with slots := (o.slots ++ Array.replicate (i + 1 - o.slots.size) none).setIfInBounds i v }
theorem slotFn_eq (i : Nat) (v : Option Value) (c : Value) (d : Option Addr) (dt : Data) (sl : List (Option Value)) : slotFn i v ⟨c, d, dt, sl.toArray⟩ = ⟨c, d, dt, (setAt sl i v).toArray⟩ := by
  unfold slotFn
  dsimp only
  rw [← setAt_eq]
theorem m_setSlot {i j : Nat} {v : Option Value} {c : Value} {d : Option Addr} {dt : Data} {sl : List (Option Value)} {Q : Unit → Shared → Prop} (D : Me h₀ s.heap news) (hi : news[j]? = some (a, ⟨c, d, dt, sl.toArray⟩)) (hz : i < sizeLine) (hf : (⟨c, d, dt, (setAt sl i v).toArray⟩ : Obj).isFreed = false)
    (h : ∀ h', Me h₀ h' (news.set j (a, ⟨c, d, dt, (setAt sl i v).toArray⟩)) → Q () { s with heap := h' }) : wpAny M A (setSlotAt a i v) Q E s := by
  unfold setSlotAt
  rw [if_neg (Nat.not_le.mpr hz)]
  have D' := D.update (f := slotFn i v) hi (by rw [slotFn_eq]; exact hf)
  rw [slotFn_eq] at D'
  exact wpAny_updatePart (D.at j a _ hi) (h _ D')
theorem m_slotAt {i : Nat} {c : Value} {d : Option Addr} {dt : Data} {sl : List (Option Value)} {r : Option Value} {Q : Option Value → Shared → Prop} (D : Me h₀ s.heap news) (hm : (a, (⟨c, d, dt, sl.toArray⟩ : Obj)) ∈ news) (e : (sl[i]?).join = r) (h : Q r s) : wpAny M A (slotAt a i) Q E s := by
  unfold slotAt
  refine wpAny_bind (wpAny_loadPart (D.nw _ hm).1 (wpAny_pure ?_))
  show Q ((sl.toArray[i]?).join) s
  rw [List.getElem?_toArray, e]; exact h
theorem m_updateCls {f : ClassData → ClassData} {j : Nat} {c : Value} {d : Option Addr} {cd : ClassData} {sl : Array (Option Value)} {Q : Unit → Shared → Prop} (D : Me h₀ s.heap news) (hi : news[j]? = some (a, ⟨c, d, .cls cd, sl⟩)) (hf : (⟨c, d, .cls (f cd), sl⟩ : Obj).isFreed = false)
    (hp : (Data.cls (f cd)).pastItsLine = none) (h : ∀ h', Me h₀ h' (news.set j (a, ⟨c, d, .cls (f cd), sl⟩)) → Q () { s with heap := h' }) : wpAny M A (updateCls a f) Q E s := by
  unfold updateCls
  refine wpAny_bind (wpAny_load (D.at j a _ hi) ?_)
  dsimp only
  have D' := D.update (f := Obj.mapCls f) hi hf
  refine wpAny_bind (wpAny_update (D.at j a _ hi) ?_)
  refine wpAny_lookBehind (o := ⟨c, d, .cls (f cd), sl⟩) ?_ hp (h _ D')
  exact Heap.get?_update_self _ (D.at j a _ hi) hf
theorem m_tc {m : Sem α} {k : Value → Sem α} (h : wpAny M A m Q (fun e s' => wpAny M A (k e) Q E s') s) : wpAny M A (Sem.tryCatch m k) Q E s := wpAny_tryCatch h
theorem m_arr {β γ : Type} {xs : Array γ} {b : β} {f : γ → β → Sem (ForInStep β)} {Q : β → Shared → Prop} (h : wpAny M A (forIn xs.toList b f) Q E s) : wpAny M A (forIn xs b f) Q E s := by rw [← Array.forIn_toList]; exact h
theorem m_updA {p : Option Value} {f : Obj → Obj} {k : Unit → Sem α} {i : Nat} (D : Me h₀ s.heap news) (hi : At news i (a, o)) (hf : (f o).isFreed = false)
    (h : ∀ h', Me h₀ h' (news.set i (a, f o)) → wpAny M A (k ()) Q E { s with heap := h' }) : wpAny M A (.update a p f k) Q E s := m_update D hi.get hf h
theorem m_ifF {c : Prop} [Decidable c] {x y : Sem α} (hc : ¬ c) (h : wpAny M A y Q E s) : wpAny M A (if c then x else y) Q E s := by rw [if_neg hc]; exact h
theorem m_ifT {c : Prop} [Decidable c] {x y : Sem α} (hc : c) (h : wpAny M A x Q E s) : wpAny M A (if c then x else y) Q E s := by rw [if_pos hc]; exact h
theorem m_ifF' {b : Bool} {x y : Sem α} (e : b = false) (h : wpAny M A y Q E s) : wpAny M A (if b = true then x else y) Q E s := by subst e; exact h
theorem m_ifT' {b : Bool} {x y : Sem α} (e : b = true) (h : wpAny M A x Q E s) : wpAny M A (if b = true then x else y) Q E s := by subst e; exact h
/-- reading nodes of a known namespace -/
theorem m_nsGet {name : Str} {r : Option Value} {Q : Option Value → Shared → Prop} (D : Me h₀ s.heap news) (hm : (a, o) ∈ news) (e : lookIn name o = some r) (h : Q r s) : wpAny M A (nsGet a name) Q E s := by
  refine wpAny_bind (wpAny_loadPart (D.nw _ hm).1 ?_)
  rw [nsLook_of e]; exact wpAny_pure h
end
section
variable {prog : Program} {w : World} {A : Around} {E : Value → Shared → Prop} {s : Shared} {h₀ : Heap} {news : List (Addr × Obj)}
theorem m_callF {M : Model} {f : Value} {pos : List Value} {kw : List (Str × Value)} {Q : Flow → Shared → Prop} (h : wpAny M A (call f pos kw) (fun v s' => Q (.ret v) s') E s) :
    wpAny M A (Sem.call (.call f ⟨pos, kw⟩) none false [] fun x => match x with | .ok f => .pure f | .error e => .raise e) Q E s := fun Γ p hΓ => by
  have z := h Γ p hΓ
  unfold call runValue at z
  rw [Sem.wp_bind'] at z
  refine Sem.wp_mono M Γ (run (.call f ⟨pos, kw⟩)) (fun fl p' s' h' => ?_) (fun _ _ _ h' => h') p s z
  cases fl with
  | ret v => exact h'
  | next => exact h'.elim
  | brk => exact h'.elim
  | cont => exact h'.elim
theorem m_slotcall {T : String} {name : Str} {id : String} {b : Builtin} {self : Value} {rest : List Value} {Q : Flow → Shared → Prop} (S : Slot T name id) (hT : s.TypeIs self T) (hb : entryFor table id = some b) (ha : argsOk id ⟨self :: rest, []⟩)
    (hc : wpAny (model prog w) A.in1 (b ⟨self :: rest, []⟩) (fun fin s' => ∃ v, fin = .done (.ret v) ∧ Q (.ret v) s') E s) :
    wpAny (model prog w) A (Sem.call (.call (.builtin id) ⟨self :: rest, []⟩) none false [] fun x => match x with | .ok f => .pure f | .error e => .raise e) Q E s := by
  refine wpAny_run (h := none) (codeAny_call_builtin S.plain hb ?_)
  refine S.check _ _ _ _ _ _ _ _ hT ha (wpAny_mono hc (fun fin s' h' => ?_) fun _ _ h' => h')
  obtain ⟨v, rfl, hv⟩ := h'; exact hv
theorem m_collect {v : Value} {l : Addr} {vs : List Value} {n : Nat} {Q : List Value → Shared → Prop} (D : Me h₀ s.heap news) (hv : v = .ref l) (hm : (l, seqObj "list" vs.toArray n) ∈ news) (hsz : vs.length ≤ sizeLine)
    (h : ∀ a o h', Me h₀ h' ((a, o) :: news) → Q vs { s with heap := h' }) : wpAny (model prog w) A (collect v) Q E s := by
  subst hv
  have ho := (D.nw _ hm).1
  refine collect_list (vs := vs) ⟨_, ho, rfl, n, rfl⟩ ?_ hsz
  refine h s.heap.objs.size _ _ ((D.alloc (o := seqObj "list" #[] 0) rfl).update (i := 0) rfl ?_)
  rfl
end
section
variable {α β : Type} {M : Model} {A : Around} {Q : α → Shared → Prop} {E : Value → Shared → Prop} {s : Shared}
/-- what is left to do after a step: named so that no binder stands between -/
@[reducible] def bQ (M : Model) (A : Around) (f : β → Sem α) (Q : α → Shared → Prop) (E : Value → Shared → Prop) : β → Shared → Prop := fun a s' => wpAny M A (f a) Q E s'
@[reducible] def rE (M : Model) (A : Around) (k : Value → Sem Unit) (E : Value → Shared → Prop) : Value → Shared → Prop := fun e s' => wpAny M A (k e) (fun _ s'' => E e s'') E s'
@[reducible] def okQ (Q : Except Value α → Shared → Prop) : α → Shared → Prop := fun a => Q (.ok a)
@[reducible] def erQ (Q : Except Value α → Shared → Prop) : Value → Shared → Prop := fun e => Q (.error e)
theorem b_bind {m : Sem β} {f : β → Sem α} (h : wpAny M A m (bQ M A f Q E) E s) : wpAny M A (m >>= f) Q E s := wpAny_bind h
theorem b_nd {m : Sem β} {f : β → Sem α} (h : wpAny M A m (bQ M A f Q E) E s) : wpAny M A (m.bind f) Q E s := wpAny_bind h
theorem b_tc {m : Sem α} {k : Value → Sem α} (h : wpAny M A m Q (bQ M A k Q E) s) : wpAny M A (Sem.tryCatch m k) Q E s := wpAny_tryCatch h
theorem b_or {m : Sem α} {k : Value → Sem Unit} (h : wpAny M A m Q (rE M A k E) s) : wpAny M A (m.onRaise k) Q E s := wpAny_onRaise h
theorem b_att {m : Sem α} {Q : Except Value α → Shared → Prop} (h : wpAny M A m (okQ Q) (erQ Q) s) : wpAny M A m.attempt Q E s := wpAny_attempt h
end
section
variable {α : Type} {M : Model} {A : Around} {E : Value → Shared → Prop} {Q : α → Shared → Prop} {h₀ h : Heap} {news : List (Addr × Obj)} {a : Addr} {o : Obj} {g : Array GenState} {d : Drawn} {t : Nat} {os : OsState}
theorem c_fresh {k : Tok → Sem α} (H : wpAny M A (k t) Q E ⟨h, g, d, t + 1, os⟩) : wpAny M A (.fresh k) Q E ⟨h, g, d, t, os⟩ := nd_fresh H
theorem c_alloc {k : Addr → Sem α} (D : Me h₀ h news) (hf : o.isFreed = false) (H : ∀ a h', Me h₀ h' ((a, o) :: news) → wpAny M A (k a) Q E ⟨h', g, d, t, os⟩) : wpAny M A (.alloc o k) Q E ⟨h, g, d, t, os⟩ :=
  m_alloc (s := ⟨h, g, d, t, os⟩) D hf H
theorem c_update {p : Option Value} {f : Obj → Obj} {k : Unit → Sem α} {i : Nat} (D : Me h₀ h news) (hi : news[i]? = some (a, o)) (hf : (f o).isFreed = false)
    (H : ∀ h', Me h₀ h' (news.set i (a, f o)) → wpAny M A (k ()) Q E ⟨h', g, d, t, os⟩) : wpAny M A (.update a p f k) Q E ⟨h, g, d, t, os⟩ := m_update (s := ⟨h, g, d, t, os⟩) D hi hf H
theorem c_updA {p : Option Value} {f : Obj → Obj} {k : Unit → Sem α} {i : Nat} (D : Me h₀ h news) (hi : At news i (a, o)) (hf : (f o).isFreed = false)
    (H : ∀ h', Me h₀ h' (news.set i (a, f o)) → wpAny M A (k ()) Q E ⟨h', g, d, t, os⟩) : wpAny M A (.update a p f k) Q E ⟨h, g, d, t, os⟩ := m_updA (s := ⟨h, g, d, t, os⟩) D hi hf H
theorem c_setSlot {i j : Nat} {v : Option Value} {c : Value} {di : Option Addr} {dt : Data} {sl : List (Option Value)} {Q : Unit → Shared → Prop} (D : Me h₀ h news) (hi : news[j]? = some (a, ⟨c, di, dt, sl.toArray⟩)) (hz : i < sizeLine) (hf : (⟨c, di, dt, (setAt sl i v).toArray⟩ : Obj).isFreed = false)
    (H : ∀ h', Me h₀ h' (news.set j (a, ⟨c, di, dt, (setAt sl i v).toArray⟩)) → Q () ⟨h', g, d, t, os⟩) : wpAny M A (setSlotAt a i v) Q E ⟨h, g, d, t, os⟩ := m_setSlot (s := ⟨h, g, d, t, os⟩) D hi hz hf H
theorem c_updateCls {f : ClassData → ClassData} {j : Nat} {c : Value} {di : Option Addr} {cd : ClassData} {sl : Array (Option Value)} {Q : Unit → Shared → Prop} (D : Me h₀ h news) (hi : news[j]? = some (a, ⟨c, di, .cls cd, sl⟩)) (hf : (⟨c, di, .cls (f cd), sl⟩ : Obj).isFreed = false)
    (hp : (Data.cls (f cd)).pastItsLine = none) (H : ∀ h', Me h₀ h' (news.set j (a, ⟨c, di, .cls (f cd), sl⟩)) → Q () ⟨h', g, d, t, os⟩) : wpAny M A (updateCls a f) Q E ⟨h, g, d, t, os⟩ := m_updateCls (s := ⟨h, g, d, t, os⟩) D hi hf hp H
end
section
variable {prog : Program} {w : World} {A : Around} {E : Value → Shared → Prop} {h₀ h : Heap} {news : List (Addr × Obj)} {g : Array GenState} {d : Drawn} {t : Nat} {os : OsState}
theorem c_collect {v : Value} {l : Addr} {vs : List Value} {n : Nat} {Q : List Value → Shared → Prop} (D : Me h₀ h news) (hv : v = .ref l) (hm : (l, seqObj "list" vs.toArray n) ∈ news) (hsz : vs.length ≤ sizeLine)
    (H : ∀ a o h', Me h₀ h' ((a, o) :: news) → Q vs ⟨h', g, d, t, os⟩) : wpAny (model prog w) A (collect v) Q E ⟨h, g, d, t, os⟩ := m_collect (s := ⟨h, g, d, t, os⟩) D hv hm hsz H
end
section
variable {α β : Type} {M : Model} {A : Around} {Q : α → Shared → Prop} {E : Value → Shared → Prop} {s : Shared}
/-- the same, with what is left to do as a thing of its own -/
theorem b_cut {m : Sem β} {f : β → Sem α} (H : ∀ Q' : β → Shared → Prop, (∀ a s', wpAny M A (f a) Q E s' → Q' a s') → wpAny M A m Q' E s) : wpAny M A (m >>= f) Q E s :=
  wpAny_bind (H _ fun _ _ h => h)
theorem b_cutN {m : Sem β} {f : β → Sem α} (H : ∀ Q' : β → Shared → Prop, (∀ a s', wpAny M A (f a) Q E s' → Q' a s') → wpAny M A m Q' E s) : wpAny M A (m.bind f) Q E s :=
  wpAny_bind (H _ fun _ _ h => h)
end
end Mine
end
section -- Mf
open PySem PySem.W PySem.W.X PyProof.Rows PyProof.V PySem.Calls
namespace Mine
section
variable {h₀ h h' : Heap} {news : List (Addr × Obj)}
theorem Me.extBut (D : Me h₀ h news) {i : Nat} {a : Addr} {o o' : Obj} (hi : news[i]? = some (a, o)) (hx : Heap.ExtBut a h h') (e : h'.get? a = some o') : Me h₀ h' (news.set i (a, o')) := by
  have z := (D.nw (a, o) (List.mem_of_getElem? hi)).2
  obtain ⟨li, ei⟩ := List.getElem?_eq_some_iff.mp hi
  have em : (news.set i (a, o')).map (·.1) = news.map (·.1) := by
    rw [List.map_set]
    exact set_same (by rw [List.getElem?_map, hi]; rfl)
  refine ⟨fun b o' e => hx _ _ (fun q => by rw [q, z] at e; cases e) (D.keep b o' e), fun p hp => ?_, by rw [em]; exact D.nd⟩
  have hm : (a, o') ∈ news.set i (a, o') := List.mem_set li _
  by_cases hpa : p.1 = a
  · have : p = (a, o') := key_unique (by rw [em]; exact D.nd) hp hm hpa
    subst this
    exact ⟨e, z⟩
  · rcases List.mem_or_eq_of_mem_set hp with hp | rfl
    · exact ⟨hx _ _ hpa (D.nw p hp).1, (D.nw p hp).2⟩
    · exact absurd rfl hpa
theorem Me.new (D : Me h₀ h news) {a : Addr} {o : Obj} (e : h.get? a = some o) (hn : h₀.get? a = none) (hni : ∀ q ∈ news, q.1 ≠ a) : Me h₀ h ((a, o) :: news) := by
  refine ⟨D.keep, fun p hp => ?_, ?_⟩
  · rcases List.mem_cons.mp hp with rfl | hp
    · exact ⟨e, hn⟩
    · exact D.nw p hp
  · rw [List.map_cons, List.nodup_cons]
    refine ⟨fun hm => ?_, D.nd⟩
    obtain ⟨p, hp, q⟩ := List.mem_map.mp hm
    exact hni p hp q
end
section
variable {M : Model} {A : Around} {E : Value → Shared → Prop} {s : Shared} {name qual : Str} {params : Arguments} {body : List Stmt} {scope : Scope} {env : Env} {c P : Addr} {ps : Array Value} {pos : Pos} {firstLine : Nat} {mg : Str → Option Value}
  {clos : List (Str × Addr)} {Q : Value → Shared → Prop} {h₀ : Heap} {news : List (Addr × Obj)} {i : Nat}
theorem m_makeFn (D : Me h₀ s.heap news) (hi : At news i (P, tabObj ps)) (hcl : closureFor scope env = pure clos) (hge0 : env.globals = mainGlobals) (hg : h₀.Ns mainGlobals mg) (hb : ∃ bm o, mg "__builtins__" = some (.ref bm) ∧ bm ≠ builtinsNs ∧ bm ≠ mainGlobals ∧ h₀.get? bm = some o ∧ o.cls = .type "module" ∧ o.dict = some builtinsNs ∧ o.data = .plain)
    (hcode : env.code = .ref c) (C : CodeHd s.heap c P) (ht : TriplesOk ps.toList) (hnf : codeAmong pos ps.toList = none)
    (h : ∀ f c' oc vs t ctv doc pm h' tk, Me h₀ h' ((f, fnMade name qual params body scope clos doc pm c' ctv) :: (c', oc) :: news.set i (P, tabObj (ps ++ #[rawInt pos.line, rawInt pos.col, .ref c']))) → oc.cls = .type "code" → oc.data = .fields vs → vs[1]? = some (.str qual t) → Q (.ref f) { s with heap := h', toks := tk }) :
    wpAny M A (makeFunction name qual params (.stmts body) scope env [] [] [] pos firstLine) Q E s := by
  have hm := D.nw _ (List.mem_of_getElem? hi.get)
  obtain ⟨bm, ob, b1, b2, b3, b4, b5, b6, b7⟩ := hb
  have hgP : mainGlobals ≠ P := fun q => by
    obtain ⟨o, es, ep, e, _⟩ := hg
    rw [q, hm.2] at e; cases e
  have hbP : bm ≠ P := fun q => by
    rw [q, hm.2] at b4; cases b4
  have hgs := hg.keeps D.keep
  have fr : ∀ a, s.heap.objs.size ≤ a → h₀.get? a = none := fun a ha => by
    cases q : h₀.get? a with
    | none => rfl
    | some o => exact absurd (Heap.lt_size (D.keep _ _ q)) (Nat.not_lt.mpr ha)
  have fin : ∀ c' (h' : Heap) ctv doc pm tk, Heap.ExtBut P s.heap h' → s.heap.objs.size ≤ c' → h'.CodeRec (.ref c') qual → (∃ P', h'.TableAt c' P' #[]) → h'.get? P = some (tabObj (ps ++ #[rawInt pos.line, rawInt pos.col, .ref c'])) →
      Q (.ref h'.objs.size) { s with heap := h'.push (fnMade name qual params body scope clos doc pm c' ctv), toks := tk } := fun c' h' ctv doc pm tk hx hge hrec hta htb => by
    obtain ⟨c₂, oc, vs, t, e2, hoc, hd, hv⟩ := hrec
    cases e2
    obtain ⟨P', ⟨o', vs', g1, g2, _⟩, _⟩ := hta
    rw [hoc] at g1; cases g1
    have D1 := D.extBut hi.get hx htb
    have ni : ∀ q ∈ news.set i (P, tabObj (ps ++ #[rawInt pos.line, rawInt pos.col, .ref c'])), q.1 ≠ c' := fun q hq e => by
      have hk : q.1 ∈ news.map (·.1) := by
        have : q.1 ∈ (news.set i (P, tabObj (ps ++ #[rawInt pos.line, rawInt pos.col, .ref c']))).map (·.1) := List.mem_map.mpr ⟨q, hq, rfl⟩
        rw [List.map_set] at this
        rcases List.mem_or_eq_of_mem_set this with z | z
        · exact z
        · rw [z]; exact List.mem_map.mpr ⟨_, List.mem_of_getElem? hi.get, rfl⟩
      obtain ⟨r, hr, e'⟩ := List.mem_map.mp hk
      have := Heap.lt_size (D.nw r hr).1
      rw [e', e] at this
      exact absurd this (Nat.not_lt.mpr hge)
    exact h _ c' oc vs t ctv doc pm _ tk ((D1.new hoc (fr _ hge) ni).alloc rfl) g2 hd hv
  rw [makeFunction_eq]
  simp only [List.zip_nil_right, List.filterMap_nil, List.isEmpty_nil, if_true, pure_bind]
  unfold makeTail
  rw [hcl, hge0]
  refine wpAny_bind (wpAny_pure ?_)
  cases clos with
  | nil =>
    simp only [List.isEmpty_nil, if_true]
    refine wpAny_bind (wpAny_pure ?_)
    refine wpAny_bind (wpAny_functionCodeX hcode (C.code hm.1 ht) (C.tab hm.1) hnf fun c' h' tk hx hge hlt _ hrec htb htc => ?_)
    obtain ⟨P', _, _, htc⟩ := htc
    have hg' := hgs.extBut hx hgP
    refine wpAny_bind (wpAny_builtinsFor hg' b1 b2 (hx _ _ hbP (D.keep _ _ b4)) b5 b6 b7 ?_)
    refine wpAny_bind (wpAny_nsGet hg' ?_)
    cases hdoc : docOf body with
    | none => exact wpAny_bind (wpAny_pure (wpAny_newObj_type (fin c' h' .none .none _ tk hx hge hrec ⟨P', htc⟩ htb.2) (by size_fits)))
    | some t => exact wpAny_bind (wpAny_mkText (wpAny_newObj_type (fin c' h' .none _ _ _ hx hge hrec ⟨P', htc⟩ htb.2) (by size_fits)))
  | cons q r =>
    simp only [List.isEmpty_cons, Bool.false_eq_true, if_false]
    refine wpAny_bind (wpAny_newTextTuple ?_)
    have kp : ∀ (oT : Obj) b o, s.heap.get? b = some o → (s.heap.push oT).get? b = some o := fun oT b o e => Heap.get?_push_of_some _ e
    refine wpAny_bind (wpAny_functionCodeX hcode ((C.keeps (kp _)).code (kp _ _ _ hm.1) ht) ((C.keeps (kp _)).tab (kp _ _ _ hm.1)) hnf fun c' h' tk hx hge hlt _ hrec htb htc => ?_)
    obtain ⟨P', _, _, htc⟩ := htc
    have hx' : Heap.ExtBut P s.heap h' := fun b o hb' e => hx b o hb' (kp _ _ _ e)
    have hge' : s.heap.objs.size ≤ c' := Nat.le_trans (by rw [Heap.size_push]; lia) hge
    have hg' := hgs.extBut hx' hgP
    refine wpAny_bind (wpAny_builtinsFor hg' b1 b2 (hx' _ _ hbP (D.keep _ _ b4)) b5 b6 b7 ?_)
    refine wpAny_bind (wpAny_nsGet hg' ?_)
    cases hdoc : docOf body with
    | none => exact wpAny_bind (wpAny_pure (wpAny_newObj_type (fin c' h' _ .none _ tk hx' hge' hrec ⟨P', htc⟩ htb.2) (by size_fits)))
    | some t => exact wpAny_bind (wpAny_mkText (wpAny_newObj_type (fin c' h' _ _ _ _ hx' hge' hrec ⟨P', htc⟩ htb.2) (by size_fits)))
end
theorem m_oldF {α : Type} {M : Model} {A : Around} {Q : α → Shared → Prop} {E : Value → Shared → Prop} {s : Shared} {h₀ : Heap} {news : List (Addr × Obj)} {a : Addr} {o : Obj} {p : Option Value} {k : Obj → Sem α} (D : Me h₀ s.heap news)
  (e : h₀.get? a = some o) (h : wpAny M A (k o) Q E s) : wpAny M A (.load a p k) Q E s := nd_load (D.keep _ _ e) h
theorem m_ns0 {M : Model} {A : Around} {Q : Option Value → Shared → Prop} {E : Value → Shared → Prop} {s : Shared} {h₀ : Heap} {news : List (Addr × Obj)} {mb : Str → Option Value} {name : Str} {r : Option Value} (D : Me h₀ s.heap news)
  (hb : h₀.Ns 0 mb) (e : mb name = r) (h : Q r s) : wpAny M A (nsGet 0 name) Q E s := by
  subst e
  exact wpAny_nsGet (hb.keeps D.keep) h
theorem noLimit_of {h : Heap} (e : h.get? 2 = some { cls := .none, data := .dict #[] 0 }) : h.NoLimit :=
  ⟨fun _ => none, ⟨_, #[], 0, e, rfl, fun _ he => by simp at he, fun _ => rfl⟩, rfl⟩
end Mine
end
section -- Su
open PySem PySem.W PySem.W.X PyProof.Rows PyProof.V PySem.Calls
namespace Mine
theorem setup_Su_1 : True := by
  w_top off
  k_with_none
  k_with "mem" => (first | assumption | exact List.Mem.head _ | (refine List.mem_cons_of_mem _ ?_; k_mem))
  exact True.intro
theorem bo1 : builtinOwn "object" (Str.ofString "__new__") = some (.builtin "object.__new__") := by rw [builtinOwn_eq_fast]; kernel_rfl
theorem setup_Su_2 : True := by
  k_with "lk" => (((fail_if_success (with_reducible show wpAny _ _ (PySem.call _ _ _) _ _ _)); (fail_if_success (with_reducible show wpAny _ _ (PySem.runValue _) _ _ _)); (fail_if_success (with_reducible show wpAny _ _ (forIn (List.drop _ _) _ _) _ _ _)); (fail_if_success (with_reducible show wpAny _ _ (PySem.run _ _) _ _ _)); first
  | with_reducible refine Looks.at (by assumption) ?_
  | ((with_reducible show wpAny _ _ (pure (builtinOwn _ _)) _ _ _); rw [bo1])
  | (with_reducible refine b_bind ?_; try walk_at "kf") | (with_reducible refine b_nd ?_; try walk_at "kf") | with_reducible refine wpAny_holding ?_ | (with_reducible refine b_tc ?_; try walk_at "kf") | with_reducible refine b_att ?_ | with_reducible refine b_or ?_
  | ((with_reducible show wpAny _ _ (collect _) _ _ _); k_dflt (refine' m_collect ?zzD ?zzhv ?zzhm ?zzhz ?_; (case zzD => assumption); (case zzhv => with_unfolding_all rfl); (case zzhm => k_mem); (case zzhz => exact Nat.le_of_ble_eq_true rfl)); intro _ _ _ _)
  | ((with_reducible show wpAny _ _ (Sem.load _ _ _) _ _ _); k_dflt (refine' m_load ?zzD ?zzhm ?_; (case zzD => with_reducible assumption); (case zzhm => k_mem)); try dsimp only)
  | ((with_reducible show wpAny _ _ (setSlotAt _ _ _) _ _ _); k_dflt (first | refine m_setSlot (j := 0) (by with_reducible assumption) rfl (Nat.lt_of_lt_of_le (by decide : _ < 100) (Nat.le_of_ble_eq_true rfl)) rfl ?_ | refine m_setSlot (j := 1) (by with_reducible assumption) rfl (Nat.lt_of_lt_of_le (by decide : _ < 100) (Nat.le_of_ble_eq_true rfl)) rfl ?_ | refine m_setSlot (j := 2) (by with_reducible assumption) rfl (Nat.lt_of_lt_of_le (by decide : _ < 100) (Nat.le_of_ble_eq_true rfl)) rfl ?_); intro _ Dn; dsimp only [List.set, setAt] at Dn; revert Dn; intro _)
  | ((with_reducible show wpAny _ _ (slotAt _ _) _ _ _); k_dflt (refine' m_slotAt ?zzD ?zzm ?zze ?_; (case zzD => with_reducible assumption); (case zzm => k_mem); (case zze => rfl)))
  | ((with_reducible show wpAny _ _ (updateCls _ _) _ _ _); k_dflt (first | refine m_updateCls (j := 0) (by with_reducible assumption) rfl rfl rfl ?_ | refine m_updateCls (j := 1) (by with_reducible assumption) rfl rfl rfl ?_ | refine m_updateCls (j := 2) (by with_reducible assumption) rfl rfl rfl ?_); intro _ Dn; dsimp only [List.set] at Dn; revert Dn; intro _)
  | with_reducible refine m_arr ?_
  | (with_reducible refine m_alloc (by assumption) rfl ?_; intro _ _ _; try dsimp only)
  | ((with_reducible show wpAny _ _ (Sem.update _ _ _ _) _ _ _); k_dflt (first | refine m_update (i := 0) (by with_reducible assumption) rfl rfl ?_ | refine m_update (i := 1) (by with_reducible assumption) rfl rfl ?_ | refine m_update (i := 2) (by with_reducible assumption) rfl rfl ?_ | refine m_update (i := 3) (by with_reducible assumption) rfl rfl ?_ | refine m_update (i := 4) (by with_reducible assumption) rfl rfl ?_); intro _ Dn; dsimp only [List.set] at Dn; revert Dn; intro _)
  | k_node
  | with_reducible refine m_ifF' (by kernel_rfl!) ?_
  | with_reducible refine m_ifT' (by kernel_rfl!) ?_))
  exact True.intro
noncomputable abbrev clsObj (C nsd : Addr) (sl : Array (Option Value)) : Obj :=
  { cls := .type "type", data := .cls { name := Str.ofString "K", bases := [.type "object"], mro := [.ref C, .type "object"], ns := nsd, qualname := Str.ofString "cmp_to_key.<locals>.K", hasDict := false, slotNames := [Str.ofString "obj"], hasDel := false }, slots := sl }
theorem slot_sga : Slot "super" "__getattribute__" "super.__getattribute__" :=
  .of (owner := "super") (n := "__getattribute__") (by rw [typeLookup_type, builtinLookup_eq_fast]; kernel_rfl) (by decide +kernel) (by decide +kernel) (by decide +kernel)
    (by first | exact .inl (by decide +kernel) | exact .inr (by decide +kernel)) (by rw [isSubtype_type]; kernel_rfl)
theorem entry_sga : entryFor table "super.__getattribute__" = some Builtin.«super.__getattribute__» := entryFor_of_tree (by kernel_rfl)
theorem args_sga (a b : Value) : argsOk "super.__getattribute__" ⟨[a, b], []⟩ := by unfold argsOk; kernel_rfl
theorem slot_cmg : Slot "classmethod_descriptor" "__get__" "classmethod_descriptor.__get__" :=
  .of (owner := "classmethod_descriptor") (n := "__get__") (by rw [typeLookup_type, builtinLookup_eq_fast]; kernel_rfl) (by decide +kernel) (by decide +kernel) (by decide +kernel)
    (by first | exact .inl (by decide +kernel) | exact .inr (by decide +kernel)) (by rw [isSubtype_type]; kernel_rfl)
theorem entry_cmg : entryFor table "classmethod_descriptor.__get__" = some Builtin.«classmethod_descriptor.__get__» := entryFor_of_tree (by kernel_rfl)
theorem args_cmg (a b c : Value) : argsOk "classmethod_descriptor.__get__" ⟨[a, b, c], []⟩ := by unfold argsOk; kernel_rfl
theorem ty_ois {s : Shared} : s.TypeIs (.builtin "object.__init_subclass__") "classmethod_descriptor" := by
  show typeOf (.builtin "object.__init_subclass__") = pure (.type "classmethod_descriptor")
  show builtinType _ = _
  rw [builtinType_eq_fast]; kernel_rfl
section
variable {prog : Program} {w : World} {A : Around} {s : Shared} {Q E : Value → Shared → Prop} {h₀ : Heap} {news : List (Addr × Obj)} {C nsd : Addr} {sl : Array (Option Value)}
theorem setup_Su_3 : True := by
  k_with "close" => (first | exact hQ _ _ _ (Me.trans Dm (Me.of (by assumption))) | exact hQ)
  exact True.intro
theorem super_ok (Dm : Me h₀ s.heap news) (hC : (C, clsObj C nsd sl) ∈ news) (h2 : s.heap.get? 2 = some { cls := .none, data := .dict #[] 0 }) (hdep : A.depth + 20 < recursionLimit) (hun : A.units + 100 < cLine)
  (hQ : ∀ sup h' tk, Me h₀ h' ((sup, { cls := .type "super", data := .fields #[.ref C, .ref C, .ref C] }) :: news) → Q (.ref sup) { s with heap := h', toks := tk }) :
  wpAny (model prog w) A (call (.type "super") [.ref C, .ref C]) Q E s := by
  have hc := Dm.get hC
  unfold clsObj at hc
  x_run
noncomputable abbrev subObj (C : Addr) : Obj := { cls := .type "builtin_function_or_method", data := .fields #[.builtin "object.__init_subclass__", .ref C] }
theorem initsub_ok {b : Addr} (Dm : Me h₀ s.heap news) (hb : (b, subObj C) ∈ news) (hC : (C, clsObj C nsd sl) ∈ news) (h2 : s.heap.get? 2 = some { cls := .none, data := .dict #[] 0 }) (hdep : A.depth + 20 < recursionLimit) (hun : A.units + 100 < cLine)
  (hQ : Q .none s) :
  wpAny (model prog w) A (call (.ref b) [] []) Q E s := by
  have hc := Dm.get hC
  unfold clsObj at hc
  have hb' := Dm.get hb
  unfold subObj at hb'
  x_run
theorem getsub_ok {p : Addr} (Dm : Me h₀ s.heap news) (hp : (p, ({ cls := .type "super", data := .fields #[.ref C, .ref C, .ref C] } : Obj)) ∈ news) (hC : (C, clsObj C nsd sl) ∈ news) (h2 : s.heap.get? 2 = some { cls := .none, data := .dict #[] 0 }) (hdep : A.depth + 20 < recursionLimit) (hun : A.units + 100 < cLine)
  (hQ : ∀ b h' tk, Me h₀ h' ((b, subObj C) :: news) → Q (.ref b) { s with heap := h', toks := tk }) :
  wpAny (model prog w) A (getAttr (.ref p) (Str.ofString "__init_subclass__")) Q E s := by
  have hc := Dm.get hC
  unfold clsObj at hc
  have hp' := Dm.get hp
  repeat (walk_at "lk")
  show wpAny _ _ (call (.builtin "super.__getattribute__") [.ref p, .str (Str.ofString "__init_subclass__") s.toks] []) _ _ _
  refine wpAny_call_entry slot_sga ⟨_, hp', rfl⟩ entry_sga ?_ (args_sga _ _)
  unfold Builtin.«super.__getattribute__»
  repeat (walk_at "lk")
  rw [show (#[Value.ref C, Value.ref C, Value.ref C][0] : Value) = .ref C from rfl, drop_self]
  repeat (walk_at "lk")
  show wpAny _ _ (call (.builtin "classmethod_descriptor.__get__") [.builtin "object.__init_subclass__", (if (#[Value.ref C, Value.ref C, Value.ref C][1] == #[Value.ref C, Value.ref C, Value.ref C][2]) = true then Value.none else #[Value.ref C, Value.ref C, Value.ref C][1]), .ref C] []) _ _ _
  rw [show (if (#[Value.ref C, Value.ref C, Value.ref C][1] == #[Value.ref C, Value.ref C, Value.ref C][2]) = true then Value.none else #[Value.ref C, Value.ref C, Value.ref C][1]) = Value.none from if_pos (by simp)]
  refine wpAny_call_entry slot_cmg ty_ois entry_cmg ?_ (args_cmg _ _ _)
  unfold Builtin.«classmethod_descriptor.__get__»
  repeat (walk_at "lk")
  refine ⟨_, rfl, ?_⟩
  repeat (walk_at "lk")
  refine ⟨_, rfl, ?_⟩
  repeat (walk_at "lk")
  exact hQ _ _ _ (by assumption)
end
end Mine
end
section -- Tn
open PySem PySem.W PySem.W.X PyProof.Rows PyProof.V PySem.Calls
namespace Mine
theorem setup_Tn_1 : True := by
  w_top off
  k_with_none
  k_with "mem" => (first | assumption | exact List.Mem.head _ | (refine List.mem_cons_of_mem _ ?_; k_mem))
  k_with "lk" => (((fail_if_success (with_reducible show wpAny _ _ (PySem.call _ _ _) _ _ _)); (fail_if_success (with_reducible show wpAny _ _ (PySem.runValue _) _ _ _)); (fail_if_success (with_reducible show wpAny _ _ (PySem.getAttr _ _ _) _ _ _)); (fail_if_success (with_reducible show wpAny _ _ (forIn (List.drop _ _) _ _) _ _ _)); (fail_if_success (with_reducible show wpAny _ _ (PySem.run _ _) _ _ _)); first
  | with_reducible refine Looks.at (by assumption) ?_
  | ((with_reducible show wpAny _ _ (pure (builtinOwn _ _)) _ _ _); rw [bo1])
  | (with_reducible refine b_bind ?_; try walk_at "kf") | (with_reducible refine b_nd ?_; try walk_at "kf") | with_reducible refine wpAny_holding ?_ | (with_reducible refine b_tc ?_; try walk_at "kf") | with_reducible refine b_att ?_ | with_reducible refine b_or ?_ | with_reducible refine c_fresh ?_
  | ((with_reducible show wpAny _ _ (collect _) _ _ _); k_dflt (refine' c_collect ?zzD ?zzhv ?zzhm ?zzhz ?_; (case zzD => assumption); (case zzhv => with_unfolding_all rfl); (case zzhm => k_mem); (case zzhz => exact Nat.le_of_ble_eq_true rfl)); intro _ _ _ _)
  | ((with_reducible show wpAny _ _ (Sem.load _ _ _) _ _ _); k_dflt (refine' m_load ?zzD ?zzhm ?_; (case zzD => with_reducible assumption); (case zzhm => k_mem)))
  | ((with_reducible show wpAny _ _ (setSlotAt _ _ _) _ _ _); k_dflt (first | refine c_setSlot (j := 0) (by with_reducible assumption) rfl (Nat.lt_of_lt_of_le (by decide : _ < 100) (Nat.le_of_ble_eq_true rfl)) rfl ?_ | refine c_setSlot (j := 1) (by with_reducible assumption) rfl (Nat.lt_of_lt_of_le (by decide : _ < 100) (Nat.le_of_ble_eq_true rfl)) rfl ?_ | refine c_setSlot (j := 2) (by with_reducible assumption) rfl (Nat.lt_of_lt_of_le (by decide : _ < 100) (Nat.le_of_ble_eq_true rfl)) rfl ?_); intro _ Dn; dsimp only [List.set, setAt] at Dn; revert Dn; intro _)
  | ((with_reducible show wpAny _ _ (slotAt _ _) _ _ _); k_dflt (refine' m_slotAt ?zzD ?zzm ?zze ?_; (case zzD => with_reducible assumption); (case zzm => k_mem); (case zze => rfl)))
  | ((with_reducible show wpAny _ _ (updateCls _ _) _ _ _); k_dflt (first | refine c_updateCls (j := 0) (by with_reducible assumption) rfl rfl rfl ?_ | refine c_updateCls (j := 1) (by with_reducible assumption) rfl rfl rfl ?_ | refine c_updateCls (j := 2) (by with_reducible assumption) rfl rfl rfl ?_); intro _ Dn; dsimp only [List.set] at Dn; revert Dn; intro _)
  | with_reducible refine m_arr ?_
  | (with_reducible refine c_alloc (by assumption) rfl ?_; intro _ _ _)
  | ((with_reducible show wpAny _ _ (Sem.update _ _ _ _) _ _ _); k_dflt (first | refine c_update (i := 0) (by with_reducible assumption) rfl rfl ?_ | refine c_update (i := 1) (by with_reducible assumption) rfl rfl ?_ | refine c_update (i := 2) (by with_reducible assumption) rfl rfl ?_ | refine c_update (i := 3) (by with_reducible assumption) rfl rfl ?_ | refine c_update (i := 4) (by with_reducible assumption) rfl rfl ?_); intro _ Dn; dsimp only [List.set] at Dn; revert Dn; intro _)
  | k_node
  | with_reducible refine m_ifF' (by kernel_rfl!) ?_
  | with_reducible refine m_ifT' (by kernel_rfl!) ?_))
  k_with "out" => ((first
  | ((with_reducible show wpAny _ _ _ Q _ _); (first | with_reducible refine b_cut ?_ | with_reducible refine b_cutN ?_); intro Qn hQn)
  | (with_reducible refine hQn _ _ ?_; clear hQn Qn)
  | walk_at "lk"))
  exact True.intro
noncomputable abbrev kEnt (P : Params) (x : String) (t : Tok) (v : Value) : DictEntry := ⟨PyData.keyHash P (Str.ofString x), .str (Str.ofString x) t, v⟩
noncomputable abbrev mdObj (C : Addr) (tk : Tok) : Obj := { cls := .type "member_descriptor", data := .fields #[.str (Str.ofString "obj") tk, .ref C, .builtin "proto.slot", .builtin "proto.slot#set", .int 0 0] }
noncomputable abbrev slK (bt : Addr) (tK u2 : Tok) : Array (Option Value) := #[some (.ref bt), none, some (.str (Str.ofString "K") tK), some (.str (Str.ofString "cmp_to_key.<locals>.K") u2), some (.builtin "object.__new__"), some (.bool false)]
noncomputable abbrev nsObj (P : Params) (t1 u1 t3 : Tok) (n : Int) (u3 t4 : Tok) (sl : Addr) (t5 : Tok) (fi : Addr) (t6 : Tok) (fl : Addr) (t7 : Tok) (fg : Addr) (t8 : Tok) (fe : Addr) (t9 : Tok) (fle : Addr) (t10 : Tok) (fge : Addr) (t11 t12 : Tok) (st : Addr) (tk2 : Tok) (md : Addr) (tk3 : Tok) : Obj :=
  { cls := .type "dict", data := .dict #[kEnt P "__module__" t1 (.str (Str.ofString "cpy313.functools") u1), kEnt P "__firstlineno__" t3 (.int n u3), kEnt P "__slots__" t4 (.ref sl), kEnt P "__init__" t5 (.ref fi), kEnt P "__lt__" t6 (.ref fl),
     kEnt P "__gt__" t7 (.ref fg), kEnt P "__eq__" t8 (.ref fe), kEnt P "__le__" t9 (.ref fle), kEnt P "__ge__" t10 (.ref fge), kEnt P "__hash__" t11 .none, kEnt P "__static_attributes__" t12 (.ref st), kEnt P "obj" tk2 (.ref md), kEnt P "__doc__" tk3 .none] 3 }
set_option genInjectivity false in
set_option genSizeOfSpec false in
/-- the data of a made class K -/
structure KD where
  (nd md bt sl fi fl fg fe fle fge st c1 c2 c3 c4 cell : Addr)
  (t u2 t1 u1 t3 u3 t4 t5 t6 t7 t8 t9 t10 t11 t12 tk1 tk2 tk3 t2 : Tok)
  (n : Int)
  (d1 d2 d3 d4 : FuncData)
  (o1 o2 o3 o4 : Obj)
noncomputable abbrev KD.kl (k : KD) : Array (Option Value) := slK k.bt k.t k.u2
noncomputable def KD.es0 (k : KD) (P : Params) : Array DictEntry := #[kEnt P "__module__" k.t1 (.str (Str.ofString "cpy313.functools") k.u1), kEnt P "__qualname__" k.t2 (.str (Str.ofString "cmp_to_key.<locals>.K") k.u2), kEnt P "__firstlineno__" k.t3 (.int k.n k.u3),
     kEnt P "__slots__" k.t4 (.ref k.sl), kEnt P "__init__" k.t5 (.ref k.fi), kEnt P "__lt__" k.t6 (.ref k.fl), kEnt P "__gt__" k.t7 (.ref k.fg), kEnt P "__eq__" k.t8 (.ref k.fe), kEnt P "__le__" k.t9 (.ref k.fle), kEnt P "__ge__" k.t10 (.ref k.fge), kEnt P "__hash__" k.t11 .none, kEnt P "__static_attributes__" k.t12 (.ref k.st)]
noncomputable def KD.nsv (k : KD) (P : Params) (md : Addr) (tk2 tk3 : Tok) : Obj := nsObj P k.t1 k.u1 k.t3 k.n k.u3 k.t4 k.sl k.t5 k.fi k.t6 k.fl k.t7 k.fg k.t8 k.fe k.t9 k.fle k.t10 k.fge k.t11 k.t12 k.st tk2 md tk3
noncomputable abbrev KD.ns (k : KD) (P : Params) : Obj := k.nsv P k.md k.tk2 k.tk3
variable {prog : Program} {w : World} {A : Around} {s : Shared} {Q : Fin → Shared → Prop} {E : Value → Shared → Prop} {h₀ : Heap} {news : List (Addr × Obj)} {bt ns sl fi fl fg fe fle fge st : Addr} {t : Tok} {c1 c2 c3 c4 c5 : Nat}
theorem m_convT {k : KD} {α : Type} {M : Model} {A : Around} {tr : Sem α} {Q : α → Shared → Prop} {E : Value → Shared → Prop} {s : Shared} {h₀ : Heap} {news : List (Addr × Obj)} {md C nd x : Addr} {o1 o2 o3 o4 : Obj} {tk : Tok} {P : Params} {tk2 : Tok} {tk3 : Tok}
  (D : Me h₀ s.heap ((md, o1) :: (C, o2) :: (nd, o3) :: (x, o4) :: news)) (e1 : o1 = mdObj C tk) (e2 : o2 = clsObj C nd k.kl) (e3 : o3 = k.nsv P md tk2 tk3)
  (h : Me h₀ s.heap ((md, mdObj C tk) :: (C, clsObj C nd k.kl) :: (nd, k.nsv P md tk2 tk3) :: (x, o4) :: news) → wpAny M A tr Q E s) : wpAny M A tr Q E s := by
  subst e1 e2 e3; exact h D
theorem tnew {k : KD} {u4 : Tok} {di dl dg de dle dge : FuncData} {its : Array Value}
  (D : Me h₀ s.heap news) (hb : (k.bt, ({ cls := .type "tuple", data := .seq #[.type "object"] 0} : Obj)) ∈ news)
  (hsl : (k.sl, ({ cls := .type "list", data := .seq #[.str (Str.ofString "obj") u4] c1} : Obj)) ∈ news)
  (hn : (ns, ({ cls := .type "dict", data := .dict (k.es0 w.params) 12 } : Obj)) ∈ news)
  (hfi : (k.fi, ({ cls := .type "function", data := .func di } : Obj)) ∈ news) (hfl : (k.fl, ({ cls := .type "function", data := .func dl } : Obj)) ∈ news) (hfg : (k.fg, ({ cls := .type "function", data := .func dg } : Obj)) ∈ news)
  (hfe : (k.fe, ({ cls := .type "function", data := .func de } : Obj)) ∈ news) (hfle : (k.fle, ({ cls := .type "function", data := .func dle } : Obj)) ∈ news) (hfge : (k.fge, ({ cls := .type "function", data := .func dge } : Obj)) ∈ news)
  (hst : (k.st, ({ cls := .type "tuple", data := .seq its c2 } : Obj)) ∈ news)
  (h1 : ns ≠ 1) (hb2 : h₀.get? 2 = some { cls := .none, data := .dict #[] 0 }) (hdep : A.depth + 20 < recursionLimit) (hun : A.units + 100 < cLine)
  (hQ : ∀ md C nd tk1 tk2 tk3 h' tk, Me h₀ h' ((md, mdObj C tk1) :: (C, clsObj C nd k.kl) :: (nd, k.nsv w.params md tk2 tk3) :: news) → Q (.done (.ret (.ref C))) { s with heap := h', toks := tk })
  : wpAny (model prog w) A (Builtin.«type.__new__» ⟨[.type "type", .str (Str.ofString "K") k.t, .ref k.bt, .ref ns], []⟩) Q E s := by
  unfold Builtin.«type.__new__»
  repeat (walk_at "out")
  refine m_ifF (by simpa [sysModules] using h1) ?_
  repeat (walk_at "out")
  rw [show Builtin.Slots.isIdentifier (Str.ofString "obj") = some true from by decide +kernel]
  repeat (walk_at "out")
  rw [fil_self]
  repeat (walk_at "out")
  refine m_convT (k := k) (tk := s.toks) (tk2 := s.toks + 1) (tk3 := s.toks + 1 + 1) (P := w.params)
    (by with_reducible assumption) (by kernel_rfl!) (by kernel_rfl!) (by kernel_rfl!) ?_
  intro Dm
  show wpAny _ _ (call (.type "super") [.ref _, .ref _] []) _ _ _
  refine super_ok Dm (by k_mem) (Dm.keep _ _ hb2) hdep hun ?_
  intro sup h' tk Dm2
  repeat (walk_at "out")
  show wpAny _ _ (getAttr (.ref sup) (Str.ofString "__init_subclass__")) _ _ _
  refine getsub_ok Dm2 (by k_mem) (by k_mem) (Dm2.keep _ _ hb2) hdep hun ?_
  intro sb h2 tk2 Dm3
  repeat (walk_at "out")
  show wpAny _ _ (call (.ref sb) [] []) _ _ _
  refine initsub_ok Dm3 (by k_mem) (by k_mem) (Dm3.keep _ _ hb2) hdep hun ?_
  repeat (walk_at "out")
  exact hQ _ _ _ _ _ _ _ _ (Dm3.sub (.cons _ (.cons _ (.cons_cons _ (.cons_cons _ (.cons_cons _ (.cons _ (List.Sublist.refl _))))))))
end Mine
end
section -- Tc
open PySem PySem.W PySem.W.X PyProof.Rows PyProof.V PySem.Calls
namespace Mine
theorem setup_Tc_1 : True := by
  w_top off
  k_with_none
  k_with "mem" => (first | assumption | exact List.Mem.head _ | (refine List.mem_cons_of_mem _ ?_; k_mem))
  k_with "lk" => (((fail_if_success (with_reducible show wpAny _ _ (PySem.call _ _ _) _ _ _)); (fail_if_success (with_reducible show wpAny _ _ (PySem.runValue _) _ _ _)); (fail_if_success (with_reducible show wpAny _ _ (Builtin.«type.__new__» _) _ _ _)); (fail_if_success (with_reducible show wpAny _ _ (forIn (List.drop _ _) _ _) _ _ _)); (fail_if_success (with_reducible show wpAny _ _ (PySem.run _ _) _ _ _)); first
  | with_reducible refine Looks.at (by assumption) ?_
  | ((with_reducible show wpAny _ _ (pure (builtinOwn _ _)) _ _ _); rw [bo1])
  | (with_reducible refine b_bind ?_; try walk_at "kf") | (with_reducible refine b_nd ?_; try walk_at "kf") | with_reducible refine wpAny_holding ?_ | (with_reducible refine b_tc ?_; try walk_at "kf") | with_reducible refine b_att ?_ | with_reducible refine b_or ?_
  | ((with_reducible show wpAny _ _ (collect _) _ _ _); k_dflt (refine' m_collect ?zzD ?zzhv ?zzhm ?zzhz ?_; (case zzD => assumption); (case zzhv => with_unfolding_all rfl); (case zzhm => k_mem); (case zzhz => exact Nat.le_of_ble_eq_true rfl)); intro _ _ _ _)
  | ((with_reducible show wpAny _ _ (Sem.load _ _ _) _ _ _); k_dflt (refine' m_load ?zzD ?zzhm ?_; (case zzD => with_reducible assumption); (case zzhm => k_mem)); try dsimp only)
  | ((with_reducible show wpAny _ _ (setSlotAt _ _ _) _ _ _); k_dflt (first | refine m_setSlot (j := 0) (by with_reducible assumption) rfl (Nat.lt_of_lt_of_le (by decide : _ < 100) (Nat.le_of_ble_eq_true rfl)) rfl ?_ | refine m_setSlot (j := 1) (by with_reducible assumption) rfl (Nat.lt_of_lt_of_le (by decide : _ < 100) (Nat.le_of_ble_eq_true rfl)) rfl ?_ | refine m_setSlot (j := 2) (by with_reducible assumption) rfl (Nat.lt_of_lt_of_le (by decide : _ < 100) (Nat.le_of_ble_eq_true rfl)) rfl ?_); intro _ Dn; dsimp only [List.set, setAt] at Dn; revert Dn; intro _)
  | ((with_reducible show wpAny _ _ (slotAt _ _) _ _ _); k_dflt (refine' m_slotAt ?zzD ?zzm ?zze ?_; (case zzD => with_reducible assumption); (case zzm => k_mem); (case zze => rfl)))
  | ((with_reducible show wpAny _ _ (updateCls _ _) _ _ _); k_dflt (first | refine m_updateCls (j := 0) (by with_reducible assumption) rfl rfl rfl ?_ | refine m_updateCls (j := 1) (by with_reducible assumption) rfl rfl rfl ?_ | refine m_updateCls (j := 2) (by with_reducible assumption) rfl rfl rfl ?_); intro _ Dn; dsimp only [List.set] at Dn; revert Dn; intro _)
  | with_reducible refine m_arr ?_
  | (with_reducible refine m_alloc (by assumption) rfl ?_; intro _ _ _; try dsimp only)
  | ((with_reducible show wpAny _ _ (Sem.update _ _ _ _) _ _ _); k_dflt (first | refine m_update (i := 0) (by with_reducible assumption) rfl rfl ?_ | refine m_update (i := 1) (by with_reducible assumption) rfl rfl ?_ | refine m_update (i := 2) (by with_reducible assumption) rfl rfl ?_ | refine m_update (i := 3) (by with_reducible assumption) rfl rfl ?_ | refine m_update (i := 4) (by with_reducible assumption) rfl rfl ?_); intro _ Dn; dsimp only [List.set] at Dn; revert Dn; intro _)
  | k_node
  | with_reducible refine m_ifF' (by kernel_rfl!) ?_
  | with_reducible refine m_ifT' (by kernel_rfl!) ?_))
  exact True.intro
variable {prog : Program} {w : World} {A : Around} {s : Shared} {Q : Value → Shared → Prop} {E : Value → Shared → Prop} {h₀ : Heap} {news : List (Addr × Obj)} {bt ns sl fi fl fg fe fle fge st : Addr} {t : Tok} {c1 c2 c3 c4 c5 : Nat}
theorem entry_tc : entryFor table "type.__call__" = some Builtin.«type.__call__» := entryFor_of_tree (by kernel_rfl)
theorem entry_tn : entryFor table "type.__new__" = some Builtin.«type.__new__» := entryFor_of_tree (by kernel_rfl)
theorem entry_ti : entryFor table "type.__init__" = some Builtin.«type.__init__» := entryFor_of_tree (by kernel_rfl)
theorem tcall {k : KD} {u4 : Tok} {di dl dg de dle dge : FuncData} {its : Array Value}
  (D : Me h₀ s.heap news) (hb : (k.bt, ({ cls := .type "tuple", data := .seq #[.type "object"] 0} : Obj)) ∈ news)
  (hsl : (k.sl, ({ cls := .type "list", data := .seq #[.str (Str.ofString "obj") u4] c1} : Obj)) ∈ news)
  (hn : (ns, ({ cls := .type "dict", data := .dict (k.es0 w.params) 12 } : Obj)) ∈ news)
  (hfi : (k.fi, ({ cls := .type "function", data := .func di } : Obj)) ∈ news) (hfl : (k.fl, ({ cls := .type "function", data := .func dl } : Obj)) ∈ news) (hfg : (k.fg, ({ cls := .type "function", data := .func dg } : Obj)) ∈ news)
  (hfe : (k.fe, ({ cls := .type "function", data := .func de } : Obj)) ∈ news) (hfle : (k.fle, ({ cls := .type "function", data := .func dle } : Obj)) ∈ news) (hfge : (k.fge, ({ cls := .type "function", data := .func dge } : Obj)) ∈ news)
  (hst : (k.st, ({ cls := .type "tuple", data := .seq its c2 } : Obj)) ∈ news)
  (h1 : ns ≠ 1) (hb2 : h₀.get? 2 = some { cls := .none, data := .dict #[] 0 }) (hdep : A.depth + 30 < recursionLimit) (hun : A.units + 120 < cLine)
  (hQ : ∀ md C nd tk1 tk2 tk3 h' tk, Me h₀ h' ((md, mdObj C tk1) :: (C, clsObj C nd k.kl) :: (nd, k.nsv w.params md tk2 tk3) :: news) → Q (.ref C) { s with heap := h', toks := tk })
  : wpAny (model prog w) A (call (.type "type") [.str (Str.ofString "K") k.t, .ref k.bt, .ref ns] []) Q E s := by
  refine wpAny_call ?_
  refine codeAny_of_tree ?_
  repeat (walk_at "lk")
  refine ⟨by kernel_rfl!, ?_⟩
  refine codeAny_builtin entry_tc ?_
  unfold Builtin.«type.__call__»
  repeat (walk_at "lk")
  show wpAny _ _ (call (.builtin "type.__new__") [.type "type", .str (Str.ofString "K") k.t, .ref k.bt, .ref ns] []) _ _ _
  refine wpAny_call (codeAny_call_builtin (by decide +kernel) entry_tn ?_)
  repeat (walk_at "lk")
  show wpAny _ _ (Builtin.«type.__new__» ⟨[.type "type", .str (Str.ofString "K") k.t, .ref k.bt, .ref ns], []⟩) _ _ _
  refine tnew D hb hsl hn hfi hfl hfg hfe hfle hfge hst h1 hb2 (by
    have e : Code.weight (.builtin "type.__call__" ⟨[.type "type", .str (Str.ofString "K") k.t, .ref k.bt, .ref ns], []⟩) = 0 := by kernel_rfl!
    show A.depth + Code.weight (.builtin "type.__call__" ⟨[.type "type", .str (Str.ofString "K") k.t, .ref k.bt, .ref ns], []⟩) + 20 < _
    lia) (by
    have e : Code.cUnits (.builtin "type.__call__" ⟨[.type "type", .str (Str.ofString "K") k.t, .ref k.bt, .ref ns], []⟩) ≤ 3 := by first | (rw [show Code.cUnits (.builtin "type.__call__" ⟨[.type "type", .str (Str.ofString "K") k.t, .ref k.bt, .ref ns], []⟩) = 0 from by kernel_rfl!]; decide) | (rw [show Code.cUnits (.builtin "type.__call__" ⟨[.type "type", .str (Str.ofString "K") k.t, .ref k.bt, .ref ns], []⟩) = 1 from by kernel_rfl!]; decide)
    show A.units + Code.cUnits (.builtin "type.__call__" ⟨[.type "type", .str (Str.ofString "K") k.t, .ref k.bt, .ref ns], []⟩) + 1 + 100 < _
    lia) ?_
  intro md C nd tk1 tk2 tk3 h' tk Dm
  repeat (walk_at "lk")
  show wpAny _ _ (call (.builtin "type.__init__") [.ref C, .str (Str.ofString "K") k.t, .ref k.bt, .ref ns] []) _ _ _
  refine wpAny_call (codeAny_call_builtin (by decide +kernel) entry_ti ?_)
  repeat (walk_at "lk")
  exact hQ _ _ _ _ _ _ _ _ Dm
end Mine
end
section -- Bd
open PySem PySem.W PySem.W.X PyProof.Rows PyProof.V PySem.Calls
namespace Mine
theorem m_old {α : Type} {M : Model} {A : Around} {Q : α → Shared → Prop} {E : Value → Shared → Prop} {s : Shared} {h₀ : Heap} {news : List (Addr × Obj)} {w : World} {a : Addr} {o : Obj} {p : Option Value} {k : Obj → Sem α} (D : Me h₀ s.heap news)
  (X₀ : (Mine.hd.heap_1 w.params).In h₀) (hl : (Mine.hd.heap_1 w.params).lookup a = some o) (h : wpAny M A (k o) Q E s) : wpAny M A (.load a p k) Q E s := nd_load (D.keep _ _ (X₀ _ _ hl)) h
theorem setup_Bd_1 : True := by
  w_top off
  k_with_none
  k_with "at" => (first | with_reducible exact At.head | (with_reducible refine At.tail ?_; walk_at "at"))
  exact True.intro
theorem setup_Bd_2 : True := by
  k_with "mem" => (first | assumption | exact List.Mem.head _ | (refine List.mem_cons_of_mem _ ?_; k_mem))
  k_with "lk" => (((fail_if_success (with_reducible show wpAny _ _ (PySem.call _ _ _) _ _ _)); (fail_if_success (with_reducible show wpAny _ _ (PySem.runValue _) _ _ _)); (fail_if_success (with_reducible show wpAny _ _ (enterFrame _) _ _ _)); (fail_if_success (with_reducible show wpAny _ _ (forIn (List.drop _ _) _ _) _ _ _)); (fail_if_success (with_reducible show wpAny _ _ (PySem.run _ _) _ _ _)); (fail_if_success (with_reducible show wpAny _ _ (PySem.exec _ _) _ _ _)); first
  | with_reducible refine Looks.at (by assumption) ?_
  | (with_reducible refine b_bind ?_; try walk_at "kf") | (with_reducible refine b_nd ?_; try walk_at "kf") | with_reducible refine wpAny_holding ?_ | (with_reducible refine b_tc ?_; try walk_at "kf") | with_reducible refine b_att ?_ | with_reducible refine b_or ?_
  | ((with_reducible show wpAny _ _ (collect _) _ _ _); k_dflt (refine' m_collect ?zzD ?zzhv ?zzhm ?zzhz ?_; (case zzD => assumption); (case zzhv => with_unfolding_all rfl); (case zzhm => k_mem); (case zzhz => exact Nat.le_of_ble_eq_true rfl)); intro _ _ _ _)
  | ((with_reducible show wpAny _ _ (Sem.load _ _ _) _ _ _); k_dflt (refine' m_load ?zzD ?zzhm ?_; (case zzD => with_reducible assumption); (case zzhm => k_mem)); try dsimp only)
  | ((with_reducible show wpAny _ _ (setSlotAt _ _ _) _ _ _); k_dflt (first | refine m_setSlot (j := 0) (by with_reducible assumption) rfl (Nat.lt_of_lt_of_le (by decide : _ < 100) (Nat.le_of_ble_eq_true rfl)) rfl ?_ | refine m_setSlot (j := 1) (by with_reducible assumption) rfl (Nat.lt_of_lt_of_le (by decide : _ < 100) (Nat.le_of_ble_eq_true rfl)) rfl ?_ | refine m_setSlot (j := 2) (by with_reducible assumption) rfl (Nat.lt_of_lt_of_le (by decide : _ < 100) (Nat.le_of_ble_eq_true rfl)) rfl ?_); intro _ Dn; dsimp only [List.set, setAt] at Dn; revert Dn; intro _)
  | ((with_reducible show wpAny _ _ (slotAt _ _) _ _ _); k_dflt (refine' m_slotAt ?zzD ?zzm ?zze ?_; (case zzD => with_reducible assumption); (case zzm => k_mem); (case zze => rfl)))
  | ((with_reducible show wpAny _ _ (updateCls _ _) _ _ _); k_dflt (first | refine m_updateCls (j := 0) (by with_reducible assumption) rfl rfl rfl ?_ | refine m_updateCls (j := 1) (by with_reducible assumption) rfl rfl rfl ?_ | refine m_updateCls (j := 2) (by with_reducible assumption) rfl rfl rfl ?_); intro _ Dn; dsimp only [List.set] at Dn; revert Dn; intro _)
  | ((with_reducible show wpAny _ _ (Sem.load _ _ _) _ _ _); dsimp only)
  | ((with_reducible show wpAny _ _ (Sem.update _ _ _ _) _ _ _); dsimp only)
  | with_reducible refine m_arr ?_
  | with_reducible refine x_at ?_
  | ((with_reducible show wpAny _ _ (List.mapM.loop _ (Scope.freeNames _) _) _ _ _); generalize hfn : Scope.freeNames _ = fn; (first | (have hf2 : fn = [] := hfn.symm.trans (by kernel_rfl!); clear hfn; subst hf2) | (have hf2 : fn = [Str.ofString "mycmp"] := hfn.symm.trans (by kernel_rfl!); clear hfn; subst hf2)))
  | ((with_reducible show wpAny _ _ (Sem.load _ _ _) _ _ _); k_dflt (refine' m_old ?zzD ?zzX ?zzl ?_; (case zzD => with_reducible assumption); (case zzX => with_reducible assumption); (case zzl => k_is)); try dsimp only)
  | (with_reducible refine m_alloc (by assumption) rfl ?_; intro _ _ _; try dsimp only)
  | ((with_reducible show wpAny _ _ (Sem.update _ _ _ _) _ _ _); k_dflt (first | refine m_update (i := 0) (by with_reducible assumption) rfl rfl ?_ | refine m_update (i := 1) (by with_reducible assumption) rfl rfl ?_); intro _ Dn; dsimp only [List.set] at Dn; revert Dn; intro _)
  | k_node
  | with_reducible refine m_ifF' (by kernel_rfl!) ?_
  | with_reducible refine m_ifT' (by kernel_rfl!) ?_))
  exact True.intro
noncomputable def fd35 (P : Params) : FuncData := match (Mine.hd.heap_1 P).lookup 35 with | some ⟨_, _, .func fd, _⟩ => fd | _ => default
noncomputable def clsK (P : Params) : Stmt := match (fd35 P).body with | .stmts (s :: _) => s | _ => .Pass default
noncomputable def bodyK (P : Params) : List Stmt := match clsK P with | .ClassDef _ _ _ b _ _ _ _ _ _ _ => b | _ => []
noncomputable def scopeK (P : Params) : Scope := match clsK P with | .ClassDef _ _ _ _ _ _ sc _ _ _ _ => sc | _ => default
variable {w : World} {A : Around} {s : Shared} {Q : Flow → Shared → Prop} {E : Value → Shared → Prop} {h₀ : Heap} {rest : List (Addr × Obj)} {cc ct nsd fr cell : Addr} {t1 t2 t3 u1 u2 u3 : Tok} {n : Int} {k : Nat} {v0 v1 v2 v3 v4 v5 v6 v8 v12 v13 v14 v15 v16 v17 : Value} {fg tx : Int} {file : Str} {tf : Tok}
theorem codeHd_at {h₀ h : Heap} {news : List (Addr × Obj)} {cc ct : Addr} {v0 v1 v2 v3 v4 v5 v6 v8 v12 v13 v14 v15 v16 v17 : Value} {fg tx : Int} {file : Str} {tf : Tok} (D : Me h₀ h news)
  (hcc : (cc, ({ cls := .type "code", data := .fields #[v0, v1, v2, v3, v4, v5, v6, .int fg 0, v8, .bool true, .int tx 0, .ref ct, v12, v13, v14, v15, v16, v17, .str file tf] } : Obj)) ∈ news) (hne : cc ≠ ct) : CodeHd h cc ct :=
  ⟨_, _, _, _, _, _, _, _, _, D.get hcc, rfl, rfl, rfl, rfl, rfl, rfl, rfl, rfl, hne⟩
theorem Me.ne2 {h₀ h : Heap} {news : List (Addr × Obj)} {a b : Addr} {oa ob : Obj} (D : Me h₀ h news) (ha : (a, oa) ∈ news) (hb : (b, ob) ∈ news) (hc : oa ≠ ob) : a ≠ b := by
  intro e; subst e
  have z1 := D.get ha
  rw [D.get hb] at z1
  exact hc (Option.some.inj z1).symm
theorem setup_Bd_3 : True := by
  k_with "def" => ((refine nestDef_K rfl rfl rfl ?_; (refine m_makeFn (by with_reducible assumption) (by walk_at "at") rfl rfl hg hbm rfl (codeHd_at (by with_reducible assumption) (by k_mem) hne) (by kernel_rfl!) (by kernel_rfl!) ?_)))
  k_with "past" => ((k_node; repeat (walk_at "lk")))
  exact True.intro
noncomputable def stK (P : Params) (i : Nat) : Stmt := (bodyK P).getD i default
noncomputable def fdOf (st : Stmt) (qual : Str) (clos : List (Str × Addr)) (doc pm : Value) (c' : Addr) (ctv : Value) : FuncData :=
  match st with | .FunctionDef name params body _ _ _ scope _ _ _ => fnX name qual params body scope clos .none .none doc pm none (.ref c') ctv | _ => default
/-- fo is the function that the class body's statement i makes -/
def FnIs (P : Params) (i : Nat) (name : String) (clos : List (Str × Addr)) (fd : FuncData) (c : Addr) (oc : Obj) : Prop :=
  ∃ doc pm ctv vs t, fd = fdOf (stK P i) (Str.ofString ("cmp_to_key.<locals>.K." ++ name)) clos doc pm c ctv ∧ oc.cls = .type "code" ∧ oc.data = .fields vs ∧ vs[1]? = some (.str (Str.ofString ("cmp_to_key.<locals>.K." ++ name)) t)
noncomputable abbrev fnObj (fd : FuncData) : Obj := { cls := .type "function", data := .func fd }
theorem Me.perm {h₀ h : Heap} {l l' : List (Addr × Obj)} (D : Me h₀ h l) (p : l.Perm l') : Me h₀ h l' := ⟨D.keep, fun q hq => D.nw q (p.mem_iff.mpr hq), (p.map _).nodup_iff.mp D.nd⟩
theorem Me.mv1 {h₀ h : Heap} {x y z : Addr × Obj} {l : List (Addr × Obj)} (D : Me h₀ h (x :: y :: z :: l)) : Me h₀ h (y :: z :: x :: l) :=
  D.perm ((List.Perm.swap y x (z :: l)).trans (List.Perm.cons y (List.Perm.swap z x l)))
theorem Me.mv2 {h₀ h : Heap} {f : Addr} {o : Obj} {u y z : Addr × Obj} {l : List (Addr × Obj)} (D : Me h₀ h ((f, o) :: u :: y :: z :: l)) (fd : FuncData) (e : o = fnObj fd) : Me h₀ h (y :: z :: (f, fnObj fd) :: u :: l) := by
  subst e
  refine D.perm ((((List.Perm.swap y u (z :: l)).trans (List.Perm.cons y (List.Perm.swap z u l))).cons _).trans ?_)
  exact (List.Perm.swap y _ (z :: u :: l)).trans (List.Perm.cons y (List.Perm.swap z _ (u :: l)))
theorem tri_arr {ps : Array Value} {a b : Int} {c : Value} (h : TriplesOk ps.toList) : TriplesOk (ps ++ #[rawInt a, rawInt b, c]).toList := by
  rw [Array.toList_append]; exact TriplesOk_snoc _ _ _ _ h
theorem Me.nameSl {h₀ h : Heap} {x y : Addr × Obj} {a : Addr} {o : Obj} {l : List (Addr × Obj)} (D : Me h₀ h (x :: y :: (a, o) :: l)) : ∃ b, b = a ∧ Me h₀ h (x :: y :: (a, o) :: l) := ⟨a, rfl, D⟩
theorem body_ok (D : Me h₀ s.heap ((nsd, { cls := .type "dict", data := .dict #[kEnt w.params "__module__" t1 (.str (Str.ofString "law_xh0039_01") u1), kEnt w.params "__qualname__" t2 (.str (Str.ofString "cmp_to_key.<locals>.K") u2), kEnt w.params "__firstlineno__" t3 (.int n u3)] 3 }) :: (ct, tabObj #[]) :: rest))
  (X₀ : (Mine.hd.heap_1 w.params).In h₀) (hcell : (cell, ({ cls := .type "cell", data := .cell (some (.ref 21)) } : Obj)) ∈ rest)
  (hcc : (cc, ({ cls := .type "code", data := .fields #[v0, v1, v2, v3, v4, v5, v6, .int fg 0, v8, .bool true, .int tx 0, .ref ct, v12, v13, v14, v15, v16, v17, .str file tf] } : Obj)) ∈ rest)
  {mg : Str → Option Value} (hg : h₀.Ns mainGlobals mg) (hbm : ∃ bm o, mg "__builtins__" = some (.ref bm) ∧ bm ≠ builtinsNs ∧ bm ≠ mainGlobals ∧ h₀.get? bm = some o ∧ o.cls = .type "module" ∧ o.dict = some builtinsNs ∧ o.data = .plain)
  (hdep : A.depth + 40 < recursionLimit) (hun : A.units + 150 < cLine)
  (hQ : ∀ f6 d6 c6 o6 f5 d5 c5 o5 f4 d4 c4 o4 f3 d3 c3 o3 f2 d2 c2 o2 f1 d1 c1 o1 sl x1 x2 x4 x5 x6 x7 x8 x9 x10 x11 ps h' tk', Me h₀ h' ((nsd, { cls := .type "dict", data := .dict #[kEnt w.params "__module__" t1 (.str (Str.ofString "cpy313.functools") x2), kEnt w.params "__qualname__" t2 (.str (Str.ofString "cmp_to_key.<locals>.K") u2), kEnt w.params "__firstlineno__" t3 (.int n u3),
     kEnt w.params "__slots__" x4 (.ref sl), kEnt w.params "__init__" x5 (.ref f1), kEnt w.params "__lt__" x6 (.ref f2), kEnt w.params "__gt__" x7 (.ref f3), kEnt w.params "__eq__" x8 (.ref f4), kEnt w.params "__le__" x9 (.ref f5), kEnt w.params "__ge__" x10 (.ref f6), kEnt w.params "__hash__" x11 .none] 11 }) :: (ct, tabObj ps) :: (f6, fnObj d6) :: (c6, o6) :: (f5, fnObj d5) :: (c5, o5) :: (f4, fnObj d4) :: (c4, o4) :: (f3, fnObj d3) :: (c3, o3) :: (f2, fnObj d2) :: (c2, o2) :: (f1, fnObj d1) :: (c1, o1) :: (sl, { cls := .type "list", data := .seq #[.str (Str.ofString "obj") x1] 0 }) :: rest) →
     FnIs w.params 2 "__init__" [] d1 c1 o1 → FnIs w.params 3 "__lt__" [(Str.ofString "mycmp", cell)] d2 c2 o2 → FnIs w.params 4 "__gt__" [(Str.ofString "mycmp", cell)] d3 c3 o3 → FnIs w.params 5 "__eq__" [(Str.ofString "mycmp", cell)] d4 c4 o4 → Q .next { s with heap := h', toks := tk' }) :
  wpAny (model PR w) A (run (.body (bodyK w.params) { scope := scopeK w.params, locals := nsd, globals := 3, cells := [(Str.ofString "mycmp", cell)], qual := Str.ofString "cmp_to_key.<locals>.K.", code := .ref cc, frame := some fr, builtins := 0 })) Q E s := by
  have fill : Mine.hd.heap_1 = Mine.hd.heap_1 ∧ PySem.Challenge.rw_xh0039_01 = PySem.Challenge.rw_xh0039_01 := by (k_fill; exact ⟨rfl, rfl⟩)
  clear fill
  have hne : cc ≠ ct := Me.ne2 D (.tail _ (.tail _ hcc)) (.tail _ (.head _)) (by intro e; injection e; contradiction)
  have ht1 : TriplesOk (#[] : Array Value).toList := trivial
  refine wpAny_run ?_
  refine codeAny_of_tree ?_
  repeat (walk_at "lk")
  walk_at "past"
  rename_i Dz
  generalize hx : Obj.putName _ _ _ _ _ = ob at Dz
  obtain rfl : ob = { cls := .type "dict", data := .dict #[kEnt w.params "__module__" t1 (.str (Str.ofString "cpy313.functools") s.toks), kEnt w.params "__qualname__" t2 (.str (Str.ofString "cmp_to_key.<locals>.K") u2), kEnt w.params "__firstlineno__" t3 (.int n u3)] 3 } := hx.symm.trans (by kernel_rfl!)
  clear hx
  walk_at "past"
  rename_i Dz
  generalize hx : Obj.putName _ _ _ _ _ = ob at Dz
  generalize hvs : Value.ref _ = vsl at hx
  obtain rfl : ob = { cls := .type "dict", data := .dict #[kEnt w.params "__module__" t1 (.str (Str.ofString "cpy313.functools") s.toks), kEnt w.params "__qualname__" t2 (.str (Str.ofString "cmp_to_key.<locals>.K") u2), kEnt w.params "__firstlineno__" t3 (.int n u3), kEnt w.params "__slots__" (s.toks + 1 + 1 + 1) vsl] 4 } := hx.symm.trans (by kernel_rfl!)
  clear hx
  subst hvs
  obtain ⟨slA, hsA, Dz⟩ := Me.nameSl Dz.mv1
  subst hsA
  refine nestDef_K rfl rfl rfl ?_
  refine m_makeFn (by with_reducible assumption) (At.tail At.head) (clos := []) (by first | rfl | kernel_rfl!) rfl hg hbm rfl (codeHd_at (by with_reducible assumption) (by k_mem) hne) (ht1) (by kernel_rfl!) ?_
  clear Dz
  intro f1 c1 oc1 vs1 y1 ctv1 doc1 pm1 h1 k1 D1 hk1 ho1 hv1
  dsimp only [List.set] at D1
  have hf1 : ∃ fd, fd = fdOf (stK w.params 2) (Str.ofString ("cmp_to_key.<locals>.K." ++ "__init__")) [] doc1 pm1 c1 ctv1 := ⟨_, rfl⟩
  obtain ⟨fd1, hf1⟩ := hf1
  replace D1 := D1.mv2 fd1 (by rw [hf1]; kernel_rfl!)
  replace hf1 : FnIs w.params 2 "__init__" [] fd1 c1 oc1 := ⟨_, _, _, _, y1, hf1, hk1, ho1, hv1.trans (by kernel_rfl!)⟩
  clear hk1 ho1 hv1
  repeat (walk_at "lk")
  rename_i Dz
  generalize hx : Obj.putName _ _ _ _ _ = ob at Dz
  obtain rfl : ob = { cls := .type "dict", data := .dict #[kEnt w.params "__module__" t1 (.str (Str.ofString "cpy313.functools") s.toks), kEnt w.params "__qualname__" t2 (.str (Str.ofString "cmp_to_key.<locals>.K") u2), kEnt w.params "__firstlineno__" t3 (.int n u3), kEnt w.params "__slots__" (s.toks + 1 + 1 + 1) (.ref slA), kEnt w.params "__init__" k1 (.ref f1)] 5 } := hx.symm.trans (by kernel_rfl!)
  clear hx
  clear D1
  refine nestDef_K rfl rfl rfl ?_
  refine m_makeFn (by with_reducible assumption) (At.tail At.head) (clos := [(Str.ofString "mycmp", cell)]) (by first | rfl | kernel_rfl!) rfl hg hbm rfl (codeHd_at (by with_reducible assumption) (by k_mem) hne) (by with_reducible exact (tri_arr (ht1))) (by kernel_rfl!) ?_
  clear Dz
  intro f2 c2 oc2 vs2 y2 ctv2 doc2 pm2 h2 k2 D2 hk2 ho2 hv2
  dsimp only [List.set] at D2
  have hf2 : ∃ fd, fd = fdOf (stK w.params 3) (Str.ofString ("cmp_to_key.<locals>.K." ++ "__lt__")) [(Str.ofString "mycmp", cell)] doc2 pm2 c2 ctv2 := ⟨_, rfl⟩
  obtain ⟨fd2, hf2⟩ := hf2
  replace D2 := D2.mv2 fd2 (by rw [hf2]; kernel_rfl!)
  replace hf2 : FnIs w.params 3 "__lt__" [(Str.ofString "mycmp", cell)] fd2 c2 oc2 := ⟨_, _, _, _, y2, hf2, hk2, ho2, hv2.trans (by kernel_rfl!)⟩
  clear hk2 ho2 hv2
  repeat (walk_at "lk")
  rename_i Dz
  generalize hx : Obj.putName _ _ _ _ _ = ob at Dz
  obtain rfl : ob = { cls := .type "dict", data := .dict #[kEnt w.params "__module__" t1 (.str (Str.ofString "cpy313.functools") s.toks), kEnt w.params "__qualname__" t2 (.str (Str.ofString "cmp_to_key.<locals>.K") u2), kEnt w.params "__firstlineno__" t3 (.int n u3), kEnt w.params "__slots__" (s.toks + 1 + 1 + 1) (.ref slA), kEnt w.params "__init__" k1 (.ref f1), kEnt w.params "__lt__" k2 (.ref f2)] 6 } := hx.symm.trans (by kernel_rfl!)
  clear hx
  clear D2
  refine nestDef_K rfl rfl rfl ?_
  refine m_makeFn (by with_reducible assumption) (At.tail At.head) (clos := [(Str.ofString "mycmp", cell)]) (by first | rfl | kernel_rfl!) rfl hg hbm rfl (codeHd_at (by with_reducible assumption) (by k_mem) hne) (by with_reducible exact (tri_arr (tri_arr (ht1)))) (by kernel_rfl!) ?_
  clear Dz
  intro f3 c3 oc3 vs3 y3 ctv3 doc3 pm3 h3 k3 D3 hk3 ho3 hv3
  dsimp only [List.set] at D3
  have hf3 : ∃ fd, fd = fdOf (stK w.params 4) (Str.ofString ("cmp_to_key.<locals>.K." ++ "__gt__")) [(Str.ofString "mycmp", cell)] doc3 pm3 c3 ctv3 := ⟨_, rfl⟩
  obtain ⟨fd3, hf3⟩ := hf3
  replace D3 := D3.mv2 fd3 (by rw [hf3]; kernel_rfl!)
  replace hf3 : FnIs w.params 4 "__gt__" [(Str.ofString "mycmp", cell)] fd3 c3 oc3 := ⟨_, _, _, _, y3, hf3, hk3, ho3, hv3.trans (by kernel_rfl!)⟩
  clear hk3 ho3 hv3
  repeat (walk_at "lk")
  rename_i Dz
  generalize hx : Obj.putName _ _ _ _ _ = ob at Dz
  obtain rfl : ob = { cls := .type "dict", data := .dict #[kEnt w.params "__module__" t1 (.str (Str.ofString "cpy313.functools") s.toks), kEnt w.params "__qualname__" t2 (.str (Str.ofString "cmp_to_key.<locals>.K") u2), kEnt w.params "__firstlineno__" t3 (.int n u3), kEnt w.params "__slots__" (s.toks + 1 + 1 + 1) (.ref slA), kEnt w.params "__init__" k1 (.ref f1), kEnt w.params "__lt__" k2 (.ref f2), kEnt w.params "__gt__" k3 (.ref f3)] 7 } := hx.symm.trans (by kernel_rfl!)
  clear hx
  clear D3
  refine nestDef_K rfl rfl rfl ?_
  refine m_makeFn (by with_reducible assumption) (At.tail At.head) (clos := [(Str.ofString "mycmp", cell)]) (by first | rfl | kernel_rfl!) rfl hg hbm rfl (codeHd_at (by with_reducible assumption) (by k_mem) hne) (by with_reducible exact (tri_arr (tri_arr (tri_arr (ht1))))) (by kernel_rfl!) ?_
  clear Dz
  intro f4 c4 oc4 vs4 y4 ctv4 doc4 pm4 h4 k4 D4 hk4 ho4 hv4
  dsimp only [List.set] at D4
  have hf4 : ∃ fd, fd = fdOf (stK w.params 5) (Str.ofString ("cmp_to_key.<locals>.K." ++ "__eq__")) [(Str.ofString "mycmp", cell)] doc4 pm4 c4 ctv4 := ⟨_, rfl⟩
  obtain ⟨fd4, hf4⟩ := hf4
  replace D4 := D4.mv2 fd4 (by rw [hf4]; kernel_rfl!)
  replace hf4 : FnIs w.params 5 "__eq__" [(Str.ofString "mycmp", cell)] fd4 c4 oc4 := ⟨_, _, _, _, y4, hf4, hk4, ho4, hv4.trans (by kernel_rfl!)⟩
  clear hk4 ho4 hv4
  repeat (walk_at "lk")
  rename_i Dz
  generalize hx : Obj.putName _ _ _ _ _ = ob at Dz
  obtain rfl : ob = { cls := .type "dict", data := .dict #[kEnt w.params "__module__" t1 (.str (Str.ofString "cpy313.functools") s.toks), kEnt w.params "__qualname__" t2 (.str (Str.ofString "cmp_to_key.<locals>.K") u2), kEnt w.params "__firstlineno__" t3 (.int n u3), kEnt w.params "__slots__" (s.toks + 1 + 1 + 1) (.ref slA), kEnt w.params "__init__" k1 (.ref f1), kEnt w.params "__lt__" k2 (.ref f2), kEnt w.params "__gt__" k3 (.ref f3), kEnt w.params "__eq__" k4 (.ref f4)] 8 } := hx.symm.trans (by kernel_rfl!)
  clear hx
  clear D4
  refine nestDef_K rfl rfl rfl ?_
  refine m_makeFn (by with_reducible assumption) (At.tail At.head) (clos := [(Str.ofString "mycmp", cell)]) (by first | rfl | kernel_rfl!) rfl hg hbm rfl (codeHd_at (by with_reducible assumption) (by k_mem) hne) (by with_reducible exact (tri_arr (tri_arr (tri_arr (tri_arr (ht1)))))) (by kernel_rfl!) ?_
  clear Dz
  intro f5 c5 oc5 vs5 y5 ctv5 doc5 pm5 h5 k5 D5 hk5 ho5 hv5
  dsimp only [List.set] at D5
  have hf5 : ∃ fd, fd = fdOf (stK w.params 6) (Str.ofString ("cmp_to_key.<locals>.K." ++ "__le__")) [(Str.ofString "mycmp", cell)] doc5 pm5 c5 ctv5 := ⟨_, rfl⟩
  obtain ⟨fd5, hf5⟩ := hf5
  replace D5 := D5.mv2 fd5 (by rw [hf5]; kernel_rfl!)
  replace hf5 : FnIs w.params 6 "__le__" [(Str.ofString "mycmp", cell)] fd5 c5 oc5 := ⟨_, _, _, _, y5, hf5, hk5, ho5, hv5.trans (by kernel_rfl!)⟩
  clear hk5 ho5 hv5
  repeat (walk_at "lk")
  rename_i Dz
  generalize hx : Obj.putName _ _ _ _ _ = ob at Dz
  obtain rfl : ob = { cls := .type "dict", data := .dict #[kEnt w.params "__module__" t1 (.str (Str.ofString "cpy313.functools") s.toks), kEnt w.params "__qualname__" t2 (.str (Str.ofString "cmp_to_key.<locals>.K") u2), kEnt w.params "__firstlineno__" t3 (.int n u3), kEnt w.params "__slots__" (s.toks + 1 + 1 + 1) (.ref slA), kEnt w.params "__init__" k1 (.ref f1), kEnt w.params "__lt__" k2 (.ref f2), kEnt w.params "__gt__" k3 (.ref f3), kEnt w.params "__eq__" k4 (.ref f4), kEnt w.params "__le__" k5 (.ref f5)] 9 } := hx.symm.trans (by kernel_rfl!)
  clear hx
  clear D5
  refine nestDef_K rfl rfl rfl ?_
  refine m_makeFn (by with_reducible assumption) (At.tail At.head) (clos := [(Str.ofString "mycmp", cell)]) (by first | rfl | kernel_rfl!) rfl hg hbm rfl (codeHd_at (by with_reducible assumption) (by k_mem) hne) (by with_reducible exact (tri_arr (tri_arr (tri_arr (tri_arr (tri_arr (ht1))))))) (by kernel_rfl!) ?_
  clear Dz
  intro f6 c6 oc6 vs6 y6 ctv6 doc6 pm6 h6 k6 D6 hk6 ho6 hv6
  dsimp only [List.set] at D6
  have hf6 : ∃ fd, fd = fdOf (stK w.params 7) (Str.ofString ("cmp_to_key.<locals>.K." ++ "__ge__")) [(Str.ofString "mycmp", cell)] doc6 pm6 c6 ctv6 := ⟨_, rfl⟩
  obtain ⟨fd6, hf6⟩ := hf6
  replace D6 := D6.mv2 fd6 (by rw [hf6]; kernel_rfl!)
  replace hf6 : FnIs w.params 7 "__ge__" [(Str.ofString "mycmp", cell)] fd6 c6 oc6 := ⟨_, _, _, _, y6, hf6, hk6, ho6, hv6.trans (by kernel_rfl!)⟩
  clear hk6 ho6 hv6
  repeat (walk_at "lk")
  rename_i Dz
  generalize hx : Obj.putName _ _ _ _ _ = ob at Dz
  obtain rfl : ob = { cls := .type "dict", data := .dict #[kEnt w.params "__module__" t1 (.str (Str.ofString "cpy313.functools") s.toks), kEnt w.params "__qualname__" t2 (.str (Str.ofString "cmp_to_key.<locals>.K") u2), kEnt w.params "__firstlineno__" t3 (.int n u3), kEnt w.params "__slots__" (s.toks + 1 + 1 + 1) (.ref slA), kEnt w.params "__init__" k1 (.ref f1), kEnt w.params "__lt__" k2 (.ref f2), kEnt w.params "__gt__" k3 (.ref f3), kEnt w.params "__eq__" k4 (.ref f4), kEnt w.params "__le__" k5 (.ref f5), kEnt w.params "__ge__" k6 (.ref f6)] 10 } := hx.symm.trans (by kernel_rfl!)
  clear hx
  clear D6
  walk_at "past"
  rename_i Dz
  generalize hx : Obj.putName _ _ _ _ _ = ob at Dz
  obtain rfl : ob = { cls := .type "dict", data := .dict #[kEnt w.params "__module__" t1 (.str (Str.ofString "cpy313.functools") s.toks), kEnt w.params "__qualname__" t2 (.str (Str.ofString "cmp_to_key.<locals>.K") u2), kEnt w.params "__firstlineno__" t3 (.int n u3), kEnt w.params "__slots__" (s.toks + 1 + 1 + 1) (.ref slA), kEnt w.params "__init__" k1 (.ref f1), kEnt w.params "__lt__" k2 (.ref f2), kEnt w.params "__gt__" k3 (.ref f3), kEnt w.params "__eq__" k4 (.ref f4), kEnt w.params "__le__" k5 (.ref f5), kEnt w.params "__ge__" k6 (.ref f6), kEnt w.params "__hash__" (k6 + 1) .none] 11 } := hx.symm.trans (by kernel_rfl!)
  clear hx
  refine hQ _ _ _ _ _ _ _ _ _ _ _ _ _ _ _ _ _ _ _ _ _ _ _ _ _ _ _ _ _ _ _ _ _ _ _ _ _ _ Dz hf1 hf2 hf3 hf4
end Mine
end
section -- Rv
open PySem PySem.W PySem.W.X PyProof.Rows PyProof.V PySem.Calls
namespace Mine
theorem setup_Rv_1 : True := by
  w_top off
  k_with_none
  k_with "at" => (first | with_reducible exact At.head | (with_reducible refine At.tail ?_; walk_at "at"))
  exact True.intro
theorem setup_Rv_2 : True := by
  k_with "mem" => (first | assumption | exact List.Mem.head _ | (refine List.mem_cons_of_mem _ ?_; k_mem))
  k_with "kf" => (((with_reducible show wpAny _ _ _ (bQ _ _ _ (bQ _ _ _ (bQ _ _ _ (bQ _ _ _ (bQ _ _ _ (bQ _ _ _ _ _) _) _) _) _) _) _ _); k_fold))
  k_with "lk" => ((first
  | (with_reducible refine b_bind ?_; try walk_at "kf") | (with_reducible refine b_nd ?_; try walk_at "kf") | with_reducible refine wpAny_holding ?_ | (with_reducible refine b_tc ?_; try walk_at "kf") | with_reducible refine b_att ?_ | with_reducible refine b_or ?_
  | ((fail_if_success (with_reducible show wpAny _ _ (PySem.richCompare _ _ _) _ _ _)); (fail_if_success (with_reducible show wpAny _ _ (PySem.call _ _ _) _ _ _)); (fail_if_success (with_reducible show wpAny _ _ (PySem.runValue _) _ _ _)); (fail_if_success (with_reducible show wpAny _ _ (enterFrame _) _ _ _)); (fail_if_success (with_reducible show wpAny _ _ (forIn (List.drop _ _) _ _) _ _ _)); (fail_if_success (with_reducible show wpAny _ _ (PySem.run _ _) _ _ _)); first
    | with_reducible refine Looks.at (by assumption) ?_
    | ((with_reducible show wpAny _ _ (callMarked _ _ _ _) _ _ _); unfold callMarked; refine wpAny_keep ?_)
    | ((with_reducible show wpAny _ _ (collect _) _ _ _); k_dflt (refine' m_collect ?zzD ?zzhv ?zzhm ?zzhz ?_; (case zzD => assumption); (case zzhv => with_unfolding_all rfl); (case zzhm => k_mem); (case zzhz => exact Nat.le_of_ble_eq_true rfl)); intro _ _ _ _)
    | ((with_reducible show wpAny _ _ (Sem.load _ _ _) _ _ _); k_dflt (refine' m_load ?zzD ?zzhm ?_; (case zzD => with_reducible assumption); (case zzhm => k_mem)); try dsimp only)
    | ((with_reducible show wpAny _ _ (setSlotAt _ _ _) _ _ _); k_dflt (first | refine m_setSlot (j := 0) (by with_reducible assumption) rfl (Nat.lt_of_lt_of_le (by decide : _ < 100) (Nat.le_of_ble_eq_true rfl)) rfl ?_ | refine m_setSlot (j := 1) (by with_reducible assumption) rfl (Nat.lt_of_lt_of_le (by decide : _ < 100) (Nat.le_of_ble_eq_true rfl)) rfl ?_ | refine m_setSlot (j := 2) (by with_reducible assumption) rfl (Nat.lt_of_lt_of_le (by decide : _ < 100) (Nat.le_of_ble_eq_true rfl)) rfl ?_); intro _ Dn; dsimp only [List.set, setAt] at Dn; revert Dn; intro _)
    | ((with_reducible show wpAny _ _ (slotAt _ _) _ _ _); k_dflt (refine' m_slotAt ?zzD ?zzm ?zze ?_; (case zzD => with_reducible assumption); (case zzm => k_mem); (case zze => rfl)))
    | ((with_reducible show wpAny _ _ (updateCls _ _) _ _ _); k_dflt (first | refine m_updateCls (j := 0) (by with_reducible assumption) rfl rfl rfl ?_ | refine m_updateCls (j := 1) (by with_reducible assumption) rfl rfl rfl ?_ | refine m_updateCls (j := 2) (by with_reducible assumption) rfl rfl rfl ?_); intro _ Dn; dsimp only [List.set] at Dn; revert Dn; intro _)
    | ((with_reducible show wpAny _ _ (Sem.load _ _ _) _ _ _); k_dflt (refine' m_oldF ?zzD ?zzO ?_; (case zzD => with_reducible assumption); (case zzO => with_reducible assumption)); try dsimp only)
    | ((with_reducible show wpAny _ _ (Sem.load _ _ _) _ _ _); dsimp only)
    | ((with_reducible show wpAny _ _ (Sem.update _ _ _ _) _ _ _); dsimp only)
    | with_reducible refine m_arr ?_
    | with_reducible refine x_at ?_
    | ((with_reducible show wpAny _ _ (List.mapM.loop _ (Scope.freeNames _) _) _ _ _); generalize hfn : Scope.freeNames _ = fn; (first | (have hf2 : fn = [] := hfn.symm.trans (by kernel_rfl!); clear hfn; subst hf2) | (have hf2 : fn = [Str.ofString "mycmp"] := hfn.symm.trans (by kernel_rfl!); clear hfn; subst hf2)))
    | ((with_reducible show wpAny _ _ (Sem.load _ _ _) _ _ _); k_dflt (refine' m_old ?zzD ?zzX ?zzl ?_; (case zzD => with_reducible assumption); (case zzX => with_reducible assumption); (case zzl => k_is)); try dsimp only)
    | (with_reducible refine m_alloc (by assumption) rfl ?_; intro _ _ _; try dsimp only)
    | ((with_reducible show wpAny _ _ (Sem.update _ _ _ _) _ _ _); k_dflt (first | refine m_update (i := 0) (by with_reducible assumption) rfl rfl ?_ | refine m_update (i := 1) (by with_reducible assumption) rfl rfl ?_); intro _ Dn; dsimp only [List.set] at Dn; revert Dn; intro _)
    | ((with_reducible show wpAny _ _ (compareOp .Gt (.int _ _) (.int _ _)) _ _ _); refine PyProof.Rows.gt_int ?_)
    | ((with_reducible show wpAny _ _ (compareOp .Lt (.int _ _) (.int _ _)) _ _ _); refine PyProof.Rows.lt_int ?_)
    | ((with_reducible show wpAny _ _ (compareOp .Eq (.int _ _) (.int _ _)) _ _ _); refine PyProof.Rows.eq_int ?_)
    | ((with_reducible show wpAny _ _ (compareOp .Gt (.str _ _) (.str _ _)) _ _ _); refine P.gt_str ?_)
    | ((with_reducible show wpAny _ _ (compareOp .Lt (.str _ _) (.str _ _)) _ _ _); refine P.lt_str ?_)
    | ((with_reducible show wpAny _ _ (binaryOp .Sub (.bool _) (.bool _)) _ _ _); refine sub_bool ?_)
    | k_node
    | with_reducible refine m_ifF' (by kernel_rfl!) ?_
    | with_reducible refine m_ifT' (by kernel_rfl!) ?_)))
  exact True.intro
variable {w : World} {A : Around} {s : Shared} {Q : Value → Shared → Prop} {E : Value → Shared → Prop}
theorem Me.conv {h₀ h : Heap} {l l' : List (Addr × Obj)} (D : Me h₀ h l) (e : l = l') : Me h₀ h l' := e ▸ D
theorem entry_rn : entryFor table "reversed.__new__" = some Builtin.«reversed.__new__» := entryFor_of_tree (by kernel_rfl)
theorem rev_range {r : Addr} {k : Int} {t u v : Tok} (hr : s.heap.get? r = some { cls := .type "range", dict := none, data := .fields #[.int 0 t, .int k u, .int 1 v], slots := #[] }) (h0 : 0 ≤ k) (h1 : k < 1000)
  (hQ : ∀ i h' tk', Me s.heap h' [(i, { cls := .type "range_iterator", dict := none, data := .fields #[rawInt (k - 1), rawInt k, rawInt (-1)], slots := #[] })] → Q (.ref i) { s with heap := h', toks := tk' }) :
  wpAny (model PR w) A (call (.type "reversed") [.ref r] []) Q E s := by
  have D := Me.start s.heap
  have e1 : Builtin.Range.rangeSize 0 k 1 = k := by
    unfold Builtin.Range.rangeSize
    rw [if_pos (by decide)]
    by_cases h : 0 < k
    · rw [if_pos h]; lia
    · rw [if_neg h]; lia
  have e2 : (Builtin.Range.rangeFitsLong 0 && Builtin.Range.rangeFitsLong k && Builtin.Range.rangeFitsLong 1 && Builtin.Range.rangeFitsLong (-1) && Builtin.Range.rangeFitsLong (0 - 1) && Builtin.Range.rangeFitsLong k) = true := by
    unfold Builtin.Range.rangeFitsLong
    simp only [Bool.and_eq_true, decide_eq_true_eq]
    lia
  refine wpAny_call ?_
  refine codeAny_of_tree ?_
  repeat (walk_at "lk")
  refine ⟨by kernel_rfl!, ?_⟩
  refine codeAny_builtin entry_tc ?_
  unfold Builtin.«type.__call__»
  repeat (walk_at "lk")
  show wpAny _ _ (call (.builtin "reversed.__new__") [.type "reversed", .ref r] []) _ _ _
  refine wpAny_call (codeAny_call_builtin (by decide +kernel) entry_rn ?_)
  repeat (walk_at "lk")
  show wpAny _ _ (call (.builtin "range.__reversed__") [.ref r] []) _ _ _
  refine wpAny_call_entry F.slot_range_reversed ⟨_, Me.keep (by with_reducible assumption) _ _ hr, rfl⟩ F.entry_range_reversed ?_ (F.args_range_reversed_1 _)
  unfold Builtin.«range.__reversed__»
  repeat (walk_at "lk")
  rw [e1, e2]
  repeat (walk_at "lk")
  refine ⟨_, rfl, ?_⟩
  repeat (walk_at "lk")
  refine hQ _ _ _ (Me.conv (by with_reducible assumption) ?_)
  simp only [Int.mul_one, Int.zero_add, if_true]
end Mine
end
section -- Hf
open PySem PySem.W PySem.W.X PyProof.Rows
namespace Mine
theorem setup_Hf_1 : True := by
  w_top off
  k_with_none
  k_with "subscriptTail" => ((k_here; (with_reducible show wpAny _ _ (subscriptTail _ _ (Value.ref _) (Value.int _ _)) _ _ _); k_dflt (refine' item_at ?zzk1 ?zzk2 ?zzk3 ?zzk4 ?zzk5 ?_ ?zzk6; (case zzk1 => k_asm); (case zzk2 => k_mem); (case zzk3 => lia); (case zzk4 => lia); (case zzk5 => lia); (case zzk6 => with_unfolding_all rfl); k_whole)))
  k_with "exec While Compare cons nil" => ((refine Halt.out ?_))
  k_with "setItem ref int" => ((k_here; (with_reducible show wpAny _ _ (setItem (Value.ref _) (Value.int _ _) _) _ _ _); k_dflt (refine' set_at ?zzk1 ?zzk2 ?zzk3 ?zzk4 ?zzk5 ?zzk6 ?_; (case zzk1 => k_asm); (case zzk2 => k_asm); (case zzk3 => assumption); (case zzk4 => lia); (case zzk5 => lia); (case zzk6 => lia); k_whole); intro _ _ _; (try k_sweep)))
  k_with "binaryOp RShift int int" => ((k_here; k_dflt (refine' shr_one ?_)))
  k_with "call builtin:len" => ((k_here; (with_reducible show wpAny _ _ (call (Value.builtin "len") [Value.ref _]) _ _ _); k_dflt (refine' len_at ?zzk1 ?zzk2 ?zzk3 ?_; (case zzk1 => k_asm); (case zzk2 => k_mem); (case zzk3 => lia); k_whole)))
  k_with "call ref" => ((k_here; (with_reducible show wpAny _ _ (call (Value.ref 84) _) _ _ _); refine Halt.out ?_))
  exact True.intro
noncomputable def heapifyV (lt : Value → Value → Bool) (vs : List Value) : List Value := ((List.range (vs.length / 2)).reverse).foldl (fun vs i => sup lt i vs) vs
theorem heapify_ok {w : World} {p : Program} {loose : List Str} {mean : ExcName → Option Value} {mg mb : Str → Option Value} {news : List (Addr × Obj)} {V : Value → Prop} {lt : Value → Value → Bool} {d u : Nat}
  (hL : LtOk w news V lt d u)
  {dp un : Nat} {gd : Option (List Code)} {cn : Str} {cs : Scope} {a : Addr} {ccd : Value} {cl : List (Str × Addr)} {outer : List Env} {A₀ : Around} {base h₀ : Heap} {L : Addr} {m : Str → Option Value} {s : Shared} {l : Addr} {vs : List Value} {n : Nat} {Q E : Value → Shared → Prop} :
    Below A₀ base outer h₀ → Fr h₀ L s.heap m → (Mine.hd.heap_1 w.params).In h₀ → News h₀ L s.heap ((l, listOf vs.toArray n) :: news) → (∀ q ∈ news, q.1 ≠ l) → Top p loose mean mg mb h₀ → cs.kind = .function →
    (∀ v ∈ vs, V v) → vs.length < 1000 → dp + 3 + d < recursionLimit → un + 24 + u < cLine →
    (∀ h' tk', Fr h₀ L h' m → News h₀ L h' ((l, listOf (heapifyV lt vs).toArray n) :: news) → Q .none { s with heap := h', toks := tk' }) →
    wpAny (model PR w) (ktrTop dp un gd cn cs L a ccd cl outer) (call (.ref 56) [.ref l]) Q E s := by
  have fill : Mine.hd.heap_1 = Mine.hd.heap_1 ∧ PySem.Challenge.rw_xh0039_01 = PySem.Challenge.rw_xh0039_01 := by (k_fill; exact ⟨rfl, rfl⟩)
  clear fill
  intro B F X N hl T hk hV h3 hd hu hQ
  have hd' : dp + 1 < recursionLimit := by lia
  refine wpAny_call ?_
  k_dflt ktr_enter
  have ed : (vs.length : Int).fdiv 2 = ((vs.length / 2 : Nat) : Int) := by
    rw [Int.fdiv_eq_ediv_of_nonneg _ (by decide)]; lia
  k_steps
  rename_i F0 N0 K1
  refine rev_range (k := (vs.length : Int).fdiv 2) (by assumption) (by lia) (by lia) ?_
  intro it h' tk' Dm
  have F1 := Fr.ext F0 Dm.keep
  have N1 := News.ext N0 Dm.keep
  have hi := Dm.get (.head _)
  have hi0 := (Dm.nw _ (.head _)).2
  have n1 : ∀ q ∈ (l, listOf vs.toArray n) :: news, q.1 ≠ it := fun q hq e => by
    have := (N0 q hq).1; rw [e, hi0] at this; cases this
  k_steps
  refine wpAny_pyIter_rangeiter hi ?_
  refine loop_invN (fun j m₁ nw => ∃ vs', nw = (l, listOf vs'.toArray n) :: news ∧ m₁ "x" = some (.ref l) ∧ vs'.length = vs.length ∧ (∀ v ∈ vs', V v) ∧ vs' = ((List.range (vs.length / 2)).reverse.take j).foldl (fun vs i => sup lt i vs) vs)
    (Walks.range rfl it ((vs.length : Int).fdiv 2 - 1) (-1) (vs.length / 2)).bound ?_ ?_ ?_ ?_ ?_ F1 N1 ⟨vs, rfl, rfl, rfl, hV, rfl⟩ ?_ ?_
  · intro hm
    obtain ⟨o, _, _, e, _⟩ := F0.ns
    have z := (congrArg (Heap.get? _) (List.mem_singleton.mp hm)).trans hi0
    exact nomatch (e.symm.trans z)
  · intro b hb
    rw [List.mem_singleton.mp hb]
    cases q : Heap.get? _ it with
    | none => rfl
    | some o => have := F0.keep _ _ q; rw [hi0] at this; cases this
  · intro q hq hm; exact n1 q hq (List.mem_singleton.mp hm)
  · intro q hq hm; exact n1 q hq (List.mem_singleton.mp hm)
  · show IsRangeIter h' it _ _ _
    rw [show (vs.length : Int).fdiv 2 - 1 + ((0 : Nat) : Int) * -1 = (vs.length : Int).fdiv 2 - 1 by lia, show ((vs.length / 2 : Nat) : Int) - ((0 : Nat) : Int) = (vs.length : Int).fdiv 2 by lia]
    exact hi
  · rintro j v m₁ nw h₁ tk₁ own hj ⟨_, t, rfl⟩ hadr hoff ⟨vs', rfl, e1, e2, e3, e4⟩ F₂ N₂
    rw [show (vs.length : Int).fdiv 2 - 1 + (j : Int) * -1 = ((vs.length / 2 - 1 - j : Nat) : Int) by lia, ← pin (m := m₁) (ks := [("x", .ref l)]) (by
      intro q hq; simp only [List.mem_cons, List.not_mem_nil, or_false] at hq; rcases hq with rfl; assumption)] at F₂
    clear e1 F0 F1 N0 N1
    k_steps
    refine ⟨?_⟩
    refine siftup_ok (hL.mono (news' := news ++ own) fun q hq => List.mem_append_left _ hq) (by assumption) (by assumption) (by assumption) (show News _ _ _ ((l, listOf vs'.toArray n) :: (news ++ own)) from N₂) ?_ (by assumption) rfl e3 (by lia) (by lia) (by lia) (by dsimp only [ktrTop, Around.deeper]; lia) ?_
    · intro q hq
      rcases List.mem_append.mp hq with hq | hq
      · exact hl q hq
      · exact hoff q hq l (.head _)
    intro h2 tk2 F4 N4
    k_steps
    refine ⟨_, _, _, _, (l, listOf (sup lt (vs.length / 2 - 1 - j) vs').toArray n) :: news, rfl, by assumption, by assumption, ?_, ?_, rfl, _, rfl, rfl, ?_, ?_, ?_⟩
    · intro q hq
      rcases List.mem_cons.mp hq with rfl | hq
      · exact .head _
      · exact .tail _ (List.mem_append_left _ hq)
    · intro q hq; exact .tail _ (List.mem_append_right _ hq)
    · rw [sup_len (by lia)]; exact e2
    · intro v hv; exact e3 v ((sup_perm (by lia)).mem_iff.mp hv)
    · rw [e4, List.take_add_one, List.foldl_append]
      have ej : (List.range (vs.length / 2)).reverse[j]? = some (vs.length / 2 - 1 - j) := by
        rw [List.getElem?_reverse (by simpa using hj), List.length_range, List.getElem?_range (by lia)]
      rw [ej]; rfl
  · rintro m₁ nw h₁ tk₁ ⟨vs', rfl, e1, e2, e3, e4⟩ F₂ N₂
    k_steps
    refine hQ _ _ (by assumption) ?_
    have e : vs' = heapifyV lt vs := by
      rw [e4, List.take_of_length_le (by simp)]; rfl
    rw [← e]
    assumption
end Mine
end
section -- Ks
open PySem PySem.W PyProof.Rows
namespace Mine
/-- a strict order by a Bool test in which not less either way is equality -/
structure TotLt {α : Type} (lt : α → α → Bool) : Prop where
  irr : ∀ a, lt a a = false
  tr : ∀ a b c, lt b a = false → lt c b = false → lt c a = false
  asy : ∀ a b, lt a b = true → lt b a = false
  anti : ∀ a b, lt a b = false → lt b a = false → a = b
def kSat {β : Type} (c : Nat → Nat → Bool) (n : Nat) : KasT β → (β → Prop) → Prop
  | .ret a, R => R a
  | .ask i j k, R => i < n ∧ j < n ∧ kSat c n (k (c i j)) R
section
variable {β γ : Type} {c : Nat → Nat → Bool} {n : Nat}
theorem kSat_bind {f : β → KasT γ} {R : γ → Prop} : ∀ (t : KasT β), kSat c n t (fun a => kSat c n (f a) R) → kSat c n (t.bind f) R
  | .ret _, h => h
  | .ask i j k, h => ⟨h.1, h.2.1, kSat_bind (k (c i j)) h.2.2⟩
theorem kSat_mono {R R' : β → Prop} (hr : ∀ a, R a → R' a) : ∀ (t : KasT β), kSat c n t R → kSat c n t R'
  | .ret a, h => hr a h
  | .ask i j k, h => ⟨h.1, h.2.1, kSat_mono hr (k (c i j)) h.2.2⟩
theorem kSat_wp {cmp : Nat → Nat → (Bool → Shared → Prop) → Shared → Prop} {P : Shared → Prop} (hc : ∀ i j C s, i < n → j < n → P s → (∀ s', P s' → C (c i j) s') → cmp i j C s) {R : β → Prop} {Q : β → Shared → Prop} (hQ : ∀ a s, R a → P s → Q a s) :
    ∀ (t : KasT β) (s : Shared), kSat c n t R → P s → t.kasWp cmp Q s
  | .ret a, s, h, hp => hQ a s h hp
  | .ask i j k, s, h, hp => hc i j _ s h.1 h.2.1 hp fun s' hp' => kSat_wp hc hQ (k (c i j)) s' h.2.2 hp'
end
section
variable {α : Type} {lt : α → α → Bool} (T : TotLt lt) {key : Nat → α} {n : Nat}
noncomputable abbrev kg (p : Array Nat) (i : Nat) : Nat := p.getD i 0
abbrev PermR (n : Nat) (p : Array Nat) : Prop := p.toList.Perm (List.range n)
theorem PermR.size {p : Array Nat} (h : PermR n p) : p.size = n := by
  have := h.length_eq
  rwa [Array.length_toList, List.length_range] at this
theorem PermR.low {p : Array Nat} (h : PermR n p) {i : Nat} (hi : i < n) : kg p i < n := by
  have hs := h.size
  have hm : p[i]'(by lia) ∈ p.toList := by simp
  have := List.mem_range.mp (h.mem_iff.mp hm)
  have e : kg p i = p[i]'(by lia) := by simp [kg, Array.getD, hs, hi]
  lia
noncomputable def kC (lt : α → α → Bool) (key : Nat → α) (i j : Nat) : Bool := lt (key i) (key j)
def kInc (lt : α → α → Bool) (key : Nat → α) (p : Array Nat) (m : Nat) : Prop := ∀ i j, i ≤ j → j < m → lt (key (kg p j)) (key (kg p i)) = false
def kDec (lt : α → α → Bool) (key : Nat → α) (p : Array Nat) (m : Nat) : Prop := ∀ i j, i ≤ j → j < m → lt (key (kg p i)) (key (kg p j)) = false
include T in
theorem kInc_one {p : Array Nat} : kInc lt key p 1 := fun i j h1 h2 => by
  obtain rfl : i = 0 := by lia
  obtain rfl : j = 0 := by lia
  exact T.irr _
include T in
theorem kInc_succ {p : Array Nat} {m : Nat} (h : kInc lt key p (m + 1)) (e : lt (key (kg p (m + 1))) (key (kg p m)) = false) : kInc lt key p (m + 2) := fun i j h1 h2 => by
  by_cases hj : j < m + 1
  · exact h i j h1 hj
  · obtain rfl : j = m + 1 := by lia
    by_cases hi : i = m + 1
    · subst hi; exact T.irr _
    · exact T.tr _ _ _ (h i m (by lia) (by lia)) e
include T in
theorem kDec_succ {p : Array Nat} {m : Nat} (h : kDec lt key p (m + 1)) (e : lt (key (kg p m)) (key (kg p (m + 1))) = false) : kDec lt key p (m + 2) := fun i j h1 h2 => by
  by_cases hj : j < m + 1
  · exact h i j h1 hj
  · obtain rfl : j = m + 1 := by lia
    by_cases hi : i = m + 1
    · subst hi; exact T.irr _
    · exact T.tr _ _ _ e (h i m (by lia) (by lia))
include T in
theorem asc_sat {p : Array Nat} (hp : PermR n p) : ∀ (f m : Nat), 1 ≤ m → m + f = n → kInc lt key p m →
    kSat (kC lt key) n (kas_asc p f m) (fun r => m ≤ r ∧ r ≤ n ∧ kInc lt key p r ∧ (r < n → lt (key (kg p r)) (key (kg p (r - 1))) = true))
  | 0, m, h1, h2, h3 => ⟨Nat.le_refl _, by lia, h3, fun h => by lia⟩
  | f + 1, m, h1, h2, h3 => by
    refine ⟨hp.low (by lia), hp.low (by lia), ?_⟩
    show kSat _ _ (if kC lt key (kg p m) (kg p (m - 1)) = true then _ else _) _
    by_cases hc : kC lt key (kg p m) (kg p (m - 1)) = true
    · rw [if_pos hc]; exact ⟨Nat.le_refl _, by lia, h3, fun _ => hc⟩
    · rw [if_neg hc]
      obtain ⟨m, rfl⟩ : ∃ k, m = k + 1 := ⟨m - 1, by lia⟩
      have hc' : lt (key (kg p (m + 1))) (key (kg p m)) = false := by simpa [kC] using hc
      exact kSat_mono (fun r h => ⟨by lia, h.2⟩) _ (asc_sat hp f (m + 1 + 1) (by lia) (by lia) (kInc_succ T h3 hc'))
theorem kg_of {p q : Array Nat} {i j : Nat} (h : q[i]? = p[j]?) : kg q i = kg p j := by
  unfold kg
  rw [Array.getD_eq_getD_getElem?, Array.getD_eq_getD_getElem?, h]
theorem kg_rev {p : Array Nat} {i j : Nat} (hj : j ≤ p.size) (k : Nat) : kg (kas_rev p i j) k = if i ≤ k ∧ k < j then kg p (i + j - 1 - k) else kg p k := by
  have e := getElem?_mirror_all (i := i) hj k
  by_cases h : i ≤ k ∧ k < j
  · rw [if_pos h] at e ⊢; exact kg_of e
  · rw [if_neg h] at e ⊢; exact kg_of e
theorem kg_bubble {p : Array Nat} {k l : Nat} (hk : k < p.size) (hl : l ≤ k) (i : Nat) : kg (bubble p k (k - l)) i = if i = l then kg p k else if l < i ∧ i ≤ k then kg p (i - 1) else kg p i := by
  have e := getElem?_bubble hk (k - l) (by lia) i
  have hl' : k - (k - l) = l := by lia
  rw [hl'] at e
  by_cases h : i = l
  · rw [if_pos h] at e ⊢; exact kg_of e
  · rw [if_neg h] at e ⊢
    by_cases h2 : l < i ∧ i ≤ k
    · rw [if_pos h2] at e ⊢; exact kg_of e
    · rw [if_neg h2] at e ⊢; exact kg_of e
theorem permR_rev {p : Array Nat} (hp : PermR n p) (i j : Nat) : PermR n (kas_rev p i j) := (mirror_perm p i j _).toList.trans hp
theorem permR_bubble {p : Array Nat} (hp : PermR n p) (i j : Nat) : PermR n (bubble p i j) := (bubble_perm p i j).toList.trans hp
/-- reversing a run of equal keys leaves the keys -/
theorem key_rev {p : Array Nat} {i j : Nat} (hj : j ≤ p.size) (h : ∀ k, i ≤ k → k < j → key (kg p k) = key (kg p (j - 1))) (k : Nat) : key (kg (kas_rev p i j) k) = key (kg p k) := by
  rw [kg_rev hj]
  by_cases e : i ≤ k ∧ k < j
  · rw [if_pos e, h _ (by lia) (by lia), h k e.1 e.2]
  · rw [if_neg e]
theorem kDec_congr {p q : Array Nat} {m : Nat} (h : ∀ k, key (kg q k) = key (kg p k)) (d : kDec lt key p m) : kDec lt key q m := fun i j h1 h2 => by rw [h, h]; exact d i j h1 h2
include T in
theorem desc_sat : ∀ (f : Nat) (p : Array Nat) (m q : Nat), PermR n p → 1 ≤ m → m + f = n → q + 1 ≤ m → kDec lt key p m → (∀ k, m - (q + 1) ≤ k → k < m → key (kg p k) = key (kg p (m - 1))) →
    kSat (kC lt key) n (kas_desc f p m q) (fun r => PermR n r.1 ∧ 1 ≤ r.2.1 ∧ r.2.1 ≤ n ∧ r.2.2 + 1 ≤ r.2.1 ∧ kDec lt key r.1 r.2.1 ∧ (∀ k, r.2.1 - (r.2.2 + 1) ≤ k → k < r.2.1 → key (kg r.1 k) = key (kg r.1 (r.2.1 - 1))))
  | 0, p, m, q, hp, h1, h2, h3, h4, h5 => ⟨hp, h1, by show m ≤ n; lia, h3, h4, h5⟩
  | f + 1, p, m, q, hp, h1, h2, h3, h4, h5 => by
    obtain ⟨m, rfl⟩ : ∃ k, m = k + 1 := ⟨m - 1, by lia⟩
    have hsz := hp.size
    refine ⟨hp.low (by lia), hp.low (by lia), ?_⟩
    show kSat _ _ (if kC lt key (kg p (m + 1)) (kg p (m + 1 - 1)) = true then _ else _) _
    by_cases hc : kC lt key (kg p (m + 1)) (kg p (m + 1 - 1)) = true
    · rw [if_pos hc]
      have hc' : lt (key (kg p m)) (key (kg p (m + 1))) = false := T.asy _ _ hc
      have d := kDec_succ T h4 hc'
      by_cases hq : q > 0
      · rw [if_pos hq]
        have ek := key_rev (key := key) (p := p) (i := m + 1 - (q + 1)) (j := m + 1) (by lia) h5
        refine desc_sat f _ _ 0 (permR_rev hp _ _) (by lia) (by lia) (by lia) (kDec_congr ek d) fun k a b => ?_
        obtain rfl : k = m + 1 := by lia
        rfl
      · rw [if_neg hq]
        refine desc_sat f _ _ 0 hp (by lia) (by lia) (by lia) d fun k a b => ?_
        obtain rfl : k = m + 1 := by lia
        rfl
    · rw [if_neg hc]
      have hc' : lt (key (kg p (m + 1))) (key (kg p m)) = false := by simpa [kC] using hc
      refine ⟨hp.low (by lia), hp.low (by lia), ?_⟩
      show kSat _ _ (if kC lt key (kg p (m + 1 - 1)) (kg p (m + 1)) = true then _ else _) _
      by_cases hd : kC lt key (kg p (m + 1 - 1)) (kg p (m + 1)) = true
      · rw [if_pos hd]; exact ⟨hp, h1, by show m + 1 ≤ n; lia, h3, h4, h5⟩
      · rw [if_neg hd]
        have hd' : lt (key (kg p m)) (key (kg p (m + 1))) = false := by simpa [kC] using hd
        have he : key (kg p (m + 1)) = key (kg p m) := T.anti _ _ hc' hd'
        refine desc_sat f _ _ (q + 1) hp (by lia) (by lia) (by lia) (kDec_succ T h4 hd') fun k a b => ?_
        show key (kg p k) = key (kg p (m + 1))
        by_cases hk : k = m + 1
        · rw [hk]
        · rw [he]; exact h5 k (by lia) (by lia)
theorem kInc_rev {p : Array Nat} {m : Nat} (hm : m ≤ p.size) (h : kDec lt key p m) : kInc lt key (kas_rev p 0 m) m := fun i j h1 h2 => by
  rw [kg_rev hm, kg_rev hm, if_pos (by lia), if_pos (by lia)]
  exact h _ _ (by lia) (by lia)
abbrev kRunR (lt : α → α → Bool) (key : Nat → α) (n : Nat) (r : Nat × Array Nat) : Prop := PermR n r.2 ∧ 1 ≤ r.1 ∧ r.1 ≤ n ∧ kInc lt key r.2 r.1
include T in
theorem tail3_sat {p : Array Nat} {m : Nat} (hp : PermR n p) (h1 : 1 ≤ m) (h2 : m ≤ n) (h : kDec lt key p m) : kSat (kC lt key) n (kas_tail3 m n p) (kRunR lt key n) := by
  refine kSat_bind _ (kSat_mono (fun r hr => ?_) _ (asc_sat T (permR_rev hp 0 m) (n - m) m h1 (by lia) (kInc_rev (by rw [hp.size]; exact h2) h)))
  exact ⟨permR_rev hp 0 m, by show 1 ≤ r; lia, hr.2.1, hr.2.2.1⟩
include T in
theorem descPart_sat {p : Array Nat} {m : Nat} (hp : PermR n p) (h1 : 1 ≤ m) (h2 : m + 1 ≤ n) (h : kDec lt key p (m + 1)) : kSat (kC lt key) n (kas_descPart m n p) (kRunR lt key n) := by
  refine kSat_bind _ (kSat_mono (fun r hr => ?_) _ (desc_sat T (n - (m + 1)) p (m + 1) 0 hp (by lia) (by lia) (by lia) h fun k a b => ?_))
  · obtain ⟨a1, a2, a3, a4, a5, a6⟩ := hr
    show kSat _ _ (if r.2.2 > 0 then _ else _) _
    by_cases hq : r.2.2 > 0
    · rw [if_pos hq]
      have ek := key_rev (key := key) (p := r.1) (i := r.2.1 - (r.2.2 + 1)) (j := r.2.1) (by rw [a1.size]; exact a3) a6
      exact tail3_sat T (permR_rev a1 _ _) a2 a3 (kDec_congr ek a5)
    · rw [if_neg hq]; exact tail3_sat T a1 a2 a3 a5
  · obtain rfl : k = m := by lia
    rfl
include T in
theorem count_sat (h1 : 1 ≤ n) {p : Array Nat} (hp : PermR n p) : kSat (kC lt key) n (kas_count n p) (kRunR lt key n) := by
  have hsz := hp.size
  refine kSat_bind _ (kSat_mono (fun r hr => ?_) _ (asc_sat T hp (n - 1) 1 (Nat.le_refl _) (by lia) (kInc_one T)))
  obtain ⟨a1, a2, a3, a4⟩ := hr
  show kSat _ _ (if (r == n) = true then _ else _) _
  by_cases e : (r == n) = true
  · rw [if_pos e]; exact ⟨hp, a1, a2, a3⟩
  · rw [if_neg e]
    have hr : r < n := by
      have : r ≠ n := fun q => e (by rw [q]; exact beq_self_eq_true _)
      lia
    have hd := a4 hr
    obtain ⟨m, rfl⟩ : ∃ k, r = k + 1 := ⟨r - 1, by lia⟩
    by_cases e1 : m + 1 > 1
    · rw [if_pos e1]
      refine ⟨hp.low (by lia), hp.low (by lia), ?_⟩
      show kSat _ _ (if kC lt key (kg p 0) (kg p (m + 1 - 1)) = true then _ else _) _
      by_cases hc : kC lt key (kg p 0) (kg p (m + 1 - 1)) = true
      · rw [if_pos hc]; exact ⟨hp, a1, a2, a3⟩
      · rw [if_neg hc]
        have hc' : lt (key (kg p 0)) (key (kg p m)) = false := by simpa [kC] using hc
        have heq : ∀ k, 0 ≤ k → k < m + 1 → key (kg p k) = key (kg p (m + 1 - 1)) := fun k _ hk => by
          show key (kg p k) = key (kg p m)
          refine T.anti _ _ ?_ (a3 k m (by lia) (by lia))
          exact T.tr _ _ _ hc' (a3 0 k (by lia) hk)
        have ek := key_rev (key := key) (p := p) (i := 0) (j := m + 1) (by lia) heq
        refine descPart_sat T (permR_rev hp _ _) (by lia) hr (kDec_congr ek (kDec_succ T (fun i j h1 h2 => ?_) (T.asy _ _ hd)))
        rw [heq i (by lia) (by lia), heq j (by lia) h2]; exact T.irr _
    · rw [if_neg e1]
      obtain rfl : m = 0 := by lia
      refine descPart_sat T hp (by lia) hr (kDec_succ T (fun i j h1 h2 => ?_) (T.asy _ _ hd))
      obtain rfl : i = 0 := by lia
      obtain rfl : j = 0 := by lia
      exact T.irr _
include T in
theorem place_sat {p : Array Nat} (hp : PermR n p) {k : Nat} (hk : k < n) (hi : kInc lt key p k) : ∀ (f l r : Nat), l ≤ r → r ≤ k → r - l ≤ f → (∀ i, i < l → lt (key (kg p k)) (key (kg p i)) = false) → (∀ i, r ≤ i → i < k → lt (key (kg p k)) (key (kg p i)) = true) →
    kSat (kC lt key) n (kas_place p k f l r) (fun l => l ≤ k ∧ (∀ i, i < l → lt (key (kg p k)) (key (kg p i)) = false) ∧ (∀ i, l ≤ i → i < k → lt (key (kg p k)) (key (kg p i)) = true))
  | 0, l, r, h1, h2, h3, h4, h5 => by
    obtain rfl : l = r := by lia
    exact ⟨h2, h4, h5⟩
  | f + 1, l, r, h1, h2, h3, h4, h5 => by
    unfold kas_place
    by_cases e : l ≥ r
    · rw [if_pos e]
      obtain rfl : l = r := by lia
      exact ⟨h2, h4, h5⟩
    · rw [if_neg e]
      refine ⟨hp.low hk, hp.low (by lia), ?_⟩
      show kSat _ _ (if kC lt key (kg p k) (kg p ((l + r) / 2)) = true then _ else _) _
      by_cases hc : kC lt key (kg p k) (kg p ((l + r) / 2)) = true
      · rw [if_pos hc]
        refine place_sat hp hk hi f l ((l + r) / 2) (by lia) (by lia) (by lia) h4 fun i a b => ?_
        cases q : lt (key (kg p k)) (key (kg p i)) with
        | true => rfl
        | false =>
          have := T.tr _ _ _ (hi ((l + r) / 2) i a b) q
          unfold kC at hc
          rw [this] at hc; cases hc
      · rw [if_neg hc]
        have hc' : lt (key (kg p k)) (key (kg p ((l + r) / 2))) = false := by simpa [kC] using hc
        refine place_sat hp hk hi f ((l + r) / 2 + 1) r (by lia) (by lia) (by lia) (fun i a => ?_) h5
        exact T.tr _ _ _ (hi i ((l + r) / 2) (by lia) (by lia)) hc'
include T in
theorem bin_sat : ∀ (f : Nat) (p : Array Nat) (k : Nat), PermR n p → k + f = n → kInc lt key p k → kSat (kC lt key) n (kas_bin f p k) (fun p => PermR n p ∧ kInc lt key p n)
  | 0, p, k, hp, h1, h2 => by
    obtain rfl : k = n := by lia
    exact ⟨hp, h2⟩
  | f + 1, p, k, hp, h1, h2 => by
    refine kSat_bind _ (kSat_mono (fun l hl => ?_) _ (place_sat T hp (k := k) (by lia) h2 k 0 k (by lia) (by lia) (by lia) (fun i hi => by lia) (fun i a b => by lia)))
    obtain ⟨b1, b2, b3⟩ := hl
    refine bin_sat f _ (k + 1) (permR_bubble hp _ _) (by lia) fun i j hij hj => ?_
    have hsz := hp.size
    rw [kg_bubble (by lia) b1, kg_bubble (by lia) b1]
    have asy : ∀ i, l ≤ i → i < k → lt (key (kg p i)) (key (kg p k)) = false := fun i a b => T.asy _ _ (b3 i a b)
    repeat' split
    all_goals first
      | exact T.irr _
      | exact h2 _ _ (by lia) (by lia)
      | exact b2 _ (by lia)
      | exact asy _ (by lia) (by lia)
      | (exfalso; lia)
include T in
theorem sort_sat (h1 : 1 ≤ n) : kSat (kC lt key) n (kas_sort n) (fun p => PermR n p ∧ kInc lt key p n) := by
  refine kSat_bind _ (kSat_mono (fun r hr => ?_) _ (count_sat T h1 (show PermR n (List.range n).toArray from List.Perm.refl _)))
  obtain ⟨a1, a2, a3, a4⟩ := hr
  show kSat _ _ (if r.1 < n then _ else _) _
  have em : max r.1 1 = r.1 := by lia
  by_cases h : r.1 < n
  · rw [if_pos h, em]; exact bin_sat T _ _ _ a1 (by lia) a4
  · rw [if_neg h]
    have : r.1 = n := by lia
    rw [this] at a4
    exact ⟨a1, a4⟩
end
end Mine
end
section -- So
open PySem PySem.W PySem.W.X PyProof.Rows
namespace Mine
section
variable {α : Type} {lt : α → α → Bool} {w : World} {A : Around} {s : Shared} {g : Heap} {L : Addr} {m : Str → Option Value} {nw : List (Addr × Obj)} {κ : SortKind} {ks vs : List Value} {n : Nat} {key : Nat → α}
theorem tree_ok (T : TotLt lt) (h1 : 1 ≤ n) (F : Fr g L s.heap m) (N : News g L s.heap nw)
    (hc : ∀ i j C h tk, i < n → j < n → Fr g L h m → News g L h nw → (∀ h' tk', Ext h h' → C (lt (key i) (key j)) { s with heap := h', toks := tk' }) → wpAny (model PR w) A (keyLt' κ (ks.getD i .none) (ks.getD j .none)) C (fun _ _ => False) { s with heap := h, toks := tk })
    {G : Array Nat → Shared → Prop} (hG : ∀ p h' tk', PermR n p → kInc lt key p n → Fr g L h' m → News g L h' nw → G p { s with heap := h', toks := tk' }) :
    (kas_sort n).kasWp (kas_ask PR w A κ ks) G s := by
  refine kSat_wp (c := kC lt key) (n := n) (P := fun s' => ∃ h tk, s' = { s with heap := h, toks := tk } ∧ Fr g L h m ∧ News g L h nw) ?_ (R := fun p => PermR n p ∧ kInc lt key p n) ?_ _ s (sort_sat T h1) ⟨s.heap, s.toks, rfl, F, N⟩
  · rintro i j C _ hi hj ⟨h, tk, rfl, F', N'⟩ k
    exact hc i j C h tk hi hj F' N' fun h' tk' e => k _ ⟨h', tk', rfl, Fr.ext F' e, News.ext N' e⟩
  · rintro p _ ⟨hp, hi⟩ ⟨h, tk, rfl, F', N'⟩
    exact hG p h tk hp hi F' N'
theorem getD_app {β : Type} {l l' : List β} {i : Nat} {d : β} (h : i < l.length) : (l ++ l').getD i d = l.getD i d := by
  rw [List.getD_eq_getElem?_getD, List.getD_eq_getElem?_getD, List.getElem?_append_left h]
theorem range_getD (h : vs.length = n) : (List.range n).map (fun i => vs.getD i Value.none) = vs := by
  subst h
  apply List.ext_getElem
  · simp
  · intro i h1 h2
    simp [h2]
theorem out_perm {p : Array Nat} (h : vs.length = n) (hp : PermR n p) : (p.toList.map fun i => vs.getD i Value.none).Perm vs := by
  have := hp.map fun i => vs.getD i Value.none
  rwa [range_getD h] at this
theorem out_sorted {p : Array Nat} {den : Value → α} (hp : PermR n p) (hk : ∀ i, i < n → key i = den (vs.getD i .none)) (hi : kInc lt key p n) :
    (p.toList.map fun i => vs.getD i Value.none).Pairwise fun a b => lt (den b) (den a) = false := by
  rw [List.pairwise_map, List.pairwise_iff_getElem]
  intro i j h1 h2 hij
  have hs := hp.size
  rw [Array.length_toList] at h1 h2
  have e : ∀ k (hk : k < p.size), kg p k = p.toList[k]'(by simpa using hk) := fun k hk => by simp [kg, Array.getD, hk]
  have z := hi i j (by lia) (by lia)
  rw [e i h1, e j h2, hk _ (by rw [← e j h2]; exact hp.low (by lia)), hk _ (by rw [← e i h1]; exact hp.low (by lia))] at z
  exact z
/-- what a key function does to a text, from anywhere -/
def KeyOk (w : World) (P : Heap → Prop) (news : List (Addr × Obj)) (f : Value) (KV : List (Addr × Obj) → Value → Str → Prop) (d u : Nat) : Prop :=
  ∀ (A : Around) (s : Shared) (a : Str) (t : Tok) (Q : Value → Shared → Prop), Has w news s.heap → P s.heap → A.handled = none → a.cps.size ≤ 100 → A.depth + d < recursionLimit → A.units + u < cLine →
    (∀ k tl h' tk', Me s.heap h' tl → KV tl k a → Q k { s with heap := h', toks := tk' }) → ∀ E, wpAny (model PR w) A (call f [.str a t] []) Q E s
theorem News.add {g h h' : Heap} {L : Addr} {m : Str → Option Value} {nw tl : List (Addr × Obj)} (F : Fr g L h m) (N : News g L h nw) (D : Me h h' tl) : Fr g L h' m ∧ News g L h' (nw ++ tl) ∧ ∀ q ∈ tl, ∀ p ∈ nw, q.1 ≠ p.1 := by
  refine ⟨Fr.ext F D.keep, fun q hq => ?_, fun q hq p hp e => ?_⟩
  · rcases List.mem_append.mp hq with hq | hq
    · exact News.ext N D.keep q hq
    · have z := D.nw q hq
      refine ⟨z.1, fun e => ?_, ?_⟩
      · obtain ⟨o, _, _, e', _⟩ := F.ns
        rw [← e, z.2] at e'; cases e'
      · cases q' : g.get? q.1 with
        | none => rfl
        | some o => have := F.keep _ _ q'; rw [z.2] at this; cases this
  · have z := (D.nw q hq).2
    rw [e, (N p hp).1] at z; cases z
/-- the keys of the texts, one by one -/
theorem keys_ok {KV : List (Addr × Obj) → Value → Str → Prop} {f : Value} {news : List (Addr × Obj)} {d u : Nat} {kS : Addr} {P : Heap → Prop} (hK : KeyOk w P news f KV d u) (hP : P g) (hPm : ∀ h h', Ext h h' → P h → P h') (hh : A.handled = none) (hmono : ∀ tl tl' k a, (∀ q ∈ tl, q ∈ tl') → KV tl k a → KV tl' k a) (X : (Mine.hd.heap_1 w.params).In g)
    (hd : A.depth + d < recursionLimit) (hu : A.units + u < cLine) {Fin : List Value → Nat → Shared → Prop} :
    ∀ (r done : List Str) (rv ks : List Value) (e : Nat) (s : Shared) (nw : List (Addr × Obj)), rv.length = r.length → (∀ a ∈ r, a.cps.size ≤ 100) → (∀ i, i < r.length → ∃ t, rv.getD i .none = .str (r.getD i default) t) → ks.length = done.length → (∀ i, i < done.length → KV nw (ks.getD i .none) (done.getD i default)) →
      Fr g L s.heap m → News g L s.heap ((kS, seqObj "list" (List.toArray ks) e) :: nw) → (∀ q ∈ nw, q.1 ≠ kS) → (∀ q ∈ news, q ∈ nw) →
      (∀ ks' e' h' tk' nw', ks'.length = (done ++ r).length → (∀ i, i < (done ++ r).length → KV nw' (ks'.getD i .none) ((done ++ r).getD i default)) → (∀ q ∈ nw, q ∈ nw') → Fr g L h' m → News g L h' ((kS, seqObj "list" (List.toArray ks') e') :: nw') → (∀ q ∈ nw', q.1 ≠ kS) → Fin ks' e' { s with heap := h', toks := tk' }) →
      KatKeys PR w A g L m kS f Fin rv ks e s
  | [], done, rv, ks, e, s, nw, h1, h0, h2, h3, h4, F, N, hn, hs, hF => by
    obtain rfl := List.length_eq_zero_iff.mp h1
    refine KatKeys.nil ?_
    have := hF ks e s.heap s.toks nw (by simpa using h3) (by simpa using h4) (fun q hq => hq) F N hn
    exact this
  | a :: r, done, rv, ks, e, s, nw, h1, h0, h2, h3, h4, F, N, hn, hs, hF => by
    obtain ⟨v, rv, rfl⟩ : ∃ v r', rv = v :: r' := by
      cases rv with
      | nil => simp at h1
      | cons v r' => exact ⟨v, r', rfl⟩
    obtain ⟨t, ht⟩ := h2 0 (by simp)
    have ev : v = .str a t := by simpa using ht
    subst ev
    refine KatKeys.cons (hK A s a t _ (.of F X N fun q hq => .tail _ (hs q hq)) (hPm _ _ F.keep hP) hh (h0 a (.head _)) hd hu (fun k tl h' tk' D hk => ?_) _)
    obtain ⟨F', N', hne⟩ := News.add F N D
    have hn' : ∀ q ∈ nw ++ tl, q.1 ≠ kS := fun q hq => by
      rcases List.mem_append.mp hq with hq | hq
      · exact hn q hq
      · exact hne q hq _ (.head _)
    refine KatBack.intro (news := (kS, seqObj "list" (List.toArray ks) e) :: (nw ++ tl)) F' N' (.head hn') fun h2' c F2 N2 => ?_
    refine keys_ok hK hP hPm hh hmono X hd hu r (done ++ [a]) rv (ks ++ [k]) c _ (nw ++ tl) (by simpa using h1) (fun b hb => h0 b (.tail _ hb)) (fun i hi => ?_) (by simp [h3]) (fun i hi => ?_) F2 N2 hn' (fun q hq => List.mem_append_left _ (hs q hq)) fun ks' e' h3' tk3 nw' a1 a2 a3 a4 a5 a6 => ?_
    · obtain ⟨t', ht'⟩ := h2 (i + 1) (by simpa using hi)
      exact ⟨t', by simpa using ht'⟩
    · by_cases hi' : i < done.length
      · have z := h4 i hi'
        rw [getD_app (by lia), getD_app hi']
        exact hmono _ _ _ _ (fun q hq => List.mem_append_left _ hq) z
      · have e1 : i = done.length := by simp at hi; lia
        subst e1
        have e2 : (ks ++ [k]).getD done.length .none = k := by rw [← h3]; simp
        have e3 : (done ++ [a]).getD done.length default = a := by simp
        rw [e2, e3]
        exact hmono _ _ _ _ (fun q hq => List.mem_append_right _ hq) hk
    · rw [List.append_assoc] at a1 a2
      exact hF ks' e' h3' tk3 nw' a1 a2 (fun q hq => a3 q (List.mem_append_left _ hq)) a4 a5 a6
end
end Mine
end
section -- Kj
open PySem PySem.W PySem.W.X PyProof.Rows PyProof.V PySem.Calls
namespace Mine
theorem setup_Kj_1 : True := by
  w_top off
  k_with_none
  k_with "at" => (first | with_reducible exact At.head | (with_reducible refine At.tail ?_; walk_at "at"))
  exact True.intro
theorem setup_Kj_2 : True := by
  k_with "mem" => (first | assumption | exact List.Mem.head _ | (refine List.mem_cons_of_mem _ ?_; k_mem))
  k_with "lk" => ((first
  | (with_reducible refine b_bind ?_; try walk_at "kf") | (with_reducible refine b_nd ?_; try walk_at "kf") | with_reducible refine wpAny_holding ?_ | (with_reducible refine b_tc ?_; try walk_at "kf") | with_reducible refine b_att ?_ | with_reducible refine b_or ?_
  | ((fail_if_success (with_reducible show wpAny _ _ (PySem.call _ _ _) _ _ _)); (fail_if_success (with_reducible show wpAny _ _ (PySem.runValue _) _ _ _)); (fail_if_success (with_reducible show wpAny _ _ (enterFrame _) _ _ _)); (fail_if_success (with_reducible show wpAny _ _ (forIn (List.drop _ _) _ _) _ _ _)); (fail_if_success (with_reducible show wpAny _ _ (PySem.run _ _) _ _ _)); first
    | with_reducible refine Looks.at (by assumption) ?_
    | ((with_reducible show wpAny _ _ (collect _) _ _ _); k_dflt (refine' m_collect ?zzD ?zzhv ?zzhm ?zzhz ?_; (case zzD => assumption); (case zzhv => with_unfolding_all rfl); (case zzhm => k_mem); (case zzhz => exact Nat.le_of_ble_eq_true rfl)); intro _ _ _ _)
    | ((with_reducible show wpAny _ _ (Sem.load _ _ _) _ _ _); k_dflt (refine' m_load ?zzD ?zzhm ?_; (case zzD => with_reducible assumption); (case zzhm => k_mem)); try dsimp only)
    | ((with_reducible show wpAny _ _ (setSlotAt _ _ _) _ _ _); k_dflt (first | refine m_setSlot (j := 0) (by with_reducible assumption) rfl (Nat.lt_of_lt_of_le (by decide : _ < 100) (Nat.le_of_ble_eq_true rfl)) rfl ?_ | refine m_setSlot (j := 1) (by with_reducible assumption) rfl (Nat.lt_of_lt_of_le (by decide : _ < 100) (Nat.le_of_ble_eq_true rfl)) rfl ?_ | refine m_setSlot (j := 2) (by with_reducible assumption) rfl (Nat.lt_of_lt_of_le (by decide : _ < 100) (Nat.le_of_ble_eq_true rfl)) rfl ?_); intro _ Dn; dsimp only [List.set, setAt] at Dn; revert Dn; intro _)
    | ((with_reducible show wpAny _ _ (slotAt _ _) _ _ _); k_dflt (refine' m_slotAt ?zzD ?zzm ?zze ?_; (case zzD => with_reducible assumption); (case zzm => k_mem); (case zze => rfl)))
    | ((with_reducible show wpAny _ _ (updateCls _ _) _ _ _); k_dflt (first | refine m_updateCls (j := 0) (by with_reducible assumption) rfl rfl rfl ?_ | refine m_updateCls (j := 1) (by with_reducible assumption) rfl rfl rfl ?_ | refine m_updateCls (j := 2) (by with_reducible assumption) rfl rfl rfl ?_); intro _ Dn; dsimp only [List.set] at Dn; revert Dn; intro _)
    | ((with_reducible show wpAny _ _ (Sem.load _ _ _) _ _ _); k_dflt (refine' m_oldF ?zzD ?zzO ?_; (case zzD => with_reducible assumption); (case zzO => with_reducible assumption)); try dsimp only)
    | ((with_reducible show wpAny _ _ (Sem.load _ _ _) _ _ _); dsimp only)
    | ((with_reducible show wpAny _ _ (Sem.update _ _ _ _) _ _ _); dsimp only)
    | with_reducible refine m_arr ?_
    | with_reducible refine x_at ?_
    | ((with_reducible show wpAny _ _ (List.mapM.loop _ (Scope.freeNames _) _) _ _ _); generalize hfn : Scope.freeNames _ = fn; (first | (have hf2 : fn = [] := hfn.symm.trans (by kernel_rfl!); clear hfn; subst hf2) | (have hf2 : fn = [Str.ofString "mycmp"] := hfn.symm.trans (by kernel_rfl!); clear hfn; subst hf2)))
    | ((with_reducible show wpAny _ _ (Sem.load _ _ _) _ _ _); k_dflt (refine' m_old ?zzD ?zzX ?zzl ?_; (case zzD => with_reducible assumption); (case zzX => with_reducible assumption); (case zzl => k_is)); try dsimp only)
    | (with_reducible refine m_alloc (by assumption) rfl ?_; intro _ _ _; try dsimp only)
    | ((with_reducible show wpAny _ _ (Sem.update _ _ _ _) _ _ _); k_dflt (first | refine m_update (i := 0) (by with_reducible assumption) rfl rfl ?_ | refine m_update (i := 1) (by with_reducible assumption) rfl rfl ?_); intro _ Dn; dsimp only [List.set] at Dn; revert Dn; intro _)
    | k_node
    | with_reducible refine m_ifF' (by kernel_rfl!) ?_
    | with_reducible refine m_ifT' (by kernel_rfl!) ?_)))
  exact True.intro
structure KFacts (P : Params) (h : Heap) (C : Addr) (k : KD) : Prop where
  hC : h.get? C = some (clsObj C k.nd k.kl)
  hnd : h.get? k.nd = some (k.ns P)
  hmd : h.get? k.md = some (mdObj C k.tk1)
  hfi : h.get? k.fi = some (fnObj k.d1)
  hc1 : h.get? k.c1 = some k.o1
  hfl : h.get? k.fl = some (fnObj k.d2)
  hc2 : h.get? k.c2 = some k.o2
  hfg : h.get? k.fg = some (fnObj k.d3)
  hc3 : h.get? k.c3 = some k.o3
  hfe : h.get? k.fe = some (fnObj k.d4)
  hc4 : h.get? k.c4 = some k.o4
  hcell : h.get? k.cell = some { cls := .type "cell", data := .cell (some (.ref 21)) }
  F1 : FnIs P 2 "__init__" [] k.d1 k.c1 k.o1
  F2 : FnIs P 3 "__lt__" [(Str.ofString "mycmp", k.cell)] k.d2 k.c2 k.o2
  F3 : FnIs P 4 "__gt__" [(Str.ofString "mycmp", k.cell)] k.d3 k.c3 k.o3
  F4 : FnIs P 5 "__eq__" [(Str.ofString "mycmp", k.cell)] k.d4 k.c4 k.o4
/-- the facts of class K in a memory -/
structure KAt (P : Params) (h : Heap) (C : Addr) : Prop where
  x : (Mine.hd.heap_1 P).In h
  c : ∃ k : KD, KFacts P h C k
variable {w : World} {A : Around} {s : Shared} {Q : Value → Shared → Prop} {E : Value → Shared → Prop} {h₀ : Heap} {C : Addr}
theorem entry_on : entryFor table "object.__new__" = some Builtin.«object.__new__» := entryFor_of_tree (by kernel_rfl)
theorem entry_sa : entryFor table "object.__setattr__" = some Builtin.«object.__setattr__» := entryFor_of_tree (by kernel_rfl)
theorem entry_ms : entryFor table "member_descriptor.__set__" = some Builtin.«member_descriptor.__set__» := entryFor_of_tree (by kernel_rfl)
theorem entry_ss : entryFor table "proto.slot#set" = some Builtin.«proto.slot#set» := entryFor_of_tree (by kernel_rfl)
theorem k_init {k : KD} {x d : Addr} {va : Str} {vt : Tok} {news : List (Addr × Obj)}
  (X₀ : (Mine.hd.heap_1 w.params).In h₀) (K : KFacts w.params h₀ C k)
  (D : Me h₀ s.heap ((x, { cls := .ref C, dict := some d }) :: news)) (hdep : A.depth + 20 < recursionLimit) (hun : A.units + 80 < cLine)
  (hQ : ∀ y o h' tk', Me h₀ h' ((y, o) :: (x, { cls := .ref C, dict := some d, slots := #[some (.str va vt)] }) :: news) → Q .none { s with heap := h', toks := tk' }) :
  wpAny (model PR w) A (call (.ref k.fi) [.ref x, .str va vt] []) Q E s := by
  have fill : Mine.hd.heap_1 = Mine.hd.heap_1 ∧ PySem.Challenge.rw_xh0039_01 = PySem.Challenge.rw_xh0039_01 := by (k_fill; exact ⟨rfl, rfl⟩)
  clear fill
  obtain ⟨doc, pm, ctv, vs, tq, ed, hkk, ho, hv⟩ := K.F1
  have hC := K.hC
  have hnd := K.hnd
  have hmd := K.hmd
  have hfi := K.hfi
  have hc1 := K.hc1
  clear K
  rw [ed] at hfi
  clear ed
  refine wpAny_call ?_
  refine codeAny_call_function (by lia) (D.keep _ _ hfi) rfl rfl rfl rfl ⟨_, _, _, _, rfl, D.keep _ _ hc1, ho, hv⟩ ?_
  repeat (walk_at "lk")
  refine ⟨noLimit_of (Me.keep (by with_reducible assumption) _ _ (X₀ 2 _ (by k_is))), codeAny_func ?_⟩
  repeat (walk_at "lk")
  show wpAny _ _ (call (.builtin "object.__setattr__") [.ref x, .str (Str.ofString "obj") _, .str va vt] []) _ _ _
  refine wpAny_call (codeAny_call_builtin (by decide +kernel) entry_sa ?_)
  repeat (walk_at "lk")
  show wpAny _ _ (call (.builtin "member_descriptor.__set__") [.ref k.md, .ref x, .str va vt] []) _ _ _
  refine wpAny_call (codeAny_call_builtin (by decide +kernel) entry_ms ?_)
  repeat (walk_at "lk")
  generalize hcc : List.contains (α := Value) _ _ = b
  obtain rfl : b = true := hcc.symm.trans (by simp)
  clear hcc
  repeat (walk_at "lk")
  refine ⟨by kernel_rfl!, ?_⟩
  refine codeAny_builtin entry_ss ?_
  unfold Builtin.«proto.slot#set»
  repeat (walk_at "lk")
  rename_i Dz
  exact hQ _ _ _ _ Dz
end Mine
end
section -- Kg
open PySem PySem.W PySem.W.X PyProof.Rows PyProof.V PySem.Calls
namespace Mine
variable {w : World} {A : Around} {s : Shared} {Q : Value → Shared → Prop} {E : Value → Shared → Prop} {h₀ : Heap} {C : Addr}
theorem setup_Kg_1 : True := by
  w_top off
  k_with_none
  k_with "close" => (first | exact hQ _ _ Dm)
  exact True.intro
theorem k_get {x d : Addr} {a : Str} {ta tn : Tok} {nd md : Addr} {bt : Addr} {t u2 tk1 : Tok} {t1 u1 t3 : Tok} {n : Int} {u3 t4 : Tok} {sl : Addr} {t5 t6 : Tok} {fi fl : Addr} {t7 : Tok} {fg : Addr} {t8 : Tok} {fe : Addr} {t9 : Tok} {fle : Addr} {t10 : Tok} {fge : Addr} {t11 t12 : Tok} {st : Addr} {tk2 tk3 : Tok} {news : List (Addr × Obj)}
  (Dm : Me h₀ s.heap news) (hC : h₀.get? C = some (clsObj C nd (slK bt t u2))) (hnd : h₀.get? nd = some (nsObj w.params t1 u1 t3 n u3 t4 sl t5 fi t6 fl t7 fg t8 fe t9 fle t10 fge t11 t12 st tk2 md tk3)) (hmd : h₀.get? md = some (mdObj C tk1))
  (hx : h₀.get? x = some { cls := .ref C, dict := some d, slots := #[some (.str a ta)] })
  (hQ : ∀ h' tk', Me h₀ h' news → Q (.str a ta) { s with heap := h', toks := tk' }) :
  wpAny (model PR w) A (runValue (.builtin "proto.getattr_hooked" ⟨[.ref x, .str (Str.ofString "obj") tn], []⟩)) Q E s := by
  replace hC := Dm.keep _ _ hC
  replace hnd := Dm.keep _ _ hnd
  replace hmd := Dm.keep _ _ hmd
  replace hx := Dm.keep _ _ hx
  unfold clsObj slK at hC
  unfold nsObj kEnt at hnd
  unfold mdObj at hmd
  x_run
end Mine
end
section -- Kst
open PySem PySem.W PySem.W.X PyProof.Rows PyProof.V PySem.Calls
namespace Mine
theorem setup_Kst_1 : True := by
  w_top off
  k_with_none
  k_with "at" => (first | with_reducible exact At.head | (with_reducible refine At.tail ?_; walk_at "at"))
  exact True.intro
theorem setup_Kst_2 : True := by
  k_with "mem" => (first | assumption | exact List.Mem.head _ | (refine List.mem_cons_of_mem _ ?_; k_mem))
  k_with "lk" => ((first
  | (with_reducible refine b_bind ?_; try walk_at "kf") | (with_reducible refine b_nd ?_; try walk_at "kf") | with_reducible refine wpAny_holding ?_ | (with_reducible refine b_tc ?_; try walk_at "kf") | with_reducible refine b_att ?_ | with_reducible refine b_or ?_
  | ((fail_if_success (with_reducible show wpAny _ _ (PySem.richCompare _ _ _) _ _ _)); (fail_if_success (with_reducible show wpAny _ _ (PySem.call _ _ _) _ _ _)); (fail_if_success (with_reducible show wpAny _ _ (PySem.runValue _) _ _ _)); (fail_if_success (with_reducible show wpAny _ _ (enterFrame _) _ _ _)); (fail_if_success (with_reducible show wpAny _ _ (forIn (List.drop _ _) _ _) _ _ _)); (fail_if_success (with_reducible show wpAny _ _ (PySem.run _ _) _ _ _)); first
    | with_reducible refine Looks.at (by assumption) ?_
    | ((with_reducible show wpAny _ _ (callMarked _ _ _ _) _ _ _); unfold callMarked; refine wpAny_keep ?_)
    | ((with_reducible show wpAny _ _ (collect _) _ _ _); k_dflt (refine' m_collect ?zzD ?zzhv ?zzhm ?zzhz ?_; (case zzD => assumption); (case zzhv => with_unfolding_all rfl); (case zzhm => k_mem); (case zzhz => exact Nat.le_of_ble_eq_true rfl)); intro _ _ _ _)
    | ((with_reducible show wpAny _ _ (Sem.load _ _ _) _ _ _); k_dflt (refine' m_load ?zzD ?zzhm ?_; (case zzD => with_reducible assumption); (case zzhm => k_mem)); try dsimp only)
    | ((with_reducible show wpAny _ _ (setSlotAt _ _ _) _ _ _); k_dflt (first | refine m_setSlot (j := 0) (by with_reducible assumption) rfl (Nat.lt_of_lt_of_le (by decide : _ < 100) (Nat.le_of_ble_eq_true rfl)) rfl ?_ | refine m_setSlot (j := 1) (by with_reducible assumption) rfl (Nat.lt_of_lt_of_le (by decide : _ < 100) (Nat.le_of_ble_eq_true rfl)) rfl ?_ | refine m_setSlot (j := 2) (by with_reducible assumption) rfl (Nat.lt_of_lt_of_le (by decide : _ < 100) (Nat.le_of_ble_eq_true rfl)) rfl ?_); intro _ Dn; dsimp only [List.set, setAt] at Dn; revert Dn; intro _)
    | ((with_reducible show wpAny _ _ (slotAt _ _) _ _ _); k_dflt (refine' m_slotAt ?zzD ?zzm ?zze ?_; (case zzD => with_reducible assumption); (case zzm => k_mem); (case zze => rfl)))
    | ((with_reducible show wpAny _ _ (updateCls _ _) _ _ _); k_dflt (first | refine m_updateCls (j := 0) (by with_reducible assumption) rfl rfl rfl ?_ | refine m_updateCls (j := 1) (by with_reducible assumption) rfl rfl rfl ?_ | refine m_updateCls (j := 2) (by with_reducible assumption) rfl rfl rfl ?_); intro _ Dn; dsimp only [List.set] at Dn; revert Dn; intro _)
    | ((with_reducible show wpAny _ _ (Sem.load _ _ _) _ _ _); k_dflt (refine' m_oldF ?zzD ?zzO ?_; (case zzD => with_reducible assumption); (case zzO => with_reducible assumption)); try dsimp only)
    | ((with_reducible show wpAny _ _ (Sem.load _ _ _) _ _ _); dsimp only)
    | ((with_reducible show wpAny _ _ (Sem.update _ _ _ _) _ _ _); dsimp only)
    | with_reducible refine m_arr ?_
    | with_reducible refine x_at ?_
    | ((with_reducible show wpAny _ _ (List.mapM.loop _ (Scope.freeNames _) _) _ _ _); generalize hfn : Scope.freeNames _ = fn; (first | (have hf2 : fn = [] := hfn.symm.trans (by kernel_rfl!); clear hfn; subst hf2) | (have hf2 : fn = [Str.ofString "mycmp"] := hfn.symm.trans (by kernel_rfl!); clear hfn; subst hf2)))
    | ((with_reducible show wpAny _ _ (Sem.load _ _ _) _ _ _); k_dflt (refine' m_old ?zzD ?zzX ?zzl ?_; (case zzD => with_reducible assumption); (case zzX => with_reducible assumption); (case zzl => k_is)); try dsimp only)
    | (with_reducible refine m_alloc (by assumption) rfl ?_; intro _ _ _; try dsimp only)
    | ((with_reducible show wpAny _ _ (Sem.update _ _ _ _) _ _ _); k_dflt (first | refine m_update (i := 0) (by with_reducible assumption) rfl rfl ?_ | refine m_update (i := 1) (by with_reducible assumption) rfl rfl ?_); intro _ Dn; dsimp only [List.set] at Dn; revert Dn; intro _)
    | ((with_reducible show wpAny _ _ (compareOp .Gt (.str _ _) (.str _ _)) _ _ _); refine P.gt_str ?_)
    | ((with_reducible show wpAny _ _ (compareOp .Lt (.str _ _) (.str _ _)) _ _ _); refine P.lt_str ?_)
    | ((with_reducible show wpAny _ _ (binaryOp .Sub (.bool _) (.bool _)) _ _ _); refine sub_bool ?_)
    | k_node
    | with_reducible refine m_ifF' (by kernel_rfl!) ?_
    | with_reducible refine m_ifT' (by kernel_rfl!) ?_)))
  exact True.intro
variable {w : World} {A : Around} {s : Shared} {Q : Value → Shared → Prop} {E : Value → Shared → Prop} {h₀ : Heap}
noncomputable def collI (a b : Str) : Int := b2i (decide (b.cps.toList < a.cps.toList)) - b2i (decide (a.cps.toList < b.cps.toList))
theorem strcoll_ok {a b : Str} {ta tb : Tok} {news : List (Addr × Obj)} (X₀ : (Mine.hd.heap_1 w.params).In h₀) (D : Me h₀ s.heap news) (hdep : A.depth + 5 < recursionLimit) (hun : A.units + 40 < cLine)
  (hQ : ∀ f o k h' tk', Me h₀ h' ((f, o) :: news) → Q (.int (collI a b) k) { s with heap := h', toks := tk' }) :
  wpAny (model PR w) A (call (.ref 21) [.str a ta, .str b tb] []) Q E s := by
  have fill : Mine.hd.heap_1 = Mine.hd.heap_1 ∧ PySem.Challenge.rw_xh0039_01 = PySem.Challenge.rw_xh0039_01 := by (k_fill; exact ⟨rfl, rfl⟩)
  clear fill
  have h21 := D.keep _ _ (X₀ 21 _ (by k_is))
  have hrec := (codeRec_of (cd := .ref 20) (q := Str.ofString "_strcoll") X₀ (by k_is)).keeps D.keep
  refine wpAny_call ?_
  refine codeAny_call_function (by lia) h21 rfl rfl rfl rfl hrec ?_
  repeat (walk_at "lk")
  refine ⟨noLimit_of (Me.keep (by with_reducible assumption) _ _ (X₀ 2 _ (by k_is))), codeAny_func ?_⟩
  repeat (walk_at "lk")
  exact hQ _ _ _ _ _ (by with_reducible assumption)
end Mine
end
section -- Kc
open PySem PySem.W PySem.W.X PyProof.Rows PyProof.V PySem.Calls
namespace Mine
theorem setup_Kc_1 : True := by
  w_top off
  k_with_none
  k_with "at" => (first | with_reducible exact At.head | (with_reducible refine At.tail ?_; walk_at "at"))
  exact True.intro
theorem setup_Kc_2 : True := by
  k_with "mem" => (first | assumption | exact List.Mem.head _ | (refine List.mem_cons_of_mem _ ?_; k_mem))
  k_with "lk" => ((first
  | (with_reducible refine b_bind ?_; try walk_at "kf") | (with_reducible refine b_nd ?_; try walk_at "kf") | with_reducible refine wpAny_holding ?_ | (with_reducible refine b_tc ?_; try walk_at "kf") | with_reducible refine b_att ?_ | with_reducible refine b_or ?_
  | ((fail_if_success (with_reducible show wpAny _ _ (PySem.richCompare _ _ _) _ _ _)); (fail_if_success (with_reducible show wpAny _ _ (PySem.call _ _ _) _ _ _)); (fail_if_success (with_reducible show wpAny _ _ (PySem.runValue _) _ _ _)); (fail_if_success (with_reducible show wpAny _ _ (enterFrame _) _ _ _)); (fail_if_success (with_reducible show wpAny _ _ (forIn (List.drop _ _) _ _) _ _ _)); (fail_if_success (with_reducible show wpAny _ _ (PySem.run _ _) _ _ _)); first
    | with_reducible refine Looks.at (by assumption) ?_
    | ((with_reducible show wpAny _ _ (callMarked _ _ _ _) _ _ _); unfold callMarked; refine wpAny_keep ?_)
    | ((with_reducible show wpAny _ _ (collect _) _ _ _); k_dflt (refine' m_collect ?zzD ?zzhv ?zzhm ?zzhz ?_; (case zzD => assumption); (case zzhv => with_unfolding_all rfl); (case zzhm => k_mem); (case zzhz => exact Nat.le_of_ble_eq_true rfl)); intro _ _ _ _)
    | ((with_reducible show wpAny _ _ (Sem.load _ _ _) _ _ _); k_dflt (refine' m_load ?zzD ?zzhm ?_; (case zzD => with_reducible assumption); (case zzhm => k_mem)); try dsimp only)
    | ((with_reducible show wpAny _ _ (setSlotAt _ _ _) _ _ _); k_dflt (first | refine m_setSlot (j := 0) (by with_reducible assumption) rfl (Nat.lt_of_lt_of_le (by decide : _ < 100) (Nat.le_of_ble_eq_true rfl)) rfl ?_ | refine m_setSlot (j := 1) (by with_reducible assumption) rfl (Nat.lt_of_lt_of_le (by decide : _ < 100) (Nat.le_of_ble_eq_true rfl)) rfl ?_ | refine m_setSlot (j := 2) (by with_reducible assumption) rfl (Nat.lt_of_lt_of_le (by decide : _ < 100) (Nat.le_of_ble_eq_true rfl)) rfl ?_); intro _ Dn; dsimp only [List.set, setAt] at Dn; revert Dn; intro _)
    | ((with_reducible show wpAny _ _ (slotAt _ _) _ _ _); k_dflt (refine' m_slotAt ?zzD ?zzm ?zze ?_; (case zzD => with_reducible assumption); (case zzm => k_mem); (case zze => rfl)))
    | ((with_reducible show wpAny _ _ (updateCls _ _) _ _ _); k_dflt (first | refine m_updateCls (j := 0) (by with_reducible assumption) rfl rfl rfl ?_ | refine m_updateCls (j := 1) (by with_reducible assumption) rfl rfl rfl ?_ | refine m_updateCls (j := 2) (by with_reducible assumption) rfl rfl rfl ?_); intro _ Dn; dsimp only [List.set] at Dn; revert Dn; intro _)
    | ((with_reducible show wpAny _ _ (Sem.load _ _ _) _ _ _); k_dflt (refine' m_oldF ?zzD ?zzO ?_; (case zzD => with_reducible assumption); (case zzO => with_reducible assumption)); try dsimp only)
    | ((with_reducible show wpAny _ _ (Sem.load _ _ _) _ _ _); dsimp only)
    | ((with_reducible show wpAny _ _ (Sem.update _ _ _ _) _ _ _); dsimp only)
    | with_reducible refine m_arr ?_
    | with_reducible refine x_at ?_
    | ((with_reducible show wpAny _ _ (List.mapM.loop _ (Scope.freeNames _) _) _ _ _); generalize hfn : Scope.freeNames _ = fn; (first | (have hf2 : fn = [] := hfn.symm.trans (by kernel_rfl!); clear hfn; subst hf2) | (have hf2 : fn = [Str.ofString "mycmp"] := hfn.symm.trans (by kernel_rfl!); clear hfn; subst hf2)))
    | ((with_reducible show wpAny _ _ (Sem.load _ _ _) _ _ _); k_dflt (refine' m_old ?zzD ?zzX ?zzl ?_; (case zzD => with_reducible assumption); (case zzX => with_reducible assumption); (case zzl => k_is)); try dsimp only)
    | (with_reducible refine m_alloc (by assumption) rfl ?_; intro _ _ _; try dsimp only)
    | ((with_reducible show wpAny _ _ (Sem.update _ _ _ _) _ _ _); k_dflt (first | refine m_update (i := 0) (by with_reducible assumption) rfl rfl ?_ | refine m_update (i := 1) (by with_reducible assumption) rfl rfl ?_); intro _ Dn; dsimp only [List.set] at Dn; revert Dn; intro _)
    | ((with_reducible show wpAny _ _ (compareOp .Gt (.int _ _) (.int _ _)) _ _ _); refine PyProof.Rows.gt_int ?_)
    | ((with_reducible show wpAny _ _ (compareOp .Lt (.int _ _) (.int _ _)) _ _ _); refine PyProof.Rows.lt_int ?_)
    | ((with_reducible show wpAny _ _ (compareOp .Eq (.int _ _) (.int _ _)) _ _ _); refine PyProof.Rows.eq_int ?_)
    | ((with_reducible show wpAny _ _ (compareOp .Gt (.str _ _) (.str _ _)) _ _ _); refine P.gt_str ?_)
    | ((with_reducible show wpAny _ _ (compareOp .Lt (.str _ _) (.str _ _)) _ _ _); refine P.lt_str ?_)
    | ((with_reducible show wpAny _ _ (binaryOp .Sub (.bool _) (.bool _)) _ _ _); refine sub_bool ?_)
    | k_node
    | with_reducible refine m_ifF' (by kernel_rfl!) ?_
    | with_reducible refine m_ifT' (by kernel_rfl!) ?_)))
  exact True.intro
variable {w : World} {A : Around} {s : Shared} {Q : Value → Shared → Prop} {E : Value → Shared → Prop} {h₀ : Heap} {C : Addr}
/-- a comparison of class K's: the three that are called differ in name, line, operator and places alone -/
noncomputable def stC (nm : Str) (l0 l1 : Nat) (op : CmpOp) (p7 p8 p9 pe : Pos) : Stmt :=
  .FunctionDef nm { posonlyargs := [], args := [{ arg := "self", annotation := none, pos := ⟨l0, 19, l0, 23⟩ }, { arg := "other", annotation := none, pos := ⟨l0, 25, l0, 30⟩ }], vararg := none, kwonlyargs := [], kw_defaults := [], kwarg := none, defaults := [] }
    [.Return (some (.Compare (.Call (.Name "mycmp" ⟨l1, 19, l1, 24⟩) [.Attribute (.Name "self" ⟨l1, 25, l1, 29⟩) "obj" ⟨l1, 25, l1, 33⟩, .Attribute (.Name "other" ⟨l1, 35, l1, 40⟩) "obj" ⟨l1, 35, l1, 44⟩] [] ⟨l1, 19, l1, 45⟩) [op] [.Constant (.int 0) 0 p7] p8)) p9]
    [] none [] { kind := .function, names := [(Str.ofString "self", .local), (Str.ofString "other", .local), (Str.ofString "mycmp", .free)], isGenerator := false, isCoroutine := false } none nm pe
theorem stK_lt (P : Params) : stK P 3 = stC "__lt__" 16 17 .Lt ⟨17, 48, 17, 49⟩ ⟨17, 19, 17, 49⟩ ⟨17, 12, 17, 49⟩ ⟨16, 8, 17, 49⟩ := by kernel_rfl
theorem stK_gt (P : Params) : stK P 4 = stC "__gt__" 19 20 .Gt ⟨20, 48, 20, 49⟩ ⟨20, 19, 20, 49⟩ ⟨20, 12, 20, 49⟩ ⟨19, 8, 20, 49⟩ := by kernel_rfl
theorem stK_eq (P : Params) : stK P 5 = stC "__eq__" 22 23 .Eq ⟨23, 49, 23, 50⟩ ⟨23, 19, 23, 50⟩ ⟨23, 12, 23, 50⟩ ⟨22, 8, 23, 50⟩ := by kernel_rfl
theorem k_cmp {k : KD} {a b : Str} {ta tb : Tok} {x y dx dy : Addr} {news : List (Addr × Obj)} {nm q : Str} {l0 l1 : Nat} {op : CmpOp} {p7 p8 p9 pe : Pos} {r : Bool} {fa c : Addr} {fd : FuncData} {oc : Obj} {doc pm ctv : Value} {vs : Array Value} {tq : Tok}
  (X₀ : (Mine.hd.heap_1 w.params).In h₀) (hC : h₀.get? C = some (clsObj C k.nd k.kl)) (hnd : h₀.get? k.nd = some (k.ns w.params)) (hmd : h₀.get? k.md = some (mdObj C k.tk1))
  (hf : h₀.get? fa = some (fnObj fd)) (hc1 : h₀.get? c = some oc) (hcell : h₀.get? k.cell = some { cls := .type "cell", data := .cell (some (.ref 21)) })
  (ed : fd = fdOf (stC nm l0 l1 op p7 p8 p9 pe) q [(Str.ofString "mycmp", k.cell)] doc pm c ctv) (hkk : oc.cls = .type "code") (ho : oc.data = .fields vs) (hv : vs[1]? = some (.str q tq))
  (hop : ∀ (A : Around) (s : Shared) (t1 t2 : Tok) (Q E : Value → Shared → Prop), Q (.bool r) s → wpAny (model PR w) A (compareOp op (.int (collI a b) t1) (.int 0 t2)) Q E s)
  (D : Me h₀ s.heap news)
  (hx : h₀.get? x = some { cls := .ref C, dict := some dx, slots := #[some (.str a ta)] }) (hy : h₀.get? y = some { cls := .ref C, dict := some dy, slots := #[some (.str b tb)] })
  (hdep : A.depth + 20 < recursionLimit) (hun : A.units + 80 < cLine)
  (hQ : ∀ f o g u h' tk', Me h₀ h' ((f, o) :: (g, u) :: news) → Q (.bool r) { s with heap := h', toks := tk' }) :
  wpAny (model PR w) A (call (.ref fa) [.ref x, .ref y] []) Q E s := by
  have fill : Mine.hd.heap_1 = Mine.hd.heap_1 ∧ PySem.Challenge.rw_xh0039_01 = PySem.Challenge.rw_xh0039_01 := by (k_fill; exact ⟨rfl, rfl⟩)
  clear fill
  rw [ed] at hf
  clear ed
  unfold stC at hf
  refine wpAny_call ?_
  refine codeAny_call_function (by lia) (D.keep _ _ hf) rfl rfl rfl rfl ⟨_, _, _, _, rfl, D.keep _ _ hc1, ho, hv⟩ ?_
  repeat (walk_at "lk")
  refine ⟨noLimit_of (Me.keep (by with_reducible assumption) _ _ (X₀ 2 _ (by k_is))), codeAny_func ?_⟩
  repeat (walk_at "lk")
  show wpAny _ _ (runValue (.builtin "proto.getattr_hooked" ⟨[.ref x, .str (Str.ofString "obj") _], []⟩)) _ _ _
  refine k_get (by with_reducible assumption) hC hnd hmd hx ?_
  intro h1 k1 D1
  repeat (walk_at "lk")
  show wpAny _ _ (runValue (.builtin "proto.getattr_hooked" ⟨[.ref y, .str (Str.ofString "obj") _], []⟩)) _ _ _
  refine k_get (by with_reducible assumption) hC hnd hmd hy ?_
  intro h2 k2 D2
  repeat (walk_at "lk")
  show wpAny _ _ (call (.ref 21) [.str a _, .str b _] []) _ _ _
  refine strcoll_ok X₀ (by with_reducible assumption) ?_ ?_ ?_
  · dsimp only [Around.deeper, Around.in1, Around.mark]; lia
  · dsimp only [Around.deeper, Around.in1, Around.mark]; lia
  intro g u k3 h3 tk3' D3
  repeat (walk_at "lk")
  refine hop _ _ _ _ _ _ ?_
  repeat (walk_at "lk")
  exact hQ _ _ _ _ _ _ (by with_reducible assumption)
theorem k_lt {k : KD} {a b : Str} {ta tb : Tok} {x y dx dy : Addr} {news : List (Addr × Obj)}
  (X₀ : (Mine.hd.heap_1 w.params).In h₀) (K : KFacts w.params h₀ C k)
  (D : Me h₀ s.heap news)
  (hx : h₀.get? x = some { cls := .ref C, dict := some dx, slots := #[some (.str a ta)] }) (hy : h₀.get? y = some { cls := .ref C, dict := some dy, slots := #[some (.str b tb)] })
  (hdep : A.depth + 20 < recursionLimit) (hun : A.units + 80 < cLine)
  (hQ : ∀ f o g u h' tk', Me h₀ h' ((f, o) :: (g, u) :: news) → Q (.bool (decide (collI a b < 0))) { s with heap := h', toks := tk' }) :
  wpAny (model PR w) A (call (.ref k.fl) [.ref x, .ref y] []) Q E s := by
  obtain ⟨doc, pm, ctv, vs, tq, ed, hkk, ho, hv⟩ := K.F2
  rw [stK_lt] at ed
  exact k_cmp X₀ K.hC K.hnd K.hmd K.hfl K.hc2 K.hcell ed hkk ho hv (fun _ _ _ _ _ _ h => by refine PyProof.Rows.lt_int ?_; exact h) D hx hy hdep hun hQ
theorem k_gt {k : KD} {a b : Str} {ta tb : Tok} {x y dx dy : Addr} {news : List (Addr × Obj)}
  (X₀ : (Mine.hd.heap_1 w.params).In h₀) (K : KFacts w.params h₀ C k)
  (D : Me h₀ s.heap news)
  (hx : h₀.get? x = some { cls := .ref C, dict := some dx, slots := #[some (.str a ta)] }) (hy : h₀.get? y = some { cls := .ref C, dict := some dy, slots := #[some (.str b tb)] })
  (hdep : A.depth + 20 < recursionLimit) (hun : A.units + 80 < cLine)
  (hQ : ∀ f o g u h' tk', Me h₀ h' ((f, o) :: (g, u) :: news) → Q (.bool (decide (0 < collI a b))) { s with heap := h', toks := tk' }) :
  wpAny (model PR w) A (call (.ref k.fg) [.ref x, .ref y] []) Q E s := by
  obtain ⟨doc, pm, ctv, vs, tq, ed, hkk, ho, hv⟩ := K.F3
  rw [stK_gt] at ed
  exact k_cmp X₀ K.hC K.hnd K.hmd K.hfg K.hc3 K.hcell ed hkk ho hv (fun _ _ _ _ _ _ h => by refine PyProof.Rows.gt_int ?_; exact h) D hx hy hdep hun hQ
theorem k_eq {k : KD} {a b : Str} {ta tb : Tok} {x y dx dy : Addr} {news : List (Addr × Obj)}
  (X₀ : (Mine.hd.heap_1 w.params).In h₀) (K : KFacts w.params h₀ C k)
  (D : Me h₀ s.heap news)
  (hx : h₀.get? x = some { cls := .ref C, dict := some dx, slots := #[some (.str a ta)] }) (hy : h₀.get? y = some { cls := .ref C, dict := some dy, slots := #[some (.str b tb)] })
  (hdep : A.depth + 20 < recursionLimit) (hun : A.units + 80 < cLine)
  (hQ : ∀ f o g u h' tk', Me h₀ h' ((f, o) :: (g, u) :: news) → Q (.bool (collI a b == 0)) { s with heap := h', toks := tk' }) :
  wpAny (model PR w) A (call (.ref k.fe) [.ref x, .ref y] []) Q E s := by
  obtain ⟨doc, pm, ctv, vs, tq, ed, hkk, ho, hv⟩ := K.F4
  rw [stK_eq] at ed
  exact k_cmp X₀ K.hC K.hnd K.hmd K.hfe K.hc4 K.hcell ed hkk ho hv (fun _ _ _ _ _ _ h => by refine PyProof.Rows.eq_int ?_; exact h) D hx hy hdep hun hQ
end Mine
end
section -- Ko
open PySem PySem.W PySem.W.X PyProof.Rows PyProof.V PySem.Calls
namespace Mine
variable {w : World} {A : Around} {s : Shared} {Q : Value → Shared → Prop} {E : Value → Shared → Prop} {C : Addr}
theorem mro_object : mroOf (.type "object") = pure [.type "object"] := by rw [mroOf_type]; kernel_rfl
theorem obj_lt : typeLookup (.type "object") (Str.ofString "__lt__") = pure (some (.builtin "object.__lt__")) := by rw [typeLookup_type, builtinLookup_eq_fast]; kernel_rfl
theorem obj_gt : typeLookup (.type "object") (Str.ofString "__gt__") = pure (some (.builtin "object.__gt__")) := by rw [typeLookup_type, builtinLookup_eq_fast]; kernel_rfl
theorem obj_eq : typeLookup (.type "object") (Str.ofString "__eq__") = pure (some (.builtin "object.__eq__")) := by rw [typeLookup_type, builtinLookup_eq_fast]; kernel_rfl
noncomputable abbrev instK (C d : Addr) (a : Str) (ta : Tok) : Obj := { cls := .ref C, dict := some d, slots := #[some (.str a ta)] }
theorem k_own {h : Heap} {x d nd : Addr} {a : Str} {ta : Tok} {name : Str} {f : Addr} {fd : FuncData} {bt : Addr} {t u2 : Tok} {o : Obj} {es : Array DictEntry} {ep : Nat} {y : Option Value} (hx : h.get? x = some (instK C d a ta)) (hC : h.get? C = some (clsObj C nd (slK bt t u2))) (hnd : h.get? nd = some o) (hd : o.data = .dict es ep) (hk : StrKeys es)
    (hn : nsFind es name = some (.ref f)) (hf : h.get? f = some (fnObj fd)) (hB : typeLookup (.type "object") name = pure y) : h.OwnSpecial x C f "object" name :=
  ⟨_, _, _, _, _, _, _, _, _, _, _, _, _, _, _, _, _, _, _, fun n => nsFind es n, _, hx, rfl, hC, ⟨o, es, ep, hnd, hd, hk, fun _ => rfl⟩, hn, hf, rfl, mro_object, hB⟩
noncomputable def keyIsStr (e : DictEntry) : Bool := match e.key with | .str _ _ => true | _ => false
theorem strKeys_of {es : Array DictEntry} (h : es.toList.all keyIsStr = true) : StrKeys es := fun e he => by
  have z := List.all_eq_true.mp h e (by simpa using he)
  unfold keyIsStr at z
  split at z
  · rename_i n t q; exact ⟨n, t, q⟩
  · cases z
theorem kcmp_lt {x y dx dy : Addr} {a b : Str} {ta tb : Tok} (K : KAt w.params s.heap C) (hx : s.heap.get? x = some (instK C dx a ta)) (hy : s.heap.get? y = some (instK C dy b tb)) (hdep : A.depth + 20 < recursionLimit) (hun : A.units + 80 < cLine)
  (hQ : ∀ h' tk', Ext s.heap h' → Q (.bool (decide (collI a b < 0))) { s with heap := h', toks := tk' }) : wpAny (model PR w) A (richCompare .Lt (.ref x) (.ref y)) Q E s := by
  obtain ⟨X₀, k, KF⟩ := K
  refine richCompare_own_same (op := .Lt) (sym := "<") (f := Str.ofString "__lt__") (r := Str.ofString "__gt__") rfl (k_own hx KF.hC KF.hnd rfl (strKeys_of (by kernel_rfl!)) (by kernel_rfl!) KF.hfl obj_lt) hy rfl (by lia) ?_
  refine k_lt X₀ KF (Me.start _) hx hy hdep hun ?_
  intro f o g u h' tk' D
  exact ⟨_, rfl, hQ _ _ D.keep⟩
theorem kcmp_gt {x y dx dy : Addr} {a b : Str} {ta tb : Tok} (K : KAt w.params s.heap C) (hx : s.heap.get? x = some (instK C dx a ta)) (hy : s.heap.get? y = some (instK C dy b tb)) (hdep : A.depth + 20 < recursionLimit) (hun : A.units + 80 < cLine)
  (hQ : ∀ h' tk', Ext s.heap h' → Q (.bool (decide (0 < collI a b))) { s with heap := h', toks := tk' }) : wpAny (model PR w) A (richCompare .Gt (.ref x) (.ref y)) Q E s := by
  obtain ⟨X₀, k, KF⟩ := K
  refine richCompare_own_same (op := .Gt) (sym := ">") (f := Str.ofString "__gt__") (r := Str.ofString "__lt__") rfl (k_own hx KF.hC KF.hnd rfl (strKeys_of (by kernel_rfl!)) (by kernel_rfl!) KF.hfg obj_gt) hy rfl (by lia) ?_
  refine k_gt X₀ KF (Me.start _) hx hy hdep hun ?_
  intro f o g u h' tk' D
  exact ⟨_, rfl, hQ _ _ D.keep⟩
theorem kcmp_eq {x y dx dy : Addr} {a b : Str} {ta tb : Tok} (K : KAt w.params s.heap C) (hx : s.heap.get? x = some (instK C dx a ta)) (hy : s.heap.get? y = some (instK C dy b tb)) (hdep : A.depth + 20 < recursionLimit) (hun : A.units + 80 < cLine)
  (hQ : ∀ h' tk', Ext s.heap h' → Q (.bool (collI a b == 0)) { s with heap := h', toks := tk' }) : wpAny (model PR w) A (richCompare .Eq (.ref x) (.ref y)) Q E s := by
  obtain ⟨X₀, k, KF⟩ := K
  refine richCompare_own_same (op := .Eq) (sym := "==") (f := Str.ofString "__eq__") (r := Str.ofString "__eq__") rfl (k_own hx KF.hC KF.hnd rfl (strKeys_of (by kernel_rfl!)) (by kernel_rfl!) KF.hfe obj_eq) hy rfl (by lia) ?_
  refine k_eq X₀ KF (Me.start _) hx hy hdep hun ?_
  intro f o g u h' tk' D
  exact ⟨_, rfl, hQ _ _ D.keep⟩
end Mine
end
section -- Kt
open PySem PySem.W PySem.W.X PyProof.Rows PyProof.V PySem.Calls
namespace Mine
theorem setup_Kt_1 : True := by
  w_top off
  k_with_none
  k_with "at" => (first | with_reducible exact At.head | (with_reducible refine At.tail ?_; walk_at "at"))
  exact True.intro
theorem setup_Kt_2 : True := by
  k_with "mem" => (first | assumption | exact List.Mem.head _ | (refine List.mem_cons_of_mem _ ?_; k_mem))
  k_with "lk" => ((first
  | (with_reducible refine b_bind ?_; try walk_at "kf") | (with_reducible refine b_nd ?_; try walk_at "kf") | with_reducible refine wpAny_holding ?_ | (with_reducible refine b_tc ?_; try walk_at "kf") | with_reducible refine b_att ?_ | with_reducible refine b_or ?_
  | ((fail_if_success (with_reducible show wpAny _ _ (PySem.richCompare _ _ _) _ _ _)); (fail_if_success (with_reducible show wpAny _ _ (PySem.eqBool _ _) _ _ _)); (fail_if_success (with_reducible show wpAny _ _ (PySem.call _ _ _) _ _ _)); (fail_if_success (with_reducible show wpAny _ _ (PySem.runValue _) _ _ _)); (fail_if_success (with_reducible show wpAny _ _ (enterFrame _) _ _ _)); (fail_if_success (with_reducible show wpAny _ _ (forIn (List.drop _ _) _ _) _ _ _)); (fail_if_success (with_reducible show wpAny _ _ (PySem.run _ _) _ _ _)); first
    | with_reducible refine Looks.at (by assumption) ?_
    | ((with_reducible show wpAny _ _ (callMarked _ _ _ _) _ _ _); unfold callMarked; refine wpAny_keep ?_)
    | ((with_reducible show wpAny _ _ (collect _) _ _ _); k_dflt (refine' m_collect ?zzD ?zzhv ?zzhm ?zzhz ?_; (case zzD => assumption); (case zzhv => with_unfolding_all rfl); (case zzhm => k_mem); (case zzhz => exact Nat.le_of_ble_eq_true rfl)); intro _ _ _ _)
    | ((with_reducible show wpAny _ _ (Sem.load _ _ _) _ _ _); k_dflt (refine' m_load ?zzD ?zzhm ?_; (case zzD => with_reducible assumption); (case zzhm => k_mem)); try dsimp only)
    | ((with_reducible show wpAny _ _ (setSlotAt _ _ _) _ _ _); k_dflt (first | refine m_setSlot (j := 0) (by with_reducible assumption) rfl (Nat.lt_of_lt_of_le (by decide : _ < 100) (Nat.le_of_ble_eq_true rfl)) rfl ?_ | refine m_setSlot (j := 1) (by with_reducible assumption) rfl (Nat.lt_of_lt_of_le (by decide : _ < 100) (Nat.le_of_ble_eq_true rfl)) rfl ?_ | refine m_setSlot (j := 2) (by with_reducible assumption) rfl (Nat.lt_of_lt_of_le (by decide : _ < 100) (Nat.le_of_ble_eq_true rfl)) rfl ?_); intro _ Dn; dsimp only [List.set, setAt] at Dn; revert Dn; intro _)
    | ((with_reducible show wpAny _ _ (slotAt _ _) _ _ _); k_dflt (refine' m_slotAt ?zzD ?zzm ?zze ?_; (case zzD => with_reducible assumption); (case zzm => k_mem); (case zze => rfl)))
    | ((with_reducible show wpAny _ _ (updateCls _ _) _ _ _); k_dflt (first | refine m_updateCls (j := 0) (by with_reducible assumption) rfl rfl rfl ?_ | refine m_updateCls (j := 1) (by with_reducible assumption) rfl rfl rfl ?_ | refine m_updateCls (j := 2) (by with_reducible assumption) rfl rfl rfl ?_); intro _ Dn; dsimp only [List.set] at Dn; revert Dn; intro _)
    | ((with_reducible show wpAny _ _ (Sem.load _ _ _) _ _ _); k_dflt (refine' m_oldF ?zzD ?zzO ?_; (case zzD => with_reducible assumption); (case zzO => with_reducible assumption)); try dsimp only)
    | ((with_reducible show wpAny _ _ (Sem.load _ _ _) _ _ _); dsimp only)
    | ((with_reducible show wpAny _ _ (Sem.update _ _ _ _) _ _ _); dsimp only)
    | with_reducible refine m_arr ?_
    | with_reducible refine x_at ?_
    | ((with_reducible show wpAny _ _ (List.mapM.loop _ (Scope.freeNames _) _) _ _ _); generalize hfn : Scope.freeNames _ = fn; (first | (have hf2 : fn = [] := hfn.symm.trans (by kernel_rfl!); clear hfn; subst hf2) | (have hf2 : fn = [Str.ofString "mycmp"] := hfn.symm.trans (by kernel_rfl!); clear hfn; subst hf2)))
    | ((with_reducible show wpAny _ _ (Sem.load _ _ _) _ _ _); k_dflt (refine' m_old ?zzD ?zzX ?zzl ?_; (case zzD => with_reducible assumption); (case zzX => with_reducible assumption); (case zzl => k_is)); try dsimp only)
    | (with_reducible refine m_alloc (by assumption) rfl ?_; intro _ _ _; try dsimp only)
    | ((with_reducible show wpAny _ _ (Sem.update _ _ _ _) _ _ _); k_dflt (first | refine m_update (i := 0) (by with_reducible assumption) rfl rfl ?_ | refine m_update (i := 1) (by with_reducible assumption) rfl rfl ?_); intro _ Dn; dsimp only [List.set] at Dn; revert Dn; intro _)
    | ((with_reducible show wpAny _ _ (compareOp .Gt (.int _ _) (.int _ _)) _ _ _); refine PyProof.Rows.gt_int ?_)
    | ((with_reducible show wpAny _ _ (compareOp .Lt (.int _ _) (.int _ _)) _ _ _); refine PyProof.Rows.lt_int ?_)
    | ((with_reducible show wpAny _ _ (compareOp .Eq (.int _ _) (.int _ _)) _ _ _); refine PyProof.Rows.eq_int ?_)
    | ((with_reducible show wpAny _ _ (compareOp .Gt (.str _ _) (.str _ _)) _ _ _); refine P.gt_str ?_)
    | ((with_reducible show wpAny _ _ (compareOp .Lt (.str _ _) (.str _ _)) _ _ _); refine P.lt_str ?_)
    | ((with_reducible show wpAny _ _ (binaryOp .Sub (.bool _) (.bool _)) _ _ _); refine sub_bool ?_)
    | k_node
    | with_reducible refine m_ifF' (by kernel_rfl!) ?_
    | with_reducible refine m_ifT' (by kernel_rfl!) ?_)))
  exact True.intro
variable {w : World} {A : Around} {s : Shared} {C : Addr} {E : Value → Shared → Prop}
theorem Me.ofExt {h h' : Heap} (e : Ext h h') : Me h h' [] := ⟨e, fun _ hp => (nomatch hp), List.nodup_nil⟩
theorem collI_self (a : Str) : collI a a = 0 := by unfold collI; lia
theorem eqBool_K {Q : Bool → Shared → Prop} {x y dx dy : Addr} {a b : Str} {ta tb : Tok} (K : KAt w.params s.heap C) (hx : s.heap.get? x = some (instK C dx a ta)) (hy : s.heap.get? y = some (instK C dy b tb)) (hdep : A.depth + 20 < recursionLimit) (hun : A.units + 80 < cLine)
  (hQ : ∀ h' tk', Ext s.heap h' → Q (collI a b == 0) { s with heap := h', toks := tk' }) : wpAny (model PR w) A (eqBool (.ref x) (.ref y)) Q E s := by
  unfold eqBool
  refine wpAny_holding ?_
  by_cases e : x = y
  · subst e
    rw [hx] at hy
    have ea : a = b := by injection hy with h; injection h with _ _ _ h; simp at h; exact h.1
    subst ea
    rw [if_pos (by simp)]
    refine wpAny_bind (wpAny_rule (wpAny_pure ?_))
    have := hQ s.heap s.toks Ext.rfl
    rwa [collI_self] at this
  · rw [if_neg (by simpa using e)]
    refine wpAny_bind (kcmp_eq K hx hy hdep hun fun h' tk' e => ?_)
    have z := hQ h' tk' e
    generalize (collI a b == 0) = r at z ⊢
    have D := Me.start h'
    cases r
    · repeat (walk_at "lk")
      exact z
    · repeat (walk_at "lk")
      exact z
theorem KAt.ext {P : Params} {h h' : Heap} {C : Addr} (K : KAt P h C) (e : Ext h h') : KAt P h' C := by
  obtain ⟨X₀, k, F⟩ := K
  exact ⟨fun a o x => e a o (X₀ a o x), k, e _ _ F.hC, e _ _ F.hnd, e _ _ F.hmd, e _ _ F.hfi, e _ _ F.hc1, e _ _ F.hfl, e _ _ F.hc2, e _ _ F.hfg, e _ _ F.hc3, e _ _ F.hfe, e _ _ F.hc4, e _ _ F.hcell, F.F1, F.F2, F.F3, F.F4⟩
noncomputable abbrev tup3 (x : Addr) (i : Int) (ti : Tok) (a : Str) (ta : Tok) (n : Nat) : Obj := { cls := .type "tuple", data := .seq #[.ref x, .int i ti, .str a ta] n }
/-- the order of the tuples (K(a), i, a') -/
noncomputable def tlt (a : Str) (i : Int) (a' : Str) (b : Str) (j : Int) (b' : Str) : Bool :=
  if (collI a b == 0) = true then (if (i == j) = true then (if (a' == b') = true then false else decide (a'.cps.toList < b'.cps.toList)) else decide (i < j)) else decide (collI a b < 0)
theorem tup_lt {Q : Value → Shared → Prop} {p q x y dx dy : Addr} {a a' b b' : Str} {ta tb ta' tb' ti tj : Tok} {i j : Int} {np nq : Nat} (K : KAt w.params s.heap C) (hp : s.heap.get? p = some (tup3 x i ti a' ta' np)) (hq : s.heap.get? q = some (tup3 y j tj b' tb' nq))
  (hx : s.heap.get? x = some (instK C dx a ta)) (hy : s.heap.get? y = some (instK C dy b tb)) (hdep : A.depth + 30 < recursionLimit) (hun : A.units + 100 < cLine)
  (hQ : ∀ h' tk', Ext s.heap h' → Q (.bool (tlt a i a' b j b')) { s with heap := h', toks := tk' }) : wpAny (model PR w) A (compareOp .Lt (.ref p) (.ref q)) Q E s := by
  have D := Me.start s.heap
  refine cmp_ofLt (wpAny_richCompare_same_room (T := "tuple") ⟨_, hp, rfl⟩ ⟨_, hq, rfl⟩ PySem.F.slot_tuple_lt ?_ (by lia))
  refine wpAny_call_entry (name := (cmpInfo .Lt).2.1) PySem.F.slot_tuple_lt ⟨_, hp, rfl⟩ PySem.F.entry_tuple_lt ?_ (PySem.F.args_tuple_lt_2 _ _)
  unfold Builtin.«tuple.__lt__»
  repeat (walk_at "lk")
  refine eqBool_K K hx hy (by dsimp only [Around.deeper, Around.in1, Around.mark]; lia) (by dsimp only [Around.deeper, Around.in1, Around.mark]; lia) ?_
  intro h1 k1 e1
  have D1 := Me.ofExt e1
  clear D
  unfold tlt at hQ
  cases hc : (collI a b == 0)
  · rw [hc, if_neg (by decide)] at hQ
    repeat (walk_at "lk")
    refine kcmp_lt (K.ext e1) (e1 _ _ hx) (e1 _ _ hy) (by dsimp only [Around.deeper, Around.in1, Around.mark]; lia) (by dsimp only [Around.deeper, Around.in1, Around.mark]; lia) ?_
    intro h2 k2 e2
    have D2 := Me.ofExt (e1.trans e2)
    clear D1
    repeat (walk_at "lk")
    exact ⟨_, rfl, fun e => (by cases e), hQ _ _ (e1.trans e2)⟩
  · rw [hc, if_pos rfl] at hQ
    repeat (walk_at "lk")
    refine wpAny_eqBool_int ?_
    cases hi : (i == j)
    · rw [hi, if_neg (by decide)] at hQ
      repeat (walk_at "lk")
      refine PyProof.Rows.lt_int ?_
      repeat (walk_at "lk")
      exact ⟨_, rfl, fun e => (by cases e), hQ _ _ e1⟩
    · rw [hi, if_pos rfl] at hQ
      repeat (walk_at "lk")
      refine PyProof.Rows.eqBool_str ?_
      cases hs : (a' == b')
      · rw [hs, if_neg (by decide)] at hQ
        repeat (walk_at "lk")
        refine P.lt_str ?_
        repeat (walk_at "lk")
        exact ⟨_, rfl, fun e => (by cases e), hQ _ _ e1⟩
      · rw [hs, if_pos rfl] at hQ
        repeat (walk_at "lk")
        exact ⟨_, rfl, fun e => (by cases e), hQ _ _ e1⟩
end Mine
end
section -- Or
open PySem PySem.W PyProof.Rows
namespace Mine
/-- the order of the texts -/
noncomputable def strLt (a b : Str) : Bool := decide (a.cps.toList < b.cps.toList)
theorem str_ext {a b : Str} (h : a.cps.toList = b.cps.toList) : a = b := str_of_list h
theorem strLt_tot : TotLt strLt where
  irr a := by simp [strLt, List.lt_irrefl]
  tr a b c h1 h2 := by
    simp only [strLt, decide_eq_false_iff_not, List.not_lt] at h1 h2 ⊢
    exact List.le_trans h1 h2
  asy a b h := by
    simp only [strLt, decide_eq_true_eq, decide_eq_false_iff_not] at h ⊢
    exact List.lt_asymm h
  anti a b h1 h2 := by
    simp only [strLt, decide_eq_false_iff_not, List.not_lt] at h1 h2
    exact str_ext (List.le_antisymm h2 h1)
theorem str_nb {a b : Str} (h1 : decide (a.cps.toList < b.cps.toList) = true) : decide (b.cps.toList < a.cps.toList) = false := strLt_tot.asy a b h1
theorem collI_lt (a b : Str) : decide (collI a b < 0) = strLt a b := by
  unfold collI strLt
  cases e1 : decide (a.cps.toList < b.cps.toList)
  · cases e2 : decide (b.cps.toList < a.cps.toList) <;> rfl
  · rw [str_nb e1]; rfl
theorem collI_gt (a b : Str) : decide (0 < collI a b) = strLt b a := by
  unfold collI strLt
  cases e1 : decide (a.cps.toList < b.cps.toList)
  · cases e2 : decide (b.cps.toList < a.cps.toList) <;> rfl
  · rw [str_nb e1]; rfl
theorem collI_eq (a b : Str) : (collI a b == 0) = decide (a = b) := by
  by_cases e : a = b
  · subst e; rw [collI_self]; simp
  · rw [decide_eq_false e]
    have h2 := strLt_tot.anti a b
    unfold collI strLt at *
    cases e1 : decide (a.cps.toList < b.cps.toList)
    · cases e2 : decide (b.cps.toList < a.cps.toList)
      · exact absurd (h2 e1 e2) e
      · rfl
    · rw [str_nb e1]; rfl
/-- the order of the pairs (text, place) -/
noncomputable def tl (p q : Str × Int) : Bool := if p.1 = q.1 then decide (p.2 < q.2) else strLt p.1 q.1
theorem tlt_tl (a b : Str) (i j : Int) : tlt a i a b j b = tl (a, i) (b, j) := by
  unfold tlt tl
  rw [collI_eq, collI_lt]
  by_cases e : a = b
  · subst e
    by_cases h : i = j
    · subst h; simp
    · simp [h]
  · simp [e]
theorem tl_tot : TotLt tl where
  irr p := by simp [tl]
  tr p q r h1 h2 := by
    unfold tl at *
    by_cases e1 : q.1 = p.1 <;> by_cases e2 : r.1 = q.1
    · simp_all; lia
    · have : ¬ r.1 = p.1 := fun z => e2 (z.trans e1.symm)
      simp_all
    · have : ¬ r.1 = p.1 := fun z => e1 (e2 ▸ z)
      simp_all
    · by_cases e3 : r.1 = p.1
      · have : q.1 = p.1 := strLt_tot.anti _ _ (by simpa [e1] using h1) (by have z := h2; simp only [e2, if_false] at z; rwa [e3] at z)
        exact absurd this e1
      · simp only [e1, e2, e3, if_false] at *
        exact strLt_tot.tr _ _ _ h1 h2
  asy p q h := by
    unfold tl at *
    by_cases e : p.1 = q.1
    · simp_all; lia
    · have : ¬ q.1 = p.1 := fun z => e z.symm
      simp only [e, this, if_false] at *
      exact strLt_tot.asy _ _ h
  anti p q h1 h2 := by
    by_cases e : p.1 = q.1
    · unfold tl at h1 h2
      rw [if_pos e] at h1
      rw [if_pos e.symm] at h2
      simp only [decide_eq_false_iff_not] at h1 h2
      exact Prod.ext e (by lia)
    · unfold tl at h1 h2
      rw [if_neg e] at h1
      rw [if_neg (fun z => e z.symm)] at h2
      exact absurd (strLt_tot.anti _ _ h1 h2) e
end Mine
end
section -- Sp
open PySem PySem.W PySem.W.X PyProof.Rows PyProof.V PySem.Calls
namespace Mine
/-- the text of a value -/
noncomputable def strOf : Value → Str
  | .str a _ => a
  | _ => default
/-- how the keys of a key function compare in a sort -/
def OrdOk (w : World) (news : List (Addr × Obj)) (KV : List (Addr × Obj) → Value → Str → Prop) (d u : Nat) : Prop :=
  ∀ (nw : List (Addr × Obj)) (A : Around) (s : Shared) (x y : Value) (a b : Str) (C : Bool → Shared → Prop), Has w news s.heap → (∀ q ∈ nw, s.heap.get? q.1 = some q.2) → KV nw x a → KV nw y b → A.depth + d < recursionLimit → A.units + u < cLine →
    (∀ h' tk', Ext s.heap h' → C (strLt a b) { s with heap := h', toks := tk' }) → wpAny (model PR w) A (keyLt' oneType' x y) C (fun _ _ => False) s
structure KeyFn (w : World) (P : Heap → Prop) (news : List (Addr × Obj)) (f : Value) (KV : List (Addr × Obj) → Value → Str → Prop) (T : Value) (d u : Nat) : Prop where
  call : KeyOk w P news f KV d u
  mono : ∀ tl tl' k a, (∀ q ∈ tl, q ∈ tl') → KV tl k a → KV tl' k a
  ord : OrdOk w news KV d u
  ty : ∀ nw (h : Heap) k a, (∀ q ∈ nw, h.get? q.1 = some q.2) → KV nw k a → Looks (model PR w) h (typeOf k) T
  t1 : (T != Value.type "tuple") = true
  t2 : (T == T) = true
section
variable {w : World} {A : Around} {E : Value → Shared → Prop} {s : Shared} {g : Heap} {L l : Addr} {m : Str → Option Value} {nw news : List (Addr × Obj)} {vs : List Value} {ts : List Str} {f T : Value} {KV : List (Addr × Obj) → Value → Str → Prop} {d u : Nat} {kw : List (Str × Value)} {Q : Value → Shared → Prop}
theorem sortedK_ok {P : Heap → Prop} (H : KeyFn w P news f KV T d u) (hP : P g) (hPm : ∀ h h', Ext h h' → P h → P h') (hh : A.handled = none) (hsm : ∀ a ∈ ts, a.cps.size ≤ 100) (F : Fr g L s.heap m) (X : (Mine.hd.heap_1 w.params).In g) (N : News g L s.heap nw) (hs : ∀ q ∈ news, q ∈ nw) (hl : s.heap.IsList l vs.toArray) (hlen : vs.length = ts.length) (hv : ∀ i, i < ts.length → ∃ t, vs.getD i .none = .str (ts.getD i default) t)
    (h2 : 2 ≤ ts.length) (h64 : ts.length < 64) (ha1 : argsOk "sorted" ⟨[.ref l], kw⟩) (ha2 : ∀ x, argsOk "list.sort" ⟨[.ref x], kw⟩) (ht : ∀ x, Builtin.«list.sort» ⟨[.ref x], kw⟩ = ksk_tree x f false) (hd : A.depth + d < recursionLimit) (hu : A.units + 2 + u < cLine)
    (hQ : ∀ (D : Addr) (out : List Value) c h' tk', out.Perm vs → (out.Pairwise fun a b => strLt (strOf b) (strOf a) = false) → Fr g L h' m → News g L h' ((D, listOf out.toArray c) :: nw) → (∀ q ∈ nw, q.1 < D) → Q (.ref D) { s with heap := h', toks := tk' }) :
    wpAny (model PR w) A (call (.builtin "sorted") [.ref l] kw) Q E s := by
  refine kat_sortedK F N hl (by lia) (by lia) ha1 ha2 ht fun D kS e1 h' F1 N1 hDk hnD => ?_
  refine keys_ok (A := A.in1.in1) H.call hP hPm hh H.mono X (by dsimp only [Around.in1]; lia) (by dsimp only [Around.in1]; lia) ts [] vs [] 0 _ ((D, seqObj "list" #[] e1) :: nw) hlen hsm hv rfl (fun i hi => absurd hi (Nat.not_lt_zero _)) F1 N1 (fun q hq => ?_) (fun q hq => .tail _ (hs q hq)) fun ks' e' h2' tk' nw' a1 a2 a3 F2 N2 hn2 => ?_
  · rcases List.mem_cons.mp hq with rfl | hq
    · exact Nat.ne_of_lt hDk
    · exact Nat.ne_of_lt (Nat.lt_trans (hnD q hq) hDk)
  · rw [List.nil_append] at a1 a2
    refine kas_kind (T := T) (by lia) (fun v hv' => ?_) H.t1 H.t2 ?_
    · obtain ⟨i, hi, rfl⟩ := List.mem_iff_getElem.mp hv'
      have z := a2 i (by lia)
      rw [List.getD_eq_getElem?_getD, List.getElem?_eq_getElem hi] at z
      exact H.ty nw' _ _ _ (fun q hq => (N2 q (.tail _ hq)).1) z
    · show (kas_sort vs.length).kasWp (kas_ask PR w A.in1.in1 oneType' ks') (fun p s3 => KatFin g L m kS D ks' e' e1 (p.toList.map fun i => vs.getD i Value.none) (fun s4 => Q (.ref D) s4) s3) _
      refine tree_ok strLt_tot (key := fun i => ts.getD i default) (by lia) F2 N2 (fun i j C h tk hi hj F3 N3 hC => ?_) fun p h3 tk3 hp hi F3 N3 => ?_
      · exact H.ord nw' _ _ _ _ (ts.getD i default) (ts.getD j default) C (.of F3 X N3 fun q hq => .tail _ (a3 q (.tail _ (hs q hq)))) (fun q hq => (N3 q (.tail _ hq)).1) (a2 i (by lia)) (a2 j (by lia)) (by dsimp only [Around.in1]; lia) (by dsimp only [Around.in1]; lia) hC
      · refine KatFin.intro F3 N3 (.head hn2) fun h4 c F4 N4 => ?_
        refine KasFin.intro (news := (D, seqObj "list" #[] e1) :: nw) F4 (fun q hq => N4 q (.tail _ (a3 q hq))) (.head fun q hq => Nat.ne_of_lt (hnD q hq)) fun h5 c5 F5 N5 => ?_
        refine hQ D _ c5 h5 tk3 (out_perm rfl hp) ?_ F5 N5 hnD
        refine out_sorted (key := fun i => ts.getD i default) hp (fun i hi => ?_) hi
        obtain ⟨t, e⟩ := hv i (by lia)
        rw [e]; rfl
end
end Mine
end
section -- Kn
open PySem PySem.W PySem.W.X PyProof.Rows PyProof.V PySem.Calls
namespace Mine
variable {w : World} {A : Around} {s : Shared} {Q : Value → Shared → Prop} {E : Value → Shared → Prop} {h₀ : Heap} {C : Addr}
theorem setup_Kn_1 : True := by
  w_top off
  k_with_none
  k_with "close" => (first | exact hQ _ _ _ _ (Me.trans Dm (Me.of (by assumption))))
  exact True.intro
theorem k_objnew {a : Str} {ta : Tok} {nd md : Addr} {bt : Addr} {t u2 : Tok} {t1 u1 t3 : Tok} {n : Int} {u3 t4 : Tok} {sl : Addr} {t5 t6 : Tok} {fi fl : Addr} {t7 : Tok} {fg : Addr} {t8 : Tok} {fe : Addr} {t9 : Tok} {fle : Addr} {t10 : Tok} {fge : Addr} {t11 t12 : Tok} {st : Addr} {tk2 tk3 : Tok} {news : List (Addr × Obj)}
  (Dm : Me h₀ s.heap news) (hC : h₀.get? C = some (clsObj C nd (slK bt t u2))) (hnd : h₀.get? nd = some (nsObj w.params t1 u1 t3 n u3 t4 sl t5 fi t6 fl t7 fg t8 fe t9 fle t10 fge t11 t12 st tk2 md tk3))
  (hQ : ∀ x d h' tk', Me h₀ h' ((x, { cls := .ref C, dict := some d }) :: (d, { cls := .type "dict", data := .dict #[] 0 }) :: news) → Q (.ref x) { s with heap := h', toks := tk' }) :
  wpAny (model PR w) A (call (.builtin "object.__new__") [.ref C, .str a ta] []) Q E s := by
  replace hC := Dm.keep _ _ hC
  replace hnd := Dm.keep _ _ hnd
  unfold clsObj slK at hC
  unfold nsObj kEnt at hnd
  x_run
end Mine
end
section -- Kp
open PySem PySem.W PySem.W.X PyProof.Rows PyProof.V PySem.Calls
namespace Mine
theorem setup_Kp_1 : True := by
  w_top off
  k_with_none
  k_with "at" => (first | with_reducible exact At.head | (with_reducible refine At.tail ?_; walk_at "at"))
  exact True.intro
theorem setup_Kp_2 : True := by
  k_with "mem" => (first | assumption | exact List.Mem.head _ | (refine List.mem_cons_of_mem _ ?_; k_mem))
  k_with "lk" => ((first
  | (with_reducible refine b_bind ?_; try walk_at "kf") | (with_reducible refine b_nd ?_; try walk_at "kf") | with_reducible refine wpAny_holding ?_ | (with_reducible refine b_tc ?_; try walk_at "kf") | with_reducible refine b_att ?_ | with_reducible refine b_or ?_
  | ((fail_if_success (with_reducible show wpAny _ _ (PySem.call _ _ _) _ _ _)); (fail_if_success (with_reducible show wpAny _ _ (PySem.runValue _) _ _ _)); (fail_if_success (with_reducible show wpAny _ _ (enterFrame _) _ _ _)); (fail_if_success (with_reducible show wpAny _ _ (forIn (List.drop _ _) _ _) _ _ _)); (fail_if_success (with_reducible show wpAny _ _ (PySem.run _ _) _ _ _)); first
    | with_reducible refine Looks.at (by assumption) ?_
    | ((with_reducible show wpAny _ _ (collect _) _ _ _); k_dflt (refine' m_collect ?zzD ?zzhv ?zzhm ?zzhz ?_; (case zzD => assumption); (case zzhv => with_unfolding_all rfl); (case zzhm => k_mem); (case zzhz => exact Nat.le_of_ble_eq_true rfl)); intro _ _ _ _)
    | ((with_reducible show wpAny _ _ (Sem.load _ _ _) _ _ _); k_dflt (refine' m_load ?zzD ?zzhm ?_; (case zzD => with_reducible assumption); (case zzhm => k_mem)); try dsimp only)
    | ((with_reducible show wpAny _ _ (setSlotAt _ _ _) _ _ _); k_dflt (first | refine m_setSlot (j := 0) (by with_reducible assumption) rfl (Nat.lt_of_lt_of_le (by decide : _ < 100) (Nat.le_of_ble_eq_true rfl)) rfl ?_ | refine m_setSlot (j := 1) (by with_reducible assumption) rfl (Nat.lt_of_lt_of_le (by decide : _ < 100) (Nat.le_of_ble_eq_true rfl)) rfl ?_ | refine m_setSlot (j := 2) (by with_reducible assumption) rfl (Nat.lt_of_lt_of_le (by decide : _ < 100) (Nat.le_of_ble_eq_true rfl)) rfl ?_); intro _ Dn; dsimp only [List.set, setAt] at Dn; revert Dn; intro _)
    | ((with_reducible show wpAny _ _ (slotAt _ _) _ _ _); k_dflt (refine' m_slotAt ?zzD ?zzm ?zze ?_; (case zzD => with_reducible assumption); (case zzm => k_mem); (case zze => rfl)))
    | ((with_reducible show wpAny _ _ (updateCls _ _) _ _ _); k_dflt (first | refine m_updateCls (j := 0) (by with_reducible assumption) rfl rfl rfl ?_ | refine m_updateCls (j := 1) (by with_reducible assumption) rfl rfl rfl ?_ | refine m_updateCls (j := 2) (by with_reducible assumption) rfl rfl rfl ?_); intro _ Dn; dsimp only [List.set] at Dn; revert Dn; intro _)
    | ((with_reducible show wpAny _ _ (Sem.load _ _ _) _ _ _); k_dflt (refine' m_oldF ?zzD ?zzO ?_; (case zzD => with_reducible assumption); (case zzO => with_reducible assumption)); try dsimp only)
    | ((with_reducible show wpAny _ _ (Sem.load _ _ _) _ _ _); dsimp only)
    | ((with_reducible show wpAny _ _ (Sem.update _ _ _ _) _ _ _); dsimp only)
    | with_reducible refine m_arr ?_
    | with_reducible refine x_at ?_
    | ((with_reducible show wpAny _ _ (List.mapM.loop _ (Scope.freeNames _) _) _ _ _); generalize hfn : Scope.freeNames _ = fn; (first | (have hf2 : fn = [] := hfn.symm.trans (by kernel_rfl!); clear hfn; subst hf2) | (have hf2 : fn = [Str.ofString "mycmp"] := hfn.symm.trans (by kernel_rfl!); clear hfn; subst hf2)))
    | ((with_reducible show wpAny _ _ (Sem.load _ _ _) _ _ _); k_dflt (refine' m_old ?zzD ?zzX ?zzl ?_; (case zzD => with_reducible assumption); (case zzX => with_reducible assumption); (case zzl => k_is)); try dsimp only)
    | (with_reducible refine m_alloc (by assumption) rfl ?_; intro _ _ _; try dsimp only)
    | ((with_reducible show wpAny _ _ (Sem.update _ _ _ _) _ _ _); k_dflt (first | refine m_update (i := 0) (by with_reducible assumption) rfl rfl ?_ | refine m_update (i := 1) (by with_reducible assumption) rfl rfl ?_); intro _ Dn; dsimp only [List.set] at Dn; revert Dn; intro _)
    | k_node
    | with_reducible refine m_ifF' (by kernel_rfl!) ?_
    | with_reducible refine m_ifT' (by kernel_rfl!) ?_)))
  exact True.intro
variable {w : World} {A : Around} {s : Shared} {Q : Value → Shared → Prop} {E : Value → Shared → Prop} {h₀ : Heap} {C : Addr}
theorem code_lit {o : Obj} {vs : Array Value} {v : Value} (hc : o.cls = .type "code") (h : o.data = .fields vs) (hv : vs[1]? = some v) : ∃ d x r sl, o = ⟨.type "code", d, .fields ⟨x :: v :: r⟩, sl⟩ := by
  obtain ⟨c, d, dt, sl⟩ := o
  obtain ⟨l⟩ := vs
  subst h
  subst hc
  match l, hv with
  | [], hv => simp at hv
  | [_], hv => simp at hv
  | x :: y :: r, hv => simp at hv; subst hv; exact ⟨d, x, r, sl, rfl⟩
theorem k_new {a : Str} {ta : Tok} {news : List (Addr × Obj)} (K : KAt w.params h₀ C) (D : Me h₀ s.heap news) (hdep : A.depth + 30 < recursionLimit) (hun : A.units + 90 < cLine)
  (hQ : ∀ x d f o h' tk', Me h₀ h' ((f, o) :: (x, { cls := .ref C, dict := some d, slots := #[some (.str a ta)] }) :: (d, { cls := .type "dict", data := .dict #[] 0 }) :: news) → Q (.ref x) { s with heap := h', toks := tk' }) :
  wpAny (model PR w) A (call (.ref C) [.str a ta] []) Q E s := by
  obtain ⟨X₀, k, K⟩ := K
  have hC := K.hC
  have hnd := K.hnd
  have hmd := K.hmd
  have hfi := K.hfi
  have hc1 := K.hc1
  refine wpAny_call ?_
  refine codeAny_of_tree ?_
  repeat (walk_at "lk")
  refine ⟨by kernel_rfl!, ?_⟩
  show codeAny _ _ (Code.call (.builtin "type.__call__") ⟨[.ref C, .str a ta], []⟩) _ _
  refine codeAny_of_tree ?_
  repeat (walk_at "lk")
  refine ⟨by kernel_rfl!, ?_⟩
  refine codeAny_builtin entry_tc ?_
  unfold Builtin.«type.__call__»
  repeat (walk_at "lk")
  show wpAny _ _ (call (.builtin "object.__new__") [.ref C, .str a ta] []) _ _ _
  refine k_objnew (by with_reducible assumption) hC hnd ?_
  intro x d h1 tk1' D1
  repeat (walk_at "lk")
  (first
  | (generalize hcc : List.contains (α := Value) _ _ = b; obtain rfl : b = true := hcc.symm.trans (by simp); clear hcc)
  | skip)
  repeat (walk_at "lk")
  show wpAny _ _ (call (.ref k.fi) [.ref x, .str a ta] []) _ _ _
  refine k_init X₀ K (by with_reducible assumption) ?_ ?_ ?_
  · have e : Code.weight (.builtin "type.__call__" ⟨[.ref C, .str a ta], []⟩) ≤ 2 := by first | (rw [show Code.weight (.builtin "type.__call__" ⟨[.ref C, .str a ta], []⟩) = 0 from by kernel_rfl!]; decide) | (rw [show Code.weight (.builtin "type.__call__" ⟨[.ref C, .str a ta], []⟩) = 1 from by kernel_rfl!]; decide)
    show A.depth + Code.weight (.builtin "type.__call__" ⟨[.ref C, .str a ta], []⟩) + 20 < _
    lia
  · have e : Code.cUnits (.builtin "type.__call__" ⟨[.ref C, .str a ta], []⟩) ≤ 3 := by first | (rw [show Code.cUnits (.builtin "type.__call__" ⟨[.ref C, .str a ta], []⟩) = 0 from by kernel_rfl!]; decide) | (rw [show Code.cUnits (.builtin "type.__call__" ⟨[.ref C, .str a ta], []⟩) = 1 from by kernel_rfl!]; decide)
    show A.units + Code.cUnits (.builtin "type.__call__" ⟨[.ref C, .str a ta], []⟩) + 80 < _
    lia
  intro y o h2 tk2' D2
  repeat (walk_at "lk")
  exact hQ _ _ _ _ _ _ (by with_reducible assumption)
end Mine
end
section -- Pr
open PySem PySem.W PySem.W.X PyProof.Rows PyProof.V PySem.Calls
namespace Mine
variable {prog : Program} {w : World} {A : Around} {s : Shared} {Q : Value → Shared → Prop} {E : Value → Shared → Prop} {h₀ : Heap} {news : List (Addr × Obj)}
noncomputable abbrev preObj : Obj := { cls := .type "builtin_function_or_method", data := .fields #[.builtin "type.__prepare__", .type "type"] }
theorem setup_Pr_1 : True := by
  w_top off
  k_with_none
  k_with "close" => (first | exact hQ _ _ _ (Me.trans Dm (Me.of (by assumption))))
  exact True.intro
theorem prep1 {tk : Tok} (Dm : Me h₀ s.heap news) (h2 : s.heap.get? 2 = some { cls := .none, data := .dict #[] 0 }) (hdep : A.depth + 20 < recursionLimit) (hun : A.units + 100 < cLine)
  (hQ : ∀ b h' tk', Me h₀ h' ((b, preObj) :: news) → Q (.ref b) { s with heap := h', toks := tk' }) :
  wpAny (model prog w) A (call (.builtin "type.__getattribute__") [.type "type", .str (Str.ofString "__prepare__") tk] []) Q E s := by
  x_run
theorem prep2 {b bt : Addr} {t : Tok} (Dm : Me h₀ s.heap news) (hb : (b, preObj) ∈ news) (h2 : s.heap.get? 2 = some { cls := .none, data := .dict #[] 0 })
  (hQ : ∀ b h' tk', b ≠ 1 → Me h₀ h' ((b, { cls := .type "dict", data := .dict #[] 0 }) :: news) → Q (.ref b) { s with heap := h', toks := tk' }) :
  wpAny (model prog w) A (call (.ref b) [.str (Str.ofString "K") t, .ref bt] []) Q E s := by
  have hb1 := Dm.get hb
  have hz : @Ne Nat s.heap.objs.size 1 := Nat.ne_of_gt (Nat.lt_trans (by decide) (Heap.lt_size h2))
  refine wpAny_call ?_
  refine codeAny_of_tree ?_
  repeat (first | lk | refine nd_load hb1 ?_)
  refine ⟨by kernel_rfl!, ?_⟩
  refine codeAny_builtin (show entryFor table "type.__prepare__" = some Builtin.«type.__prepare__» from entryFor_of_fast (by kernel_rfl)) ?_
  unfold Builtin.«type.__prepare__»
  repeat lk
  exact hQ _ _ _ hz (Dm.alloc rfl)
end Mine
end
section -- Bc
open PySem PySem.W PySem.W.X PyProof.Rows PyProof.V PySem.Calls
namespace Mine
theorem setup_Bc_1 : True := by
  w_top off
  k_with_none
  k_with "at" => (first | with_reducible exact At.head | (with_reducible apply At.tail; walk_at "at"))
  exact True.intro
theorem setup_Bc_2 : True := by
  k_with "mem" => (first | assumption | exact List.Mem.head _ | (refine List.mem_cons_of_mem _ ?_; k_mem))
  k_with "lk" => (((fail_if_success (with_reducible show wpAny _ _ (PySem.call _ _ _) _ _ _)); (fail_if_success (with_reducible show wpAny _ _ (PySem.runValue _) _ _ _)); (fail_if_success (with_reducible show wpAny _ _ (enterFrame _) _ _ _)); (fail_if_success (with_reducible show wpAny _ _ (forIn (List.drop _ _) _ _) _ _ _)); (fail_if_success (with_reducible show wpAny _ _ (PySem.run _ _) _ _ _)); first
  | with_reducible refine Looks.at (by assumption) ?_
  | ((with_reducible show wpAny _ _ (nsGet _ _) _ _ _); k_dflt (refine' m_ns0 ?zzD ?zzb ?zze ?_; (case zzD => with_reducible assumption); (case zzb => with_reducible assumption); (case zze => with_reducible assumption)))
  | (with_reducible refine b_bind ?_; try walk_at "kf") | (with_reducible refine b_nd ?_; try walk_at "kf") | with_reducible refine wpAny_holding ?_ | (with_reducible refine b_tc ?_; try walk_at "kf") | with_reducible refine b_att ?_ | with_reducible refine b_or ?_
  | ((with_reducible show wpAny _ _ (collect _) _ _ _); k_dflt (refine' m_collect ?zzD ?zzhv ?zzhm ?zzhz ?_; (case zzD => assumption); (case zzhv => with_unfolding_all rfl); (case zzhm => k_mem); (case zzhz => exact Nat.le_of_ble_eq_true rfl)); intro _ _ _ _)
  | ((with_reducible show wpAny _ _ (Sem.load _ _ _) _ _ _); k_dflt (refine' m_load ?zzD ?zzhm ?_; (case zzD => with_reducible assumption); (case zzhm => k_mem)); try dsimp only)
  | ((with_reducible show wpAny _ _ (setSlotAt _ _ _) _ _ _); k_dflt (first | refine m_setSlot (j := 0) (by with_reducible assumption) rfl (Nat.lt_of_lt_of_le (by decide : _ < 100) (Nat.le_of_ble_eq_true rfl)) rfl ?_ | refine m_setSlot (j := 1) (by with_reducible assumption) rfl (Nat.lt_of_lt_of_le (by decide : _ < 100) (Nat.le_of_ble_eq_true rfl)) rfl ?_ | refine m_setSlot (j := 2) (by with_reducible assumption) rfl (Nat.lt_of_lt_of_le (by decide : _ < 100) (Nat.le_of_ble_eq_true rfl)) rfl ?_); intro _ Dn; dsimp only [List.set, setAt] at Dn; revert Dn; intro _)
  | ((with_reducible show wpAny _ _ (slotAt _ _) _ _ _); k_dflt (refine' m_slotAt ?zzD ?zzm ?zze ?_; (case zzD => with_reducible assumption); (case zzm => k_mem); (case zze => rfl)))
  | ((with_reducible show wpAny _ _ (updateCls _ _) _ _ _); k_dflt (first | refine m_updateCls (j := 0) (by with_reducible assumption) rfl rfl rfl ?_ | refine m_updateCls (j := 1) (by with_reducible assumption) rfl rfl rfl ?_ | refine m_updateCls (j := 2) (by with_reducible assumption) rfl rfl rfl ?_); intro _ Dn; dsimp only [List.set] at Dn; revert Dn; intro _)
  | ((with_reducible show wpAny _ _ (Sem.load _ _ _) _ _ _); k_dflt (refine' m_oldF ?zzD ?zzO ?_; (case zzD => with_reducible assumption); (case zzO => with_reducible assumption)); try dsimp only)
  | ((with_reducible show wpAny _ _ (Sem.load _ _ _) _ _ _); dsimp only)
  | with_reducible refine m_arr ?_
  | with_reducible refine x_at ?_
  | ((with_reducible show wpAny _ _ (Sem.load _ _ _) _ _ _); k_dflt (refine' m_old ?zzD ?zzX ?zzl ?_; (case zzD => with_reducible assumption); (case zzX => with_reducible assumption); (case zzl => k_is)); try dsimp only)
  | (with_reducible refine m_alloc (by assumption) rfl ?_; intro _ _ _; try dsimp only)
  | ((with_reducible show wpAny _ _ (Sem.update _ _ _ _) _ _ _); k_dflt (refine' m_updA ?zzD ?zzi ?zzf ?_; (case zzD => with_reducible assumption); (case zzi => walk_at "at"); (case zzf => first | exact rfl | kernel_rfl!)); intro _ Dn; dsimp only [List.set] at Dn; revert Dn; intro _)
  | k_node
  | with_reducible refine m_ifF' (by kernel_rfl!) ?_
  | with_reducible refine m_ifT' (by kernel_rfl!) ?_))
  exact True.intro
variable {w : World} {A : Around} {s : Shared} {Q : Value → Shared → Prop} {E : Value → Shared → Prop} {h₀ : Heap}
theorem Me.front {h₀ h : Heap} {l : List (Addr × Obj)} {i : Nat} {x : Addr × Obj} (D : Me h₀ h l) (hi : l[i]? = some x) : Me h₀ h (x :: l.eraseIdx i) := by
  obtain ⟨li, rfl⟩ := List.getElem?_eq_some_iff.mp hi
  refine D.perm ?_
  rw [List.eraseIdx_eq_take_drop_succ]
  have e : l.Perm (l.take i ++ l[i] :: l.drop (i + 1)) := by rw [List.getElem_cons_drop, List.take_append_drop]
  exact e.trans List.perm_middle
theorem Me.frontA {h₀ h : Heap} {a b c d e : Addr × Obj} {l : List (Addr × Obj)} (D : Me h₀ h (a :: b :: c :: d :: e :: l)) : Me h₀ h (e :: c :: a :: b :: d :: l) :=
  (D.front (i := 2) rfl).front (i := 4) rfl
theorem mapTab (f : Array Value → Array Value) (ps : Array Value) : Obj.mapFields f (tabObj ps) = tabObj (f ps) := rfl
/-- the ledger's part for class K -/
noncomputable abbrev KD.led (k : KD) (P : Params) (C : Addr) : List (Addr × Obj) :=
  [(k.md, mdObj C k.tk1), (C, clsObj C k.nd k.kl), (k.nd, k.ns P), (k.fe, fnObj k.d4), (k.c4, k.o4), (k.fg, fnObj k.d3), (k.c3, k.o3), (k.fl, fnObj k.d2), (k.c2, k.o2), (k.fi, fnObj k.d1), (k.c1, k.o1), (k.cell, { cls := .type "cell", data := .cell (some (.ref 21)) })]
def KNews (P : Params) (C : Addr) (l : List (Addr × Obj)) : Prop :=
  ∃ k : KD, l = k.led P C ∧ FnIs P 2 "__init__" [] k.d1 k.c1 k.o1 ∧ FnIs P 3 "__lt__" [(Str.ofString "mycmp", k.cell)] k.d2 k.c2 k.o2 ∧ FnIs P 4 "__gt__" [(Str.ofString "mycmp", k.cell)] k.d3 k.c3 k.o3 ∧ FnIs P 5 "__eq__" [(Str.ofString "mycmp", k.cell)] k.d4 k.c4 k.o4
theorem setup_Bc_3 : True := by
  k_with "sub" => (first | exact List.Sublist.slnil | (with_reducible refine List.Sublist.cons_cons _ ?_; walk_at "sub") | (with_reducible refine List.Sublist.cons _ ?_; walk_at "sub"))
  exact True.intro
theorem cmp_ok (D : Me h₀ s.heap [(30, tabObj #[])]) (X₀ : (Mine.hd.heap_1 w.params).In h₀) {sl4 : Array (Option Value)} (h4 : h₀.get? 4 = some ⟨.type "module", some 0, .plain, sl4⟩) {mb : Str → Option Value} (hb0 : h₀.Ns 0 mb) (hmb : mb (Str.ofString "object") = some (.type "object")) (hmb2 : mb (Str.ofString "__build_class__") = some (.builtin "__build_class__")) {mg : Str → Option Value} (hg : h₀.Ns mainGlobals mg) (hbm : ∃ bm o, mg "__builtins__" = some (.ref bm) ∧ bm ≠ builtinsNs ∧ bm ≠ mainGlobals ∧ h₀.get? bm = some o ∧ o.cls = .type "module" ∧ o.dict = some builtinsNs ∧ o.data = .plain)
  (hdep : A.depth + 60 < recursionLimit) (hun : A.units + 300 < cLine)
  (hQ : ∀ C l ps h' tk', KNews w.params C l → Me h₀ h' (l ++ [(30, tabObj ps)]) → Q (.ref C) { s with heap := h', toks := tk' }) :
  wpAny (model PR w) A (call (.ref 35) [.ref 21] []) Q E s := by
  have fill : Mine.hd.heap_1 = Mine.hd.heap_1 ∧ PySem.Challenge.rw_xh0039_01 = PySem.Challenge.rw_xh0039_01 := by (k_fill; exact ⟨rfl, rfl⟩)
  clear fill
  have h35 := D.keep _ _ (X₀ 35 _ (by k_is))
  have hrec := (codeRec_of (cd := .ref 34) (q := Str.ofString "cmp_to_key") X₀ (by k_is)).keeps D.keep
  refine wpAny_call ?_
  refine codeAny_call_function (by lia) h35 rfl rfl rfl rfl hrec ?_
  repeat (walk_at "lk")
  refine ⟨noLimit_of (Me.keep (by with_reducible assumption) _ _ (X₀ 2 _ (by k_is))), codeAny_func ?_⟩
  repeat (walk_at "lk")
  show wpAny _ _ (call (.builtin "type.__getattribute__") [.type "type", .str (Str.ofString "__prepare__") _] []) _ _ _
  refine prep1 (by with_reducible assumption) (Me.keep (by with_reducible assumption) _ _ (X₀ 2 _ (by k_is))) (by dsimp only [Around.deeper, Around.in1, Around.mark]; lia) (by dsimp only [Around.deeper, Around.in1, Around.mark]; lia) ?_
  intro pb h1 tk1 D1
  repeat (walk_at "lk")
  show wpAny _ _ (call (.ref pb) [.str (Str.ofString "K") _, .ref _] []) _ _ _
  refine prep2 (by with_reducible assumption) (by k_mem) (Me.keep (by with_reducible assumption) _ _ (X₀ 2 _ (by k_is))) ?_
  intro nsd h3 tk3 hn1 D3
  repeat (walk_at "lk")
  refine m_ifF (by simpa [sysModules] using hn1) ?_
  repeat (walk_at "lk")
  (generalize hfn : Scope.freeNames _ = fn; have hf2 : fn = [Str.ofString "mycmp"] := hfn.symm.trans (by kernel_rfl!); clear hfn; subst hf2)
  repeat (walk_at "lk")
  refine wpAny_enterFrame (noLimit_of (Me.keep (by with_reducible assumption) _ _ (X₀ 2 _ (by k_is)))) (by dsimp only [Around.deeper, Around.in1, Around.mark]; lia) ?_
  repeat (walk_at "lk")
  rename_i Dz
  generalize hx : Obj.putName (Str.ofString "__firstlineno__") _ _ _ _ = ob at Dz
  obtain rfl : ob = { cls := .type "dict", data := .dict #[kEnt w.params "__module__" (tk3 + 1 + 1 + 1 + 1 + 1 + 1) (.str (Str.ofString "law_xh0039_01") 324), kEnt w.params "__qualname__" (tk3 + 1 + 1 + 1 + 1 + 1 + 1 + 1 + 1) (.str (Str.ofString "cmp_to_key.<locals>.K") (tk3 + 1 + 1 + 1 + 1 + 1 + 1 + 1)), kEnt w.params "__firstlineno__" (tk3 + 1 + 1 + 1 + 1 + 1 + 1 + 1 + 1 + 1 + 1) (.int 9 (tk3 + 1 + 1 + 1 + 1 + 1 + 1 + 1 + 1 + 1))] 3 } := hx.symm.trans (by kernel_rfl!)
  clear hx
  replace Dz := Dz.frontA
  refine body_ok Dz X₀ (by k_mem) (by k_mem) hg hbm (by dsimp only [Around.deeper, Around.in1, Around.mark]; lia) (by dsimp only [Around.deeper, Around.in1, Around.mark]; lia) ?_
  clear Dz
  intro f6 d6 c6 o6 f5 d5 c5 o5 f4 d4 c4 o4 f3 d3 c3 o3 f2 d2 c2 o2 f1 d1 c1 o1 sl x1 x2 x4 x5 x6 x7 x8 x9 x10 x11 ps h4 tk4 D4 F1 F2 F3 F4
  repeat (walk_at "lk")
  rename_i Dz
  generalize hx : Obj.putName (Str.ofString "__static_attributes__") _ _ _ _ = ob at Dz
  generalize hvs : Value.ref _ = vsl at hx
  obtain rfl : ob = { cls := .type "dict", data := .dict #[kEnt w.params "__module__" (tk3 + 1 + 1 + 1 + 1 + 1 + 1) (.str (Str.ofString "cpy313.functools") x2), kEnt w.params "__qualname__" (tk3 + 1 + 1 + 1 + 1 + 1 + 1 + 1 + 1) (.str (Str.ofString "cmp_to_key.<locals>.K") (tk3 + 1 + 1 + 1 + 1 + 1 + 1 + 1)), kEnt w.params "__firstlineno__" (tk3 + 1 + 1 + 1 + 1 + 1 + 1 + 1 + 1 + 1 + 1) (.int 9 (tk3 + 1 + 1 + 1 + 1 + 1 + 1 + 1 + 1 + 1)),
     kEnt w.params "__slots__" x4 (.ref sl), kEnt w.params "__init__" x5 (.ref f1), kEnt w.params "__lt__" x6 (.ref f2), kEnt w.params "__gt__" x7 (.ref f3), kEnt w.params "__eq__" x8 (.ref f4), kEnt w.params "__le__" x9 (.ref f5), kEnt w.params "__ge__" x10 (.ref f6), kEnt w.params "__hash__" x11 .none, kEnt w.params "__static_attributes__" (tk4 + 1) vsl] 12 } := hx.symm.trans (by kernel_rfl!)
  clear hx
  subst hvs
  show wpAny _ _ (call (.type "type") [.str (Str.ofString "K") _, .ref _, .ref nsd] []) _ _ _
  refine tcall (k := ⟨0, 0, _, sl, f1, f2, f3, f4, f5, f6, _, 0, 0, 0, 0, 0, _, tk3 + 1 + 1 + 1 + 1 + 1 + 1 + 1, tk3 + 1 + 1 + 1 + 1 + 1 + 1, x2, tk3 + 1 + 1 + 1 + 1 + 1 + 1 + 1 + 1 + 1 + 1, tk3 + 1 + 1 + 1 + 1 + 1 + 1 + 1 + 1 + 1, x4, x5, x6, x7, x8, x9, x10, x11, tk4 + 1, 0, 0, 0, tk3 + 1 + 1 + 1 + 1 + 1 + 1 + 1 + 1, 9, d1, d2, d3, d4, o1, o2, o3, o4⟩) Dz (by k_mem) (by k_mem) (by k_mem) (by k_mem) (by k_mem) (by k_mem) (by k_mem) (by k_mem) (by k_mem) (by k_mem) hn1 (X₀ 2 _ (by k_is)) (by dsimp only [Around.deeper, Around.in1, Around.mark]; lia) (by dsimp only [Around.deeper, Around.in1, Around.mark]; lia) ?_
  clear Dz
  intro md C nd y1 y2 y3 h5 tk5 D5
  dsimp only [KD.nsv, KD.kl] at D5
  generalize hx : Obj.mapFields _ _ = o30 at D5
  rw [mapTab] at hx
  subst hx
  repeat (walk_at "lk")
  refine' hQ C _ _ _ _ ⟨⟨nd, md, _, sl, f1, f2, f3, f4, f5, f6, _, c1, c2, c3, c4, _, _, _, _, _, _, _, _, _, _, _, _, _, _, _, _, y1, y2, y3, 0, 9, d1, d2, d3, d4, o1, o2, o3, o4⟩, rfl, F1, F2, F3, F4⟩ (Me.sub (by with_reducible assumption) ?sub)
  case sub => (dsimp only [List.cons_append, List.nil_append, KD.led, KD.ns, KD.nsv, KD.kl]; walk_at "sub")
end Mine
end
section -- Sk
open PySem PySem.W PySem.W.X PyProof.Rows PyProof.V PySem.Calls
namespace Mine
section
variable {w : World} {C : Addr} {l news : List (Addr × Obj)}
theorem KAt.of {h : Heap} (hK : KNews w.params C l) (hs : ∀ q ∈ l, q ∈ news) (H : Has w news h) : KAt w.params h C := by
  obtain ⟨k, rfl, F1, F2, F3, F4⟩ := hK
  exact ⟨H.1, k,
    H.2 _ (hs _ (.tail _ (.head _))), H.2 _ (hs _ (.tail _ (.tail _ (.head _)))), H.2 _ (hs _ (.head _)), H.2 _ (hs _ (.tail _ (.tail _ (.tail _ (.tail _ (.tail _ (.tail _ (.tail _ (.tail _ (.tail _ (.head _))))))))))), H.2 _ (hs _ (.tail _ (.tail _ (.tail _ (.tail _ (.tail _ (.tail _ (.tail _ (.tail _ (.tail _ (.tail _ (.head _)))))))))))), H.2 _ (hs _ (.tail _ (.tail _ (.tail _ (.tail _ (.tail _ (.tail _ (.tail _ (.head _))))))))), H.2 _ (hs _ (.tail _ (.tail _ (.tail _ (.tail _ (.tail _ (.tail _ (.tail _ (.tail _ (.head _)))))))))), H.2 _ (hs _ (.tail _ (.tail _ (.tail _ (.tail _ (.tail _ (.head _))))))), H.2 _ (hs _ (.tail _ (.tail _ (.tail _ (.tail _ (.tail _ (.tail _ (.head _)))))))), H.2 _ (hs _ (.tail _ (.tail _ (.tail _ (.head _))))), H.2 _ (hs _ (.tail _ (.tail _ (.tail _ (.tail _ (.head _)))))), H.2 _ (hs _ (.tail _ (.tail _ (.tail _ (.tail _ (.tail _ (.tail _ (.tail _ (.tail _ (.tail _ (.tail _ (.tail _ (.head _))))))))))))), F1, F2, F3, F4⟩
/-- k is the made key of the text a -/
def KV1 (C : Addr) (nw : List (Addr × Obj)) (k : Value) (a : Str) : Prop := ∃ x dx ta, k = .ref x ∧ (x, instK C dx a ta) ∈ nw
theorem ksort_lt {A : Around} {s : Shared} {x y dx dy : Addr} {a b : Str} {ta tb : Tok} {Q : Bool → Shared → Prop} {E : Value → Shared → Prop} (K : KAt w.params s.heap C) (hx : s.heap.get? x = some (instK C dx a ta)) (hy : s.heap.get? y = some (instK C dy b tb)) (hdep : A.depth + 20 < recursionLimit) (hun : A.units + 80 < cLine)
  (hQ : ∀ h' tk', Ext s.heap h' → Q (strLt a b) { s with heap := h', toks := tk' }) : wpAny (model PR w) A (keyLt' oneType' (.ref x) (.ref y)) Q E s := by
  obtain ⟨X₀, k, KF⟩ := K
  rw [keyLt'_oneType, oneLt'_eq]
  simp only [if_true]
  refine wpAny_bind (wpAny_cRoomFor (by lia) ?_)
  refine wpAny_bind (wpAny_callSpecialIfBound?_own (k_own (name := Str.ofString "__lt__") hx KF.hC KF.hnd rfl (strKeys_of (by kernel_rfl!)) (by kernel_rfl!) KF.hfl obj_lt) ?_)
  refine k_lt X₀ KF (Me.start _) hx hy hdep hun ?_
  intro f o g u h' tk' D
  have z := hQ h' tk' D.keep
  rw [← collI_lt] at z
  exact wpAny_truthy_bool z
theorem keyFn_K (hK : KNews w.params C l) (hs : ∀ q ∈ l, q ∈ news) : KeyFn w (fun _ => True) news (.ref C) (KV1 C) (.ref C) 30 90 where
  call := fun A s a t Q H _ _ _ hd hu hQ E => by
    refine k_new (KAt.of hK hs H) (Me.start _) hd hu fun x d f o h' tk' D => hQ _ _ h' tk' D ⟨x, d, t, rfl, .tail _ (.head _)⟩
  mono := fun tl tl' k a hs ⟨x, dx, ta, e, hm⟩ => ⟨x, dx, ta, e, hs _ hm⟩
  ord := fun nw A s x y a b Cc H hn ⟨p, dp, tp, e1, m1⟩ ⟨q, dq, tq, e2, m2⟩ hd hu hQ => by
    subst e1 e2
    exact ksort_lt (KAt.of hK hs H) (hn _ m1) (hn _ m2) (by lia) (by lia) hQ
  ty := fun nw h k a hn ⟨p, dp, tp, e1, m1⟩ => by
    subst e1
    exact (Looks.ld (hn _ m1)).andThen .now
  t1 := rfl
  t2 := by simp
end
end Mine
end
section -- Lo
open PySem PySem.W PySem.W.X PyProof.Rows PyProof.V PySem.Calls
namespace Mine
theorem ltOk_str {w : World} : LtOk w [] (fun v => ∃ a t, v = .str a t) (fun x y => strLt (strOf x) (strOf y)) 0 0 :=
  fun A s x y Q E H ⟨a, t, e1⟩ ⟨b, u, e2⟩ hd hu hQ => by
    subst e1 e2
    exact P.lt_str (hQ s.heap s.toks Ext.rfl)
/-- v is a tuple (K(a), i, a) of the ledger and den tells (a, i) of it -/
def VT (C : Addr) (den : Value → Str × Int) (news : List (Addr × Obj)) (v : Value) : Prop :=
  ∃ p x dx i ti a ta tb n, v = .ref p ∧ (p, tup3 x i ti a ta n) ∈ news ∧ (x, instK C dx a tb) ∈ news ∧ den v = (a, i)
theorem VT.mono {C : Addr} {den : Value → Str × Int} {news news' : List (Addr × Obj)} {v : Value} (h : VT C den news v) (hs : ∀ q ∈ news, q ∈ news') : VT C den news' v := by
  obtain ⟨p, x, dx, i, ti, a, ta, tb, n, e, m1, m2, d⟩ := h
  exact ⟨p, x, dx, i, ti, a, ta, tb, n, e, hs _ m1, hs _ m2, d⟩
theorem ltOk_tup {w : World} {C : Addr} {l news : List (Addr × Obj)} {den : Value → Str × Int} (hK : KNews w.params C l) (hs : ∀ q ∈ l, q ∈ news) : LtOk w news (VT C den news) (fun x y => tl (den x) (den y)) 30 100 := by
  intro A s x y Q E H hx hy hd hu hQ
  obtain ⟨p, k, dk, i, ti, a, ta, tb, n, e1, m1, m2, d1⟩ := hx
  obtain ⟨p', k', dk', i', ti', a', ta', tb', n', e1', m1', m2', d1'⟩ := hy
  dsimp only at hQ
  rw [d1, d1'] at hQ
  subst e1 e1'
  rw [← tlt_tl] at hQ
  exact tup_lt (KAt.of hK hs H) (H.2 _ m1) (H.2 _ m1') (H.2 _ m2) (H.2 _ m2') hd hu hQ
end Mine
end
section -- Ts
open PySem PySem.W PySem.W.X PyProof.Rows PyProof.V PySem.Calls
namespace Mine
section
variable {w : World} {A : Around} {s : Shared} {C : Addr} {E : Value → Shared → Prop}
theorem tup_sort_lt {Q : Bool → Shared → Prop} {p q x y dx dy : Addr} {a a' b b' : Str} {ta tb ta' tb' ti tj : Tok} {i j : Int} {np nq : Nat} (K : KAt w.params s.heap C) (hp : s.heap.get? p = some (tup3 x i ti a' ta' np)) (hq : s.heap.get? q = some (tup3 y j tj b' tb' nq))
  (hx : s.heap.get? x = some (instK C dx a ta)) (hy : s.heap.get? y = some (instK C dy b tb)) (hdep : A.depth + 30 < recursionLimit) (hun : A.units + 100 < cLine)
  (hQ : ∀ h' tk', Ext s.heap h' → Q (tlt a i a' b j b') { s with heap := h', toks := tk' }) : wpAny (model PR w) A (keyLt' (tuples' true) (.ref p) (.ref q)) Q E s := by
  refine kat_lt hp rfl hq rfl ?_
  show KatLex PR w A true _ Q [(.ref x, .ref y), (.int i ti, .int j tj), (.str a' ta', .str b' tb')] 0 s
  refine kat_cons (eqBool_K K hx hy (by lia) (by lia) fun h1 k1 e1 => ?_)
  unfold tlt at hQ
  cases hc : (collI a b == 0)
  · rw [hc, if_neg (by decide)] at hQ
    refine kat_no ?_
    refine ksort_lt (K.ext e1) (e1 _ _ hx) (e1 _ _ hy) (by lia) (by lia) fun h2 k2 e2 => ?_
    rw [← collI_lt]
    exact hQ _ _ (e1.trans e2)
  · rw [hc, if_pos rfl] at hQ
    refine kat_yes (kat_cons (wpAny_eqBool_int ?_))
    cases hi : (i == j)
    · rw [hi, if_neg (by decide)] at hQ
      refine kat_no (kat_one _ _ (PyProof.Rows.lt_int ?_))
      exact hQ _ _ e1
    · rw [hi, if_pos rfl] at hQ
      refine kat_yes (kat_cons (PyProof.Rows.eqBool_str ?_))
      cases hs : (a' == b')
      · rw [hs, if_neg (by decide)] at hQ
        refine kat_no (kat_one _ _ (P.lt_str ?_))
        exact hQ _ _ e1
      · rw [hs, if_pos rfl] at hQ
        exact kat_yes (kat_nil (hQ _ _ e1))
theorem tups_of {den : Value → Str × Int} {nw : List (Addr × Obj)} {h : Heap} (hn : ∀ q ∈ nw, h.get? q.1 = some q.2) : ∀ {vs : List Value}, (∀ v ∈ vs, VT C den nw v) → ∃ fs, KatTups h vs fs ∧ fs.length = vs.length ∧ ∀ f ∈ fs, Looks (model PR w) h (typeOf f) (.ref C)
  | [], _ => ⟨[], .nil, rfl, fun _ hf => nomatch hf⟩
  | v :: vs, hv => by
    obtain ⟨fs, a, b, c⟩ := tups_of hn (vs := vs) fun v hv' => hv v (.tail _ hv')
    obtain ⟨p, x, dx, i, ti, a', ta, tb, n, rfl, m1, m2, _⟩ := hv v (.head _)
    refine ⟨.ref x :: fs, .cons (hn _ m1) rfl rfl rfl a, by simp [b], fun f hf => ?_⟩
    rcases List.mem_cons.mp hf with rfl | hf
    · exact (Looks.ld (hn _ m2)).andThen .now
    · exact c f hf
variable {g : Heap} {L l : Addr} {m : Str → Option Value} {nw l0 : List (Addr × Obj)} {vs : List Value} {den : Value → Str × Int} {n : Nat} {Q : Value → Shared → Prop}
theorem tsort_ok (hK : KNews w.params C l0) (hs : ∀ q ∈ l0, q ∈ nw) (F : Fr g L s.heap m) (X : (Mine.hd.heap_1 w.params).In g) (N : News g L s.heap ((l, listOf vs.toArray n) :: nw)) (hl : ∀ q ∈ nw, q.1 ≠ l) (hV : ∀ v ∈ vs, VT C den nw v)
    (h2 : 2 ≤ vs.length) (h64 : vs.length < 64) (hd : A.depth + 30 < recursionLimit) (hu : A.units + 110 < cLine)
    (hQ : ∀ (out : List Value) c h' tk', out.Perm vs → (out.Pairwise fun a b => tl (den b) (den a) = false) → Fr g L h' m → News g L h' ((l, listOf out.toArray c) :: nw) → Q .none { s with heap := h', toks := tk' }) :
    wpAny (model PR w) A (call (.builtin "list.sort") [.ref l]) Q E s := by
  refine kat_lsort F N (.head hl) (by simp) h2 h64 fun e1 h' F1 N1 => ?_
  obtain ⟨fs, t, tlen, tT⟩ := tups_of (w := w) (h := h') (fun q hq => (N1 q (.tail _ hq)).1) hV
  refine kat_kind (T := .ref C) t (by lia) tT (by simp) ?_
  show (kas_sort vs.length).kasWp (kas_ask PR w A.in1 (tuples' true) vs) _ _
  refine tree_ok tl_tot (key := fun i => den (vs.getD i .none)) (by lia) F1 N1 (fun i j Cc h tk hi hj F3 N3 hC => ?_) fun p h3 tk3 hp hi F3 N3 => ?_
  · have gv : ∀ i, i < vs.length → VT C den nw (vs.getD i .none) := fun i hi => by
      rw [gD_lt hi]; exact hV _ (List.getElem_mem _)
    obtain ⟨p, x, dx, i1, ti, a, ta, tb, n1, e1, m1, m2, d1⟩ := gv i hi
    obtain ⟨q, y, dy, j1, tj, b, tc, td, n2, e2, m3, m4, d2⟩ := gv j hj
    have hn : ∀ q ∈ nw, h.get? q.1 = some q.2 := fun q hq => (N3 q (.tail _ hq)).1
    rw [e1, e2]
    refine tup_sort_lt (KAt.of hK hs (.of F3 X N3 fun q hq => .tail _ hq)) (hn _ m1) (hn _ m3) (hn _ m2) (hn _ m4) (by dsimp only [Around.in1]; lia) (by dsimp only [Around.in1]; lia) fun h4 k4 e4 => ?_
    have z := hC h4 k4 e4
    rw [d1, d2, ← tlt_tl] at z
    exact z
  · refine KasFin.intro F3 N3 (.head hl) fun h5 c5 F5 N5 => ?_
    exact hQ _ c5 h5 tk3 (out_perm rfl hp) (out_sorted hp (fun i hi => rfl) hi) F5 N5
end
end Mine
end
section -- Tr
open PySem PySem.W PySem.W.X PyProof.Rows PyProof.V PySem.Calls
namespace Mine
/-- a built-in method's call by keywords alone -/
theorem callWith_kw1 {M : Model} {A : Around} {E : Value → Shared → Prop} {s : Shared} {env : Env} {pos : Pos} {id : String} {first : List Value} {kws : List Keyword} {Q : Value → Shared → Prop}
    (h : wpAny M A (evalAll ((backToKw pos (keywordEach kws env)).map (·.2))) (fun ks s₂ => wpAny M A (call (.builtin id) first (((backToKw pos (keywordEach kws env)).filterMap (·.1)).zip ks)) Q E s₂) E s)
    (hall : (backToKw pos (keywordEach kws env)).all (·.1.isSome) = true := by rfl) (hkw : (backToKw pos (keywordEach kws env)).any (·.1.isNone) = false := by rfl) :
    wpAny M A (callWith pos (.builtin id) first (backTo pos (starEach [] env)) (backToKw pos (keywordEach kws env))) Q E s := by
  refine callWith_builtin_kwB rfl hkw (evalArgs_kw2_nil hall ?_)
  refine wpAny_mono h (fun ks s₂ h₂ => ?_) fun _ _ x => x
  rw [List.append_nil]
  exact h₂
section
variable {prog : Program} {w : World} {A : Around} {E : Value → Shared → Prop} {s : Shared} {h₀ : Heap} {L a : Addr} {m : Str → Option Value} {news : List (Addr × Obj)} {vs : List Value}
/-- list.sort(reverse=True): the reversed list is sorted and turned round -/
theorem sort_rev_tree {n : Nat} {P : PySem.Fin → Shared → Prop} (F : Fr h₀ L s.heap m) (N : News h₀ L s.heap news) (ho : s.heap.get? a = some (seqObj "list" vs.toArray n)) (haL : a ≠ L) (ha0 : h₀.get? a = none) (hna : ∀ p ∈ news, p.1 ≠ a)
    (h2 : 2 ≤ vs.length) (h64 : vs.length < 64)
    (h : ∀ e1 h', Fr h₀ L h' m → News h₀ L h' ((a, seqObj "list" #[] e1) :: news) →
      wpAny (model prog w) A (keyKind' vs.toArray) (fun κ s' => (kas_sort vs.length).kasWp (kas_ask prog w A κ vs.reverse) (fun p s'' => KasFin h₀ L m a e1 (p.toList.map fun i => vs.reverse.getD i Value.none).reverse (fun s3 => P (.done (.ret .none)) s3) s'') s') (fun _ _ => False) { s with heap := h' }) :
    wpAny (model prog w) A (Builtin.«list.sort» ⟨[.ref a], [(Str.ofString "reverse", .bool true)]⟩) P E s := by
  have ha : a < s.heap.objs.size := Heap.lt_size ho
  have s1 := Heap.SameBut.update s.heap a (Obj.mapSeq fun _ => (#[] : Array Value))
  obtain ⟨e1, ho1⟩ : ∃ e1, (s.heap.update a (Obj.mapSeq fun _ => (#[] : Array Value))).get? a = some (seqObj "list" #[] e1) := ⟨_, get?_update_seq ho fun _ => #[]⟩
  have F3 : Fr h₀ L (((s.heap.update a (Obj.mapSeq fun _ => (#[] : Array Value))).push (seqObj "tuple" vs.toArray 0)).push (seqObj "list" #[] 0)) m := ((kas_fr F s1 haL ha0).push _).push _
  have N2 : News h₀ L (((s.heap.update a (Obj.mapSeq fun _ => (#[] : Array Value))).push (seqObj "tuple" vs.toArray 0)).push (seqObj "list" #[] 0)) news :=
    (kas_news N s1 hna).grown fun b x e => Heap.get?_push_of_some _ (Heap.get?_push_of_some _ e)
  have N3 : News h₀ L (((s.heap.update a (Obj.mapSeq fun _ => (#[] : Array Value))).push (seqObj "tuple" vs.toArray 0)).push (seqObj "list" #[] 0)) ((a, seqObj "list" #[] e1) :: news) := fun p hp => by
    rcases List.mem_cons.mp hp with rfl | hp
    · exact ⟨Heap.get?_push_of_some _ (Heap.get?_push_of_some _ ho1), haL, ha0⟩
    · exact N2 p hp
  have ask := h e1 _ F3 N3
  rw [list_sort_rev]
  refine wpAny_bind (listItems_at ho rfl ?_)
  refine wpAny_bind (listUpdate_at ho rfl ?_ (by rw [List.size_toArray, sizeLine_eq]; lia) (Nat.zero_le _))
  refine wpAny_bind (seqEpoch_at ho1 rfl ?_)
  refine wpAny_bind (wpAny_newTuple ?_ (by show vs.length ≤ _; rw [sizeLine_eq]; lia))
  refine wpAny_bind (wpAny_newList ?_ (Nat.zero_le _))
  refine wpAny_holding ?_
  show wpAny (model prog w) A _ P E { s with heap := ((s.heap.update a (Obj.mapSeq fun _ => (#[] : Array Value))).push (seqObj "tuple" vs.toArray 0)).push (seqObj "list" #[] 0) }
  dsimp only
  have hn2 : ¬ vs.toArray.size < 2 := by rw [List.size_toArray]; lia
  rw [if_neg hn2, if_neg hn2]
  rw [if_pos rfl]
  refine wpAny_bind (wpAny_rule ?_)
  have hz : (if true = true then (vs.toArray.zip vs.toArray).reverse else vs.toArray.zip vs.toArray) = vs.reverse.toArray.zip vs.reverse.toArray := kat_pairs (ks := vs) (vs := vs) true rfl
  rw [hz]
  refine wpAny_bind (wpAny_mono ask (fun κ s0 hk => ?_) fun _ _ x => x.elim)
  rw [show vs.length = vs.reverse.length by simp] at hk
  refine wpAny_bind (wpAny_mono (kat_run (ks := vs.reverse) (vs := vs.reverse) (Q := fun st' s' => ∃ p : Array Nat, p.size = vs.reverse.length ∧ arrOf st' = p.map (kas_item (vs.reverse.toArray.zip vs.reverse.toArray)) ∧ failedOf st' = none ∧ KasFin h₀ L m a e1 (p.toList.map fun i => vs.reverse.getD i Value.none).reverse (fun s'' => P (.done (.ret .none)) s'') s')
    rfl (by simpa using h2) (by simpa using h64) (fun p' st' s' a1 a2 a3 a4 => ⟨p', a1, a2, a3, a4⟩) hk) ?_ fun _ _ e => e)
  rintro ⟨⟨⟩, st'⟩ s' ⟨p, hp, har, hf, news', g, F', N', U, k⟩
  dsimp only
  obtain ⟨pre, post, e0, hg, x1, x2⟩ := U.split
  rw [e0] at N'
  have na := N' (a, seqObj "list" #[] e1) (List.mem_append_right _ (.head _))
  have hout := kat_snds (ks := vs.reverse) (vs := vs.reverse) rfl har
  rw [hout]
  have ho2 : (if true = true then (List.toArray (p.toList.map fun i => vs.reverse.getD i Value.none)).reverse else List.toArray (p.toList.map fun i => vs.reverse.getD i Value.none)) = List.toArray (p.toList.map fun i => vs.reverse.getD i Value.none).reverse := kat_outs true _
  rw [ho2]
  generalize hOut : (p.toList.map fun i => vs.reverse.getD i Value.none).reverse = out at k ⊢
  have hsz : (List.toArray out).size ≤ 64 := by rw [← hOut]; simp [hp]; lia
  have s2 := Heap.SameBut.update s'.heap a (Obj.mapSeq fun _ => List.toArray out)
  obtain ⟨c2, hc2⟩ : ∃ c2, (s'.heap.update a (Obj.mapSeq fun _ => List.toArray out)).get? a = some (seqObj "list" (List.toArray out) c2) := ⟨_, get?_update_seq na.1 fun _ => List.toArray out⟩
  refine wpAny_bind (seqEpoch_at na.1 rfl ?_)
  refine wpAny_bind (listUpdate_at na.1 rfl ?_ (Nat.zero_le _) (Nat.le_trans hsz (by rw [sizeLine_eq]; lia)))
  rw [hf]
  simp only [bne_self_eq_false, Bool.false_eq_true, if_false]
  refine wpAny_pure (k _ c2 (kas_fr F' s2 na.2.1 na.2.2) ?_)
  rw [hg]
  exact news_set N' x1 x2 s2 hc2
end
section
variable {w : World} {A : Around} {s : Shared} {C : Addr} {E : Value → Shared → Prop}
variable {g : Heap} {L l : Addr} {m : Str → Option Value} {nw l0 : List (Addr × Obj)} {vs : List Value} {den : Value → Str × Int} {n : Nat} {Q : Value → Shared → Prop}
theorem tsortR_ok (hK : KNews w.params C l0) (hs : ∀ q ∈ l0, q ∈ nw) (F : Fr g L s.heap m) (X : (Mine.hd.heap_1 w.params).In g) (N : News g L s.heap ((l, listOf vs.toArray n) :: nw)) (hl : ∀ q ∈ nw, q.1 ≠ l) (hV : ∀ v ∈ vs, VT C den nw v)
    (h2 : 2 ≤ vs.length) (h64 : vs.length < 64) (hd : A.depth + 30 < recursionLimit) (hu : A.units + 110 < cLine)
    (hQ : ∀ (out : List Value) c h' tk', out.Perm vs → (out.Pairwise fun a b => tl (den a) (den b) = false) → Fr g L h' m → News g L h' ((l, listOf out.toArray c) :: nw) → Q .none { s with heap := h', toks := tk' }) :
    wpAny (model PR w) A (call (.builtin "list.sort") [.ref l] [(Str.ofString "reverse", .bool true)]) Q E s := by
  have nz := N (l, listOf vs.toArray n) (.head _)
  have N₀ : News g L s.heap nw := fun q hq => N q (.tail _ hq)
  refine wpAny_call_entry_kw slot_list_sort ⟨_, nz.1, rfl⟩ entry_list_sort (sort_rev_tree (n := n) (vs := vs) F N₀ nz.1 nz.2.1 nz.2.2 hl h2 h64 fun e1 h' F1 N1 => ?_) (args_list_sort_rev _ _)
  obtain ⟨fs, t, tlen, tT⟩ := tups_of (w := w) (h := h') (fun q hq => (N1 q (.tail _ hq)).1) hV
  refine kat_kind (T := .ref C) t (by lia) tT (by simp) ?_
  show (kas_sort vs.length).kasWp (kas_ask PR w A.in1 (tuples' true) vs.reverse) _ _
  refine tree_ok tl_tot (key := fun i => den (vs.reverse.getD i .none)) (by lia) F1 N1 (fun i j Cc h tk hi hj F3 N3 hC => ?_) fun p h3 tk3 hp hi F3 N3 => ?_
  · have gv : ∀ i, i < vs.length → VT C den nw (vs.reverse.getD i .none) := fun i hi => by
      rw [gD_lt (by simpa using hi)]; exact hV _ (List.mem_reverse.mp (List.getElem_mem _))
    obtain ⟨p, x, dx, i1, ti, a, ta, tb, n1, e1, m1, m2, d1⟩ := gv i hi
    obtain ⟨q, y, dy, j1, tj, b, tc, td, n2, e2, m3, m4, d2⟩ := gv j hj
    have hn : ∀ q ∈ nw, h.get? q.1 = some q.2 := fun q hq => (N3 q (.tail _ hq)).1
    rw [e1, e2]
    refine tup_sort_lt (KAt.of hK hs (.of F3 X N3 fun q hq => .tail _ hq)) (hn _ m1) (hn _ m3) (hn _ m2) (hn _ m4) (by dsimp only [Around.in1]; lia) (by dsimp only [Around.in1]; lia) fun h4 k4 e4 => ?_
    have z := hC h4 k4 e4
    rw [d1, d2, ← tlt_tl] at z
    exact z
  · refine KasFin.intro F3 N3 (.head hl) fun h5 c5 F5 N5 => ⟨_, rfl, ?_⟩
    refine hQ _ c5 h5 tk3 ?_ ?_ F5 N5
    · exact (List.reverse_perm _).trans ((out_perm (by simp) hp).trans (List.reverse_perm _))
    · rw [List.pairwise_reverse]
      exact out_sorted (den := den) hp (fun i hi => rfl) hi
end
end Mine
end
section -- Zr
open PySem PySem.W PyProof.Rows PyProof.V PySem.Calls
namespace Mine
section
variable {prog : Program} {w : World} {A : Around} {E : Value → Shared → Prop} {s : Shared}
theorem nextOf_range_item {it : Addr} {x left step : Int} {Q : Value → Shared → Prop} (hit : IsRangeIter s.heap it x left step) (hleft : 0 < left)
    (hQ : ∀ h', IsRangeIter h' it (x + step) (left - 1) step → Heap.SameBut it s.heap h' → Q (.int x s.toks) { s with heap := h', toks := s.toks + 1 }) :
    wpAny (model prog w) A (Builtin.SmallTypes.nextOf (.ref it)) Q E s := by
  have hT : s.TypeIs (.ref it) "range_iterator" := ⟨_, hit, rfl⟩
  unfold Builtin.SmallTypes.nextOf
  refine wpAny_bind (wpAny_callSpecial?_slot (name := Str.ofString "__next__") hT F.slot_range_iterator_next
    (call_meets F.slot_range_iterator_next hT F.entry_range_iterator_next (F.args_range_iterator_next_1 _) (AutoRange.range_iterator___next___range_iterator_1 it x left step (by lia)) ⟨hit, ?_⟩))
  exact wpAny_pure (hQ _ (Heap.get?_update_self _ (Heap.get?_update_self _ hit rfl) rfl) ((Heap.SameBut.update ..).trans (Heap.SameBut.update ..)))
theorem nextOf_range_end {it : Addr} {x left step : Int} {Q : Value → Shared → Prop} (hh : A.handled = none) (hit : IsRangeIter s.heap it x left step) (hleft : left ≤ 0)
    (hE : ∀ h' e, (∀ b o, s.heap.get? b = some o → h'.get? b = some o) → (∃ o, h'.get? e = some o ∧ o.cls = .type "StopIteration") → E (.ref e) { s with heap := h' }) :
    wpAny (model prog w) A (Builtin.SmallTypes.nextOf (.ref it)) Q E s := by
  have hT : s.TypeIs (.ref it) "range_iterator" := ⟨_, hit, rfl⟩
  unfold Builtin.SmallTypes.nextOf
  refine wpAny_bind (wpAny_callSpecial?_slot (name := Str.ofString "__next__") hT F.slot_range_iterator_next
    (wpAny_call_entry F.slot_range_iterator_next hT F.entry_range_iterator_next ?_ (F.args_range_iterator_next_1 _)))
  show wpAny _ _ (field (.ref it) 0 >>= _) _ _ s
  refine wpAny_bind (wpAny_field hit rfl (x := rawInt x) rfl ?_)
  show wpAny _ _ (field (.ref it) 1 >>= _) _ _ s
  refine wpAny_bind (wpAny_field hit rfl (x := rawInt left) rfl ?_)
  show wpAny _ _ (field (.ref it) 2 >>= _) _ _ s
  refine wpAny_bind (wpAny_field hit rfl (x := rawInt step) rfl ?_)
  show wpAny _ _ (if left ≤ 0 then _ else _) _ _ s
  rw [if_pos hleft]
  refine wpAny_bind (wpAny_rule ?_)
  refine wpAny_bind ?_
  show wpAny _ _ (newExc (.type "StopIteration") [] >>= _) _ _ _
  refine wpAny_bind ?_
  simp only [newExc, newTuple]
  refine wpAny_bind (wpAny_newObj_type ?_ (by size_fits))
  refine wpAny_bind (m := firstArgMember _ _) (wpAny_of_eq (a := Value.none) (by first | rfl | (simp only [firstArgMember]; rfl)) ?_)
  refine wpAny_newObj_type ?_ (by size_fits)
  simp only [raiseNew]
  refine wpAny_bind (wpAny_handled ?_)
  rw [show A.in1.handled = none from hh]
  refine wpAny_bind (wpAny_pure (wpAny_throw ?_))
  exact hE _ _ (fun b o e => Heap.get?_push_of_some _ (Heap.get?_push_of_some _ e)) ⟨_, Heap.get?_push_size _ rfl, rfl⟩
structure ZrApart (z TI TO i1 i2 l2 : Addr) : Prop where
  TIz : TI ≠ z
  TOz : TO ≠ z
  i1z : i1 ≠ z
  i2z : i2 ≠ z
  TITO : TI ≠ TO
  TIi1 : TI ≠ i1
  TIi2 : TI ≠ i2
  TOi1 : TO ≠ i1
  TOi2 : TO ≠ i2
  i12 : i1 ≠ i2
  l2z : l2 ≠ z
  l2TO : l2 ≠ TO
  l2i1 : l2 ≠ i1
  l2i2 : l2 ≠ i2
theorem zr_next_item {z TI TO i1 i2 l2 : Addr} {v left step : Int} {k2 : Nat} {ys : Array Value} {y a b : Value} {Q : Value → Shared → Prop} (D : ZrApart z TI TO i1 i2 l2)
    (hz : IsZip s.heap z TI TO .none) (hTI : IsPair s.heap TI (.ref i1) (.ref i2)) (hTO : IsPair s.heap TO a b)
    (h1 : IsRangeIter s.heap i1 v left step) (hleft : 0 < left) (h2 : s.heap.IsListIter i2 l2 k2) (hl2 : s.heap.IsList l2 ys) (hy : ys[k2]? = some y)
    (hQ : ∀ h' (T : Addr) t tk', IsZip h' z TI TO (rawInt (T : Nat)) → (∃ a b, IsPair h' TO a b) → IsRangeIter h' i1 (v + step) (left - 1) step → h'.IsListIter i2 l2 (k2 + 1) → IsPair h' T (.int v t) y → s.heap.objs.size ≤ T →
      (∀ c o, c ≠ z → c ≠ TO → c ≠ i1 → c ≠ i2 → s.heap.get? c = some o → h'.get? c = some o) → Q (.ref T) { s with heap := h', toks := tk' }) :
    wpAny (model prog w) A (Builtin.«zip.__next__» ⟨[.ref z], []⟩) (fun fin s' => ∃ v, fin = .done (.ret v) ∧ Q v s') E s := by
  show wpAny _ _ (field (.ref z) 2 >>= _) _ _ _
  refine wpAny_bind (wpAny_field hz rfl (x := .bool false) rfl ?_)
  show wpAny _ _ (field (.ref z) 3 >>= _) _ _ _
  refine wpAny_bind (wpAny_field hz rfl (x := .ref TI) rfl ?_)
  refine wpAny_bind (wpAny_seqItems hTI rfl ?_)
  show wpAny _ _ (Builtin.SmallTypes.ownedTupleIsFree (.ref z) >>= _) _ _ _
  refine wpAny_bind ?_
  unfold Builtin.SmallTypes.ownedTupleIsFree
  refine wpAny_bind (wpAny_field hz rfl (x := .none) rfl (wpAny_pure ?_))
  simp only [if_true]
  refine wpAny_bind (wpAny_rule ?_)
  refine wpAny_bind (wpAny_field hz rfl (x := .ref TO) rfl ?_)
  refine wpAny_bind (wpAny_setField_rec hz (by simp) fun h₁ hz₁ hs₁ => ?_)
  replace hz₁ : IsZip h₁ z TI TO .ellipsis := hz₁
  refine wpAny_bind ?_
  simp only [List.zipIdx_cons, List.zipIdx_nil, List.forIn_cons, List.forIn_nil]
  refine wpAny_bind (wpAny_bind (wpAny_onRaise ?_))
  show wpAny _ _ (Builtin.SmallTypes.nextOf (.ref i1) >>= _) _ _ _
  refine wpAny_bind (nextOf_range_item (hs₁.extBut _ _ D.i1z h1) hleft fun h₂ h1₂ hs₂ => wpAny_pure ?_)
  have hTO₂ : IsPair h₂ TO a b := hs₂.extBut _ _ D.TOi1 (hs₁.extBut _ _ D.TOz hTO)
  refine wpAny_bind (wpAny_seqItems hTO₂ rfl ?_)
  refine wpAny_bind (wpAny_updateSeq_pair hTO₂ fun h₃ hTO₃ hs₃ => ?_)
  refine wpAny_bind (wpAny_letGo (wpAny_pure ?_))
  refine wpAny_bind (wpAny_bind (wpAny_onRaise ?_))
  show wpAny _ _ (Builtin.SmallTypes.nextOf (.ref i2) >>= _) _ _ _
  refine wpAny_bind (wpAny_nextOf_list_item (((h2.extBut hs₁.extBut D.i2z).extBut hs₂.extBut D.i12.symm).extBut hs₃.extBut D.TOi2.symm)
    (((hl2.extBut hs₁.extBut D.l2z).extBut hs₂.extBut D.l2i1).extBut hs₃.extBut D.l2TO) hy fun h₄ h2₄ hs₄ => wpAny_pure ?_)
  have hTO₄ := hs₄.extBut _ _ D.TOi2 hTO₃
  replace hTO₄ : IsPair h₄ TO (.int v s.toks) b := hTO₄
  refine wpAny_bind (wpAny_seqItems hTO₄ rfl ?_)
  refine wpAny_bind (wpAny_updateSeq_pair hTO₄ fun h₅ hTO₅ hs₅ => ?_)
  replace hTO₅ : IsPair h₅ TO (.int v s.toks) y := hTO₅
  refine wpAny_bind (wpAny_letGo (wpAny_pure (wpAny_pure ?_)))
  refine wpAny_bind (wpAny_seqItems hTO₅ rfl ?_)
  refine wpAny_bind (wpAny_newTuple ?_)
  have hsz : h₅.objs.size = s.heap.objs.size := by rw [hs₅.1, hs₄.1, hs₃.1, hs₂.1, hs₁.1]
  have hz₅ : IsZip h₅ z TI TO .ellipsis := hs₅.extBut _ _ D.TOz.symm (hs₄.extBut _ _ D.i2z.symm (hs₃.extBut _ _ D.TOz.symm (hs₂.extBut _ _ D.i1z.symm hz₁)))
  have hk₅ : ∀ c o, c ≠ z → c ≠ TO → c ≠ i1 → c ≠ i2 → s.heap.get? c = some o → h₅.get? c = some o := fun c o c1 c2 c3 c4 e =>
    hs₅.extBut _ _ c2 (hs₄.extBut _ _ c4 (hs₃.extBut _ _ c2 (hs₂.extBut _ _ c3 (hs₁.extBut _ _ c1 e))))
  have h1₅ : IsRangeIter h₅ i1 (v + step) (left - 1) step := hs₅.extBut _ _ D.TOi1.symm (hs₄.extBut _ _ D.i12 (hs₃.extBut _ _ D.TOi1.symm h1₂))
  have h2₅ : h₅.IsListIter i2 l2 (k2 + 1) := h2₄.extBut hs₅.extBut D.TOi2.symm
  have hzlt : z < h₅.objs.size := Heap.lt_size hz₅
  show wpAny _ _ (Builtin.SmallTypes.ownedTupleHandOut (.ref z) (.ref h₅.objs.size) >>= _) _ _ _
  refine wpAny_bind ?_
  unfold Builtin.SmallTypes.ownedTupleHandOut
  have hz₆ : IsZip (h₅.push { cls := .type "tuple", data := .seq #[.int v s.toks, y] }) z TI TO .ellipsis := Heap.get?_push_of_some _ hz₅
  refine wpAny_bind (wpAny_setField_rec hz₆ (by simp) fun h₇ hz₇ hs₇ => ?_)
  replace hz₇ : IsZip h₇ z TI TO (rawInt h₅.objs.size) := hz₇
  refine wpAny_setField_rec hz₇ (by simp) fun h₈ hz₈ hs₈ => ?_
  replace hz₈ : IsZip h₈ z TI TO (rawInt h₅.objs.size) := hz₈
  have up : ∀ c o, c ≠ z → h₅.get? c = some o → h₈.get? c = some o := fun c o c1 e => hs₈.extBut _ _ c1 (hs₇.extBut _ _ c1 (Heap.get?_push_of_some _ e))
  have hT₈ : IsPair h₈ h₅.objs.size (.int v s.toks) y := hs₈.extBut _ _ (Nat.ne_of_gt hzlt) (hs₇.extBut _ _ (Nat.ne_of_gt hzlt) (Heap.get?_push_size _ rfl))
  refine wpAny_pure ⟨_, rfl, ?_⟩
  show Q (.ref h₅.objs.size) _
  exact hQ h₈ _ _ _ hz₈ ⟨_, _, up _ _ D.TOz hTO₅⟩ (up _ _ D.i1z h1₅) (h2₅.at fun o e => up _ o D.i2z e) hT₈ (by lia) fun c o c1 c2 c3 c4 e => up c o c1 (hk₅ c o c1 c2 c3 c4 e)
theorem zr_next_end {z TI TO i1 i2 l2 : Addr} {v left step : Int} {Q : Fin → Shared → Prop} (hh : A.handled = none) (D : ZrApart z TI TO i1 i2 l2)
    (hz : IsZip s.heap z TI TO .none) (hTI : IsPair s.heap TI (.ref i1) (.ref i2)) (h1 : IsRangeIter s.heap i1 v left step) (hleft : left ≤ 0)
    (hE : ∀ h' e, (∀ c o, c ≠ z → s.heap.get? c = some o → h'.get? c = some o) → (∃ o, h'.get? e = some o ∧ o.cls = .type "StopIteration") → E (.ref e) { s with heap := h' }) :
    wpAny (model prog w) A (Builtin.«zip.__next__» ⟨[.ref z], []⟩) Q E s := by
  show wpAny _ _ (field (.ref z) 2 >>= _) _ _ _
  refine wpAny_bind (wpAny_field hz rfl (x := .bool false) rfl ?_)
  show wpAny _ _ (field (.ref z) 3 >>= _) _ _ _
  refine wpAny_bind (wpAny_field hz rfl (x := .ref TI) rfl ?_)
  refine wpAny_bind (wpAny_seqItems hTI rfl ?_)
  show wpAny _ _ (Builtin.SmallTypes.ownedTupleIsFree (.ref z) >>= _) _ _ _
  refine wpAny_bind ?_
  unfold Builtin.SmallTypes.ownedTupleIsFree
  refine wpAny_bind (wpAny_field hz rfl (x := .none) rfl (wpAny_pure ?_))
  simp only [if_true]
  refine wpAny_bind (wpAny_rule ?_)
  refine wpAny_bind (wpAny_field hz rfl (x := .ref TO) rfl ?_)
  refine wpAny_bind (wpAny_setField_rec hz (by simp) fun h₁ hz₁ hs₁ => ?_)
  replace hz₁ : IsZip h₁ z TI TO .ellipsis := hz₁
  refine wpAny_bind ?_
  simp only [List.zipIdx_cons, List.zipIdx_nil, List.forIn_cons, List.forIn_nil]
  refine wpAny_bind (wpAny_bind (wpAny_onRaise ?_))
  show wpAny _ _ (Builtin.SmallTypes.nextOf (.ref i1) >>= _) _ _ _
  refine wpAny_bind (nextOf_range_end hh (hs₁.extBut _ _ D.i1z h1) hleft fun h₂ e hs₂ he => ?_)
  obtain ⟨oe, hoe, hce⟩ := he
  have hz₂ : IsZip h₂ z TI TO .ellipsis := hs₂ _ _ hz₁
  have hez : e ≠ z := fun x => by subst x; rw [hz₂] at hoe; cases hoe; simp at hce
  exact wpAny_setField_rec hz₂ (by simp) fun h₃ _ hs₃ => hE h₃ e (fun c o c1 x => hs₃.extBut _ _ c1 (hs₂ _ _ (hs₁.extBut _ _ c1 x))) ⟨oe, hs₃.extBut _ _ hez hoe, hce⟩
theorem pyNext_zr_item {z TI TO i1 i2 l2 : Addr} {v left step : Int} {k2 : Nat} {ys : Array Value} {y a b : Value} {Q : Option Value → Shared → Prop} (D : ZrApart z TI TO i1 i2 l2)
    (hz : IsZip s.heap z TI TO .none) (hTI : IsPair s.heap TI (.ref i1) (.ref i2)) (hTO : IsPair s.heap TO a b)
    (h1 : IsRangeIter s.heap i1 v left step) (hleft : 0 < left) (h2 : s.heap.IsListIter i2 l2 k2) (hl2 : s.heap.IsList l2 ys) (hy : ys[k2]? = some y)
    (hQ : ∀ h' (T : Addr) t tk', IsZip h' z TI TO (rawInt (T : Nat)) → (∃ a b, IsPair h' TO a b) → IsRangeIter h' i1 (v + step) (left - 1) step → h'.IsListIter i2 l2 (k2 + 1) → IsPair h' T (.int v t) y → s.heap.objs.size ≤ T →
      (∀ c o, c ≠ z → c ≠ TO → c ≠ i1 → c ≠ i2 → s.heap.get? c = some o → h'.get? c = some o) → Q (some (.ref T)) { s with heap := h', toks := tk' }) :
    wpAny (model prog w) A (pyNext (.ref z)) Q E s := by
  have hT : s.TypeIs (.ref z) "zip" := ⟨_, hz, rfl⟩
  unfold pyNext
  exact wpAny_bind (wpAny_attempt (wpAny_callSpecial?_slot (name := Str.ofString "__next__") hT F.slot_zip_next
    (wpAny_call_entry F.slot_zip_next hT F.entry_zip_next
      (zr_next_item D hz hTI hTO h1 hleft h2 hl2 hy fun h' T t tk' a1 a2 a3 a4 a5 a6 a7 => wpAny_pure (hQ h' T t tk' a1 a2 a3 a4 a5 a6 a7)) (F.args_zip_next_1 _))))
theorem pyNext_zr_end {z TI TO i1 i2 l2 : Addr} {v left step : Int} {Q : Option Value → Shared → Prop} (hh : A.handled = none) (D : ZrApart z TI TO i1 i2 l2)
    (hz : IsZip s.heap z TI TO .none) (hTI : IsPair s.heap TI (.ref i1) (.ref i2)) (h1 : IsRangeIter s.heap i1 v left step) (hleft : left ≤ 0)
    (hQ : ∀ h', (∀ c o, c ≠ z → s.heap.get? c = some o → h'.get? c = some o) → Q none { s with heap := h' }) : wpAny (model prog w) A (pyNext (.ref z)) Q E s := by
  have hT : s.TypeIs (.ref z) "zip" := ⟨_, hz, rfl⟩
  unfold pyNext
  refine wpAny_bind (wpAny_attempt (wpAny_callSpecial?_slot (name := Str.ofString "__next__") hT F.slot_zip_next
    (wpAny_call_entry F.slot_zip_next hT F.entry_zip_next (zr_next_end hh D hz hTI h1 hleft fun h' e hk he => ?_) (F.args_zip_next_1 _))))
  obtain ⟨o, ho, hc⟩ := he
  refine wpAny_bind (wpAny_isInstance (T := "StopIteration") (b := true) ⟨o, ho, hc⟩ isSubtype_stop ?_)
  exact wpAny_pure (hQ _ hk)
end
noncomputable abbrev zrH1 (h : Heap) (a b c : Int) : Heap := h.push { cls := .type "range_iterator", data := .fields #[rawInt a, rawInt (Builtin.Range.rangeSize a b c), rawInt c] }
noncomputable abbrev zrH3 (h : Heap) (a b c : Int) (it : Addr) : Heap := (zrH1 h a b c).push { cls := .type "tuple", data := .seq #[.ref h.objs.size, .ref it] }
noncomputable abbrev zrH4 (h : Heap) (a b c : Int) (it : Addr) : Heap := (zrH3 h a b c it).push { cls := .type "tuple", data := .seq #[.none, .none] }
noncomputable abbrev zrH5 (h : Heap) (a b c : Int) (it : Addr) : Heap := (zrH4 h a b c it).push { cls := .type "zip", data := .fields #[.none, .bool false, .bool false, .ref (zrH1 h a b c).objs.size, .ref (zrH3 h a b c it).objs.size] }
theorem meets_zr_new (r it l : Addr) (a b c : Int) (t u v : Tok) (k : Nat) :
    Meets (Builtin.«zip.__new__» ⟨[.type "zip", .ref r, .ref it], []⟩) (fun _ R s => IsRange s.heap r a b c t u v ∧ Builtin.Range.small a b c = true ∧ s.heap.IsListIter it l k ∧
      R (.ok (.ret (.ref (zrH4 s.heap a b c it).objs.size))) { s with heap := zrH5 s.heap a b c it }) :=
  .of_wp fun prog w A R s h => by
    obtain ⟨hp, g, d, tk, os⟩ := s; obtain ⟨hr, hsm, hit, h⟩ := h
    have hsub := sub_zip
    have hL1 : IsRange (Shared.heap ⟨hp, g, d, tk, os⟩) r a b c t u v := hr
    have hL2 : Heap.IsListIter (Shared.heap ⟨zrH1 hp a b c, g, d, tk, os⟩) it l k := hit.at fun o e => Heap.get?_push_of_some _ e
    wp_walk using wpAny_pyIter_range hL1 hsm, wpAny_pyIter_listiter hL2
    exact ⟨_, rfl, h⟩
section
variable {prog : Program} {w : World} {A : Around} {E : Value → Shared → Prop} {s : Shared}
theorem call_zr {r it l : Addr} {a b c : Int} {t u v : Tok} {k : Nat} {Q : Value → Shared → Prop} (hr : IsRange s.heap r a b c t u v) (hsm : Builtin.Range.small a b c = true) (hit : s.heap.IsListIter it l k)
    (h : ∀ h', IsZip h' (s.heap.objs.size + 3) (s.heap.objs.size + 1) (s.heap.objs.size + 2) .none → IsPair h' (s.heap.objs.size + 1) (.ref s.heap.objs.size) (.ref it) →
      IsPair h' (s.heap.objs.size + 2) .none .none → IsRangeIter h' s.heap.objs.size a (Builtin.Range.rangeSize a b c) c → h'.objs.size = s.heap.objs.size + 4 →
      (∀ c o, s.heap.get? c = some o → h'.get? c = some o) → Q (.ref (s.heap.objs.size + 3)) { s with heap := h' }) :
    wpAny (model prog w) A (call (.type "zip") [.ref r, .ref it]) Q E s := by
  refine callType_new F.called_zip (by decide) (F.typeCall_zip_2 _ _) (F.newCall_zip_2 _ _) (fun obj => F.args_object_init_3 obj _ _) F.entry_zip_new
    (meets_zr_new r it l a b c t u v k) ⟨hr, hsm, hit, ?_⟩
  have z1 : (zrH1 s.heap a b c).objs.size = s.heap.objs.size + 1 := Heap.size_push ..
  have z3 : (zrH3 s.heap a b c it).objs.size = s.heap.objs.size + 2 := by rw [Heap.size_push, z1]
  have z4 : (zrH4 s.heap a b c it).objs.size = s.heap.objs.size + 3 := by rw [Heap.size_push, z3]
  have z5 : (zrH5 s.heap a b c it).objs.size = s.heap.objs.size + 4 := by rw [Heap.size_push, z4]
  have g5 : (zrH5 s.heap a b c it).get? (zrH4 s.heap a b c it).objs.size = some _ := Heap.get?_push_size _ rfl
  have g4 : (zrH5 s.heap a b c it).get? (zrH3 s.heap a b c it).objs.size = some _ := Heap.get?_push_of_some _ (Heap.get?_push_size _ rfl)
  have g3 : (zrH5 s.heap a b c it).get? (zrH1 s.heap a b c).objs.size = some _ := Heap.get?_push_of_some _ (Heap.get?_push_of_some _ (Heap.get?_push_size _ rfl))
  have g1 : (zrH5 s.heap a b c it).get? s.heap.objs.size = some _ := Heap.get?_push_of_some _ (Heap.get?_push_of_some _ (Heap.get?_push_of_some _ (Heap.get?_push_size _ rfl)))
  show _ ∧ _
  rw [z1, z3, z4] at g5
  rw [z1] at g3
  rw [z3] at g4
  rw [z4]
  exact ⟨⟨_, g5, rfl⟩, h _ g5 g3 g4 g1 z5 fun c o x =>
    Heap.get?_push_of_some _ (Heap.get?_push_of_some _ (Heap.get?_push_of_some _ (Heap.get?_push_of_some _ x)))⟩
end
end Mine
end
section -- Zc
open PySem PySem.W PyProof.Rows PyProof.Rows.LCg PyProof.Rows.LCp PyProof.V PySem.Calls
namespace Mine
theorem lenS {l : List Value} {n : Nat} (h : l.length = n + 1) : ∃ a r, l = a :: r ∧ r.length = n := by
  cases l with
  | nil => cases h
  | cons a r => exact ⟨a, r, rfl, Nat.succ.inj h⟩
theorem len2 {l : List Value} (h : l.length = 2) : ∃ a b, l = [a, b] := by
  obtain ⟨a, r, e, h1⟩ := lenS h
  obtain ⟨b, r', e', h2⟩ := lenS h1
  exact ⟨a, b, by rw [e, e', List.length_eq_zero_iff.mp h2]⟩
theorem len3 {l : List Value} (h : l.length = 3) : ∃ a b c, l = [a, b, c] := by
  obtain ⟨a, r, e, h1⟩ := lenS h
  obtain ⟨b, c, e'⟩ := len2 h1
  exact ⟨a, b, c, by rw [e, e']⟩
section
variable {prog : Program} {w : World} {A : Around} {E : Value → Shared → Prop} {s : Shared} {env : Env}
/-- a walk whose end tells Fin of the memory -/
structure WalksF (prog : Program) (w : World) (A : Around) (I : Addr) (fp wr : List Addr) (n : Nat) (Pt : Nat → List Value → Prop) (St : Nat → Heap → Prop) (Mid : Nat → Addr → Heap → Prop) (Fin : Heap → Prop) : Prop where
  sub : ∀ b ∈ wr, b ∈ fp
  frame : ∀ i h h', St i h → (∀ b ∈ fp, ∀ o, h.get? b = some o → h'.get? b = some o) → St i h'
  live : ∀ i h, St i h → ∀ b ∈ wr, h.get? b ≠ none
  frameF : ∀ h h', Fin h → (∀ b ∈ fp, ∀ o, h.get? b = some o → h'.get? b = some o) → Fin h'
  item : ∀ i (s : Shared) (Q : Option Value → Shared → Prop) (E : Value → Shared → Prop), i < n → St i s.heap →
    (∀ T vals h' tk, Pt i vals → IsTup h' T vals.toArray → Mid i T h' → (∀ b o, b ∉ wr → s.heap.get? b = some o → h'.get? b = some o) → Q (some (.ref T)) { s with heap := h', toks := tk }) →
    wpAny (model prog w) A (pyNext (.ref I)) Q E s
  go : ∀ (elts : List Expr) (k : Nat) (pos : Pos) i T (s : Shared) (Q : Unit → Shared → Prop) (E : Value → Shared → Prop), Mid i T s.heap →
    (∀ h', St (i + 1) h' → (∀ b o, b ∉ wr → s.heap.get? b = some o → h'.get? b = some o) → Q () { s with heap := h' }) →
    wpAny (model prog w) A (letOwnedTupleGo (.Tuple elts k pos) (.ref I) (.ref T)) Q E s
  apart : ∀ i T h, Mid i T h → T ∉ wr
  done : ∀ (s : Shared) (Q : Option Value → Shared → Prop) (E : Value → Shared → Prop), St n s.heap →
    (∀ h' tk, Fin h' → (∀ b o, b ∉ wr → s.heap.get? b = some o → h'.get? b = some o) → Q none { s with heap := h', toks := tk }) → wpAny (model prog w) A (pyNext (.ref I)) Q E s
  self : ∀ i (s : Shared) (Q : Value → Shared → Prop) (E : Value → Shared → Prop), St i s.heap → Q (.ref I) s → wpAny (model prog w) A (pyIter (.ref I)) Q E s
/-- the target's names take the drawn tuple's items -/
def AsgOk (prog : Program) (w : World) (A : Around) (env : Env) (scope : Scope) (cl : List (Str × Addr)) (target : Expr) (ar : Nat) (Bd : (Str → Option Value) → List Value → Prop) : Prop :=
  ∀ (vals : List Value) (T C : Addr) (m' : Str → Option Value) (s : Shared) (Q : Unit → Shared → Prop) (E : Value → Shared → Prop), vals.length = ar → IsTup s.heap T vals.toArray → s.heap.Ns C m' →
    (∀ h' tk' m'', h'.Ns C m'' → (∀ b o, b ≠ C → s.heap.get? b = some o → h'.get? b = some o) → Bd m'' vals → Q () { s with heap := h', toks := tk' }) →
    wpAny (model prog w) A (assign target (compEnvC scope cl C env) (.ref T)) Q E s
theorem block_T {elt iter : Expr} {elts : List Expr} {tp : Pos} {tk} {scope : Scope} {cl : List (Str × Addr)} {pos : Pos} {s₂ : Shared} {I : Addr} {fp wr : List Addr} {n : Nat} {Pt : Nat → List Value → Prop} {St : Nat → Heap → Prop} {Mid : Nat → Addr → Heap → Prop} {FinP : Heap → Prop} {ar : Nat} {Bd : (Str → Option Value) → List Value → Prop}
    {R : Nat → Value → List (Addr × Obj) → Prop} {RR : Value → Addr → Result → Shared → Prop}
    (W : WalksF prog w A I fp wr n Pt St Mid FinP) (hsz : n ≤ sizeLine)
    (hcell : ∀ y ∈ scope.names, y.2 ≠ .cell) (hkind : scope.kind = .function) (hAsg : AsgOk prog w A env scope cl (.Tuple elts tk tp) ar Bd) (har : ∀ i vals, Pt i vals → vals.length = ar)
    (hst : St 0 s₂.heap) (hfp : ∀ b ∈ fp, b < s₂.heap.objs.size)
    (hElt : ∀ i vals C h tk m₂ (E' : Value → Shared → Prop), i < n → Pt i vals → h.Ns C m₂ → Bd m₂ vals → (∀ b o, b ∉ wr → s₂.heap.get? b = some o → h.get? b = some o) →
      wpAny (model prog w) A (eval elt (compEnvC scope cl C env)) (fun y s₄ => ∃ h' tk' nw, s₄ = { s₂ with heap := h', toks := tk' } ∧ Ext h h' ∧ (∀ q ∈ nw, h'.get? q.1 = some q.2 ∧ h.get? q.1 = none) ∧ R i y nw) E' { s₂ with heap := h, toks := tk })
    (hRR : ∀ D C h tk m' ys nwl, (∀ b o, b ∉ wr → s₂.heap.get? b = some o → h.get? b = some o) → FinP h → h.Ns C m' → s₂.heap.get? C = none → C ∉ fp → (∀ q ∈ (D, lst ys) :: nwl, h.get? q.1 = some q.2 ∧ s₂.heap.get? q.1 = none ∧ q.1 ≠ C) → (∀ q ∈ nwl, q.1 ≠ D) →
      ys.length = n → (∀ j y, ys[j]? = some y → ∃ nw, (∀ q ∈ nw, q ∈ nwl) ∧ R j y nw) → RR (.ref D) C (.ok .next) { s₂ with heap := h, toks := tk }) :
    wpAny (model prog w) A (newList []) (fun acc s₃ => wpAny (model prog w) A (newFunctionEnv scope env.globals cl [] env.qual none .none (some env)) (fun cenv s₄ =>
      codeAny (model prog w) A (.compStart (.ListComp elt [⟨.Tuple elts tk tp, iter, [], 0⟩] scope pos) 0 (.ref I) acc { cenv with scope := relabel scope env }) (RR acc cenv.locals) s₄) E s₃) E s₂ := by
  refine wpAny_newObj_type (wpAny_newFunctionEnv hcell (by intro y hy; simp at hy) (fun h₁ hns₁ hsb₁ => ?_) hkind)
  dsimp only at hns₁ hsb₁ ⊢
  generalize hH2 : s₂.heap.push { cls := .type "list", dict := none, data := .seq ([] : List Value).toArray } = H2 at hns₁ hsb₁ ⊢
  have hC : H2.objs.size = s₂.heap.objs.size + 1 := by rw [← hH2, Heap.size_push]
  have hDC : s₂.heap.objs.size ≠ H2.objs.size := by rw [hC]; exact Nat.ne_of_lt (Nat.lt_succ_self _)
  have below : ∀ b, b < s₂.heap.objs.size → b ≠ H2.objs.size ∧ b ≠ s₂.heap.objs.size := fun b hb => ⟨by rw [hC]; exact Nat.ne_of_lt (Nat.lt_succ_of_lt hb), Nat.ne_of_lt hb⟩
  have hDf : s₂.heap.objs.size ∉ fp := fun hm => Nat.lt_irrefl _ (hfp _ hm)
  have hCf : H2.objs.size ∉ fp := fun hm => by have := hfp _ hm; rw [hC] at this; exact Nat.lt_irrefl _ (Nat.lt_of_succ_lt this)
  have hDw : s₂.heap.objs.size ∉ wr := fun hm => hDf (W.sub _ hm)
  have hCw : H2.objs.size ∉ wr := fun hm => hCf (W.sub _ hm)
  have old : ∀ b o, s₂.heap.get? b = some o → h₁.get? b = some o := fun b o e => hsb₁.extBut b o (below b (Heap.lt_size e)).1 (Heap.get?_push_of_some _ (hH2 ▸ Heap.get?_push_of_some _ e))
  have hacc : h₁.get? s₂.heap.objs.size = some (lst []) := hsb₁.extBut _ _ hDC (Heap.get?_push_of_some _ (hH2 ▸ Heap.get?_push_size _ rfl))
  have hst₁ : St 0 h₁ := W.frame _ _ _ hst fun b _ o e => old b o e
  have fresh : ∀ a, s₂.heap.objs.size ≤ a → s₂.heap.get? a = none := fun a ha => by
    cases e : s₂.heap.get? a with
    | none => rfl
    | some o' => exact absurd (Heap.lt_size e) (Nat.not_lt.mpr ha)
  have hD₀ : s₂.heap.get? s₂.heap.objs.size = none := fresh _ (Nat.le_refl _)
  have hC₀ : s₂.heap.get? H2.objs.size = none := fresh _ (by rw [hC]; exact Nat.le_succ _)
  have loop : ∀ s₃ : Shared, s₃ = { s₂ with heap := h₁, toks := s₂.toks + ([] : List (Str × Value)).length } →
      codeAny (model prog w) A (.compLoop (.ListComp elt [⟨.Tuple elts tk tp, iter, [], 0⟩] scope pos) 0 (.ref I) (.ref s₂.heap.objs.size) (compEnvC scope cl H2.objs.size env))
        (RR (.ref s₂.heap.objs.size) H2.objs.size) s₃ := by
    rintro s₃ rfl
    refine codeAny_compLoop_pair
      (fun k s' => ∃ h' tk i ys m' nwl, s' = { s₂ with heap := h', toks := tk } ∧ i ≤ n ∧ k = n + 1 - i ∧ ys.length = i ∧ St i h' ∧ (∀ b o, b ∉ wr → s₂.heap.get? b = some o → h'.get? b = some o) ∧ h'.Ns H2.objs.size m' ∧
        (∀ q ∈ (s₂.heap.objs.size, lst ys) :: nwl, h'.get? q.1 = some q.2 ∧ s₂.heap.get? q.1 = none ∧ q.1 ≠ H2.objs.size ∧ q.1 ∉ wr) ∧ (∀ q ∈ nwl, q.1 ≠ s₂.heap.objs.size) ∧ (∀ j y, ys[j]? = some y → ∃ nw, (∀ q ∈ nw, q ∈ nwl) ∧ R j y nw)) ?_ (n + 1)
      ⟨h₁, _, 0, [], _, [], rfl, Nat.zero_le _, rfl, rfl, hst₁, fun b o _ e => old b o e, hns₁, fun q hq => ?_, fun _ hq => (nomatch hq), fun j y e => by simp at e⟩
    · rintro k s' ⟨h', tk, i, ys, m', nwl, rfl, hi, rfl, hyl, hst', K', hn', N', off', R'⟩
      by_cases hlt : i < n
      · refine W.item i _ _ _ hlt hst' fun T vals h₂ tk₂ hPv hT hMid hk₂ => ?_
        refine W.go _ _ _ _ _ _ _ _ hMid fun h₂' hst₂ hk₂' => ?_
        have hTw := W.apart _ _ _ hMid
        have hT' : IsTup h₂' T vals.toArray := (let ⟨o, e, r⟩ := hT; ⟨o, hk₂' _ o hTw e, r⟩)
        refine hAsg vals T H2.objs.size _ _ _ _ (har _ _ hPv) hT' ((hn'.at' fun o e => hk₂ _ o hCw e).at' fun o e => hk₂' _ o hCw e) fun h₃ tk₃ m₃ hn₃ hs₃ hBd => ?_
        have old3 : ∀ b o, b ≠ H2.objs.size → b ∉ wr → h'.get? b = some o → h₃.get? b = some o := fun b o hb hw e => hs₃ b o hb (hk₂' b o hw (hk₂ b o hw e))
        have hst₃ : St (i + 1) h₃ := W.frame _ _ _ hst₂ fun b hb o e => by
          have q : b ≠ H2.objs.size := fun q => hCf (by rw [← q]; exact hb)
          exact hs₃ b o q e
        have K₃ : ∀ b o, b ∉ wr → s₂.heap.get? b = some o → h₃.get? b = some o := fun b o hw e => old3 b o (fun q => by rw [q, hC₀] at e; cases e) hw (K' b o hw e)
        have N₃ : ∀ q ∈ (s₂.heap.objs.size, lst ys) :: nwl, h₃.get? q.1 = some q.2 := fun q hq => old3 _ _ (N' q hq).2.2.1 (N' q hq).2.2.2 (N' q hq).1
        refine wpAny_mono (hElt i vals H2.objs.size h₃ _ _ _ hlt hPv hn₃ hBd K₃) (fun y s₄ h₄ => ?_) fun _ _ e => e
        obtain ⟨h₄, tk₄, nw, rfl, e4, nw4, R4⟩ := h₄
        have zD := e4 _ _ (N₃ _ (.head _))
        refine append_at (hsz := by show ys.toArray.size ≤ sizeLine; rw [List.size_toArray, hyl]; exact Nat.le_trans hi hsz) zD fun h₅' hs₅ hD₅ => ?_
        have nwD : ∀ q ∈ nw, q.1 ≠ s₂.heap.objs.size := fun q hq e => by have := (nw4 q hq).2; rw [e, N₃ _ (.head _)] at this; cases this
        refine ⟨n + 1 - (i + 1), by lia, h₅', tk₄, i + 1, ys ++ [y], _, nwl ++ nw, rfl, hlt, rfl, by rw [List.length_append, List.length_singleton, hyl],
          W.frame _ _ _ hst₃ fun b hb o e => hs₅.extBut b o (fun q => hDf (q ▸ hb)) (e4 b o e), fun b o hw e => hs₅.extBut _ _ (below _ (Heap.lt_size e)).2 (e4 _ _ (K₃ b o hw e)),
          (hn₃.keeps e4).sameBut hs₅ (Ne.symm hDC), fun q hq => ?_, fun q hq => ?_, fun j y' e => ?_⟩
        · rcases List.mem_cons.mp hq with rfl | hq
          · exact ⟨hD₅.trans (congrArg some (lst_snoc ys y)), hD₀, hDC, hDw⟩
          · rcases List.mem_append.mp hq with hq | hq
            · have z := N' q (.tail _ hq)
              exact ⟨hs₅.extBut _ _ (off' q hq) (e4 _ _ (N₃ q (.tail _ hq))), z.2⟩
            · refine ⟨hs₅.extBut _ _ (nwD q hq) (nw4 q hq).1, ?_, fun e => ?_, fun hw => ?_⟩
              · cases e : s₂.heap.get? q.1 with
                | none => rfl
                | some o =>
                  exfalso
                  by_cases hw : q.1 ∈ wr
                  · exact W.live _ _ hst₃ _ hw (nw4 q hq).2
                  · have := K₃ _ _ hw e; rw [(nw4 q hq).2] at this; cases this
              · have z := (nw4 q hq).2
                obtain ⟨o, eo, _⟩ := ns_obj hn₃
                have eo' : h₃.get? H2.objs.size = some o := eo
                rw [e, eo'] at z; cases z
              · exact W.live _ _ hst₃ _ hw (nw4 q hq).2
        · rcases List.mem_append.mp hq with hq | hq
          · exact off' q hq
          · exact nwD q hq
        · rcases Nat.lt_or_ge j ys.length with hj | hj
          · rw [List.getElem?_append_left hj] at e
            obtain ⟨nw', a, b⟩ := R' j y' e
            exact ⟨nw', fun q hq => List.mem_append_left _ (a q hq), b⟩
          · rw [List.getElem?_append_right hj] at e
            have hj0 : j - ys.length = 0 := by
              rcases Nat.eq_zero_or_pos (j - ys.length) with h | h
              · exact h
              · rw [List.getElem?_eq_none (by simp; lia)] at e; cases e
            rw [hj0] at e
            have hji : j = i := by lia
            simp only [List.getElem?_cons_zero, Option.some.injEq] at e
            subst e hji
            exact ⟨nw, fun q hq => List.mem_append_right _ hq, R4⟩
      · obtain rfl : i = n := Nat.le_antisymm hi (Nat.not_lt.mp hlt)
        refine W.done _ _ _ hst' fun h₂ tk₂ hF hk₂ => ?_
        exact hRR _ _ h₂ tk₂ _ ys nwl (fun b o hw e => hk₂ _ _ hw (K' b o hw e)) hF (hn'.at' fun o e => hk₂ _ o hCw e) hC₀ hCf (fun q hq => ⟨hk₂ _ _ (N' q hq).2.2.2 (N' q hq).1, (N' q hq).2.1, (N' q hq).2.2.1⟩) off' hyl R'
    · rcases List.mem_cons.mp hq with rfl | hq
      · exact ⟨hacc, hD₀, hDC, hDw⟩
      · cases hq
  exact codeAny_compStart_list (loop _ rfl) (W.self 0 _ _ _ hst₁ (loop _ rfl))
/-- zip(range(..), it) drawn n times -/
theorem WalksF.zr (hh : A.handled = none) {z TI TO i1 i2 l2 : Addr} (D : ZrApart z TI TO i1 i2 l2) (v0 st : Int) (n : Nat) (ys : Array Value) (hn : n ≤ ys.size) :
    WalksF prog w A z [z, TI, TO, i1, i2, l2] [z, TO, i1, i2] n (fun i vals => ∃ t b, vals = [.int (v0 + i * st) t, b] ∧ ys[i]? = some b)
      (fun i h => IsZip h z TI TO .none ∧ IsPair h TI (.ref i1) (.ref i2) ∧ (∃ a b, IsPair h TO a b) ∧ IsRangeIter h i1 (v0 + i * st) ((n : Int) - i) st ∧ h.IsListIter i2 l2 i ∧ h.IsList l2 ys)
      (fun i T h => (IsZip h z TI TO (rawInt (T : Nat)) ∧ IsPair h TI (.ref i1) (.ref i2) ∧ (∃ a b, IsPair h TO a b) ∧ IsRangeIter h i1 (v0 + (i + 1 : Nat) * st) ((n : Int) - (i + 1 : Nat)) st ∧ h.IsListIter i2 l2 (i + 1) ∧ h.IsList l2 ys) ∧ T ∉ [z, TO, i1, i2])
      (fun h => h.IsListIter i2 l2 n ∧ h.IsList l2 ys) where
  sub := fun c hc => by simp at hc ⊢; rcases hc with rfl | rfl | rfl | rfl <;> simp
  frame := fun i h h' hst hk => by
    obtain ⟨hz, hTI, ⟨a, b, hTO⟩, h1, h2, hl2⟩ := hst
    exact ⟨hk z (by simp) _ hz, hk TI (by simp) _ hTI, ⟨a, b, hk TO (by simp) _ hTO⟩, hk i1 (by simp) _ h1, h2.at fun o e => hk i2 (by simp) o e, hl2.at fun o e => hk l2 (by simp) o e⟩
  live := fun i h hst b hb => by
    obtain ⟨hz, hTI, ⟨a, c, hTO⟩, h1, ⟨o, h2, _⟩, hl2⟩ := hst
    simp at hb
    rcases hb with rfl | rfl | rfl | rfl
    · rw [hz]; simp
    · rw [hTO]; simp
    · rw [h1]; simp
    · rw [h2]; simp
  frameF := fun h h' hst hk => ⟨hst.1.at fun o e => hk i2 (by simp) o e, hst.2.at fun o e => hk l2 (by simp) o e⟩
  item := fun i s Q E hi hst hQ => by
    obtain ⟨hz, hTI, ⟨a, b, hTO⟩, h1, h2, hl2⟩ := hst
    have hiy : i < ys.size := Nat.lt_of_lt_of_le hi hn
    refine pyNext_zr_item D hz hTI hTO h1 (by lia) h2 hl2 (Array.getElem?_eq_getElem hiy) fun h' T t tk' a1 a2 a3 a4 a5 a6 hk => ?_
    have lt : ∀ {c o}, s.heap.get? c = some o → T ≠ c := fun e => Nat.ne_of_gt (Nat.lt_of_lt_of_le (Heap.lt_size e) a6)
    have e1 : v0 + (i : Int) * st + st = v0 + (i + 1 : Nat) * st := by rw [Int.natCast_add, Int.add_mul]; simp [Int.add_assoc]
    have e2 : (n : Int) - i - 1 = (n : Int) - (i + 1 : Nat) := by lia
    rw [e1, e2] at a3
    obtain ⟨o2, g2, _⟩ := h2
    refine hQ T _ h' tk' ⟨t, _, rfl, Array.getElem?_eq_getElem hiy⟩ ⟨_, a5, rfl, _, rfl⟩ ⟨⟨a1, hk _ _ D.TIz D.TITO D.TIi1 D.TIi2 hTI, a2, a3, a4, hl2.at fun o e => hk _ o D.l2z D.l2TO D.l2i1 D.l2i2 e⟩, fun hT => ?_⟩
      fun c o hc e => hk c o (fun x => hc (by simp [x])) (fun x => hc (by simp [x])) (fun x => hc (by simp [x])) (fun x => hc (by simp [x])) e
    simp at hT
    rcases hT with e | e | e | e
    · exact lt hz e
    · exact lt hTO e
    · exact lt h1 e
    · exact lt g2 e
  go := fun elts k pos i T s Q E hm hQ => by
    obtain ⟨⟨hz, hTI, ⟨a, b, hTO⟩, h1, h2, hl2⟩, _⟩ := hm
    refine wpAny_letOwnedTupleGo_zip hz fun h' hz' hs' => hQ h' ⟨hz', hs'.extBut _ _ D.TIz hTI, ⟨a, b, hs'.extBut _ _ D.TOz hTO⟩, hs'.extBut _ _ D.i1z h1, h2.extBut hs'.extBut D.i2z,
      hl2.extBut hs'.extBut D.l2z⟩ fun c o hc e => hs'.extBut _ _ (fun x => hc (by simp [x])) e
  apart := fun i T h hm => hm.2
  done := fun s Q E hst hQ => by
    obtain ⟨hz, hTI, ⟨a, b, hTO⟩, h1, h2, hl2⟩ := hst
    refine pyNext_zr_end hh D hz hTI h1 (by lia) fun h' hk => hQ h' _ ⟨h2.at fun o e => hk _ o D.i2z e, hl2.at fun o e => hk _ o D.l2z e⟩ fun c o hc e => hk c o (fun x => hc (by simp [x])) e
  self := fun i s Q E hst hQ => by
    obtain ⟨hz, _⟩ := hst
    exact wpAny_pyIter_zip hz hQ
/-- a list whose items are tuples of tn -/
theorem WalksF.items (hh : A.handled = none) (I ax : Addr) (hne : ax ≠ I) (items : Array Value) (tn : List (Addr × Obj)) (htn : ∀ q ∈ tn, q.1 ≠ I)
    (hit : ∀ i, i < items.size → ∃ T o vals n, items[i]? = some (Value.ref T) ∧ (T, o) ∈ tn ∧ o.cls = .type "tuple" ∧ o.data = .seq (vals : List Value).toArray n) :
    WalksF prog w A I (I :: ax :: tn.map (·.1)) [I] items.size (fun i vals => ∃ T o n, items[i]? = some (Value.ref T) ∧ (T, o) ∈ tn ∧ o.data = .seq vals.toArray n)
      (fun i h => h.IsListIter I ax i ∧ h.IsList ax items ∧ ∀ q ∈ tn, h.get? q.1 = some q.2)
      (fun i T h => (h.IsListIter I ax (i + 1) ∧ h.IsList ax items ∧ ∀ q ∈ tn, h.get? q.1 = some q.2) ∧ T ≠ I) (fun _ => True) where
  sub := fun b hb => by rw [List.mem_singleton.mp hb]; exact .head _
  frame := fun i h h' st hk => ⟨st.1.at fun o e => hk I (.head _) o e, st.2.1.at fun o e => hk ax (.tail _ (.head _)) o e, fun q hq => hk _ (.tail _ (.tail _ (List.mem_map.mpr ⟨q, hq, rfl⟩))) _ (st.2.2 q hq)⟩
  live := fun i h st b hb => by
    obtain ⟨o, e, _⟩ := st.1
    rw [List.mem_singleton.mp hb, e]; simp
  frameF := fun _ _ _ _ => trivial
  item := fun i s Q E hi st hQ => by
    obtain ⟨T, o, vals, n, e1, e2, e3, e4⟩ := hit i hi
    refine wpAny_pyNext_list_item st.1 st.2.1 e1 fun h' hit' hs' => ?_
    have up : ∀ q ∈ tn, h'.get? q.1 = some q.2 := fun q hq => hs'.extBut _ _ (htn q hq) (st.2.2 q hq)
    exact hQ T vals h' s.toks ⟨T, o, n, e1, e2, e4⟩ ⟨o, up _ e2, e3, n, e4⟩ ⟨⟨hit', st.2.1.extBut hs'.extBut hne, up⟩, htn _ e2⟩ fun b o hb e => hs'.extBut b o (fun h => hb (by simp [h])) e
  go := fun elts k pos i T s Q E hm hQ => wpAny_letOwnedTupleGo_listiter hm.1.1 (hQ s.heap hm.1 fun _ _ _ e => e)
  apart := fun i T h hm hT => hm.2 (List.mem_singleton.mp hT)
  done := fun s Q E st hQ => wpAny_pyNext_list_end hh st.1 st.2.1 (by simp) fun h' he' => hQ h' s.toks trivial fun b o hb e => he' b o (fun h => hb (by simp [h])) e
  self := fun i s Q E st hQ => wpAny_pyIter_listiter st.1 hQ
end
end Mine
namespace Mine
section
variable {prog : Program} {w : World} {A : Around} {E : Value → Shared → Prop} {s : Shared} {env : Env} {h₀ : Heap} {L : Addr} {m : Str → Option Value}
/-- what the iterable of an assigned comprehension must answer -/
def SrcT (prog : Program) (w : World) (A : Around) (h₀ : Heap) (L : Addr) (m : Str → Option Value) (env : Env) (elt target : Expr) (y : Str) (scope : Scope) (cl : List (Str × Addr)) (Q : Flow → Shared → Prop) (xv : Value) (s₁ : Shared) : Prop :=
  ∃ (I : Addr) (fp wr : List Addr) (n : Nat) (Pt : Nat → List Value → Prop) (St : Nat → Heap → Prop) (Mid : Nat → Addr → Heap → Prop) (FinP : Heap → Prop) (ar : Nat) (Bd : (Str → Option Value) → List Value → Prop) (R : Nat → Value → List (Addr × Obj) → Prop),
    xv = .ref I ∧ AsgOk prog w A env scope cl target ar Bd ∧ (∀ i vals, Pt i vals → vals.length = ar) ∧ Fr h₀ L s₁.heap m ∧ WalksF prog w A I fp wr n Pt St Mid FinP ∧ n ≤ sizeLine ∧ St 0 s₁.heap ∧ (∀ b ∈ fp, b < s₁.heap.objs.size) ∧ L ∉ fp ∧ (∀ b ∈ wr, h₀.get? b = none) ∧
    (∀ i vals C h tk m₂ (E' : Value → Shared → Prop), i < n → Pt i vals → h.Ns C m₂ → Bd m₂ vals → (∀ b o, b ∉ wr → s₁.heap.get? b = some o → h.get? b = some o) →
      wpAny (model prog w) A (eval elt (compEnvC scope cl C env)) (fun y s₄ => ∃ h' tk' nw, s₄ = { s₁ with heap := h', toks := tk' } ∧ Ext h h' ∧ (∀ q ∈ nw, h'.get? q.1 = some q.2 ∧ h.get? q.1 = none) ∧ R i y nw) E' { s₁ with heap := h, toks := tk }) ∧
    (∀ D h tk ys nwl, Fr h₀ L h (fun z => if z = y then some (.ref D) else m z) → (∀ b o, b ∉ wr → b ≠ L → s₁.heap.get? b = some o → h.get? b = some o) → FinP h →
      (∀ q ∈ (D, lst ys) :: nwl, h.get? q.1 = some q.2 ∧ q.1 ≠ L ∧ h₀.get? q.1 = none) → (∀ q ∈ (D, lst ys) :: nwl, s₁.heap.get? q.1 = none) → (∀ q ∈ nwl, q.1 ≠ D) → ys.length = n → (∀ j y, ys[j]? = some y → ∃ nw, (∀ q ∈ nw, q ∈ nwl) ∧ R j y nw) →
      Q .next { s₁ with heap := h, toks := tk })
theorem asg2 {x x₂ : Str} {px px₂ tp : Pos} {tk : Nat} {scope : Scope} {cl : List (Str × Addr)} (hkind : scope.kind = .function) (hh : A.handled = none) (hx : scope.names.lookup x = some .local) (hx₂ : scope.names.lookup x₂ = some .local) (hxx : x ≠ x₂) :
    AsgOk prog w A env scope cl (.Tuple [.Name x px, .Name x₂ px₂] tk tp) 2 (fun m vals => ∀ a b, vals = [a, b] → m x = some a ∧ m x₂ = some b) := by
  intro vals T C m' s Q E hl hT hn hQ
  obtain ⟨a, b, rfl⟩ := len2 hl
  refine assign_Tuple_tuple hh hT rfl rfl fun h₅ he => ?_
  have he' : ∀ b o, s.heap.get? b = some o → h₅.get? b = some o := fun b o e => he b o (Nat.ne_of_lt (Heap.lt_size e)) e
  refine assignInOrder_cons (wpAny_assign_Name (wpAny_storeName_local (lookup_relabel_local hx) (hn.at' fun o e => he' _ o e) (fun h₆ hn₆ hs₆ => ?_) (by simp [compEnvC, relabel, hkind])))
  refine assignInOrder_cons (wpAny_assign_Name (wpAny_storeName_local (lookup_relabel_local hx₂) hn₆ (fun h₃ hn₃ hs₃ => ?_) (by simp [compEnvC, relabel, hkind])))
  refine assignInOrder_nil ?_
  refine hQ h₃ _ _ hn₃ (fun b o hb e => hs₃.extBut b o hb (hs₆.extBut b o hb (he' b o e))) fun a' b' e => ?_
  cases e
  simp [hxx]
theorem asg3 {x x₂ x₃ : Str} {px px₂ px₃ tp : Pos} {tk : Nat} {scope : Scope} {cl : List (Str × Addr)} (hkind : scope.kind = .function) (hh : A.handled = none) (hx : scope.names.lookup x = some .local) (hx₂ : scope.names.lookup x₂ = some .local) (hx₃ : scope.names.lookup x₃ = some .local) :
    AsgOk prog w A env scope cl (.Tuple [.Name x px, .Name x₂ px₂, .Name x₃ px₃] tk tp) 3 (fun m vals => ∀ a b c, vals = [a, b, c] → m x₃ = some c) := by
  intro vals T C m' s Q E hl hT hn hQ
  obtain ⟨a, b, c, rfl⟩ := len3 hl
  refine assign_Tuple_tuple hh hT rfl rfl fun h₅ he => ?_
  have he' : ∀ b o, s.heap.get? b = some o → h₅.get? b = some o := fun b o e => he b o (Nat.ne_of_lt (Heap.lt_size e)) e
  refine assignInOrder_cons (wpAny_assign_Name (wpAny_storeName_local (lookup_relabel_local hx) (hn.at' fun o e => he' _ o e) (fun h₆ hn₆ hs₆ => ?_) (by simp [compEnvC, relabel, hkind])))
  refine assignInOrder_cons (wpAny_assign_Name (wpAny_storeName_local (lookup_relabel_local hx₂) hn₆ (fun h₇ hn₇ hs₇ => ?_) (by simp [compEnvC, relabel, hkind])))
  refine assignInOrder_cons (wpAny_assign_Name (wpAny_storeName_local (lookup_relabel_local hx₃) hn₇ (fun h₃ hn₃ hs₃ => ?_) (by simp [compEnvC, relabel, hkind])))
  refine assignInOrder_nil ?_
  refine hQ h₃ _ _ hn₃ (fun b o hb e => hs₃.extBut b o hb (hs₇.extBut b o hb (hs₆.extBut b o hb (he' b o e)))) fun a' b' c' e => ?_
  cases e
  simp
theorem Assign_T {elt iter : Expr} {elts : List Expr} {y : Str} {tp py : Pos} {tk} {scope : Scope} {cl : List (Str × Addr)} {pos spos : Pos} {Q : Flow → Shared → Prop} (F₀ : Fr h₀ L s.heap m) (hLe : env.locals = L)
    (hsw : swapsWith (.ListComp elt [⟨.Tuple elts tk tp, iter, [], 0⟩] scope pos) (some (.Name y py)) spos.line env = pure true)
    (hclos : closureFor scope env = pure cl) (hcell : ∀ z ∈ scope.names, z.2 ≠ .cell) (hkind : scope.kind = .function)
    (hnames : ∀ z ∈ scope.names, z.2 = .local → scope.names.lookup z.1 = some .local)
    (hy : env.kindOf y = some .local) (hp : (env.scope.kind == .class || (env.scope.kind == .module && env.locals != env.globals)) = false)
    (h : wpAny (model prog w) A (eval iter env) (SrcT prog w A h₀ L m env elt (.Tuple elts tk tp) y scope cl Q) E s)
    (hs : ∀ x, foldedSetIterable iter env x = pure x := by intro _; rfl) :
    wpAny (model prog w) A (exec (.Assign [.Name y py] (.ListComp elt [⟨.Tuple elts tk tp, iter, [], 0⟩] scope pos) spos) env) Q E s := by
  subst hLe
  rw [exec_Assign_Name_used _ _ _ _ hsw]
  refine wpAny_bind (wpAny_standAt (wpAny_bind ?_))
  show wpAny _ A (do let _ ← comprehension (.ListComp elt [⟨.Tuple elts tk tp, iter, [], 0⟩] scope pos) scope env _ (newList []) false (eval iter env) (some (assign (.Name y py) env))) _ _ _
  refine wpAny_bind (wpAny_mono (wpAny_comprehension_free (use := some (assign (.Name y py) env)) (Q := fun _ s' => Q .next s') rfl hs hclos hkind hnames
    (wpAny_mono h (fun xv s₁ h₁ => ?_) fun _ _ e => e)) (fun _ s' hq => wpAny_pure (wpAny_pure hq)) fun _ _ e => e)
  obtain ⟨I, fp, wr, n, Pt, St, Mid, FinP, ar, Bd, R, rfl, hAsg, har, F, W, hsz, hst, hfp, hLf, hw0, hElt, hF⟩ := h₁
  refine W.self 0 _ _ _ hst ?_
  refine block_T W hsz hcell hkind hAsg har hst hfp hElt ?_
  intro D C h tk m' ys nwl K FP hn hC₀ hCf N' off hyl hR
  have hLw : env.locals ∉ wr := fun hm => hLf (W.sub _ hm)
  have hL₀ : h₀.get? env.locals = none := Heap.get?_none_of_le F.above
  have hL1 : s₁.heap.get? env.locals ≠ none := by obtain ⟨o, _, _, e, _⟩ := F.ns; rw [e]; simp
  have hCL : C ≠ env.locals := fun e => hL1 (e ▸ hC₀)
  have nL : ∀ q ∈ (D, lst ys) :: nwl, q.1 ≠ env.locals := fun q hq e => hL1 (e ▸ (N' q hq).2.1)
  have n0 : ∀ q ∈ (D, lst ys) :: nwl, h₀.get? q.1 = none := fun q hq => by
    cases e : h₀.get? q.1 with
    | none => rfl
    | some o => have := F.keep _ _ e; rw [(N' q hq).2.1] at this; cases this
  have hC0 : h₀.get? C = none := by
    cases e : h₀.get? C with
    | none => rfl
    | some o => have := F.keep _ _ e; rw [hC₀] at this; cases this
  have F1 : Fr h₀ env.locals h m := ⟨F.ns.at' fun o e => K _ o hLw e, fun b o e => K b o (fun hm => by rw [hw0 b hm] at e; cases e) (F.keep b o e), F.above⟩
  show wpAny _ A (assign (.Name y py) env (.ref D)) _ _ _
  refine wpAny_assign_Name (wpAny_storeName_local hy F1.ns (fun h₂ hn₂ hs₂ => ?_) hp)
  have F₂ : Fr h₀ env.locals h₂ (fun z => if z = y then some (.ref D) else m z) := ⟨hn₂, fun b o e => hs₂.extBut b o (fun q => by rw [q, hL₀] at e; cases e) (F1.keep b o e), F1.above⟩
  refine ⟨m', hn.sameBut hs₂ hCL, fun h'' hs'' => hF D h'' _ ys nwl (F₂.change hs'' hCL hC0) (fun b o hw hb e => hs''.extBut _ _ (fun q => by rw [q, hC₀] at e; cases e) (hs₂.extBut _ _ hb (K b o hw e)))
    (W.frameF _ _ (W.frameF _ _ FP fun b hb o e => hs₂.extBut _ _ (fun q => hLf (q ▸ hb)) e) fun b hb o e => hs''.extBut _ _ (fun q => hCf (q ▸ hb)) e)
    (fun q hq => ⟨hs''.extBut _ _ (N' q hq).2.2 (hs₂.extBut _ _ (nL q hq) (N' q hq).1), nL q hq, n0 q hq⟩) (fun q hq => (N' q hq).2.1) off hyl hR⟩
/-- a comprehension's value, over a list of tuples of the ledger, the element one name of the target -/
theorem Eval_T {elt iter : Expr} {elts : List Expr} {tp : Pos} {tk} {scope : Scope} {cl : List (Str × Addr)} {pos : Pos} {Q : Value → Shared → Prop}
    (hclos : closureFor scope env = pure cl) (hcell : ∀ z ∈ scope.names, z.2 ≠ .cell) (hkind : scope.kind = .function)
    (hnames : ∀ z ∈ scope.names, z.2 = .local → scope.names.lookup z.1 = some .local)
    {ar : Nat} {Bd : (Str → Option Value) → List Value → Prop} {R : Nat → Value → List (Addr × Obj) → Prop} {news : List (Addr × Obj)}
    (h : wpAny (model prog w) A (eval iter env) (fun xv s₁ => ∃ (ax : Addr) (items : Array Value) (nn : Nat), xv = .ref ax ∧ A.handled = none ∧ AsgOk prog w A env scope cl (.Tuple elts tk tp) ar Bd ∧ Fr h₀ L s₁.heap m ∧
      News h₀ L s₁.heap ((ax, ({ cls := .type "list", data := .seq items nn } : Obj)) :: news) ∧ items.size ≤ sizeLine ∧
      (∀ i, i < items.size → ∃ T o vals n, items[i]? = some (Value.ref T) ∧ (T, o) ∈ news ∧ o.cls = .type "tuple" ∧ o.data = .seq (vals : List Value).toArray n) ∧
      (∀ (i : Nat) (vals : List Value) (T : Addr) (o : Obj) (n : Nat), items[i]? = some (Value.ref T) → (T, o) ∈ news → o.data = .seq vals.toArray n → vals.length = ar) ∧
      (∀ (i : Nat) (vals : List Value) (T : Addr) (o : Obj) (n : Nat) C h tk m₂ (E' : Value → Shared → Prop), items[i]? = some (Value.ref T) → (T, o) ∈ news → o.data = .seq vals.toArray n → h.Ns C m₂ → Bd m₂ vals →
        wpAny (model prog w) A (eval elt (compEnvC scope cl C env)) (fun y s₄ => ∃ h' tk' nw, s₄ = { s₁ with heap := h', toks := tk' } ∧ Ext h h' ∧ (∀ q ∈ nw, h'.get? q.1 = some q.2 ∧ h.get? q.1 = none) ∧ R i y nw) E' { s₁ with heap := h, toks := tk }) ∧
      (∀ D h tk ys, Fr h₀ L h m → News h₀ L h ((D, lst ys) :: (ax, ({ cls := .type "list", data := .seq items nn } : Obj)) :: news) → (∀ q ∈ (ax, ({ cls := .type "list", data := .seq items nn } : Obj)) :: news, q.1 ≠ D) → ys.length = items.size → (∀ j y, ys[j]? = some y → ∃ nw, R j y nw) →
        Q (.ref D) { s₁ with heap := h, toks := tk })) E s)
    (hs : ∀ x, foldedSetIterable iter env x = pure x := by intro _; rfl) :
    wpAny (model prog w) A (eval (.ListComp elt [⟨.Tuple elts tk tp, iter, [], 0⟩] scope pos) env) Q E s := by
  rw [eval_ListComp]
  refine wpAny_comprehension_free (use := none) rfl hs hclos hkind hnames (wpAny_mono h (fun xv s₁ h₁ => ?_) fun _ _ e => e)
  obtain ⟨ax, items, nn, rfl, hh, hAsg, F, N, hsz, hit, har, hElt, hF⟩ := h₁
  have hl : s₁.heap.IsList ax items := ⟨_, (N _ (.head _)).1, rfl, _, rfl⟩
  have hlt : ax < s₁.heap.objs.size := Heap.lt_size (N _ (.head _)).1
  refine wpAny_pyIter_list hl ?_
  have up : ∀ b o, s₁.heap.get? b = some o → (s₁.heap.push { cls := .type "list_iterator", data := .fields #[.ref ax, .int 0 0] }).get? b = some o := fun b o e => Heap.get?_push_of_some _ e
  have old : ∀ b, (∃ o, s₁.heap.get? b = some o) → b ≠ s₁.heap.objs.size := fun b ⟨o, e⟩ => Nat.ne_of_lt (Heap.lt_size e)
  have hne := old ax ⟨_, (N _ (.head _)).1⟩
  have W := WalksF.items (prog := prog) (w := w) hh s₁.heap.objs.size ax hne items news (fun q hq => old _ ⟨_, (N q (.tail _ hq)).1⟩) hit
  refine block_T (R := R) W hsz hcell hkind hAsg (fun i vals ⟨T, o, n, a, b, c⟩ => har i vals T o n a b c) ⟨⟨_, Heap.get?_push_size _ rfl, rfl, rfl⟩, hl.push _, fun q hq => up _ _ (N q (.tail _ hq)).1⟩ ?_ ?_ ?_
  · intro b hb
    show b < (s₁.heap.push _).objs.size
    rw [Heap.size_push]
    rcases List.mem_cons.mp hb with rfl | hb
    · exact Nat.lt_succ_self _
    rcases List.mem_cons.mp hb with rfl | hb
    · exact Nat.lt_succ_of_lt hlt
    obtain ⟨q, hq, rfl⟩ := List.mem_map.mp hb
    exact Nat.lt_succ_of_lt (Heap.lt_size (N q (.tail _ hq)).1)
  · rintro i vals C h tk m₂ E' hi ⟨T, o, n, a, b, c⟩ hns hB K
    exact hElt i vals T o n C h tk m₂ E' a b c hns hB
  · intro D C h tk m' ys nwl K _ hn hC₀ hCf N' off len hR
    have K1 : ∀ b o, s₁.heap.get? b = some o → h.get? b = some o := fun b o e => K b o (fun hm => old b ⟨o, e⟩ (List.mem_singleton.mp hm)) (up b o e)
    have nn' : ∀ b, (s₁.heap.push { cls := .type "list_iterator", data := .fields #[.ref ax, .int 0 0] }).get? b = none → s₁.heap.get? b = none := fun b e => by
      cases e' : s₁.heap.get? b with
      | none => rfl
      | some o => rw [up _ _ e'] at e; cases e
    have hC1 := nn' _ hC₀
    have hCn : ∀ b, (∃ o, s₁.heap.get? b = some o) → b ≠ C := fun b ⟨o, e⟩ q => by rw [q, hC1] at e; cases e
    refine ⟨m', hn, fun h'' hs'' => hF D h'' tk ys ?_ ?_ ?_ len fun j y e => let ⟨nw, _, r⟩ := hR j y e; ⟨nw, r⟩⟩
    · obtain ⟨oL, _, _, eL, _⟩ := id F.ns
      have e0 : h₀.get? C = none := by
        cases e : h₀.get? C with
        | none => rfl
        | some o => have := F.keep _ _ e; rw [hC1] at this; cases this
      exact (F.keeps K1).change hs'' (Ne.symm (hCn L ⟨oL, eL⟩)) e0
    · intro q hq
      rcases List.mem_cons.mp hq with rfl | hq
      · have z := N' _ (.head _)
        refine ⟨hs''.extBut _ _ z.2.2 z.1, fun e => ?_, ?_⟩
        · obtain ⟨oL, _, _, eL, _⟩ := F.ns
          have := nn' _ z.2.1
          rw [e, eL] at this; cases this
        · cases e : h₀.get? D with
          | none => rfl
          | some o => have := F.keep _ _ e; rw [nn' _ z.2.1] at this; cases this
      · exact ⟨hs''.extBut _ _ (hCn _ ⟨_, (N q hq).1⟩) (K1 _ _ (N q hq).1), (N q hq).2⟩
    · intro q hq e
      have z := nn' _ (N' _ (.head _)).2.1
      have z2 := (N q hq).1
      rw [e, z] at z2; cases z2
end
end Mine
end
section -- Ze
open PySem PySem.W PySem.W.X PyProof.Rows PyProof.Rows.LCg PyProof.V PySem.Calls
namespace Mine
section
variable {w : World} {A : Around} {E : Value → Shared → Prop} {s : Shared} {env : Env} {C nd bt : Addr} {t u2 : Tok}
/-- a call of the class K in an expression -/
theorem callWith_K {pos : Pos} {e : Expr} {rest : List Expr} {Q : Value → Shared → Prop}
    (h : wpAny (model PR w) A (spliced (backTo pos (starEach (e :: rest) env))) (fun vs s₁ => s₁.heap.get? C = some (clsObj C nd (slK bt t u2)) ∧ wpAny (model PR w) A (call (.ref C) vs) Q E s₁) E s)
    (he : starEach (e :: rest) env = (false, eval e env) :: starEach rest env := by rfl)
    (hplain : (backTo pos (starEach rest env)).any (·.1) = false := by rfl) :
    wpAny (model PR w) A (callWith pos (.ref C) [] (backTo pos (starEach (e :: rest) env)) []) Q E s := by
  rw [he] at h ⊢
  have hst : ((backTo pos ((false, eval e env) :: starEach rest env)).any (fun x => x.fst) || ([] : List (Option Str × Sem Value)).any fun x => x.fst.isNone) = false := by
    show ((false || (backTo pos (starEach rest env)).any (·.1)) || false) = false
    rw [hplain]; rfl
  unfold callWith
  refine wpAny_bind (wpAny_holding (Calls.evalArgs_plain (wpAny_mono h (fun vs s₁ h₁ => ?_) fun _ _ x => x)))
  obtain ⟨hh, g, d, t, os⟩ := s₁
  obtain ⟨hC, hc⟩ := h₁
  have f1 := tc_lookup
  have hT : (⟨hh, g, d, t, os⟩ : Shared).TypeIs (.ref C) "type" := ⟨_, hC, rfl⟩
  refine wpAny_bind (wpAny_standAt ?_)
  show wpAny _ _ (keeperOf (.ref C) >>= _) _ _ _
  unfold keeperOf specialOf
  repeat (any_goals (first | assumption | with_reducible refine wpAny_loadPart_at hC ?_ | with_reducible refine wpAny_load' hC ?_ | wp_step))
  rw [if_pos (by rfl), hst]
  show wpAny _ _ (call (.ref C) vs [] >>= fun r => do holding [r] point; pure r) _ _ _
  exact wpAny_bind (wpAny_mono hc (fun r s' hr => wpAny_bind (wpAny_holding (wpAny_point (wpAny_pure hr)))) fun _ _ x => x)
theorem elt_ok {scope : Scope} {cl : List (Str × Addr)} {Cc cc : Addr} {p1 p2 p3 p4 p5 p6 : Pos} {k6 : Nat} {m₂ : Str → Option Value} {a : Str} {ta ti : Tok} {i : Int} {Q : Value → Shared → Prop}
    (K : KAt w.params s.heap C) (hk : (compEnvC scope cl Cc env).scope.kind = .function) (k1 : (compEnvC scope cl Cc env).kindOf (Str.ofString "key") = some .cell) (kc : cl.lookup (Str.ofString "key") = some cc) (hcell : s.heap.IsCell cc (some (.ref C)))
    (k2 : (compEnvC scope cl Cc env).kindOf (Str.ofString "i") = some .local) (k3 : (compEnvC scope cl Cc env).kindOf (Str.ofString "elem") = some .local)
    (hn : s.heap.Ns Cc m₂) (e1 : m₂ (Str.ofString "i") = some (.int i ti)) (e2 : m₂ (Str.ofString "elem") = some (.str a ta)) (hd : A.depth + 30 < recursionLimit) (hu : A.units + 90 < cLine)
    (hQ : ∀ p x dx h' tk', Ext s.heap h' → (∀ q ∈ [(p, tup3 x i ti a ta 0), (x, instK C dx a ta)], h'.get? q.1 = some q.2 ∧ s.heap.get? q.1 = none) → Q (.ref p) { s with heap := h', toks := tk' }) :
    wpAny (model PR w) A (eval (.Tuple [.Call (.Name (Str.ofString "key") p1) [.Name (Str.ofString "elem") p2] [] p3, .Name (Str.ofString "i") p4, .Name (Str.ofString "elem") p5] k6 p6) (compEnvC scope cl Cc env)) Q E s := by
  have K' := K
  obtain ⟨X₀, k, hC, _⟩ := K
  refine wpAny_Tuple (wpAny_items_cons ?_)
  refine wpAny_Call_ofName (wpAny_Name (wpAny_loadName_cell hk k1 kc hcell ?_))
  refine callWith_K (nd := k.nd) (bt := k.bt) (t := k.t) (u2 := k.u2) (wpAny_items_cons (wpAny_Name (wpAny_loadName_local hk k3 hn e2 ?_)))
  refine wpAny_pure ⟨hC, ?_⟩
  refine k_new K' (Me.start _) hd hu fun x dx f o h' tk' D => ?_
  have hn' : h'.Ns Cc m₂ := hn.keeps D.keep
  refine wpAny_items_cons (wpAny_Name (wpAny_loadName_local hk k2 hn' e1 ?_))
  refine wpAny_items_cons (wpAny_Name (wpAny_loadName_local hk k3 hn' e2 ?_))
  refine wpAny_pure ⟨by show 3 ≤ sizeLine; decide, ?_⟩
  have fr : s.heap.get? h'.objs.size = none := by
    cases e : s.heap.get? h'.objs.size with
    | none => rfl
    | some o => exact absurd (Heap.lt_size (D.keep _ _ e)) (Nat.lt_irrefl _)
  refine hQ h'.objs.size x dx _ tk' (fun b o e => Heap.get?_push_of_some _ (D.keep b o e)) fun q hq => ?_
  rcases List.mem_cons.mp hq with rfl | hq
  · exact ⟨Heap.get?_push_size _ rfl, fr⟩
  · rw [List.mem_singleton.mp hq]
    exact ⟨Heap.get?_push_of_some _ (D.nw _ (.tail _ (.head _))).1, (D.nw _ (.tail _ (.head _))).2⟩
/-- the i-th made item of nsmallest and nlargest -/
def TR (C : Addr) (xs : Array Value) (v0 st : Int) (i : Nat) (v : Value) (nw : List (Addr × Obj)) : Prop :=
  ∃ p x dx ti a ta, v = .ref p ∧ xs[i]? = some (.str a ta) ∧ (p, tup3 x (v0 + i * st) ti a ta 0) ∈ nw ∧ (x, instK C dx a ta) ∈ nw
variable {h₀ : Heap} {L : Addr} {m : Str → Option Value}
theorem zr_src {p1 p2 p3 p4 p5 p6 p7 p8 p9 : Pos} {k6 k9 : Nat} {y : Str} {scope : Scope} {cl : List (Str × Addr)} {Q : Flow → Shared → Prop} {l0 rest : List (Addr × Obj)} {r it l cc : Addr} {a b c : Int} {tt uu vv : Tok} {xs : Array Value} {nn n : Nat}
    (hK : KNews w.params C l0) (hs : ∀ q ∈ l0, q ∈ rest) (hkd : scope.kind = .function) (hx1 : scope.names.lookup (Str.ofString "i") = some .local) (hx2 : scope.names.lookup (Str.ofString "elem") = some .local) (hh : A.handled = none) (X : (Mine.hd.heap_1 w.params).In h₀) (F : Fr h₀ L s.heap m) (N : News h₀ L s.heap ((it, ({ cls := .type "list_iterator", data := .fields #[.ref l, .int (0 : Nat) 0] } : Obj)) :: rest)) (hd0 : ∀ q ∈ rest, q.1 ≠ it)
    (hr : IsRange s.heap r a b c tt uu vv) (hsm : Builtin.Range.small a b c = true) (hnr : Builtin.Range.rangeSize a b c = ((n : Nat) : Int)) (hl : (l, listOf xs nn) ∈ rest) (hn : n ≤ xs.size) (hsz : n ≤ sizeLine)
    (hx : ∀ v ∈ xs, ∃ a t, v = .str a t) (oc : Obj) (hcc : (cc, oc) ∈ rest) (hoc : oc.data = .cell (some (.ref C))) (kc : cl.lookup (Str.ofString "key") = some cc)
    (hk : ∀ Cc, (compEnvC scope cl Cc env).scope.kind = .function) (k1 : ∀ Cc, (compEnvC scope cl Cc env).kindOf (Str.ofString "key") = some .cell)
    (k2 : ∀ Cc, (compEnvC scope cl Cc env).kindOf (Str.ofString "i") = some .local) (k3 : ∀ Cc, (compEnvC scope cl Cc env).kindOf (Str.ofString "elem") = some .local) (hdp : A.depth + 30 < recursionLimit) (hu : A.units + 90 < cLine)
    (hQ : ∀ D h tk ys nwl oi, oi.cls = .type "list_iterator" → oi.data = .fields #[.ref l, .int n 0] → Fr h₀ L h (fun z => if z = y then some (.ref D) else m z) → News h₀ L h ((D, lst ys) :: (it, oi) :: (nwl ++ rest)) →
      (∀ q ∈ nwl ++ rest, q.1 ≠ D ∧ q.1 ≠ it) → D ≠ it → ys.length = n → (∀ j y, ys[j]? = some y → TR C xs a c j y nwl) → Q .next { s with heap := h, toks := tk }) :
    wpAny (model PR w) A (call (.type "zip") [.ref r, .ref it]) (SrcT PR w A h₀ L m env
      (.Tuple [.Call (.Name (Str.ofString "key") p1) [.Name (Str.ofString "elem") p2] [] p3, .Name (Str.ofString "i") p4, .Name (Str.ofString "elem") p5] k6 p6) (.Tuple [.Name (Str.ofString "i") p7, .Name (Str.ofString "elem") p8] k9 p9) y scope cl Q) E s := by
  have hIt : s.heap.IsListIter it l 0 := ⟨_, (N _ (.head _)).1, rfl, rfl⟩
  have hL : s.heap.IsList l xs := ⟨_, (N _ (.tail _ hl)).1, rfl, _, rfl⟩
  refine call_zr hr hsm hIt fun h1 z1 z2 z3 z4 z5 z6 => ?_
  have itlt : @LT.lt Nat _ it s.heap.objs.size := Heap.lt_size (N _ (.head _)).1
  have llt : @LT.lt Nat _ l s.heap.objs.size := Heap.lt_size (N _ (.tail _ hl)).1
  have lit : l ≠ it := hd0 _ hl
  have lt : @LT.lt Nat _ L s.heap.objs.size := F.ns.lt
  have D : ZrApart (s.heap.objs.size + 3) (s.heap.objs.size + 1) (s.heap.objs.size + 2) s.heap.objs.size it l := by
    constructor <;> first | exact lit | (show @Ne Nat _ _; lia)
  have W := WalksF.zr (prog := PR) (w := w) hh D a c n xs hn
  have e0 : ∀ b, s.heap.objs.size ≤ b → h₀.get? b = none := fun b hb => by
    cases e : h₀.get? b with
    | none => rfl
    | some o => have := Heap.lt_size (F.keep _ _ e); exact absurd hb (Nat.not_le.mpr this)
  rw [hnr] at z4
  refine ⟨_, _, _, _, _, _, _, _, 2, _, TR C xs a c, rfl, asg2 hkd hh hx1 hx2 (by decide), fun i vals hP => (by obtain ⟨t, b, rfl, _⟩ := hP; rfl), Fr.ext F z6, W, hsz, ⟨z1, z2, ⟨_, _, z3⟩, ?_, hIt.at fun o e => z6 _ o e, hL.at fun o e => z6 _ o e⟩, ?_, ?_, ?_, ?_, ?_⟩
  · show IsRangeIter h1 _ (a + ((0 : Nat) : Int) * c) ((n : Int) - ((0 : Nat) : Int)) c
    simpa using z4
  · intro b hb
    show b < h1.objs.size
    rw [z5]
    simp only [List.mem_cons, List.not_mem_nil, or_false] at hb
    rcases hb with rfl | rfl | rfl | rfl | rfl | rfl <;> (show @LT.lt Nat _ _ _; lia)
  · intro hb
    simp only [List.mem_cons, List.not_mem_nil, or_false] at hb
    have nl : L ≠ l := fun e => (N _ (.tail _ hl)).2.1 e.symm
    have ni : L ≠ it := fun e => (N _ (.head _)).2.1 e.symm
    rcases hb with e | e | e | e | e | e
    · replace e : @Eq Nat L _ := e; lia
    · replace e : @Eq Nat L _ := e; lia
    · replace e : @Eq Nat L _ := e; lia
    · replace e : @Eq Nat L _ := e; lia
    · exact ni e
    · exact nl e
  · intro b hb
    simp only [List.mem_cons, List.not_mem_nil, or_false] at hb
    rcases hb with rfl | rfl | rfl | rfl
    · exact e0 _ (by show @LE.le Nat _ _ _; lia)
    · exact e0 _ (by show @LE.le Nat _ _ _; lia)
    · exact e0 _ (by show @LE.le Nat _ _ _; lia)
    · exact (N _ (.head _)).2.2
  · rintro i vals Cc h tk m₂ E' hi ⟨t, v₂, rfl, hxi⟩ hns hB K
    obtain ⟨e1, e2⟩ := hB _ _ rfl
    have hmem : v₂ ∈ xs := Array.mem_of_getElem? hxi
    obtain ⟨a', ta, rfl⟩ := hx _ hmem
    have up : ∀ q ∈ rest, h.get? q.1 = some q.2 := fun q hq => by
      have hql : @LT.lt Nat _ q.1 s.heap.objs.size := Heap.lt_size (N q (.tail _ hq)).1
      refine K _ _ (fun hb => ?_) (z6 _ _ (N q (.tail _ hq)).1)
      simp only [List.mem_cons, List.not_mem_nil, or_false] at hb
      rcases hb with e | e | e | e
      · replace e : @Eq Nat q.1 _ := e; lia
      · replace e : @Eq Nat q.1 _ := e; lia
      · replace e : @Eq Nat q.1 _ := e; lia
      · exact hd0 _ hq e
    have H1 : (Mine.hd.heap_1 w.params).In h := fun b o e0 => by
      have e := F.keep _ _ (X b o e0)
      have hql : @LT.lt Nat _ b s.heap.objs.size := Heap.lt_size e
      refine K _ _ (fun hb => ?_) (z6 _ _ e)
      simp only [List.mem_cons, List.not_mem_nil, or_false] at hb
      rcases hb with e | e | e | e
      · replace e : @Eq Nat b _ := e; lia
      · replace e : @Eq Nat b _ := e; lia
      · replace e : @Eq Nat b _ := e; lia
      · subst e
        have z := (N _ (.head _)).2.2
        rw [X _ _ e0] at z
        exact nomatch z
    have H : Has w rest h := ⟨H1, up⟩
    refine elt_ok (KAt.of hK hs H) (hk _) (k1 _) kc ⟨oc, up _ hcc, hoc⟩ (k2 _) (k3 _) hns e1 e2 hdp hu fun p x dx h' tk' e' nw' => ?_
    exact ⟨h', tk', _, rfl, e', nw', p, x, dx, t, a', ta, rfl, hxi, .head _, .tail _ (.head _)⟩
  · intro D' h tk ys nwl F' K FP nw1 nw2 off len hR
    have K' : ∀ q ∈ rest, h.get? q.1 = some q.2 := fun q hq => by
      have hql : @LT.lt Nat _ q.1 s.heap.objs.size := Heap.lt_size (N q (.tail _ hq)).1
      refine K _ _ (fun hb => ?_) (N q (.tail _ hq)).2.1 (z6 _ _ (N q (.tail _ hq)).1)
      simp only [List.mem_cons, List.not_mem_nil, or_false] at hb
      rcases hb with e | e | e | e
      · replace e : @Eq Nat q.1 _ := e; lia
      · replace e : @Eq Nat q.1 _ := e; lia
      · replace e : @Eq Nat q.1 _ := e; lia
      · exact hd0 _ hq e
    have nz : ∀ q ∈ (D', lst ys) :: nwl, ∀ q' ∈ (it, ({ cls := .type "list_iterator", data := .fields #[.ref l, .int (0 : Nat) 0] } : Obj)) :: rest, q'.1 ≠ q.1 := fun q hq q' hq' e => by
      have a1 := nw2 q hq
      rw [← e, z6 _ _ (N _ hq').1] at a1; cases a1
    obtain ⟨⟨oi, g1, g2, g3⟩, _⟩ := FP
    refine hQ D' h tk ys nwl oi g2 g3 F' ?_ ?_ (Ne.symm (nz _ (.head _) _ (.head _))) len ?_
    · intro q hq
      rcases List.mem_cons.mp hq with rfl | hq
      · exact nw1 _ (.head _)
      · rcases List.mem_cons.mp hq with rfl | hq
        · exact ⟨g1, (N _ (.head _)).2⟩
        · rcases List.mem_append.mp hq with hq | hq
          · exact nw1 _ (.tail _ hq)
          · exact ⟨K' _ hq, (N q (.tail _ hq)).2⟩
    · intro q hq
      rcases List.mem_append.mp hq with hq | hq
      · exact ⟨off q hq, Ne.symm (nz _ (.tail _ hq) _ (.head _))⟩
      · exact ⟨nz _ (.head _) _ (.tail _ hq), hd0 _ hq⟩
    · intro j y e
      obtain ⟨nw, hs', p, x, dx, ti, a', ta, r1, r2, r3, r4⟩ := hR j y e
      exact ⟨p, x, dx, ti, a', ta, r1, r2, hs' _ r3, hs' _ r4⟩
end
end Mine
end
section -- Lg
open PySem PySem.W PyProof.Rows PyProof.V PySem.Calls
namespace Mine
theorem walks_from {prog : Program} {w : World} {A : Around} (hh : A.handled = none) (I ax : Addr) (hne : ax ≠ I) (items : Array Value) (k n : Nat) (hkn : k + n = items.size) :
    Walks prog w A I [I, ax] [I] n (fun i v => items[k + i]? = some v) (fun i h => h.IsListIter I ax (k + i) ∧ h.IsList ax items) where
  sub := (Walks.list (prog := prog) (w := w) hh I ax hne items).sub
  frame := fun i h h' st hk => (Walks.list (prog := prog) (w := w) hh I ax hne items).frame (k + i) h h' st hk
  item := fun i s Q E hi st hQ => (Walks.list (prog := prog) (w := w) hh I ax hne items).item (k + i) s Q E (by lia) st hQ
  done := fun s Q E st hQ => (Walks.list (prog := prog) (w := w) hh I ax hne items).done s Q E (hkn ▸ st) hQ
  self := fun i s Q E st hQ => (Walks.list (prog := prog) (w := w) hh I ax hne items).self (k + i) s Q E st hQ
section
variable {prog : Program} {w : World} {A : Around} {E : Value → Shared → Prop} {Q : Flow → Shared → Prop} {s : Shared} {h₀ : Heap} {env : Env} {x : Str} {body : List Stmt}
/-- the end of a turn: the ledger may have grown -/
def GrowPost (h₀ : Heap) (L I : Addr) (oi : Obj) (J : (Str → Option Value) → List (Addr × Obj) → Prop) (s₁ : Shared) (f : Flow) (s₂ : Shared) : Prop :=
  f = .next ∧ ∃ h' tk m' news', s₂ = { s₁ with heap := h', toks := tk } ∧ Fr h₀ L h' m' ∧ News h₀ L h' ((I, oi) :: news') ∧ (∀ p ∈ news', p.1 ≠ I) ∧ J m' news'
theorem loop_invG {I ax : Addr} {items : Array Value} {k n nn : Nat} {m₀ : Str → Option Value} {news : List (Addr × Obj)} {oi : Obj} (J : Nat → (Str → Option Value) → List (Addr × Obj) → Prop)
    (hh : A.handled = none) (hkn : k + n = items.size) (hoi : oi.cls = .type "list_iterator" ∧ oi.data = .fields #[.ref ax, .int k 0]) (F : Fr h₀ env.locals s.heap m₀) (N : News h₀ env.locals s.heap ((I, oi) :: news)) (off : ∀ p ∈ news, p.1 ≠ I)
    (hj : J 0 m₀ news) (hJ : ∀ i m nw, J i m nw → (ax, ({ cls := .type "list", data := .seq items nn } : Obj)) ∈ nw)
    (turn : ∀ i v m₁ news₁ h tk oi, i < n → items[k + i]? = some v → oi.cls = .type "list_iterator" → J i m₁ news₁ → Fr h₀ env.locals h (fun y => if y = x then some v else m₁ y) → News h₀ env.locals h ((I, oi) :: news₁) → (∀ p ∈ news₁, p.1 ≠ I) →
      wpAny (model prog w) A (execs body env) (GrowPost h₀ env.locals I oi (J (i + 1)) { s with heap := h, toks := tk }) E { s with heap := h, toks := tk })
    (done : ∀ m₁ news₁ h tk, J n m₁ news₁ → Fr h₀ env.locals h m₁ → News h₀ env.locals h news₁ → (∀ p ∈ news₁, p.1 ≠ I) → Q .next { s with heap := h, toks := tk }) :
    LoopAtV prog w A h₀ env x body Q E (.ref I) s := by
  have hl := hJ _ _ _ hj
  have hI0 := (N _ (.head _)).2
  have hne : ax ≠ I := off _ hl
  have hL := (N _ (.tail _ hl)).1
  have W := walks_from (prog := prog) (w := w) hh I ax hne items k n hkn
  refine ⟨I, _, _, n, _, _, m₀, news, fun i m nw => J i m nw, rfl, W, ?_, ?_, ?_, ⟨⟨oi, (N _ (.head _)).1, hoi.1, hoi.2⟩, ⟨_, hL, rfl, _, rfl⟩⟩, F, fun p hp => N p (.tail _ hp), hj, ?_, ?_⟩
  · intro hm
    simp only [List.mem_cons, List.not_mem_nil, or_false] at hm
    rcases hm with e | e
    · exact hI0.1 e.symm
    · exact (N _ (.tail _ hl)).2.1 e.symm
  · intro b hb; rw [List.mem_singleton.mp hb]; exact hI0.2
  · intro p hp hm; exact off p hp (List.mem_singleton.mp hm)
  · rintro i v m₁ news₁ s₁ own ⟨h, tk, rfl⟩ hin hP hJ1 hoff hof hget hall hst F₁ N₁
    obtain ⟨⟨o1, g1, g2, g3⟩, _⟩ := hst
    have hm1 : (I, o1) ∈ own := hall I (.head _) hI0.2 o1 g1
    have hoff' : ∀ p ∈ news₁, p.1 ≠ I := fun p hp e => hoff p hp (List.mem_singleton.mpr e)
    have N₂ : News h₀ env.locals h ((I, o1) :: news₁) := fun p hp => by
      rcases List.mem_cons.mp hp with rfl | hp
      · exact N₁ _ (List.mem_append_left _ hm1)
      · exact N₁ _ (List.mem_append_right _ hp)
    refine wpAny_mono (turn i v m₁ news₁ h tk o1 hin hP g2 hJ1 F₁ N₂ hoff') (fun f s₂ p => ?_) fun _ _ e => e
    obtain ⟨rfl, h', tk', m', news', rfl, F', N', off', J'⟩ := p
    refine .next ⟨rfl, h', tk', m', news', rfl, F', fun p hp => ?_, fun p hp hm => off' p hp (List.mem_singleton.mp hm), J'⟩
    rcases List.mem_append.mp hp with hp | hp
    · have hf := hof p hp
      have hg := hget p hp
      simp only [List.mem_cons, List.not_mem_nil, or_false] at hf
      rcases hf with e | e
      · rw [e] at hg
        have : p.2 = o1 := by
          have z := g1.symm.trans hg
          exact (Option.some.inj z).symm
        obtain ⟨p1, p2⟩ := p
        simp only at e this
        subst e this
        exact N' _ (.head _)
      · have hl1 := hJ _ _ _ hJ1
        have hl2 := hJ _ _ _ J'
        rw [e] at hg
        have z := ((N₂ _ (.tail _ hl1)).1).symm.trans hg
        obtain ⟨p1, p2⟩ := p
        simp only at e z
        cases z
        subst e
        exact N' _ (.tail _ hl2)
    · exact N' _ (.tail _ hp)
  · intro h' tk m' news' F' N' hoff hJ1
    exact done m' news' h' tk hJ1 F' N' fun p hp e => hoff p hp (List.mem_singleton.mpr e)
end
end Mine
end
section -- Hl
open PySem PySem.W PyProof.Rows
namespace Mine
/-- a strict weak order by a Bool test -/
structure WkLt {α : Type} (lt : α → α → Bool) : Prop where
  irr : ∀ a, lt a a = false
  tr : ∀ a b c, lt b a = false → lt c b = false → lt c a = false
  asy : ∀ a b, lt a b = true → lt b a = false
theorem TotLt.wk {α β : Type} {lt : α → α → Bool} (T : TotLt lt) (den : β → α) : WkLt fun a b => lt (den a) (den b) := ⟨fun _ => T.irr _, fun _ _ _ => T.tr _ _ _, fun _ _ => T.asy _ _⟩
theorem WkLt.flip {α : Type} {lt : α → α → Bool} (W : WkLt lt) : WkLt fun a b => lt b a := ⟨W.irr, fun a b c h1 h2 => W.tr c b a h2 h1, fun a b h => W.asy b a h⟩
noncomputable abbrev g (l : List Value) (i : Nat) : Value := l.getD i .none
theorem g_set {l : List Value} {k i : Nat} {v : Value} (h : k < l.length) : g (l.set k v) i = if i = k then v else g l i := by
  unfold g
  rw [List.getD_eq_getElem?_getD, List.getD_eq_getElem?_getD, List.getElem?_set]
  by_cases e : k = i
  · subst e; rw [if_pos rfl, if_pos h, if_pos rfl]; rfl
  · rw [if_neg e, if_neg (fun z => e z.symm)]
inductive Desc (p : Nat) : Nat → Prop
  | refl : Desc p p
  | l {q : Nat} : Desc p q → Desc p (2 * q + 1)
  | r {q : Nat} : Desc p q → Desc p (2 * q + 2)
theorem Desc.ge {p k : Nat} (d : Desc p k) : p ≤ k := by
  induction d with
  | refl => exact Nat.le_refl _
  | l _ ih => lia
  | r _ ih => lia
theorem Desc.up {p k : Nat} (d : Desc p k) (h : p < k) : Desc p ((k - 1) / 2) := by
  cases d with
  | refl => lia
  | l d => rename_i q; rw [show (2 * q + 1 - 1) / 2 = q by lia]; exact d
  | r d => rename_i q; rw [show (2 * q + 2 - 1) / 2 = q by lia]; exact d
section
variable {lt : Value → Value → Bool} (W : WkLt lt)
abbrev Kid (i j : Nat) : Prop := j = 2 * i + 1 ∨ j = 2 * i + 2
/-- every child is not less than its parent, from place p on -/
def HeapF (lt : Value → Value → Bool) (p : Nat) (l : List Value) : Prop := ∀ i j, p ≤ i → Kid i j → j < l.length → lt (g l j) (g l i) = false
/-- so but for the place k -/
def HeapH (lt : Value → Value → Bool) (p k : Nat) (l : List Value) : Prop := ∀ i j, p ≤ i → Kid i j → j < l.length → i ≠ k → j ≠ k → lt (g l j) (g l i) = false
include W in
theorem sdnW_heap (x : Value) (sp : Nat) : ∀ (k : Nat) (l : List Value), k < l.length → Desc sp k → HeapH lt sp k l → (∀ j, Kid k j → j < l.length → sp < k → lt (g l j) (g l ((k - 1) / 2)) = false) → (∀ j, Kid k j → j < l.length → lt (g l j) x = false) →
    HeapF lt sp (sdnW lt x sp k l) := by
  intro k
  induction k using Nat.strongRecOn with
  | _ k ih =>
    intro l hk hd h1 h2 h3
    have base : (sp < k → lt x (g l ((k - 1) / 2)) = false) → HeapF lt sp (l.set k x) := fun hx i j hi hj hjl => by
      rw [List.length_set] at hjl
      rw [g_set hk, g_set hk]
      by_cases e1 : j = k
      · subst e1
        have e2 : ¬ i = j := by rcases hj with h | h <;> lia
        rw [if_pos rfl, if_neg e2]
        have e3 : (j - 1) / 2 = i := by rcases hj with h | h <;> lia
        rw [e3] at hx
        exact hx (by rcases hj with h | h <;> lia)
      · rw [if_neg e1]
        by_cases e2 : i = k
        · subst e2; rw [if_pos rfl]; exact h3 j hj hjl
        · rw [if_neg e2]; exact h1 i j hi hj hjl e2 e1
    rw [sdnW]
    by_cases hs : sp < k
    · rw [if_pos hs]
      by_cases hx : lt x (l.getD ((k - 1) / 2) .none) = true
      · rw [if_pos hx]
        have hpk : (k - 1) / 2 < k := by lia
        have hkid : Kid ((k - 1) / 2) k := by unfold Kid; lia
        have dp := hd.up hs
        refine ih ((k - 1) / 2) hpk _ (by rw [List.length_set]; lia) dp ?_ ?_ ?_
        · intro i j hi hj hjl ei ej
          rw [List.length_set] at hjl
          rw [g_set hk, g_set hk]
          by_cases e1 : j = k
          · exfalso; apply ei; rcases hj with h | h <;> rcases hkid with h' | h' <;> lia
          · rw [if_neg e1]
            by_cases e2 : i = k
            · subst e2; rw [if_pos rfl]; exact h2 j hj hjl hs
            · rw [if_neg e2]; exact h1 i j hi hj hjl e2 e1
        · intro j hj hjl hsp
          rw [List.length_set] at hjl
          have dpp := (dp.up hsp).ge
          have hr : lt (g l ((k - 1) / 2)) (g l (((k - 1) / 2 - 1) / 2)) = false := h1 _ _ dpp (by unfold Kid; lia) (by lia) (by lia) (by lia)
          rw [g_set hk, g_set hk, if_neg (show ¬ ((k - 1) / 2 - 1) / 2 = k by lia)]
          by_cases e1 : j = k
          · rw [if_pos e1]; exact hr
          · rw [if_neg e1]
            exact W.tr _ _ _ hr (h1 _ j dp.ge hj hjl (by lia) e1)
        · intro j hj hjl
          rw [List.length_set] at hjl
          rw [g_set hk]
          by_cases e1 : j = k
          · rw [if_pos e1]; exact W.asy _ _ hx
          · rw [if_neg e1]
            exact W.tr _ _ _ (W.asy _ _ hx) (h1 _ j dp.ge hj hjl (by lia) e1)
      · rw [if_neg hx]
        exact base fun _ => by simpa using hx
    · rw [if_neg hs]
      exact base fun h => absurd h hs
include W in
theorem supW_heap (pos : Nat) : ∀ (n k : Nat) (l : List Value), l.length - k = n → k < l.length → Desc pos k → HeapH lt pos k l → (∀ j, Kid k j → j < l.length → pos < k → lt (g l j) (g l ((k - 1) / 2)) = false) →
    Desc pos (supW lt k l).1 ∧ l.length ≤ 2 * (supW lt k l).1 + 1 ∧ HeapH lt pos (supW lt k l).1 (supW lt k l).2 := by
  intro n
  induction n using Nat.strongRecOn with
  | _ n ih =>
    intro k l hn hk hd h1 h2
    have step : ∀ c, Kid k c → c < l.length → (∀ d, Kid k d → d < l.length → lt (g l d) (g l c) = false) → Desc pos c →
        Desc pos (supW lt c (l.set k (g l c))).1 ∧ l.length ≤ 2 * (supW lt c (l.set k (g l c))).1 + 1 ∧ HeapH lt pos (supW lt c (l.set k (g l c))).1 (supW lt c (l.set k (g l c))).2 := fun c hc hcl hmin dc => by
      have hck : k < c := by rcases hc with h | h <;> lia
      have hcp : (c - 1) / 2 = k := by rcases hc with h | h <;> lia
      have z := ih (l.length - c) (by lia) c (l.set k (g l c)) (by rw [List.length_set]) (by rw [List.length_set]; exact hcl) dc ?_ ?_
      · rw [List.length_set] at z; exact z
      · intro i j hi hj hjl ei ej
        rw [List.length_set] at hjl
        rw [g_set hk, g_set hk]
        by_cases e1 : j = k
        · have e2 : ¬ i = k := by rcases hj with h | h <;> lia
          rw [if_pos e1, if_neg e2]
          have e3 : (k - 1) / 2 = i := by rcases hj with h | h <;> lia
          rw [← e3]
          exact h2 c hc hcl (by rcases hj with h | h <;> lia)
        · rw [if_neg e1]
          by_cases e2 : i = k
          · subst e2; rw [if_pos rfl]; exact hmin j hj hjl
          · rw [if_neg e2]; exact h1 i j hi hj hjl e2 e1
      · intro j hj hjl _
        rw [List.length_set] at hjl
        rw [g_set hk, g_set hk, if_neg (show ¬ j = k by rcases hj with h | h <;> lia), hcp, if_pos rfl]
        exact h1 c j (by have := hd.ge; lia) hj hjl (by lia) (by rcases hj with h | h <;> lia)
    rw [supW]
    by_cases hl : 2 * k + 1 < l.length
    · rw [if_pos hl]
      by_cases hc : 2 * k + 2 < l.length ∧ lt (l.getD (2 * k + 1) .none) (l.getD (2 * k + 2) .none) = false
      · rw [if_pos hc]
        refine step (2 * k + 2) (.inr rfl) hc.1 (fun d hd' hdl => ?_) hd.r
        rcases hd' with rfl | rfl
        · exact hc.2
        · exact W.irr _
      · rw [if_neg hc]
        refine step (2 * k + 1) (.inl rfl) hl (fun d hd' hdl => ?_) hd.l
        rcases hd' with rfl | rfl
        · exact W.irr _
        · have : lt (l.getD (2 * k + 1) .none) (l.getD (2 * k + 2) .none) = true := by
            cases q : lt (l.getD (2 * k + 1) .none) (l.getD (2 * k + 2) .none) with
            | true => rfl
            | false => exact absurd ⟨hdl, q⟩ hc
          exact W.asy _ _ this
    · rw [if_neg hl]
      exact ⟨hd, by lia, h1⟩
include W in
theorem sup_heap {pos : Nat} {l : List Value} (h : pos < l.length) (hf : HeapF lt (pos + 1) l) : HeapF lt pos (sup lt pos l) := by
  have p := supW_perm (lt := lt) (g l pos) _ pos l rfl h
  have z := supW_heap W pos _ pos l rfl h .refl (fun i j hi hj hjl ei ej => hf i j (by lia) hj hjl) (fun j hj hjl hs => by lia)
  obtain ⟨a, b, c, _⟩ := p
  obtain ⟨d1, d2, d3⟩ := z
  unfold sup sdn
  have hq : (supW lt pos l).1 < (supW lt pos l).2.length := by lia
  refine sdnW_heap W _ pos _ _ (by rw [List.length_set]; exact hq) d1 ?_ ?_ ?_
  · intro i j hi hj hjl ei ej
    rw [List.length_set] at hjl
    rw [g_set hq, g_set hq, if_neg ej, if_neg ei]
    exact d3 i j hi hj hjl ei ej
  · intro j hj hjl hs
    rw [List.length_set] at hjl
    exfalso; rcases hj with h | h <;> lia
  · intro j hj hjl
    rw [List.length_set] at hjl
    exfalso; rcases hj with h | h <;> lia
include W in
theorem heap_min {l : List Value} (hf : HeapF lt 0 l) : ∀ i, i < l.length → lt (g l i) (g l 0) = false := by
  intro i
  induction i using Nat.strongRecOn with
  | _ i ih =>
    intro hi
    by_cases h : i = 0
    · subst h; exact W.irr _
    · exact W.tr _ _ _ (ih ((i - 1) / 2) (by lia) (by lia)) (hf ((i - 1) / 2) i (Nat.zero_le _) (by unfold Kid; lia) hi)
end
end Mine
end
section -- Hpo
open PySem PySem.W PySem.W.X PyProof.Rows
namespace Mine
theorem setup_Hpo_1 : True := by
  w_top off
  k_with_none
  k_with "subscriptTail" => ((k_here; (with_reducible show wpAny _ _ (subscriptTail _ _ (Value.ref _) (Value.int _ _)) _ _ _); k_dflt (refine' item_at ?zzk1 ?zzk2 ?zzk3 ?zzk4 ?zzk5 ?_ ?zzk6; (case zzk1 => k_asm); (case zzk2 => k_mem); (case zzk3 => lia); (case zzk4 => lia); (case zzk5 => lia); (case zzk6 => with_unfolding_all rfl); k_whole)))
  k_with "exec While Compare cons nil" => ((refine Halt.out ?_))
  k_with "setItem ref int" => ((k_here; (with_reducible show wpAny _ _ (setItem (Value.ref _) (Value.int _ _) _) _ _ _); k_dflt (refine' set_at ?zzk1 ?zzk2 ?zzk3 ?zzk4 ?zzk5 ?zzk6 ?_; (case zzk1 => k_asm); (case zzk2 => k_asm); (case zzk3 => assumption); (case zzk4 => lia); (case zzk5 => lia); (case zzk6 => lia); k_whole); intro _ _ _; (try k_sweep)))
  k_with "binaryOp RShift int int" => ((k_here; k_dflt (refine' shr_one ?_)))
  k_with "call builtin:len" => ((k_here; (with_reducible show wpAny _ _ (call (Value.builtin "len") [Value.ref _]) _ _ _); k_dflt (refine' len_at ?zzk1 ?zzk2 ?zzk3 ?_; (case zzk1 => k_asm); (case zzk2 => k_mem); (case zzk3 => lia); k_whole)))
  k_with "call ref" => ((k_here; (with_reducible show wpAny _ _ (call (Value.ref 84) _) _ _ _); refine Halt.out ?_))
  exact True.intro
/-- what heappop gives back, and the list left -/
theorem kl_last_snoc (y : Value) : ∀ (p : List Value), kl_last (p ++ [y]) = some (p, y)
  | [] => rfl
  | x :: r => by
    show (match kl_last (r ++ [y]) with | some (p, y) => some (x :: p, y) | none => some ([], x)) = _
    rw [kl_last_snoc y r]
noncomputable def popV (lt : Value → Value → Bool) (vs : List Value) : Value × List Value :=
  if vs.dropLast = [] then (vs.getLastD .none, []) else (vs.getD 0 .none, sup lt 0 (vs.dropLast.set 0 (vs.getLastD .none)))
theorem heappop_ok {w : World} {p : Program} {loose : List Str} {mean : ExcName → Option Value} {mg mb : Str → Option Value} {news : List (Addr × Obj)} {V : Value → Prop} {lt : Value → Value → Bool} {d u : Nat}
  (hL : LtOk w news V lt d u)
  {dp un : Nat} {gd : Option (List Code)} {cn : Str} {cs : Scope} {a : Addr} {ccd : Value} {cl : List (Str × Addr)} {outer : List Env} {A₀ : Around} {base h₀ : Heap} {L : Addr} {m : Str → Option Value} {s : Shared} {l : Addr} {vs : List Value} {n : Nat} {Q E : Value → Shared → Prop} :
    Below A₀ base outer h₀ → Fr h₀ L s.heap m → (Mine.hd.heap_1 w.params).In h₀ → News h₀ L s.heap ((l, listOf vs.toArray n) :: news) → (∀ q ∈ news, q.1 ≠ l) → Top p loose mean mg mb h₀ → cs.kind = .function →
    (∀ v ∈ vs, V v) → vs.length < 1000 → dp + 3 + d < recursionLimit → un + 24 + u < cLine →
    vs ≠ [] → (∀ h' tk' n', Fr h₀ L h' m → News h₀ L h' ((l, listOf (popV lt vs).2.toArray n') :: news) → Q (popV lt vs).1 { s with heap := h', toks := tk' }) →
    wpAny (model PR w) (ktrTop dp un gd cn cs L a ccd cl outer) (call (.ref 42) [.ref l]) Q E s := by
  have fill : Mine.hd.heap_1 = Mine.hd.heap_1 ∧ PySem.Challenge.rw_xh0039_01 = PySem.Challenge.rw_xh0039_01 := by (k_fill; exact ⟨rfl, rfl⟩)
  clear fill
  intro B F X N hl T hk hV h3 hd hu hne hQ
  have hd' : dp + 1 < recursionLimit := by lia
  obtain ⟨p, y, rfl⟩ : ∃ p y, vs = p ++ [y] := ⟨vs.dropLast, vs.getLast hne, (List.dropLast_concat_getLast hne).symm⟩
  have hlp : (p ++ [y]).length = p.length + 1 := by simp
  have epop : popV lt (p ++ [y]) = if p = [] then (y, []) else ((p ++ [y]).getD 0 .none, sup lt 0 (p.set 0 y)) := by
    unfold popV
    rw [List.dropLast_concat, List.getLastD_concat]
  refine wpAny_call ?_
  k_dflt ktr_enter
  k_steps
  refine kl_pop (by assumption) (by assumption) (kl_last_snoc y p) (.head hl) (by rw [hlp]; exact Nat.le_trans (Nat.le_of_lt (by lia : p.length + 1 < 1000)) (by decide)) ?_
  intro h1 F1 N1
  k_steps
  · have hp : p = [] := by simpa using (by assumption : p.isEmpty = true)
    subst hp
    rw [epop, if_pos rfl] at hQ
    exact hQ _ _ (n + 1) (by assumption) (by assumption)
  · have hp : p ≠ [] := by rename_i hpe; intro e; rw [e] at hpe; cases hpe
    have hpl : 0 < p.length := List.length_pos_iff.mpr hp
    rw [epop, if_neg hp] at hQ
    k_steps
    refine ⟨?_⟩
    refine siftup_ok hL (by assumption) (by assumption) (by assumption) (by assumption) hl (by assumption) rfl ?_ (by rw [List.length_set]; lia) (by rw [List.length_set]; lia) (by lia) (by dsimp only [ktrTop, Around.deeper]; lia) ?_
    · intro v hv
      rcases List.mem_or_eq_of_mem_set hv with h | h
      · exact hV v (List.mem_append_left _ h)
      · rw [h]; exact hV _ (List.mem_append_right _ (.head _))
    intro h2 tk2 F2 N2
    k_steps
    have e0 : (p ++ [y]).getD 0 .none = p.getD 0 .none := by
      rw [List.getD_eq_getElem?_getD, List.getD_eq_getElem?_getD, List.getElem?_append_left hpl]
    rw [e0] at hQ
    exact hQ _ _ (n + 1) (by assumption) (by assumption)
end Mine
end
section -- Hl2
open PySem PySem.W PyProof.Rows
namespace Mine
section
variable {lt : Value → Value → Bool} (W : WkLt lt)
include W in
theorem heapify_heap (vs : List Value) : HeapF lt 0 (heapifyV lt vs) ∧ (heapifyV lt vs).Perm vs := by
  have go : ∀ m, m ≤ vs.length / 2 → ∀ l : List Value, l.Perm vs → HeapF lt m l → HeapF lt 0 ((List.range m).reverse.foldl (fun vs i => sup lt i vs) l) ∧ ((List.range m).reverse.foldl (fun vs i => sup lt i vs) l).Perm vs := by
    intro m
    induction m with
    | zero => intro _ l hp hf; exact ⟨hf, hp⟩
    | succ m ih =>
      intro hm l hp hf
      have hl := hp.length_eq
      rw [List.range_succ, List.reverse_append]
      show HeapF lt 0 ((List.range m).reverse.foldl (fun vs i => sup lt i vs) (sup lt m l)) ∧ _
      exact ih (by lia) _ ((sup_perm (by lia)).trans hp) (sup_heap W (by lia) hf)
  exact go (vs.length / 2) (Nat.le_refl _) vs (List.Perm.refl _) fun i j hi hj hjl => by rcases hj with h | h <;> lia
include W in
theorem replace_heap {l : List Value} {x : Value} (h0 : 0 < l.length) (hf : HeapF lt 0 l) : HeapF lt 0 (sup lt 0 (l.set 0 x)) ∧ (sup lt 0 (l.set 0 x)).Perm (l.set 0 x) := by
  refine ⟨sup_heap W (by rw [List.length_set]; exact h0) fun i j hi hj hjl => ?_, sup_perm (by rw [List.length_set]; exact h0)⟩
  rw [List.length_set] at hjl
  rw [g_set h0, g_set h0, if_neg (by rcases hj with h | h <;> lia), if_neg (by lia)]
  exact hf i j (Nat.zero_le _) hj hjl
theorem set0_perm {l : List Value} {x : Value} (h0 : 0 < l.length) : (g l 0 :: l.set 0 x).Perm (x :: l) := by
  cases l with
  | nil => simp at h0
  | cons a r => exact List.Perm.swap x a r
include W in
theorem popV_spec {vs : List Value} (hne : vs ≠ []) (hf : HeapF lt 0 vs) : HeapF lt 0 (popV lt vs).2 ∧ ((popV lt vs).1 :: (popV lt vs).2).Perm vs ∧ ∀ v ∈ vs, lt v (popV lt vs).1 = false := by
  have hmin : ∀ v ∈ vs, lt v (g vs 0) = false := fun v hv => by
    obtain ⟨i, hi, rfl⟩ := List.mem_iff_getElem.mp hv
    have z := heap_min W hf i hi
    unfold g at z
    rwa [gD_lt hi] at z
  obtain ⟨p, y, rfl⟩ : ∃ p y, vs = p ++ [y] := ⟨vs.dropLast, vs.getLast hne, (List.dropLast_concat_getLast hne).symm⟩
  have epop : popV lt (p ++ [y]) = if p = [] then (y, []) else ((p ++ [y]).getD 0 .none, sup lt 0 (p.set 0 y)) := by
    unfold popV
    rw [List.dropLast_concat, List.getLastD_concat]
  rw [epop]
  by_cases hp : p = []
  · subst hp
    rw [if_pos rfl]
    exact ⟨fun i j _ _ hjl => by simp at hjl, List.Perm.refl _, fun v hv => by
      have e : v = y := by simpa using hv
      subst e; exact W.irr _⟩
  · rw [if_neg hp]
    have hpl : 0 < p.length := List.length_pos_iff.mpr hp
    have e0 : (p ++ [y]).getD 0 .none = p.getD 0 .none := by
      rw [List.getD_eq_getElem?_getD, List.getD_eq_getElem?_getD, List.getElem?_append_left hpl]
    have eg : ∀ i, i < p.length → g (p ++ [y]) i = g p i := fun i hi => by
      unfold g
      rw [List.getD_eq_getElem?_getD, List.getD_eq_getElem?_getD, List.getElem?_append_left hi]
    have hfp : HeapF lt 0 p := fun i j hi hj hjl => by
      have z := hf i j hi hj (by rw [List.length_append]; lia)
      rwa [eg j hjl, eg i (by rcases hj with h | h <;> lia)] at z
    obtain ⟨a, b⟩ := replace_heap W (x := y) hpl hfp
    refine ⟨a, ?_, hmin⟩
    show (((p ++ [y]).getD 0 .none) :: sup lt 0 (p.set 0 y)).Perm (p ++ [y])
    rw [e0]
    exact (List.Perm.cons _ b).trans ((set0_perm hpl).trans (List.perm_append_comm (l₁ := [y]) (l₂ := p)))
/-- popping a heap till it is bare -/
noncomputable def popsV (lt : Value → Value → Bool) : Nat → List Value → List Value
  | 0, _ => []
  | n + 1, vs => (popV lt vs).1 :: popsV lt n (popV lt vs).2
include W in
theorem popsV_spec : ∀ (n : Nat) (vs : List Value), vs.length = n → HeapF lt 0 vs → (popsV lt n vs).Perm vs ∧ (popsV lt n vs).Pairwise (fun a b => lt b a = false)
  | 0, vs, h, _ => by
    obtain rfl := List.length_eq_zero_iff.mp h
    exact ⟨List.Perm.refl _, List.Pairwise.nil⟩
  | n + 1, vs, h, hf => by
    obtain ⟨a, b, c⟩ := popV_spec W (by intro e; rw [e] at h; cases h) hf
    have hl : (popV lt vs).2.length = n := by have := b.length_eq; simp at this; lia
    obtain ⟨d, e⟩ := popsV_spec n _ hl a
    refine ⟨(List.Perm.cons _ d).trans b, List.Pairwise.cons (fun v hv => c v (b.mem_iff.mp (.tail _ (d.mem_iff.mp hv)))) e⟩
end
/-- two sorted lists of the same items are one -/
theorem sorted_unique {α : Type} {lt : α → α → Bool} (T : TotLt lt) : ∀ {l l' : List α}, l.Perm l' → l.Pairwise (fun a b => lt b a = false) → l'.Pairwise (fun a b => lt b a = false) → l = l' := by
  intro l l' hp h1 h2
  exact hp.eq_of_pairwise (fun a b _ _ h3 h4 => (T.anti _ _ h4 h3)) h1 h2
end Mine
end
section -- Pl
open PySem PySem.W PyProof.Rows
namespace Mine
theorem TotLt.flip {α : Type} {lt : α → α → Bool} (T : TotLt lt) : TotLt fun a b => lt b a :=
  ⟨T.irr, fun a b c h1 h2 => T.tr c b a h2 h1, fun a b h => T.asy b a h, fun a b h1 h2 => T.anti a b h2 h1⟩
/-- the part R that lies below all else is the head of the sorted row -/
theorem part_take {α : Type} {lt : α → α → Bool} (T : TotLt lt) {R D row : List α} (hp : row.Perm (R ++ D)) (hR : R.Pairwise fun a b => lt b a = false) (hle : ∀ r ∈ R, ∀ d ∈ D, lt d r = false) (hrow : row.Pairwise fun a b => lt b a = false) :
    R = row.take R.length := by
  have ht : ∀ a b c : α, (!lt b a) = true → (!lt c b) = true → (!lt c a) = true := fun a b c h1 h2 => by
    simp only [Bool.not_eq_true'] at *
    exact T.tr a b c h1 h2
  have hto : ∀ a b : α, ((!lt b a) || (!lt a b)) = true := fun a b => by
    cases h : lt b a with
    | false => rfl
    | true => rw [T.asy _ _ h]; rfl
  have hs : (D.mergeSort fun a b => !lt b a).Pairwise fun a b => lt b a = false := (List.pairwise_mergeSort ht hto D).imp fun h => by simpa using h
  have hpm : (D.mergeSort fun a b => !lt b a).Perm D := List.mergeSort_perm D _
  have e : row = R ++ D.mergeSort fun a b => !lt b a := by
    refine sorted_unique T (hp.trans (List.Perm.append_left R hpm.symm)) hrow ?_
    rw [List.pairwise_append]
    exact ⟨hR, hs, fun r hr d hd => hle r hr d (hpm.mem_iff.mp hd)⟩
  rw [e, List.take_left]
/-- the least is the head of the sorted row -/
theorem first_take {α : Type} [DecidableEq α] {lt : α → α → Bool} (T : TotLt lt) {row ts : List α} {a : α} (hr : row.Perm ts) (hs : row.Pairwise fun a b => lt b a = false) (ha : a ∈ ts) (hm : ∀ u ∈ ts, lt u a = false) : [a] = row.take 1 :=
  part_take T (R := [a]) (D := ts.erase a) (hr.trans (List.perm_cons_erase ha)) (List.pairwise_singleton _ _) (fun r hr' d hd => by rw [List.mem_singleton.mp hr']; exact hm d (List.mem_of_mem_erase hd)) hs
/-- one more item, when it is not taken -/
theorem part_skip {α : Type} {lt : α → α → Bool} (T : TotLt lt) {R D : List α} {top b : α} (hle : ∀ r ∈ R, ∀ d ∈ D, lt d r = false) (ht : ∀ r ∈ R, lt top r = false) (hb : lt b top = false) :
    ∀ r ∈ R, ∀ d ∈ b :: D, lt d r = false := fun r hr d hd => by
  rcases List.mem_cons.mp hd with rfl | hd
  · exact T.tr _ _ _ (ht r hr) hb
  · exact hle r hr d hd
/-- one more item in the place of the greatest -/
theorem part_swap {α : Type} {lt : α → α → Bool} (T : TotLt lt) {R R' D : List α} {top b : α} (hp : (top :: R').Perm (b :: R)) (hm : top ∈ R) (hle : ∀ r ∈ R, ∀ d ∈ D, lt d r = false) (ht : ∀ r ∈ R, lt top r = false) (hb : lt b top = true) :
    ∀ r ∈ R', ∀ d ∈ top :: D, lt d r = false := fun r hr d hd => by
  have hr' := hp.mem_iff.mp (.tail _ hr)
  have h1 : lt top r = false := by
    rcases List.mem_cons.mp hr' with rfl | hr'
    · exact T.asy _ _ hb
    · exact ht r hr'
  rcases List.mem_cons.mp hd with rfl | hd
  · exact h1
  · exact T.tr _ _ _ h1 (hle top hm d hd)
end Mine
end
section -- Nd
open PySem PySem.W PyProof.Rows PyProof.Rows.LCg PySem.Calls
namespace Mine
noncomputable def decO (o : Obj) : Str × Int := match o.data with
  | .seq its _ => (match its.toList with | [_, .int i _, .str a _] => (a, i) | _ => (⟨#[]⟩, 0))
  | _ => (⟨#[]⟩, 0)
/-- the text and the number that an item tells, as the memory stands -/
noncomputable def denL (h : Heap) : Value → Str × Int
  | .ref p => (match h.get? p with | some o => decO o | none => (⟨#[]⟩, 0))
  | _ => (⟨#[]⟩, 0)
def In' (h : Heap) (nw : List (Addr × Obj)) : Prop := ∀ q ∈ nw, h.get? q.1 = some q.2
theorem denL_of {h : Heap} {p x : Addr} {i : Int} {ti ta : Tok} {a : Str} {n : Nat} (e : h.get? p = some (tup3 x i ti a ta n)) : denL h (.ref p) = (a, i) := by
  unfold denL; simp only [e]; rfl
theorem vt_mk {C : Addr} {h : Heap} {nw : List (Addr × Obj)} {p x dx : Addr} {i : Int} {ti ta tb : Tok} {a : Str} {n : Nat} (N : In' h nw) (m1 : (p, tup3 x i ti a ta n) ∈ nw) (m2 : (x, instK C dx a tb) ∈ nw) :
    VT C (denL h) nw (.ref p) ∧ denL h (.ref p) = (a, i) :=
  have e := denL_of (N _ m1)
  ⟨⟨p, x, dx, i, ti, a, ta, tb, n, rfl, m1, m2, e⟩, e⟩
theorem vt_up {C : Addr} {den : Value → Str × Int} {h' : Heap} {nw nw' : List (Addr × Obj)} {v : Value} (V : VT C den nw v) (N' : In' h' nw') (hs : ∀ q ∈ nw, q ∈ nw') : VT C (denL h') nw' v ∧ denL h' v = den v := by
  obtain ⟨p, x, dx, i, ti, a, ta, tb, n, rfl, m1, m2, e⟩ := V
  obtain ⟨a1, a2⟩ := vt_mk (C := C) N' (hs _ m1) (hs _ m2)
  exact ⟨a1, a2.trans e.symm⟩
theorem take_more {vs : List Value} {j : Nat} {a : Str} {t : Tok} (h : vs.toArray[j]? = some (.str a t)) : (vs.map strOf).take (j + 1) = (vs.map strOf).take j ++ [a] := by
  have h' : vs[j]? = some (.str a t) := by simpa using h
  rw [List.take_add_one, List.getElem?_map, h']
  rfl
theorem tl_wk {p q : Str × Int} (h : tl p q = false) : strLt p.1 q.1 = false := by
  unfold tl at h
  by_cases e : p.1 = q.1
  · rw [e]; exact strLt_tot.irr _
  · rw [if_neg e] at h; exact h
/-- j items are dealt with: vs is the heap of the k least, by lp and ls -/
structure NInv (ls : Str → Str → Bool) (lp : Str × Int → Str × Int → Bool) (C : Addr) (den : Value → Str × Int) (nw : List (Addr × Obj)) (ts : List Str) (k : Nat) (vs : List Value) : Prop where
  len : vs.length = k
  V : ∀ v ∈ vs, VT C den nw v
  heap : HeapF (fun a b => lp (den b) (den a)) 0 vs
  law : ∃ D : List Str, ts.Perm (vs.map (fun v => (den v).1) ++ D) ∧ ∀ r ∈ vs.map (fun v => (den v).1), ∀ d ∈ D, ls d r = false
structure NOrd (ls : Str → Str → Bool) (lp : Str × Int → Str × Int → Bool) : Prop where
  s : TotLt ls
  p : TotLt lp
  wk : ∀ {a b}, lp a b = false → ls a.1 b.1 = false
theorem nord_min : NOrd strLt tl := ⟨strLt_tot, tl_tot, tl_wk⟩
theorem nord_max : NOrd (fun a b => strLt b a) (fun a b => tl b a) := ⟨strLt_tot.flip, tl_tot.flip, fun h => tl_wk h⟩
section
variable {ls : Str → Str → Bool} {lp : Str × Int → Str × Int → Bool} {C : Addr} {h h' : Heap} {den : Value → Str × Int} {nw nw' : List (Addr × Obj)} {ts : List Str} {k : Nat} {vs : List Value} {v : Value}
theorem g_mem {l : List Value} {i : Nat} (hi : i < l.length) : g l i ∈ l := by rw [g, gD_lt hi]; exact List.getElem_mem _
theorem NInv.up (I : NInv ls lp C den nw ts k vs) (N' : In' h' nw') (hs : ∀ q ∈ nw, q ∈ nw') : NInv ls lp C (denL h') nw' ts k vs := by
  have e : ∀ v ∈ vs, denL h' v = den v := fun v hv => (vt_up (I.V v hv) N' hs).2
  have em : vs.map (fun v => (denL h' v).1) = vs.map (fun v => (den v).1) := List.map_congr_left fun v hv => by rw [e v hv]
  refine ⟨I.len, fun v hv => (vt_up (I.V v hv) N' hs).1, fun i j hi hj hl => ?_, by rw [em]; exact I.law⟩
  have hil : i < vs.length := by rcases hj with q | q <;> lia
  show lp (denL h' (g vs i)) (denL h' (g vs j)) = false
  rw [e _ (g_mem hl), e _ (g_mem hil)]
  exact I.heap i j hi hj hl
theorem NInv.mono (I : NInv ls lp C den nw ts k vs) (hs : ∀ q ∈ nw, q ∈ nw') : NInv ls lp C den nw' ts k vs := ⟨I.len, fun v hv => (I.V v hv).mono hs, I.heap, I.law⟩
theorem VT.filt (V : VT C den nw v) (hs : ∀ q ∈ nw, q.2.cls = .type "list_iterator" ∨ q ∈ nw') : VT C den nw' v := by
  obtain ⟨p, x, dx, i, ti, a, ta, tb, n, rfl, m1, m2, e⟩ := V
  refine ⟨p, x, dx, i, ti, a, ta, tb, n, rfl, (hs _ m1).resolve_left ?_, (hs _ m2).resolve_left ?_, e⟩
  · intro z; exact absurd (Value.type.inj z) (by decide)
  · intro z; exact nomatch z
theorem NInv.filt (I : NInv ls lp C den nw ts k vs) (hs : ∀ q ∈ nw, q.2.cls = .type "list_iterator" ∨ q ∈ nw') : NInv ls lp C den nw' ts k vs := ⟨I.len, fun v hv => (I.V v hv).filt hs, I.heap, I.law⟩
theorem NInv.first (O : NOrd ls lp) {ys : List Value} (hl : ys.length = k) (hV : ∀ v ∈ ys, VT C den nw v) (ht : ys.map (fun v => (den v).1) = ts) : NInv ls lp C den nw ts k (heapifyV (fun a b => lp (den b) (den a)) ys) := by
  obtain ⟨a, b⟩ := heapify_heap (TotLt.wk O.p.flip den) ys
  refine ⟨b.length_eq.trans hl, fun v hv => hV v (b.mem_iff.mp hv), a, [], ?_, fun _ _ _ hd => nomatch hd⟩
  rw [List.append_nil, ← ht]
  exact (b.map _).symm
theorem NInv.top_le (O : NOrd ls lp) (I : NInv ls lp C den nw ts k vs) : ∀ r ∈ vs.map (fun v => (den v).1), ls (den (g vs 0)).1 r = false := by
  intro r hr
  obtain ⟨v, hv, rfl⟩ := List.mem_map.mp hr
  obtain ⟨i, hi, rfl⟩ := List.getElem_of_mem hv
  have := heap_min (TotLt.wk O.p.flip den) I.heap i hi
  rw [show g vs i = vs[i] from gD_lt hi] at this
  exact O.wk this
theorem NInv.skip (O : NOrd ls lp) (I : NInv ls lp C den nw ts k vs) {b : Str} (hb : ls b (den (g vs 0)).1 = false) : NInv ls lp C den nw (ts ++ [b]) k vs := by
  obtain ⟨D, d1, d2⟩ := I.law
  refine ⟨I.len, I.V, I.heap, b :: D, ?_, part_skip O.s d2 (I.top_le O) hb⟩
  exact (List.perm_append_comm.trans (List.Perm.cons b d1)).trans List.perm_middle.symm
theorem NInv.swap (O : NOrd ls lp) (h0 : 0 < k) (I : NInv ls lp C den nw ts k vs) {b : Str} {v : Value} (hv : VT C den nw v) (hd : (den v).1 = b) (hb : ls b (den (g vs 0)).1 = true) :
    NInv ls lp C den nw (ts ++ [b]) k (sup (fun a b => lp (den b) (den a)) 0 (vs.set 0 v)) := by
  obtain ⟨D, d1, d2⟩ := I.law
  have hl : 0 < vs.length := by rw [I.len]; exact h0
  obtain ⟨a1, a2⟩ := replace_heap (TotLt.wk O.p.flip den) (x := v) hl I.heap
  refine ⟨by rw [a2.length_eq, List.length_set]; exact I.len, fun u hu => ?_, a1, (den (g vs 0)).1 :: D, ?_, fun r hr => ?_⟩
  · rcases List.mem_or_eq_of_mem_set (a2.mem_iff.mp hu) with q | q
    · exact I.V u q
    · rw [q]; exact hv
  · have p1 := (set0_perm (x := v) hl).map fun v => (den v).1
    simp only [List.map_cons] at p1
    rw [hd] at p1
    refine (List.perm_append_comm.trans (List.Perm.cons b d1)).trans ?_
    refine (List.Perm.append_right D p1.symm).trans ?_
    refine List.perm_middle.symm.trans ?_
    exact List.Perm.append_right _ (a2.map fun v => (den v).1).symm
  · have p1 := (set0_perm (x := v) hl).map fun v => (den v).1
    simp only [List.map_cons] at p1
    rw [hd] at p1
    exact part_swap O.s p1 (List.mem_map.mpr ⟨_, g_mem hl, rfl⟩) d2 (I.top_le O) hb r ((a2.map fun v => (den v).1).mem_iff.mp hr)
theorem NInv.fin (O : NOrd ls lp) (I : NInv ls lp C den nw ts k vs) {out : List Value} (hp : out.Perm vs) (ho : out.Pairwise fun a b => lp (den b) (den a) = false) {row : List Str} (hr : row.Perm ts) (hs : row.Pairwise fun a b => ls b a = false) :
    out.map (fun v => (den v).1) = row.take k := by
  obtain ⟨D, d1, d2⟩ := I.law
  have pm := hp.map fun v => (den v).1
  have z := part_take O.s (R := out.map fun v => (den v).1) (D := D) (row := row) ((hr.trans d1).trans (List.Perm.append_right D pm.symm)) (List.pairwise_map.mpr (ho.imp fun h => O.wk h)) (fun r hr' => d2 r (pm.mem_iff.mp hr')) hs
  rw [List.length_map, hp.length_eq, I.len] at z
  exact z
end
theorem news_me {g h h' : Heap} {L : Addr} {m : Str → Option Value} {nw l : List (Addr × Obj)} (F : Fr g L h m) (N : News g L h nw) (D : Me h h' l) : News g L h' (l ++ nw) := fun q hq => by
  rcases List.mem_append.mp hq with hq | hq
  · have z := D.nw q hq
    refine ⟨z.1, fun e => ?_, ?_⟩
    · obtain ⟨o, _, _, e', _⟩ := F.ns
      rw [e, e'] at z; exact nomatch z.2
    · cases e : g.get? q.1 with
      | none => rfl
      | some o => rw [F.keep _ _ e] at z; exact nomatch z.2
  · exact ⟨D.keep _ _ (N q hq).1, (N q hq).2⟩
theorem knews_cls {P : Params} {C : Addr} {l : List (Addr × Obj)} (hK : KNews P C l) : ∃ nd bt t u2, (C, clsObj C nd (slK bt t u2)) ∈ l := by
  obtain ⟨k, rfl, _⟩ := hK
  exact ⟨k.nd, k.bt, k.t, k.u2, .tail _ (.head _)⟩
noncomputable abbrev liter (l : Addr) (k : Nat) : Obj := { cls := .type "list_iterator", data := .fields #[.ref l, .int k 0] }
section
variable {prog : Program} {w : World} {A : Around} {E : Value → Shared → Prop} {s : Shared} {h₀ : Heap} {L : Addr} {m : Str → Option Value} {news : List (Addr × Obj)}
theorem iter_at {l : Addr} {xs : Array Value} {n : Nat} {Q : Value → Shared → Prop} (F : Fr h₀ L s.heap m) (N : News h₀ L s.heap news) (hm : (l, listOf xs n) ∈ news)
    (h : ∀ (I : Addr) h', Fr h₀ L h' m → News h₀ L h' ((I, liter l 0) :: news) → (∀ p ∈ news, p.1 < I) → Q (.ref I) { s with heap := h' }) :
    wpAny (model prog w) A (call (.builtin "iter") [.ref l]) Q E s := by
  refine call_function_entry (by decide +kernel) (by decide +kernel) kdk_entry_iter (kdk_args_iter _) ?_
  unfold Builtin.«iter»
  refine wpAny_bind (m := someArgs "iter" 1 2 _) (wpAny_of_eq (a := [Value.ref l]) (by first | rfl | kernel_rfl!) ?_)
  show wpAny _ _ (pyIter (.ref l) >>= _) _ _ _
  refine wpAny_bind (wpAny_pyIter_list (show s.heap.IsList l xs from ⟨_, (N _ hm).1, rfl, _, rfl⟩) ?_)
  exact wpAny_pure ⟨_, rfl, h _ _ (F.push _) (News.push F N _ rfl) (fun q hq => Heap.lt_size (N q hq).1)⟩
end
end Mine
end
section -- Mi
open PySem PySem.W PySem.W.X PyProof.Rows PyProof.V PySem.Calls
namespace Mine
section
variable {prog : Program} {w : World} {A : Around} {E : Value → Shared → Prop} {s : Shared} {h h₀ : Heap} {L S I : Addr} {m : Str → Option Value} {nw : List (Addr × Obj)}
theorem call_tree_kw {id : String} {b : Builtin} {args : List Value} {kw : List (Str × Value)} {Q : Value → Shared → Prop} (hk : builtinKind id = none) (hp : plainId id = true) (hb : entryFor table id = some b) (ha : argsOk id ⟨args, kw⟩)
    (hc : wpAny (model prog w) A.in1 (b ⟨args, kw⟩) (fun fin s' => match fin with
      | .done f => (match (Except.ok f : Result) with | .ok (.ret v) => Q v s' | .ok _ => False | .error e => E e s')
      | .again c' => c'.quiet = true ∧ codeAny (model prog w) A c' (fun r s' => match r with | .ok (.ret v) => Q v s' | .ok _ => False | .error e => E e s') s') E s) :
    wpAny (model prog w) A (call (.builtin id) args kw) Q E s := by
  refine wpAny_call (codeAny_call_builtin hp hb ?_)
  simp only [checkBuiltinCall, hk]
  cases hsig : Manifest.signature? id with
  | none => exact wpAny_pure hc
  | some sig =>
    have ha' : Bind.checkArgs id sig ⟨args, kw⟩ = pure () := by simpa only [argsOk, hsig] using ha
    simp only [ha']
    exact wpAny_pure hc
theorem seq_turn {xs : Array Value} {c : Nat} {f : Array Value → Array Value} (F : Fr h₀ L h m) (N : News h₀ L h ((S, seqObj "list" xs c) :: nw)) (off : ∀ q ∈ nw, q.1 ≠ S) :
    ∃ c', Fr h₀ L (h.update S (Obj.mapSeq f)) m ∧ News h₀ L (h.update S (Obj.mapSeq f)) ((S, seqObj "list" (f xs) c') :: nw) := by
  have nz := N _ (.head _)
  have hs := Heap.SameBut.update h S (Obj.mapSeq f)
  obtain ⟨c', hc'⟩ : ∃ c', (h.update S (Obj.mapSeq f)).get? S = some (seqObj "list" (f xs) c') := ⟨_, get?_update_seq nz.1 f⟩
  refine ⟨c', kas_fr F hs nz.2.1 nz.2.2, fun q hq => ?_⟩
  rcases List.mem_cons.mp hq with rfl | hq
  · exact ⟨hc', nz.2⟩
  · exact kas_news (fun q hq => N q (.tail _ hq)) hs off q hq
theorem but_turn {I : Addr} {h' : Heap} {oi oi' : Obj} (F : Fr h₀ L h m) (N : News h₀ L h ((I, oi) :: nw)) (off : ∀ q ∈ nw, q.1 ≠ I) (hI : h'.get? I = some oi') (K : ∀ b o, b ∉ [I] → h.get? b = some o → h'.get? b = some o) :
    Fr h₀ L h' m ∧ News h₀ L h' ((I, oi') :: nw) := by
  have nz := (N _ (.head _)).2
  refine ⟨⟨F.ns.at' fun o e => K _ o (fun hm => nz.1 (List.mem_singleton.mp hm).symm) e, fun b o e => K b o (fun hm => ?_) (F.keep b o e), F.above⟩, fun q hq => ?_⟩
  · rw [List.mem_singleton.mp hm, nz.2] at e; cases e
  · rcases List.mem_cons.mp hq with rfl | hq
    · exact ⟨hI, nz⟩
    · exact ⟨K _ _ (fun hm => off q hq (List.mem_singleton.mp hm)) (N q (.tail _ hq)).1, (N q (.tail _ hq)).2⟩
end
section
variable {w : World} {A : Around} {h₀ : Heap} {L : Addr} {m : Str → Option Value} {l0 rest : List (Addr × Obj)} {C l I S : Addr} {vs : List Value} {n : Nat} {R : Result → Shared → Prop} {kw : List (Str × Value)}
theorem min_loop (hh : A.in1.handled = none) (hK : KNews w.params C l0) (X : (Mine.hd.heap_1 w.params).In h₀) (hd : A.in1.depth + 30 < recursionLimit) (hu : A.in1.units + 90 < cLine) (hstr : ∀ v ∈ vs, ∃ a t, v = .str a t) (hIS : I ≠ S) (hsr : ∀ q ∈ l0, q ∈ rest) (hlr : (l, listOf vs.toArray n) ∈ rest) :
    ∀ (k j : Nat) (s : Shared) (led : List (Addr × Obj)) (oi : Obj) (a : Str) (ta tb : Tok) (bx bd : Addr) (c : Nat), vs.length - j = k → j ≤ vs.length →
      Fr h₀ L s.heap m → News h₀ L s.heap ((I, oi) :: (S, seqObj "list" #[.str a ta, .ref bx] c) :: led) → oi.cls = .type "list_iterator" → oi.data = .fields #[.ref l, .int j 0] → (bx, instK C bd a tb) ∈ led → (∀ q ∈ rest, q ∈ led) → (∀ q ∈ led, q.1 ≠ I ∧ q.1 ≠ S) →
      Value.str a ta ∈ vs → (∀ v ∈ vs.take j, strLt (strOf v) a = false) →
      (∀ v h' tk, v ∈ vs → (∀ u ∈ vs, strLt (strOf u) (strOf v) = false) → Fr h₀ L h' m → News h₀ L h' rest → R (.ok (.ret v)) { s with heap := h', toks := tk }) →
      codeAny (model PR w) A (.builtin "min.loop" ⟨[.ref I, .ref C, .ref S], kw⟩) R s := by
  have hname : (toString "min" ++ toString ".loop" : String) = "min.loop" := by decide
  intro k
  induction k with
  | zero =>
    intro j s led oi a ta tb bx bd c hk hj F N o1 o2 hb hr off hv hmin hR
    have hjn : j = vs.length := by lia
    have lm := hr _ hlr
    have W := Walks.list (prog := PR) (w := w) hh I l (off _ lm).1 vs.toArray
    refine codeAny_builtin PySem.F.entry_min_loop ?_
    rw [Around.under_plainId PySem.F.plain_min_loop _]
    show wpAny _ A.in1 (seqItems? (.ref S) >>= _) _ _ s
    refine wpAny_bind (wpAny_seqItems (N _ (.tail _ (.head _))).1 rfl ?_)
    show wpAny _ A.in1 (tryCatch (pyNext (.ref I)) _ >>= _) _ _ s
    refine wpAny_bind (wpAny_tryCatch (W.done s _ _ ?_ fun h' tk K => ?_))
    · refine ⟨⟨_, (N _ (.head _)).1, o1, ?_⟩, ⟨_, (N _ (.tail _ (.tail _ lm))).1, rfl, _, rfl⟩⟩
      rw [o2, hjn, List.size_toArray]
    have offI : ∀ q ∈ (S, seqObj "list" #[.str a ta, .ref bx] c) :: led, q.1 ≠ I := fun q hq => by
      rcases List.mem_cons.mp hq with rfl | hq
      · exact Ne.symm hIS
      · exact (off q hq).1
    have F1 : Fr h₀ L h' m := ⟨F.ns.at' fun o e => K _ o (fun hm => (N _ (.head _)).2.1 (List.mem_singleton.mp hm).symm) e, fun b o e => K b o (fun hm => by rw [List.mem_singleton.mp hm, (N _ (.head _)).2.2] at e; cases e) (F.keep b o e), F.above⟩
    have N1 : News h₀ L h' ((S, seqObj "list" #[.str a ta, .ref bx] c) :: led) := fun q hq => ⟨K _ _ (fun hm => offI q hq (List.mem_singleton.mp hm)) (N q (.tail _ hq)).1, (N q (.tail _ hq)).2⟩
    show wpAny _ A.in1 (updateSeq S (fun _ => #[]) >>= _) _ _ _
    refine wpAny_bind ?_
    refine wpAny_updateSeq (N1 _ (.head _)).1 rfl (wpAny_bind (wpAny_letGo (wpAny_pure ?_)))
    obtain ⟨c', F2, N2⟩ := seq_turn (f := fun _ => #[]) F1 N1 fun q hq => (off q hq).2
    exact hR _ _ tk hv (fun u hu => hmin u (by rw [hjn, List.take_length]; exact hu)) F2 fun q hq => N2 q (.tail _ (hr q hq))
  | succ k ih =>
    intro j s led oi a ta tb bx bd c hk hj F N o1 o2 hb hr off hv hmin hR
    have hlt : j < vs.length := by lia
    have lm := hr _ hlr
    have W := Walks.list (prog := PR) (w := w) hh I l (off _ lm).1 vs.toArray
    have offI : ∀ q ∈ (S, seqObj "list" #[.str a ta, .ref bx] c) :: led, q.1 ≠ I := fun q hq => by
      rcases List.mem_cons.mp hq with rfl | hq
      · exact Ne.symm hIS
      · exact (off q hq).1
    refine codeAny_builtin PySem.F.entry_min_loop ?_
    rw [Around.under_plainId PySem.F.plain_min_loop _]
    show wpAny _ A.in1 (seqItems? (.ref S) >>= _) _ _ s
    refine wpAny_bind (wpAny_seqItems (N _ (.tail _ (.head _))).1 rfl ?_)
    show wpAny _ A.in1 (tryCatch (pyNext (.ref I)) _ >>= _) _ _ s
    refine wpAny_bind (wpAny_tryCatch (W.item j s _ _ (by rw [List.size_toArray]; exact hlt) ⟨⟨_, (N _ (.head _)).1, o1, o2⟩, ⟨_, (N _ (.tail _ (.tail _ lm))).1, rfl, _, rfl⟩⟩ fun v h' tk hP hst' K => ?_))
    obtain ⟨⟨oi', p1, p2, p3⟩, _⟩ := hst'
    obtain ⟨F1, N1⟩ := but_turn F N offI p1 K
    have hvm : v ∈ vs := by simpa using Array.mem_of_getElem? hP
    obtain ⟨b, tv, rfl⟩ := hstr v hvm
    have hmore : ∀ {d : Str}, (∀ u ∈ vs.take j, strLt (strOf u) d = false) → strLt b d = false → ∀ u ∈ vs.take (j + 1), strLt (strOf u) d = false := fun {d} h1 h2 u hu => by
      have hP' : vs[j]? = some (.str b tv) := by simpa using hP
      rw [List.take_add_one, hP'] at hu
      rcases List.mem_append.mp hu with hu | hu
      · exact h1 u hu
      · rw [List.mem_singleton.mp hu]; exact h2
    have H1 : Has w rest h' := .of F1 X N1 fun q hq => .tail _ (.tail _ (hr q hq))
    show wpAny _ A.in1 (tryCatch (holding [.str b tv] (call (.ref C) [.str b tv])) _ >>= _) _ _ _
    refine wpAny_bind (wpAny_tryCatch (wpAny_holding (k_new (KAt.of hK hsr H1) (Me.start _) hd hu fun x dx f o h2 tk2 Dm => ?_)))
    have F2 := Fr.ext F1 Dm.keep
    have N2 := news_me F1 N1 Dm
    have H2 : Has w rest h2 := H1.ext Dm.keep
    have new : ∀ q ∈ [(f, o), (x, ({ cls := .ref C, dict := some dx, slots := #[some (.str b tv)] } : Obj)), (dx, ({ cls := .type "dict", data := .dict #[] 0 } : Obj))], q.1 ≠ I ∧ q.1 ≠ S := fun q hq => by
      have z := (Dm.nw q hq).2
      refine ⟨fun e => ?_, fun e => ?_⟩
      · rw [e, (N1 _ (.head _)).1] at z; cases z
      · rw [e, (N1 _ (.tail _ (.head _))).1] at z; cases z
    show wpAny _ A.in1 (tryCatch (holding [.str b tv, .ref x] (richCompare .Lt (.ref x) (.ref bx) >>= _)) _ >>= _) _ _ _
    refine wpAny_bind (wpAny_tryCatch (wpAny_holding (wpAny_bind (kcmp_lt (KAt.of hK hsr H2) (N2 _ (.tail _ (.head _))).1 (N2 _ (.tail _ (.tail _ (.tail _ (.tail _ (.tail _ hb)))))).1 (by lia) (by lia) fun h3 tk3 e3 => ?_))))
    have F3 := Fr.ext F2 e3
    have N3 := News.ext N2 e3
    refine wpAny_bind (wpAny_holding (wpAny_truthy_bool ?_))
    refine wpAny_bind (wpAny_letGo (wpAny_pure ?_))
    rw [collI_lt]
    clear F1 N1 F2 N2
    have NL : ∀ (xs : Array Value) (c' : Nat) (h : Heap), News h₀ L h ((S, seqObj "list" xs c') :: ((f, o) :: (x, ({ cls := .ref C, dict := some dx, slots := #[some (.str b tv)] } : Obj)) :: (dx, ({ cls := .type "dict", data := .dict #[] 0 } : Obj)) :: (I, oi') :: led)) →
        News h₀ L h ((I, oi') :: (S, seqObj "list" xs c') :: ((f, o) :: (x, ({ cls := .ref C, dict := some dx, slots := #[some (.str b tv)] } : Obj)) :: (dx, ({ cls := .type "dict", data := .dict #[] 0 } : Obj)) :: led)) := fun xs c' h N q hq => N q (by
      rcases List.mem_cons.mp hq with rfl | hq
      · exact .tail _ (.tail _ (.tail _ (.tail _ (.head _))))
      rcases List.mem_cons.mp hq with rfl | hq
      · exact .head _
      rcases List.mem_cons.mp hq with rfl | hq
      · exact .tail _ (.head _)
      rcases List.mem_cons.mp hq with rfl | hq
      · exact .tail _ (.tail _ (.head _))
      rcases List.mem_cons.mp hq with rfl | hq
      · exact .tail _ (.tail _ (.tail _ (.head _)))
      exact .tail _ (.tail _ (.tail _ (.tail _ (.tail _ hq)))))
    have N4 : News h₀ L h3 ((S, seqObj "list" #[.str a ta, .ref bx] c) :: ((f, o) :: (x, ({ cls := .ref C, dict := some dx, slots := #[some (.str b tv)] } : Obj)) :: (dx, ({ cls := .type "dict", data := .dict #[] 0 } : Obj)) :: (I, oi') :: led)) := fun q hq => N3 q (by
      rcases List.mem_cons.mp hq with rfl | hq
      · exact .tail _ (.tail _ (.tail _ (.tail _ (.head _))))
      rcases List.mem_cons.mp hq with rfl | hq
      · exact .head _
      rcases List.mem_cons.mp hq with rfl | hq
      · exact .tail _ (.head _)
      rcases List.mem_cons.mp hq with rfl | hq
      · exact .tail _ (.tail _ (.head _))
      rcases List.mem_cons.mp hq with rfl | hq
      · exact .tail _ (.tail _ (.tail _ (.head _)))
      exact .tail _ (.tail _ (.tail _ (.tail _ (.tail _ hq)))))
    have off4 : ∀ q ∈ ((f, o) :: (x, ({ cls := .ref C, dict := some dx, slots := #[some (.str b tv)] } : Obj)) :: (dx, ({ cls := .type "dict", data := .dict #[] 0 } : Obj)) :: (I, oi') :: led), q.1 ≠ S := fun q hq => by
      rcases List.mem_append.mp (show q ∈ [(f, o), (x, _), (dx, _)] ++ ((I, oi') :: led) from hq) with hq | hq
      · exact (new q hq).2
      · rcases List.mem_cons.mp hq with rfl | hq
        · exact hIS
        · exact (off q hq).2
    have off5 : ∀ q ∈ ((f, o) :: (x, ({ cls := .ref C, dict := some dx, slots := #[some (.str b tv)] } : Obj)) :: (dx, ({ cls := .type "dict", data := .dict #[] 0 } : Obj)) :: led), q.1 ≠ I ∧ q.1 ≠ S := fun q hq => by
      rcases List.mem_append.mp (show q ∈ [(f, o), (x, _), (dx, _)] ++ led from hq) with hq | hq
      · exact new q hq
      · exact off q hq
    cases hb' : strLt b a with
    | true =>
      simp only [if_true]
      refine wpAny_bind ?_
      refine wpAny_updateSeq (N4 _ (.head _)).1 rfl (wpAny_bind (wpAny_letGo ?_))
      rw [hname]
      obtain ⟨c', F5, N5⟩ := seq_turn (f := fun _ => #[.str b tv, .ref x]) F3 N4 off4
      refine wpAny_pure ⟨plainId_quiet PySem.F.plain_min_loop _, ih (j + 1) _ _ oi' b tv tv x dx c' (by lia) hlt F5 (NL _ _ _ N5) p2 p3 (.tail _ (.head _)) (fun q hq => .tail _ (.tail _ (.tail _ (hr q hq)))) off5 hvm
        (hmore (fun u hu => ?_) (strLt_tot.irr _)) fun v h' tk a1 a2 a3 a4 => hR v h' tk a1 a2 a3 a4⟩
      exact strLt_tot.tr _ _ _ (strLt_tot.asy _ _ hb') (hmin u hu)
    | false =>
      simp only [Bool.false_eq_true, if_false]
      refine wpAny_bind (wpAny_letGo ?_)
      rw [hname]
      exact wpAny_pure ⟨plainId_quiet PySem.F.plain_min_loop _, ih (j + 1) _ _ oi' a ta tb bx bd c (by lia) hlt F3 (NL _ _ _ N4) p2 p3 (.tail _ (.tail _ (.tail _ hb))) (fun q hq => .tail _ (.tail _ (.tail _ (hr q hq)))) off5 hv
        (hmore hmin hb') fun v h' tk a1 a2 a3 a4 => hR v h' tk a1 a2 a3 a4⟩
theorem args_min_dk (a d k : Value) : argsOk "min" ⟨[a], [(Str.ofString "default", d), (Str.ofString "key", k)]⟩ := by unfold argsOk; kernel_rfl
/-- min(it, default=d, key=K) of a list's iterator -/
theorem min_call {s : Shared} {E : Value → Shared → Prop} {Q : Value → Shared → Prop} {d : Value} (hh : A.in1.handled = none) (hK : KNews w.params C l0) (X : (Mine.hd.heap_1 w.params).In h₀) (hd : A.in1.depth + 30 < recursionLimit) (hu : A.in1.units + 90 < cLine) (hstr : ∀ v ∈ vs, ∃ a t, v = .str a t) (hsr : ∀ q ∈ l0, q ∈ rest) (hlr : (l, listOf vs.toArray n) ∈ rest)
    (h0 : 0 < vs.length) (F : Fr h₀ L s.heap m) (N : News h₀ L s.heap ((I, ({ cls := .type "list_iterator", data := .fields #[.ref l, .int (0 : Nat) 0] } : Obj)) :: rest)) (off : ∀ q ∈ rest, q.1 ≠ I)
    (hR : ∀ v h' tk, v ∈ vs → (∀ u ∈ vs, strLt (strOf u) (strOf v) = false) → Fr h₀ L h' m → News h₀ L h' rest → Q v { s with heap := h', toks := tk }) :
    wpAny (model PR w) A (call (.builtin "min") [.ref I] [(Str.ofString "default", d), (Str.ofString "key", .ref C)]) Q E s := by
  have hname : (toString "min" ++ toString ".loop" : String) = "min.loop" := by decide
  have hIt : s.heap.IsListIter I l 0 := ⟨_, (N _ (.head _)).1, rfl, rfl⟩
  refine call_tree_kw PySem.F.kind_min PySem.F.plain_min PySem.F.entry_min (args_min_dk _ _ _) ?_
  show wpAny _ A.in1 (Builtin.Builtins.bindParams "min" ["key", "default"] 0 ⟨[], [(Str.ofString "default", d), (Str.ofString "key", .ref C)]⟩ >>= _) _ _ s
  refine wpAny_bind (wpAny_of_eq (show Builtin.Builtins.bindParams "min" ["key", "default"] 0 ⟨[], [(Str.ofString "default", d), (Str.ofString "key", .ref C)]⟩ = pure [some (.ref C), some d] from by kernel_rfl!) ?_)
  refine wpAny_bind (wpAny_pure ?_)
  refine wpAny_bind (wpAny_pyIter_listiter hIt ?_)
  refine wpAny_bind (wpAny_newObj_type ?_)
  rw [hname]
  have hSI : I ≠ s.heap.objs.size := Nat.ne_of_lt (Heap.lt_size (N _ (.head _)).1)
  have F0 : Fr h₀ L (s.heap.push (seqObj "list" #[] 0)) m := F.push _
  have N0 : News h₀ L (s.heap.push (seqObj "list" #[] 0)) ((s.heap.objs.size, seqObj "list" #[] 0) :: (I, ({ cls := .type "list_iterator", data := .fields #[.ref l, .int (0 : Nat) 0] } : Obj)) :: rest) := News.push F N _ rfl
  have offS : ∀ q ∈ rest, q.1 ≠ s.heap.objs.size := fun q hq => Nat.ne_of_lt (Heap.lt_size (N q (.tail _ hq)).1)
  generalize s.heap.objs.size = S at F0 N0 hSI offS ⊢
  refine wpAny_pure ⟨plainId_quiet PySem.F.plain_min_loop _, ?_⟩
  have W := Walks.list (prog := PR) (w := w) hh I l (off _ hlr) vs.toArray
  refine codeAny_builtin PySem.F.entry_min_loop ?_
  rw [Around.under_plainId PySem.F.plain_min_loop _]
  show wpAny _ A.in1 (seqItems? (.ref S) >>= _) _ _ _
  refine wpAny_bind (wpAny_seqItems (N0 _ (.head _)).1 rfl ?_)
  show wpAny _ A.in1 (tryCatch (pyNext (.ref I)) _ >>= _) _ _ _
  refine wpAny_bind (wpAny_tryCatch (W.item 0 _ _ _ (by rw [List.size_toArray]; exact h0) ⟨⟨_, (N0 _ (.tail _ (.head _))).1, rfl, rfl⟩, ⟨_, (N0 _ (.tail _ (.tail _ hlr))).1, rfl, _, rfl⟩⟩ fun v h' tk hP hst' K => ?_))
  obtain ⟨⟨oi', p1, p2, p3⟩, _⟩ := hst'
  obtain ⟨F1, N1⟩ := but_turn (nw := (S, seqObj "list" #[] 0) :: rest) F0 (fun q hq => N0 q (by
    rcases List.mem_cons.mp hq with rfl | hq
    · exact .tail _ (.head _)
    rcases List.mem_cons.mp hq with rfl | hq
    · exact .head _
    exact .tail _ (.tail _ hq))) (fun q hq => by
    rcases List.mem_cons.mp hq with rfl | hq
    · exact Ne.symm hSI
    · exact off q hq) p1 K
  have hvm : v ∈ vs := by simpa using Array.mem_of_getElem? hP
  obtain ⟨b, tv, rfl⟩ := hstr v hvm
  have H1 : Has w rest h' := .of F1 X N1 fun q hq => .tail _ (.tail _ hq)
  show wpAny _ A.in1 (tryCatch (holding [.str b tv] (call (.ref C) [.str b tv])) _ >>= _) _ _ _
  refine wpAny_bind (wpAny_tryCatch (wpAny_holding (k_new (KAt.of hK hsr H1) (Me.start _) hd hu fun x dx f o h2 tk2 Dm => ?_)))
  have F2 := Fr.ext F1 Dm.keep
  have N2 : News h₀ L h2 ((S, seqObj "list" #[] 0) :: ((I, oi') :: (x, ({ cls := .ref C, dict := some dx, slots := #[some (.str b tv)] } : Obj)) :: rest)) := fun q hq => news_me F1 N1 Dm q (by
    rcases List.mem_cons.mp hq with rfl | hq
    · exact .tail _ (.tail _ (.tail _ (.tail _ (.head _))))
    rcases List.mem_cons.mp hq with rfl | hq
    · exact .tail _ (.tail _ (.tail _ (.head _)))
    rcases List.mem_cons.mp hq with rfl | hq
    · exact .tail _ (.head _)
    exact .tail _ (.tail _ (.tail _ (.tail _ (.tail _ hq)))))
  have xI : x ≠ I ∧ x ≠ S := by
    have z := (Dm.nw _ (.tail _ (.head _))).2
    refine ⟨fun e => ?_, fun e => ?_⟩
    · rw [e, (N1 _ (.head _)).1] at z; cases z
    · rw [e, (N1 _ (.tail _ (.head _))).1] at z; cases z
  obtain ⟨c', F5, N5⟩ := seq_turn (f := fun _ => #[.str b tv, .ref x]) F2 N2 fun q hq => by
    rcases List.mem_cons.mp hq with rfl | hq
    · exact hSI
    rcases List.mem_cons.mp hq with rfl | hq
    · exact xI.2
    exact offS q hq
  show wpAny _ A.in1 (updateSeq S (fun _ => #[.str b tv, .ref x]) >>= _) _ _ _
  refine wpAny_bind ?_
  refine wpAny_updateSeq (N2 _ (.head _)).1 rfl ?_
  rw [hname]
  refine wpAny_pure ⟨plainId_quiet PySem.F.plain_min_loop _, min_loop hh hK X hd hu hstr hSI hsr hlr (vs.length - 1) 1 _ ((x, ({ cls := .ref C, dict := some dx, slots := #[some (.str b tv)] } : Obj)) :: rest) oi' b tv tv x dx c' rfl h0 F5 (fun q hq => N5 q (by
    rcases List.mem_cons.mp hq with rfl | hq
    · exact .tail _ (.head _)
    rcases List.mem_cons.mp hq with rfl | hq
    · exact .head _
    exact .tail _ (.tail _ hq))) p2 p3 (.head _) (fun q hq => .tail _ hq) (fun q hq => by
    rcases List.mem_cons.mp hq with rfl | hq
    · exact xI
    exact ⟨off q hq, offS q hq⟩) hvm (fun u hu => ?_) fun v h' tk a1 a2 a3 a4 => hR v h' tk a1 a2 a3 a4⟩
  have hP' : vs[0]? = some (.str b tv) := by simpa using hP
  rw [List.take_add_one, hP'] at hu
  have : u = .str b tv := by simpa using hu
  rw [this]; exact strLt_tot.irr _
end
end Mine
end
section -- Ma
open PySem PySem.W PySem.W.X PyProof.Rows PyProof.V PySem.Calls
namespace Mine
noncomputable abbrev xlt (a b : Str) : Bool := strLt b a
theorem xlt_tot : TotLt xlt := strLt_tot.flip
theorem collI_xlt (a b : Str) : decide (0 < collI a b) = xlt a b := collI_gt a b
section
variable {w : World} {A : Around} {h₀ : Heap} {L : Addr} {m : Str → Option Value} {l0 rest : List (Addr × Obj)} {C l I S : Addr} {vs : List Value} {n : Nat} {R : Result → Shared → Prop} {kw : List (Str × Value)}
theorem max_loop (hh : A.in1.handled = none) (hK : KNews w.params C l0) (X : (Mine.hd.heap_1 w.params).In h₀) (hd : A.in1.depth + 30 < recursionLimit) (hu : A.in1.units + 90 < cLine) (hstr : ∀ v ∈ vs, ∃ a t, v = .str a t) (hIS : I ≠ S) (hsr : ∀ q ∈ l0, q ∈ rest) (hlr : (l, listOf vs.toArray n) ∈ rest) :
    ∀ (k j : Nat) (s : Shared) (led : List (Addr × Obj)) (oi : Obj) (a : Str) (ta tb : Tok) (bx bd : Addr) (c : Nat), vs.length - j = k → j ≤ vs.length →
      Fr h₀ L s.heap m → News h₀ L s.heap ((I, oi) :: (S, seqObj "list" #[.str a ta, .ref bx] c) :: led) → oi.cls = .type "list_iterator" → oi.data = .fields #[.ref l, .int j 0] → (bx, instK C bd a tb) ∈ led → (∀ q ∈ rest, q ∈ led) → (∀ q ∈ led, q.1 ≠ I ∧ q.1 ≠ S) →
      Value.str a ta ∈ vs → (∀ v ∈ vs.take j, xlt (strOf v) a = false) →
      (∀ v h' tk, v ∈ vs → (∀ u ∈ vs, xlt (strOf u) (strOf v) = false) → Fr h₀ L h' m → News h₀ L h' rest → R (.ok (.ret v)) { s with heap := h', toks := tk }) →
      codeAny (model PR w) A (.builtin "max.loop" ⟨[.ref I, .ref C, .ref S], kw⟩) R s := by
  have hname : (toString "max" ++ toString ".loop" : String) = "max.loop" := by decide
  intro k
  induction k with
  | zero =>
    intro j s led oi a ta tb bx bd c hk hj F N o1 o2 hb hr off hv hmin hR
    have hjn : j = vs.length := by lia
    have lm := hr _ hlr
    have W := Walks.list (prog := PR) (w := w) hh I l (off _ lm).1 vs.toArray
    refine codeAny_builtin PySem.F.entry_max_loop ?_
    rw [Around.under_plainId PySem.F.plain_max_loop _]
    show wpAny _ A.in1 (seqItems? (.ref S) >>= _) _ _ s
    refine wpAny_bind (wpAny_seqItems (N _ (.tail _ (.head _))).1 rfl ?_)
    show wpAny _ A.in1 (tryCatch (pyNext (.ref I)) _ >>= _) _ _ s
    refine wpAny_bind (wpAny_tryCatch (W.done s _ _ ?_ fun h' tk K => ?_))
    · refine ⟨⟨_, (N _ (.head _)).1, o1, ?_⟩, ⟨_, (N _ (.tail _ (.tail _ lm))).1, rfl, _, rfl⟩⟩
      rw [o2, hjn, List.size_toArray]
    have offI : ∀ q ∈ (S, seqObj "list" #[.str a ta, .ref bx] c) :: led, q.1 ≠ I := fun q hq => by
      rcases List.mem_cons.mp hq with rfl | hq
      · exact Ne.symm hIS
      · exact (off q hq).1
    have F1 : Fr h₀ L h' m := ⟨F.ns.at' fun o e => K _ o (fun hm => (N _ (.head _)).2.1 (List.mem_singleton.mp hm).symm) e, fun b o e => K b o (fun hm => by rw [List.mem_singleton.mp hm, (N _ (.head _)).2.2] at e; cases e) (F.keep b o e), F.above⟩
    have N1 : News h₀ L h' ((S, seqObj "list" #[.str a ta, .ref bx] c) :: led) := fun q hq => ⟨K _ _ (fun hm => offI q hq (List.mem_singleton.mp hm)) (N q (.tail _ hq)).1, (N q (.tail _ hq)).2⟩
    show wpAny _ A.in1 (updateSeq S (fun _ => #[]) >>= _) _ _ _
    refine wpAny_bind ?_
    refine wpAny_updateSeq (N1 _ (.head _)).1 rfl (wpAny_bind (wpAny_letGo (wpAny_pure ?_)))
    obtain ⟨c', F2, N2⟩ := seq_turn (f := fun _ => #[]) F1 N1 fun q hq => (off q hq).2
    exact hR _ _ tk hv (fun u hu => hmin u (by rw [hjn, List.take_length]; exact hu)) F2 fun q hq => N2 q (.tail _ (hr q hq))
  | succ k ih =>
    intro j s led oi a ta tb bx bd c hk hj F N o1 o2 hb hr off hv hmin hR
    have hlt : j < vs.length := by lia
    have lm := hr _ hlr
    have W := Walks.list (prog := PR) (w := w) hh I l (off _ lm).1 vs.toArray
    have offI : ∀ q ∈ (S, seqObj "list" #[.str a ta, .ref bx] c) :: led, q.1 ≠ I := fun q hq => by
      rcases List.mem_cons.mp hq with rfl | hq
      · exact Ne.symm hIS
      · exact (off q hq).1
    refine codeAny_builtin PySem.F.entry_max_loop ?_
    rw [Around.under_plainId PySem.F.plain_max_loop _]
    show wpAny _ A.in1 (seqItems? (.ref S) >>= _) _ _ s
    refine wpAny_bind (wpAny_seqItems (N _ (.tail _ (.head _))).1 rfl ?_)
    show wpAny _ A.in1 (tryCatch (pyNext (.ref I)) _ >>= _) _ _ s
    refine wpAny_bind (wpAny_tryCatch (W.item j s _ _ (by rw [List.size_toArray]; exact hlt) ⟨⟨_, (N _ (.head _)).1, o1, o2⟩, ⟨_, (N _ (.tail _ (.tail _ lm))).1, rfl, _, rfl⟩⟩ fun v h' tk hP hst' K => ?_))
    obtain ⟨⟨oi', p1, p2, p3⟩, _⟩ := hst'
    obtain ⟨F1, N1⟩ := but_turn F N offI p1 K
    have hvm : v ∈ vs := by simpa using Array.mem_of_getElem? hP
    obtain ⟨b, tv, rfl⟩ := hstr v hvm
    have hmore : ∀ {d : Str}, (∀ u ∈ vs.take j, xlt (strOf u) d = false) → xlt b d = false → ∀ u ∈ vs.take (j + 1), xlt (strOf u) d = false := fun {d} h1 h2 u hu => by
      have hP' : vs[j]? = some (.str b tv) := by simpa using hP
      rw [List.take_add_one, hP'] at hu
      rcases List.mem_append.mp hu with hu | hu
      · exact h1 u hu
      · rw [List.mem_singleton.mp hu]; exact h2
    have H1 : Has w rest h' := .of F1 X N1 fun q hq => .tail _ (.tail _ (hr q hq))
    show wpAny _ A.in1 (tryCatch (holding [.str b tv] (call (.ref C) [.str b tv])) _ >>= _) _ _ _
    refine wpAny_bind (wpAny_tryCatch (wpAny_holding (k_new (KAt.of hK hsr H1) (Me.start _) hd hu fun x dx f o h2 tk2 Dm => ?_)))
    have F2 := Fr.ext F1 Dm.keep
    have N2 := news_me F1 N1 Dm
    have H2 : Has w rest h2 := H1.ext Dm.keep
    have new : ∀ q ∈ [(f, o), (x, ({ cls := .ref C, dict := some dx, slots := #[some (.str b tv)] } : Obj)), (dx, ({ cls := .type "dict", data := .dict #[] 0 } : Obj))], q.1 ≠ I ∧ q.1 ≠ S := fun q hq => by
      have z := (Dm.nw q hq).2
      refine ⟨fun e => ?_, fun e => ?_⟩
      · rw [e, (N1 _ (.head _)).1] at z; cases z
      · rw [e, (N1 _ (.tail _ (.head _))).1] at z; cases z
    show wpAny _ A.in1 (tryCatch (holding [.str b tv, .ref x] (richCompare .Gt (.ref x) (.ref bx) >>= _)) _ >>= _) _ _ _
    refine wpAny_bind (wpAny_tryCatch (wpAny_holding (wpAny_bind (kcmp_gt (KAt.of hK hsr H2) (N2 _ (.tail _ (.head _))).1 (N2 _ (.tail _ (.tail _ (.tail _ (.tail _ (.tail _ hb)))))).1 (by lia) (by lia) fun h3 tk3 e3 => ?_))))
    have F3 := Fr.ext F2 e3
    have N3 := News.ext N2 e3
    refine wpAny_bind (wpAny_holding (wpAny_truthy_bool ?_))
    refine wpAny_bind (wpAny_letGo (wpAny_pure ?_))
    rw [collI_xlt]
    clear F1 N1 F2 N2
    have NL : ∀ (xs : Array Value) (c' : Nat) (h : Heap), News h₀ L h ((S, seqObj "list" xs c') :: ((f, o) :: (x, ({ cls := .ref C, dict := some dx, slots := #[some (.str b tv)] } : Obj)) :: (dx, ({ cls := .type "dict", data := .dict #[] 0 } : Obj)) :: (I, oi') :: led)) →
        News h₀ L h ((I, oi') :: (S, seqObj "list" xs c') :: ((f, o) :: (x, ({ cls := .ref C, dict := some dx, slots := #[some (.str b tv)] } : Obj)) :: (dx, ({ cls := .type "dict", data := .dict #[] 0 } : Obj)) :: led)) := fun xs c' h N q hq => N q (by
      rcases List.mem_cons.mp hq with rfl | hq
      · exact .tail _ (.tail _ (.tail _ (.tail _ (.head _))))
      rcases List.mem_cons.mp hq with rfl | hq
      · exact .head _
      rcases List.mem_cons.mp hq with rfl | hq
      · exact .tail _ (.head _)
      rcases List.mem_cons.mp hq with rfl | hq
      · exact .tail _ (.tail _ (.head _))
      rcases List.mem_cons.mp hq with rfl | hq
      · exact .tail _ (.tail _ (.tail _ (.head _)))
      exact .tail _ (.tail _ (.tail _ (.tail _ (.tail _ hq)))))
    have N4 : News h₀ L h3 ((S, seqObj "list" #[.str a ta, .ref bx] c) :: ((f, o) :: (x, ({ cls := .ref C, dict := some dx, slots := #[some (.str b tv)] } : Obj)) :: (dx, ({ cls := .type "dict", data := .dict #[] 0 } : Obj)) :: (I, oi') :: led)) := fun q hq => N3 q (by
      rcases List.mem_cons.mp hq with rfl | hq
      · exact .tail _ (.tail _ (.tail _ (.tail _ (.head _))))
      rcases List.mem_cons.mp hq with rfl | hq
      · exact .head _
      rcases List.mem_cons.mp hq with rfl | hq
      · exact .tail _ (.head _)
      rcases List.mem_cons.mp hq with rfl | hq
      · exact .tail _ (.tail _ (.head _))
      rcases List.mem_cons.mp hq with rfl | hq
      · exact .tail _ (.tail _ (.tail _ (.head _)))
      exact .tail _ (.tail _ (.tail _ (.tail _ (.tail _ hq)))))
    have off4 : ∀ q ∈ ((f, o) :: (x, ({ cls := .ref C, dict := some dx, slots := #[some (.str b tv)] } : Obj)) :: (dx, ({ cls := .type "dict", data := .dict #[] 0 } : Obj)) :: (I, oi') :: led), q.1 ≠ S := fun q hq => by
      rcases List.mem_append.mp (show q ∈ [(f, o), (x, _), (dx, _)] ++ ((I, oi') :: led) from hq) with hq | hq
      · exact (new q hq).2
      · rcases List.mem_cons.mp hq with rfl | hq
        · exact hIS
        · exact (off q hq).2
    have off5 : ∀ q ∈ ((f, o) :: (x, ({ cls := .ref C, dict := some dx, slots := #[some (.str b tv)] } : Obj)) :: (dx, ({ cls := .type "dict", data := .dict #[] 0 } : Obj)) :: led), q.1 ≠ I ∧ q.1 ≠ S := fun q hq => by
      rcases List.mem_append.mp (show q ∈ [(f, o), (x, _), (dx, _)] ++ led from hq) with hq | hq
      · exact new q hq
      · exact off q hq
    cases hb' : xlt b a with
    | true =>
      simp only [if_true]
      refine wpAny_bind ?_
      refine wpAny_updateSeq (N4 _ (.head _)).1 rfl (wpAny_bind (wpAny_letGo ?_))
      rw [hname]
      obtain ⟨c', F5, N5⟩ := seq_turn (f := fun _ => #[.str b tv, .ref x]) F3 N4 off4
      refine wpAny_pure ⟨plainId_quiet PySem.F.plain_max_loop _, ih (j + 1) _ _ oi' b tv tv x dx c' (by lia) hlt F5 (NL _ _ _ N5) p2 p3 (.tail _ (.head _)) (fun q hq => .tail _ (.tail _ (.tail _ (hr q hq)))) off5 hvm
        (hmore (fun u hu => ?_) (xlt_tot.irr _)) fun v h' tk a1 a2 a3 a4 => hR v h' tk a1 a2 a3 a4⟩
      exact xlt_tot.tr _ _ _ (xlt_tot.asy _ _ hb') (hmin u hu)
    | false =>
      simp only [Bool.false_eq_true, if_false]
      refine wpAny_bind (wpAny_letGo ?_)
      rw [hname]
      exact wpAny_pure ⟨plainId_quiet PySem.F.plain_max_loop _, ih (j + 1) _ _ oi' a ta tb bx bd c (by lia) hlt F3 (NL _ _ _ N4) p2 p3 (.tail _ (.tail _ (.tail _ hb))) (fun q hq => .tail _ (.tail _ (.tail _ (hr q hq)))) off5 hv
        (hmore hmin hb') fun v h' tk a1 a2 a3 a4 => hR v h' tk a1 a2 a3 a4⟩
theorem args_max_dk (a d k : Value) : argsOk "max" ⟨[a], [(Str.ofString "default", d), (Str.ofString "key", k)]⟩ := by unfold argsOk; kernel_rfl
/-- max(it, default=d, key=K) of a list's iterator -/
theorem max_call {s : Shared} {E : Value → Shared → Prop} {Q : Value → Shared → Prop} {d : Value} (hh : A.in1.handled = none) (hK : KNews w.params C l0) (X : (Mine.hd.heap_1 w.params).In h₀) (hd : A.in1.depth + 30 < recursionLimit) (hu : A.in1.units + 90 < cLine) (hstr : ∀ v ∈ vs, ∃ a t, v = .str a t) (hsr : ∀ q ∈ l0, q ∈ rest) (hlr : (l, listOf vs.toArray n) ∈ rest)
    (h0 : 0 < vs.length) (F : Fr h₀ L s.heap m) (N : News h₀ L s.heap ((I, ({ cls := .type "list_iterator", data := .fields #[.ref l, .int (0 : Nat) 0] } : Obj)) :: rest)) (off : ∀ q ∈ rest, q.1 ≠ I)
    (hR : ∀ v h' tk, v ∈ vs → (∀ u ∈ vs, xlt (strOf u) (strOf v) = false) → Fr h₀ L h' m → News h₀ L h' rest → Q v { s with heap := h', toks := tk }) :
    wpAny (model PR w) A (call (.builtin "max") [.ref I] [(Str.ofString "default", d), (Str.ofString "key", .ref C)]) Q E s := by
  have hname : (toString "max" ++ toString ".loop" : String) = "max.loop" := by decide
  have hIt : s.heap.IsListIter I l 0 := ⟨_, (N _ (.head _)).1, rfl, rfl⟩
  refine call_tree_kw PySem.F.kind_max PySem.F.plain_max PySem.F.entry_max (args_max_dk _ _ _) ?_
  show wpAny _ A.in1 (Builtin.Builtins.bindParams "max" ["key", "default"] 0 ⟨[], [(Str.ofString "default", d), (Str.ofString "key", .ref C)]⟩ >>= _) _ _ s
  refine wpAny_bind (wpAny_of_eq (show Builtin.Builtins.bindParams "max" ["key", "default"] 0 ⟨[], [(Str.ofString "default", d), (Str.ofString "key", .ref C)]⟩ = pure [some (.ref C), some d] from by kernel_rfl!) ?_)
  refine wpAny_bind (wpAny_pure ?_)
  refine wpAny_bind (wpAny_pyIter_listiter hIt ?_)
  refine wpAny_bind (wpAny_newObj_type ?_)
  rw [hname]
  have hSI : I ≠ s.heap.objs.size := Nat.ne_of_lt (Heap.lt_size (N _ (.head _)).1)
  have F0 : Fr h₀ L (s.heap.push (seqObj "list" #[] 0)) m := F.push _
  have N0 : News h₀ L (s.heap.push (seqObj "list" #[] 0)) ((s.heap.objs.size, seqObj "list" #[] 0) :: (I, ({ cls := .type "list_iterator", data := .fields #[.ref l, .int (0 : Nat) 0] } : Obj)) :: rest) := News.push F N _ rfl
  have offS : ∀ q ∈ rest, q.1 ≠ s.heap.objs.size := fun q hq => Nat.ne_of_lt (Heap.lt_size (N q (.tail _ hq)).1)
  generalize s.heap.objs.size = S at F0 N0 hSI offS ⊢
  refine wpAny_pure ⟨plainId_quiet PySem.F.plain_max_loop _, ?_⟩
  have W := Walks.list (prog := PR) (w := w) hh I l (off _ hlr) vs.toArray
  refine codeAny_builtin PySem.F.entry_max_loop ?_
  rw [Around.under_plainId PySem.F.plain_max_loop _]
  show wpAny _ A.in1 (seqItems? (.ref S) >>= _) _ _ _
  refine wpAny_bind (wpAny_seqItems (N0 _ (.head _)).1 rfl ?_)
  show wpAny _ A.in1 (tryCatch (pyNext (.ref I)) _ >>= _) _ _ _
  refine wpAny_bind (wpAny_tryCatch (W.item 0 _ _ _ (by rw [List.size_toArray]; exact h0) ⟨⟨_, (N0 _ (.tail _ (.head _))).1, rfl, rfl⟩, ⟨_, (N0 _ (.tail _ (.tail _ hlr))).1, rfl, _, rfl⟩⟩ fun v h' tk hP hst' K => ?_))
  obtain ⟨⟨oi', p1, p2, p3⟩, _⟩ := hst'
  obtain ⟨F1, N1⟩ := but_turn (nw := (S, seqObj "list" #[] 0) :: rest) F0 (fun q hq => N0 q (by
    rcases List.mem_cons.mp hq with rfl | hq
    · exact .tail _ (.head _)
    rcases List.mem_cons.mp hq with rfl | hq
    · exact .head _
    exact .tail _ (.tail _ hq))) (fun q hq => by
    rcases List.mem_cons.mp hq with rfl | hq
    · exact Ne.symm hSI
    · exact off q hq) p1 K
  have hvm : v ∈ vs := by simpa using Array.mem_of_getElem? hP
  obtain ⟨b, tv, rfl⟩ := hstr v hvm
  have H1 : Has w rest h' := .of F1 X N1 fun q hq => .tail _ (.tail _ hq)
  show wpAny _ A.in1 (tryCatch (holding [.str b tv] (call (.ref C) [.str b tv])) _ >>= _) _ _ _
  refine wpAny_bind (wpAny_tryCatch (wpAny_holding (k_new (KAt.of hK hsr H1) (Me.start _) hd hu fun x dx f o h2 tk2 Dm => ?_)))
  have F2 := Fr.ext F1 Dm.keep
  have N2 : News h₀ L h2 ((S, seqObj "list" #[] 0) :: ((I, oi') :: (x, ({ cls := .ref C, dict := some dx, slots := #[some (.str b tv)] } : Obj)) :: rest)) := fun q hq => news_me F1 N1 Dm q (by
    rcases List.mem_cons.mp hq with rfl | hq
    · exact .tail _ (.tail _ (.tail _ (.tail _ (.head _))))
    rcases List.mem_cons.mp hq with rfl | hq
    · exact .tail _ (.tail _ (.tail _ (.head _)))
    rcases List.mem_cons.mp hq with rfl | hq
    · exact .tail _ (.head _)
    exact .tail _ (.tail _ (.tail _ (.tail _ (.tail _ hq)))))
  have xI : x ≠ I ∧ x ≠ S := by
    have z := (Dm.nw _ (.tail _ (.head _))).2
    refine ⟨fun e => ?_, fun e => ?_⟩
    · rw [e, (N1 _ (.head _)).1] at z; cases z
    · rw [e, (N1 _ (.tail _ (.head _))).1] at z; cases z
  obtain ⟨c', F5, N5⟩ := seq_turn (f := fun _ => #[.str b tv, .ref x]) F2 N2 fun q hq => by
    rcases List.mem_cons.mp hq with rfl | hq
    · exact hSI
    rcases List.mem_cons.mp hq with rfl | hq
    · exact xI.2
    exact offS q hq
  show wpAny _ A.in1 (updateSeq S (fun _ => #[.str b tv, .ref x]) >>= _) _ _ _
  refine wpAny_bind ?_
  refine wpAny_updateSeq (N2 _ (.head _)).1 rfl ?_
  rw [hname]
  refine wpAny_pure ⟨plainId_quiet PySem.F.plain_max_loop _, max_loop hh hK X hd hu hstr hSI hsr hlr (vs.length - 1) 1 _ ((x, ({ cls := .ref C, dict := some dx, slots := #[some (.str b tv)] } : Obj)) :: rest) oi' b tv tv x dx c' rfl h0 F5 (fun q hq => N5 q (by
    rcases List.mem_cons.mp hq with rfl | hq
    · exact .tail _ (.head _)
    rcases List.mem_cons.mp hq with rfl | hq
    · exact .head _
    exact .tail _ (.tail _ hq))) p2 p3 (.head _) (fun q hq => .tail _ hq) (fun q hq => by
    rcases List.mem_cons.mp hq with rfl | hq
    · exact xI
    exact ⟨off q hq, offS q hq⟩) hvm (fun u hu => ?_) fun v h' tk a1 a2 a3 a4 => hR v h' tk a1 a2 a3 a4⟩
  have hP' : vs[0]? = some (.str b tv) := by simpa using hP
  rw [List.take_add_one, hP'] at hu
  have : u = .str b tv := by simpa using hu
  rw [this]; exact xlt_tot.irr _
end
end Mine
end
section -- Ob
open PySem PySem.W PySem.W.X PyProof.Rows
namespace Mine
section
variable {w : World} {A : Around} {E : Value → Shared → Prop} {s : Shared} {h₀ : Heap} {Q : Value → Shared → Prop}
theorem setup_Ob_1 : True := by
  w_top off
  k_with_none
  k_with "close" => (first | exact hQ _ _ _ _ (Me.trans Dm (Me.of (by assumption))))
  exact True.intro
/-- object() -/
theorem obj_new {news : List (Addr × Obj)} (Dm : Me h₀ s.heap news)
  (hQ : ∀ x o h' tk', Me h₀ h' ((x, o) :: news) → Q (.ref x) { s with heap := h', toks := tk' }) :
  wpAny (model PR w) A (call (.type "object") [] []) Q E s := by
  x_run
end
end Mine
end
section -- Ss
open PySem PySem.W PySem.W.X PyProof.Rows PyProof.V PySem.Calls
namespace Mine
section
variable {prog : Program} {w : World} {A : Around} {E : Value → Shared → Prop} {s : Shared} {h₀ : Heap} {L a kS : Addr} {m : Str → Option Value} {news : List (Addr × Obj)} {vs ks : List Value}
theorem few_failed {κ : SortKind} {it : Array (Value × Value)} : failedOf (SortSt.mk' κ it #[] 7 none) = none := rfl
theorem few_out {κ : SortKind} (hl : ks.length = vs.length) : (arrOf (SortSt.mk' κ (ks.toArray.zip vs.toArray) #[] 7 none)).map (·.2) = vs.toArray := by
  show (ks.toArray.zip vs.toArray).map (·.2) = vs.toArray
  apply Array.toList_inj.mp
  simp [List.map_snd_zip, hl]
/-- the end of a keyed sort of at most one item -/
theorem end_few {b : Bool} {e e1 : Nat} {P : PySem.Fin → Shared → Prop} (hl : ks.length = vs.length) (h2 : vs.length < 2)
    (h : KatFin h₀ L m kS a ks e e1 vs (fun s3 => P (.done (.ret .none)) s3) s) :
    wpAny (model prog w) A (ksk_end a b vs.toArray e1 (.ref kS) ks.toArray) P E s := by
  have ev : ∀ {α : Type} (l : List α), l.length < 2 → katRev b l = l := fun l h => by
    cases b with
    | false => rfl
    | true => match l, h with | [], _ => rfl | [_], _ => rfl
  have step : ∀ t : Sem PySem.Fin, wpAny (model prog w) A t P E s → wpAny (model prog w) A (if b = true then (do let _ ← rule "list.sort.reverse"; t) else t) P E s := by
    intro t ht
    split
    · exact wpAny_bind (wpAny_rule ht)
    · exact ht
  have hn2 : vs.toArray.size < 2 := by rw [List.size_toArray]; lia
  unfold ksk_end
  try dsimp only
  refine step _ ?_
  rw [if_pos hn2, if_pos hn2, kat_pairs b hl, ev ks (by lia), ev vs h2]
  refine wpAny_bind (wpAny_pure ?_)
  refine wpAny_bind (m := (pure () : StateT SortSt Sem Unit).run _) (wpAny_pure ?_)
  show wpAny (model prog w) A (ksk_tail a b e1 (.ref kS) (SortSt.mk' general' (ks.toArray.zip vs.toArray) #[] 7 none)) P E s
  refine kat_tail (out := vs) (ks := ks) (few_out hl) (by lia) (by lia) few_failed (by rw [ev vs h2]; exact h)
theorem rest_few {b : Bool} {f : Value} {e1 : Nat} {P : PySem.Fin → Shared → Prop} (hk : s.heap.get? kS = some (seqObj "list" #[] 0)) (h2 : vs.length < 2)
    (h : KatKeys prog w A h₀ L m kS f (fun ks e s' => KatFin h₀ L m kS a ks e e1 vs (fun s4 => P (.done (.ret .none)) s4) s') vs [] 0 s) :
    wpAny (model prog w) A (ksk_rest a f b vs.toArray e1 (.ref kS)) P E s := by
  unfold ksk_rest
  refine wpAny_bind (wpAny_rule ?_)
  first
    | rw [List.forIn_toArray]
    | (rw [← Array.forIn_toList]; simp only [List.toList_toArray])
    | rw [← Array.forIn_toList]
  refine wpAny_bind (wpAny_mono (kat_fold (n := vs.length) (by lia) (fun x ks e s' C hz hx => ?_) vs [] 0 s (by simp) hk h) (fun _ s' hd => ?_) fun _ _ x => x)
  · refine wpAny_bind (wpAny_attempt (wpAny_mono hx (fun k s'' hk => ?_) fun _ _ hF => hF.elim))
    obtain ⟨news', g, F', N', U, c⟩ := hk
    obtain ⟨pre, post, e0, hg, x1, x2⟩ := U.split
    rw [e0] at N'
    have nk := N' (kS, seqObj "list" (List.toArray ks) e) (List.mem_append_right _ (.head _))
    have s1 := Heap.SameBut.update s''.heap kS (Obj.mapSeq (·.push k))
    have ea : (List.toArray ks).push k = List.toArray (ks ++ [k]) := by simp
    obtain ⟨c2, hc2⟩ : ∃ c2, (s''.heap.update kS (Obj.mapSeq (·.push k))).get? kS = some (seqObj "list" (List.toArray (ks ++ [k])) c2) := ⟨_, by rw [← ea]; exact get?_update_seq nk.1 (·.push k)⟩
    try dsimp only
    refine wpAny_bind (listUpdate_at nk.1 rfl ?_ (by rw [List.size_toArray, sizeLine_eq]; lia) (Nat.le_trans (Nat.le_of_eq (Array.size_push ..)) (by rw [List.size_toArray, sizeLine_eq]; lia)))
    exact wpAny_pure ⟨rfl, k, c2, hc2, c _ c2 (kas_fr F' s1 nk.2.1 nk.2.2) (by rw [hg]; exact news_set N' x1 x2 s1 hc2)⟩
  · obtain ⟨ks, e, hk', hl, fin⟩ := hd
    try dsimp only
    refine wpAny_bind (listItems_at hk' rfl ?_)
    exact end_few hl h2 fin
theorem keyed_few {b : Bool} {f : Value} {n : Nat} {P : PySem.Fin → Shared → Prop} (F : Fr h₀ L s.heap m) (N : News h₀ L s.heap news) (ho : s.heap.get? a = some (seqObj "list" vs.toArray n)) (haL : a ≠ L) (ha0 : h₀.get? a = none) (hna : ∀ p ∈ news, p.1 ≠ a)
    (h2 : vs.length < 2)
    (h : ∀ kS e1 h', Fr h₀ L h' m → News h₀ L h' ((kS, seqObj "list" #[] 0) :: (a, seqObj "list" #[] e1) :: news) → a < kS → (∀ q ∈ news, q.1 < kS) →
      KatKeys prog w A h₀ L m kS f (fun ks e s' => KatFin h₀ L m kS a ks e e1 vs (fun s4 => P (.done (.ret .none)) s4) s') vs [] 0 { s with heap := h' }) :
    wpAny (model prog w) A (ksk_tree a f b) P E s := by
  have ha : a < s.heap.objs.size := Heap.lt_size ho
  have s1 := Heap.SameBut.update s.heap a (Obj.mapSeq fun _ => (#[] : Array Value))
  obtain ⟨e1, ho1⟩ : ∃ e1, (s.heap.update a (Obj.mapSeq fun _ => (#[] : Array Value))).get? a = some (seqObj "list" #[] e1) := ⟨_, get?_update_seq ho fun _ => #[]⟩
  have F1 := kas_fr F s1 haL ha0
  have N1 := kas_news N s1 hna
  have hkS : ((s.heap.update a (Obj.mapSeq fun _ => (#[] : Array Value))).push (seqObj "tuple" vs.toArray 0)).objs.size = s.heap.objs.size + 1 := by rw [size_push', Heap.size_update]
  have hLk : L < ((s.heap.update a (Obj.mapSeq fun _ => (#[] : Array Value))).push (seqObj "tuple" vs.toArray 0)).objs.size := (F1.push _).ns.lt
  unfold ksk_tree
  refine wpAny_bind (listItems_at ho rfl ?_)
  refine wpAny_bind (listUpdate_at ho rfl ?_ (by rw [List.size_toArray, sizeLine_eq]; lia) (Nat.zero_le _))
  refine wpAny_bind (seqEpoch_at ho1 rfl ?_)
  refine wpAny_bind (wpAny_newTuple ?_ (by show vs.length ≤ _; rw [sizeLine_eq]; lia))
  refine wpAny_bind (wpAny_newList ?_ (Nat.zero_le _))
  refine wpAny_holding ?_
  refine rest_few (s := { s with heap := ((s.heap.update a (Obj.mapSeq fun _ => (#[] : Array Value))).push (seqObj "tuple" vs.toArray 0)).push (seqObj "list" #[] 0) }) (kS := ((s.heap.update a (Obj.mapSeq fun _ => (#[] : Array Value))).push (seqObj "tuple" vs.toArray 0)).objs.size)
    (Heap.get?_push_size _ rfl) h2 (h _ e1 _ ((F1.push _).push _) (fun p hp => ?_) (by rw [hkS]; exact Nat.lt_succ_of_lt ha) fun q hq => by rw [hkS]; exact Nat.lt_succ_of_lt (Heap.lt_size (N q hq).1))
  rcases List.mem_cons.mp hp with rfl | hp
  · exact ⟨Heap.get?_push_size _ rfl, Nat.ne_of_gt hLk, Heap.get?_none_of_le (Nat.le_trans F.above (Nat.le_of_lt hLk))⟩
  · rcases List.mem_cons.mp hp with rfl | hp
    · exact ⟨Heap.get?_push_of_some _ (Heap.get?_push_of_some _ ho1), haL, ha0⟩
    · exact ⟨Heap.get?_push_of_some _ (Heap.get?_push_of_some _ (N1 p hp).1), (N1 p hp).2⟩
/-- sorted(l, key=f) of at most one item -/
theorem sorted_few {l : Addr} {b : Bool} {f : Value} {kw : List (Str × Value)} {Q : Value → Shared → Prop} (F : Fr h₀ L s.heap m) (N : News h₀ L s.heap news) (hl : s.heap.IsList l vs.toArray) (h2 : vs.length < 2)
    (ha1 : argsOk "sorted" ⟨[.ref l], kw⟩) (ha2 : ∀ x, argsOk "list.sort" ⟨[.ref x], kw⟩) (ht : ∀ x, Builtin.«list.sort» ⟨[.ref x], kw⟩ = ksk_tree x f b)
    (h : ∀ D kS e1 h', Fr h₀ L h' m → News h₀ L h' ((kS, seqObj "list" #[] 0) :: (D, seqObj "list" #[] e1) :: news) → D < kS → (∀ q ∈ news, q.1 < D) →
      KatKeys prog w A.in1.in1 h₀ L m kS f (fun ks e s' => KatFin h₀ L m kS D ks e e1 vs (fun s4 => Q (.ref D) s4) s') vs [] 0 { s with heap := h' }) :
    wpAny (model prog w) A (call (.builtin "sorted") [.ref l] kw) Q E s := by
  refine call_function_entry_kw kind_sorted plain_sorted entry_sorted ha1 ?_
  unfold Builtin.«sorted»
  refine wpAny_bind (m := checkCount "sorted" 1 1 _) (wpAny_pure ?_)
  refine wpAny_bind (collect_list hl ?_ (by rw [sizeLine_eq]; lia))
  refine wpAny_bind (wpAny_newList ?_ (by rw [sizeLine_eq]; lia))
  have hsz : ((s.heap.push (seqObj "list" #[] 0)).update s.heap.objs.size (Obj.mapSeq (· ++ vs.toArray))).objs.size = s.heap.objs.size + 1 := by
    rw [Heap.size_update, size_push']
  have hoL : (((s.heap.push (seqObj "list" #[] 0)).update s.heap.objs.size (Obj.mapSeq (· ++ vs.toArray))).push (seqObj "list" vs.toArray 0)).get? (s.heap.objs.size + 1) = some (seqObj "list" vs.toArray 0) := by
    rw [← hsz]; exact Heap.get?_push_size _ rfl
  have keep : ∀ b o, s.heap.get? b = some o → (((s.heap.push (seqObj "list" #[] 0)).update s.heap.objs.size (Obj.mapSeq (· ++ vs.toArray))).push (seqObj "list" vs.toArray 0)).get? b = some o := fun b o q => by
    have hlt : b < s.heap.objs.size := Heap.lt_size q
    rw [Heap.get?_push_ne _ _ _ (by rw [hsz]; exact Nat.ne_of_lt (Nat.lt_succ_of_lt hlt)), Heap.get?_update_ne _ _ _ _ (Nat.ne_of_lt hlt), Heap.get?_push_ne _ _ _ (Nat.ne_of_lt hlt)]
    exact q
  have hL : L < s.heap.objs.size := F.ns.lt
  show wpAny _ _ _ _ _ { s with heap := ((s.heap.push (seqObj "list" #[] 0)).update s.heap.objs.size (Obj.mapSeq (· ++ vs.toArray))).push (seqObj "list" vs.toArray 0) }
  rw [hsz]
  refine wpAny_bind (wpAny_holding (wpAny_call_entry_kw slot_list_sort ⟨_, hoL, rfl⟩ entry_list_sort ?body (ha2 _)))
  case body =>
    have ht' := ht (s.heap.objs.size + 1)
    show wpAny (model prog w) A.in1.in1 (Builtin.«list.sort» ⟨[.ref (s.heap.objs.size + 1)], kw⟩) _ _ _
    rw [ht']
    refine keyed_few (s := { s with heap := ((s.heap.push (seqObj "list" #[] 0)).update s.heap.objs.size (Obj.mapSeq (· ++ vs.toArray))).push (seqObj "list" vs.toArray 0) })
      (F.kept keep) (N.grown keep) hoL (Nat.ne_of_gt (Nat.lt_succ_of_lt hL)) (Heap.get?_none_of_le (Nat.le_trans F.above (Nat.le_succ_of_le (Nat.le_of_lt hL))))
      (fun p hp => Nat.ne_of_lt (Nat.lt_succ_of_lt (Heap.lt_size (N p hp).1))) h2 fun kS e1 h' F' N' l0 l1 => ?_
    refine kat_keys_mono (h _ kS e1 h' F' N' l0 fun q hq => Nat.lt_succ_of_lt (Heap.lt_size (N q hq).1)) fun ks e s' hl' hd => ?_
    exact hd.mono fun s4 hq => ⟨_, rfl, wpAny_pure ⟨_, rfl, hq⟩⟩
end
end Mine
end
section -- Hr
open PySem PySem.W PySem.W.X PyProof.Rows
namespace Mine
theorem setup_Hr_1 : True := by
  w_top off
  k_with_none
  k_with "subscriptTail" => ((k_here; (with_reducible show wpAny _ _ (subscriptTail _ _ (Value.ref _) (Value.int _ _)) _ _ _); k_dflt (refine' item_at ?zzk1 ?zzk2 ?zzk3 ?zzk4 ?zzk5 ?_ ?zzk6; (case zzk1 => k_asm); (case zzk2 => k_mem); (case zzk3 => lia); (case zzk4 => lia); (case zzk5 => lia); (case zzk6 => with_unfolding_all rfl); k_whole)))
  k_with "exec While Compare cons nil" => ((refine Halt.out ?_))
  k_with "setItem ref int" => ((k_here; (with_reducible show wpAny _ _ (setItem (Value.ref _) (Value.int _ _) _) _ _ _); k_dflt (refine' set_at ?zzk1 ?zzk2 ?zzk3 ?zzk4 ?zzk5 ?zzk6 ?_; (case zzk1 => k_asm); (case zzk2 => k_asm); (case zzk3 => assumption); (case zzk4 => lia); (case zzk5 => lia); (case zzk6 => lia); k_whole); intro _ _ _; (try k_sweep)))
  k_with "binaryOp RShift int int" => ((k_here; k_dflt (refine' shr_one ?_)))
  k_with "call builtin:len" => ((k_here; (with_reducible show wpAny _ _ (call (Value.builtin "len") [Value.ref _]) _ _ _); k_dflt (refine' len_at ?zzk1 ?zzk2 ?zzk3 ?_; (case zzk1 => k_asm); (case zzk2 => k_mem); (case zzk3 => lia); k_whole)))
  k_with "call ref" => ((k_here; (with_reducible show wpAny _ _ (call (Value.ref 84) _) _ _ _); refine Halt.out ?_))
  exact True.intro
theorem heapreplace_ok {w : World} {p : Program} {loose : List Str} {mean : ExcName → Option Value} {mg mb : Str → Option Value} {news : List (Addr × Obj)} {V : Value → Prop} {lt : Value → Value → Bool} {d u : Nat}
  (hL : LtOk w news V lt d u)
  {dp un : Nat} {gd : Option (List Code)} {cn : Str} {cs : Scope} {a : Addr} {ccd : Value} {cl : List (Str × Addr)} {outer : List Env} {A₀ : Around} {base h₀ : Heap} {L : Addr} {m : Str → Option Value} {s : Shared} {l : Addr} {vs : List Value} {x : Value} {n : Nat} {Q E : Value → Shared → Prop} :
    Below A₀ base outer h₀ → Fr h₀ L s.heap m → (Mine.hd.heap_1 w.params).In h₀ → News h₀ L s.heap ((l, listOf vs.toArray n) :: news) → (∀ q ∈ news, q.1 ≠ l) → Top p loose mean mg mb h₀ → cs.kind = .function →
    (∀ v ∈ vs, V v) → V x → 0 < vs.length → vs.length < 1000 → dp + 3 + d < recursionLimit → un + 24 + u < cLine →
    (∀ h' tk', Fr h₀ L h' m → News h₀ L h' ((l, listOf (sup lt 0 (vs.set 0 x)).toArray n) :: news) → Q (vs.getD 0 .none) { s with heap := h', toks := tk' }) →
    wpAny (model PR w) (ktrTop dp un gd cn cs L a ccd cl outer) (call (.ref 49) [.ref l, x]) Q E s := by
  have fill : Mine.hd.heap_1 = Mine.hd.heap_1 ∧ PySem.Challenge.rw_xh0039_01 = PySem.Challenge.rw_xh0039_01 := by (k_fill; exact ⟨rfl, rfl⟩)
  clear fill
  intro B F X N hl T hk hV hx h0 h3 hd hu hQ
  have hd' : dp + 1 < recursionLimit := by lia
  refine wpAny_call ?_
  k_dflt ktr_enter
  k_steps
  refine ⟨?_⟩
  refine siftup_ok hL (by assumption) (by assumption) (by assumption) (by assumption) hl (by assumption) rfl ?_ (by rw [List.length_set]; lia) (by rw [List.length_set]; lia) (by lia) (by dsimp only [ktrTop, Around.deeper]; lia) ?_
  · intro v hv
    rcases List.mem_or_eq_of_mem_set hv with h | h
    · exact hV v h
    · rw [h]; exact hx
  intro h2 tk2 F2 N2
  k_steps
  exact hQ _ _ (by assumption) (by assumption)
end Mine
end
section -- Nl
open PySem PySem.W PySem.W.X PyProof.Rows PyProof.V PySem.Calls
namespace Mine
theorem setup_Nl_1 : True := by
  w_top off
  k_with_none
  k_with "call builtin:list.sort" => ((refine Halt.out ?_))
  k_with "call builtin:iter" => ((k_here; (with_reducible show wpAny _ _ (call (Value.builtin "iter") [Value.ref _]) _ _ _); k_dflt (refine' iter_at ?zzk1 ?zzk2 ?zzk3 ?_; (case zzk1 => k_asm); (case zzk2 => k_asm); (case zzk3 => k_mem); k_whole); intro _ _ _ _ l1; (try k_lt l1); revert l1; intro _))
  k_with "call type:zip" => ((k_here; (with_reducible show wpAny _ _ (call (Value.type "zip") [Value.ref _, Value.ref _]) _ _ _); refine Halt.out ?_))
  k_with "exec Assign cons ListComp" => ((k_here; lcp_look; refine Halt.out ?_))
  k_with "subscriptTail" => ((k_here; (with_reducible show wpAny _ _ (subscriptTail _ _ (Value.ref _) (Value.int _ _)) _ _ _); k_dflt (refine' item_at ?zzk1 ?zzk2 ?zzk3 ?zzk4 ?zzk5 ?_ ?zzk6; (case zzk1 => k_asm); (case zzk2 => k_mem); (case zzk3 => lia); (case zzk4 => lia); (case zzk5 => lia); (case zzk6 => with_unfolding_all rfl); k_whole)))
  k_with "exec While Compare cons nil" => ((refine Halt.out ?_))
  k_with "setItem ref int" => ((k_here; (with_reducible show wpAny _ _ (setItem (Value.ref _) (Value.int _ _) _) _ _ _); k_dflt (refine' set_at ?zzk1 ?zzk2 ?zzk3 ?zzk4 ?zzk5 ?zzk6 ?_; (case zzk1 => k_asm); (case zzk2 => k_asm); (case zzk3 => assumption); (case zzk4 => lia); (case zzk5 => lia); (case zzk6 => lia); k_whole); intro _ _ _; (try k_sweep)))
  k_with "binaryOp RShift int int" => ((k_here; k_dflt (refine' shr_one ?_)))
  k_with "call builtin:len" => ((k_here; (with_reducible show wpAny _ _ (call (Value.builtin "len") [Value.ref _]) _ _ _); k_dflt (refine' len_at ?zzk1 ?zzk2 ?zzk3 ?_; (case zzk1 => k_asm); (case zzk2 => k_mem); (case zzk3 => lia); k_whole)))
  k_with "call ref" => ((k_here; (first | (with_reducible show wpAny _ _ (call (Value.ref 56) _) _ _ _) | (with_reducible show wpAny _ _ (call (Value.ref 49) _) _ _ _)); refine Halt.out ?_))
  k_with "call builtin:max" => ((refine Halt.out ?_))
  k_with "call builtin:sorted" => ((refine Halt.out ?_))
  k_with "eval ListComp" => ((refine Halt.out ?_))
  k_with "exec Try" => ((refine wpAny_Try_except ?_))
  exact True.intro
theorem nlargest_ok {w : World} {p : Program} {loose : List Str} {mean : ExcName → Option Value} {mg mb : Str → Option Value} {C : Addr} {l0 nw : List (Addr × Obj)}
  (hK : KNews w.params C l0) (hs : ∀ q ∈ l0, q ∈ nw)
  {dp un : Nat} {gd : Option (List Code)} {cn : Str} {cs : Scope} {a : Addr} {ccd : Value} {cl : List (Str × Addr)} {outer : List Env} {A₀ : Around} {base h₀ : Heap} {L : Addr} {m : Str → Option Value} {s : Shared} {l : Addr} {vs : List Value} {n k : Nat} {t1 : Tok} {row : List Str} {Q E : Value → Shared → Prop} :
    Below A₀ base outer h₀ → Fr h₀ L s.heap m → (Mine.hd.heap_1 w.params).In h₀ → News h₀ L s.heap ((l, W.listOf vs.toArray n) :: nw) → (∀ q ∈ nw, q.1 ≠ l) → Top p loose mean mg mb h₀ → cs.kind = .function →
    (k < vs.length ∨ (vs.length = 0 ∧ k = 0)) → vs.length < 64 → (∀ v ∈ vs, ∃ a t, v = .str a t) → row.Perm (vs.map strOf) → (row.Pairwise fun a b => strLt a b = false) → dp + 60 < recursionLimit → un + 300 < cLine →
    (∀ (D : Addr) (ys : List Value) c h' tk', Fr h₀ L h' m → News h₀ L h' ((D, W.listOf ys.toArray c) :: (l, W.listOf vs.toArray n) :: nw) → (∀ v ∈ ys, ∃ a t, v = .str a t) → ys.map strOf = row.take k → Q (.ref D) { s with heap := h', toks := tk' }) →
    wpAny (model PR w) (ktrTop dp un gd cn cs L a ccd cl outer) (call (.ref 110) [.int (k : Int) t1, .ref l] [(Str.ofString "key", .ref C)]) Q E s := by
  have fill : Mine.hd.heap_1 = Mine.hd.heap_1 ∧ PySem.Challenge.rw_xh0039_01 = PySem.Challenge.rw_xh0039_01 := by (k_fill; exact ⟨rfl, rfl⟩)
  clear fill
  intro B F X N hl T hk h3 h4 hstr hrow hrs hd hu hQ
  have hd' : dp + 1 < recursionLimit := by lia
  refine wpAny_call ?_
  k_dflt (refine' code_defC ?k1 ?k2 ?k3 ?k4 ?k5 ?kA ?kF ?kK ?k6 ?k7 ?k8 ?k9 ?kB ?kD ?_ ?c2 ?c3 ?c4; (case kA => exact rfl); (case kF => exact rfl); (case kK => exact hk); (case k1 => k_asm); (case k2 => k_asm); (case k3 => k_asm); (case k4 => k_asm); (case k5 => k_asm); (case k6 => k_is); (case k7 => k_is); (case k8 => ktr_room); (case k9 => first | exact BindsTo.of_eq rfl | exact binds_K (by k_in) rfl (by k_is) rfl rfl rfl); (case kB => exact rfl); (case kD => decide +kernel); (case c2 => exact rfl); (case c3 => exact rfl); (case c4 => exact rfl); k_whole; intro g' L' h' tk' cells' FG' F' N' Y' B' X' T' l1; (try k_lt l1); k_cells Y'; (try simp only [List.cons_append, List.nil_append] at N'); (try dsimp only); (try k_fold))
  k_steps
  all_goals (try refine ⟨?_⟩)
  · rename_i it1 lt1 _ F1 N1
    have hk1 : k = 1 := by
      have : (k : Int) = 1 := by assumption
      lia
    refine obj_new (Me.start _) ?_
    intro x1 o1 h1 tk1 Dm
    have F2 := Fr.ext F1 Dm.keep
    have N2 := News.ext N1 Dm.keep
    clear F1 N1
    k_steps
    refine ⟨?_⟩
    rename_i F3 N3
    refine max_call (h₀ := g') (L := L') rfl hK X' (by dsimp only [ktrTop, Around.deeper, Around.in1]; lia) (by dsimp only [ktrTop, Around.deeper, Around.in1]; lia) hstr (fun q hq => .tail _ (.tail _ (hs q hq))) (.tail _ (.head _)) (by lia) F3 N3 (fun q hq => Nat.ne_of_lt (kst_ltOf (l := (L' + 1, _) :: (l, W.listOf vs.toArray n) :: nw) lt1 q hq)) ?_
    intro v h4 tk4 hv hmin F4 N4
    clear F3 N3
    obtain ⟨av, tv, rfl⟩ := hstr v hv
    k_steps
    refine wpAny_is_other (by rfl) (by intro x; cases x) ?_
    k_steps
    rename_i kF kN _ _
    refine hQ _ [.str av tv] 0 _ _ kF (fun q hq => kN q (by
      rcases List.mem_cons.mp hq with rfl | hq
      · exact .head _
      · exact .tail _ (.tail _ hq))) (fun u hu => ⟨av, tv, List.mem_singleton.mp hu⟩) ?_
    rw [hk1]
    exact first_take xlt_tot hrow hrs (List.mem_map.mpr ⟨_, hv, rfl⟩) fun u hu => by
      obtain ⟨u', h1, rfl⟩ := List.mem_map.mp hu
      exact hmin u' h1
  · rename_i F1 N1 hle
    obtain ⟨hv0, rfl⟩ : vs.length = 0 ∧ k = 0 := by lia
    obtain rfl : vs = [] := List.length_eq_zero_iff.mp hv0
    refine sorted_few (vs := []) (b := true) (f := .ref C) F1 N1 ⟨_, (N1 _ (.tail _ (.head _))).1, rfl, _, rfl⟩ (by decide) (ksk_s2 _ _ _) (fun x => ksk_l2 _ _ _) (fun x => ksk_t2 _ _ true) fun D kS e1 h2 F2 N2 hlt off => ?_
    refine KatKeys.nil (KatFin.intro F2 N2 (.head fun q hq => ?_) fun h3 c3 F3 N3 => KasFin.intro (news := (D, seqObj "list" #[] e1) :: (L' + 1, _) :: (l, W.listOf _ n) :: nw) F3 (fun q hq => N3 q (.tail _ hq)) (.head fun q hq => Nat.ne_of_lt (off q hq)) fun h4 c4 F4 N4 => ?_)
    · rcases List.mem_cons.mp hq with rfl | hq
      · exact Nat.ne_of_lt hlt
      · exact Nat.ne_of_lt (Nat.lt_trans (off q hq) hlt)
    clear F1 N1 F2 N2 F3 N3
    k_steps
    rename_i kF kN _ _
    exact hQ _ [] _ _ _ kF (fun q hq => kN q (by
      rcases List.mem_cons.mp hq with rfl | hq
      · exact .head _
      · exact List.mem_of_mem_drop (i := 3) (by exact hq))) (fun _ hv => nomatch hv) rfl
  · rename_i o1 d1 _ _ _ _ _ it1 _ lt1 h1 F1 N1
    have h2 : k ≠ 1 := by lia
    replace h3 : k < vs.length := by lia
    refine Assign_T (cl := [(Str.ofString "key", L' + 1)]) (h₀ := g') (L := L') F1 ?a1 ?a2 ?a3 ?a4 ?a5 ?a6 ?a7 ?a8 ?_ ?a9
    case a1 => exact rfl
    case a4 => decide
    case a5 => exact rfl
    case a6 => decide
    case a7 => exact rfl
    case a8 => exact rfl
    case a9 => intro _; rfl
    case a2 => with_unfolding_all rfl
    case a3 => with_unfolding_all rfl
    k_steps
    rename_i F2 N2 K2
    refine ⟨?_⟩
    refine zr_src (l := l) (cc := L' + 1) (nn := n) (n := k) (xs := vs.toArray) (y := Str.ofString "result") hK ?b1 rfl rfl rfl rfl X' F2 N2 ?b2 (by assumption) ?b3 ?b4 (.tail _ (.head _)) ?b5 ?b6 ?b7 _ (.head _) ?b8 ?b9 ?b10 ?b11 ?b12 ?b13 ?b14 ?b15 ?_
    case b1 => intro q hq; exact .tail _ (.tail _ (hs q hq))
    case b3 => exact small_down (by decide) (by decide) (by lia) (by lia)
    case b4 => (rw [rangeSize_down]; split <;> lia)
    case b5 => show _ ≤ vs.toArray.size; rw [List.size_toArray]; lia
    case b6 => (rw [sizeLine_eq]; lia)
    case b7 => intro v hv; exact hstr v (by simpa using hv)
    case b8 => assumption
    case b9 => exact rfl
    case b10 => intro Cc; exact rfl
    case b11 => intro Cc; exact rfl
    case b12 => intro Cc; exact rfl
    case b13 => intro Cc; exact rfl
    case b14 => dsimp only [ktrTop, Around.deeper]; lia
    case b15 => dsimp only [ktrTop, Around.deeper]; lia
    case b2 => exact fun q hq => Nat.ne_of_lt (kst_ltOf (l := (L' + 1, o1) :: (l, W.listOf vs.toArray n) :: nw) lt1 q hq)
    intro D h tk ys nwl oi oi1 oi2 F3 N3 offs hDi hlen hT
    by_cases hk0 : k = 0
    · have hys : ys = [] := List.length_eq_zero_iff.mp (hlen.trans hk0)
      subst hys
      k_steps
      rename_i kF kN _ _
      exact hQ D [] 0 _ _ kF (fun q hq => kN q (by
        rcases List.mem_cons.mp hq with rfl | hq
        · exact .head _
        · exact .tail _ (.tail _ (List.mem_append_right _ (.tail _ hq))))) (fun _ hv => nomatch hv) (by rw [hk0]; rfl)
    have hne : ys.isEmpty = false := by cases ys with | nil => simp at hlen; lia | cons => rfl
    k_steps
    refine ⟨?_⟩
    have offD : ∀ q ∈ (it1, oi) :: (nwl ++ (L' + 1, o1) :: (l, W.listOf vs.toArray n) :: nw), q.1 ≠ D := offc (Ne.symm hDi) fun q hq => (offs q hq).1
    have subs : ∀ q ∈ l0, q ∈ (it1, oi) :: (nwl ++ (L' + 1, o1) :: (l, W.listOf vs.toArray n) :: nw) := fun q hq => .tail _ (List.mem_append_right _ (.tail _ (.tail _ (hs q hq))))
    have VT0 : ∀ j v, ys[j]? = some v → VT C (denL h) ((it1, oi) :: (nwl ++ (L' + 1, o1) :: (l, W.listOf vs.toArray n) :: nw)) v ∧ ∃ a t, vs[j]? = some (Value.str a t) ∧ (denL h v).1 = a := fun j v e => by
      obtain ⟨p, x, dx, ti, a', ta, rfl, e2, m1, m2⟩ := hT j v e
      obtain ⟨z1, z2⟩ := vt_mk (C := C) (h := h) (nw := (it1, oi) :: (nwl ++ (L' + 1, o1) :: (l, W.listOf vs.toArray n) :: nw)) (fun q hq => (N3 q (.tail _ hq)).1) (.tail _ (List.mem_append_left _ m1)) (.tail _ (List.mem_append_left _ m2))
      exact ⟨z1, a', ta, by simpa using e2, by rw [z2]⟩
    have VT1 : ∀ v ∈ ys, VT C (denL h) ((it1, oi) :: (nwl ++ (L' + 1, o1) :: (l, W.listOf vs.toArray n) :: nw)) v := fun v hv => by
      obtain ⟨j, hj, rfl⟩ := List.getElem_of_mem hv
      exact (VT0 j _ (List.getElem?_eq_getElem hj)).1
    refine heapify_ok (ltOk_tup (den := denL h) hK subs) (by assumption) (by assumption) (by assumption) (show News _ _ _ ((D, W.listOf ys.toArray ys.length) :: (it1, oi) :: (nwl ++ (L' + 1, o1) :: (l, W.listOf vs.toArray n) :: nw)) from N3) offD (by assumption) rfl VT1 (by lia) (by dsimp only [ktrTop, Around.deeper]; lia) (by dsimp only [ktrTop, Around.deeper]; lia) ?_
    intro h4 tk4 F4 N4
    have I0 : NInv (fun a b => strLt b a) (fun a b => tl b a) C (denL h) ((it1, oi) :: (nwl ++ (L' + 1, o1) :: (l, W.listOf vs.toArray n) :: nw)) ((vs.map strOf).take k) k (heapifyV (fun a b => tl (denL h a) (denL h b)) ys) := by
      refine NInv.first nord_max hlen VT1 ?_
      refine List.ext_getElem (by simp [hlen]; lia) fun j j1 j2 => ?_
      have hj : j < ys.length := by simpa using j1
      obtain ⟨_, a, t, e1, e2⟩ := VT0 j _ (List.getElem?_eq_getElem hj)
      have hjv : j < vs.length := by lia
      rw [List.getElem?_eq_getElem hjv] at e1
      have e3 : vs[j] = Value.str a t := Option.some.inj e1
      simp only [List.getElem_map, List.getElem_take, e2, e3]
      rfl
    replace I0 := (I0.up (h' := h4) (nw' := (it1, oi) :: (nwl ++ (L' + 1, o1) :: (l, W.listOf vs.toArray n) :: nw)) (fun q hq => (N4 q (.tail _ hq)).1) fun _ hq => hq).filt (nw' := nwl ++ (L' + 1, o1) :: (l, W.listOf vs.toArray n) :: nw) fun q hq => by
      rcases List.mem_cons.mp hq with rfl | hq
      · exact .inl oi1
      · exact .inr hq
    generalize heapifyV (fun a b => tl (denL h a) (denL h b)) ys = hp at I0 N4
    have hpl := I0.len
    refine ex9 (fun p0 x0 dx0 i0 ti0 a0 ta0 tb0 n0 => and4 fun e0 m1 m2 d0 => ?_) (I0.V _ (g_mem (i := 0) (by lia)))
    rw [hlen] at N4
    k_steps
    rw [show hp.getD (Int.toNat 0) .none = .ref p0 from e0]
    have N5 : News g' L' h4 ((p0, tup3 x0 i0 ti0 a0 ta0 n0) :: (x0, instK C dx0 a0 tb0) :: (D, W.listOf hp.toArray k) :: (it1, oi) :: (nwl ++ (L' + 1, o1) :: (l, W.listOf vs.toArray n) :: nw)) :=
      nwc (N4 _ (.tail _ (.tail _ m1))) (nwc (N4 _ (.tail _ (.tail _ m2))) N4)
    clear N4
    k_steps
    rename_i F6 N6
    refine For_invV g' rfl rfl ?_ (by intro _; rfl)
    k_steps
    refine wpAny_pyIter_listiter (l := l) (i := k) ⟨oi, (N6 _ (.tail _ (.tail _ (.tail _ (.head _))))).1, oi1, oi2⟩ ?_
    refine loop_invG (ax := l) (items := vs.toArray) (k := k) (n := vs.length - k) (nn := n) (oi := oi) (news := (D, W.listOf hp.toArray k) :: ((p0, tup3 x0 i0 ti0 a0 ta0 n0) :: (x0, instK C dx0 a0 tb0) :: (nwl ++ (L' + 1, o1) :: (l, W.listOf vs.toArray n) :: nw)))
      (fun j m₁ nx => ∃ (hp : List Value) (rest : List (Addr × Obj)) (den : Value → Str × Int) (x0 dx0 : Addr) (a0 : Str) (tb0 : Tok) (ord : Int) (t : Tok), nx = (D, W.listOf hp.toArray k) :: rest ∧ (∀ q ∈ rest, q.1 ≠ D) ∧ (∀ q ∈ (L' + 1, o1) :: (l, W.listOf vs.toArray n) :: nw, q ∈ rest) ∧
        NInv (fun a b => strLt b a) (fun a b => tl b a) C den rest ((vs.map strOf).take (k + j)) k hp ∧ (x0, instK C dx0 a0 tb0) ∈ rest ∧ (den (g hp 0)).1 = a0 ∧ m₁ (Str.ofString "result") = some (.ref D) ∧ m₁ (Str.ofString "top") = some (.ref x0) ∧ m₁ (Str.ofString "order") = some (.int ord t) ∧ m₁ (Str.ofString "_heapreplace") = some (.ref 49))
      rfl (by rw [List.size_toArray]; lia) ⟨oi1, oi2⟩ F6 ?_ ?_ ?_ ?_ ?_ ?_
    · exact nwc (N6 _ (.tail _ (.tail _ (.tail _ (.head _))))) (nwc (N6 _ (.tail _ (.tail _ (.head _)))) (nwc (N6 _ (.head _)) (nwc (N6 _ (.tail _ (.head _))) fun q hq => N6 _ (.tail _ (.tail _ (.tail _ (.tail _ hq)))))))
    · exact offc hDi (offc (offs _ m1).2 (offc (offs _ m2).2 fun q hq => (offs _ hq).2))
    · refine ⟨hp, _, denL h4, x0, dx0, a0, tb0, _, _, rfl, ?_, fun q hq => .tail _ (.tail _ (List.mem_append_right _ hq)), I0.mono fun q hq => .tail _ (.tail _ hq), .tail _ (.head _), congrArg Prod.fst d0, rfl, rfl, rfl, rfl⟩
      exact offc (offs _ m1).1 (offc (offs _ m2).1 fun q hq => (offs _ hq).1)
    · rintro i m nw' ⟨hp, rest, den, x0, dx0, a0, tb0, ord, t, rfl, h1, h2, _⟩
      exact .tail _ (h2 _ (.tail _ (.head _)))
    · obtain ⟨nd0, bt0, t0, u0, hCn⟩ := knews_cls hK
      intro i v m₂ nx h6 tk6 oj hi hv hoj
      refine ex9 fun hp rest den x0 dx0 a0 tb0 ord t => and10 fun enx r1 r2 I r3 r4 b1 b2 b3 b4 => ?_
      subst enx
      intro F7 N7 off7
      obtain ⟨av, tv, rfl⟩ : ∃ a t, v = Value.str a t := hstr v (by simpa using Array.mem_of_getElem? hv)
      rw [← pin (m := m₂) (ks := [(Str.ofString "result", .ref D), (Str.ofString "top", .ref x0), (Str.ofString "order", .int ord t), (Str.ofString "_heapreplace", .ref 49)]) (by
        intro q hq; simp only [List.mem_cons, List.not_mem_nil, or_false] at hq; rcases hq with rfl | rfl | rfl | rfl <;> assumption)] at F7
      have N8 : News g' L' h6 ((D, W.listOf hp.toArray k) :: (L' + 1, o1) :: (x0, instK C dx0 a0 tb0) :: (it1, oj) :: rest) :=
        nwc (N7 _ (.tail _ (.head _))) (nwc (N7 _ (.tail _ (.tail _ (r2 _ (.head _))))) (nwc (N7 _ (.tail _ (.tail _ r3))) (nwc (N7 _ (.head _)) fun q hq => N7 _ (.tail _ (.tail _ hq)))))
      clear b1 b2 b3 b4 N7 F6 N6
      have H6 : Has w nw h6 := .of F7 X' N8 fun q hq => .tail _ (.tail _ (.tail _ (.tail _ (r2 _ (.tail _ (.tail _ hq))))))
      k_steps
      refine callWith_K (nd := nd0) (bt := bt0) (t := t0) (u2 := u0) ?_
      k_steps
      · exact H6.2 _ (hs _ hCn)
      refine k_new (KAt.of hK hs H6) (Me.start _) (by dsimp only [ktrTop, Around.deeper]; lia) (by dsimp only [ktrTop, Around.deeper]; lia) ?_
      intro x1 dx1 f1 of1 h7 tk7 Dm
      have N9 := news_me F7 N8 Dm
      have F9 := Fr.ext F7 Dm.keep
      have x1D : x1 ≠ D := fun e => by
        have z := (Dm.nw _ (.tail _ (.head _))).2
        rw [e, (N8 _ (.head _)).1] at z; cases z
      have x1I : x1 ≠ it1 := fun e => by
        have z := (Dm.nw _ (.tail _ (.head _))).2
        rw [e, (N8 _ (.tail _ (.tail _ (.tail _ (.head _))))).1] at z; cases z
      simp only [List.cons_append, List.nil_append] at N9
      clear F7 N8
      k_steps
      rename_i F10 N10
      have H10 : Has w nw _ := .of F10 X' N10 fun q hq => .tail _ (.tail _ (.tail _ (.tail _ (.tail _ (.tail _ (.tail _ (r2 _ (.tail _ (.tail _ hq)))))))))
      refine kcmp_lt (KAt.of hK hs H10) (N10 _ (.tail _ (.tail _ (.tail _ (.tail _ (.tail _ (.head _))))))).1 (N10 _ (.tail _ (.head _))).1 (by dsimp only [ktrTop, Around.deeper]; lia) (by dsimp only [ktrTop, Around.deeper]; lia) ?_
      intro h11 tk11 e11
      have F11 := Fr.ext F10 e11
      have N11 := News.ext N10 e11
      clear F10 N10 H10
      rw [collI_lt]
      k_steps
      · rename_i hb T1 h12 F12 N12 lt12
        refine ⟨?_⟩
        have N13 : News g' L' h12 ((D, W.listOf hp.toArray k) :: (T1, tup3 x1 ord t av tv 0) :: (x1, instK C dx1 av tv) :: (it1, oj) :: rest) :=
          nwc (N12 _ (.tail _ (.tail _ (.tail _ (.tail _ (.head _)))))) (nwc (N12 _ (.head _)) (nwc (N12 _ (.tail _ (.tail _ (.head _)))) fun q hq => N12 _ (.tail _ (.tail _ (.tail _ (.tail _ (.tail _ (.tail _ (.tail _ hq)))))))))
        have offX : ∀ q ∈ (T1, tup3 x1 ord t av tv 0) :: (x1, instK C dx1 av tv) :: (it1, oj) :: rest, q.1 ≠ D :=
          offc (Ne.symm (Nat.ne_of_lt lt12.2.2.2.1)) (offc x1D (offc (Ne.symm (off7 _ (.head _))) r1))
        have subX : ∀ q ∈ rest, q ∈ (T1, tup3 x1 ord t av tv 0) :: (x1, instK C dx1 av tv) :: (it1, oj) :: rest := fun q hq => .tail _ (.tail _ (.tail _ hq))
        have hIn : In' h12 ((T1, tup3 x1 ord t av tv 0) :: (x1, instK C dx1 av tv) :: (it1, oj) :: rest) := fun q hq => (N13 q (.tail _ hq)).1
        have I13 := I.up hIn subX
        have hpl1 := I.len
        have ha0 : (denL h12 (g hp 0)).1 = a0 := by rw [(vt_up (I.V _ (g_mem (by lia))) hIn subX).2]; exact r4
        obtain ⟨vt1, de1⟩ := vt_mk (C := C) hIn (.head _) (.tail _ (.head _))
        refine heapreplace_ok (ltOk_tup (den := denL h12) hK fun q hq => subX _ (r2 _ (.tail _ (.tail _ (hs q hq))))) (by assumption) F12 X' N13 offX T' rfl I13.V vt1 (by lia) (by lia) (by dsimp only [ktrTop, Around.deeper]; lia) (by dsimp only [ktrTop, Around.deeper]; lia) ?_
        intro h14 tk14 F14 N14
        have I14 := (I13.swap nord_max (by lia) vt1 (by rw [de1]) (by rw [ha0]; exact hb)).up (h' := h14) (nw' := (T1, tup3 x1 ord t av tv 0) :: (x1, instK C dx1 av tv) :: (it1, oj) :: rest) (fun q hq => (N14 q (.tail _ hq)).1) fun _ hq => hq
        generalize sup (fun a b => tl (denL h12 a) (denL h12 b)) 0 (hp.set 0 (.ref T1)) = hp2 at I14 N14
        have hpl2 := I14.len
        refine ex9 (fun p2 x2 dx2 i2 ti2 a2 ta2 tb2 n2 => and4 fun e2 m1' m2' d2 => ?_) (I14.V _ (g_mem (i := 0) (by lia)))
        clear F12 N12 N13
        have N15 : News g' L' h14 ((p2, tup3 x2 i2 ti2 a2 ta2 n2) :: (D, W.listOf hp2.toArray k) :: (T1, tup3 x1 ord t av tv 0) :: (x1, instK C dx1 av tv) :: (it1, oj) :: rest) :=
          nwc (N14 _ (.tail _ m1')) N14
        clear N14
        k_steps
        rw [show hp2.getD (Int.toNat 0) .none = .ref p2 from e2]
        k_steps
        rename_i h16 F16 N16
        refine ⟨rfl, h16, _, _, (D, W.listOf hp2.toArray k) :: (T1, tup3 x1 ord t av tv 0) :: (x1, instK C dx1 av tv) :: rest, rfl, F16, ?_, ?_, hp2, _, denL h14, x2, dx2, a2, tb2, _, _, rfl, ?_, fun q hq => .tail _ (.tail _ (r2 q hq)), ?_, ?_, congrArg Prod.fst d2, rfl, rfl, rfl, rfl⟩
        · exact nwc (N16 _ (.tail _ (.tail _ (.tail _ (.tail _ (.head _)))))) (nwc (N16 _ (.tail _ (.head _))) (nwc (N16 _ (.tail _ (.tail _ (.head _)))) (nwc (N16 _ (.tail _ (.tail _ (.tail _ (.head _))))) fun q hq => N16 _ (.tail _ (.tail _ (.tail _ (.tail _ (.tail _ hq))))))))
        · exact offc (off7 (D, W.listOf hp.toArray k) (.head _)) (offc (Ne.symm (Nat.ne_of_lt lt12.2.2.2.2.2.2.1)) (offc x1I fun q hq => off7 _ (.tail _ hq)))
        · exact offc (offX _ (.head _)) (offc (offX _ (.tail _ (.head _))) fun q hq => offX _ (subX _ hq))
        · rw [show List.take (k + (i + 1)) (vs.map strOf) = _ from take_more hv]
          refine I14.filt fun q hq => ?_
          rcases List.mem_cons.mp hq with rfl | hq
          · exact .inr (.head _)
          rcases List.mem_cons.mp hq with rfl | hq
          · exact .inr (.tail _ (.head _))
          rcases List.mem_cons.mp hq with rfl | hq
          · exact .inl hoj
          exact .inr (.tail _ (.tail _ hq))
        · rcases List.mem_cons.mp m2' with e | hq
          · cases e
          rcases List.mem_cons.mp hq with e | hq
          · cases e; exact .tail _ (.head _)
          rcases List.mem_cons.mp hq with e | hq
          · exact absurd (congrArg (fun p : Addr × Obj => p.2.cls) e) (by rw [show oj.cls = _ from hoj]; exact fun z => nomatch z)
          exact .tail _ (.tail _ hq)
      · rename_i hb
        refine ⟨rfl, _, _, _, (D, W.listOf hp.toArray k) :: rest, rfl, F11, ?_, ?_, hp, _, den, x0, dx0, a0, tb0, ord, t, rfl, r1, r2, ?_, r3, r4, rfl, rfl, rfl, rfl⟩
        · exact nwc (N11 _ (.tail _ (.tail _ (.tail _ (.tail _ (.tail _ (.tail _ (.head _)))))))) (nwc (N11 _ (.tail _ (.tail _ (.tail _ (.head _))))) fun q hq => N11 _ (.tail _ (.tail _ (.tail _ (.tail _ (.tail _ (.tail _ (.tail _ hq))))))))
        · exact offc (off7 _ (.head _)) fun q hq => off7 _ (.tail _ hq)
        · rw [show List.take (k + (i + 1)) (vs.map strOf) = _ from take_more hv]
          exact I.skip nord_max (by rw [r4]; exact hb)
    · intro m₂ nx h6 tk6
      refine ex9 fun hp rest den x0 dx0 a0 tb0 ord t => and10 fun enx r1 r2 I r3 r4 b1 b2 b3 b4 => ?_
      subst enx
      intro F7 N7 off7
      rw [← pin (m := m₂) (ks := [(Str.ofString "result", .ref D)]) (by
        intro q hq; simp only [List.mem_cons, List.not_mem_nil, or_false] at hq; rcases hq with rfl; assumption)] at F7
      clear b1 b2 b3 b4 F6 N6 r3 r4
      have hpl1 := I.len
      k_steps
      refine callWith_kw1 ?_
      k_steps
      refine ⟨?_⟩
      refine tsortR_ok hK (fun q hq => r2 q (.tail _ (.tail _ (hs q hq)))) F7 X' N7 r1 I.V (by lia) (by lia) (by dsimp only [ktrTop, Around.deeper]; lia) (by dsimp only [ktrTop, Around.deeper]; lia) ?_
      intro out c8 h8 tk8 op os F8 N8
      clear F7 N7
      k_steps
      refine ⟨?_⟩
      refine Eval_T (h₀ := g') (L := L') (cl := []) (m := pinned [(Str.ofString "result", .ref D)] m₂) (news := rest) (ar := 3) (Bd := fun m vals => ∀ a b c, vals = [a, b, c] → m (Str.ofString "elem") = some c)
        (R := fun i y _ => ∃ a t v, y = Value.str a t ∧ out[i]? = some v ∧ (den v).1 = a) ?c1 ?c2 ?c3 ?c4 ?cM ?c5
      case c5 => intro _; rfl
      case c1 => with_unfolding_all rfl
      case c2 => decide
      case c3 => exact rfl
      case c4 => decide
      case cM =>
        refine wpAny_Name (wpAny_loadName_local rfl rfl F8.ns rfl ?_)
        have hout : ∀ v ∈ out, VT C den rest v := fun v hv => I.V v (op.mem_iff.mp hv)
        have hol : out.length = k := op.length_eq.trans hpl1
        refine ⟨D, out.toArray, c8, rfl, rfl, asg3 rfl rfl rfl rfl rfl, F8, N8, by rw [List.size_toArray, sizeLine_eq]; lia, ?_, ?_, ?_, ?_⟩
        · intro i hi
          obtain ⟨p, x, dx, i1, ti, a, ta, tb, n1, e, m1, _⟩ := hout _ (List.getElem_mem (by simpa using hi))
          exact ⟨p, _, _, _, by rw [List.getElem?_toArray, List.getElem?_eq_getElem (by simpa using hi), e], m1, rfl, rfl⟩
        · intro i vals T o n1 e1 hm ed
          obtain ⟨p, x, dx, i1, ti, a, ta, tb, n2, e, m1, _⟩ := hout (.ref T) (by have := Array.mem_of_getElem? e1; simpa using this)
          cases e
          have z := (N8 _ (.tail _ hm)).1.symm.trans (N8 _ (.tail _ m1)).1
          cases z
          injection ed with ed1
          have := congrArg Array.toList ed1
          simp at this
          rw [← this]; rfl
        · intro i vals T o n1 Cc h9 tk9 m9 E9 e1 hm ed hns hB
          obtain ⟨p, x, dx, i1, ti, a, ta, tb, n2, e, m1, _, d1⟩ := hout (.ref T) (by have := Array.mem_of_getElem? e1; simpa using this)
          cases e
          have z := (N8 _ (.tail _ hm)).1.symm.trans (N8 _ (.tail _ m1)).1
          cases z
          injection ed with ed1
          have ev := congrArg Array.toList ed1
          simp only [List.toList_toArray] at ev
          have b3 := hB _ _ _ ev.symm
          refine wpAny_Name (wpAny_loadName_local rfl rfl hns b3 ?_)
          exact ⟨h9, _, [], rfl, fun _ _ e => e, fun _ hq => (nomatch hq), a, ta, _, rfl, by simpa using e1, congrArg Prod.fst d1⟩
        · intro D9 h9 tk9 ys9 F9 N9 off9 len9 hR9
          clear F8 N8
          k_steps
          rename_i kF kN _ _
          have hj : ∀ j (h1 : j < ys9.length) (h2 : j < out.length), ∃ a t, ys9[j] = Value.str a t ∧ (den out[j]).1 = a := fun j h1 h2 => by
            obtain ⟨_, a, t, v, e1, e2, e3⟩ := hR9 j _ (List.getElem?_eq_getElem h1)
            rw [List.getElem?_eq_getElem h2] at e2
            cases e2
            exact ⟨a, t, e1, e3⟩
          have hl9 : ys9.length = out.length := by rw [len9, List.size_toArray]
          refine hQ D9 ys9 ys9.length _ _ kF (fun q hq => kN q ?_) (fun v hv => ?_) ?_
          · rcases List.mem_cons.mp hq with rfl | hq
            · exact .head _
            · exact .tail _ (.tail _ (r2 _ (.tail _ hq)))
          · obtain ⟨j, j1, rfl⟩ := List.getElem_of_mem hv
            obtain ⟨a, t, e, _⟩ := hj j j1 (by lia)
            exact ⟨a, t, e⟩
          · rw [← I.fin nord_max op os (row := row) (by rw [List.take_of_length_le (by simp; lia)]; exact hrow) hrs]
            refine List.ext_getElem (by simp [hl9]) fun j j1 j2 => ?_
            obtain ⟨a, t, e, e'⟩ := hj j (by simpa using j1) (by simpa using j2)
            simp only [List.getElem_map, e, e']
            rfl
end Mine
end
section -- Sdm
open PySem PySem.W PySem.W.X PyProof.Rows
namespace Mine
theorem setup_Sdm_1 : True := by
  w_top off
  k_with_none
  k_with "subscriptTail" => ((k_here; (with_reducible show wpAny _ _ (subscriptTail _ _ (Value.ref _) (Value.int _ _)) _ _ _); k_dflt (refine' item_at ?zzk1 ?zzk2 ?zzk3 ?zzk4 ?zzk5 ?_ ?zzk6; (case zzk1 => k_asm); (case zzk2 => k_mem); (case zzk3 => lia); (case zzk4 => lia); (case zzk5 => lia); (case zzk6 => with_unfolding_all rfl); k_whole)))
  k_with "exec While Compare cons nil" => ((refine Halt.out ?_))
  k_with "setItem ref int" => ((k_here; (with_reducible show wpAny _ _ (setItem (Value.ref _) (Value.int _ _) _) _ _ _); k_dflt (refine' set_at ?zzk1 ?zzk2 ?zzk3 ?zzk4 ?zzk5 ?zzk6 ?_; (case zzk1 => k_asm); (case zzk2 => k_asm); (case zzk3 => assumption); (case zzk4 => lia); (case zzk5 => lia); (case zzk6 => lia); k_whole); intro _ _ _; (try k_sweep)))
  k_with "binaryOp RShift int int" => ((k_here; k_dflt (refine' shr_one ?_)))
  exact True.intro
theorem siftdownM_ok {w : World} {p : Program} {loose : List Str} {mean : ExcName → Option Value} {mg mb : Str → Option Value} {news : List (Addr × Obj)} {V : Value → Prop} {lt : Value → Value → Bool} {d u : Nat}
  (hL : LtOk w news V lt d u)
  {dp un : Nat} {gd : Option (List Code)} {cn : Str} {cs : Scope} {a : Addr} {ccd : Value} {cl : List (Str × Addr)} {outer : List Env} {A₀ : Around} {base h₀ : Heap} {L : Addr} {m : Str → Option Value} {s : Shared} {l : Addr} {vs : List Value} {n : Nat} {sp pos : Nat} {t1 t2 : Tok} {Q E : Value → Shared → Prop} :
    Below A₀ base outer h₀ → Fr h₀ L s.heap m → (Mine.hd.heap_1 w.params).In h₀ → News h₀ L s.heap ((l, listOf vs.toArray n) :: news) → (∀ q ∈ news, q.1 ≠ l) → Top p loose mean mg mb h₀ → cs.kind = .function →
    (∀ v ∈ vs, V v) → sp ≤ pos → pos < vs.length → vs.length < 1000 → dp + 1 + d < recursionLimit → un + 8 + u < cLine →
    (∀ h' tk', Fr h₀ L h' m → News h₀ L h' ((l, listOf (sdn (fun a b => lt b a) sp pos vs).toArray n) :: news) → Q .none { s with heap := h', toks := tk' }) →
    wpAny (model PR w) (ktrTop dp un gd cn cs L a ccd cl outer) (call (.ref 91) [.ref l, .int (sp : Int) t1, .int (pos : Int) t2]) Q E s := by
  have fill : Mine.hd.heap_1 = Mine.hd.heap_1 ∧ PySem.Challenge.rw_xh0039_01 = PySem.Challenge.rw_xh0039_01 := by (k_fill; exact ⟨rfl, rfl⟩)
  clear fill
  intro B F X N hl T hk hV h1 h2 h3 hd hu hQ
  have hd' : dp + 1 < recursionLimit := by lia
  refine wpAny_call ?_
  k_dflt ktr_enter
  k_steps
  refine ⟨?_⟩
  rename_i F1 N1
  refine While_inv2 (fun k m₁ nw => ∃ vs' tp, nw = (l, listOf vs'.toArray n) :: news ∧ m₁ "heap" = some (.ref l) ∧ m₁ "startpos" = some (.int (sp : Int) t1) ∧ m₁ "pos" = some (.int (k : Int) tp) ∧ m₁ "newitem" = some (vs.getD pos .none) ∧
    vs'.length = vs.length ∧ (∀ v ∈ vs', V v) ∧ k < vs.length ∧ sdnW (fun a b => lt b a) (vs.getD pos .none) sp k vs' = sdn (fun a b => lt b a) sp pos vs) (n₀ := pos) F1 N1 ⟨vs, t2, rfl, rfl, rfl, rfl, rfl, rfl, hV, h2, rfl⟩ ?_ ?_
  · rintro k m₁ nw h₁ tk₁ F₂ N₂ ⟨vs', tp, rfl, e1, e2, e3, e4, e5, e6, e7, e9⟩
    rw [← pin (m := m₁) (ks := [("heap", .ref l), ("startpos", .int (sp : Int) t1), ("pos", .int (k : Int) tp), ("newitem", vs.getD pos .none)]) (by
      intro q hq; simp only [List.mem_cons, List.not_mem_nil, or_false] at hq; rcases hq with rfl | rfl | rfl | rfl <;> assumption)] at F₂
    clear e1 e2 e3 e4 F1 N1
    k_steps
    · refine LtOk.use hL (by assumption) (by assumption) (by assumption) (fun q hq => .tail _ hq) ?_ ?_ (by dsimp only [ktrTop, Around.deeper]; lia) (by dsimp only [ktrTop, Around.deeper]; lia) ?_
      · exact e6 _ (by rw [List.getD_eq_getElem?_getD, List.getElem?_eq_getElem (by lia)]; exact List.getElem_mem _)
      · exact hV _ (by rw [List.getD_eq_getElem?_getD, List.getElem?_eq_getElem h2]; exact List.getElem_mem _)
      intro h' tk' F' N'
      k_steps
      · refine ⟨_, _, _, _, (k - 1) / 2, rfl, by assumption, by assumption, by lia, _, _, rfl, rfl, rfl, congrArg (fun z => some (Value.int z _)) (show ((k : Int) - 1) / 2 = (((k - 1) / 2 : Nat) : Int) by lia), rfl, ?_, ?_, by lia, ?_⟩
        · rw [List.length_set]; exact e5
        · intro v hv
          rcases List.mem_or_eq_of_mem_set hv with h | h
          · exact e6 v h
          · rw [h]; exact e6 _ (by rw [List.getD_eq_getElem?_getD, List.getElem?_eq_getElem (by lia)]; exact List.getElem_mem _)
        · have ek : (((k : Int) - 1) / 2).toNat = (k - 1) / 2 := by lia
          have hlt : lt (vs'.getD (((k : Int) - 1) / 2).toNat .none) (vs.getD pos .none) = true := by assumption
          rw [ek] at hlt ⊢
          rw [← e9]
          conv => rhs; rw [sdnW, if_pos (by lia), if_pos hlt]
          rfl
      · dsimp only [WhileStep2]
        k_steps
        refine hQ _ _ (by assumption) ?_
        have ek : (((k : Int) - 1) / 2).toNat = (k - 1) / 2 := by lia
        have hlt : lt (vs'.getD (((k : Int) - 1) / 2).toNat .none) (vs.getD pos .none) = false := by assumption
        rw [ek] at hlt
        have e : vs'.set (k : Int).toNat (vs.getD pos .none) = sdn (fun a b => lt b a) sp pos vs := by
          rw [← e9, sdnW, if_pos (by lia), if_neg (by rw [hlt]; decide)]; rfl
        rw [← e]
        assumption
    · refine hQ _ _ (by assumption) ?_
      have e : vs'.set (k : Int).toNat (vs.getD pos .none) = sdn (fun a b => lt b a) sp pos vs := by
        rw [← e9, sdnW, if_neg (by lia)]; rfl
      rw [← e]
      assumption
  · passes_own
end Mine
end
section -- Supm
open PySem PySem.W PySem.W.X PyProof.Rows
namespace Mine
theorem setup_Supm_1 : True := by
  w_top off
  k_with_none
  k_with "subscriptTail" => ((k_here; (with_reducible show wpAny _ _ (subscriptTail _ _ (Value.ref _) (Value.int _ _)) _ _ _); k_dflt (refine' item_at ?zzk1 ?zzk2 ?zzk3 ?zzk4 ?zzk5 ?_ ?zzk6; (case zzk1 => k_asm); (case zzk2 => k_mem); (case zzk3 => lia); (case zzk4 => lia); (case zzk5 => lia); (case zzk6 => with_unfolding_all rfl); k_whole)))
  k_with "exec While Compare cons nil" => ((refine Halt.out ?_))
  k_with "setItem ref int" => ((k_here; (with_reducible show wpAny _ _ (setItem (Value.ref _) (Value.int _ _) _) _ _ _); k_dflt (refine' set_at ?zzk1 ?zzk2 ?zzk3 ?zzk4 ?zzk5 ?zzk6 ?_; (case zzk1 => k_asm); (case zzk2 => k_asm); (case zzk3 => assumption); (case zzk4 => lia); (case zzk5 => lia); (case zzk6 => lia); k_whole); intro _ _ _; (try k_sweep)))
  k_with "binaryOp RShift int int" => ((k_here; k_dflt (refine' shr_one ?_)))
  k_with "call builtin:len" => ((k_here; (with_reducible show wpAny _ _ (call (Value.builtin "len") [Value.ref _]) _ _ _); k_dflt (refine' len_at ?zzk1 ?zzk2 ?zzk3 ?_; (case zzk1 => k_asm); (case zzk2 => k_mem); (case zzk3 => lia); k_whole)))
  k_with "call ref" => ((k_here; (with_reducible show wpAny _ _ (call (Value.ref 91) _) _ _ _); refine Halt.out ?_))
  exact True.intro
theorem siftupM_ok {w : World} {p : Program} {loose : List Str} {mean : ExcName → Option Value} {mg mb : Str → Option Value} {news : List (Addr × Obj)} {V : Value → Prop} {lt : Value → Value → Bool} {d u : Nat}
  (hL : LtOk w news V lt d u)
  {dp un : Nat} {gd : Option (List Code)} {cn : Str} {cs : Scope} {a : Addr} {ccd : Value} {cl : List (Str × Addr)} {outer : List Env} {A₀ : Around} {base h₀ : Heap} {L : Addr} {m : Str → Option Value} {s : Shared} {l : Addr} {vs : List Value} {n : Nat} {pos : Nat} {t2 : Tok} {Q E : Value → Shared → Prop} :
    Below A₀ base outer h₀ → Fr h₀ L s.heap m → (Mine.hd.heap_1 w.params).In h₀ → News h₀ L s.heap ((l, listOf vs.toArray n) :: news) → (∀ q ∈ news, q.1 ≠ l) → Top p loose mean mg mb h₀ → cs.kind = .function →
    (∀ v ∈ vs, V v) → pos < vs.length → vs.length < 1000 → dp + 2 + d < recursionLimit → un + 16 + u < cLine →
    (∀ h' tk', Fr h₀ L h' m → News h₀ L h' ((l, listOf (sup (fun a b => lt b a) pos vs).toArray n) :: news) → Q .none { s with heap := h', toks := tk' }) →
    wpAny (model PR w) (ktrTop dp un gd cn cs L a ccd cl outer) (call (.ref 98) [.ref l, .int (pos : Int) t2]) Q E s := by
  have fill : Mine.hd.heap_1 = Mine.hd.heap_1 ∧ PySem.Challenge.rw_xh0039_01 = PySem.Challenge.rw_xh0039_01 := by (k_fill; exact ⟨rfl, rfl⟩)
  clear fill
  intro B F X N hl T hk hV h1 h3 hd hu hQ
  have hd' : dp + 1 < recursionLimit := by lia
  refine wpAny_call ?_
  k_dflt ktr_enter
  k_steps
  refine ⟨?_⟩
  rename_i F1 N1
  refine While_inv2 (fun k m₁ nw => ∃ q vs' tp tc te, k = vs.length - q ∧ nw = (l, listOf vs'.toArray n) :: news ∧ m₁ "heap" = some (.ref l) ∧ m₁ "startpos" = some (.int (pos : Int) t2) ∧ m₁ "pos" = some (.int (q : Int) tp) ∧ m₁ "newitem" = some (vs.getD pos .none) ∧ m₁ "endpos" = some (.int (vs.length : Int) te) ∧ m₁ "childpos" = some (.int (2 * (q : Int) + 1) tc) ∧
    vs'.length = vs.length ∧ (∀ v ∈ vs', V v) ∧ q < vs.length ∧ supW (fun a b => lt b a) q vs' = supW (fun a b => lt b a) pos vs ∧ pos ≤ q) (n₀ := vs.length - pos) F1 N1 ?_ ?_ ?_
  · refine ⟨pos, vs, _, _, _, rfl, rfl, rfl, rfl, rfl, rfl, rfl, rfl, rfl, hV, h1, rfl, Nat.le_refl _⟩
  · rintro k m₁ nw h₁ tk₁ F₂ N₂ ⟨q, vs', tp, tc, te, rfl, rfl, e1, e2, e3, e4, e5, e6, e7, e8, e9, e10, e11⟩
    rw [← pin (m := m₁) (ks := [("heap", .ref l), ("startpos", .int (pos : Int) t2), ("pos", .int (q : Int) tp), ("newitem", vs.getD pos .none), ("endpos", .int (vs.length : Int) te), ("childpos", .int (2 * (q : Int) + 1) tc)]) (by
      intro q hq; simp only [List.mem_cons, List.not_mem_nil, or_false] at hq; rcases hq with rfl | rfl | rfl | rfl | rfl | rfl <;> assumption)] at F₂
    clear e1 e2 e3 e4 e5 e6 F1 N1
    have n1 : (2 * (q : Int) + 1).toNat = 2 * q + 1 := by lia
    have n2 : (2 * (q : Int) + 1 + 1).toNat = 2 * q + 2 := by lia
    have n0 : ((q : Int)).toNat = q := by lia
    k_steps
    · refine LtOk.use hL (by assumption) (by assumption) (by assumption) (fun q hq => .tail _ hq) ?_ ?_ (by dsimp only [ktrTop, Around.deeper]; lia) (by dsimp only [ktrTop, Around.deeper]; lia) ?_
      · exact e8 _ (by rw [List.getD_eq_getElem?_getD, List.getElem?_eq_getElem (by lia)]; exact List.getElem_mem _)
      · exact e8 _ (by rw [List.getD_eq_getElem?_getD, List.getElem?_eq_getElem (by lia)]; exact List.getElem_mem _)
      intro h' tk' F' N'
      k_steps
      · have hlt : lt (vs'.getD (2 * (q : Int) + 1 + 1).toNat .none) (vs'.getD (2 * (q : Int) + 1).toNat .none) = true := by assumption
        refine ⟨_, _, _, _, vs.length - (2 * q + 1), rfl, by assumption, by assumption, by lia, 2 * q + 1, _, _, _, _, rfl, rfl, rfl, rfl, congrArg (fun z => some (Value.int z _)) (show (2 * (q : Int) + 1) = ((2 * q + 1 : Nat) : Int) by lia), rfl, rfl, congrArg (fun z => some (Value.int z _)) (show 2 * (2 * (q : Int) + 1) + 1 = 2 * ((2 * q + 1 : Nat) : Int) + 1 by lia), ?_, ?_, by lia, ?_, by lia⟩
        · rw [List.length_set]; exact e7
        · intro v hv
          rcases List.mem_or_eq_of_mem_set hv with h | h
          · exact e8 v h
          · rw [h]; exact e8 _ (by rw [List.getD_eq_getElem?_getD, List.getElem?_eq_getElem (by lia)]; exact List.getElem_mem _)
        · rw [n1, n2] at hlt
          rw [n0, n1, ← e10]
          conv => rhs; rw [supW, if_pos (by lia), if_neg (by rw [hlt]; simp)]
      · have hlt : lt (vs'.getD (2 * (q : Int) + 1 + 1).toNat .none) (vs'.getD (2 * (q : Int) + 1).toNat .none) = false := by assumption
        refine ⟨_, _, _, _, vs.length - (2 * q + 2), rfl, by assumption, by assumption, by lia, 2 * q + 2, _, _, _, _, rfl, rfl, rfl, rfl, congrArg (fun z => some (Value.int z _)) (show (2 * (q : Int) + 1 + 1) = ((2 * q + 2 : Nat) : Int) by lia), rfl, rfl, congrArg (fun z => some (Value.int z _)) (show 2 * (2 * (q : Int) + 1 + 1) + 1 = 2 * ((2 * q + 2 : Nat) : Int) + 1 by lia), ?_, ?_, by lia, ?_, by lia⟩
        · rw [List.length_set]; exact e7
        · intro v hv
          rcases List.mem_or_eq_of_mem_set hv with h | h
          · exact e8 v h
          · rw [h]; exact e8 _ (by rw [List.getD_eq_getElem?_getD, List.getElem?_eq_getElem (by lia)]; exact List.getElem_mem _)
        · rw [n1, n2] at hlt
          rw [n0, n2, ← e10]
          conv => rhs; rw [supW, if_pos (by lia), if_pos ⟨by lia, hlt⟩]
    · refine ⟨_, _, _, _, vs.length - (2 * q + 1), rfl, by assumption, by assumption, by lia, 2 * q + 1, _, _, _, _, rfl, rfl, rfl, rfl, congrArg (fun z => some (Value.int z _)) (show (2 * (q : Int) + 1) = ((2 * q + 1 : Nat) : Int) by lia), rfl, rfl, congrArg (fun z => some (Value.int z _)) (show 2 * (2 * (q : Int) + 1) + 1 = 2 * ((2 * q + 1 : Nat) : Int) + 1 by lia), ?_, ?_, by lia, ?_, by lia⟩
      · rw [List.length_set]; exact e7
      · intro v hv
        rcases List.mem_or_eq_of_mem_set hv with h | h
        · exact e8 v h
        · rw [h]; exact e8 _ (by rw [List.getD_eq_getElem?_getD, List.getElem?_eq_getElem (by lia)]; exact List.getElem_mem _)
      · rw [n0, n1, ← e10]
        conv => rhs; rw [supW, if_pos (by lia), if_neg (by lia)]
    · refine ⟨?_⟩
      rename_i F3 N3
      refine siftdownM_ok hL (by assumption) F3 (by assumption) N3 hl (by assumption) rfl ?_ (show pos ≤ q from ?_) ?_ ?_ (by lia) (by dsimp only [ktrTop, Around.deeper]; lia) ?_
      · intro v hv
        rcases List.mem_or_eq_of_mem_set hv with h | h
        · exact e8 v h
        · rw [h]; exact hV _ (by rw [List.getD_eq_getElem?_getD, List.getElem?_eq_getElem h1]; exact List.getElem_mem _)
      · exact e11
      · rw [List.length_set]; lia
      · rw [List.length_set]; lia
      intro h' tk' F' N'
      k_steps
      refine hQ _ _ (by assumption) ?_
      have e : sdn (fun a b => lt b a) pos q (vs'.set (q : Int).toNat (vs.getD pos .none)) = sup (fun a b => lt b a) pos vs := by
        unfold sup
        rw [← e10, n0, supW, if_neg (by lia)]
      rw [← e]
      assumption
  · passes_own
end Mine
end
section -- Hfm
open PySem PySem.W PySem.W.X PyProof.Rows
namespace Mine
theorem setup_Hfm_1 : True := by
  w_top off
  k_with_none
  k_with "subscriptTail" => ((k_here; (with_reducible show wpAny _ _ (subscriptTail _ _ (Value.ref _) (Value.int _ _)) _ _ _); k_dflt (refine' item_at ?zzk1 ?zzk2 ?zzk3 ?zzk4 ?zzk5 ?_ ?zzk6; (case zzk1 => k_asm); (case zzk2 => k_mem); (case zzk3 => lia); (case zzk4 => lia); (case zzk5 => lia); (case zzk6 => with_unfolding_all rfl); k_whole)))
  k_with "exec While Compare cons nil" => ((refine Halt.out ?_))
  k_with "setItem ref int" => ((k_here; (with_reducible show wpAny _ _ (setItem (Value.ref _) (Value.int _ _) _) _ _ _); k_dflt (refine' set_at ?zzk1 ?zzk2 ?zzk3 ?zzk4 ?zzk5 ?zzk6 ?_; (case zzk1 => k_asm); (case zzk2 => k_asm); (case zzk3 => assumption); (case zzk4 => lia); (case zzk5 => lia); (case zzk6 => lia); k_whole); intro _ _ _; (try k_sweep)))
  k_with "binaryOp RShift int int" => ((k_here; k_dflt (refine' shr_one ?_)))
  k_with "call builtin:len" => ((k_here; (with_reducible show wpAny _ _ (call (Value.builtin "len") [Value.ref _]) _ _ _); k_dflt (refine' len_at ?zzk1 ?zzk2 ?zzk3 ?_; (case zzk1 => k_asm); (case zzk2 => k_mem); (case zzk3 => lia); k_whole)))
  k_with "call ref" => ((k_here; (with_reducible show wpAny _ _ (call (Value.ref 98) _) _ _ _); refine Halt.out ?_))
  exact True.intro
theorem heapifyM_ok {w : World} {p : Program} {loose : List Str} {mean : ExcName → Option Value} {mg mb : Str → Option Value} {news : List (Addr × Obj)} {V : Value → Prop} {lt : Value → Value → Bool} {d u : Nat}
  (hL : LtOk w news V lt d u)
  {dp un : Nat} {gd : Option (List Code)} {cn : Str} {cs : Scope} {a : Addr} {ccd : Value} {cl : List (Str × Addr)} {outer : List Env} {A₀ : Around} {base h₀ : Heap} {L : Addr} {m : Str → Option Value} {s : Shared} {l : Addr} {vs : List Value} {n : Nat} {Q E : Value → Shared → Prop} :
    Below A₀ base outer h₀ → Fr h₀ L s.heap m → (Mine.hd.heap_1 w.params).In h₀ → News h₀ L s.heap ((l, listOf vs.toArray n) :: news) → (∀ q ∈ news, q.1 ≠ l) → Top p loose mean mg mb h₀ → cs.kind = .function →
    (∀ v ∈ vs, V v) → vs.length < 1000 → dp + 3 + d < recursionLimit → un + 24 + u < cLine →
    (∀ h' tk', Fr h₀ L h' m → News h₀ L h' ((l, listOf (heapifyV (fun a b => lt b a) vs).toArray n) :: news) → Q .none { s with heap := h', toks := tk' }) →
    wpAny (model PR w) (ktrTop dp un gd cn cs L a ccd cl outer) (call (.ref 70) [.ref l]) Q E s := by
  have fill : Mine.hd.heap_1 = Mine.hd.heap_1 ∧ PySem.Challenge.rw_xh0039_01 = PySem.Challenge.rw_xh0039_01 := by (k_fill; exact ⟨rfl, rfl⟩)
  clear fill
  intro B F X N hl T hk hV h3 hd hu hQ
  have hd' : dp + 1 < recursionLimit := by lia
  refine wpAny_call ?_
  k_dflt ktr_enter
  have ed : (vs.length : Int).fdiv 2 = ((vs.length / 2 : Nat) : Int) := by
    rw [Int.fdiv_eq_ediv_of_nonneg _ (by decide)]; lia
  k_steps
  rename_i F0 N0 K1
  refine rev_range (k := (vs.length : Int).fdiv 2) (by assumption) (by lia) (by lia) ?_
  intro it h' tk' Dm
  have F1 := Fr.ext F0 Dm.keep
  have N1 := News.ext N0 Dm.keep
  have hi := Dm.get (.head _)
  have hi0 := (Dm.nw _ (.head _)).2
  have n1 : ∀ q ∈ (l, listOf vs.toArray n) :: news, q.1 ≠ it := fun q hq e => by
    have := (N0 q hq).1; rw [e, hi0] at this; cases this
  k_steps
  refine wpAny_pyIter_rangeiter hi ?_
  refine loop_invN (fun j m₁ nw => ∃ vs', nw = (l, listOf vs'.toArray n) :: news ∧ m₁ "x" = some (.ref l) ∧ vs'.length = vs.length ∧ (∀ v ∈ vs', V v) ∧ vs' = ((List.range (vs.length / 2)).reverse.take j).foldl (fun vs i => sup (fun a b => lt b a) i vs) vs)
    (Walks.range rfl it ((vs.length : Int).fdiv 2 - 1) (-1) (vs.length / 2)).bound ?_ ?_ ?_ ?_ ?_ F1 N1 ⟨vs, rfl, rfl, rfl, hV, rfl⟩ ?_ ?_
  · intro hm
    obtain ⟨o, _, _, e, _⟩ := F0.ns
    have z := (congrArg (Heap.get? _) (List.mem_singleton.mp hm)).trans hi0
    exact nomatch (e.symm.trans z)
  · intro b hb
    rw [List.mem_singleton.mp hb]
    cases q : Heap.get? _ it with
    | none => rfl
    | some o => have := F0.keep _ _ q; rw [hi0] at this; cases this
  · intro q hq hm; exact n1 q hq (List.mem_singleton.mp hm)
  · intro q hq hm; exact n1 q hq (List.mem_singleton.mp hm)
  · show IsRangeIter h' it _ _ _
    rw [show (vs.length : Int).fdiv 2 - 1 + ((0 : Nat) : Int) * -1 = (vs.length : Int).fdiv 2 - 1 by lia, show ((vs.length / 2 : Nat) : Int) - ((0 : Nat) : Int) = (vs.length : Int).fdiv 2 by lia]
    exact hi
  · rintro j v m₁ nw h₁ tk₁ own hj ⟨_, t, rfl⟩ hadr hoff ⟨vs', rfl, e1, e2, e3, e4⟩ F₂ N₂
    rw [show (vs.length : Int).fdiv 2 - 1 + (j : Int) * -1 = ((vs.length / 2 - 1 - j : Nat) : Int) by lia, ← pin (m := m₁) (ks := [("x", .ref l)]) (by
      intro q hq; simp only [List.mem_cons, List.not_mem_nil, or_false] at hq; rcases hq with rfl; assumption)] at F₂
    clear e1 F0 F1 N0 N1
    k_steps
    refine ⟨?_⟩
    refine siftupM_ok (hL.mono (news' := news ++ own) fun q hq => List.mem_append_left _ hq) (by assumption) (by assumption) (by assumption) (show News _ _ _ ((l, listOf vs'.toArray n) :: (news ++ own)) from N₂) ?_ (by assumption) rfl e3 (by lia) (by lia) (by lia) (by dsimp only [ktrTop, Around.deeper]; lia) ?_
    · intro q hq
      rcases List.mem_append.mp hq with hq | hq
      · exact hl q hq
      · exact hoff q hq l (.head _)
    intro h2 tk2 F4 N4
    k_steps
    refine ⟨_, _, _, _, (l, listOf (sup (fun a b => lt b a) (vs.length / 2 - 1 - j) vs').toArray n) :: news, rfl, by assumption, by assumption, ?_, ?_, rfl, _, rfl, rfl, ?_, ?_, ?_⟩
    · intro q hq
      rcases List.mem_cons.mp hq with rfl | hq
      · exact .head _
      · exact .tail _ (List.mem_append_left _ hq)
    · intro q hq; exact .tail _ (List.mem_append_right _ hq)
    · rw [sup_len (by lia)]; exact e2
    · intro v hv; exact e3 v ((sup_perm (by lia)).mem_iff.mp hv)
    · rw [e4, List.take_add_one, List.foldl_append]
      have ej : (List.range (vs.length / 2)).reverse[j]? = some (vs.length / 2 - 1 - j) := by
        rw [List.getElem?_reverse (by simpa using hj), List.length_range, List.getElem?_range (by lia)]
      rw [ej]; rfl
  · rintro m₁ nw h₁ tk₁ ⟨vs', rfl, e1, e2, e3, e4⟩ F₂ N₂
    k_steps
    refine hQ _ _ (by assumption) ?_
    have e : vs' = heapifyV (fun a b => lt b a) vs := by
      rw [e4, List.take_of_length_le (by simp)]; rfl
    rw [← e]
    assumption
end Mine
end
section -- Hrm
open PySem PySem.W PySem.W.X PyProof.Rows
namespace Mine
theorem setup_Hrm_1 : True := by
  w_top off
  k_with_none
  k_with "subscriptTail" => ((k_here; (with_reducible show wpAny _ _ (subscriptTail _ _ (Value.ref _) (Value.int _ _)) _ _ _); k_dflt (refine' item_at ?zzk1 ?zzk2 ?zzk3 ?zzk4 ?zzk5 ?_ ?zzk6; (case zzk1 => k_asm); (case zzk2 => k_mem); (case zzk3 => lia); (case zzk4 => lia); (case zzk5 => lia); (case zzk6 => with_unfolding_all rfl); k_whole)))
  k_with "exec While Compare cons nil" => ((refine Halt.out ?_))
  k_with "setItem ref int" => ((k_here; (with_reducible show wpAny _ _ (setItem (Value.ref _) (Value.int _ _) _) _ _ _); k_dflt (refine' set_at ?zzk1 ?zzk2 ?zzk3 ?zzk4 ?zzk5 ?zzk6 ?_; (case zzk1 => k_asm); (case zzk2 => k_asm); (case zzk3 => assumption); (case zzk4 => lia); (case zzk5 => lia); (case zzk6 => lia); k_whole); intro _ _ _; (try k_sweep)))
  k_with "binaryOp RShift int int" => ((k_here; k_dflt (refine' shr_one ?_)))
  k_with "call builtin:len" => ((k_here; (with_reducible show wpAny _ _ (call (Value.builtin "len") [Value.ref _]) _ _ _); k_dflt (refine' len_at ?zzk1 ?zzk2 ?zzk3 ?_; (case zzk1 => k_asm); (case zzk2 => k_mem); (case zzk3 => lia); k_whole)))
  k_with "call ref" => ((k_here; (with_reducible show wpAny _ _ (call (Value.ref 98) _) _ _ _); refine Halt.out ?_))
  exact True.intro
theorem heapreplaceM_ok {w : World} {p : Program} {loose : List Str} {mean : ExcName → Option Value} {mg mb : Str → Option Value} {news : List (Addr × Obj)} {V : Value → Prop} {lt : Value → Value → Bool} {d u : Nat}
  (hL : LtOk w news V lt d u)
  {dp un : Nat} {gd : Option (List Code)} {cn : Str} {cs : Scope} {a : Addr} {ccd : Value} {cl : List (Str × Addr)} {outer : List Env} {A₀ : Around} {base h₀ : Heap} {L : Addr} {m : Str → Option Value} {s : Shared} {l : Addr} {vs : List Value} {x : Value} {n : Nat} {Q E : Value → Shared → Prop} :
    Below A₀ base outer h₀ → Fr h₀ L s.heap m → (Mine.hd.heap_1 w.params).In h₀ → News h₀ L s.heap ((l, listOf vs.toArray n) :: news) → (∀ q ∈ news, q.1 ≠ l) → Top p loose mean mg mb h₀ → cs.kind = .function →
    (∀ v ∈ vs, V v) → V x → 0 < vs.length → vs.length < 1000 → dp + 3 + d < recursionLimit → un + 24 + u < cLine →
    (∀ h' tk', Fr h₀ L h' m → News h₀ L h' ((l, listOf (sup (fun a b => lt b a) 0 (vs.set 0 x)).toArray n) :: news) → Q (vs.getD 0 .none) { s with heap := h', toks := tk' }) →
    wpAny (model PR w) (ktrTop dp un gd cn cs L a ccd cl outer) (call (.ref 63) [.ref l, x]) Q E s := by
  have fill : Mine.hd.heap_1 = Mine.hd.heap_1 ∧ PySem.Challenge.rw_xh0039_01 = PySem.Challenge.rw_xh0039_01 := by (k_fill; exact ⟨rfl, rfl⟩)
  clear fill
  intro B F X N hl T hk hV hx h0 h3 hd hu hQ
  have hd' : dp + 1 < recursionLimit := by lia
  refine wpAny_call ?_
  k_dflt ktr_enter
  k_steps
  refine ⟨?_⟩
  refine siftupM_ok hL (by assumption) (by assumption) (by assumption) (by assumption) hl (by assumption) rfl ?_ (by rw [List.length_set]; lia) (by rw [List.length_set]; lia) (by lia) (by dsimp only [ktrTop, Around.deeper]; lia) ?_
  · intro v hv
    rcases List.mem_or_eq_of_mem_set hv with h | h
    · exact hV v h
    · rw [h]; exact hx
  intro h2 tk2 F2 N2
  k_steps
  exact hQ _ _ (by assumption) (by assumption)
end Mine
end
section -- Ns
open PySem PySem.W PySem.W.X PyProof.Rows PyProof.V PySem.Calls
namespace Mine
theorem setup_Ns_1 : True := by
  w_top off
  k_with_none
  k_with "call builtin:iter" => ((k_here; (with_reducible show wpAny _ _ (call (Value.builtin "iter") [Value.ref _]) _ _ _); k_dflt (refine' iter_at ?zzk1 ?zzk2 ?zzk3 ?_; (case zzk1 => k_asm); (case zzk2 => k_asm); (case zzk3 => k_mem); k_whole); intro _ _ _ _ l1; (try k_lt l1); revert l1; intro _))
  k_with "call type:zip" => ((k_here; (with_reducible show wpAny _ _ (call (Value.type "zip") [Value.ref _, Value.ref _]) _ _ _); refine Halt.out ?_))
  k_with "exec Assign cons ListComp" => ((k_here; lcp_look; refine Halt.out ?_))
  k_with "subscriptTail" => ((k_here; (with_reducible show wpAny _ _ (subscriptTail _ _ (Value.ref _) (Value.int _ _)) _ _ _); k_dflt (refine' item_at ?zzk1 ?zzk2 ?zzk3 ?zzk4 ?zzk5 ?_ ?zzk6; (case zzk1 => k_asm); (case zzk2 => k_mem); (case zzk3 => lia); (case zzk4 => lia); (case zzk5 => lia); (case zzk6 => with_unfolding_all rfl); k_whole)))
  k_with "exec While Compare cons nil" => ((refine Halt.out ?_))
  k_with "setItem ref int" => ((k_here; (with_reducible show wpAny _ _ (setItem (Value.ref _) (Value.int _ _) _) _ _ _); k_dflt (refine' set_at ?zzk1 ?zzk2 ?zzk3 ?zzk4 ?zzk5 ?zzk6 ?_; (case zzk1 => k_asm); (case zzk2 => k_asm); (case zzk3 => assumption); (case zzk4 => lia); (case zzk5 => lia); (case zzk6 => lia); k_whole); intro _ _ _; (try k_sweep)))
  k_with "binaryOp RShift int int" => ((k_here; k_dflt (refine' shr_one ?_)))
  k_with "call builtin:len" => ((k_here; (with_reducible show wpAny _ _ (call (Value.builtin "len") [Value.ref _]) _ _ _); k_dflt (refine' len_at ?zzk1 ?zzk2 ?zzk3 ?_; (case zzk1 => k_asm); (case zzk2 => k_mem); (case zzk3 => lia); k_whole)))
  k_with "call ref" => ((k_here; (first | (with_reducible show wpAny _ _ (call (Value.ref 70) _) _ _ _) | (with_reducible show wpAny _ _ (call (Value.ref 63) _) _ _ _)); refine Halt.out ?_))
  k_with "call builtin:min" => ((refine Halt.out ?_))
  k_with "call builtin:sorted" => ((refine Halt.out ?_))
  k_with "eval ListComp" => ((refine Halt.out ?_))
  k_with "exec Try" => ((refine wpAny_Try_except ?_))
  exact True.intro
theorem nsmallest_ok {w : World} {p : Program} {loose : List Str} {mean : ExcName → Option Value} {mg mb : Str → Option Value} {C : Addr} {l0 nw : List (Addr × Obj)}
  (hK : KNews w.params C l0) (hs : ∀ q ∈ l0, q ∈ nw)
  {dp un : Nat} {gd : Option (List Code)} {cn : Str} {cs : Scope} {a : Addr} {ccd : Value} {cl : List (Str × Addr)} {outer : List Env} {A₀ : Around} {base h₀ : Heap} {L : Addr} {m : Str → Option Value} {s : Shared} {l : Addr} {vs : List Value} {n k : Nat} {t1 : Tok} {row : List Str} {Q E : Value → Shared → Prop} :
    Below A₀ base outer h₀ → Fr h₀ L s.heap m → (Mine.hd.heap_1 w.params).In h₀ → News h₀ L s.heap ((l, W.listOf vs.toArray n) :: nw) → (∀ q ∈ nw, q.1 ≠ l) → Top p loose mean mg mb h₀ → cs.kind = .function →
    (k < vs.length ∨ (vs.length = 0 ∧ k = 0)) → vs.length < 64 → (∀ v ∈ vs, ∃ a t, v = .str a t) → row.Perm (vs.map strOf) → (row.Pairwise fun a b => strLt b a = false) → dp + 60 < recursionLimit → un + 300 < cLine →
    (∀ (D : Addr) (ys : List Value) c h' tk', Fr h₀ L h' m → News h₀ L h' ((D, W.listOf ys.toArray c) :: (l, W.listOf vs.toArray n) :: nw) → (∀ v ∈ ys, ∃ a t, v = .str a t) → ys.map strOf = row.take k → Q (.ref D) { s with heap := h', toks := tk' }) →
    wpAny (model PR w) (ktrTop dp un gd cn cs L a ccd cl outer) (call (.ref 104) [.int (k : Int) t1, .ref l] [(Str.ofString "key", .ref C)]) Q E s := by
  have fill : Mine.hd.heap_1 = Mine.hd.heap_1 ∧ PySem.Challenge.rw_xh0039_01 = PySem.Challenge.rw_xh0039_01 := by (k_fill; exact ⟨rfl, rfl⟩)
  clear fill
  intro B F X N hl T hk h3 h4 hstr hrow hrs hd hu hQ
  have hd' : dp + 1 < recursionLimit := by lia
  refine wpAny_call ?_
  k_dflt (refine' code_defC ?k1 ?k2 ?k3 ?k4 ?k5 ?kA ?kF ?kK ?k6 ?k7 ?k8 ?k9 ?kB ?kD ?_ ?c2 ?c3 ?c4; (case kA => exact rfl); (case kF => exact rfl); (case kK => exact hk); (case k1 => k_asm); (case k2 => k_asm); (case k3 => k_asm); (case k4 => k_asm); (case k5 => k_asm); (case k6 => k_is); (case k7 => k_is); (case k8 => ktr_room); (case k9 => first | exact BindsTo.of_eq rfl | exact binds_K (by k_in) rfl (by k_is) rfl rfl rfl); (case kB => exact rfl); (case kD => decide +kernel); (case c2 => exact rfl); (case c3 => exact rfl); (case c4 => exact rfl); k_whole; intro g' L' h' tk' cells' FG' F' N' Y' B' X' T' l1; (try k_lt l1); k_cells Y'; (try simp only [List.cons_append, List.nil_append] at N'); (try dsimp only); (try k_fold))
  k_steps
  all_goals (try refine ⟨?_⟩)
  · rename_i it1 lt1 _ F1 N1
    have hk1 : k = 1 := by
      have : (k : Int) = 1 := by assumption
      lia
    refine obj_new (Me.start _) ?_
    intro x1 o1 h1 tk1 Dm
    have F2 := Fr.ext F1 Dm.keep
    have N2 := News.ext N1 Dm.keep
    clear F1 N1
    k_steps
    refine ⟨?_⟩
    rename_i F3 N3
    refine min_call (h₀ := g') (L := L') rfl hK X' (by dsimp only [ktrTop, Around.deeper, Around.in1]; lia) (by dsimp only [ktrTop, Around.deeper, Around.in1]; lia) hstr (fun q hq => .tail _ (.tail _ (hs q hq))) (.tail _ (.head _)) (by lia) F3 N3 (fun q hq => Nat.ne_of_lt (kst_ltOf (l := (L' + 1, _) :: (l, W.listOf vs.toArray n) :: nw) lt1 q hq)) ?_
    intro v h4 tk4 hv hmin F4 N4
    clear F3 N3
    obtain ⟨av, tv, rfl⟩ := hstr v hv
    k_steps
    refine wpAny_is_other (by rfl) (by intro x; cases x) ?_
    k_steps
    rename_i kF kN _ _
    refine hQ _ [.str av tv] 0 _ _ kF (fun q hq => kN q (by
      rcases List.mem_cons.mp hq with rfl | hq
      · exact .head _
      · exact .tail _ (.tail _ hq))) (fun u hu => ⟨av, tv, List.mem_singleton.mp hu⟩) ?_
    rw [hk1]
    exact first_take strLt_tot hrow hrs (List.mem_map.mpr ⟨_, hv, rfl⟩) fun u hu => by
      obtain ⟨u', h1, rfl⟩ := List.mem_map.mp hu
      exact hmin u' h1
  · rename_i F1 N1 hle
    obtain ⟨hv0, rfl⟩ : vs.length = 0 ∧ k = 0 := by lia
    obtain rfl : vs = [] := List.length_eq_zero_iff.mp hv0
    refine sorted_few (vs := []) (b := false) (f := .ref C) F1 N1 ⟨_, (N1 _ (.tail _ (.head _))).1, rfl, _, rfl⟩ (by decide) (ksk_s1 _ _) (fun x => ksk_l1 _ _) (fun x => ksk_t1 _ _) fun D kS e1 h2 F2 N2 hlt off => ?_
    refine KatKeys.nil (KatFin.intro F2 N2 (.head fun q hq => ?_) fun h3 c3 F3 N3 => KasFin.intro (news := (D, seqObj "list" #[] e1) :: (L' + 1, _) :: (l, W.listOf _ n) :: nw) F3 (fun q hq => N3 q (.tail _ hq)) (.head fun q hq => Nat.ne_of_lt (off q hq)) fun h4 c4 F4 N4 => ?_)
    · rcases List.mem_cons.mp hq with rfl | hq
      · exact Nat.ne_of_lt hlt
      · exact Nat.ne_of_lt (Nat.lt_trans (off q hq) hlt)
    clear F1 N1 F2 N2 F3 N3
    k_steps
    rename_i kF kN _ _
    exact hQ _ [] _ _ _ kF (fun q hq => kN q (by
      rcases List.mem_cons.mp hq with rfl | hq
      · exact .head _
      · exact List.mem_of_mem_drop (i := 3) (by exact hq))) (fun _ hv => nomatch hv) rfl
  · rename_i o1 d1 _ _ _ _ _ it1 _ lt1 h1 F1 N1
    have h2 : k ≠ 1 := by lia
    replace h3 : k < vs.length := by lia
    refine Assign_T (cl := [(Str.ofString "key", L' + 1)]) (h₀ := g') (L := L') F1 ?a1 ?a2 ?a3 ?a4 ?a5 ?a6 ?a7 ?a8 ?_ ?a9
    case a1 => exact rfl
    case a4 => decide
    case a5 => exact rfl
    case a6 => decide
    case a7 => exact rfl
    case a8 => exact rfl
    case a9 => intro _; rfl
    case a2 => with_unfolding_all rfl
    case a3 => with_unfolding_all rfl
    k_steps
    rename_i F2 N2 K2
    refine ⟨?_⟩
    refine zr_src (l := l) (cc := L' + 1) (nn := n) (n := k) (xs := vs.toArray) (y := Str.ofString "result") hK ?b1 rfl rfl rfl rfl X' F2 N2 ?b2 (by assumption) ?b3 ?b4 (.tail _ (.head _)) ?b5 ?b6 ?b7 _ (.head _) ?b8 ?b9 ?b10 ?b11 ?b12 ?b13 ?b14 ?b15 ?_
    case b1 => intro q hq; exact .tail _ (.tail _ (hs q hq))
    case b3 => exact small_one (by decide) (by decide) (by lia) (by lia)
    case b4 => (rw [rangeSize_one]; split <;> lia)
    case b5 => show _ ≤ vs.toArray.size; rw [List.size_toArray]; lia
    case b6 => (rw [sizeLine_eq]; lia)
    case b7 => intro v hv; exact hstr v (by simpa using hv)
    case b8 => assumption
    case b9 => exact rfl
    case b10 => intro Cc; exact rfl
    case b11 => intro Cc; exact rfl
    case b12 => intro Cc; exact rfl
    case b13 => intro Cc; exact rfl
    case b14 => dsimp only [ktrTop, Around.deeper]; lia
    case b15 => dsimp only [ktrTop, Around.deeper]; lia
    case b2 => exact fun q hq => Nat.ne_of_lt (kst_ltOf (l := (L' + 1, o1) :: (l, W.listOf vs.toArray n) :: nw) lt1 q hq)
    intro D h tk ys nwl oi oi1 oi2 F3 N3 offs hDi hlen hT
    by_cases hk0 : k = 0
    · have hys : ys = [] := List.length_eq_zero_iff.mp (hlen.trans hk0)
      subst hys
      k_steps
      rename_i kF kN _ _
      exact hQ D [] 0 _ _ kF (fun q hq => kN q (by
        rcases List.mem_cons.mp hq with rfl | hq
        · exact .head _
        · exact .tail _ (.tail _ (List.mem_append_right _ (.tail _ hq))))) (fun _ hv => nomatch hv) (by rw [hk0]; rfl)
    have hne : ys.isEmpty = false := by cases ys with | nil => simp at hlen; lia | cons => rfl
    k_steps
    refine ⟨?_⟩
    have offD : ∀ q ∈ (it1, oi) :: (nwl ++ (L' + 1, o1) :: (l, W.listOf vs.toArray n) :: nw), q.1 ≠ D := offc (Ne.symm hDi) fun q hq => (offs q hq).1
    have subs : ∀ q ∈ l0, q ∈ (it1, oi) :: (nwl ++ (L' + 1, o1) :: (l, W.listOf vs.toArray n) :: nw) := fun q hq => .tail _ (List.mem_append_right _ (.tail _ (.tail _ (hs q hq))))
    have VT0 : ∀ j v, ys[j]? = some v → VT C (denL h) ((it1, oi) :: (nwl ++ (L' + 1, o1) :: (l, W.listOf vs.toArray n) :: nw)) v ∧ ∃ a t, vs[j]? = some (Value.str a t) ∧ (denL h v).1 = a := fun j v e => by
      obtain ⟨p, x, dx, ti, a', ta, rfl, e2, m1, m2⟩ := hT j v e
      obtain ⟨z1, z2⟩ := vt_mk (C := C) (h := h) (nw := (it1, oi) :: (nwl ++ (L' + 1, o1) :: (l, W.listOf vs.toArray n) :: nw)) (fun q hq => (N3 q (.tail _ hq)).1) (.tail _ (List.mem_append_left _ m1)) (.tail _ (List.mem_append_left _ m2))
      exact ⟨z1, a', ta, by simpa using e2, by rw [z2]⟩
    have VT1 : ∀ v ∈ ys, VT C (denL h) ((it1, oi) :: (nwl ++ (L' + 1, o1) :: (l, W.listOf vs.toArray n) :: nw)) v := fun v hv => by
      obtain ⟨j, hj, rfl⟩ := List.getElem_of_mem hv
      exact (VT0 j _ (List.getElem?_eq_getElem hj)).1
    refine heapifyM_ok (ltOk_tup (den := denL h) hK subs) (by assumption) (by assumption) (by assumption) (show News _ _ _ ((D, W.listOf ys.toArray ys.length) :: (it1, oi) :: (nwl ++ (L' + 1, o1) :: (l, W.listOf vs.toArray n) :: nw)) from N3) offD (by assumption) rfl VT1 (by lia) (by dsimp only [ktrTop, Around.deeper]; lia) (by dsimp only [ktrTop, Around.deeper]; lia) ?_
    intro h4 tk4 F4 N4
    have I0 : NInv strLt tl C (denL h) ((it1, oi) :: (nwl ++ (L' + 1, o1) :: (l, W.listOf vs.toArray n) :: nw)) ((vs.map strOf).take k) k (heapifyV (fun a b => tl (denL h b) (denL h a)) ys) := by
      refine NInv.first nord_min hlen VT1 ?_
      refine List.ext_getElem (by simp [hlen]; lia) fun j j1 j2 => ?_
      have hj : j < ys.length := by simpa using j1
      obtain ⟨_, a, t, e1, e2⟩ := VT0 j _ (List.getElem?_eq_getElem hj)
      have hjv : j < vs.length := by lia
      rw [List.getElem?_eq_getElem hjv] at e1
      have e3 : vs[j] = Value.str a t := Option.some.inj e1
      simp only [List.getElem_map, List.getElem_take, e2, e3]
      rfl
    replace I0 := (I0.up (h' := h4) (nw' := (it1, oi) :: (nwl ++ (L' + 1, o1) :: (l, W.listOf vs.toArray n) :: nw)) (fun q hq => (N4 q (.tail _ hq)).1) fun _ hq => hq).filt (nw' := nwl ++ (L' + 1, o1) :: (l, W.listOf vs.toArray n) :: nw) fun q hq => by
      rcases List.mem_cons.mp hq with rfl | hq
      · exact .inl oi1
      · exact .inr hq
    generalize heapifyV (fun a b => tl (denL h b) (denL h a)) ys = hp at I0 N4
    have hpl := I0.len
    refine ex9 (fun p0 x0 dx0 i0 ti0 a0 ta0 tb0 n0 => and4 fun e0 m1 m2 d0 => ?_) (I0.V _ (g_mem (i := 0) (by lia)))
    rw [hlen] at N4
    k_steps
    rw [show hp.getD (Int.toNat 0) .none = .ref p0 from e0]
    have N5 : News g' L' h4 ((p0, tup3 x0 i0 ti0 a0 ta0 n0) :: (x0, instK C dx0 a0 tb0) :: (D, W.listOf hp.toArray k) :: (it1, oi) :: (nwl ++ (L' + 1, o1) :: (l, W.listOf vs.toArray n) :: nw)) :=
      nwc (N4 _ (.tail _ (.tail _ m1))) (nwc (N4 _ (.tail _ (.tail _ m2))) N4)
    clear N4
    k_steps
    rename_i F6 N6
    refine For_invV g' rfl rfl ?_ (by intro _; rfl)
    k_steps
    refine wpAny_pyIter_listiter (l := l) (i := k) ⟨oi, (N6 _ (.tail _ (.tail _ (.tail _ (.head _))))).1, oi1, oi2⟩ ?_
    refine loop_invG (ax := l) (items := vs.toArray) (k := k) (n := vs.length - k) (nn := n) (oi := oi) (news := (D, W.listOf hp.toArray k) :: ((p0, tup3 x0 i0 ti0 a0 ta0 n0) :: (x0, instK C dx0 a0 tb0) :: (nwl ++ (L' + 1, o1) :: (l, W.listOf vs.toArray n) :: nw)))
      (fun j m₁ nx => ∃ (hp : List Value) (rest : List (Addr × Obj)) (den : Value → Str × Int) (x0 dx0 : Addr) (a0 : Str) (tb0 : Tok) (ord : Int) (t : Tok), nx = (D, W.listOf hp.toArray k) :: rest ∧ (∀ q ∈ rest, q.1 ≠ D) ∧ (∀ q ∈ (L' + 1, o1) :: (l, W.listOf vs.toArray n) :: nw, q ∈ rest) ∧
        NInv strLt tl C den rest ((vs.map strOf).take (k + j)) k hp ∧ (x0, instK C dx0 a0 tb0) ∈ rest ∧ (den (g hp 0)).1 = a0 ∧ m₁ (Str.ofString "result") = some (.ref D) ∧ m₁ (Str.ofString "top") = some (.ref x0) ∧ m₁ (Str.ofString "order") = some (.int ord t) ∧ m₁ (Str.ofString "_heapreplace") = some (.ref 63))
      rfl (by rw [List.size_toArray]; lia) ⟨oi1, oi2⟩ F6 ?_ ?_ ?_ ?_ ?_ ?_
    · exact nwc (N6 _ (.tail _ (.tail _ (.tail _ (.head _))))) (nwc (N6 _ (.tail _ (.tail _ (.head _)))) (nwc (N6 _ (.head _)) (nwc (N6 _ (.tail _ (.head _))) fun q hq => N6 _ (.tail _ (.tail _ (.tail _ (.tail _ hq)))))))
    · exact offc hDi (offc (offs _ m1).2 (offc (offs _ m2).2 fun q hq => (offs _ hq).2))
    · refine ⟨hp, _, denL h4, x0, dx0, a0, tb0, _, _, rfl, ?_, fun q hq => .tail _ (.tail _ (List.mem_append_right _ hq)), I0.mono fun q hq => .tail _ (.tail _ hq), .tail _ (.head _), congrArg Prod.fst d0, rfl, rfl, rfl, rfl⟩
      exact offc (offs _ m1).1 (offc (offs _ m2).1 fun q hq => (offs _ hq).1)
    · rintro i m nw' ⟨hp, rest, den, x0, dx0, a0, tb0, ord, t, rfl, h1, h2, _⟩
      exact .tail _ (h2 _ (.tail _ (.head _)))
    · obtain ⟨nd0, bt0, t0, u0, hCn⟩ := knews_cls hK
      intro i v m₂ nx h6 tk6 oj hi hv hoj
      refine ex9 fun hp rest den x0 dx0 a0 tb0 ord t => and10 fun enx r1 r2 I r3 r4 b1 b2 b3 b4 => ?_
      subst enx
      intro F7 N7 off7
      obtain ⟨av, tv, rfl⟩ : ∃ a t, v = Value.str a t := hstr v (by simpa using Array.mem_of_getElem? hv)
      rw [← pin (m := m₂) (ks := [(Str.ofString "result", .ref D), (Str.ofString "top", .ref x0), (Str.ofString "order", .int ord t), (Str.ofString "_heapreplace", .ref 63)]) (by
        intro q hq; simp only [List.mem_cons, List.not_mem_nil, or_false] at hq; rcases hq with rfl | rfl | rfl | rfl <;> assumption)] at F7
      have N8 : News g' L' h6 ((D, W.listOf hp.toArray k) :: (L' + 1, o1) :: (x0, instK C dx0 a0 tb0) :: (it1, oj) :: rest) :=
        nwc (N7 _ (.tail _ (.head _))) (nwc (N7 _ (.tail _ (.tail _ (r2 _ (.head _))))) (nwc (N7 _ (.tail _ (.tail _ r3))) (nwc (N7 _ (.head _)) fun q hq => N7 _ (.tail _ (.tail _ hq)))))
      clear b1 b2 b3 b4 N7 F6 N6
      have H6 : Has w nw h6 := .of F7 X' N8 fun q hq => .tail _ (.tail _ (.tail _ (.tail _ (r2 _ (.tail _ (.tail _ hq))))))
      k_steps
      refine callWith_K (nd := nd0) (bt := bt0) (t := t0) (u2 := u0) ?_
      k_steps
      · exact H6.2 _ (hs _ hCn)
      refine k_new (KAt.of hK hs H6) (Me.start _) (by dsimp only [ktrTop, Around.deeper]; lia) (by dsimp only [ktrTop, Around.deeper]; lia) ?_
      intro x1 dx1 f1 of1 h7 tk7 Dm
      have N9 := news_me F7 N8 Dm
      have F9 := Fr.ext F7 Dm.keep
      have x1D : x1 ≠ D := fun e => by
        have z := (Dm.nw _ (.tail _ (.head _))).2
        rw [e, (N8 _ (.head _)).1] at z; cases z
      have x1I : x1 ≠ it1 := fun e => by
        have z := (Dm.nw _ (.tail _ (.head _))).2
        rw [e, (N8 _ (.tail _ (.tail _ (.tail _ (.head _))))).1] at z; cases z
      simp only [List.cons_append, List.nil_append] at N9
      clear F7 N8
      k_steps
      rename_i F10 N10
      have H10 : Has w nw _ := .of F10 X' N10 fun q hq => .tail _ (.tail _ (.tail _ (.tail _ (.tail _ (.tail _ (.tail _ (r2 _ (.tail _ (.tail _ hq)))))))))
      refine kcmp_lt (KAt.of hK hs H10) (N10 _ (.tail _ (.head _))).1 (N10 _ (.tail _ (.tail _ (.tail _ (.tail _ (.tail _ (.head _))))))).1 (by dsimp only [ktrTop, Around.deeper]; lia) (by dsimp only [ktrTop, Around.deeper]; lia) ?_
      intro h11 tk11 e11
      have F11 := Fr.ext F10 e11
      have N11 := News.ext N10 e11
      clear F10 N10 H10
      rw [collI_lt]
      k_steps
      · rename_i hb T1 h12 F12 N12 lt12
        refine ⟨?_⟩
        have N13 : News g' L' h12 ((D, W.listOf hp.toArray k) :: (T1, tup3 x1 ord t av tv 0) :: (x1, instK C dx1 av tv) :: (it1, oj) :: rest) :=
          nwc (N12 _ (.tail _ (.tail _ (.tail _ (.tail _ (.head _)))))) (nwc (N12 _ (.head _)) (nwc (N12 _ (.tail _ (.tail _ (.head _)))) fun q hq => N12 _ (.tail _ (.tail _ (.tail _ (.tail _ (.tail _ (.tail _ (.tail _ hq)))))))))
        have offX : ∀ q ∈ (T1, tup3 x1 ord t av tv 0) :: (x1, instK C dx1 av tv) :: (it1, oj) :: rest, q.1 ≠ D :=
          offc (Ne.symm (Nat.ne_of_lt lt12.2.2.2.1)) (offc x1D (offc (Ne.symm (off7 _ (.head _))) r1))
        have subX : ∀ q ∈ rest, q ∈ (T1, tup3 x1 ord t av tv 0) :: (x1, instK C dx1 av tv) :: (it1, oj) :: rest := fun q hq => .tail _ (.tail _ (.tail _ hq))
        have hIn : In' h12 ((T1, tup3 x1 ord t av tv 0) :: (x1, instK C dx1 av tv) :: (it1, oj) :: rest) := fun q hq => (N13 q (.tail _ hq)).1
        have I13 := I.up hIn subX
        have hpl1 := I.len
        have ha0 : (denL h12 (g hp 0)).1 = a0 := by rw [(vt_up (I.V _ (g_mem (by lia))) hIn subX).2]; exact r4
        obtain ⟨vt1, de1⟩ := vt_mk (C := C) hIn (.head _) (.tail _ (.head _))
        refine heapreplaceM_ok (ltOk_tup (den := denL h12) hK fun q hq => subX _ (r2 _ (.tail _ (.tail _ (hs q hq))))) (by assumption) F12 X' N13 offX T' rfl I13.V vt1 (by lia) (by lia) (by dsimp only [ktrTop, Around.deeper]; lia) (by dsimp only [ktrTop, Around.deeper]; lia) ?_
        intro h14 tk14 F14 N14
        have I14 := (I13.swap nord_min (by lia) vt1 (by rw [de1]) (by rw [ha0]; exact hb)).up (h' := h14) (nw' := (T1, tup3 x1 ord t av tv 0) :: (x1, instK C dx1 av tv) :: (it1, oj) :: rest) (fun q hq => (N14 q (.tail _ hq)).1) fun _ hq => hq
        generalize sup (fun a b => tl (denL h12 b) (denL h12 a)) 0 (hp.set 0 (.ref T1)) = hp2 at I14 N14
        have hpl2 := I14.len
        refine ex9 (fun p2 x2 dx2 i2 ti2 a2 ta2 tb2 n2 => and4 fun e2 m1' m2' d2 => ?_) (I14.V _ (g_mem (i := 0) (by lia)))
        clear F12 N12 N13
        have N15 : News g' L' h14 ((p2, tup3 x2 i2 ti2 a2 ta2 n2) :: (D, W.listOf hp2.toArray k) :: (T1, tup3 x1 ord t av tv 0) :: (x1, instK C dx1 av tv) :: (it1, oj) :: rest) :=
          nwc (N14 _ (.tail _ m1')) N14
        clear N14
        k_steps
        rw [show hp2.getD (Int.toNat 0) .none = .ref p2 from e2]
        k_steps
        rename_i h16 F16 N16
        refine ⟨rfl, h16, _, _, (D, W.listOf hp2.toArray k) :: (T1, tup3 x1 ord t av tv 0) :: (x1, instK C dx1 av tv) :: rest, rfl, F16, ?_, ?_, hp2, _, denL h14, x2, dx2, a2, tb2, _, _, rfl, ?_, fun q hq => .tail _ (.tail _ (r2 q hq)), ?_, ?_, congrArg Prod.fst d2, rfl, rfl, rfl, rfl⟩
        · exact nwc (N16 _ (.tail _ (.tail _ (.tail _ (.tail _ (.head _)))))) (nwc (N16 _ (.tail _ (.head _))) (nwc (N16 _ (.tail _ (.tail _ (.head _)))) (nwc (N16 _ (.tail _ (.tail _ (.tail _ (.head _))))) fun q hq => N16 _ (.tail _ (.tail _ (.tail _ (.tail _ (.tail _ hq))))))))
        · exact offc (off7 (D, W.listOf hp.toArray k) (.head _)) (offc (Ne.symm (Nat.ne_of_lt lt12.2.2.2.2.2.2.1)) (offc x1I fun q hq => off7 _ (.tail _ hq)))
        · exact offc (offX _ (.head _)) (offc (offX _ (.tail _ (.head _))) fun q hq => offX _ (subX _ hq))
        · rw [show List.take (k + (i + 1)) (vs.map strOf) = _ from take_more hv]
          refine I14.filt fun q hq => ?_
          rcases List.mem_cons.mp hq with rfl | hq
          · exact .inr (.head _)
          rcases List.mem_cons.mp hq with rfl | hq
          · exact .inr (.tail _ (.head _))
          rcases List.mem_cons.mp hq with rfl | hq
          · exact .inl hoj
          exact .inr (.tail _ (.tail _ hq))
        · rcases List.mem_cons.mp m2' with e | hq
          · cases e
          rcases List.mem_cons.mp hq with e | hq
          · cases e; exact .tail _ (.head _)
          rcases List.mem_cons.mp hq with e | hq
          · exact absurd (congrArg (fun p : Addr × Obj => p.2.cls) e) (by rw [show oj.cls = _ from hoj]; exact fun z => nomatch z)
          exact .tail _ (.tail _ hq)
      · rename_i hb
        refine ⟨rfl, _, _, _, (D, W.listOf hp.toArray k) :: rest, rfl, F11, ?_, ?_, hp, _, den, x0, dx0, a0, tb0, ord, t, rfl, r1, r2, ?_, r3, r4, rfl, rfl, rfl, rfl⟩
        · exact nwc (N11 _ (.tail _ (.tail _ (.tail _ (.tail _ (.tail _ (.tail _ (.head _)))))))) (nwc (N11 _ (.tail _ (.tail _ (.tail _ (.head _))))) fun q hq => N11 _ (.tail _ (.tail _ (.tail _ (.tail _ (.tail _ (.tail _ (.tail _ hq))))))))
        · exact offc (off7 _ (.head _)) fun q hq => off7 _ (.tail _ hq)
        · rw [show List.take (k + (i + 1)) (vs.map strOf) = _ from take_more hv]
          exact I.skip nord_min (by rw [r4]; exact hb)
    · intro m₂ nx h6 tk6
      refine ex9 fun hp rest den x0 dx0 a0 tb0 ord t => and10 fun enx r1 r2 I r3 r4 b1 b2 b3 b4 => ?_
      subst enx
      intro F7 N7 off7
      rw [← pin (m := m₂) (ks := [(Str.ofString "result", .ref D)]) (by
        intro q hq; simp only [List.mem_cons, List.not_mem_nil, or_false] at hq; rcases hq with rfl; assumption)] at F7
      clear b1 b2 b3 b4 F6 N6 r3 r4
      have hpl1 := I.len
      k_steps
      refine tsort_ok hK (fun q hq => r2 q (.tail _ (.tail _ (hs q hq)))) F7 X' N7 r1 I.V (by lia) (by lia) (by dsimp only [ktrTop, Around.deeper]; lia) (by dsimp only [ktrTop, Around.deeper]; lia) ?_
      intro out c8 h8 tk8 op os F8 N8
      clear F7 N7
      k_steps
      refine ⟨?_⟩
      refine Eval_T (h₀ := g') (L := L') (cl := []) (m := pinned [(Str.ofString "result", .ref D)] m₂) (news := rest) (ar := 3) (Bd := fun m vals => ∀ a b c, vals = [a, b, c] → m (Str.ofString "elem") = some c)
        (R := fun i y _ => ∃ a t v, y = Value.str a t ∧ out[i]? = some v ∧ (den v).1 = a) ?c1 ?c2 ?c3 ?c4 ?cM ?c5
      case c5 => intro _; rfl
      case c1 => with_unfolding_all rfl
      case c2 => decide
      case c3 => exact rfl
      case c4 => decide
      case cM =>
        refine wpAny_Name (wpAny_loadName_local rfl rfl F8.ns rfl ?_)
        have hout : ∀ v ∈ out, VT C den rest v := fun v hv => I.V v (op.mem_iff.mp hv)
        have hol : out.length = k := op.length_eq.trans hpl1
        refine ⟨D, out.toArray, c8, rfl, rfl, asg3 rfl rfl rfl rfl rfl, F8, N8, by rw [List.size_toArray, sizeLine_eq]; lia, ?_, ?_, ?_, ?_⟩
        · intro i hi
          obtain ⟨p, x, dx, i1, ti, a, ta, tb, n1, e, m1, _⟩ := hout _ (List.getElem_mem (by simpa using hi))
          exact ⟨p, _, _, _, by rw [List.getElem?_toArray, List.getElem?_eq_getElem (by simpa using hi), e], m1, rfl, rfl⟩
        · intro i vals T o n1 e1 hm ed
          obtain ⟨p, x, dx, i1, ti, a, ta, tb, n2, e, m1, _⟩ := hout (.ref T) (by have := Array.mem_of_getElem? e1; simpa using this)
          cases e
          have z := (N8 _ (.tail _ hm)).1.symm.trans (N8 _ (.tail _ m1)).1
          cases z
          injection ed with ed1
          have := congrArg Array.toList ed1
          simp at this
          rw [← this]; rfl
        · intro i vals T o n1 Cc h9 tk9 m9 E9 e1 hm ed hns hB
          obtain ⟨p, x, dx, i1, ti, a, ta, tb, n2, e, m1, _, d1⟩ := hout (.ref T) (by have := Array.mem_of_getElem? e1; simpa using this)
          cases e
          have z := (N8 _ (.tail _ hm)).1.symm.trans (N8 _ (.tail _ m1)).1
          cases z
          injection ed with ed1
          have ev := congrArg Array.toList ed1
          simp only [List.toList_toArray] at ev
          have b3 := hB _ _ _ ev.symm
          refine wpAny_Name (wpAny_loadName_local rfl rfl hns b3 ?_)
          exact ⟨h9, _, [], rfl, fun _ _ e => e, fun _ hq => (nomatch hq), a, ta, _, rfl, by simpa using e1, congrArg Prod.fst d1⟩
        · intro D9 h9 tk9 ys9 F9 N9 off9 len9 hR9
          clear F8 N8
          k_steps
          rename_i kF kN _ _
          have hj : ∀ j (h1 : j < ys9.length) (h2 : j < out.length), ∃ a t, ys9[j] = Value.str a t ∧ (den out[j]).1 = a := fun j h1 h2 => by
            obtain ⟨_, a, t, v, e1, e2, e3⟩ := hR9 j _ (List.getElem?_eq_getElem h1)
            rw [List.getElem?_eq_getElem h2] at e2
            cases e2
            exact ⟨a, t, e1, e3⟩
          have hl9 : ys9.length = out.length := by rw [len9, List.size_toArray]
          refine hQ D9 ys9 ys9.length _ _ kF (fun q hq => kN q ?_) (fun v hv => ?_) ?_
          · rcases List.mem_cons.mp hq with rfl | hq
            · exact .head _
            · exact .tail _ (.tail _ (r2 _ (.tail _ hq)))
          · obtain ⟨j, j1, rfl⟩ := List.getElem_of_mem hv
            obtain ⟨a, t, e, _⟩ := hj j j1 (by lia)
            exact ⟨a, t, e⟩
          · rw [← I.fin nord_min op os (row := row) (by rw [List.take_of_length_le (by simp; lia)]; exact hrow) hrs]
            refine List.ext_getElem (by simp [hl9]) fun j j1 j2 => ?_
            obtain ⟨a, t, e, e'⟩ := hj j (by simpa using j1) (by simpa using j2)
            simp only [List.getElem_map, e, e']
            rfl
end Mine
end
section -- Lt
open PySem PySem.W PySem.W.X PyProof.Rows PyProof.V PySem.Calls
open PyProof.Rows.LCg (CompRest FinE block_U)
namespace Mine
section
variable {prog : Program} {w : World} {A : Around} {E : Value → Shared → Prop} {s : Shared} {h₀ : Heap} {L : Addr} {m : Str → Option Value} {env : Env}
theorem str_st {I : Addr} {T : String} {y : Str} {t : Tok} : ∀ i (h h' : Heap) (o : Obj) (nw : List (Addr × Obj)), h.IsStrIter I T y t i → h.get? I = some o → h'.get? I = some o → (∀ b o, h₀.get? b = some o → h'.get? b = some o) → News h₀ L h' nw → True → h'.IsStrIter I T y t i :=
  fun i h h' o nw st e e' _ _ _ => by
    obtain ⟨o', q, r⟩ := st
    rw [e] at q; cases q
    exact ⟨o, e', r⟩
theorem ListComp_text {elt iter : Expr} {x : Str} {px : Pos} {scope : Scope} {cl : List (Str × Addr)} {pos : Pos} {Q : Value → Shared → Prop} (_F₀ : Fr h₀ L s.heap m)
    (hclos : closureFor scope env = pure cl) (hcell : ∀ y ∈ scope.names, y.2 ≠ .cell) (hkind : scope.kind = .function)
    (hnames : ∀ y ∈ scope.names, y.2 = .local → scope.names.lookup y.1 = some .local) (hx : scope.names.lookup x = some .local)
    (h : wpAny (model prog w) A (eval iter env) (fun xv s₁ => ∃ y t news, xv = .str y t ∧ A.handled = none ∧ y.cps.size ≤ sizeLine ∧ Fr h₀ L s₁.heap m ∧ News h₀ L s₁.heap news ∧
      ∀ g, CompRest prog w A h₀ L m env elt x scope cl { s₁ with heap := g } (fun _ => True) (SignAt y) (FinE h₀ L m { s₁ with heap := g } Q) y.cps.size 0 [] news) E s)
    (hs : ∀ x, foldedSetIterable iter env x = pure x := by intro _; rfl) :
    wpAny (model prog w) A (eval (.ListComp elt [⟨.Name x px, iter, [], 0⟩] scope pos) env) Q E s := by
  rw [eval_ListComp]
  refine wpAny_comprehension_free (use := none) rfl hs hclos hkind hnames (wpAny_mono h (fun xv s₁ h₁ => ?_) fun _ _ e => e)
  obtain ⟨y, t, news, rfl, hh, hsz, F, N, R⟩ := h₁
  refine wpAny_pyIter_strU ?_
  have up : ∀ (O : Obj) b o, s₁.heap.get? b = some o → (s₁.heap.push O).get? b = some o := fun O b o e => Heap.get?_push_of_some _ e
  obtain ⟨T, hT, W⟩ : ∃ T, strIterType y = T ∧ Nonempty (Walks prog w A s₁.heap.objs.size [s₁.heap.objs.size] [s₁.heap.objs.size] y.cps.size (SignAt y) (fun i h => h.IsStrIter s₁.heap.objs.size T y t i)) := by
    cases ha : y.cps.all (· < 128)
    · exact ⟨"str_iterator", by simp [strIterType, ha], ⟨Walks.strWide hh _ y t⟩⟩
    · exact ⟨"str_ascii_iterator", by simp [strIterType, ha], ⟨Walks.strAscii hh _ y t⟩⟩
  obtain ⟨W⟩ := W
  rw [hT]
  refine block_U W hsz (fun i h st => by obtain ⟨o, e, _⟩ := st; exact ⟨o, e⟩) str_st hcell hkind hx ⟨_, Heap.get?_push_size _ rfl, rfl, rfl⟩ (fun b hb => ?_)
      (F.keeps (up _)) (N.grown (up _)) (Nat.ne_of_lt F.ns.lt) (next_is_new F) (fun p hp => Nat.ne_of_lt (Heap.lt_size (N p hp).1)) trivial (R _) ?_
  · rw [List.mem_singleton.mp hb]
    show s₁.heap.objs.size < (s₁.heap.push _).objs.size
    rw [Heap.size_push]; exact Nat.lt_succ_self _
  · intro D C h tk m' ys news' F' N' o1 hn hC₀ hD₀ hCL hDL hCD offC fin
    refine ⟨m', hn, fun h'' hs'' => fin D h'' tk (F'.change hs'' hCL hC₀) (fun p hp => ?_) o1⟩
    refine ⟨hs''.extBut _ _ ?_ (N' p hp).1, (N' p hp).2⟩
    rcases List.mem_cons.mp hp with rfl | hp
    · exact Ne.symm hCD
    · exact offC p hp
/-- a comprehension's turns by an invariant of the items made -/
theorem rest_go {elt : Expr} {x : Str} {scope : Scope} {cl : List (Str × Addr)} {S : List (Addr × Obj) → Prop} {P : Nat → Value → Prop} {Fin : List Value → List (Addr × Obj) → Prop} {news : List (Addr × Obj)} (J : Nat → List Value → Prop) (n : Nat)
    (turn : ∀ i ys k, i < n → J i ys → (∀ y, J (i + 1) (ys ++ [y]) → CompRest prog w A h₀ L m env elt x scope cl s S P Fin k (i + 1) (ys ++ [y]) news) → CompRest prog w A h₀ L m env elt x scope cl s S P Fin (k + 1) i ys news)
    (fin : ∀ ys, J n ys → Fin ys news) : ∀ k i ys, i + k = n → J i ys → CompRest prog w A h₀ L m env elt x scope cl s S P Fin k i ys news
  | 0, i, ys, e, j => fin ys (by rw [← e]; exact j)
  | k + 1, i, ys, e, j => turn i ys k (by lia) j fun y j' => rest_go J n turn fin k (i + 1) _ (by lia) j'
end
end Mine
end
section -- Lx
open PySem PySem.W PySem.W.X PyProof.Rows PyProof.V PySem.Calls
namespace Mine
open PyProof.Rows.LCg (CompRest FinE CompEnd)
theorem setup_Lx_1 : True := by
  w_top off
  k_with_none
  k_with "eval ListComp" => ((k_here; refine Halt.out ?_))
  k_with "CompSrc" => ((refine Halt.out ?_))
  exact True.intro
theorem pow6 {prog : Program} {w : World} {A : Around} {E : Value → Shared → Prop} {s : Shared} {i : Int} {t u : Tok} {Q : Value → Shared → Prop} (h0 : 0 ≤ i) (h1 : i < 5) (h : ∀ (z : Int) tk u', 0 < z → z < 2000 → Q (.int z u') { s with toks := tk }) :
    wpAny (model prog w) A (binaryOp .Pow (.int 6 t) (.int i u)) Q E s := by
  have : i = 0 ∨ i = 1 ∨ i = 2 ∨ i = 3 ∨ i = 4 := by lia
  rcases this with rfl | rfl | rfl | rfl | rfl
  · exact AutoIntOps.pow_0 (by decide) (by decide) (h _ _ _ (by decide) (by decide))
  all_goals exact AutoIntOps.pow_4 (by decide) (by decide) (by decide) (by decide) (by decide +kernel) (h _ _ _ (by decide) (by decide))
theorem setup_Lx_2 : True := by
  k_with "binaryOp Pow int int" => ((k_here; (with_reducible show wpAny _ _ (binaryOp .Pow (Value.int _ _) (Value.int _ _)) _ _ _); k_dflt (refine' pow6 ?zzk1 ?zzk2 ?_; (case zzk1 => lia); (case zzk2 => lia)); intro _ _ _ _ _))
  k_with "call builtin:str.join" => ((refine Halt.out ?_))
  exact True.intro
theorem ok_item {i : Int} (h0 : 0 ≤ i) (h1 : i < 6) : PyData.strOk (Txt.item (Str.ofString "aAbé z") i) = true := by
  have : i = 0 ∨ i = 1 ∨ i = 2 ∨ i = 3 ∨ i = 4 ∨ i = 5 := by lia
  rcases this with rfl | rfl | rfl | rfl | rfl | rfl <;> kernel_rfl!
theorem ok_app {x y : Str} (hx : PyData.strOk x = true) (hy : PyData.strOk y = true) : PyData.strOk (x ++ y) = true := by
  unfold PyData.strOk at *
  show (x.cps ++ y.cps).all _ = true
  rw [Array.all_append, hx, hy]; rfl
theorem ok_joined : ∀ l : List Str, (∀ a ∈ l, PyData.strOk a = true) → PyData.strOk (PySem.Str.join (Str.ofString "") l) = true
  | [], _ => by kernel_rfl!
  | [x], h => h x (.head _)
  | x :: y :: r, h => ok_app (ok_app (h x (.head _)) (by kernel_rfl!)) (ok_joined (y :: r) fun a ha => h a (.tail _ ha))
theorem ok_join (l : List Str) (h : ∀ a ∈ l, PyData.strOk a = true) : PyData.strOk (Txt.join (Str.ofString "") l) = true := by
  show PyData.strOk (Builtin.Str.glued (Str.ofString "") l) = true
  rw [StrLaws.glued_eq_join]
  exact ok_joined l h
theorem lawtext_ok {w : World} {p : Program} {loose : List Str} {mean : ExcName → Option Value} {mg mb : Str → Option Value} {nw : List (Addr × Obj)}
  {dp un : Nat} {gd : Option (List Code)} {cn : Str} {cs : Scope} {a : Addr} {ccd : Value} {cl : List (Str × Addr)} {outer : List Env} {A₀ : Around} {base h₀ : Heap} {L : Addr} {m : Str → Option Value} {s : Shared} {v : Int} {tv : Tok} {Q E : Value → Shared → Prop} :
    Below A₀ base outer h₀ → Fr h₀ L s.heap m → (Mine.hd.heap_1 w.params).In h₀ → News h₀ L s.heap nw → Top p loose mean mg mb h₀ → cs.kind = .function →
    dp + 5 < recursionLimit → un + 40 < cLine →
    (∀ a ta h' tk', Fr h₀ L h' m → News h₀ L h' nw → a.cps.size ≤ 100 → PyData.strOk a = true → Q (.str a ta) { s with heap := h', toks := tk' }) →
    wpAny (model PR w) (ktrTop dp un gd cn cs L a ccd cl outer) (call (.ref 115) [.int v tv]) Q E s := by
  have fill : Mine.hd.heap_1 = Mine.hd.heap_1 ∧ PySem.Challenge.rw_xh0039_01 = PySem.Challenge.rw_xh0039_01 := by (k_fill; exact ⟨rfl, rfl⟩)
  clear fill
  intro B F X N T hk hd hu hQ
  have hd' : dp + 1 < recursionLimit := by lia
  refine wpAny_call ?_
  k_dflt (refine' code_defC ?k1 ?k2 ?k3 ?k4 ?k5 ?kA ?kF ?kK ?k6 ?k7 ?k8 ?k9 ?kB ?kD ?_ ?c2 ?c3 ?c4; (case kA => exact rfl); (case kF => exact rfl); (case kK => exact hk); (case k1 => k_asm); (case k2 => k_asm); (case k3 => k_asm); (case k4 => k_asm); (case k5 => k_asm); (case k6 => k_is); (case k7 => k_is); (case k8 => ktr_room); (case k9 => first | exact BindsTo.of_eq rfl | exact binds_K (by k_in) rfl (by k_is) rfl rfl rfl); (case kB => exact rfl); (case kD => decide +kernel); (case c2 => exact rfl); (case c3 => exact rfl); (case c4 => exact rfl); k_whole; intro g' L' h' tk' cells' FG' F' N' Y' B' X' T' l1; (try k_lt l1); k_cells Y'; (try simp only [List.cons_append, List.nil_append] at N'); (try dsimp only); (try k_fold))
  k_steps
  rename_i o1 d1 _ _
  refine storeX_C F' N' rfl (.head fun q hq => ?_) d1 ?_ rfl rfl
  · exact Nat.ne_of_lt (Nat.lt_succ_of_lt (l1 q hq))
  intro h2 o2 F2 N2 d2
  clear F' N'
  k_steps
  refine ⟨?_⟩
  refine LCg.ListComp_U (cl := [(Str.ofString "left", L' + 1)]) F2 (by with_unfolding_all rfl) (by decide) rfl (by decide) rfl ?_
  k_steps
  rename_i hr F3 N3 _
  have q0 : 0 ≤ ((if v < 0 then -v else v).fdiv 7).fmod 5 := Int.fmod_nonneg_of_pos _ (by decide)
  have q1 : ((if v < 0 then -v else v).fdiv 7).fmod 5 < 5 := Int.fmod_lt_of_pos _ (by decide)
  generalize ((if v < 0 then -v else v).fdiv 7).fmod 5 = q at q0 q1 hr
  obtain ⟨n, rfl⟩ := Int.eq_ofNat_of_zero_le q0
  refine ⟨.range rfl F3 N3 hr (small_one (by decide) (by decide) (by lia) (by lia)) (n := n) (by rw [rangeSize_one]; split <;> lia) (by rw [sizeLine_eq]; lia) fun g => ?_⟩
  refine rest_go (J := fun i ys => ∃ zs : List Str, StrsAre ys zs ∧ zs.length = i ∧ ∀ z ∈ zs, z.length = 1 ∧ PyData.strOk z = true) n (fun i ys k hi hJ next => ?_) (fun ys hJ => ?_) _ 0 [] (by lia) ⟨[], .nil, rfl, fun _ hy => nomatch hy⟩
  · intro v' I oI C oC D m₂ h tk E' hP hno hmx F2 N2 off ne
    obtain ⟨t, rfl⟩ := hP
    k_steps
    obtain ⟨zs, z1, z2, z3⟩ := hJ
    refine CompEnd.intro F2 N2 _ (fun _ hq => hq) off trivial (next _ ⟨_, StrsAre.append' z1 (.cons _ _ .nil), by simp [z2], fun z hz => ?_⟩)
    rcases List.mem_append.mp hz with hz | hz
    · exact z3 z hz
    · rw [List.mem_singleton.mp hz]; exact ⟨rfl, ok_item (Int.fmod_nonneg_of_pos _ (by decide)) (Int.fmod_lt_of_pos _ (by decide))⟩
  · intro D h2 tk2 F3 N3 off3
    obtain ⟨zs, z1, z2, z3⟩ := hJ
    have hsum : ∀ l : List Str, (∀ z ∈ l, z.length = 1) → (l.map (·.length)).sum = l.length := by
      intro l
      induction l with
      | nil => intro _; rfl
      | cons x r ih => intro h; rw [List.map_cons, List.sum_cons, h x (.head _), ih fun z hz => h z (.tail _ hz), List.length_cons]; lia
    have hsm := hsum zs fun z hz => (z3 z hz).1
    k_steps
    refine ⟨?_⟩
    refine join_listW ⟨_, (N3 _ (.head _)).1, rfl, _, rfl⟩ (by simpa using z1) (by decide) (by rw [hsm, z2]; lia) fun t' k' => ?_
    have hlen := KT.join_ones zs fun z hz => (z3 z hz).1
    k_steps
    rename_i kF kN _ _
    refine hQ _ _ _ _ kF (fun q hq => kN q (List.mem_of_mem_drop (i := 2) (by exact hq))) ?_ (ok_join _ fun z hz => (z3 z hz).2)
    show (Txt.join (Str.ofString "") zs).length ≤ 100
    lia
end Mine
end
section -- Ln
open PySem PySem.W PySem.W.X PyProof.Rows PyProof.V PySem.Calls
namespace Mine
theorem code_own {prog : Program} {w : World} {A : Around} {s : Shared} {K : Frag} {R : Result → Shared → Prop} {name qual : Str} {params : Arguments} {body : List Stmt} {scope : Scope} {dV kV doc pm cdv ct oc : Value} {an od : Option Addr} {osl : Array (Option Value)} {f : Addr} {args : Args} {binds : List (Str × Value)}
    (X₀ : K.In s.heap) (hlim : s.heap.NoLimit) (ho : K.lookup f = some ⟨oc, od, .func (fnOf name qual params body scope dV kV doc pm an cdv ct), osl⟩) (hcd : codeIn K cdv qual = true) (hroom : A.depth < recursionLimit)
    (hbind : BindsTo s (fnOf name qual params body scope dV kV doc pm an cdv ct) args binds) (hloc : ∀ y ∈ binds, scope.names.lookup y.1 = some .local)
    (h : ∀ L' h₁, L' = s.heap.objs.size → Fr s.heap L' h₁ (fun y => binds.reverse.lookup y) →
      wpAny (model prog w) (A.deeper (envOf qual scope L' f cdv)) (execs body (envOf qual scope L' f cdv))
        (fun fl s' => R (.ok (.ret (match fl with | .ret v => v | _ => .none))) s')
        (fun e s' => wpAny (model prog w) (A.deeper (envOf qual scope L' f cdv)) (leaving (envOf qual scope L' f cdv) e) (fun _ s'' => R (.error e) s'') (fun e' s'' => R (.error e') s'') s')
        { s with heap := h₁, toks := s.toks + binds.length })
    (hco : scope.isCoroutine = false) (hgen : scope.isGenerator = false) (hk : scope.kind = .function)
    (hcell : ∀ x ∈ scope.names, x.2 ≠ .cell) : codeAny (model prog w) A (.call (.ref f) args) R s :=
  codeAny_call_def (fd := fnOf name qual params body scope dV kV doc pm an cdv ct) (body := body) (binds := binds) hroom (X₀ _ _ ho) rfl hlim (codeRec_of X₀ hcd) rfl hbind hcell hloc (fun h₁ hns hk₁ => h _ h₁ rfl ⟨hns, hk₁, Nat.le_refl _⟩) hco hgen hk
open PyProof.Rows.LCg (CompRest FinE CompEnd)
theorem setup_Ln_1 : True := by
  w_top off
  k_with_none
  k_with "eval ListComp" => ((k_here; refine Halt.out ?_))
  exact True.intro
theorem lawnum_ok {w : World} {p : Program} {loose : List Str} {mean : ExcName → Option Value} {mg mb : Str → Option Value} {dp un : Nat} {frs : Option (List Env)} {gds : Option (List Code)} {s : Shared} {Q : Value → Shared → Prop} {E : Value → Shared → Prop} {a : Str} {ta : Tok}
  (X : (Mine.hd.heap_1 w.params).In s.heap) (T : Top p loose mean mg mb s.heap) (hlen : a.cps.size ≤ 100) (hd : dp + 5 < recursionLimit) (hu : un + 40 < cLine)
  (hQ : ∀ D ys h' tk', Me s.heap h' [(D, LCg.lst ys)] → IntsAre ys (a.cps.toList.map fun (n : Nat) => (n : Int)) → Q (.ref D) { s with heap := h', toks := tk' }) :
  wpAny (model PR w) { handled := none, depth := dp, frames := frs, guards := gds, units := un } (call (.ref 120) [.str a ta] []) Q E s := by
  have fill : Mine.hd.heap_1 = Mine.hd.heap_1 ∧ PySem.Challenge.rw_xh0039_01 = PySem.Challenge.rw_xh0039_01 := by (k_fill; exact ⟨rfl, rfl⟩)
  clear fill
  refine wpAny_call ?_
  k_dflt (refine' code_own ?k1 ?k2 ?k6 ?k7 ?k8 ?k9 ?kB ?_ ?c2 ?c3 ?c4 ?c5; (case k1 => exact X); (case k2 => exact T.nolimit); (case k6 => k_is); (case k7 => k_is); (case k8 => (show dp < _; lia)); (case k9 => exact BindsTo.of_eq rfl); (case c5 => decide); (case kB => exact locs rfl); (case c2 => exact rfl); (case c3 => exact rfl); (case c4 => exact rfl))
  intro L' h₁ hL F
  have N : News s.heap L' h₁ [] := fun q hq => nomatch hq
  (try dsimp only)
  (try k_fold)
  k_steps
  refine ⟨?_⟩
  refine ListComp_text F rfl (by decide) rfl (by decide) rfl ?_
  k_steps
  · exact Nat.le_trans hlen (by decide)
  · exact F
  · exact N
  · refine rest_go (J := fun i ys => IntsAre ys ((a.cps.toList.take i).map fun (n : Nat) => (n : Int))) a.cps.size (fun i ys k hi hJ next => ?_) (fun ys hJ => ?_) _ 0 [] (by lia) .nil
    · intro v I oI C oC D m₂ h tk E' hP hno hmx F2 N2 off ne
      obtain ⟨c, u, hc, rfl⟩ := hP
      k_steps
      refine next _ ?_
      have e : (a.cps.toList.take (i + 1)).map (fun (n : Nat) => (n : Int)) = (a.cps.toList.take i).map (fun (n : Nat) => (n : Int)) ++ [(c : Int)] := by
        rw [List.take_add_one, show a.cps.toList[i]? = some c by simpa using hc]; simp
      show IntsAre _ ((a.cps.toList.take (i + 1)).map fun (n : Nat) => (n : Int))
      rw [e]
      exact ksk_snoc hJ
    · intro D h2 tk2 F3 N3 off3
      rw [List.take_of_length_le (by simp)] at hJ
      refine hQ D ys h2 tk2 ⟨F3.keep, fun q hq => ?_, ?_⟩ hJ
      · rcases List.mem_cons.mp hq with rfl | hq
        · exact ⟨(N3 _ (.head _)).1, (N3 _ (.head _)).2.2⟩
        · cases hq
      · simp
end Mine
end
section -- Li
open PySem PySem.W PySem.W.X PyProof.Rows PyProof.V PySem.Calls
open AutoSeq1 (wpAny_loadPart')
open MeetsSeq3 (plain_eq_loop entry_eq_loop)
namespace Mine
/-- the lexicographic order of lists of ints -/
noncomputable def ltL : List Int → List Int → Bool
  | [], [] => false
  | [], _ :: _ => true
  | _ :: _, [] => false
  | x :: xs, y :: ys => if (x == y) = true then ltL xs ys else decide (x < y)
theorem ltL_nat : ∀ (xs ys : List Nat), ltL (xs.map fun (n : Nat) => (n : Int)) (ys.map fun (n : Nat) => (n : Int)) = decide (xs < ys)
  | [], [] => by simp [ltL]
  | [], y :: ys => by simp [ltL]
  | x :: xs, [] => by simp [ltL]
  | x :: xs, y :: ys => by
    simp only [List.map_cons, ltL]
    have ih := ltL_nat xs ys
    by_cases e : x = y
    · subst e
      rw [if_pos (by simp), ih]
      simp
    · rw [if_neg (by simp; lia)]
      simp [List.cons_lt_cons_iff, e]
theorem ints_get {vs : List Value} {xs : List Int} (h : IntsAre vs xs) : vs.length = xs.length ∧ ∀ i (hi : i < xs.length), ∃ t, vs[i]? = some (.int xs[i] t) := by
  induction h with
  | nil => exact ⟨rfl, fun i hi => by simp at hi⟩
  | cons n t r ih =>
    refine ⟨by simp [ih.1], fun i hi => ?_⟩
    cases i with
    | zero => exact ⟨t, rfl⟩
    | succ i =>
      obtain ⟨t', ht⟩ := ih.2 i (by simpa using hi)
      exact ⟨t', by simpa using ht⟩
theorem lt_loop (l b : Addr) {vs us : List Value} {xs ys : List Int} (n n2 : Nat) (hx : IntsAre vs xs) (hy : IntsAre us ys) (k : Nat) :
    ∀ i : Nat, vs.length - i = k → i ≤ vs.length → i ≤ us.length → Meets (Builtin.«list.__eq__.loop» ⟨[.ref l, .ref b, rawInt i, rawInt 0], []⟩)
      (fun _ R s => s.heap.get? l = some { cls := .type "list", dict := none, data := .seq vs.toArray n, slots := #[] } ∧ s.heap.get? b = some { cls := .type "list", dict := none, data := .seq us.toArray n2, slots := #[] } ∧
        R (.ok (.ret (.bool (ltL (xs.drop i) (ys.drop i))))) s) := by
  obtain ⟨lx, gx⟩ := ints_get hx
  obtain ⟨ly, gy⟩ := ints_get hy
  induction k with
  | zero =>
    intro i hk h1 h2 prog w A R s h
    obtain ⟨hp, g, d, tk, os⟩ := s; obtain ⟨hl, hb, h⟩ := h
    wp_walk using wpAny_loadPart' hl, wpAny_loadPart' hb
    have hi : i = xs.length := by lia
    have hi1 : vs.toArray[((i : Nat) : Int).toNat]? = none := by simp; lia
    rw [hi1]
    wp_walk using wpAny_loadPart' hl, wpAny_loadPart' hb
    have e : ltL (xs.drop i) (ys.drop i) = decide (vs.length < us.length) := by
      rw [hi, List.drop_length]
      cases q : ys.drop xs.length with
      | nil =>
        have := congrArg List.length q
        simp at this
        simp [ltL]; lia
      | cons y r =>
        have := congrArg List.length q
        simp at this
        simp [ltL]; lia
    rw [e] at h
    show R (.ok (.ret (.bool (decide (vs.toArray.size < us.toArray.size))))) _
    simpa using h
  | succ k ih =>
    intro i hk h1 h2 prog w A R s h
    obtain ⟨hp, g, d, tk, os⟩ := s; obtain ⟨hl, hb, h⟩ := h
    wp_walk using wpAny_loadPart' hl, wpAny_loadPart' hb
    have hlt : i < xs.length := by lia
    obtain ⟨t, ht⟩ := gx i hlt
    have hi1 : vs.toArray[((i : Nat) : Int).toNat]? = some (.int xs[i] t) := by simpa using ht
    by_cases hlt2 : i < ys.length
    · obtain ⟨u, hu⟩ := gy i hlt2
      have hi2 : us.toArray[((i : Nat) : Int).toNat]? = some (.int ys[i] u) := by simpa using hu
      rw [hi1, hi2]
      rw [List.drop_eq_getElem_cons hlt, List.drop_eq_getElem_cons hlt2] at h
      refine wpAny_bind (wpAny_eqBool_int ?_)
      have hc : ((i : Int) + 1) = ((i + 1 : Nat) : Int) := by push_cast; rfl
      cases hb' : (xs[i] == ys[i]) with
      | true =>
        rw [show ltL (xs[i] :: xs.drop (i + 1)) (ys[i] :: ys.drop (i + 1)) = ltL (xs.drop (i + 1)) (ys.drop (i + 1)) by simp only [ltL]; rw [if_pos hb']] at h
        wp_walk
        rw [hc]
        exact ⟨plainId_quiet plain_eq_loop _, codeAny_builtin entry_eq_loop (by
          rw [Around.under_plainId plain_eq_loop _]
          exact ih (i + 1) (by lia) (by lia) (by lia) prog w A R _ ⟨hl, hb, h⟩)⟩
      | false =>
        rw [show ltL (xs[i] :: xs.drop (i + 1)) (ys[i] :: ys.drop (i + 1)) = decide (xs[i] < ys[i]) by simp only [ltL]; rw [if_neg (by rw [hb']; simp)]] at h
        wp_walk using wpAny_loadPart' hl, wpAny_loadPart' hb
        rw [hi1, hi2]
        show wpAny _ _ (richCompare .Lt (.int xs[i] t) (.int ys[i] u) >>= fun r => ret r) _ _ _
        refine wpAny_bind (PyProof.Rows.lt_int ?_)
        wp_walk
        exact h
    · have hi2 : us.toArray[((i : Nat) : Int).toNat]? = none := by simp; lia
      rw [hi1, hi2]
      wp_walk using wpAny_loadPart' hl, wpAny_loadPart' hb
      have e : ltL (xs.drop i) (ys.drop i) = decide (vs.length < us.length) := by
        rw [List.drop_eq_getElem_cons hlt, show ys.drop i = [] by simp; lia]
        simp [ltL]; lia
      rw [e] at h
      show R (.ok (.ret (.bool (decide (vs.toArray.size < us.toArray.size))))) _
      simpa using h
end Mine
end
section -- Sn
open PySem PySem.W PySem.W.X PyProof.Rows PyProof.V PySem.Calls
open AutoSeq1 (wpAny_loadPart')
open MeetsSeq3 (plain_eq_loop entry_eq_loop)
namespace Mine
noncomputable abbrev natInts (a : Str) : List Int := a.cps.toList.map fun (n : Nat) => (n : Int)
/-- k is the list of the text's signs -/
def KV3 (nw : List (Addr × Obj)) (k : Value) (a : Str) : Prop := ∃ l ys, k = .ref l ∧ (l, LCg.lst ys) ∈ nw ∧ IntsAre ys (natInts a)
theorem call_list_lt {prog : Program} {w : World} {A : Around} {E : Value → Shared → Prop} {s : Shared} {l b : Addr} {vs us : List Value} {xs ys : List Int} {n n2 : Nat} {Q : Value → Shared → Prop} (hx : IntsAre vs xs) (hy : IntsAre us ys)
    (hl : s.heap.get? l = some { cls := .type "list", dict := none, data := .seq vs.toArray n, slots := #[] }) (hb : s.heap.get? b = some { cls := .type "list", dict := none, data := .seq us.toArray n2, slots := #[] }) (h : Q (.bool (ltL xs ys)) s) :
    wpAny (model prog w) A (call (.builtin "list.__lt__") [.ref l, .ref b]) Q E s := by
  refine call_meets (name := (cmpInfo .Lt).2.1) PySem.F.slot_list_lt ⟨_, hl, rfl⟩ PySem.F.entry_list_lt (PySem.F.args_list_lt_2 _ _) (S := fun _ R s => s.heap.get? l = some { cls := .type "list", dict := none, data := .seq vs.toArray n, slots := #[] } ∧ s.heap.get? b = some { cls := .type "list", dict := none, data := .seq us.toArray n2, slots := #[] } ∧
        R (.ok (.ret (.bool (ltL xs ys)))) s) ?_ ⟨hl, hb, h⟩
  intro prog w A R s h
  obtain ⟨hp, g, d, tk, os⟩ := s; obtain ⟨hl, hb, h⟩ := h
  have f3 := AutoSeq1.sub_list_list
  wp_walk using wpAny_loadPart' hl, wpAny_loadPart' hb
  exact ⟨plainId_quiet plain_eq_loop _, codeAny_builtin entry_eq_loop (by
    rw [Around.under_plainId plain_eq_loop _]
    exact lt_loop l b n n2 hx hy _ 0 rfl (Nat.zero_le _) (Nat.zero_le _) prog w A R _ ⟨hl, hb, by simpa using h⟩)⟩
theorem keyFn_N {w : World} {p : Program} {loose : List Str} {mean : ExcName → Option Value} {mg mb : Str → Option Value} : KeyFn w (fun h => Top p loose mean mg mb h) [] (.ref 120) KV3 (.type "list") 30 90 where
  call := fun A s a t Q H T hh hsz hd hu hQ E => by
    cases A
    cases hh
    exact lawnum_ok H.1 T hsz (by dsimp only at hd; lia) (by dsimp only at hu; lia) fun D ys h' tk' Dm hi => hQ _ _ h' tk' Dm ⟨D, ys, rfl, .head _, hi⟩
  mono := fun tl tl' k a hs ⟨l, ys, e, hm, hi⟩ => ⟨l, ys, e, hs _ hm, hi⟩
  ord := fun nw A s x y a b C H hn ⟨l, ys, e1, m1, i1⟩ ⟨l', ys', e2, m2, i2⟩ hd hu hQ => by
    subst e1 e2
    rw [keyLt'_oneType, oneLt'_eq]
    simp only [if_true]
    refine wpAny_bind (wpAny_cRoomFor (by lia) ?_)
    refine wpAny_bind (wpAny_callSpecialIfBound?_slot (T := "list") ⟨_, hn _ m1, rfl⟩ PySem.F.slot_list_lt (call_list_lt i1 i2 (hn _ m1) (hn _ m2) ?_))
    have e : ltL (natInts a) (natInts b) = strLt a b := ltL_nat _ _
    rw [e]
    exact wpAny_truthy_bool (hQ s.heap s.toks Ext.rfl)
  ty := fun nw h k a hn ⟨l, ys, e1, m1, i1⟩ => by
    subst e1
    exact (Looks.ld (hn _ m1)).andThen .now
  t1 := by decide +kernel
  t2 := by decide +kernel
end Mine
end
section -- Sx
open PySem PySem.W PySem.W.X PyProof.Rows PyProof.V PySem.Calls
namespace Mine
theorem setup_Sx_1 : True := by
  w_top off
  k_with_none
  k_with "at" => (first | with_reducible exact At.head | (with_reducible refine At.tail ?_; walk_at "at"))
  exact True.intro
theorem setup_Sx_2 : True := by
  k_with "mem" => (first | assumption | exact List.Mem.head _ | (refine List.mem_cons_of_mem _ ?_; k_mem))
  k_with "lk" => ((first
  | (with_reducible refine b_bind ?_; try walk_at "kf") | (with_reducible refine b_nd ?_; try walk_at "kf") | with_reducible refine wpAny_holding ?_ | (with_reducible refine b_tc ?_; try walk_at "kf") | with_reducible refine b_att ?_ | with_reducible refine b_or ?_
  | ((fail_if_success (with_reducible show wpAny _ _ (PySem.richCompare _ _ _) _ _ _)); (fail_if_success (with_reducible show wpAny _ _ (PySem.call _ _ _) _ _ _)); (fail_if_success (with_reducible show wpAny _ _ (PySem.runValue _) _ _ _)); (fail_if_success (with_reducible show wpAny _ _ (enterFrame _) _ _ _)); (fail_if_success (with_reducible show wpAny _ _ (forIn (List.drop _ _) _ _) _ _ _)); (fail_if_success (with_reducible show wpAny _ _ (PySem.run _ _) _ _ _)); first
    | with_reducible refine Looks.at (by assumption) ?_
    | ((with_reducible show wpAny _ _ (callMarked _ _ _ _) _ _ _); unfold callMarked; refine wpAny_keep ?_)
    | ((with_reducible show wpAny _ _ (collect _) _ _ _); k_dflt (refine' m_collect ?zzD ?zzhv ?zzhm ?zzhz ?_; (case zzD => assumption); (case zzhv => with_unfolding_all rfl); (case zzhm => k_mem); (case zzhz => exact Nat.le_of_ble_eq_true rfl)); intro _ _ _ _)
    | ((with_reducible show wpAny _ _ (Sem.load _ _ _) _ _ _); k_dflt (refine' m_load ?zzD ?zzhm ?_; (case zzD => with_reducible assumption); (case zzhm => k_mem)); try dsimp only)
    | ((with_reducible show wpAny _ _ (setSlotAt _ _ _) _ _ _); k_dflt (first | refine m_setSlot (j := 0) (by with_reducible assumption) rfl (Nat.lt_of_lt_of_le (by decide : _ < 100) (Nat.le_of_ble_eq_true rfl)) rfl ?_ | refine m_setSlot (j := 1) (by with_reducible assumption) rfl (Nat.lt_of_lt_of_le (by decide : _ < 100) (Nat.le_of_ble_eq_true rfl)) rfl ?_ | refine m_setSlot (j := 2) (by with_reducible assumption) rfl (Nat.lt_of_lt_of_le (by decide : _ < 100) (Nat.le_of_ble_eq_true rfl)) rfl ?_); intro _ Dn; dsimp only [List.set, setAt] at Dn; revert Dn; intro _)
    | ((with_reducible show wpAny _ _ (slotAt _ _) _ _ _); k_dflt (refine' m_slotAt ?zzD ?zzm ?zze ?_; (case zzD => with_reducible assumption); (case zzm => k_mem); (case zze => rfl)))
    | ((with_reducible show wpAny _ _ (updateCls _ _) _ _ _); k_dflt (first | refine m_updateCls (j := 0) (by with_reducible assumption) rfl rfl rfl ?_ | refine m_updateCls (j := 1) (by with_reducible assumption) rfl rfl rfl ?_ | refine m_updateCls (j := 2) (by with_reducible assumption) rfl rfl rfl ?_); intro _ Dn; dsimp only [List.set] at Dn; revert Dn; intro _)
    | ((with_reducible show wpAny _ _ (Sem.load _ _ _) _ _ _); k_dflt (refine' m_oldF ?zzD ?zzO ?_; (case zzD => with_reducible assumption); (case zzO => with_reducible assumption)); try dsimp only)
    | ((with_reducible show wpAny _ _ (Sem.load _ _ _) _ _ _); dsimp only)
    | ((with_reducible show wpAny _ _ (Sem.update _ _ _ _) _ _ _); dsimp only)
    | with_reducible refine m_arr ?_
    | with_reducible refine x_at ?_
    | ((with_reducible show wpAny _ _ (List.mapM.loop _ (Scope.freeNames _) _) _ _ _); generalize hfn : Scope.freeNames _ = fn; (first | (have hf2 : fn = [] := hfn.symm.trans (by kernel_rfl!); clear hfn; subst hf2) | (have hf2 : fn = [Str.ofString "mycmp"] := hfn.symm.trans (by kernel_rfl!); clear hfn; subst hf2)))
    | ((with_reducible show wpAny _ _ (Sem.load _ _ _) _ _ _); k_dflt (refine' m_old ?zzD ?zzX ?zzl ?_; (case zzD => with_reducible assumption); (case zzX => with_reducible assumption); (case zzl => k_is)); try dsimp only)
    | (with_reducible refine m_alloc (by assumption) rfl ?_; intro _ _ _; try dsimp only)
    | ((with_reducible show wpAny _ _ (Sem.update _ _ _ _) _ _ _); k_dflt (first | refine m_update (i := 0) (by with_reducible assumption) rfl rfl ?_ | refine m_update (i := 1) (by with_reducible assumption) rfl rfl ?_); intro _ Dn; dsimp only [List.set] at Dn; revert Dn; intro _)
    | ((with_reducible show wpAny _ _ (compareOp .Gt (.int _ _) (.int _ _)) _ _ _); refine PyProof.Rows.gt_int ?_)
    | ((with_reducible show wpAny _ _ (compareOp .Lt (.int _ _) (.int _ _)) _ _ _); refine PyProof.Rows.lt_int ?_)
    | ((with_reducible show wpAny _ _ (compareOp .Eq (.int _ _) (.int _ _)) _ _ _); refine PyProof.Rows.eq_int ?_)
    | ((with_reducible show wpAny _ _ (compareOp .Gt (.str _ _) (.str _ _)) _ _ _); refine P.gt_str ?_)
    | ((with_reducible show wpAny _ _ (compareOp .Lt (.str _ _) (.str _ _)) _ _ _); refine P.lt_str ?_)
    | ((with_reducible show wpAny _ _ (binaryOp .Sub (.bool _) (.bool _)) _ _ _); refine sub_bool ?_)
    | k_node
    | with_reducible refine m_ifF' (by kernel_rfl!) ?_
    | with_reducible refine m_ifT' (by kernel_rfl!) ?_)))
  exact True.intro
theorem strxfrm_ok {w : World} {A : Around} {s : Shared} {Q : Value → Shared → Prop} {E : Value → Shared → Prop} {h₀ : Heap} {a : Str} {ta : Tok} {news : List (Addr × Obj)} (X₀ : (Mine.hd.heap_1 w.params).In h₀) (D : Me h₀ s.heap news) (hdep : A.depth + 5 < recursionLimit) (hun : A.units + 40 < cLine)
  (hQ : ∀ f o h' tk', Me h₀ h' ((f, o) :: news) → Q (.str a ta) { s with heap := h', toks := tk' }) :
  wpAny (model PR w) A (call (.ref 28) [.str a ta] []) Q E s := by
  have fill : Mine.hd.heap_1 = Mine.hd.heap_1 ∧ PySem.Challenge.rw_xh0039_01 = PySem.Challenge.rw_xh0039_01 := by (k_fill; exact ⟨rfl, rfl⟩)
  clear fill
  have h28 := D.keep _ _ (X₀ 28 _ (by k_is))
  have hrec := (codeRec_of (cd := .ref 27) (q := Str.ofString "_strxfrm") X₀ (by k_is)).keeps D.keep
  refine wpAny_call ?_
  refine codeAny_call_function (by lia) h28 rfl rfl rfl rfl hrec ?_
  repeat (walk_at "lk")
  refine ⟨noLimit_of (Me.keep (by with_reducible assumption) _ _ (X₀ 2 _ (by k_is))), codeAny_func ?_⟩
  repeat (walk_at "lk")
  exact hQ _ _ _ _ (by with_reducible assumption)
/-- k is the text itself -/
def KV2 (_ : List (Addr × Obj)) (k : Value) (a : Str) : Prop := ∃ t, k = .str a t
theorem keyFn_S {w : World} : KeyFn w (fun _ => True) [] (.ref 28) KV2 (.type "str") 30 90 where
  call := fun A s a t Q H _ _ _ hd hu hQ E => strxfrm_ok H.1 (Me.start _) (by lia) (by lia) fun f o h' tk' D => hQ _ _ h' tk' D ⟨t, rfl⟩
  mono := fun tl tl' k a hs h => h
  ord := fun nw A s x y a b Cc H hn ⟨p, e1⟩ ⟨q, e2⟩ hd hu hQ => by
    subst e1 e2
    exact kas_lt_str (hQ s.heap s.toks Ext.rfl)
  ty := fun nw h k a hn ⟨p, e1⟩ => by
    subst e1
    exact Looks.of_pure rfl
  t1 := by decide +kernel
  t2 := by decide +kernel
end Mine
end
section -- Sa
open PySem PySem.W PySem.W.X PyProof.Rows PyProof.V PySem.Calls PySem.Spec
namespace Mine
section
variable {w : World} {A : Around} {E : Value → Shared → Prop} {s : Shared} {g : Heap} {L l : Addr} {m : Str → Option Value} {nw news : List (Addr × Obj)} {vs : List Value} {ts : List Str} {f T : Value} {KV : List (Addr × Obj) → Value → Str → Prop} {d u : Nat} {kw : List (Str × Value)} {Q : Value → Shared → Prop}
/-- sorted(l, key=f) of fewer than 64 texts -/
theorem sortedA_ok {P : Heap → Prop} (H : KeyFn w P news f KV T d u) (hP : P g) (hPm : ∀ h h', Ext h h' → P h → P h') (hh : A.handled = none) (hsm : ∀ a ∈ ts, a.cps.size ≤ 100) (F : Fr g L s.heap m) (X : (Mine.hd.heap_1 w.params).In g) (N : News g L s.heap nw) (hs : ∀ q ∈ news, q ∈ nw) (hl : s.heap.IsList l vs.toArray) (hlen : vs.length = ts.length) (hv : ∀ i, i < ts.length → ∃ t, vs.getD i .none = .str (ts.getD i default) t)
    (h64 : ts.length < 64) (ha1 : argsOk "sorted" ⟨[.ref l], kw⟩) (ha2 : ∀ x, argsOk "list.sort" ⟨[.ref x], kw⟩) (ht : ∀ x, Builtin.«list.sort» ⟨[.ref x], kw⟩ = ksk_tree x f false) (hd : A.depth + d < recursionLimit) (hu : A.units + 2 + u < cLine)
    (hQ : ∀ (D : Addr) (out : List Value) c h' tk', out.Perm vs → (out.Pairwise fun a b => strLt (strOf b) (strOf a) = false) → Fr g L h' m → News g L h' ((D, listOf out.toArray c) :: nw) → (∀ q ∈ nw, q.1 < D) → Q (.ref D) { s with heap := h', toks := tk' }) :
    wpAny (model PR w) A (call (.builtin "sorted") [.ref l] kw) Q E s := by
  by_cases h2 : 2 ≤ ts.length
  · exact sortedK_ok H hP hPm hh hsm F X N hs hl hlen hv h2 h64 ha1 ha2 ht hd hu hQ
  refine sorted_few F N hl (by lia) ha1 ha2 ht fun D kS e1 h' F1 N1 hDk hnD => ?_
  refine keys_ok (A := A.in1.in1) H.call hP hPm hh H.mono X (by dsimp only [Around.in1]; lia) (by dsimp only [Around.in1]; lia) ts [] vs [] 0 _ ((D, seqObj "list" #[] e1) :: nw) hlen hsm hv rfl (fun i hi => absurd hi (Nat.not_lt_zero _)) F1 N1 (fun q hq => ?_) (fun q hq => .tail _ (hs q hq)) fun ks' e' h2' tk' nw' a1 a2 a3 F2 N2 hn2 => ?_
  · rcases List.mem_cons.mp hq with rfl | hq
    · exact Nat.ne_of_lt hDk
    · exact Nat.ne_of_lt (Nat.lt_trans (hnD q hq) hDk)
  refine KatFin.intro F2 N2 (.head hn2) fun h4 c F4 N4 => ?_
  refine KasFin.intro (news := (D, seqObj "list" #[] e1) :: nw) F4 (fun q hq => N4 q (.tail _ (a3 q hq))) (.head fun q hq => Nat.ne_of_lt (hnD q hq)) fun h5 c5 F5 N5 => ?_
  refine hQ D vs c5 h5 tk' (List.Perm.refl _) ?_ F5 N5 hnD
  cases vs with
  | nil => exact .nil
  | cons _ r =>
    cases r with
    | nil => exact List.pairwise_singleton _ _
    | cons _ r => simp at hlen; lia
end
section
variable {prog : Program} {w : World} {A : Around} {E : Value → Shared → Prop} {s : Shared} {a b : Addr} {xs ys : List Value} {ns ms : List Str} {Q : Value → Shared → Prop}
theorem canLayS : ∀ ns : List Str, (∀ a ∈ ns, PyData.strOk a = true) → PyData.canLayAll0 (ns.map PyData.str) = true
  | [], _ => rfl
  | a :: r, h => by simp [PyData.canLayAll0, PyData.canLay0, canLayS r fun b hb => h b (.tail _ hb), h a (.head _)]
theorem depthS : ∀ ns : List Str, PyData.depthAll (ns.map PyData.str) = 0
  | [] => rfl
  | _ :: r => by simp [PyData.depthAll, PyData.depth, depthS r]
theorem shapedS (ns : List Str) (h : ∀ a ∈ ns, PyData.strOk a = true) : SeqAt.shaped (.list (ns.map PyData.str)) = true := by
  simp [SeqAt.shaped, PyData.canLay0, PyData.depth, canLayS ns h, depthS]
theorem sameS : ∀ ns : List Str, PySem.Spec.sameAll (ns.map PyData.str) (ns.map PyData.str) = true
  | [] => by simp [PySem.Spec.sameAll]
  | a :: r => by simp [PySem.Spec.sameAll, PySem.Spec.same, sameS r]
/-- two lists of the same texts are not unequal -/
theorem ne_strs (ha : s.heap.IsList a xs.toArray) (hb : s.heap.IsList b ys.toArray) (hi : StrsAre xs ns) (hj : StrsAre ys ns) (hok : ∀ a ∈ ns, PyData.strOk a = true) (hu : A.units + 64 < cLine) (h : Q (.bool false) s) :
    wpAny (model prog w) A (compareOp .NotEq (.ref a) (.ref b)) Q E s :=
  ne_dataH_same (reads_newData ha hi.carried) (reads_newData hb hj.carried) (shapedS _ hok) (shapedS _ hok) hu (SeqAt.noMix_of_shape (.list .str) rfl _ _ (list_map_has fun _ => rfl) (list_map_has fun _ => rfl)) (by
    have e : PySem.Spec.same (.list (ns.map PyData.str)) (.list (ns.map PyData.str)) = true := by simp only [PySem.Spec.same]; exact sameS ns
    rw [e]; exact h)
theorem strs_of : ∀ {vs : List Value}, (∀ v ∈ vs, ∃ a t, v = Value.str a t) → StrsAre vs (vs.map strOf)
  | [], _ => .nil
  | v :: r, h => by
    obtain ⟨a, t, rfl⟩ := h _ (.head _)
    exact .cons _ _ (strs_of fun v hv => h v (.tail _ hv))
end
end Mine
end
section -- Cm
open PySem PySem.W PySem.W.X PyProof.Rows PyProof.V PySem.Calls
namespace Mine
/-- cmp_to_key(_strcoll) in the law's frame -/
theorem cmp_call {w : World} {p : Program} {loose : List Str} {mean : ExcName → Option Value} {mg mb : Str → Option Value} {A : Around} {s : Shared} {h₀ : Heap} {L : Addr} {m : Str → Option Value} {nw : List (Addr × Obj)} {Q E : Value → Shared → Prop}
    (F : Fr h₀ L s.heap m) (N : News h₀ L s.heap ((30, tabObj #[]) :: nw)) (off : ∀ q ∈ nw, q.1 ≠ 30) (X : (Mine.hd.heap_1 w.params).In h₀) (T : Top p loose mean mg mb h₀) (hdep : A.depth + 60 < recursionLimit) (hun : A.units + 300 < cLine)
    (hQ : ∀ C l ps h' tk', KNews w.params C l → Fr h₀ L h' m → News h₀ L h' ((30, tabObj ps) :: (l ++ nw)) → (∀ q ∈ l, q.1 ≠ 30 ∧ ∀ p ∈ nw, q.1 ≠ p.1) → Q (.ref C) { s with heap := h', toks := tk' }) :
    wpAny (model PR w) A (call (.ref 35) [.ref 21] []) Q E s := by
  have fill : Mine.hd.heap_1 = Mine.hd.heap_1 ∧ PySem.Challenge.rw_xh0039_01 = PySem.Challenge.rw_xh0039_01 := by (k_fill; exact ⟨rfl, rfl⟩)
  clear fill
  have n30 := N _ (.head _)
  have up : ∀ b o, h₀.get? b = some o → (hideAll s.heap [30]).get? b = some o := fun b o e => hideAll_get _ (F.keep b o e) fun hm => by
    rw [List.mem_singleton.mp hm, n30.2.2] at e; cases e
  have D : Me (hideAll s.heap [30]) s.heap [(30, tabObj #[])] := ⟨fun b o e => of_hideAll _ e, fun q hq => by
    rw [List.mem_singleton.mp hq]; exact ⟨n30.1, hideAll_none _ (.head _)⟩, List.pairwise_singleton _ _⟩
  obtain ⟨bm, ob, b1, b2, b3, b4, b5, b6⟩ := T.bmain
  obtain ⟨og, eg, epg, g1, g2, g3⟩ := T.g
  have bmg : bm ≠ mainGlobals := fun e => by
    rw [e, g1] at b3
    cases b3
    rw [g2] at b6; cases b6
  have hb4 : bm = 4 := by
    have z := mg_of X T.g (n := Str.ofString "__builtins__") (v := .ref 4) (by k_is)
    have e : mg (Str.ofString "__builtins__") = some (.ref bm) := b1
    rw [z] at e
    cases e; rfl
  obtain ⟨bc, bd, bdt, bs⟩ := ob
  simp only at b4 b5 b6
  subst b4 b5 b6
  have hbm' : ∃ bm o, mg "__builtins__" = some (.ref bm) ∧ bm ≠ builtinsNs ∧ bm ≠ mainGlobals ∧ (hideAll s.heap [30]).get? bm = some o ∧ o.cls = .type "module" ∧ o.dict = some builtinsNs ∧ o.data = .plain := ⟨bm, _, b1, b2, bmg, up _ _ b3, rfl, rfl, rfl⟩
  rw [hb4] at b3
  refine cmp_ok D (X.keeps up) (up _ _ b3) (T.b.keeps up) ((T.builtins _ (by decide)).trans (by decide +kernel)) ((T.builtins _ (by decide)).trans (by decide +kernel)) (T.g.keeps up) hbm' hdep hun ?_
  intro C l ps h' tk' hK Dm
  have offl : ∀ q ∈ l, q.1 ≠ 30 := fun q hq e => by
    have := Dm.nd
    rw [List.map_append, List.nodup_append] at this
    exact this.2.2 q.1 (List.mem_map.mpr ⟨q, hq, rfl⟩) 30 (.head _) e
  have up2 : ∀ b o, b ≠ 30 → s.heap.get? b = some o → h'.get? b = some o := fun b o hb e => Dm.keep b o (hideAll_get _ e fun hm => hb (List.mem_singleton.mp hm))
  have L30 : L ≠ 30 := Ne.symm n30.2.1
  refine hQ C l ps h' tk' hK ⟨F.ns.at' fun o e => up2 _ o L30 e, fun b o e => Dm.keep b o (up b o e), F.above⟩ (fun q hq => ?_) fun q hq => ⟨offl q hq, fun p hp e => ?_⟩
  · rcases List.mem_cons.mp hq with rfl | hq
    · exact ⟨(Dm.nw _ (List.mem_append_right _ (.head _))).1, n30.2⟩
    rcases List.mem_append.mp hq with hq | hq
    · have z := Dm.nw q (List.mem_append_left _ hq)
      refine ⟨z.1, fun e => ?_, ?_⟩
      · obtain ⟨o, _, _, e1, _⟩ := F.ns
        rw [e, hideAll_get _ e1 fun hm => L30 (List.mem_singleton.mp hm)] at z
        exact nomatch z.2
      · cases e : h₀.get? q.1 with
        | none => rfl
        | some o => rw [up _ _ e] at z; exact nomatch z.2
    · exact ⟨up2 _ _ (off q hq) (N q (.tail _ hq)).1, (N q (.tail _ hq)).2⟩
  · have z := (Dm.nw q (List.mem_append_left _ hq)).2
    rw [e, hideAll_get _ (N p (.tail _ hp)).1 fun hm => off p hp (List.mem_singleton.mp hm)] at z
    cases z
end Mine
end
section -- Lw
open PySem PySem.W PySem.W.X PyProof.Rows PyProof.V PySem.Calls
namespace Mine
theorem setup_Lw_1 : True := by
  w_top off
  k_with_none
  k_with "exec Assign cons ListComp" => ((k_here; refine Halt.out ?_))
  k_with "eval ListComp" => ((k_here; refine Halt.out ?_))
  k_with "CompSrc" => ((refine Halt.out ?_))
  k_with "call ref" => ((k_here; refine Halt.out ?_))
  k_with "call builtin:sorted" => ((refine Halt.out ?_))
  k_with "compareOp NotEq ref ref" => ((refine Halt.out ?_))
  k_with "call builtin:len" => ((k_here; (with_reducible show wpAny _ _ (call (Value.builtin "len") [Value.ref _]) _ _ _); k_dflt (refine' len_at ?zzk1 ?zzk2 ?zzk3 ?_; (case zzk1 => k_asm); (case zzk2 => k_mem); (case zzk3 => lia); k_whole)))
  exact True.intro
def SliceMark : Prop := True
theorem setup_Lw_2 : True := by
  k_with "subscriptTail Name Slice ref ref" => ((k_here; (have hmk : SliceMark := by assumption); clear hmk; refine Halt.out ?_))
  exact True.intro
theorem pick_take (rs : List Value) (k : Nat) (h : k ≤ rs.length) : kms_pick rs.toArray.toList none (some (k : Int)) = rs.take k := by
  show (rs.drop 0).take ((if ((k : Int) < 0) then rs.length - (-(k : Int)).toNat else min (k : Int).toNat rs.length) - 0) = _
  rw [if_neg (by lia), Int.toNat_natCast, Nat.min_eq_left h, List.drop_zero, Nat.sub_zero]
theorem setup_Lw_3 : True := by
  k_with "subscriptTail" => ((k_here; (with_reducible show wpAny _ _ (subscriptTail _ _ (Value.ref _) (Value.int _ _)) _ _ _); k_dflt (refine' item_at ?zzk1 ?zzk2 ?zzk3 ?zzk4 ?zzk5 ?_ ?zzk6; (case zzk1 => k_asm); (case zzk2 => k_mem); (case zzk3 => lia); (case zzk4 => lia); (case zzk5 => lia); (case zzk6 => with_unfolding_all rfl); k_whole)))
  exact True.intro
def LoopMark : Prop := True
theorem setup_Lw_4 : True := by
  k_with "pyIter ref" => ((k_here; (have hmk : LoopMark := by assumption); clear hmk; refine Halt.out ?_))
  k_with "exec If" => ((k_here; (have hmk : LoopMark := by assumption); clear hmk; refine Halt.out ?_))
  exact True.intro
def IfEnd (s : Shared) (b : Bool) (s' : Shared) : Prop := b = false ∧ ∃ h' tk', s' = { s with heap := h', toks := tk' } ∧ Ext s.heap h'
theorem if_false {prog : Program} {w : World} {A : Around} {s : Shared} {env : Env} {E : Value → Shared → Prop} {test : Expr} {body orelse : List Stmt} {pos : Pos} {Q : Flow → Shared → Prop} (h : wpAny (model prog w) A (isTrue test env (eval test env)) (IfEnd s) E s)
    (k : ∀ h' tk', Ext s.heap h' → wpAny (model prog w) A (execs orelse env) Q E { s with heap := h', toks := tk' }) : wpAny (model prog w) A (exec (.If test body orelse pos) env) Q E s :=
  wpAny_If (wpAny_mono h (fun b s' ⟨e, h', tk', es, ex⟩ => by subst e es; exact k h' tk' ex) fun _ _ x => x)
theorem iter_range {prog : Program} {w : World} {A : Around} {s : Shared} {E : Value → Shared → Prop} {Q : Value → Shared → Prop} {r : Addr} {a b : Int} {t u v : Tok} {n : Nat} (hr : IsRange s.heap r a b 1 t u v) (hsm : Builtin.Range.small a b 1 = true) (hn : Builtin.Range.rangeSize a b 1 = ((n : Nat) : Int))
    (h : ∀ it h', Ext s.heap h' → IsRangeIter h' it a (n : Int) 1 → s.heap.get? it = none → Q (.ref it) { s with heap := h' }) : wpAny (model prog w) A (pyIter (.ref r)) Q E s := by
  refine wpAny_pyIter_range hr hsm ?_
  rw [hn]
  refine h _ _ (fun b o e => Heap.get?_push_of_some _ e) (Heap.get?_push_size _ rfl) ?_
  cases e : s.heap.get? s.heap.objs.size with
  | none => rfl
  | some o => exact absurd (Heap.lt_size e) (Nat.lt_irrefl _)
theorem News.sub {h₀ h : Heap} {L : Addr} {n n' : List (Addr × Obj)} (N : News h₀ L h n) (s : ∀ q ∈ n', q ∈ n) : News h₀ L h n' := fun q hq => N q (s q hq)
theorem coll_le {a b : Str} (h : collI a b ≤ 0) : strLt b a = false := by rw [← collI_gt]; exact decide_eq_false (by lia)
theorem coll_tr {a b c : Str} (h1 : collI a b ≤ 0) (h2 : collI b c ≤ 0) : ¬ 0 < collI a c := fun h3 => by
  have z := strLt_tot.tr a b c (coll_le h1) (coll_le h2)
  rw [← collI_gt] at z
  exact absurd h3 (of_decide_eq_false z)
theorem coll_isnt {a b : Str} (h : ((collI a b == 0) != (a == b)) = true) : False := by
  rw [collI_eq, show (a == b) = decide (a = b) from rfl] at h
  simp at h
theorem list_lt_at {w : World} {A : Around} {E : Value → Shared → Prop} {s : Shared} {l b : Addr} {vs us : List Value} {x y : Str} {n n2 : Nat} {Q : Value → Shared → Prop} (hx : IntsAre vs (natInts x)) (hy : IntsAre us (natInts y))
    (hl : s.heap.get? l = some (W.listOf vs.toArray n)) (hb : s.heap.get? b = some (W.listOf us.toArray n2)) (hu : A.units + 1 < cLine) (h : Q (.bool (strLt x y)) s) :
    wpAny (model PR w) A (richCompare .Lt (.ref l) (.ref b)) Q E s :=
  wpAny_richCompare_same_room (T := "list") ⟨_, hl, rfl⟩ ⟨_, hb, rfl⟩ PySem.F.slot_list_lt (call_list_lt hx hy hl hb (by
    have e : ltL (natInts x) (natInts y) = strLt x y := ltL_nat _ _
    rw [e]; exact ⟨(by intro c; cases c), h⟩)) (Nat.lt_of_succ_lt hu)
theorem coll_sum (a b : Str) : collI a b + collI b a = 0 := by unfold collI; lia
theorem rev_more (rs : List Value) {i : Nat} (h : i < rs.length) : rs.reverse.take (i + 1) = rs.reverse.take i ++ [rs.getD ((rs.length : Int) - 1 - (0 + (i : Int))).toNat .none] := by
  rw [show ((rs.length : Int) - 1 - (0 + (i : Int))).toNat = rs.length - 1 - i by lia, List.take_add_one, List.getElem?_reverse h, List.getD_eq_getElem?_getD, List.getElem?_eq_getElem (by lia)]; rfl
theorem ints_mem {vs : List Value} {ns : List Int} (h : IntsAre vs ns) : ∀ v ∈ vs, ∃ z t, v = Value.int z t := by
  induction h with
  | nil => intro v hv; nomatch hv
  | cons =>
    rename_i ih
    intro v hv
    rcases List.mem_cons.mp hv with rfl | hv
    · exact ⟨_, _, rfl⟩
    · exact ih v hv
theorem dlaw {env : Env} {k : Nat} (hk : k ≤ 200) : (callerA.deeper env).depth + k < recursionLimit :=
  Nat.lt_of_le_of_lt (Nat.add_le_add_left hk _) (by show 1 + claimMargin + 1 + 200 < recursionLimit; decide +kernel)
theorem ulaw {env : Env} {k : Nat} (hk : k ≤ 1000) : (callerA.deeper env).units + k < cLine :=
  Nat.lt_of_le_of_lt (Nat.add_le_add_left hk _) (by show 4 + 3 + 1000 < cLine; decide +kernel)
section
variable {prog : Program} {w : World} {A : Around} {s : Shared} {h₀ : Heap} {L : Addr} {m : Str → Option Value} {env : Env}
theorem rest_goN {elt : Expr} {x : Str} {scope : Scope} {cl : List (Str × Addr)} {S : List (Addr × Obj) → Prop} {P : Nat → Value → Prop} {Fin : List Value → List (Addr × Obj) → Prop} (J : Nat → List Value → List (Addr × Obj) → Prop) (n : Nat)
    (turn : ∀ i ys k news, i < n → J i ys news → (∀ y news', J (i + 1) (ys ++ [y]) news' → LCg.CompRest prog w A h₀ L m env elt x scope cl s S P Fin k (i + 1) (ys ++ [y]) news') → LCg.CompRest prog w A h₀ L m env elt x scope cl s S P Fin (k + 1) i ys news)
    (fin : ∀ ys news, J n ys news → Fin ys news) : ∀ k i ys news, i + k = n → J i ys news → LCg.CompRest prog w A h₀ L m env elt x scope cl s S P Fin k i ys news
  | 0, i, ys, news, e, j => fin ys news (by rw [← e]; exact j)
  | k + 1, i, ys, news, e, j => turn i ys k news (by lia) j fun y news' j' => rest_goN J n turn fin k (i + 1) _ _ (by lia) j'
end
theorem off1_all {H : Addr} : ∀ {l : List (Addr × Obj)}, LCg.Off1 H l → ∀ q ∈ l, q.1 ≠ H
  | [], _ => fun _ hq => nomatch hq
  | p :: r, h => fun q hq => by
    rcases List.mem_cons.mp hq with rfl | hq
    · exact h.1
    · exact off1_all h.2 q hq
theorem law_holds : PySem.Challenge.rw_xh0039_01.Holds := by
  refine Mine.hd ?_
  k_go0
  all_goals (try k_fold)
  with_reducible rename Below _ _ _ _ => B0
  with_reducible rename Fr _ _ _ _ => F0
  with_reducible rename News _ _ _ _ => N0
  with_reducible rename Top _ _ _ _ _ _ => T0
  with_reducible rename IntsAre _ _ => hInts
  with_reducible rename Heap.IsList _ _ _ => hScript
  rename Shared => s1
  rename World => w
  k_steps
  refine ⟨?_⟩
  refine LCg.Assign_ListComp_U (cl := []) F0 ?a1 ?a2 ?a3 ?a4 ?a5 ?a6 ?a7 ?a8 ?a9 ?_ ?a10
  case a1 => exact rfl
  case a2 => with_unfolding_all rfl
  case a3 => with_unfolding_all rfl
  case a4 => decide
  case a5 => exact rfl
  case a6 => decide
  case a7 => exact rfl
  case a8 => exact rfl
  case a9 => exact rfl
  case a10 => intro _; rfl
  k_steps
  refine ⟨?_⟩
  with_reducible rename Fr _ _ _ _ => F1
  with_reducible rename News _ _ _ _ => N1
  with_reducible rename IntsAre _ _ => hI1
  rename List Value => ws
  have X0 : (Mine.hd.heap_1 w.params).In (ghostOf s1.heap [(34, 30)]) := by assumption
  refine .ledger rfl F1 N1 (.head _) ?_ (fun g => ?_)
  · rw [List.size_toArray, hI1.length, sizeLine_eq]; lia
  refine rest_go (J := fun i ys => ys.length = i ∧ ∀ y ∈ ys, ∃ a t, y = .str a t ∧ a.cps.size ≤ 100 ∧ PyData.strOk a = true) ws.toArray.size (fun i ys k hi hJ next => ?_) (fun ys hJ => ?_) _ 0 [] (by lia) ⟨rfl, fun _ hy => nomatch hy⟩
  · intro v' I oI C oC D m₂ h tk E' hP hno hmx F2 N2 off ne
    have hv : ∃ z t, v' = .int z t := by
      have hm : v' ∈ _ := Array.mem_of_getElem? hP
      exact ints_mem hI1 v' (by simpa using hm)
    obtain ⟨z, t, rfl⟩ := hv
    k_steps
    refine ⟨?_⟩
    refine lawtext_ok B0 F2 X0 N2 T0 rfl (by decide +kernel) (by decide +kernel) ?_
    intro a ta h' tk' F3 N3 ha hok
    clear F2 N2
    k_steps
    refine LCg.CompEnd.intro F3 N3 _ (fun _ hq => hq) off (.inr ⟨_, .head _, rfl, _, rfl⟩) (next _ ⟨by simp [hJ.1], fun y hy => ?_⟩)
    rcases List.mem_append.mp hy with hy | hy
    · exact hJ.2 y hy
    · exact ⟨a, ta, List.mem_singleton.mp hy, ha, hok⟩
  obtain ⟨hn, hstr⟩ := hJ
  intro D h tk F2 N2 off
  clear F1 N1
  k_steps
  refine ⟨?_⟩
  have hn20 : ys.length ≤ 20 := by
    rw [hn, List.size_toArray, hI1.length]; lia
  generalize hg0 : ghostOf s1.heap [(34, 30)] = g0 at *
  generalize hL0 : s1.heap.objs.size = L0 at *
  rename (_ = Data.cell _) => dR
  have kR := Halt.mk dR
  clear dR
  rename (_ = Data.cell _) => dH
  have kH := Halt.mk dH
  clear dH
  rename 30 < L0 => l30
  have mv1 : ∀ {α : Type} {a b c d e : α} {q : α}, q ∈ [e, a, c, d] → q ∈ [a, b, c, d, e] := fun h => by
    simp only [List.mem_cons, List.not_mem_nil, or_false] at h ⊢
    rcases h with h | h | h | h <;> simp [h]
  have N3 := (fun q hq => N2 q (mv1 hq) : News g0 L0 h [(30, tabObj #[]), (D, LCg.lst ys), (L0 + 1 + 1, _), (L0 + 1, _)])
  refine cmp_call F2 N3 (fun q hq => ?_) X0 T0 (dlaw (by decide)) (ulaw (by decide)) ?_
  · simp only [List.mem_cons, List.not_mem_nil, or_false] at hq
    rcases hq with rfl | rfl | rfl
    · exact Ne.symm off.2.2.2.1
    · show @Ne Nat _ _; dsimp only; lia
    · show @Ne Nat _ _; dsimp only; lia
  intro C l0 ps h4 tk4 hK F4 N4' offl
  obtain ⟨nd0, bt0, t0, u0, hCn⟩ := knews_cls hK
  have N4 : News g0 L0 h4 ((D, W.listOf ys.toArray ys.length) :: (L0 + 1 + 1, _) :: (L0 + 1, _) :: (30, tabObj ps) :: l0) := fun q hq => N4' q (by
    rcases List.mem_cons.mp hq with rfl | hq
    · exact .tail _ (List.mem_append_right _ (.head _))
    rcases List.mem_cons.mp hq with rfl | hq
    · exact .tail _ (List.mem_append_right _ (.tail _ (.head _)))
    rcases List.mem_cons.mp hq with rfl | hq
    · exact .tail _ (List.mem_append_right _ (.tail _ (.tail _ (.head _))))
    rcases List.mem_cons.mp hq with rfl | hq
    · exact .head _
    · exact .tail _ (List.mem_append_left _ hq))
  clear F2 N2 N3 N4'
  k_steps
  refine ⟨?_⟩
  have hsmall : ∀ a ∈ ys.map strOf, a.cps.size ≤ 100 := fun a ha => by
    obtain ⟨y, hy, rfl⟩ := List.mem_map.mp ha
    obtain ⟨b, t, rfl, hb, _⟩ := hstr y hy
    exact hb
  have hokS : ∀ a ∈ ys.map strOf, PyData.strOk a = true := fun a ha => by
    obtain ⟨y, hy, rfl⟩ := List.mem_map.mp ha
    obtain ⟨b, t, rfl, _, hb⟩ := hstr y hy
    exact hb
  have hys : ∀ v ∈ ys, ∃ a t, v = Value.str a t := fun v hv => by
    obtain ⟨b, t, e, _⟩ := hstr v hv
    exact ⟨b, t, e⟩
  have hgd : ∀ i, i < (ys.map strOf).length → ∃ t, ys.getD i .none = .str ((ys.map strOf).getD i default) t := fun i hi => by
    have hi' : i < ys.length := by simpa using hi
    obtain ⟨b, t, e⟩ := hys _ (List.getElem_mem hi')
    refine ⟨t, ?_⟩
    rw [gD_lt hi', List.getD_eq_getElem?_getD, List.getElem?_eq_getElem hi, Option.getD_some, List.getElem_map, e]; rfl
  have hlen : (ys.map strOf).length = ys.length := by simp
  have kwf : ∀ (f : Value) (x : Addr), Builtin.«list.sort» ⟨[.ref x], [(Str.ofString "key", f)]⟩ = Builtin.«list.sort» ⟨[.ref x], [(Str.ofString "key", f)]⟩ := fun _ _ => rfl
  with_reducible rename Fr _ _ _ _ => F5
  with_reducible rename News _ _ _ _ => N5
  refine sortedA_ok keyFn_N T0 (fun _ _ e T => T.keeps e) rfl hsmall F5 X0 N5 (fun _ hq => nomatch hq) ⟨_, (N5 _ (.head _)).1, rfl, _, rfl⟩ hlen.symm hgd (by lia) (ksk_s1 _ _) (fun x => ksk_l1 _ _) (fun x => ksk_t1 _ _) (dlaw (by decide)) (ulaw (by decide)) ?_
  intro R rs cR h6 tk6 rp rso F6 N6 ltR
  clear F5 N5
  k_steps
  have offC : ∀ q ∈ [(D, LCg.lst ys)], q.1 ≠ L0 + 1 + 1 ∧ q.1 ≠ L0 + 1 ∧ q.1 ≠ 30 := fun q hq => by
    rw [List.mem_singleton.mp hq]; exact ⟨Ne.symm off.2.1, Ne.symm off.2.2.1, Ne.symm off.2.2.2.1⟩
  have RL : R ≠ L0 + 1 + 1 ∧ R ≠ L0 + 1 ∧ R ≠ 30 ∧ R ≠ D := ⟨Ne.symm (Nat.ne_of_lt (ltR _ (.tail _ (.head _)))), Ne.symm (Nat.ne_of_lt (ltR _ (.tail _ (.tail _ (.head _))))), Ne.symm (Nat.ne_of_lt (ltR _ (.tail _ (.tail _ (.tail _ (.head _)))))), Ne.symm (Nat.ne_of_lt (ltR _ (.head _)))⟩
  refine storeX_C F6 N6 rfl (.tail RL.2.1 (.tail (Ne.symm off.2.2.1) (.tail (by show @Ne Nat _ _; dsimp only; lia) (.head fun q hq => ?_)))) kR.out ?_ rfl rfl
  · rcases List.mem_cons.mp hq with rfl | hq
    · show @Ne Nat _ _; dsimp only; lia
    · exact (offl q hq).2 _ (.tail _ (.tail _ (.head _)))
  intro h7 oR F7 N7 dR'
  clear F6 N6
  k_steps
  refine ⟨?_⟩
  have memL : ∀ (x y z u v : Addr × Obj) (q : Addr × Obj), q ∈ l0 → q ∈ x :: y :: z :: u :: v :: l0 := fun _ _ _ _ _ q hq => .tail _ (.tail _ (.tail _ (.tail _ (.tail _ hq))))
  have hrs : ∀ v ∈ rs, ∃ a t, v = Value.str a t := fun v hv => hys v (rp.mem_iff.mp hv)
  have hokR : ∀ a ∈ rs.map strOf, PyData.strOk a = true := fun a ha => hokS a ((rp.map strOf).mem_iff.mp ha)
  have same : ∀ out : List Value, (out.map strOf).Perm (ys.map strOf) → (∀ v ∈ out, ∃ a t, v = Value.str a t) → (out.Pairwise fun a b => strLt (strOf b) (strOf a) = false) → StrsAre out (rs.map strOf) := fun out hp hs ho => by
    have e : out.map strOf = rs.map strOf := sorted_unique strLt_tot (hp.trans (rp.map strOf).symm) (List.pairwise_map.mpr ho) (List.pairwise_map.mpr rso)
    rw [← e]
    exact strs_of hs
  have same' : ∀ out : List Value, out.Perm ys → (out.Pairwise fun a b => strLt (strOf b) (strOf a) = false) → StrsAre out (rs.map strOf) := fun out hp ho => same out (hp.map strOf) (fun v hv => hys v (hp.mem_iff.mp hv)) ho
  refine sortedA_ok (keyFn_K hK fun q hq => hq) trivial (fun _ _ _ h => h) rfl hsmall F7 X0 N7 (memL _ _ _ _ _) ⟨_, (N7 _ (.tail _ (.head _))).1, rfl, _, rfl⟩ hlen.symm hgd (by lia) (ksk_s1 _ _) (fun x => ksk_l1 _ _) (fun x => ksk_t1 _ _) (dlaw (by decide)) (ulaw (by decide)) ?_
  intro R2 rs2 c2 h8 tk8 rp2 rso2 F8 N8 ltR2
  clear F7 N7
  k_steps
  refine ⟨?_⟩
  refine ne_strs ⟨_, (N8 _ (.head _)).1, rfl, _, rfl⟩ ⟨_, (N8 _ (.tail _ (.head _))).1, rfl, _, rfl⟩ (same' _ rp2 rso2) (same' _ rp rso) hokR (ulaw (by decide)) ?_
  k_steps
  refine ⟨?_⟩
  refine sortedA_ok keyFn_S trivial (fun _ _ _ h => h) rfl hsmall F8 X0 N8 (fun _ hq => nomatch hq) ⟨_, (N8 _ (.tail _ (.tail _ (.head _)))).1, rfl, _, rfl⟩ hlen.symm hgd (by lia) (ksk_s1 _ _) (fun x => ksk_l1 _ _) (fun x => ksk_t1 _ _) (dlaw (by decide)) (ulaw (by decide)) ?_
  intro R3 rs3 c3 h9 tk9 rp3 rso3 F9 N9 ltR3
  clear F8 N8
  k_steps
  refine ⟨?_⟩
  refine ne_strs ⟨_, (N9 _ (.head _)).1, rfl, _, rfl⟩ ⟨_, (N9 _ (.tail _ (.tail _ (.head _)))).1, rfl, _, rfl⟩ (same' _ rp3 rso3) (same' _ rp rso) hokR (ulaw (by decide)) ?_
  have N10 := (fun q hq => N9 q (.tail _ (.tail _ hq)) : News g0 L0 h9 ((R, W.listOf rs.toArray cR) :: (D, W.listOf ys.toArray ys.length) :: (L0 + 1 + 1, _) :: (L0 + 1, oR) :: (30, tabObj ps) :: l0))
  clear N9
  k_steps
  refine ⟨?_⟩
  refine wpAny_Assign_Name ?_
  k_steps
  refine ⟨?_⟩
  refine LCg.ListComp_U (cl := []) F9 (by with_unfolding_all rfl) (by decide) rfl (by decide) rfl ?_
  k_steps
  refine ⟨?_⟩
  refine .ledger rfl F9 N10 (.tail _ (.head _)) (by rw [List.size_toArray, sizeLine_eq]; lia) (fun g => ?_)
  refine rest_go (J := fun i hs => hs.length = i ∧ (∀ v ∈ hs, ∃ a t, v = Value.str a t) ∧ hs.map strOf = (ys.map strOf).take i) ys.toArray.size (fun i hs k hi hJ next => ?_) (fun hs hJ => ?_) _ 0 [] (by lia) ⟨rfl, (fun _ hy => nomatch hy), rfl⟩
  · intro v' I oI Cc oC Dd m₂ h tk E' hP hno hmx F11 N11 offI ne
    obtain ⟨a, t, rfl⟩ := hys v' (by simpa using Array.mem_of_getElem? hP)
    k_steps
    refine ⟨?_⟩
    refine strxfrm_ok (X0.keeps F11.keep) (Me.start _) (dlaw (by decide)) (ulaw (by decide)) ?_
    intro f o h' tk' Dm
    have F12 := Fr.ext F11 Dm.keep
    have N12 := News.ext N11 Dm.keep
    clear F11 N11
    k_steps
    refine LCg.CompEnd.intro F12 N12 _ (fun _ hq => hq) offI (.inr ⟨_, .tail _ (.head _), rfl, _, rfl⟩) (next _ ⟨by simp [hJ.1], fun y hy => ?_, ?_⟩)
    · rcases List.mem_append.mp hy with hy | hy
      · exact hJ.2.1 y hy
      · exact ⟨a, t, List.mem_singleton.mp hy⟩
    · rw [take_more hP, List.map_append, hJ.2.2]; rfl
  obtain ⟨hlH, hsH, hmH⟩ := hJ
  intro H h11 tk11 F11 N11 offH
  clear F9 N10
  k_steps
  refine storeX_C F11 N11 rfl (.tail (Ne.symm offH.2.2.1) (.tail RL.1 (.tail (Ne.symm off.2.1) (.head fun q hq => ?_)))) kH.out ?_ rfl rfl
  · rcases List.mem_cons.mp hq with rfl | hq
    · show @Ne Nat _ _; dsimp only; lia
    rcases List.mem_cons.mp hq with rfl | hq
    · show @Ne Nat _ _; dsimp only; lia
    · exact (offl q hq).2 _ (.tail _ (.head _))
  intro h12 oH F12 N12 dH'
  clear F11 N11
  k_steps
  refine ⟨?_⟩
  have offT : ∀ q ∈ (R, W.listOf rs.toArray cR) :: (D, W.listOf ys.toArray ys.length) :: (L0 + 1 + 1, oH) :: (L0 + 1, oR) :: (30, tabObj ps) :: l0, q.1 ≠ H := by
    obtain ⟨a1, a2, a3, a4, a5, a6⟩ := offH
    intro q hq
    rcases List.mem_cons.mp hq with rfl | hq
    · exact a1
    rcases List.mem_cons.mp hq with rfl | hq
    · exact a2
    rcases List.mem_cons.mp hq with rfl | hq
    · exact a3
    rcases List.mem_cons.mp hq with rfl | hq
    · exact a4
    rcases List.mem_cons.mp hq with rfl | hq
    · exact a5
    exact off1_all a6 q hq
  -- MARK1
  have hHl : hs.length = ys.length := by rw [hlH, List.size_toArray]
  have N12' : News g0 L0 h12 ((H, W.listOf hs.toArray hs.length) :: (R, W.listOf rs.toArray cR) :: (D, W.listOf ys.toArray ys.length) :: (L0 + 1 + 1, oH) :: (L0 + 1, oR) :: (30, tabObj ps) :: l0) := N12
  -- MARK2
  clear N12
  generalize hnwT : (R, W.listOf rs.toArray cR) :: (D, W.listOf ys.toArray ys.length) :: (L0 + 1 + 1, oH) :: (L0 + 1, oR) :: (30, tabObj ps) :: l0 = nwT at offT N12'
  have hLt : LtOk w nwT (fun v => ∃ a t, v = Value.str a t) (fun x y => strLt (strOf x) (strOf y)) 0 0 := ltOk_str.mono fun _ hq => nomatch hq
  refine heapify_ok (l := H) (vs := hs) (n := hs.length) hLt B0 F12 X0 N12' offT T0 rfl hsH (by lia) (by decide +kernel) (by decide +kernel) ?_
  intro h13 tk13 F13 N13
  clear F12 N12'
  obtain ⟨hf0, hp0⟩ := heapify_heap (strLt_tot.wk strOf) hs
  generalize heapifyV (fun x y => strLt (strOf x) (strOf y)) hs = hp at hf0 hp0 N13
  have hpl : hp.length = ys.length := hp0.length_eq.trans hHl
  obtain ⟨tp, tso⟩ := popsV_spec (strLt_tot.wk strOf) ys.length hp hpl hf0
  subst hnwT
  -- MARK3
  k_steps
  refine ⟨?_⟩
  refine LCg.ListComp_U (cl := [(Str.ofString "heap", L0 + 1 + 1)]) F13 (by with_unfolding_all rfl) (by decide) rfl (by decide) rfl ?_
  k_steps
  refine ⟨?_⟩
  -- MARK4
  refine .ledger rfl F13 N13 (.tail _ (.tail _ (.head _))) (by rw [List.size_toArray, sizeLine_eq]; lia) (fun g => ?_)
  refine rest_goN (J := fun i zs nw => ∃ hq c', nw = (H, W.listOf hq.toArray c') :: (R, W.listOf rs.toArray cR) :: (D, W.listOf ys.toArray ys.length) :: (L0 + 1 + 1, oH) :: (L0 + 1, oR) :: (30, tabObj ps) :: l0 ∧ hq.length + i = ys.length ∧ HeapF (fun x y => strLt (strOf x) (strOf y)) 0 hq ∧ (∀ v ∈ hq, ∃ a t, v = Value.str a t) ∧ zs ++ popsV (fun x y => strLt (strOf x) (strOf y)) (ys.length - i) hq = popsV (fun x y => strLt (strOf x) (strOf y)) ys.length hp) ys.toArray.size (fun i zs k nw hi hJ next => ?_) (fun zs nw hJ => ?_) _ 0 [] _ (by lia) ⟨hp, _, rfl, by lia, hf0, fun v hv => hsH v (hp0.mem_iff.mp hv), by simp⟩
  · obtain ⟨hq, c', rfl, hql, hqf, hqs, hqe⟩ := hJ
    intro v' I oI Cc oC Dd m₂ h tk E' hP hno hmx F14 N14 offI ne
    obtain ⟨a, t, rfl⟩ := hys v' (by simpa using Array.mem_of_getElem? hP)
    k_steps
    refine ⟨?_⟩
    generalize hnwT : (R, W.listOf rs.toArray cR) :: (D, W.listOf ys.toArray ys.length) :: (L0 + 1 + 1, oH) :: (L0 + 1, oR) :: (30, tabObj ps) :: l0 = nwT at offT N14
    have hLt' : LtOk w ((I, oI) :: (Cc, oC) :: (Dd, LCg.lst zs) :: nwT) (fun v => ∃ a t, v = Value.str a t) (fun x y => strLt (strOf x) (strOf y)) 0 0 := ltOk_str.mono fun _ hq => nomatch hq
    have hne : hq ≠ [] := fun e => by
      rw [e] at hql; rw [List.size_toArray] at hi; simp at hql; lia
    have offP : ∀ q ∈ (I, oI) :: (Cc, oC) :: (Dd, LCg.lst zs) :: nwT, q.1 ≠ H := by
      intro q hq
      rcases List.mem_cons.mp hq with rfl | hq
      · exact fun e => (LCg.Off3.mem offI (H, _) (.head _)).1 e.symm
      rcases List.mem_cons.mp hq with rfl | hq
      · exact fun e => (LCg.Off3.mem offI (H, _) (.head _)).2.1 e.symm
      rcases List.mem_cons.mp hq with rfl | hq
      · exact fun e => (LCg.Off3.mem offI (H, _) (.head _)).2.2 e.symm
      · exact offT q hq
    have NP : News g0 L0 h ((H, W.listOf hq.toArray c') :: (I, oI) :: (Cc, oC) :: (Dd, LCg.lst zs) :: nwT) := fun q hq => N14 q (by
      rcases List.mem_cons.mp hq with rfl | hq
      · exact .tail _ (.tail _ (.tail _ (.head _)))
      rcases List.mem_cons.mp hq with rfl | hq
      · exact .head _
      rcases List.mem_cons.mp hq with rfl | hq
      · exact .tail _ (.head _)
      rcases List.mem_cons.mp hq with rfl | hq
      · exact .tail _ (.tail _ (.head _))
      · exact .tail _ (.tail _ (.tail _ (.tail _ hq))))
    refine heappop_ok (l := H) (vs := hq) (n := c') hLt' B0 F14 X0 NP offP T0 rfl hqs (by lia) (by decide +kernel) (by decide +kernel) hne ?_
    intro h15 tk15 c'' F15 N15'
    have N15 : News g0 L0 h15 ((I, oI) :: (Cc, oC) :: (Dd, LCg.lst zs) :: (H, W.listOf (popV (fun x y => strLt (strOf x) (strOf y)) hq).2.toArray c'') :: nwT) := fun q hq => N15' q (by
      rcases List.mem_cons.mp hq with rfl | hq
      · exact .tail _ (.head _)
      rcases List.mem_cons.mp hq with rfl | hq
      · exact .tail _ (.tail _ (.head _))
      rcases List.mem_cons.mp hq with rfl | hq
      · exact .tail _ (.tail _ (.tail _ (.head _)))
      rcases List.mem_cons.mp hq with rfl | hq
      · exact .head _
      · exact .tail _ (.tail _ (.tail _ (.tail _ hq))))
    clear F14 N14 NP N15'
    subst hnwT
    obtain ⟨pf, pp, _⟩ := popV_spec (strLt_tot.wk strOf) hne hqf
    have hpos : 0 < hq.length := List.length_pos_iff.mpr hne
    have hpl' := pp.length_eq
    rw [List.length_cons] at hpl'
    have em : ys.length - i = (ys.length - (i + 1)) + 1 := by rw [List.size_toArray] at hi; lia
    rw [em] at hqe
    have hqe' : zs ++ ((popV (fun x y => strLt (strOf x) (strOf y)) hq).1 :: popsV (fun x y => strLt (strOf x) (strOf y)) (ys.length - (i + 1)) (popV (fun x y => strLt (strOf x) (strOf y)) hq).2) = _ := hqe
    generalize popV (fun x y => strLt (strOf x) (strOf y)) hq = pq at pf pp hpl' hqe' N15
    obtain ⟨v1, q2⟩ := pq
    dsimp only at hpl'
    k_steps
    refine LCg.CompEnd.intro F15 N15 _ (fun _ hq => hq) (show LCg.Off3 I Cc Dd ((H, W.listOf q2.toArray c'') :: _) from ⟨offI.1, offI.2⟩) (.inr ⟨_, .tail _ (.tail _ (.head _)), rfl, _, rfl⟩) (next _ _ ⟨q2, c'', rfl, by lia, pf, fun v hv => hqs v (pp.mem_iff.mp (.tail _ hv)), ?_⟩)
    rw [← hqe', List.append_assoc]; rfl
  obtain ⟨hq, c', rfl, hql, hqf, hqs, hqe⟩ := hJ
  intro Z h14 tk14 F14 N14 offZ
  clear F13 N13
  k_steps
  refine ⟨?_⟩
  have hzs : zs = popsV (fun x y => strLt (strOf x) (strOf y)) ys.length hp := by
    rw [← hqe, List.size_toArray, Nat.sub_self]; exact (List.append_nil _).symm
  have hzp : (zs.map strOf).Perm (ys.map strOf) := by
    rw [hzs]
    exact ((tp.trans hp0).map strOf).trans (by rw [hmH, List.size_toArray, ← hlen, List.take_length])
  have hzst : ∀ v ∈ zs, ∃ a t, v = Value.str a t := fun v hv => by
    rw [hzs] at hv
    exact hsH v ((tp.trans hp0).mem_iff.mp hv)
  refine ne_strs ⟨_, (N14 _ (.head _)).1, rfl, _, rfl⟩ ⟨_, (N14 _ (.tail _ (.tail _ (.head _)))).1, rfl, _, rfl⟩ (same _ hzp hzst (by rw [hzs]; exact tso)) (same' _ rp rso) hokR (ulaw (by decide)) ?_
  have N16 := (fun q hq => N14 q (.tail _ (.tail _ hq)) : News g0 L0 h14 ((R, W.listOf rs.toArray cR) :: (D, W.listOf ys.toArray ys.length) :: (L0 + 1 + 1, oH) :: (L0 + 1, oR) :: (30, tabObj ps) :: l0))
  clear N14 hqe tp tso hzs hzp hzst hqf hqs hql hf0 hp0 hpl hLt
  have ed : (ys.length : Int).fdiv 2 = ((ys.length / 2 : Nat) : Int) := by
    rw [Int.fdiv_eq_ediv_of_nonneg _ (by decide)]; lia
  k_steps
  refine ⟨?_⟩
  -- MARK5
  with_reducible rename Fr _ _ _ _ => F17
  with_reducible rename News _ _ _ _ => N17
  rw [ed] at F17 ⊢
  have mvD : ∀ {q : Addr × Obj}, q ∈ (D, W.listOf ys.toArray ys.length) :: (R, W.listOf rs.toArray cR) :: (L0 + 1 + 1, oH) :: (L0 + 1, oR) :: (30, tabObj ps) :: l0 → q ∈ (R, W.listOf rs.toArray cR) :: (D, W.listOf ys.toArray ys.length) :: (L0 + 1 + 1, oH) :: (L0 + 1, oR) :: (30, tabObj ps) :: l0 := fun hq => by
    rcases List.mem_cons.mp hq with rfl | hq
    · exact .tail _ (.head _)
    rcases List.mem_cons.mp hq with rfl | hq
    · exact .head _
    · exact .tail _ (.tail _ hq)
  have N18 : News g0 L0 _ ((D, W.listOf ys.toArray ys.length) :: (R, W.listOf rs.toArray cR) :: (L0 + 1 + 1, oH) :: (L0 + 1, oR) :: (30, tabObj ps) :: l0) := fun q hq => N17 q (mvD hq)
  have offD : ∀ q ∈ (R, W.listOf rs.toArray cR) :: (L0 + 1 + 1, oH) :: (L0 + 1, oR) :: (30, tabObj ps) :: l0, q.1 ≠ D := fun q hq => by
    rcases List.mem_cons.mp hq with rfl | hq
    · exact RL.2.2.2
    rcases List.mem_cons.mp hq with rfl | hq
    · exact off.2.1
    rcases List.mem_cons.mp hq with rfl | hq
    · exact off.2.2.1
    rcases List.mem_cons.mp hq with rfl | hq
    · exact off.2.2.2.1
    · exact (offl q hq).2 _ (.head _)
  have rowP : (rs.map strOf).Perm (ys.map strOf) := rp.map strOf
  have rowS : (rs.map strOf).Pairwise fun a b => strLt b a = false := List.pairwise_map.mpr rso
  clear N17
  refine nsmallest_ok (l := D) (vs := ys) (n := ys.length) (k := ys.length / 2) (row := rs.map strOf) hK (fun q hq => .tail _ (.tail _ (.tail _ (.tail _ hq)))) B0 F17 X0 N18 offD T0 rfl (by lia) (by lia) hys rowP rowS (by decide +kernel) (by decide +kernel) ?_
  intro D2 zs2 cz2 h18 tk18 F18 N19 hzs2 hze2
  clear F17 N18
  -- MARK6
  have smark : SliceMark := trivial
  k_steps
  refine ⟨?_⟩
  clear smark
  with_reducible rename Fr _ _ _ _ => F20
  with_reducible rename News _ _ _ _ => N20
  refine kms_slice_lit (its := rs.toArray) (zs := rs.take (ys.length / 2)) F20 N20 ⟨_, (N20 _ (.tail _ (.tail _ (.head _)))).1, rfl, _, rfl⟩ IsPart.none (IsPart.int _ _) (pick_take rs _ (by rw [rp.length_eq]; lia)) ?_ ?hs ?ht (by rw [List.size_toArray, sizeLine_eq, rp.length_eq]; lia)
  case hs => with_unfolding_all rfl
  case ht => kmk_pure
  intro D3 h20 F21 N21 ltD3
  clear F20 N20
  -- MARK7
  k_steps
  refine ⟨?_⟩
  have tk1 : StrsAre zs2 ((rs.map strOf).take (ys.length / 2)) := hze2 ▸ strs_of hzs2
  have tk2 : StrsAre (rs.take (ys.length / 2)) ((rs.map strOf).take (ys.length / 2)) := List.map_take ▸ strs_of fun v hv => hrs v (List.mem_of_mem_take hv)
  refine ne_strs ⟨_, (N21 _ (.tail _ (.head _))).1, rfl, _, rfl⟩ ⟨_, (N21 _ (.head _)).1, rfl, _, rfl⟩ tk1 tk2 (fun a ha => hokR a (List.mem_of_mem_take ha)) (ulaw (by decide)) ?_
  have N22 := (fun q hq => N21 q (.tail _ (.tail _ hq)) : News g0 L0 h20 ((D, W.listOf ys.toArray ys.length) :: (R, W.listOf rs.toArray cR) :: (L0 + 1 + 1, oH) :: (L0 + 1, oR) :: (30, tabObj ps) :: l0))
  clear N21 tk1 tk2 hzs2 hze2 ltD3
  k_steps
  refine ⟨?_⟩
  -- MARK8
  have rvP : (rs.map strOf).reverse.Perm (ys.map strOf) := (List.reverse_perm _).trans rowP
  have rvS : (rs.map strOf).reverse.Pairwise fun a b => strLt a b = false := List.pairwise_reverse.mpr rowS
  refine nlargest_ok (l := D) (vs := ys) (n := ys.length) (k := ys.length / 2) (row := (rs.map strOf).reverse) hK (fun q hq => .tail _ (.tail _ (.tail _ (.tail _ hq)))) B0 F21 X0 N22 offD T0 rfl (by lia) (by lia) hys rvP rvS (by decide +kernel) (by decide +kernel) ?_
  intro D4 zs4 cz4 h22 tk22 F23 N23 hzs4 hze4
  clear F21 N22
  -- MARK9
  k_steps
  refine ⟨?_⟩
  have hrl : rs.length = ys.length := rp.length_eq
  refine LCg.ListComp_U (cl := [(Str.ofString "row", L0 + 1)]) F23 (by with_unfolding_all rfl) (by decide) rfl (by decide) rfl ?_
  k_steps
  with_reducible rename IsRange _ _ _ _ _ _ _ _ => hr
  with_reducible rename Fr _ _ _ _ => F24
  with_reducible rename News _ _ _ _ => N24
  refine ⟨.range rfl F24 N24 hr (small_one (by decide) (by decide) (by lia) (by lia)) (n := ys.length / 2) (by rw [rangeSize_one]; split <;> lia) (by rw [sizeLine_eq]; lia) fun g => ?_⟩
  refine rest_go (J := fun i zs => zs = rs.reverse.take i) (ys.length / 2) (fun i zs k hi hJ next => ?_) (fun zs hJ => ?_) _ 0 [] (by lia) rfl
  · intro v' I oI Cc oC Dd m₂ h tk E' hP hno hmx F25 N25 offI ne
    obtain ⟨t, rfl⟩ := hP
    k_steps
    with_reducible rename Fr _ _ _ _ => F26
    with_reducible rename News _ _ _ _ => N26
    refine LCg.CompEnd.intro F26 N26 _ (fun _ hq => hq) offI trivial (next _ ?_)
    rw [hJ]
    exact (rev_more rs (by lia)).symm
  subst hJ
  intro D5 h24 tk24 F25 N25 off5
  -- MARK10
  k_steps
  refine ⟨?_⟩
  have tk3 : StrsAre zs4 (((rs.map strOf).reverse).take (ys.length / 2)) := hze4 ▸ strs_of hzs4
  have tk4 : StrsAre (rs.reverse.take (ys.length / 2)) (((rs.map strOf).reverse).take (ys.length / 2)) := by
    rw [← List.map_reverse, ← List.map_take]
    exact strs_of fun v hv => hrs v (List.mem_reverse.mp (List.mem_of_mem_take hv))
  refine ne_strs ⟨_, (N25 _ (.tail _ (.head _))).1, rfl, _, rfl⟩ ⟨_, (N25 _ (.head _)).1, rfl, _, rfl⟩ tk3 tk4 (fun a ha => hokR a (List.mem_reverse.mp (List.mem_of_mem_take ha))) (ulaw (by decide)) ?_
  have N27 := (fun q hq => N25 q (.tail _ (.tail _ hq)) : News g0 L0 h24 ((D, W.listOf ys.toArray ys.length) :: (R, W.listOf rs.toArray cR) :: (L0 + 1 + 1, oH) :: (L0 + 1, oR) :: (30, tabObj ps) :: l0))
  clear N25 tk3 tk4 hzs4 hze4 N24 F24
  -- MARK11
  have lmark : LoopMark := trivial
  k_steps
  refine ⟨?_⟩
  with_reducible rename IsRange _ _ _ _ _ _ _ _ => hr2
  with_reducible rename Fr _ _ _ _ => F28
  with_reducible rename News _ _ _ _ => N28
  -- MARK12
  clear lmark
  refine iter_range hr2 (small_one (by decide) (by decide) (by lia) (by lia)) (n := ys.length - 2) (by rw [rangeSize_one]; split <;> lia) ?_
  intro it hI eI hit hi0
  have F29 := Fr.ext F28 eI
  have N29 := News.ext N28 eI
  have nIt : ∀ q ∈ (D, W.listOf ys.toArray ys.length) :: (R, W.listOf rs.toArray cR) :: (L0 + 1 + 1, oH) :: (L0 + 1, oR) :: (30, tabObj ps) :: l0, q.1 ≠ it := fun q hq e => by
    have z := (N28 q hq).1
    rw [e] at z
    exact nomatch z.symm.trans hi0
  -- MARK13
  refine loop_invN (fun j m₁ nw => nw = (D, W.listOf ys.toArray ys.length) :: (R, W.listOf rs.toArray cR) :: (L0 + 1 + 1, oH) :: (L0 + 1, oR) :: (30, tabObj ps) :: l0 ∧ m₁ "texts" = some (.ref D) ∧ m₁ "key" = some (.ref C))
    (Walks.range rfl it 2 1 (ys.length - 2)).bound ?_ ?_ ?_ ?_ ?_ F29 N29 ⟨rfl, rfl, rfl⟩ ?_ ?_
  · intro hm
    obtain ⟨o, _, _, e, _⟩ := F28.ns
    have z := (congrArg (Heap.get? _) (List.mem_singleton.mp hm)).trans hi0
    exact nomatch (e.symm.trans z)
  · intro b hb
    rw [List.mem_singleton.mp hb]
    cases q : Heap.get? _ it with
    | none => rfl
    | some o => have z := F28.keep _ _ q; exact nomatch z.symm.trans hi0
  · intro q hq hm; exact nIt q hq (List.mem_singleton.mp hm)
  · intro q hq hm; exact nIt q hq (List.mem_singleton.mp hm)
  · show IsRangeIter hI it _ _ _
    rw [show (2 : Int) + ((0 : Nat) : Int) * 1 = 2 by lia, show ((ys.length - 2 : Nat) : Int) - ((0 : Nat) : Int) = ((ys.length - 2 : Nat) : Int) by lia]
    exact hit
  · rintro j v m₁ nw h₁ tk₁ own hj ⟨_, t, rfl⟩ hadr hoff ⟨rfl, e1, e2⟩ F₂ N₂
    rw [show (2 : Int) + (j : Int) * 1 = ((j + 2 : Nat) : Int) by lia, ← pin (m := m₁) (ks := [("texts", .ref D), ("key", .ref C)]) (by
      intro q hq; simp only [List.mem_cons, List.not_mem_nil, or_false] at hq; rcases hq with rfl | rfl <;> assumption)] at F₂
    clear e1 e2 F28 F29 N28 N29
    have lmark : LoopMark := trivial
    -- MARK14
    k_steps
    all_goals try refine ⟨?_⟩
    clear lmark
    with_reducible rename Fr _ _ _ _ => F30
    with_reducible rename News _ _ _ _ => N30
    have el : ∀ i, i < ys.length → ∃ a t, ys.getD i .none = Value.str a t ∧ a.cps.size ≤ 100 := fun i hi => by
      rw [gD_lt hi]
      obtain ⟨a, t, e, z, _⟩ := hstr _ (List.getElem_mem hi)
      exact ⟨a, t, e, z⟩
    obtain ⟨a1, t1, q1, z1⟩ := el ((j + 2 : Nat) : Int).toNat (by lia)
    obtain ⟨a2, t2, q2, z2⟩ := el (((j + 2 : Nat) : Int) - 1).toNat (by lia)
    obtain ⟨a3, t3, q3, z3⟩ := el (((j + 2 : Nat) : Int) - 2).toNat (by lia)
    rw [q1, q2, q3] at F30
    have N31 := News.sub N30 (n' := (D, W.listOf ys.toArray ys.length) :: (R, W.listOf rs.toArray cR) :: (L0 + 1 + 1, oH) :: (L0 + 1, oR) :: (30, tabObj ps) :: l0 ++ own) fun q hq => .tail _ hq
    clear N30 q1 q2 q3
    refine if_false ?_ ?_
    · k_steps
      refine ⟨?_⟩
      refine strcoll_ok (X0.keeps F30.keep) (Me.start _) (dlaw (by decide)) (ulaw (by decide)) ?_
      intro f o k' h' tk' Dm
      have F31 := Fr.ext F30 Dm.keep
      have N32 := News.ext N31 Dm.keep
      clear F30 N31
      -- MARK15
      k_steps
      · refine ⟨?_⟩
        refine strcoll_ok (X0.keeps F31.keep) (Me.start _) (dlaw (by decide)) (ulaw (by decide)) ?_
        intro f2 o2 k2 h2 tk2 Dm2
        have F32 := Fr.ext F31 Dm2.keep
        have N33 := News.ext N32 Dm2.keep
        clear F31 N32
        k_steps
        · refine ⟨?_⟩
          refine strcoll_ok (X0.keeps F32.keep) (Me.start _) (dlaw (by decide)) (ulaw (by decide)) ?_
          intro f3 o3 k3 h3 tk3 Dm3
          have F33 := Fr.ext F32 Dm3.keep
          have N34 := News.ext N33 Dm3.keep
          clear F32 N33
          k_steps
          · exact absurd (by assumption) (coll_tr (a := a1) (b := a2) (c := a3) (by assumption) (by assumption))
          · exact ⟨rfl, _, _, rfl, (Ext.trans Dm.keep Dm2.keep).trans Dm3.keep⟩
        · exact ⟨rfl, _, _, rfl, Ext.trans Dm.keep Dm2.keep⟩
      · exact ⟨rfl, _, _, rfl, Dm.keep⟩
    · intro h' tk' eH
      have F31 := Fr.ext F30 eH
      have N32 := News.ext N31 eH
      clear F30 N31
      have lmark : LoopMark := trivial
      -- MARK16
      k_steps
      all_goals try refine ⟨?_⟩
      clear lmark
      refine if_false ?_ ?_
      · k_steps
        refine ⟨?_⟩
        refine strcoll_ok (X0.keeps F31.keep) (Me.start _) (dlaw (by decide)) (ulaw (by decide)) ?_
        intro f o k' h2 tk2 Dm
        have F32 := Fr.ext F31 Dm.keep
        have N33 := News.ext N32 Dm.keep
        clear F31 N32
        k_steps
        · exact (coll_isnt (by assumption)).elim
        refine ⟨?_⟩
        refine strcoll_ok (X0.keeps F32.keep) (Me.start _) (dlaw (by decide)) (ulaw (by decide)) ?_
        intro f2 o2 k2 h3 tk3 Dm2
        have F33 := Fr.ext F32 Dm2.keep
        have N34 := News.ext N33 Dm2.keep
        clear F32 N33
        k_steps
        refine ⟨?_⟩
        refine strcoll_ok (X0.keeps F33.keep) (Me.start _) (dlaw (by decide)) (ulaw (by decide)) ?_
        intro f3 o3 k3 h4 tk4 Dm3
        have F34 := Fr.ext F33 Dm3.keep
        have N35 := News.ext N34 Dm3.keep
        clear F33 N34
        k_steps
        · exact absurd (coll_sum a1 a2) (by assumption)
        · exact ⟨rfl, _, _, rfl, (Ext.trans Dm.keep Dm2.keep).trans Dm3.keep⟩
      · intro h2 tk2 eH2
        have F32 := Fr.ext F31 eH2
        have N33 := News.ext N32 eH2
        clear F31 N32
        have lmark : LoopMark := trivial
        k_steps
        all_goals try refine ⟨?_⟩
        clear lmark
        refine if_false ?_ ?_
        · k_steps
          refine callWith_K (nd := nd0) (bt := bt0) (t := t0) (u2 := u0) ?_
          k_steps
          · exact (N33 _ (.tail _ (.tail _ (.tail _ (.tail _ (.tail _ (List.mem_append_left _ hCn))))))).1
          refine ⟨?_⟩
          have H6 : Has w l0 _ := .of F32 X0 N33 fun q hq => .tail _ (.tail _ (.tail _ (.tail _ (.tail _ (List.mem_append_left _ hq)))))
          refine k_new (KAt.of hK (fun q hq => hq) H6) (Me.start _) (dlaw (by decide)) (ulaw (by decide)) ?_
          intro x1 dx1 f1 of1 h7 tk7 Dm
          have N9 := news_me F32 N33 Dm
          have F9 := Fr.ext F32 Dm.keep
          simp only [List.cons_append, List.nil_append] at N9
          clear F32 N33 H6
          -- MARK17
          k_steps
          refine callWith_K (nd := nd0) (bt := bt0) (t := t0) (u2 := u0) ?_
          k_steps
          · exact (N9 _ (List.mem_of_mem_drop (i := 8) (by exact List.mem_append_left _ hCn))).1
          refine ⟨?_⟩
          have H7 : Has w l0 _ := .of F9 X0 N9 fun q hq => List.mem_of_mem_drop (i := 8) (by exact List.mem_append_left _ hq)
          refine k_new (KAt.of hK (fun q hq => hq) H7) (Me.start _) (dlaw (by decide)) (ulaw (by decide)) ?_
          intro x2 dx2 f2 of2 h8 tk8 Dm2
          have N10 := news_me F9 N9 Dm2
          have F10 := Fr.ext F9 Dm2.keep
          simp only [List.cons_append, List.nil_append] at N10
          clear F9 N9 H7
          -- MARK18
          k_steps
          have H8 : Has w l0 _ := .of F10 X0 N10 fun q hq => List.mem_of_mem_drop (i := 11) (by exact List.mem_append_left _ hq)
          refine kcmp_lt (KAt.of hK (fun q hq => hq) H8) (N10 _ (.tail _ (.tail _ (.tail _ (.tail _ (.head _)))))).1 (N10 _ (.tail _ (.head _))).1 (dlaw (by decide)) (ulaw (by decide)) ?_
          intro h11 tk11 e11
          have F11 := Fr.ext F10 e11
          have N11 := News.ext N10 e11
          clear F10 N10 H8
          rw [collI_lt]
          -- MARK19
          k_steps
          refine ⟨?_⟩
          refine lawnum_ok (X0.keeps F11.keep) (T0.keeps F11.keep) z1 (by decide +kernel) (by decide +kernel) ?_
          intro l1 us1 h12 tk12 Dm3 i1
          have N12 := news_me F11 N11 Dm3
          have F12 := Fr.ext F11 Dm3.keep
          simp only [List.cons_append, List.nil_append] at N12
          clear F11 N11
          k_steps
          refine ⟨?_⟩
          refine lawnum_ok (X0.keeps F12.keep) (T0.keeps F12.keep) z2 (by decide +kernel) (by decide +kernel) ?_
          intro l2 us2 h13' tk13' Dm4 i2
          have N13' := news_me F12 N12 Dm4
          have F13' := Fr.ext F12 Dm4.keep
          simp only [List.cons_append, List.nil_append] at N13'
          clear F12 N12
          -- MARK20
          k_steps
          refine list_lt_at i1 i2 (N13' _ (.tail _ (.head _))).1 (N13' _ (.head _)).1 (ulaw (k := 1) (by decide)) ?_
          k_steps
          exact ⟨bne_self_eq_false _, _, _, rfl, ((((Ext.trans Dm.keep Dm2.keep).trans e11).trans Dm3.keep).trans Dm4.keep)⟩
        · intro h3 tk3 eH3
          have F33 := Fr.ext F32 eH3
          have N34 := News.ext N33 eH3
          clear F32 N33
          k_steps
          refine ⟨_, _, _, _, (D, W.listOf ys.toArray ys.length) :: (R, W.listOf rs.toArray cR) :: (L0 + 1 + 1, oH) :: (L0 + 1, oR) :: (30, tabObj ps) :: l0, rfl, by assumption, by assumption, fun q hq => List.mem_append_left _ hq, fun q hq => List.mem_append_right _ hq, rfl, rfl, rfl, rfl⟩
  · rintro m₁ nw h₁ tk₁ ⟨rfl, e1, e2⟩ F₂ N₂
    clear F28 F29 N28 N29
    k_steps
end Mine
end
end
theorem PySem.Challenge.cw_xh0039_01_holds : PySem.Challenge.rw_xh0039_01.Holds :=
  Mine.law_holds
